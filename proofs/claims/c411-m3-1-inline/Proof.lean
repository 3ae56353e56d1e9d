import JvmDerived
import JvmDerived.Pilot.@@N@@Statement
import JvmDerived.Pilot.@@N@@Code
set_option linter.unusedVariables false
set_option linter.unusedSimpArgs false
namespace Jvm.RoadKit
open Sem ClassFile Op Lib Jvm.Stand Jvm.Free Jvm.LawKit
section Own
variable {p : Program} {l : Launch} {e : Env} {R : Room} {s : State} {m : MethodId} {args : Array Value} {below : List Frame} {meth : Method} {c : Code} {T : State} {locs : List Loc} {cells slots : Nat}
theorem retI (X : Stand p l e R s m args below meth c T locs cells slots) (hx : p.tables.exec = Jvm.exec) {pc : Nat} {Ls : Array Slot} {z : Int32} {rest : List Value} (hret : meth.sig.returnType = some .int) (hd : decode c.code pc = .ok (.ireturn, 1)) {fs : List Frame}
    (hl : ∀ (f : JFrame) (acts : List Action), f.method = m → f.locked = none → f.entered = [] → (doReturn e (T.setTop f) acts (some (.int z))).1 = T.setFrames fs) : Steps p.tables e below (T.setTop (mkF m pc Ls (.int z :: rest))) (T.setFrames fs) := by
  have hm' : T.vm.method? m = some meth := X.method'
  have hn : narrow .int (.int z) = .int z := rfl
  show Steps p.tables e below (T.setTop { method := m, pc := pc, locals := Ls, stack := _ :: rest, locked := none }) _
  jvm_step X.here [X.here.top, hx, hd, hm', hret, hn]
  first | (intro acts; rw [hl _ acts rfl rfl rfl]) | rw [hl _ _ rfl rfl rfl]
  exact Steps.refl _
/-- the walk from S ends as K says -/
def Way (tb : Tables) (e : Env) (below : List Frame) (K : Outcome → State → Prop) (S : State) : Prop := ∃ s₂ o, Steps tb e below S s₂ ∧ s₂.status = .running ∧ Ended s₂ below o ∧ K o s₂
theorem Way.by {tb : Tables} {K : Outcome → State → Prop} {A B : State} (st : ∀ t, Steps tb e below B t → Steps tb e below A t) (h : Way tb e below K B) : Way tb e below K A := by
  obtain ⟨s₂, o, h1, h2⟩ := h; exact ⟨s₂, o, st _ h1, h2⟩
theorem Way.to {tb : Tables} {K : Outcome → State → Prop} {A B : State} (st : Steps tb e below A B) (h : Way tb e below K B) : Way tb e below K A := by
  obtain ⟨s₂, o, h1, h2⟩ := h; exact ⟨s₂, o, st.trans h1, h2⟩
abbrev KQ (s : State) (Q : Option Value → Heap → List Loc → Prop) (C S : Nat) : Outcome → State → Prop := fun o s₂ => ∃ v L, o = .returned v ∧ Q v s₂.heap L ∧ FrameEnd s o s₂ L C S
theorem Way.ret {Q : Option Value → Heap → List Loc → Prop} {C S : Nat} {A : State} {v : Option Value} (X : Stand p l e R s m args below meth c T locs cells slots) (hlk : meth.locks = false) (hv : meth.sig.returnType = none → v = none)
    (hret : ∀ fs, (∀ (f : JFrame) (acts : List Action), f.method = m → f.locked = none → f.entered = [] → (doReturn e (T.setTop f) acts v).1 = T.setFrames fs) → Steps p.tables e below A (T.setFrames fs))
    (hQ : Q v T.heap locs) (hc : cells ≤ C) (hs : slots ≤ S) : Way p.tables e below (KQ s Q C S) A := by
  obtain ⟨fs, hr, hrun, hended, hW, hsame⟩ := X.leave hv hlk
  exact ⟨_, _, hret fs hr, hrun, hended, _, _, rfl, hQ, ⟨_, rfl⟩, hW, hsame.mono hc hs⟩
abbrev KQW (s : State) (Q : Option Value → Heap → List Loc → Prop) (C S : Nat) : Outcome → State → Prop := fun o s₂ => ∃ v L, o = .returned v ∧ Q v s₂.heap L ∧ ReturnedEndW s o s₂ L C S
theorem Way.retW {Q : Option Value → Heap → List Loc → Prop} {C S : Nat} {A : State} {v : Option Value} {vm1 : Vm} {n : Nat} (X : Stand p l e R (s.setVm vm1) m args below meth c T locs cells slots) (hS : s.Since vm1 n) (hn : n ≤ T.heap.size) (hlk : meth.locks = false) (hv : meth.sig.returnType = none → v = none)
    (hret : ∀ fs, (∀ (f : JFrame) (acts : List Action), f.method = m → f.locked = none → f.entered = [] → (doReturn e (T.setTop f) acts v).1 = T.setFrames fs) → Steps p.tables e below A (T.setFrames fs))
    (hQ : Q v T.heap locs) (hc : cells ≤ C) (hs : slots ≤ S) : Way p.tables e below (KQW s Q C S) A := by
  obtain ⟨fs, hr, hrun, hended, h1, h2, h3, h4⟩ := X.leaveW hS hn hv hlk
  exact ⟨_, _, hret fs hr, hrun, hended, _, _, rfl, hQ, h1, h2, h3, h4.mono hc hs⟩
abbrev KQH (s Z : State) (EL : List (String × Nat)) (Q : Option Value → Heap → List Loc → Prop) (C S : Nat) : Outcome → State → Prop := fun o s₂ => ∃ v L, o = .returned v ∧ Q v s₂.heap L ∧ CHr Z EL s.vm s.heap s₂.vm s₂.heap ∧ ReturnedEndW s o s₂ L C S
theorem Way.retH {Z : State} {a0 : Array Value} {EL : List (String × Nat)} {Q : Option Value → Heap → List Loc → Prop} {C S : Nat} {A : State} {v : Option Value} {vm1 : Vm} {n : Nat} {h h0 : Heap} (X : Stand p l e R (s.setVm vm1) m args below meth c T locs cells slots) (hS : s.Since vm1 n) (hn : n ≤ T.heap.size) (hZ : Z.Warmed39 vm1) (hEL : EW Z a0 EL) (hh : s.heap = h0) (eT : T.heap = h) (H : CHv Z EL vm1 h) (CH : CHr Z EL s.vm h0 vm1 h) (hlk : meth.locks = false) (hv : meth.sig.returnType = none → v = none)
    (hret : ∀ fs, (∀ (f : JFrame) (acts : List Action), f.method = m → f.locked = none → f.entered = [] → (doReturn e (T.setTop f) acts v).1 = T.setFrames fs) → Steps p.tables e below A (T.setFrames fs))
    (hQ : Q v T.heap locs) (hc : cells ≤ C) (hs : slots ≤ S) : Way p.tables e below (KQH s Z EL Q C S) A := by
  obtain ⟨fs, hr, hrun, hended, h1, h2, h3, h4⟩ := X.leaveW hS hn hv hlk
  refine ⟨_, _, hret fs hr, hrun, hended, _, _, rfl, hQ, ?_, h1, h2, h3, h4.mono hc hs⟩
  have B := CHv.at X hZ hEL H
  show CHr Z EL s.vm s.heap T.vm T.heap
  rw [hh, eT]; exact CH.trans B
theorem fldStart {Z : State} {args : Array Value} {t : Term} {a : Addr} {C n d : String} {k : Int32} (ev : t.eval args Z none [] Z = some (.ref a)) (h : (Cond.eq (.field t C n d) (.int k)).value args Z none Z [] = some true) : Fld Z Z.heap a C n d (.int k) := by
  refine Fld.start ?_
  have e1 : (Term.field t C n d).eval args Z none [] Z = Z.fieldOf? a C n d := fld_at ev
  simp only [Cond.value] at h
  rw [e1, show (Term.int k).eval args Z none [] Z = some (.int k) from rfl] at h
  cases hf : Z.fieldOf? a C n d with
  | none => simp [hf] at h
  | some w => cases w <;> simp [hf] at h ⊢; exact h
theorem envNe {Z : State} {args : Array Value} {t : Term} {v : Int32} (ev : t.eval args Z none [] Z = some (.int v)) (h : (Cond.not (.eq t (.int 0))).before args Z = true) : v ≠ 0 := by
  have h2 := Cond.before_iff.mp h
  intro q; subst q
  simp only [Cond.value] at h2
  rw [ev] at h2
  simp [Term.eval] at h2
theorem envRef {Z : State} {args : Array Value} {t : Term} (h : (Cond.isRef t).before args Z = true) : ∃ G, t.eval args Z none [] Z = some G ∧ G.isRef = true := by
  have h2 := Cond.before_iff.mp h
  cases ht : t.eval args Z none [] Z with
  | none => simp [Cond.value, ht] at h2
  | some w => exact ⟨w, rfl, by cases w <;> simp [Cond.value, ht] at h2 <;> rfl⟩
theorem own_getD {α : Type} {u : List α} {i : Nat} (d : α) (h : i < u.length) : u.getD i d = u[i] := by rw [List.getD_eq_getElem?_getD, List.getElem?_eq_getElem h]; rfl
theorem hpE {T : State} {h : Heap} {a : Addr} {c : Cell} (e : T.heap = h) (A : h[a]? = some c) : T.heap[a]? = some c := by rw [e]; exact A
theorem remB (x d : Int32) (D : Int) (hd : d.toInt = D) (h0 : 0 < D) : 0 ≤ ((x &&& 2147483647) % d).toInt ∧ ((x &&& 2147483647) % d).toInt < D := by
  have h1 := c_and x 2147483647 (by decide)
  rw [(c_irem (x &&& 2147483647) d D hd).1 h1.1]
  exact ⟨Int.emod_nonneg _ (by omega), Int.emod_lt_of_pos _ h0⟩
theorem cases3 {k : Int32} (h : 0 ≤ k.toInt ∧ k.toInt < 3) : k = 0 ∨ k = 1 ∨ k = 2 := by
  have q : k.toInt = 0 ∨ k.toInt = 1 ∨ k.toInt = 2 := by omega
  rcases q with q | q | q
  · exact Or.inl (Int32.toInt_inj.mp q)
  · exact Or.inr (Or.inl (Int32.toInt_inj.mp q))
  · exact Or.inr (Or.inr (Int32.toInt_inj.mp q))
theorem cases5 {k : Int32} (h : 0 ≤ k.toInt ∧ k.toInt < 5) : k = 0 ∨ k = 1 ∨ k = 2 ∨ k = 3 ∨ k = 4 := by
  have q : k.toInt = 0 ∨ k.toInt = 1 ∨ k.toInt = 2 ∨ k.toInt = 3 ∨ k.toInt = 4 := by omega
  rcases q with q | q | q | q | q
  · exact Or.inl (Int32.toInt_inj.mp q)
  · exact Or.inr (Or.inl (Int32.toInt_inj.mp q))
  · exact Or.inr (Or.inr (Or.inl (Int32.toInt_inj.mp q)))
  · exact Or.inr (Or.inr (Or.inr (Or.inl (Int32.toInt_inj.mp q))))
  · exact Or.inr (Or.inr (Or.inr (Or.inr (Int32.toInt_inj.mp q))))
theorem nfSel {s : State} {args : Array Value} {C : String} {y z : MethodName} (hyz : z.cls = y.cls) (hsel : (Cond.selects C z z).before args s = true) : NotFace s y := fun r0 h0 => by
  obtain ⟨c, r, m, -, -, hn, -, mk, hk, hni⟩ := Cond.selects_spec hsel
  have e1 := findClass_of_methodNamed h0
  have e2 := findClass_of_methodNamed hn
  rw [hyz, e1] at e2
  refine ⟨mk, ?_, hni⟩
  first | (rw [Option.some.inj e2]; exact hk) | (rw [← Option.some.inj e2]; exact hk)
theorem sameOwn {s : State} {args : Array Value} {C : String} {y z : MethodName} (hyz : z.cls = y.cls) (hsel : (Cond.selects C z z).before args s = true) (hinst : (Cond.instanceMethod y).before args s = true) (hy : y.cls ≠ "java/lang/invoke/MethodHandle" ∧ y.cls ≠ "java/lang/invoke/VarHandle") : (Cond.sameMethod y.cls y.cls y.name y.desc).before args s = true := by
  obtain ⟨mk, methM, hnamed, -⟩ := Cond.instanceMethod_spec hinst
  obtain ⟨kr, hk, hni⟩ := nfSel hyz hsel mk hnamed
  have hf := State.methodFound?_of_named hnamed hy
  have hc := findClass_of_methodNamed hnamed
  have hn2 : s.methodNamed? ⟨y.cls, y.name, y.desc⟩ = some mk := hnamed
  simp [Cond.before, Cond.holds, Cond.value, hc, hf, hn2, hk, hni]
theorem selPriv {s : State} {args : Array Value} {C : String} {y z : MethodName} (hyz : z.cls = y.cls) (hsel : (Cond.selects C z z).before args s = true) (hpriv : s.PrivateAt y) (hinst : (Cond.instanceMethod y).before args s = true) (hy : y.cls ≠ "java/lang/invoke/MethodHandle" ∧ y.cls ≠ "java/lang/invoke/VarHandle") : (Cond.selects y.cls y y).before args s = true := by
  obtain ⟨c, r, m, -, -, hn, -, mk, hk, hni⟩ := Cond.selects_spec hsel
  exact selects_self_of_private (by rw [← hyz]; exact findClass_of_methodNamed hn) hk hni hpriv hinst hy
theorem arrS {Z s : State} {h : Heap} {a : Addr} {cl : Cell} {ty : FieldType} (hZ : Z.Warmed39 s.vm) (A : Arr Z h a cl ty) : s.isArrayOf cl ty := State.isArrayOf_alike hZ.alike A.2.1
theorem evInt {Z : State} {args : Array Value} {t : Term} {k : Int32} (h : (Cond.eq t (.int k)).value args Z none Z [] = some true) : t.eval args Z none [] Z = some (.int k) := by
  cases ht : t.eval args Z none [] Z with
  | none => simp [Cond.value, ht] at h
  | some w => cases w <;> simp [Cond.value, ht, Term.eval] at h ⊢; exact h
theorem evRef {Z : State} {args : Array Value} {t u : Term} {a : Addr} (h : (Cond.eq t u).value args Z none Z [] = some true) (hu : u.eval args Z none [] Z = some (.ref a)) : t.eval args Z none [] Z = some (.ref a) := by
  cases ht : t.eval args Z none [] Z with
  | none => simp [Cond.value, ht] at h
  | some w => cases w <;> simp [Cond.value, ht, hu] at h ⊢; exact h
end Own
end Jvm.RoadKit
/- laws to paste: Road.backV, Road.lenW, Road.chN, Road.codOf (cut by pick.py; bodies as the Statement names them) -/
namespace Jvm.Pilot.@@N@@
namespace StrChars
open Jvm Sem ClassFile Op Lib Jvm.Stand Jvm.Free.XT Jvm.Free.ALB Jvm.Free.JM Jvm.Free
open Jvm.Lib.Cold (StaticIs)
/-- a char array whose places are chars -/
def Ch (a : Addr) (A : Cell) (U : State) : Prop := Arr .char a A U ∧ Typed .char A
theorem Ch.mv {a : Addr} {A : Cell} {U U' : State} (h : Ch a A U) (hal : U.vm.Alike U'.vm) (hh : U'.heap = U.heap) : Ch a A U' := ⟨h.1.mv hal hh, h.2⟩
theorem Ch.keep {a : Addr} {A : Cell} {U U' : State} (h : Ch a A U) (hal : U.vm.Alike U'.vm) (hk : U'.heap[a]? = some A) : Ch a A U' := ⟨h.1.keep hal hk, h.2⟩
/-- what place i of a char[]'s cell holds -/
def cv (A : Cell) (i : Nat) : Int32 := match A.slots[i]? with | some (.int x) => x | _ => 0
theorem Ch.get {a : Addr} {A : Cell} {U : State} (h : Ch a A U) {i : Nat} (hi : i < A.slots.size) : A.slots[i]? = some (.int (cv A i)) := by
  have e := Array.getElem?_eq_getElem hi
  have f := h.2 i _ e
  unfold cv; rw [e]
  generalize A.slots[i] = v at f
  cases v <;> simp [fits] at f ⊢
/-- the byte that i2b leaves of a char -/
def lo8 (x : Int32) : Int32 := x.toInt8.toInt32
theorem fits_lo8 (y : Int32) : fits .byte (.int (lo8 y)) = true := by
  have h1 := y.toInt8.le_toInt
  have h2 := y.toInt8.toInt_lt
  simp only [lo8, fits, Bool.and_eq_true, decide_eq_true_eq, Int32.le_iff_toInt_le, Int8.toInt_toInt32, show (-128 : Int32).toInt = -128 from by decide, show (127 : Int32).toInt = 127 from by decide]
  omega
/-- A' is A but that each place j of lo .. hi - 1 holds f j -/
def Laid (A A' : Cell) (lo hi : Nat) (f : Nat → Value) : Prop := A'.cls = A.cls ∧ A'.vm = A.vm ∧ A'.slots.size = A.slots.size ∧ ∀ i, A'.slots[i]? = if lo ≤ i ∧ i < hi then some (f i) else A.slots[i]?
theorem Laid.zero (A : Cell) (lo : Nat) (f : Nat → Value) : Laid A A lo (lo + 0) f := ⟨rfl, rfl, rfl, fun i => by rw [if_neg (by omega)]⟩
theorem Laid.step {A Ak : Cell} {lo k : Nat} {f : Nat → Value} {v : Value} (h : Laid A Ak lo k f) (hlo : lo ≤ k) (hk : k < Ak.slots.size) (hv : v = f k) : Laid A (Ak.setSlot k v) lo (k + 1) f := by
  refine ⟨h.1, h.2.1, by simpa [Cell.setSlot] using h.2.2.1, fun i => ?_⟩
  by_cases e : k = i
  · subst e; rw [Cell.slots_setSlot_self v hk, if_pos (by omega), hv]
  · rw [Cell.slots_setSlot_ne v e, h.2.2.2 i]
    by_cases q : lo ≤ i ∧ i < k
    · rw [if_pos q, if_pos (by omega)]
    · rw [if_neg q, if_neg (by omega)]
def U16 : String := "java/lang/StringUTF16"
namespace Cmp5
def yN : MethodName := ⟨"java/lang/StringUTF16", "compress", "([CI[BII)I"⟩
abbrev yB : ByteArray := jdk_52_method_21_code
theorem d0 : decode yB 0 = .ok (.iconst 0, 1) := by decide +kernel
theorem d1 : decode yB 1 = .ok (.istore 5, 2) := by decide +kernel
theorem d3 : decode yB 3 = .ok (.iload 5, 2) := by decide +kernel
theorem d5 : decode yB 5 = .ok (.iload 4, 2) := by decide +kernel
theorem d7 : decode yB 7 = .ok (.if_icmp (.ge) 37, 3) := by decide +kernel
theorem d10 : decode yB 10 = .ok (.aload_n 0, 1) := by decide +kernel
theorem d11 : decode yB 11 = .ok (.iload_n 1, 1) := by decide +kernel
theorem d12 : decode yB 12 = .ok (.caload, 1) := by decide +kernel
theorem d13 : decode yB 13 = .ok (.istore 6, 2) := by decide +kernel
theorem d15 : decode yB 15 = .ok (.iload 6, 2) := by decide +kernel
theorem d17 : decode yB 17 = .ok (.sipush 255, 3) := by decide +kernel
theorem d20 : decode yB 20 = .ok (.if_icmp (.le) 6, 3) := by decide +kernel
theorem d26 : decode yB 26 = .ok (.aload_n 2, 1) := by decide +kernel
theorem d27 : decode yB 27 = .ok (.iload_n 3, 1) := by decide +kernel
theorem d28 : decode yB 28 = .ok (.iload 6, 2) := by decide +kernel
theorem d30 : decode yB 30 = .ok (.i2b, 1) := by decide +kernel
theorem d31 : decode yB 31 = .ok (.bastore, 1) := by decide +kernel
theorem d32 : decode yB 32 = .ok (.iinc 1 1, 3) := by decide +kernel
theorem d35 : decode yB 35 = .ok (.iinc 3 1, 3) := by decide +kernel
theorem d38 : decode yB 38 = .ok (.iinc 5 1, 3) := by decide +kernel
theorem d41 : decode yB 41 = .ok (.goto (-38), 3) := by decide +kernel
theorem d44 : decode yB 44 = .ok (.iload 4, 2) := by decide +kernel
theorem d46 : decode yB 46 = .ok (.ireturn, 1) := by decide +kernel
def site : List Cond := []
def tab : Cond := tabOf yN yB 7 (some .int) site
def P (b : Addr) (A : Cell) (d : Addr) (B : Cell) (o q len : Nat) (args : Array Value) (s : State) : Prop := args = #[.ref b, .int (Int32.ofNat o), .ref d, .int (Int32.ofNat q), .int (Int32.ofNat len)] ∧ Ch b A s ∧ Arr .byte d B s ∧ b ≠ d ∧ o + len ≤ A.slots.size ∧ q + len ≤ B.slots.size ∧ ∀ i, i < len → ¬ 255 < cv A (o + i)
def E (b : Addr) (A : Cell) (d : Addr) (B : Cell) (o q len : Nat) (r : Option Value) (s u : State) : Prop := r = some (.int (Int32.ofNat len)) ∧ ∃ B', Put d B' s u ∧ Laid B B' q (q + len) (fun j => Value.int (lo8 (cv A (o + (j - q)))))
/-- no char of the range above 255: len; the places written hold each char's low byte -/
theorem law (l : Launch) (b : Addr) (A : Cell) (d : Addr) (B : Cell) (o q len : Nat) : Law l yN 5 5 0 0 yB 7 (some .int) site (P b A d B o q len) (E b A d B o q len) (copyLocs d q len) 0 0 := by
  refine Law.of_walk (plainFor_of_name (by decide +kernel)) (by decide +kernel) (by decide +kernel) (by decide) (fun _ _ h => by rw [h.1]; rfl) (fun _ U U' hal hh h => ⟨h.1, h.2.1.mv hal hh, h.2.2.1.mv hal hh, h.2.2.2⟩) (fun r U U' V V' h1 hal h2 h => ⟨h.1, h.2.elim fun B' q => ⟨B', q.1.mv h1 h2, q.2⟩⟩) ?_
  intro p e s m args below meth c s₁ X0 hexec hbytes hml hret hlk hnm hown hh0 W hP
  obtain ⟨rfl, hA, hB, hne, l1, l2, hp⟩ := hP
  have c1 : Steps p.tables e below (s₁.setTop (entryFrame m #[.ref b, .int (Int32.ofNat o), .ref d, .int (Int32.ofNat q), .int (Int32.ofNat len)] 7)) (s₁.setTop (mkF m 0 #[.val (.ref b), .val (.int (Int32.ofNat o)), .val (.ref d), .val (.int (Int32.ofNat q)), .val (.int (Int32.ofNat len)), .unset, .unset] [])) := entry rfl
  have hA0 := hA.1.mv X0.warmed.alike hh0
  have hB0 := hB.mv X0.warmed.alike hh0
  have a31 := hA.1.2.2.2
  have c2 : Steps p.tables e below (s₁.setTop (entryFrame m #[.ref b, .int (Int32.ofNat o), .ref d, .int (Int32.ofNat q), .int (Int32.ofNat len)] 7)) (s₁.setTop (mkF m 3 #[.val (.ref b), .val (.int (Int32.ofNat o)), .val (.ref d), .val (.int (Int32.ofNat q)), .val (.int (Int32.ofNat len)), .val (.int 0), .unset] [])) := c1.trans (by
    refine iconstV X0.here hexec rfl 0 (hb hbytes d0) (by decide) ?_
    refine XS.istore X0.here hexec rfl (hb hbytes d1) rfl rfl ?_
    exact Steps.refl _)
  have loop : ∀ (r i : Nat), i + r = len → ∀ (z : Slot), (z = .unset ∨ ∃ w, z = .val w ∧ w.category = 1) → ∀ (Tl : State) (Bk : Cell), Stand p l e { frames := 0, locals := 0, cells := 0, slots := 0 } s m #[.ref b, .int (Int32.ofNat o), .ref d, .int (Int32.ofNat q), .int (Int32.ofNat len)] below meth c Tl ([] ++ copyLocs d q i) 0 0 → Put d Bk s₁ Tl → Laid B Bk q (q + i) (fun j => Value.int (lo8 (cv A (o + (j - q))))) →
      Steps p.tables e below (s₁.setTop (entryFrame m #[.ref b, .int (Int32.ofNat o), .ref d, .int (Int32.ofNat q), .int (Int32.ofNat len)] 7)) (Tl.setTop (mkF m 3 #[.val (.ref b), .val (.int (Int32.ofNat (o + i))), .val (.ref d), .val (.int (Int32.ofNat (q + i))), .val (.int (Int32.ofNat len)), .val (.int (Int32.ofNat i)), z] [])) → ∃ (T' : State) (B' : Cell) (z' : Slot), Stand p l e { frames := 0, locals := 0, cells := 0, slots := 0 } s m #[.ref b, .int (Int32.ofNat o), .ref d, .int (Int32.ofNat q), .int (Int32.ofNat len)] below meth c T' ([] ++ copyLocs d q len) 0 0 ∧ Put d B' s₁ T' ∧ Laid B B' q (q + len) (fun j => Value.int (lo8 (cv A (o + (j - q))))) ∧
      Steps p.tables e below (s₁.setTop (entryFrame m #[.ref b, .int (Int32.ofNat o), .ref d, .int (Int32.ofNat q), .int (Int32.ofNat len)] 7)) (T'.setTop (mkF m 3 #[.val (.ref b), .val (.int (Int32.ofNat (o + len))), .val (.ref d), .val (.int (Int32.ofNat (q + len))), .val (.int (Int32.ofNat len)), .val (.int (Int32.ofNat len)), z'] [])) := by
    intro r
    induction r with
    | zero =>
      intro i hi z hz Tl Bk Xl pl fl cl
      have hil : i = len := by omega
      rw [hil] at Xl fl cl
      exact ⟨Tl, Bk, z, Xl, pl, fl, cl⟩
    | succ r ih =>
      intro i hi z hz Tl Bk Xl pl fl cl
      have all := X0.warmed.alike.symm.trans Xl.warmed.alike
      have hAl := hA0.keep all (pl.other hne hA0.1)
      have hBk := hB0.like all pl.1 fl.1 fl.2.1 fl.2.2.1
      have hlt : q + i < Bk.slots.size := by rw [fl.2.2.1]; omega
      have c3 : Steps p.tables e below (s₁.setTop (entryFrame m #[.ref b, .int (Int32.ofNat o), .ref d, .int (Int32.ofNat q), .int (Int32.ofNat len)] 7)) (Tl.setTop (mkF m 12 #[.val (.ref b), .val (.int (Int32.ofNat (o + i))), .val (.ref d), .val (.int (Int32.ofNat (q + i))), .val (.int (Int32.ofNat len)), .val (.int (Int32.ofNat i)), z] [.int (Int32.ofNat (o + i)), .ref b])) := cl.trans (by
        refine XS.iload Xl.here hexec rfl (hb hbytes d3) rfl ?_
        refine XS.iload Xl.here hexec rfl (hb hbytes d5) rfl ?_
        refine XS.icmpNo Xl.here hexec rfl (hb hbytes d7) rfl (ii_ge_f (lt32 (by omega) (by omega))) ?_
        refine XS.aloadN Xl.here hexec rfl (hb hbytes d10) rfl rfl ?_
        refine XS.iloadN Xl.here hexec rfl (hb hbytes d11) rfl ?_
        exact Steps.refl _)
      have c4 : Steps p.tables e below (s₁.setTop (entryFrame m #[.ref b, .int (Int32.ofNat o), .ref d, .int (Int32.ofNat q), .int (Int32.ofNat len)] 7)) (Tl.setTop (mkF m 13 #[.val (.ref b), .val (.int (Int32.ofNat (o + i))), .val (.ref d), .val (.int (Int32.ofNat (q + i))), .val (.int (Int32.ofNat len)), .val (.int (Int32.ofNat i)), z] [.int (cv A (o + i))])) := c3.trans (by
        refine Xl.aget hexec hAl rfl (hA.get (i := o + i) (by omega)) rfl rfl (hb hbytes d12) ?_
        exact Steps.refl _)
      have c5 : Steps p.tables e below (s₁.setTop (entryFrame m #[.ref b, .int (Int32.ofNat o), .ref d, .int (Int32.ofNat q), .int (Int32.ofNat len)] 7)) (Tl.setTop (mkF m 15 #[.val (.ref b), .val (.int (Int32.ofNat (o + i))), .val (.ref d), .val (.int (Int32.ofNat (q + i))), .val (.int (Int32.ofNat len)), .val (.int (Int32.ofNat i)), .val (.int (cv A (o + i)))] [])) := c4.trans (by
        refine XS.istoreS Xl.here hexec rfl (hb hbytes d13) rfl rfl hz ?_
        exact Steps.refl _)
      have c6 : Steps p.tables e below (s₁.setTop (entryFrame m #[.ref b, .int (Int32.ofNat o), .ref d, .int (Int32.ofNat q), .int (Int32.ofNat len)] 7)) (Tl.setTop (mkF m 31 #[.val (.ref b), .val (.int (Int32.ofNat (o + i))), .val (.ref d), .val (.int (Int32.ofNat (q + i))), .val (.int (Int32.ofNat len)), .val (.int (Int32.ofNat i)), .val (.int (cv A (o + i)))] [.int (lo8 (cv A (o + i))), .int (Int32.ofNat (q + i)), .ref d])) := c5.trans (by
        refine XS.iload Xl.here hexec rfl (hb hbytes d15) rfl ?_
        refine sipushV Xl.here hexec rfl 255 (hb hbytes d17) (by decide) ?_
        refine XS.icmpYes Xl.here hexec rfl (pc0 := 20) rfl (hb hbytes d20) rfl (ii_le_t (hp i (by omega))) (by decide) rfl ?_
        refine XS.aloadN Xl.here hexec rfl (hb hbytes d26) rfl rfl ?_
        refine XS.iloadN Xl.here hexec rfl (hb hbytes d27) rfl ?_
        refine XS.iload Xl.here hexec rfl (hb hbytes d28) rfl ?_
        refine i2b Xl.here hexec rfl (hb hbytes d30) rfl ?_
        exact Steps.refl _)
      obtain ⟨T7, X7, p7, st7⟩ := Xl.aput hexec hBk rfl hlt rfl (fits_lo8 (cv A (o + i))) (g := (mkF m 31 #[.val (.ref b), .val (.int (Int32.ofNat (o + i))), .val (.ref d), .val (.int (Int32.ofNat (q + i))), .val (.int (Int32.ofNat len)), .val (.int (Int32.ofNat i)), .val (.int (cv A (o + i)))] [.int (lo8 (cv A (o + i))), .int (Int32.ofNat (q + i)), .ref d])) rfl (rest := []) rfl (hb hbytes d31)
      have c8 : Steps p.tables e below (s₁.setTop (entryFrame m #[.ref b, .int (Int32.ofNat o), .ref d, .int (Int32.ofNat q), .int (Int32.ofNat len)] 7)) (T7.setTop (mkF m 32 #[.val (.ref b), .val (.int (Int32.ofNat (o + i))), .val (.ref d), .val (.int (Int32.ofNat (q + i))), .val (.int (Int32.ofNat len)), .val (.int (Int32.ofNat i)), .val (.int (cv A (o + i)))] [])) := c6.trans (st7 _ (Steps.refl _))
      have c9 : Steps p.tables e below (s₁.setTop (entryFrame m #[.ref b, .int (Int32.ofNat o), .ref d, .int (Int32.ofNat q), .int (Int32.ofNat len)] 7)) (T7.setTop (mkF m 3 #[.val (.ref b), .val (.int (Int32.ofNat (o + i) + 1)), .val (.ref d), .val (.int (Int32.ofNat (q + i) + 1)), .val (.int (Int32.ofNat len)), .val (.int (Int32.ofNat i + 1)), .val (.int (cv A (o + i)))] [])) := c8.trans (by
        refine iincV X7.here hexec rfl 1 (hb hbytes d32) (by decide) rfl rfl ?_
        refine iincV X7.here hexec rfl 1 (hb hbytes d35) (by decide) rfl rfl ?_
        refine iincV X7.here hexec rfl 1 (hb hbytes d38) (by decide) rfl rfl ?_
        refine XS.goto X7.here hexec rfl (pc0 := 41) rfl (hb hbytes d41) (by decide) rfl ?_
        exact Steps.refl _)
      have c10 : Steps p.tables e below (s₁.setTop (entryFrame m #[.ref b, .int (Int32.ofNat o), .ref d, .int (Int32.ofNat q), .int (Int32.ofNat len)] 7)) (T7.setTop (mkF m 3 #[.val (.ref b), .val (.int (Int32.ofNat (o + (i + 1)))), .val (.ref d), .val (.int (Int32.ofNat (q + (i + 1)))), .val (.int (Int32.ofNat len)), .val (.int (Int32.ofNat (i + 1))), .val (.int (cv A (o + i)))] [])) := by
        have := c9
        rw [succ32, succ32, succ32] at this
        exact this
      exact ih (i + 1) (by omega) _ (Or.inr ⟨_, rfl, rfl⟩) T7 _ (by rw [copyLocs_step, ← List.append_assoc]; exact X7) (pl.trans p7) (fl.step (by omega) hlt (by simp)) c10
  obtain ⟨T9, B9, z9, X9, p9, f9, g9⟩ := loop len 0 (by omega) .unset (Or.inl rfl) s₁ B (by simpa [copyLocs] using X0) ⟨hB0.1, fun _ _ => rfl, rfl⟩ (Laid.zero _ _ _) c2
  have c11 : Steps p.tables e below (s₁.setTop (entryFrame m #[.ref b, .int (Int32.ofNat o), .ref d, .int (Int32.ofNat q), .int (Int32.ofNat len)] 7)) (T9.setTop (mkF m 46 #[.val (.ref b), .val (.int (Int32.ofNat (o + len))), .val (.ref d), .val (.int (Int32.ofNat (q + len))), .val (.int (Int32.ofNat len)), .val (.int (Int32.ofNat len)), z9] [.int (Int32.ofNat len)])) := g9.trans (by
    refine XS.iload X9.here hexec rfl (hb hbytes d3) rfl ?_
    refine XS.iload X9.here hexec rfl (hb hbytes d5) rfl ?_
    refine XS.icmpYes X9.here hexec rfl (pc0 := 7) rfl (hb hbytes d7) rfl (ii_ge_t (nlt32 (by omega) (Nat.le_refl _))) (by decide) rfl ?_
    refine XS.iload X9.here hexec rfl (hb hbytes d44) rfl ?_
    exact Steps.refl _)
  exact ⟨T9, some (.int (Int32.ofNat len)), _, _, _, X9, by simp, rfl, rfl, (fun h => by cases h), ⟨rfl, B9, p9.from hh0, f9⟩, fun fs hl => c11.trans (X9.ireturnOut hexec hret rfl (Or.inl rfl) (hb hbytes d46) hl)⟩
end Cmp5
namespace Cmp3
def yN : MethodName := ⟨"java/lang/StringUTF16", "compress", "([CII)[B"⟩
abbrev yB : ByteArray := jdk_52_method_16_code
theorem d0 : decode yB 0 = .ok (.iload_n 2, 1) := by decide +kernel
theorem d1 : decode yB 1 = .ok (.newarray .byte, 2) := by decide +kernel
theorem d3 : decode yB 3 = .ok (.astore_n 3, 1) := by decide +kernel
theorem d4 : decode yB 4 = .ok (.aload_n 0, 1) := by decide +kernel
theorem d5 : decode yB 5 = .ok (.iload_n 1, 1) := by decide +kernel
theorem d6 : decode yB 6 = .ok (.aload_n 3, 1) := by decide +kernel
theorem d7 : decode yB 7 = .ok (.iconst 0, 1) := by decide +kernel
theorem d8 : decode yB 8 = .ok (.iload_n 2, 1) := by decide +kernel
theorem d9 : decode yB 9 = .ok (.invokestatic 115, 3) := by decide +kernel
theorem d12 : decode yB 12 = .ok (.istore 4, 2) := by decide +kernel
theorem d14 : decode yB 14 = .ok (.iload 4, 2) := by decide +kernel
theorem d16 : decode yB 16 = .ok (.iload_n 2, 1) := by decide +kernel
theorem d17 : decode yB 17 = .ok (.if_icmp (.eq) 40, 3) := by decide +kernel
theorem d57 : decode yB 57 = .ok (.aload_n 3, 1) := by decide +kernel
theorem d58 : decode yB 58 = .ok (.areturn, 1) := by decide +kernel
def site : List Cond := [.arrayClass .byte, Cmp5.tab] ++ staticW U16 115 Cmp5.yN
def tab : Cond := tabOf yN yB 6 (some (.array .byte)) site
def P (b : Addr) (A : Cell) (o len : Nat) (args : Array Value) (s : State) : Prop := args = #[.ref b, .int (Int32.ofNat o), .int (Int32.ofNat len)] ∧ Ch b A s ∧ o + len ≤ A.slots.size ∧ len ≤ 536870912 ∧ ∀ i, i < len → ¬ 255 < cv A (o + i)
def E (b : Addr) (A : Cell) (o len : Nat) (r : Option Value) (s u : State) : Prop := NewArr .byte "[B" len (fun j => .int (lo8 (cv A (o + j)))) r s u ∧ u.heap.size = s.heap.size + 1
/-- no char of the range above 255: a new byte[] of their low bytes -/
theorem law (l : Launch) (b : Addr) (A : Cell) (o len : Nat) : Law l yN 3 3 1 18 yB 6 (some (.array .byte)) site (P b A o len) (E b A o len) [] 1 len := by
  refine Law.of_walk (plainFor_of_name (by decide +kernel)) (by decide +kernel) (by decide +kernel) (by decide) (fun _ _ h => by rw [h.1]; rfl) (fun _ U U' hal hh h => ⟨h.1, h.2.1.mv hal hh, h.2.2⟩) (fun r U U' V V' h1 hal h2 h => ⟨NewArr.mv r U U' V V' h1 hal h2 h.1, by rw [h1, h2]; exact h.2⟩) ?_
  intro p e s m args below meth c s₁ X0 hexec hbytes hml hret hlk hnm hown hh0 W hP
  obtain ⟨rfl, hA, l1, l2, hp⟩ := hP
  have a31 := hA.1.2.2.2
  have c1 : Steps p.tables e below (s₁.setTop (entryFrame m #[.ref b, .int (Int32.ofNat o), .int (Int32.ofNat len)] 6)) (s₁.setTop (mkF m 0 #[.val (.ref b), .val (.int (Int32.ofNat o)), .val (.int (Int32.ofNat len)), .unset, .unset, .unset] [])) := entry rfl
  have c2 : Steps p.tables e below (s₁.setTop (entryFrame m #[.ref b, .int (Int32.ofNat o), .int (Int32.ofNat len)] 6)) (s₁.setTop (mkF m 1 #[.val (.ref b), .val (.int (Int32.ofNat o)), .val (.int (Int32.ofNat len)), .unset, .unset, .unset] [.int (Int32.ofNat len)])) := c1.trans (by
    refine XS.iloadN X0.here hexec rfl (hb hbytes d0) rfl ?_
    exact Steps.refl _)
  obtain ⟨T3, B3, X3, ba3, bs3, bv3, bh3, bf3, st3⟩ := X0.anew hexec (atype := .byte) (wk W (.arrayClass .byte)) rfl (by show len * 1 ≤ _; omega) (by omega) (g := (mkF m 1 #[.val (.ref b), .val (.int (Int32.ofNat o)), .val (.int (Int32.ofNat len)), .unset, .unset, .unset] [.int (Int32.ofNat len)])) rfl (hb hbytes d1) (rest := []) rfl (Nat.le_refl _) (by show 0 + len ≤ len; omega)
  rw [hh0] at ba3 st3
  have kp3 : XT.Kept s T3 := (XT.Kept.of_eq hh0).push bh3
  have hA3 := hA.keep X3.warmed.alike (kp3 _ _ hA.1.1)
  have hne : b ≠ s.heap.size := hA.1.ne
  have c4 : Steps p.tables e below (s₁.setTop (entryFrame m #[.ref b, .int (Int32.ofNat o), .int (Int32.ofNat len)] 6)) (T3.setTop (mkF m 3 #[.val (.ref b), .val (.int (Int32.ofNat o)), .val (.int (Int32.ofNat len)), .unset, .unset, .unset] [.ref s.heap.size])) := c2.trans (st3 _ (Steps.refl _))
  have c5 : Steps p.tables e below (s₁.setTop (entryFrame m #[.ref b, .int (Int32.ofNat o), .int (Int32.ofNat len)] 6)) (T3.setTop (mkF m 9 #[.val (.ref b), .val (.int (Int32.ofNat o)), .val (.int (Int32.ofNat len)), .val (.ref s.heap.size), .unset, .unset] [.int (Int32.ofNat len), .int 0, .ref s.heap.size, .int (Int32.ofNat o), .ref b])) := c4.trans (by
    refine XS.astoreN X3.here hexec rfl (hb hbytes d3) rfl rfl rfl ?_
    refine XS.aloadN X3.here hexec rfl (hb hbytes d4) rfl rfl ?_
    refine XS.iloadN X3.here hexec rfl (hb hbytes d5) rfl ?_
    refine XS.aloadN X3.here hexec rfl (hb hbytes d6) rfl rfl ?_
    refine iconstV X3.here hexec rfl 0 (hb hbytes d7) (by decide) ?_
    refine XS.iloadN X3.here hexec rfl (hb hbytes d8) rfl ?_
    exact Steps.refl _)
  obtain ⟨v6, T6, X6, E6, g6⟩ := X3.callS hexec (Cmp5.law l b A s.heap.size B3 o 0 len) hown (wks W (staticW U16 115 Cmp5.yN)) (wk W Cmp5.tab) (W := 0) (Nat.le_of_ble_eq_true rfl) (Nat.le_of_ble_eq_true rfl) (Nat.le_refl _) (by show 0 + len + 0 ≤ len; omega) (g := (mkF m 9 #[.val (.ref b), .val (.int (Int32.ofNat o)), .val (.int (Int32.ofNat len)), .val (.ref s.heap.size), .unset, .unset] [.int (Int32.ofNat len), .int (Int32.ofNat 0), .ref s.heap.size, .int (Int32.ofNat o), .ref b])) rfl (by rw [hml]; rfl) c5 (argsL := [.ref b, .int (Int32.ofNat o), .ref s.heap.size, .int (Int32.ofNat 0), .int (Int32.ofNat len)]) (rest := []) rfl rfl (by show 2 * 0 + 0 ≤ _; decide) (hb hbytes d9) (⟨rfl, hA3, ba3, hne, l1, by rw [bs3]; simp, hp⟩)
  obtain ⟨rfl, B6, p6, f6⟩ := E6
  have c7 : Steps p.tables e below (s₁.setTop (entryFrame m #[.ref b, .int (Int32.ofNat o), .int (Int32.ofNat len)] 6)) (T6.setTop (mkF m 12 #[.val (.ref b), .val (.int (Int32.ofNat o)), .val (.int (Int32.ofNat len)), .val (.ref s.heap.size), .unset, .unset] [.int (Int32.ofNat len)])) := g6
  have c8 : Steps p.tables e below (s₁.setTop (entryFrame m #[.ref b, .int (Int32.ofNat o), .int (Int32.ofNat len)] 6)) (T6.setTop (mkF m 58 #[.val (.ref b), .val (.int (Int32.ofNat o)), .val (.int (Int32.ofNat len)), .val (.ref s.heap.size), .val (.int (Int32.ofNat len)), .unset] [.ref s.heap.size])) := c7.trans (by
    refine XS.istore X6.here hexec rfl (hb hbytes d12) rfl rfl ?_
    refine XS.iload X6.here hexec rfl (hb hbytes d14) rfl ?_
    refine XS.iloadN X6.here hexec rfl (hb hbytes d16) rfl ?_
    refine XS.icmpYes X6.here hexec rfl (pc0 := 17) rfl (hb hbytes d17) rfl (ii_eq_t rfl) (by decide) rfl ?_
    refine XS.aloadN X6.here hexec rfl (hb hbytes d57) rfl rfl ?_
    exact Steps.refl _)
  have X8 := X6.wide (L' := []) (cells' := 1) (slots' := len) (fun x hx hlt => by
    simp only [List.nil_append, copyLocs, List.mem_map, List.mem_range] at hx
    obtain ⟨i, -, rfl⟩ := hx
    exact absurd hlt (Nat.lt_irrefl _)) (Nat.le_refl _) (by omega)
  exact ⟨T6, some (.ref s.heap.size), _, _, _, X8, rfl, rfl, rfl, (fun h => by cases h), ⟨⟨rfl, B6, ba3.like (X3.warmed.alike.symm.trans X6.warmed.alike) p6.1 f6.1 f6.2.1 f6.2.2.1, f6.2.1.trans bv3, by rw [X6.warmed.alike.findClass, f6.1]; exact bf3, by rw [f6.2.2.1, bs3]; simp, fun j hj => by rw [f6.2.2.2 j, if_pos (by omega)]; rfl, kp3.put p6 (Nat.le_refl _)⟩, by rw [p6.2.2, bh3, hh0]; simp⟩, fun fs hl => c8.trans (X8.areturnOut hexec rfl hret rfl (hb hbytes d58) hl)⟩
end Cmp3
namespace CodL
def yN : MethodName := ⟨"java/lang/StringUTF16", "coderFromArrayLen", "([BI)B"⟩
abbrev yB : ByteArray := jdk_52_method_15_code
theorem d0 : decode yB 0 = .ok (.iload_n 1, 1) := by decide +kernel
theorem d1 : decode yB 1 = .ok (.aload_n 0, 1) := by decide +kernel
theorem d2 : decode yB 2 = .ok (.arraylength, 1) := by decide +kernel
theorem d3 : decode yB 3 = .ok (.isub, 1) := by decide +kernel
theorem d4 : decode yB 4 = .ok (.bipush 31, 2) := by decide +kernel
theorem d6 : decode yB 6 = .ok (.iushr, 1) := by decide +kernel
theorem d7 : decode yB 7 = .ok (.i2b, 1) := by decide +kernel
theorem d8 : decode yB 8 = .ok (.ireturn, 1) := by decide +kernel
def site : List Cond := []
def tab : Cond := tabOf yN yB 2 (some .byte) site
def P (d : Addr) (B : Cell) (args : Array Value) (s : State) : Prop := args = #[.ref d, .int (Int32.ofNat B.slots.size)] ∧ Arr .byte d B s
def E (r : Option Value) (s u : State) : Prop := XT.PureE (some (.int 0)) r s u
/-- an array as long as the number of chars: LATIN1 -/
theorem law (l : Launch) (d : Addr) (B : Cell) : Law l yN 2 2 0 0 yB 2 (some .byte) site (P d B) E [] 0 0 := by
  refine Law.of_walk (plainFor_of_name (by decide +kernel)) (by decide +kernel) (by decide +kernel) (by decide) (fun _ _ h => by rw [h.1]; rfl) (fun _ U U' hal hh h => ⟨h.1, h.2.mv hal hh⟩) (fun r U U' V V' h1 hal h2 h => XT.PureE.mv r U U' V V' h1 hal h2 h) ?_
  intro p e s m args below meth c s₁ X0 hexec hbytes hml hret hlk hnm hown hh0 W hP
  obtain ⟨rfl, hB⟩ := hP
  have hB0 := hB.mv X0.warmed.alike hh0
  have c1 : Steps p.tables e below (s₁.setTop (entryFrame m #[.ref d, .int (Int32.ofNat B.slots.size)] 2)) (s₁.setTop (mkF m 0 #[.val (.ref d), .val (.int (Int32.ofNat B.slots.size))] [])) := entry rfl
  have c2 : Steps p.tables e below (s₁.setTop (entryFrame m #[.ref d, .int (Int32.ofNat B.slots.size)] 2)) (s₁.setTop (mkF m 2 #[.val (.ref d), .val (.int (Int32.ofNat B.slots.size))] [.ref d, .int (Int32.ofNat B.slots.size)])) := c1.trans (by
    refine XS.iloadN X0.here hexec rfl (hb hbytes d0) rfl ?_
    refine XS.aloadN X0.here hexec rfl (hb hbytes d1) rfl rfl ?_
    exact Steps.refl _)
  have c3 : Steps p.tables e below (s₁.setTop (entryFrame m #[.ref d, .int (Int32.ofNat B.slots.size)] 2)) (s₁.setTop (mkF m 8 #[.val (.ref d), .val (.int (Int32.ofNat B.slots.size))] [.int (lo8 (ushr (Int32.ofNat B.slots.size - Int32.ofNat B.slots.size) 31))])) := c2.trans (by
    refine X0.alen hexec hB0 rfl rfl (hb hbytes d2) ?_
    refine XS.isub X0.here hexec rfl (hb hbytes d3) rfl ?_
    refine bipushV X0.here hexec rfl 31 (hb hbytes d4) (by decide) ?_
    refine iushr X0.here hexec rfl (hb hbytes d6) rfl ?_
    refine i2b X0.here hexec rfl (hb hbytes d7) rfl ?_
    exact Steps.refl _)
  have e0 : lo8 (ushr (Int32.ofNat B.slots.size - Int32.ofNat B.slots.size) 31) = 0 := by rw [Int32.sub_self]; decide
  rw [e0] at c3
  exact ⟨s₁, some (.int 0), _, _, _, X0, rfl, rfl, rfl, (fun h => by cases h), ⟨rfl, hh0⟩, fun fs hl => c3.trans (X0.ireturnOut hexec hret rfl (Or.inr (Or.inr (Or.inl rfl))) (hb hbytes d8) hl)⟩
end CodL
/-- the String at a is Latin-1 over a new byte[] (the heap's one new cell): the low bytes of the len chars of A from o on; every cell but a is kept -/
def Got (a : Addr) (D : Cell) (fV fC : Field) (A : Cell) (o len : Nat) (r : Option Value) (s u : State) : Prop := r = none ∧ ∃ D' V : Cell, Blank "java/lang/String" a D' u ∧ Same D D' [fV.slot, fC.slot] ∧ D'.slots[fV.slot]? = some (.ref s.heap.size) ∧ D'.slots[fC.slot]? = some (.int 0) ∧ Arr .byte s.heap.size V u ∧ V.vm = .none ∧ u.vm.findClass "[B" = some V.cls ∧ V.slots.size = len ∧ (∀ j, j < len → V.slots[j]? = some (.int (lo8 (cv A (o + j))))) ∧ (∀ (y : Addr) (c : Cell), y ≠ a → s.heap[y]? = some c → u.heap[y]? = some c) ∧ u.heap.size = s.heap.size + 1
theorem Got.mv {a : Addr} {D A : Cell} {fV fC : Field} {o len : Nat} : ∀ r (U U' V V' : State), U'.heap = U.heap → V.vm.Alike V'.vm → V'.heap = V.heap → Got a D fV fC A o len r U V → Got a D fV fC A o len r U' V' :=
  fun r U U' V V' h1 hal h2 ⟨e0, D', X, a1, a2, a3, a4, a5, a6, a7, a8, a9, a10, a11⟩ => ⟨e0, D', X, a1.mv hal h2, a2, by rw [h1]; exact a3, a4, by rw [h1]; exact a5.mv hal h2, a6, by rw [hal.findClass]; exact a7, a8, a9, by rw [h1, h2]; exact a10, by rw [h1, h2]; exact a11⟩
namespace New4
def yN : MethodName := ⟨"java/lang/String", "<init>", "([CIILjava/lang/Void;)V"⟩
abbrev yB : ByteArray := jdk_42_method_149_code
theorem d0 : decode yB 0 = .ok (.aload_n 0, 1) := by decide +kernel
theorem d1 : decode yB 1 = .ok (.invokespecial 1, 3) := by decide +kernel
theorem d4 : decode yB 4 = .ok (.iload_n 3, 1) := by decide +kernel
theorem d5 : decode yB 5 = .ok (.ifCond (.ne) 22, 3) := by decide +kernel
theorem d27 : decode yB 27 = .ok (.getstatic 38, 3) := by decide +kernel
theorem d30 : decode yB 30 = .ok (.ifCond (.eq) 28, 3) := by decide +kernel
theorem d33 : decode yB 33 = .ok (.aload_n 1, 1) := by decide +kernel
theorem d34 : decode yB 34 = .ok (.iload_n 2, 1) := by decide +kernel
theorem d35 : decode yB 35 = .ok (.iload_n 3, 1) := by decide +kernel
theorem d36 : decode yB 36 = .ok (.invokestatic 177, 3) := by decide +kernel
theorem d39 : decode yB 39 = .ok (.astore 5, 2) := by decide +kernel
theorem d41 : decode yB 41 = .ok (.aload_n 0, 1) := by decide +kernel
theorem d42 : decode yB 42 = .ok (.aload 5, 2) := by decide +kernel
theorem d44 : decode yB 44 = .ok (.iload_n 3, 1) := by decide +kernel
theorem d45 : decode yB 45 = .ok (.invokestatic 47, 3) := by decide +kernel
theorem d48 : decode yB 48 = .ok (.putfield 15, 3) := by decide +kernel
theorem d51 : decode yB 51 = .ok (.aload_n 0, 1) := by decide +kernel
theorem d52 : decode yB 52 = .ok (.aload 5, 2) := by decide +kernel
theorem d54 : decode yB 54 = .ok (.putfield 9, 3) := by decide +kernel
theorem d57 : decode yB 57 = .ok (.return_, 1) := by decide +kernel
def site : List Cond := [.fieldLink "java/lang/String" 38 "java/lang/String" "COMPACT_STRINGS" "Z", Cmp3.tab, CodL.tab, .laysFinal "java/lang/String" "java/lang/String" "value" "[B", .fieldLink "java/lang/String" 9 "java/lang/String" "value" "[B", .laysFinal "java/lang/String" "java/lang/String" "coder" "B", .fieldLink "java/lang/String" 15 "java/lang/String" "coder" "B"] ++ objW "java/lang/String" 1 ++ staticW "java/lang/String" 177 Cmp3.yN ++ staticW "java/lang/String" 47 CodL.yN
def tab : Cond := tabOf yN yB 6 none site
def P (a : Addr) (D : Cell) (fV fC : Field) (b : Addr) (A : Cell) (z : Int32) (o len : Nat) (args : Array Value) (s : State) : Prop := args = #[.ref a, .ref b, .int (Int32.ofNat o), .int (Int32.ofNat len), .null] ∧ Blank "java/lang/String" a D s ∧ Found "java/lang/String" "value" "[B" fV s ∧ Found "java/lang/String" "coder" "B" fC s ∧ Ch b A s ∧ StaticIs s "java/lang/String" "COMPACT_STRINGS" "Z" (.int z) ∧ ¬ z = 0 ∧ 0 < len ∧ o + len ≤ A.slots.size ∧ len ≤ 536870912 ∧ ∀ i, i < len → ¬ 255 < cv A (o + i)
def E (a : Addr) (D : Cell) (fV fC : Field) (A : Cell) (o len : Nat) (r : Option Value) (s u : State) : Prop := Got a D fV fC A o len r s u
/-- len > 0, no char of the range above 255: a Latin-1 String of their low bytes -/
theorem law (l : Launch) (a : Addr) (D : Cell) (fV fC : Field) (b : Addr) (A : Cell) (z : Int32) (o len : Nat) : Law l yN 5 4 2 35 yB 6 none site (P a D fV fC b A z o len) (E a D fV fC A o len) [⟨a, fC.slot⟩, ⟨a, fV.slot⟩] 1 len := by
  refine Law.of_walk (plainFor_of_name (by decide +kernel)) (by decide +kernel) (by decide +kernel) (by decide) (fun _ _ h => by rw [h.1]; rfl) (fun _ U U' hal hh h => ⟨h.1, h.2.1.mv hal hh, h.2.2.1.al hal, h.2.2.2.1.al hal, h.2.2.2.2.1.mv hal hh, h.2.2.2.2.2.1.there hal hh, h.2.2.2.2.2.2⟩) (fun r U U' V V' h1 hal h2 h => Got.mv r U U' V V' h1 hal h2 h) ?_
  intro p e s m args below meth c s₁ X0 hexec hbytes hml hret hlk hnm hown hh0 W hP
  obtain ⟨rfl, hB, f1, f2, hA, s1, hz, l0, l1, l2, hp⟩ := hP
  have a31 := hA.1.2.2.2
  have c1 : Steps p.tables e below (s₁.setTop (entryFrame m #[.ref a, .ref b, .int (Int32.ofNat o), .int (Int32.ofNat len), .null] 6)) (s₁.setTop (mkF m 0 #[.val (.ref a), .val (.ref b), .val (.int (Int32.ofNat o)), .val (.int (Int32.ofNat len)), .val .null, .unset] [])) := entry rfl
  have c2 : Steps p.tables e below (s₁.setTop (entryFrame m #[.ref a, .ref b, .int (Int32.ofNat o), .int (Int32.ofNat len), .null] 6)) (s₁.setTop (mkF m 1 #[.val (.ref a), .val (.ref b), .val (.int (Int32.ofNat o)), .val (.int (Int32.ofNat len)), .val .null, .unset] [.ref a])) := c1.trans (by
    refine XS.aloadN X0.here hexec rfl (hb hbytes d0) rfl rfl ?_
    exact Steps.refl _)
  obtain ⟨T3, X3, q3, st3⟩ := X0.oinit hexec hown (wks W (objW "java/lang/String" 1)) (g := (mkF m 1 #[.val (.ref a), .val (.ref b), .val (.int (Int32.ofNat o)), .val (.int (Int32.ofNat len)), .val .null, .unset] [.ref a])) rfl (by rw [hml]; rfl) (rest := []) rfl (hb hbytes d1) (W := 0) (by show 2 * 0 + 0 ≤ _; decide) (Nat.le_of_ble_eq_true rfl) (Nat.le_of_ble_eq_true rfl)
  have hh3 := q3.trans hh0
  have c4 : Steps p.tables e below (s₁.setTop (entryFrame m #[.ref a, .ref b, .int (Int32.ofNat o), .int (Int32.ofNat len), .null] 6)) (T3.setTop (mkF m 27 #[.val (.ref a), .val (.ref b), .val (.int (Int32.ofNat o)), .val (.int (Int32.ofNat len)), .val .null, .unset] [])) := (c2.trans (st3 _ (Steps.refl _))).trans (by
    refine XS.iloadN X3.here hexec rfl (hb hbytes d4) rfl ?_
    refine XS.ifYes X3.here hexec rfl (pc0 := 5) rfl (hb hbytes d5) rfl (i0_ne_t (nz32 (by omega) l0)) (by decide) rfl ?_
    exact Steps.refl _)
  obtain ⟨T5, X5, q5, st5⟩ := X3.sget hexec hown (wk W (.fieldLink "java/lang/String" 38 "java/lang/String" "COMPACT_STRINGS" "Z")) s1 (fun _ _ h => by rw [hh3]; exact h) (g := (mkF m 27 #[.val (.ref a), .val (.ref b), .val (.int (Int32.ofNat o)), .val (.int (Int32.ofNat len)), .val .null, .unset] [])) rfl (hb hbytes d27)
  have hh5 := q5.trans hh3
  have c6 : Steps p.tables e below (s₁.setTop (entryFrame m #[.ref a, .ref b, .int (Int32.ofNat o), .int (Int32.ofNat len), .null] 6)) (T5.setTop (mkF m 30 #[.val (.ref a), .val (.ref b), .val (.int (Int32.ofNat o)), .val (.int (Int32.ofNat len)), .val .null, .unset] [.int z])) := c4.trans (st5 _ (Steps.refl _))
  have c7 : Steps p.tables e below (s₁.setTop (entryFrame m #[.ref a, .ref b, .int (Int32.ofNat o), .int (Int32.ofNat len), .null] 6)) (T5.setTop (mkF m 36 #[.val (.ref a), .val (.ref b), .val (.int (Int32.ofNat o)), .val (.int (Int32.ofNat len)), .val .null, .unset] [.int (Int32.ofNat len), .int (Int32.ofNat o), .ref b])) := c6.trans (by
    refine XS.ifNo X5.here hexec rfl (hb hbytes d30) rfl (i0_eq_f hz) ?_
    refine XS.aloadN X5.here hexec rfl (hb hbytes d33) rfl rfl ?_
    refine XS.iloadN X5.here hexec rfl (hb hbytes d34) rfl ?_
    refine XS.iloadN X5.here hexec rfl (hb hbytes d35) rfl ?_
    exact Steps.refl _)
  obtain ⟨v8, T8, X8, E8, g8⟩ := X5.callS hexec (Cmp3.law l b A o len) hown (wks W (staticW "java/lang/String" 177 Cmp3.yN)) (wk W Cmp3.tab) (W := 0) (Nat.le_of_ble_eq_true rfl) (Nat.le_of_ble_eq_true rfl) (Nat.le_refl _) (by show 0 + len ≤ len; omega) (g := (mkF m 36 #[.val (.ref a), .val (.ref b), .val (.int (Int32.ofNat o)), .val (.int (Int32.ofNat len)), .val .null, .unset] [.int (Int32.ofNat len), .int (Int32.ofNat o), .ref b])) rfl (by rw [hml]; rfl) c7 (argsL := [.ref b, .int (Int32.ofNat o), .int (Int32.ofNat len)]) (rest := []) rfl rfl (by show 2 * 0 + 0 ≤ _; decide) (hb hbytes d36) (⟨rfl, hA.mv X5.warmed.alike hh5, l1, l2, hp⟩)
  obtain ⟨e8, z8⟩ := E8
  obtain ⟨rfl, N, n1, n2, n3, n4, n5, n6⟩ := NewArr.mv _ T5 s _ _ hh5.symm (Vm.Alike.refl _) rfl e8
  rw [hh5] at z8
  have hB1 := hB.keep X8.warmed.alike (n6 _ _ hB.1)
  have hne : s.heap.size ≠ a := (Nat.ne_of_lt (Array.getElem?_eq_some_iff.mp hB.1).1).symm
  have c9 : Steps p.tables e below (s₁.setTop (entryFrame m #[.ref a, .ref b, .int (Int32.ofNat o), .int (Int32.ofNat len), .null] 6)) (T8.setTop (mkF m 39 #[.val (.ref a), .val (.ref b), .val (.int (Int32.ofNat o)), .val (.int (Int32.ofNat len)), .val .null, .unset] [.ref s.heap.size])) := g8
  have c10 : Steps p.tables e below (s₁.setTop (entryFrame m #[.ref a, .ref b, .int (Int32.ofNat o), .int (Int32.ofNat len), .null] 6)) (T8.setTop (mkF m 45 #[.val (.ref a), .val (.ref b), .val (.int (Int32.ofNat o)), .val (.int (Int32.ofNat len)), .val .null, .val (.ref s.heap.size)] [.int (Int32.ofNat N.slots.size), .ref s.heap.size, .ref a])) := by
    have hc : Steps p.tables e below (s₁.setTop (entryFrame m #[.ref a, .ref b, .int (Int32.ofNat o), .int (Int32.ofNat len), .null] 6)) (T8.setTop (mkF m 45 #[.val (.ref a), .val (.ref b), .val (.int (Int32.ofNat o)), .val (.int (Int32.ofNat len)), .val .null, .val (.ref s.heap.size)] [.int (Int32.ofNat len), .ref s.heap.size, .ref a])) := c9.trans (by
      refine XS.astore X8.here hexec rfl (hb hbytes d39) rfl rfl rfl ?_
      refine XS.aloadN X8.here hexec rfl (hb hbytes d41) rfl rfl ?_
      refine XS.aload X8.here hexec rfl (hb hbytes d42) rfl rfl ?_
      refine XS.iloadN X8.here hexec rfl (hb hbytes d44) rfl ?_
      exact Steps.refl _)
    rw [n4]; exact hc
  obtain ⟨v11, T11, X11, E11, g11⟩ := X8.callS hexec (CodL.law l s.heap.size N) hown (wks W (staticW "java/lang/String" 47 CodL.yN)) (wk W CodL.tab) (W := 1) (Nat.le_of_ble_eq_true rfl) (Nat.le_of_ble_eq_true rfl) (Nat.le_refl _) (by show 0 + len + 0 ≤ len; omega) (g := (mkF m 45 #[.val (.ref a), .val (.ref b), .val (.int (Int32.ofNat o)), .val (.int (Int32.ofNat len)), .val .null, .val (.ref s.heap.size)] [.int (Int32.ofNat N.slots.size), .ref s.heap.size, .ref a])) rfl (by rw [hml]; rfl) c10 (argsL := [.ref s.heap.size, .int (Int32.ofNat N.slots.size)]) (rest := [.ref a]) rfl rfl (by show 2 * 0 + (1 + 0) ≤ _; decide) (hb hbytes d45) (⟨rfl, n1⟩)
  obtain ⟨rfl, q11⟩ := E11
  have hB11 := hB1.mv (X8.warmed.alike.symm.trans X11.warmed.alike) q11
  have c12 : Steps p.tables e below (s₁.setTop (entryFrame m #[.ref a, .ref b, .int (Int32.ofNat o), .int (Int32.ofNat len), .null] 6)) (T11.setTop (mkF m 48 #[.val (.ref a), .val (.ref b), .val (.int (Int32.ofNat o)), .val (.int (Int32.ofNat len)), .val .null, .val (.ref s.heap.size)] [.int 0, .ref a])) := g11
  obtain ⟨T13, X13, p13, bl13, sl13, st13⟩ := X11.finit hexec hown (wk W (.fieldLink "java/lang/String" 15 "java/lang/String" "coder" "B")) (Or.inr ⟨_, (wk W (.laysFinal "java/lang/String" "java/lang/String" "coder" "B"))⟩) (Or.inl ⟨rfl, hnm⟩) f2 (Or.inl rfl) hB11 (t := .byte) (by decide +kernel) rfl (g := (mkF m 48 #[.val (.ref a), .val (.ref b), .val (.int (Int32.ofNat o)), .val (.int (Int32.ofNat len)), .val .null, .val (.ref s.heap.size)] [.int 0, .ref a])) rfl (rest := []) rfl (hb hbytes d48)
  have c14 : Steps p.tables e below (s₁.setTop (entryFrame m #[.ref a, .ref b, .int (Int32.ofNat o), .int (Int32.ofNat len), .null] 6)) (T13.setTop (mkF m 54 #[.val (.ref a), .val (.ref b), .val (.int (Int32.ofNat o)), .val (.int (Int32.ofNat len)), .val .null, .val (.ref s.heap.size)] [.ref s.heap.size, .ref a])) := (c12.trans (st13 _ (Steps.refl _))).trans (by
    refine XS.aloadN X13.here hexec rfl (hb hbytes d51) rfl rfl ?_
    refine XS.aload X13.here hexec rfl (hb hbytes d52) rfl rfl ?_
    exact Steps.refl _)
  obtain ⟨T15, X15, p15, bl15, sl15, st15⟩ := X13.finit hexec hown (wk W (.fieldLink "java/lang/String" 9 "java/lang/String" "value" "[B")) (Or.inr ⟨_, (wk W (.laysFinal "java/lang/String" "java/lang/String" "value" "[B"))⟩) (Or.inl ⟨rfl, hnm⟩) f1 (Or.inl rfl) bl13 (t := (.array .byte)) (by decide +kernel) rfl (g := (mkF m 54 #[.val (.ref a), .val (.ref b), .val (.int (Int32.ofNat o)), .val (.int (Int32.ofNat len)), .val .null, .val (.ref s.heap.size)] [.ref s.heap.size, .ref a])) rfl (rest := []) rfl (hb hbytes d54)
  have c16 : Steps p.tables e below (s₁.setTop (entryFrame m #[.ref a, .ref b, .int (Int32.ofNat o), .int (Int32.ofNat len), .null] 6)) (T15.setTop (mkF m 57 #[.val (.ref a), .val (.ref b), .val (.int (Int32.ofNat o)), .val (.int (Int32.ofNat len)), .val .null, .val (.ref s.heap.size)] [])) := c14.trans (st15 _ (Steps.refl _))
  have ap := apart (Or.inr ⟨_, (wk W (.laysFinal "java/lang/String" "java/lang/String" "value" "[B"))⟩) (Or.inr ⟨_, (wk W (.laysFinal "java/lang/String" "java/lang/String" "coder" "B"))⟩) f1 f2 (t₁ := .array .byte) (t₂ := .byte) (by decide +kernel) (by decide +kernel) (by decide)
  have al := X8.warmed.alike.symm.trans X15.warmed.alike
  have n7 : T11.heap[s.heap.size]? = some N := by rw [q11]; exact n1.1
  exact ⟨T15, none, _, _, _, X15, by simp, rfl, by omega, (fun _ => rfl), ⟨rfl, _, N, bl15, ((Same.refl D _).set _ (by simp)).set _ (by simp), sl15, (Cell.slots_setSlot_ne _ ap).trans sl13, n1.keep al (p15.other hne (p13.other hne n7)), n2, by rw [al.findClass]; exact n3, n4, n5, fun y c h1 h2 => p15.other h1 (p13.other h1 (by rw [q11]; exact n6 y c h2)), by rw [p15.2.2, p13.2.2, q11]; exact z8⟩, fun fs hl => c16.trans (X15.returnOut hexec hret (hb hbytes d57) hl)⟩
end New4
namespace New1
def yN : MethodName := ⟨"java/lang/String", "<init>", "([C)V"⟩
abbrev yB : ByteArray := jdk_42_method_3_code
theorem d0 : decode yB 0 = .ok (.aload_n 0, 1) := by decide +kernel
theorem d1 : decode yB 1 = .ok (.aload_n 1, 1) := by decide +kernel
theorem d2 : decode yB 2 = .ok (.iconst 0, 1) := by decide +kernel
theorem d3 : decode yB 3 = .ok (.aload_n 1, 1) := by decide +kernel
theorem d4 : decode yB 4 = .ok (.arraylength, 1) := by decide +kernel
theorem d5 : decode yB 5 = .ok (.aconst_null, 1) := by decide +kernel
theorem d6 : decode yB 6 = .ok (.invokespecial 27, 3) := by decide +kernel
theorem d9 : decode yB 9 = .ok (.return_, 1) := by decide +kernel
def site : List Cond := [New4.tab] ++ initW "java/lang/String" 27 New4.yN
def tab : Cond := tabOf yN yB 2 none site
def P (a : Addr) (D : Cell) (fV fC : Field) (b : Addr) (A : Cell) (z : Int32) (args : Array Value) (s : State) : Prop := args = #[.ref a, .ref b] ∧ Blank "java/lang/String" a D s ∧ Found "java/lang/String" "value" "[B" fV s ∧ Found "java/lang/String" "coder" "B" fC s ∧ Ch b A s ∧ StaticIs s "java/lang/String" "COMPACT_STRINGS" "Z" (.int z) ∧ ¬ z = 0 ∧ 0 < A.slots.size ∧ A.slots.size ≤ 536870912 ∧ ∀ i, i < A.slots.size → ¬ 255 < cv A i
def E (a : Addr) (D : Cell) (fV fC : Field) (A : Cell) (r : Option Value) (s u : State) : Prop := Got a D fV fC A 0 A.slots.size r s u
/-- new String(chars), not empty, no char above 255: a Latin-1 String of their low bytes -/
theorem law (l : Launch) (a : Addr) (D : Cell) (fV fC : Field) (b : Addr) (A : Cell) (z : Int32) : Law l yN 2 1 3 52 yB 2 none site (P a D fV fC b A z) (E a D fV fC A) [⟨a, fC.slot⟩, ⟨a, fV.slot⟩] 1 A.slots.size := by
  refine Law.of_walk (plainFor_of_name (by decide +kernel)) (by decide +kernel) (by decide +kernel) (by decide) (fun _ _ h => by rw [h.1]; rfl) (fun _ U U' hal hh h => ⟨h.1, h.2.1.mv hal hh, h.2.2.1.al hal, h.2.2.2.1.al hal, h.2.2.2.2.1.mv hal hh, h.2.2.2.2.2.1.there hal hh, h.2.2.2.2.2.2⟩) (fun r U U' V V' h1 hal h2 h => Got.mv r U U' V V' h1 hal h2 h) ?_
  intro p e s m args below meth c s₁ X0 hexec hbytes hml hret hlk hnm hown hh0 W hP
  obtain ⟨rfl, hB, f1, f2, hA, s1, hz, l0, l2, hp⟩ := hP
  have c1 : Steps p.tables e below (s₁.setTop (entryFrame m #[.ref a, .ref b] 2)) (s₁.setTop (mkF m 0 #[.val (.ref a), .val (.ref b)] [])) := entry rfl
  have c2 : Steps p.tables e below (s₁.setTop (entryFrame m #[.ref a, .ref b] 2)) (s₁.setTop (mkF m 6 #[.val (.ref a), .val (.ref b)] [.null, .int (Int32.ofNat A.slots.size), .int 0, .ref b, .ref a])) := c1.trans (by
    refine XS.aloadN X0.here hexec rfl (hb hbytes d0) rfl rfl ?_
    refine XS.aloadN X0.here hexec rfl (hb hbytes d1) rfl rfl ?_
    refine iconstV X0.here hexec rfl 0 (hb hbytes d2) (by decide) ?_
    refine XS.aloadN X0.here hexec rfl (hb hbytes d3) rfl rfl ?_
    refine X0.alen hexec (hA.1.mv X0.warmed.alike hh0) rfl rfl (hb hbytes d4) ?_
    refine XS.aconstNull X0.here hexec rfl (hb hbytes d5) ?_
    exact Steps.refl _)
  obtain ⟨v3, T3, X3, E3, g3⟩ := X0.callN hexec (New4.law l a D fV fC b A z 0 A.slots.size) rfl hown (wks W (initW "java/lang/String" 27 New4.yN)) (W New4.tab (by simp only [site, List.mem_cons, List.mem_append, true_or, or_true])) (W := 0) (Nat.le_of_ble_eq_true rfl) (Nat.le_of_ble_eq_true rfl) (Nat.le_refl _) (by show 0 + A.slots.size ≤ A.slots.size; omega) (g := (mkF m 6 #[.val (.ref a), .val (.ref b)] [.null, .int (Int32.ofNat A.slots.size), .int (Int32.ofNat 0), .ref b, .ref a])) rfl (by rw [hml]; rfl) c2 (argsL := [.ref b, .int (Int32.ofNat 0), .int (Int32.ofNat A.slots.size), .null]) (rest := []) rfl rfl (by show 2 * 0 + 0 ≤ _; decide) (hb hbytes d6) (⟨rfl, hB.mv X0.warmed.alike hh0, f1.al X0.warmed.alike, f2.al X0.warmed.alike, hA.mv X0.warmed.alike hh0, s1.there X0.warmed.alike hh0, hz, l0, by omega, l2, fun i hi => by rw [Nat.zero_add]; exact hp i hi⟩)
  have e0 := Got.mv _ s₁ s _ _ hh0.symm (Vm.Alike.refl _) rfl E3
  obtain rfl := e0.1
  have c4 : Steps p.tables e below (s₁.setTop (entryFrame m #[.ref a, .ref b] 2)) (T3.setTop (mkF m 9 #[.val (.ref a), .val (.ref b)] [])) := g3
  exact ⟨T3, none, _, _, _, X3, by simp, rfl, by omega, (fun _ => rfl), e0, fun fs hl => c4.trans (X3.returnOut hexec hret (hb hbytes d9) hl)⟩
theorem pays {l : Launch} {R : Room} {p : Program} {e : Env} {below : List Frame} {s : State} {sargs : Array Value} {len W : Nat} (a : Addr) (D : Cell) (fV fC : Field) (b : Addr) (A : Cell) (z : Int32) (htab : tab.before sargs s = true) (hfr : 4 ≤ R.frames) (hlo : W + 65 ≤ R.locals) :
    Back l R p e below s sargs yN len W (fun A₁ a₁ => A₁.cells + 1 ≤ R.cells ∧ A₁.slots + A.slots.size ≤ R.slots ∧ P a D fV fC b A z a₁ A₁.U) (fun A₁ _ v₁ B₁ => E a D fV fC A v₁ A₁.U B₁.U ∧ B₁.locs = A₁.locs ++ [⟨a, fC.slot⟩, ⟨a, fV.slot⟩] ∧ B₁.cells = A₁.cells + 1 ∧ B₁.slots = A₁.slots + A.slots.size) :=
  (law l a D fV fC b A z).pays htab hfr (by omega)
end New1
/-- the byte, read back as charAt reads it, is the char -/
theorem lo8_mask {x : Int32} (h0 : ¬ x < 0) (h1 : ¬ 255 < x) : lo8 x &&& 255 = x := by
  have t : ∀ k : Fin 256, lo8 (Int32.ofNat k.val) &&& 255 = Int32.ofNat k.val := by decide +kernel
  rw [Int32.lt_iff_toInt_lt] at h0 h1
  have e0 : (0 : Int32).toInt = 0 := rfl
  have e1 : (255 : Int32).toInt = 255 := rfl
  obtain ⟨k, hk⟩ : ∃ k : Nat, x.toInt = k := ⟨x.toInt.toNat, by omega⟩
  have hx : x = Int32.ofNat k := Int32.toInt_inj.mp (by rw [hk, Int32.toInt_ofNat_small (by omega)])
  rw [hx]
  exact t ⟨k, by omega⟩
end StrChars
namespace StrChars.Road
open Jvm Sem ClassFile Op Lib Jvm.Stand Jvm.Free Jvm.Free.XT
open Jvm.Lib.Cold (StaticIs)
abbrev ST : String := "java/lang/String"
/-- every table word that New1's law asks, flat -/
abbrev words : List Jvm.Cond := [.code New1.yN New1.yB 2 none, .initialized ST, .methodLink ST 27 New4.yN, .instanceMethod New4.yN,
  .code New4.yN New4.yB 6 none, .fieldLink ST 38 ST "COMPACT_STRINGS" "Z", .laysFinal ST ST "value" "[B", .fieldLink ST 9 ST "value" "[B", .laysFinal ST ST "coder" "B", .fieldLink ST 15 ST "coder" "B",
  .methodLink ST 1 Lib.objectInit, .instanceMethod Lib.objectInit, .code Lib.objectInit ⟨#[0xb1]⟩ 1 none, .methodLink ST 177 Cmp3.yN, .static Cmp3.yN, .methodLink ST 47 CodL.yN, .static CodL.yN,
  .code Cmp3.yN Cmp3.yB 6 (some (.array .byte)), .initialized U16, .arrayClass .byte, .methodLink U16 115 Cmp5.yN, .static Cmp5.yN, .code Cmp5.yN Cmp5.yB 7 (some .int), .code CodL.yN CodL.yB 2 (some .byte)]
theorem tab_of {a : Array Value} {s : State} (h : ∀ w ∈ words, w.before a s = true) : New1.tab.before a s = true := by
  have h5 : Cmp5.tab.before a s = true := unparts (wk h (.code Cmp5.yN Cmp5.yB 7 (some .int))) (wks h (.initialized Cmp5.yN.cls :: Cmp5.site))
  have hc : CodL.tab.before a s = true := unparts (wk h (.code CodL.yN CodL.yB 2 (some .byte))) (wks h (.initialized CodL.yN.cls :: CodL.site))
  have q5 : ∀ w ∈ Cmp5.tab :: words, w.before a s = true := fun w hw => (List.mem_cons.mp hw).elim (fun e => e ▸ h5) (h w)
  have h3 : Cmp3.tab.before a s = true := unparts (wk q5 (.code Cmp3.yN Cmp3.yB 6 (some (.array .byte)))) (wks q5 (.initialized Cmp3.yN.cls :: Cmp3.site))
  have q3 : ∀ w ∈ Cmp3.tab :: CodL.tab :: words, w.before a s = true := fun w hw => (List.mem_cons.mp hw).elim (fun e => e ▸ h3) fun hw => (List.mem_cons.mp hw).elim (fun e => e ▸ hc) (h w)
  have h4 : New4.tab.before a s = true := unparts (wk q3 (.code New4.yN New4.yB 6 none)) (wks q3 (.initialized New4.yN.cls :: New4.site))
  have q4 : ∀ w ∈ New4.tab :: words, w.before a s = true := fun w hw => (List.mem_cons.mp hw).elim (fun e => e ▸ h4) (h w)
  exact unparts (wk q4 (.code New1.yN New1.yB 2 none)) (wks q4 (.initialized New1.yN.cls :: New1.site))
/-- the words ride from the start Z to the walk's own state -/
theorem moved {Z s : State} {a0 args : Array Value} (hZ : Z.Warmed39 s.vm) (hw : ∀ d ∈ words, d.before a0 Z = true) : ∀ d ∈ words, d.before args s = true := fun d hd => by
  have q := hw d hd
  have t : ∀ d ∈ words, d = .arrayClass .byte ∨ (d.onTables && d.keepsFace) = true := by decide +kernel
  rcases t d hd with rfl | t
  · exact RoadKit.mvA hZ q
  · exact RoadKit.mv hZ q t
/-- WHAT COMES BACK, over the tables of the start Z: h the heap at the call, h' behind it -/
def Q (Z : State) (x : Addr) (A : Cell) (h : Heap) (v : Option Value) (h' : Heap) (L : List Loc) : Prop := v = none ∧ (∀ y ∈ L, y.base = x) ∧ RoadKit.Keep h h' [x] ∧ h'.size = h.size + 1 ∧ RoadKit.Exa Z h' x ST ∧ RoadKit.Fld Z h' x ST "value" "[B" (.ref h.size) ∧ RoadKit.Fld Z h' x ST "coder" "B" (.int 0) ∧
  (∃ V : Cell, RoadKit.Arr Z h' h.size V .byte ∧ V.vm = .none ∧ Z.vm.findClass "[B" = some V.cls ∧ V.slots.size = A.slots.size ∧ ∀ j, j < A.slots.size → V.slots[j]? = some (.int (lo8 (cv A j)))) ∧
  ∀ (O n d : String) (w : Value), RoadKit.Fld Z h x O n d w → RoadKit.slotOf Z O n d ≠ RoadKit.slotOf Z ST "value" "[B" → RoadKit.slotOf Z O n d ≠ RoadKit.slotOf Z ST "coder" "B" → RoadKit.Fld Z h' x O n d w
/-- **new String(chars) AT A CALL, IN THE ROAD'S FORM**: for specialBack behind newO: x the fresh String, b the char[] with the cell A -/
theorem back {p : Program} {l : Launch} {e : Env} {R : Room} {s : State} {args : Array Value} {below : List Frame} {len W : Nat} {Z : State} {a0 : Array Value} {h : Heap} (hZ : Z.Warmed39 s.vm) (hw : ∀ d ∈ words, d.before a0 Z = true) {kI : Nat} (wi : (Jvm.Cond.instantiable ST kI).before a0 Z = true)
    {x b : Addr} {A : Cell} {z : Int32} {v0 c0 : Value} (E : RoadKit.Exa Z h x ST) (V : RoadKit.Fld Z h x ST "value" "[B" v0) (C : RoadKit.Fld Z h x ST "coder" "B" c0) (K : RoadKit.Arr Z h b A .char) (hty : Typed .char A) (S : RoadKit.Sta Z h ST "COMPACT_STRINGS" "Z" (.int z)) (hz : ¬ z = 0)
    (l0 : 0 < A.slots.size) (l2 : A.slots.size ≤ 536870912) (hp : ∀ i, i < A.slots.size → ¬ 255 < cv A i) (hfr : 4 ≤ R.frames) (hlo : W + 65 ≤ R.locals) :
    Back l R p e below s args New1.yN len W (fun P a => a = #[.ref x, .ref b] ∧ P.U.heap = h ∧ P.cells + 1 ≤ R.cells ∧ P.slots + A.slots.size ≤ R.slots)
      (fun P _ v B => ∃ L, Q Z x A h v B.U.heap L ∧ B.locs = P.locs ++ L ∧ B.cells = P.cells + 1 ∧ B.slots = P.slots + A.slots.size) := by
  intro m meth c P g ig mk a X hg hsize hdg hW hn hp'
  obtain ⟨rfl, rfl, r1, r2⟩ := hp'
  have al : Z.vm.Alike P.U.vm := hZ.alike.trans X.warmed.alike
  obtain ⟨D, cfV, kV, iV, fV, hD, gV, stV, knV, obV, asV, slV⟩ := id V
  obtain ⟨D', cfC, kC, iC, fC, hD', gC, stC, -, -, asC, slC⟩ := id C
  cases hD.symm.trans hD'
  obtain ⟨D2, kD, e1, e2, e3, e4, e5⟩ := id E
  cases hD.symm.trans e1
  obtain ⟨c2, k2, i1, i2, i3, -⟩ := Cond.instantiable_spec wi
  cases e2.symm.trans i1
  cases e3.symm.trans i2
  obtain ⟨kU, u1, u2⟩ := al.2.2 _ _ e3
  have hB : Blank ST x D P.U := ⟨hD, ⟨knV, fun q hq => by rw [hq] at obV; cases obV⟩, by rw [al.findClass]; exact e2, kU, u1, by rw [u2]; exact i3, by rw [u2]; exact e5 i3⟩
  have F1 : Found ST "value" "[B" fV P.U := ⟨SBG.found_only al ⟨cfV, kV, iV, gV⟩, stV⟩
  have F2 : Found ST "coder" "B" fC P.U := ⟨SBG.found_only al ⟨cfC, kC, iC, gC⟩, stC⟩
  have hA : Ch b A P.U := ⟨⟨K.1, State.isArrayOf_alike al K.2.1, K.2.2, by omega⟩, hty⟩
  have hS : StaticIs P.U ST "COMPACT_STRINGS" "Z" (.int z) := by
    obtain ⟨cfS, iS, kS, fS, st, cS, t1, t2, t3, t4, t5, t6, t7⟩ := S
    exact StaticIs.there (s := { Z with heap := P.U.heap }) ⟨cfS, iS, kS, fS, st, cS, t1, t2, t3, t4, t5, (fun q => by rw [q] at t6; cases t6), t7⟩ al rfl
  obtain ⟨v, B, X', ⟨⟨hv, E', V', q1, q2, q3, q4, q5, q6, q7, q8, q9, q10, q11⟩, hl, hc, hs⟩, st⟩ := New1.pays x D fV fC b A z (tab_of (moved hZ hw)) hfr hlo m meth c P g ig mk _ X hg hsize hdg hW hn ⟨r1, r2, rfl, hB, F1, F2, hA, hS, hz, l0, l2, hp⟩
  have al' : Z.vm.Alike B.U.vm := hZ.alike.trans X'.warmed.alike
  have hsz : E'.slots.size = D.slots.size := by
    obtain ⟨-, -, -, kB, w1, w2, w3⟩ := q1
    obtain ⟨kB', y1, y2⟩ := al'.2.2 _ _ e3
    rw [q2.2.1] at w1
    cases w1.symm.trans y1
    rw [w3, e5 i3, y2]
  refine ⟨v, B, X', ⟨_, ⟨hv, ?_, ⟨by omega, fun y cy hy hn' => q10 y cy (by simpa using hn') hy, fun y cy hy => ?_⟩, q11, ⟨E', _, q1.1, by rw [q2.2.1]; exact e2, by rw [q2.2.1]; exact e3, by rw [q2.1]; exact obV, fun _ => by rw [hsz]; exact e5 i3⟩,
    ⟨E', cfV, kV, iV, fV, q1.1, gV, stV, by rw [q2.1]; exact knV, by rw [q2.1]; exact obV, by rw [q2.2.1]; exact asV, q3⟩, ⟨E', cfC, kC, iC, fC, q1.1, gC, stC, by rw [q2.1]; exact knV, by rw [q2.1]; exact obV, by rw [q2.2.1]; exact asC, q4⟩,
    ⟨V', ⟨q5.1, State.isArrayOf_alike al'.symm q5.2.1, q5.2.2.1⟩, q6, by rw [← al'.findClass]; exact q7, q8, fun j hj => by have := q9 j hj; rwa [Nat.zero_add] at this⟩, fun O n d w F n1 n2 => ?_⟩, hl, hc, hs⟩, st⟩
  · intro y hy
    simp only [List.mem_cons, List.not_mem_nil, or_false] at hy
    rcases hy with rfl | rfl <;> rfl
  · by_cases q : y = x
    · subst q
      cases hD.symm.trans hy
      exact ⟨E', q1.1, q2.2.1, q2.1, hsz⟩
    · exact ⟨cy, q10 y cy q hy, rfl, rfl, rfl⟩
  · obtain ⟨D3, cf, k, i, f, g1, g2, g3, g4, g5, g6, g7⟩ := F
    cases hD.symm.trans g1
    simp only [RoadKit.slotOf, g2, gV, gC, Option.map_some, Option.getD_some] at n1 n2
    exact ⟨E', cf, k, i, f, q1.1, g2, g3, by rw [q2.1]; exact g4, by rw [q2.1]; exact g5, by rw [q2.2.1]; exact g6, by rw [q2.2.2 f.slot (by simp [n1, n2])]; exact g7⟩
end StrChars.Road
namespace StrChars.Road
open Jvm Sem ClassFile Op Lib Jvm.Stand Jvm.Free Jvm.Free.XT
/-- WHAT COMES BACK, the byte[] as a list of values -/
def QA (Z : State) (x : Addr) (zn : Int32) (cs : List Int32) (h : Heap) (v : Option Value) (h' : Heap) (L : List Loc) : Prop := v = none ∧ (∀ y ∈ L, y.base = x) ∧ RoadKit.Keep h h' [x] ∧ h'.size = h.size + 1 ∧ RoadKit.Exa Z h' x ST ∧ RoadKit.Fld Z h' x ST "value" "[B" (.ref h.size) ∧ RoadKit.Fld Z h' x ST "coder" "B" (.int 0) ∧
  (∃ kb, Z.vm.findClass "[B" = some kb ∧ RoadKit.Arv Z h' h.size kb .byte zn (cs.map fun c => .int (lo8 c)) (.int 0)) ∧
  ∀ (O n d : String) (w : Value), RoadKit.Fld Z h x O n d w → RoadKit.slotOf Z O n d ≠ RoadKit.slotOf Z ST "value" "[B" → RoadKit.slotOf Z O n d ≠ RoadKit.slotOf Z ST "coder" "B" → RoadKit.Fld Z h' x O n d w
/-- **new String(chars) AT A CALL, THE ARRAYS AS LISTS**: the char[] at b holds cs, not empty, no char above 255 -/
theorem backArv {p : Program} {l : Launch} {e : Env} {R : Room} {s : State} {args : Array Value} {below : List Frame} {len W : Nat} {Z : State} {a0 : Array Value} {h : Heap} (hZ : Z.Warmed39 s.vm) (hw : ∀ d ∈ words, d.before a0 Z = true) {kI : Nat} (wi : (Jvm.Cond.instantiable ST kI).before a0 Z = true)
    {x b : Addr} {k : ClassId} {zn z : Int32} {cs : List Int32} {dv v0 c0 : Value} (E : RoadKit.Exa Z h x ST) (V : RoadKit.Fld Z h x ST "value" "[B" v0) (C : RoadKit.Fld Z h x ST "coder" "B" c0) (K : RoadKit.Arv Z h b k .char zn (cs.map Value.int) dv) (S : RoadKit.Sta Z h ST "COMPACT_STRINGS" "Z" (.int z)) (hz : ¬ z = 0)
    (hlen : zn.toNatClampNeg = cs.length) (h0 : 0 < cs.length) (hbig : cs.length ≤ 536870912) (hall : ∀ c ∈ cs, ¬ 255 < c) (hfr : 4 ≤ R.frames) (hlo : W + 65 ≤ R.locals) :
    Back l R p e below s args New1.yN len W (fun P a => a = #[.ref x, .ref b] ∧ P.U.heap = h ∧ P.cells + 1 ≤ R.cells ∧ P.slots + cs.length ≤ R.slots)
      (fun P _ v B => ∃ L, QA Z x zn cs h v B.U.heap L ∧ B.locs = P.locs ++ L ∧ B.cells = P.cells + 1 ∧ B.slots = P.slots + cs.length) := by
  obtain ⟨A, K1, K2, K3, K4, K5, K6⟩ := K
  have e : A.slots.size = cs.length := K3.trans hlen
  have hat : ∀ (i : Nat) (hi : i < cs.length), A.slots[i]? = some (.int cs[i]) := fun i hi => by rw [K5 i (by omega)]; simp [List.getD_eq_getElem?_getD, hi]
  have hcv : ∀ (i : Nat) (hi : i < cs.length), cv A i = cs[i] := fun i hi => by unfold cv; rw [hat i hi]
  have hty : Typed .char A := fun i v hv => by
    have hi : i < A.slots.size := (Array.getElem?_eq_some_iff.mp hv).1
    have q := K5 i hi
    rw [hv] at q
    rw [Option.some.inj q]
    exact K6 i hi
  refine Back.mono (back hZ hw wi E V C K1 hty S hz (by omega) (by omega) (fun i hi => by rw [hcv i (by omega)]; exact hall _ (List.getElem_mem _)) hfr hlo) (fun P a hp => ⟨hp.1, hp.2.1, hp.2.2.1, by rw [e]; exact hp.2.2.2⟩) (fun P a v B hp hq => ?_)
  obtain ⟨L, ⟨q1, q2, q3, q4, q5, q6, q7, ⟨V', v1, v2, v3, v4, v5⟩, q9⟩, hl, hc, hs⟩ := hq
  refine ⟨L, ⟨q1, q2, q3, q4, q5, q6, q7, ⟨V'.cls, v3, V', v1, rfl, by rw [v4, e, hlen], K4, fun i hi => ?_, fun i hi => ?_⟩, q9⟩, hl, hc, by rw [hs, e]⟩
  · have hi' : i < cs.length := by omega
    rw [v5 i (by omega), hcv i hi']; simp [List.getD_eq_getElem?_getD, hi']
  · have hi' : i < cs.length := by omega
    simp only [List.getD_eq_getElem?_getD, List.getElem?_map, List.getElem?_eq_getElem hi', Option.map_some, Option.getD_some]
    exact fits_lo8 _
end StrChars.Road
namespace StrChars.Road
open Jvm Sem ClassFile Op Lib Jvm.Stand Jvm.Free Jvm.Free.XT
/-- WHAT COMES BACK, in the writer's own shape -/
def QV (Z : State) (x : Addr) (N : Int32) (bs : List Int32) (h : Heap) (n0 : Nat) (v : Option Value) (h' : Heap) (L : List Loc) : Prop := v = none ∧ RoadKit.Fr n0 L ∧ RoadKit.Keep h h' [x] ∧ RoadKit.Exa Z h' x ST ∧ RoadKit.Fld Z h' x ST "coder" "B" (.int 0) ∧
  ∃ (t : Addr) (kb : ClassId), n0 ≤ t ∧ h.size ≤ t ∧ ¬ t = x ∧ RoadKit.Fld Z h' x ST "value" "[B" (.ref t) ∧ RoadKit.Arv Z h' t kb .byte N (bs.map Value.int) (.int 0)
/-- **new String(chars) AT A CALL, FOR THE WRITER**: a char[] of n known ints, each 0 to 255 -/
theorem backV {p : Program} {l : Launch} {e : Env} {R : Room} {s : State} {args : Array Value} {below : List Frame} {len W : Nat} {Z : State} {a0 : Array Value} {h : Heap} (hZ : Z.Warmed39 s.vm) (hw : ∀ d ∈ words, d.before a0 Z = true) {kI : Nat} (wi : (Jvm.Cond.instantiable ST kI).before a0 Z = true)
    {x b : Addr} {kC : ClassId} {cs bs : List Int32} {d v0 c0 : Value} {z N : Int32} {n n0 : Nat} (hx0 : n0 ≤ x) (hh0 : n0 ≤ h.size) (E : RoadKit.Exa Z h x ST) (V : RoadKit.Fld Z h x ST "value" "[B" v0) (C : RoadKit.Fld Z h x ST "coder" "B" c0) (K : RoadKit.Arv Z h b kC .char N (cs.map Value.int) d) (S : RoadKit.Sta Z h ST "COMPACT_STRINGS" "Z" (.int z)) (hz : ¬ z = 0)
    (hn : cs.length = n) (hN : N = Int32.ofNat n) (l0 : 0 < n) (l2 : n ≤ 4000) (hp : ∀ c ∈ cs, ¬ c < 0 ∧ ¬ (255 : Int32) < c) (hb : bs = cs.map (fun c => c.toInt8.toInt32)) (hfr : 4 ≤ R.frames) (hlo : W + 65 ≤ R.locals) :
    Back l R p e below s args (⟨"java/lang/String", "<init>", "([C)V"⟩ : MethodName) len W (fun P a => a = #[.ref x, .ref b] ∧ P.U.heap = h ∧ P.cells + 1 ≤ R.cells ∧ P.slots + n ≤ R.slots)
      (fun P _ v B => ∃ L, QV Z x N bs h n0 v B.U.heap L ∧ B.locs = P.locs ++ L ∧ B.cells = P.cells + 1 ∧ B.slots = P.slots + n) := by
  subst hn hN hb
  refine Back.mono (backArv hZ hw wi E V C K S hz (n32 (by omega)) l0 (by omega) (fun c hc => (hp c hc).2) hfr hlo) (fun P a hp => hp) (fun P a v B hp hq => ?_)
  obtain ⟨L, ⟨q1, q2, q3, q4, q5, q6, q7, ⟨kb, v1, v2⟩, q9⟩, hl, hc, hs⟩ := hq
  exact ⟨L, ⟨q1, fun y hy => by rw [q2 y hy]; exact hx0, q3, q5, q7, h.size, kb, hh0, Nat.le_refl _, Nat.ne_of_gt E.lt, q6, by rw [List.map_map]; exact v2⟩, hl, hc, hs⟩
end StrChars.Road
namespace StrChars
open Jvm Sem ClassFile Op Lib Jvm.Stand Jvm.Free.XT Jvm.Free.ALB Jvm.Free.JM Jvm.Free
open Jvm.Lib.Cold (StaticIs)
def hi8 (x : Int32) : Int32 := lo8 (x >>> ((8 : Int32) &&& 31))
/-- what StringUTF16.getChar makes of two bytes -/
def pairCh (u v : Int32) : Int32 := (((u &&& 255) <<< ((0 : Int32) &&& 31)) ||| ((v &&& 255) <<< ((8 : Int32) &&& 31))).toUInt32.toUInt16.toUInt32.toInt32
theorem shr0 (c : Int32) : c >>> ((0 : Int32) &&& 31) = c := by
  have e : ((0 : Int32) &&& 31) = 0 := by decide
  rw [e]
  apply Int32.toBitVec_inj.mp
  rw [Int32.toBitVec_shiftRight]
  have e1 : ((0 : Int32).toBitVec.smod 32) = 0#32 := by decide
  rw [e1, BitVec.sshiftRight_eq']
  exact BitVec.sshiftRight_zero
theorem lo8_and (x : Int32) : (lo8 x &&& 255).toBitVec.toNat = x.toBitVec.toNat % 256 := by
  have h : (lo8 x).toBitVec = (x.toBitVec.signExtend 8).signExtend 32 := by rw [lo8, Int8.toBitVec_toInt32, Int32.toBitVec_toInt8]
  rw [Int32.toBitVec_and, BitVec.toNat_and, h]
  have e : ((x.toBitVec.signExtend 8).signExtend 32).toNat % 256 = x.toBitVec.toNat % 256 := by
    rw [BitVec.toNat_signExtend]
    have hlt := x.toBitVec.isLt
    simp only [BitVec.toNat_setWidth, BitVec.toNat_signExtend]
    split <;> split <;> omega
  rw [← e]
  exact Nat.and_two_pow_sub_one_eq_mod _ 8
theorem pair_says {c : Int32} (h0 : ¬ c < 0) (h1 : ¬ 65535 < c) : pairCh (lo8 c) (hi8 c) = c := by
  rw [Int32.lt_iff_toInt_lt] at h0 h1
  have e0 : (0 : Int32).toInt = 0 := rfl
  have e1 : (65535 : Int32).toInt = 65535 := rfl
  have hc : c.toInt = c.toBitVec.toNat := by
    have := c.toBitVec.isLt
    have e : c.toInt = c.toBitVec.toInt := rfl
    rw [e] at h0 h1
    rw [e]
    rw [BitVec.toInt_eq_toNat_cond] at h0 h1 ⊢
    split at h0 <;> split <;> omega
  have hn : c.toBitVec.toNat < 65536 := by omega
  have a1 := lo8_and c
  have a2 : (hi8 c &&& 255).toBitVec.toNat = c.toBitVec.toNat / 256 := by
    rw [hi8, lo8_and]
    have e : ((8 : Int32) &&& 31) = 8 := by decide
    rw [e, Int32.toBitVec_shiftRight]
    have e2 : ((8 : Int32).toBitVec.smod 32) = 8#32 := by decide
    rw [e2, BitVec.sshiftRight_eq', BitVec.toNat_sshiftRight_of_msb_false (by rw [BitVec.msb_eq_false_iff_two_mul_lt]; omega)]
    show c.toBitVec.toNat >>> 8 % 256 = _
    rw [Nat.shiftRight_eq_div_pow]
    omega
  unfold pairCh
  apply Int32.toBitVec_inj.mp
  apply BitVec.eq_of_toNat_eq
  have f0 : ((0 : Int32) &&& 31) = 0 := by decide
  have f8 : ((8 : Int32) &&& 31) = 8 := by decide
  rw [f0, f8]
  have g : (((lo8 c &&& 255) <<< (0 : Int32)) ||| ((hi8 c &&& 255) <<< (8 : Int32))).toBitVec.toNat = c.toBitVec.toNat := by
    rw [Int32.toBitVec_or, Int32.toBitVec_shiftLeft, Int32.toBitVec_shiftLeft]
    have s0 : ((0 : Int32).toBitVec.smod 32) = 0#32 := by decide
    have s8 : ((8 : Int32).toBitVec.smod 32) = 8#32 := by decide
    rw [s0, s8, BitVec.toNat_or]
    simp only [BitVec.shiftLeft_eq', BitVec.toNat_shiftLeft, a1, a2]
    show (c.toBitVec.toNat % 256) <<< 0 % 2 ^ 32 ||| (c.toBitVec.toNat / 256) <<< 8 % 2 ^ 32 = _
    rw [Nat.shiftLeft_zero, Nat.mod_eq_of_lt (show c.toBitVec.toNat % 256 < 2 ^ 32 by omega), Nat.mod_eq_of_lt (show (c.toBitVec.toNat / 256) <<< 8 < 2 ^ 32 by rw [Nat.shiftLeft_eq]; omega), Nat.or_comm, ← Nat.shiftLeft_add_eq_or_of_lt (by omega), Nat.shiftLeft_eq]
    omega
  show BitVec.toNat (((((lo8 c &&& 255) <<< (0 : Int32)) ||| ((hi8 c &&& 255) <<< (8 : Int32))).toBitVec.setWidth 16).setWidth 32) = _
  rw [BitVec.toNat_setWidth, BitVec.toNat_setWidth, g]
  omega
end StrChars
namespace StrChars
open Jvm Sem ClassFile Op Lib Jvm.Stand Jvm.Free.XT Jvm.Free.ALB Jvm.Free.JM Jvm.Free
open Jvm.Lib.Cold (StaticIs)
theorem shr1 {n : Nat} (h : 2 * n < 2 ^ 31) : Int32.ofNat (2 * n) >>> ((1 : Int32) &&& 31) = Int32.ofNat n := by
  have e : ((1 : Int32) &&& 31) = 1 := by decide
  rw [e]
  apply Int32.toBitVec_inj.mp
  rw [Int32.toBitVec_shiftRight]
  have e1 : ((1 : Int32).toBitVec.smod 32) = 1#32 := by decide
  have hm : (BitVec.ofNat 32 (2 * n)).toNat = 2 * n := by rw [BitVec.toNat_ofNat, Nat.mod_eq_of_lt (by omega)]
  rw [e1, BitVec.sshiftRight_eq']
  apply BitVec.eq_of_toNat_eq
  show ((BitVec.ofNat 32 (2 * n)).sshiftRight 1).toNat = (BitVec.ofNat 32 n).toNat
  rw [BitVec.toNat_sshiftRight_of_msb_false (by rw [BitVec.msb_eq_false_iff_two_mul_lt, hm]; omega), hm, BitVec.toNat_ofNat, Nat.shiftRight_eq_div_pow]
  omega
/-- charAt's cast of a byte read back -/
def chr8 (u : Int32) : Int32 := (u &&& 255).toUInt32.toUInt16.toUInt32.toInt32
theorem chr8_lo8 {c : Int32} (h0 : ¬ c < 0) (h1 : ¬ 255 < c) : chr8 (lo8 c) = c := by
  have t : ∀ k : Fin 256, (Int32.ofNat k.val).toUInt32.toUInt16.toUInt32.toInt32 = Int32.ofNat k.val := by decide +kernel
  unfold chr8
  rw [lo8_mask h0 h1]
  rw [Int32.lt_iff_toInt_lt] at h0 h1
  have e0 : (0 : Int32).toInt = 0 := rfl
  have e1 : (255 : Int32).toInt = 255 := rfl
  obtain ⟨k, hk⟩ : ∃ k : Nat, c.toInt = k := ⟨c.toInt.toNat, by omega⟩
  have hx : c = Int32.ofNat k := Int32.toInt_inj.mp (by rw [hk, Int32.toInt_ofNat_small (by omega)])
  rw [hx]
  exact t ⟨k, by omega⟩
theorem narrow_ch {c : Int32} (h0 : ¬ c < 0) (h1 : ¬ 65535 < c) : narrow .char (.int c) = .int c := by
  have q : narrow .char (.int (pairCh (lo8 c) (hi8 c))) = .int (pairCh (lo8 c) (hi8 c)) := narrow_c _
  rwa [pair_says h0 h1] at q
/-- the array's cell V codes the n chars f 0 .. f (n - 1) by the coder cd, as the JDK does: coder 1 just where some char is above 255 -/
def Cod (cd : Int32) (n : Nat) (f : Nat → Int32) (V : Cell) : Prop := (cd = 0 ∧ V.slots.size = n ∧ ∀ j, j < n → V.slots[j]? = some (.int (lo8 (f j))) ∧ ¬ 255 < f j) ∨ (cd = 1 ∧ V.slots.size = 2 * n ∧ (∀ j, j < n → V.slots[2 * j]? = some (.int (lo8 (f j))) ∧ V.slots[2 * j + 1]? = some (.int (hi8 (f j)))) ∧ ∃ j, j < n ∧ 255 < f j)
theorem Cod.cd {cd : Int32} {n : Nat} {f : Nat → Int32} {V : Cell} (h : Cod cd n f V) : cd = 0 ∨ cd = 1 := h.imp (fun q => q.1) fun q => q.1
theorem Cod.len {cd : Int32} {n : Nat} {f : Nat → Int32} {V : Cell} (h : Cod cd n f V) (hs : V.slots.size < 2 ^ 31) : Int32.ofNat V.slots.size >>> (cd &&& 31) = Int32.ofNat n := by
  rcases h with ⟨rfl, h, -⟩ | ⟨rfl, h, -⟩
  · rw [shr0, h]
  · rw [h, shr1 (by omega)]
/-- **x is a String of the n chars f 0 .. f (n - 1)**, Latin-1 or UTF-16; its array at t has the cell V -/
def Txt (x t : Addr) (V : Cell) (cd : Int32) (n : Nat) (f : Nat → Int32) (U : State) : Prop := Exact "java/lang/String" x U ∧ Has x "java/lang/String" "value" "[B" (.ref t) U ∧ Has x "java/lang/String" "coder" "B" (.int cd) U ∧ XT.Arr .byte t V U ∧ Cod cd n f V ∧ ∀ j, j < n → ¬ f j < 0 ∧ ¬ 65535 < f j
theorem Txt.mv {x t : Addr} {V : Cell} {cd : Int32} {n : Nat} {f : Nat → Int32} {U U' : State} (h : Txt x t V cd n f U) (hal : U.vm.Alike U'.vm) (hh : U'.heap = U.heap) : Txt x t V cd n f U' := ⟨h.1.mv hal hh, h.2.1.mv hal hh, h.2.2.1.mv hal hh, h.2.2.2.1.mv hal hh, h.2.2.2.2⟩
namespace Cdr
def yN : MethodName := ⟨"java/lang/String", "coder", "()B"⟩
abbrev yB : ByteArray := jdk_42_method_152_code
theorem d0 : decode yB 0 = .ok (.getstatic 38, 3) := by decide +kernel
theorem d3 : decode yB 3 = .ok (.ifCond (.eq) 10, 3) := by decide +kernel
theorem d6 : decode yB 6 = .ok (.aload_n 0, 1) := by decide +kernel
theorem d7 : decode yB 7 = .ok (.getfield 15, 3) := by decide +kernel
theorem d10 : decode yB 10 = .ok (.goto 4, 3) := by decide +kernel
theorem d14 : decode yB 14 = .ok (.ireturn, 1) := by decide +kernel
def site : List Cond := [.fieldLink "java/lang/String" 38 "java/lang/String" "COMPACT_STRINGS" "Z", .fieldLink "java/lang/String" 15 "java/lang/String" "coder" "B"]
def tab : Cond := tabOf yN yB 1 (some .byte) site
def P (x : Addr) (cd z : Int32) (args : Array Value) (s : State) : Prop := args = #[.ref x] ∧ Has x "java/lang/String" "coder" "B" (.int cd) s ∧ (cd = 0 ∨ cd = 1) ∧ StaticIs s "java/lang/String" "COMPACT_STRINGS" "Z" (.int z) ∧ ¬ z = 0
def E (cd : Int32) (r : Option Value) (s u : State) : Prop := XT.PureE (some (.int cd)) r s u
theorem law (l : Launch) (x : Addr) (cd z : Int32) : Law l yN 1 0 0 0 yB 1 (some .byte) site (P x cd z) (E cd) [] 0 0 := by
  refine Law.of_walk (plainFor_of_name (by decide +kernel)) (by decide +kernel) (by decide +kernel) (by decide) (fun _ _ h => by rw [h.1]; rfl) (fun _ U U' hal hh h => ⟨h.1, h.2.1.mv hal hh, h.2.2.1, h.2.2.2.1.there hal hh, h.2.2.2.2⟩) (fun r U U' V V' h1 hal h2 h => XT.PureE.mv r U U' V V' h1 hal h2 h) ?_
  intro p e s m args below meth c s₁ X0 hexec hbytes hml hret hlk hnm hown hh0 W hP
  obtain ⟨rfl, hx, hc, s1, hz⟩ := hP
  have c1 : Steps p.tables e below (s₁.setTop (entryFrame m #[.ref x] 1)) (s₁.setTop (mkF m 0 #[.val (.ref x)] [])) := entry rfl
  obtain ⟨T2, X2, q2, st2⟩ := X0.sget hexec hown (wk W (.fieldLink "java/lang/String" 38 "java/lang/String" "COMPACT_STRINGS" "Z")) s1 (fun _ _ h => by rw [hh0]; exact h) (g := (mkF m 0 #[.val (.ref x)] [])) rfl (hb hbytes d0)
  have hh2 := q2.trans hh0
  have c3 : Steps p.tables e below (s₁.setTop (entryFrame m #[.ref x] 1)) (T2.setTop (mkF m 7 #[.val (.ref x)] [.ref x])) := (c1.trans (st2 _ (Steps.refl _))).trans (by
    refine XS.ifNo X2.here hexec rfl (hb hbytes d3) rfl (i0_eq_f hz) ?_
    refine XS.aloadN X2.here hexec rfl (hb hbytes d6) rfl rfl ?_
    exact Steps.refl _)
  obtain ⟨T4, X4, q4, st4⟩ := X2.hget hexec hown (wk W (.fieldLink "java/lang/String" 15 "java/lang/String" "coder" "B")) (hx.mv X2.warmed.alike hh2) (g := (mkF m 7 #[.val (.ref x)] [.ref x])) rfl (rest := []) rfl (hb hbytes d7)
  have c5 : Steps p.tables e below (s₁.setTop (entryFrame m #[.ref x] 1)) (T4.setTop (mkF m 14 #[.val (.ref x)] [.int cd])) := (c3.trans (st4 _ (Steps.refl _))).trans (by
    refine XS.goto X4.here hexec rfl (pc0 := 10) rfl (hb hbytes d10) (by decide) rfl ?_
    exact Steps.refl _)
  exact ⟨T4, some (.int cd), _, _, _, X4, rfl, rfl, rfl, (fun h => by cases h), ⟨rfl, q4.trans hh2⟩, fun fs hl => c5.trans (X4.ireturnOut hexec hret (by rcases hc with rfl | rfl <;> rfl) (Or.inr (Or.inr (Or.inl rfl))) (hb hbytes d14) hl)⟩
end Cdr
namespace Len
def yN : MethodName := ⟨"java/lang/String", "length", "()I"⟩
abbrev yB : ByteArray := jdk_42_method_54_code
theorem d0 : decode yB 0 = .ok (.aload_n 0, 1) := by decide +kernel
theorem d1 : decode yB 1 = .ok (.getfield 9, 3) := by decide +kernel
theorem d4 : decode yB 4 = .ok (.arraylength, 1) := by decide +kernel
theorem d5 : decode yB 5 = .ok (.aload_n 0, 1) := by decide +kernel
theorem d6 : decode yB 6 = .ok (.invokevirtual 335, 3) := by decide +kernel
theorem d9 : decode yB 9 = .ok (.ishr, 1) := by decide +kernel
theorem d10 : decode yB 10 = .ok (.ireturn, 1) := by decide +kernel
def site : List Cond := [.fieldLink "java/lang/String" 9 "java/lang/String" "value" "[B", Cdr.tab] ++ virtW "java/lang/String" 335 "java/lang/String" Cdr.yN Cdr.yN
def tab : Cond := tabOf yN yB 1 (some .int) site
def P (x t : Addr) (V : Cell) (cd : Int32) (n : Nat) (f : Nat → Int32) (z : Int32) (args : Array Value) (s : State) : Prop := args = #[.ref x] ∧ Txt x t V cd n f s ∧ StaticIs s "java/lang/String" "COMPACT_STRINGS" "Z" (.int z) ∧ ¬ z = 0
def E (n : Nat) (r : Option Value) (s u : State) : Prop := XT.PureE (some (.int (Int32.ofNat n))) r s u
/-- length() of a String of n chars, in either coding -/
theorem law (l : Launch) (x t : Addr) (V : Cell) (cd : Int32) (n : Nat) (f : Nat → Int32) (z : Int32) : Law l yN 1 0 1 13 yB 1 (some .int) site (P x t V cd n f z) (E n) [] 0 0 := by
  refine Law.of_walk (plainFor_of_name (by decide +kernel)) (by decide +kernel) (by decide +kernel) (by decide) (fun _ _ h => by rw [h.1]; rfl) (fun _ U U' hal hh h => ⟨h.1, h.2.1.mv hal hh, h.2.2.1.there hal hh, h.2.2.2⟩) (fun r U U' V V' h1 hal h2 h => XT.PureE.mv r U U' V V' h1 hal h2 h) ?_
  intro p e s m args below meth c s₁ X0 hexec hbytes hml hret hlk hnm hown hh0 W hP
  obtain ⟨rfl, hx, s1, hz⟩ := hP
  have v31 := hx.2.2.2.1.2.2.2
  have c1 : Steps p.tables e below (s₁.setTop (entryFrame m #[.ref x] 1)) (s₁.setTop (mkF m 1 #[.val (.ref x)] [.ref x])) := Steps.trans (entry rfl) (by
    show Steps p.tables e below (s₁.setTop (mkF m 0 #[.val (.ref x)] [])) _
    refine XS.aloadN X0.here hexec rfl (hb hbytes d0) rfl rfl ?_
    exact Steps.refl _)
  obtain ⟨T2, X2, q2, st2⟩ := X0.hget hexec hown (wk W (.fieldLink "java/lang/String" 9 "java/lang/String" "value" "[B")) (hx.mv X0.warmed.alike hh0).2.1 (g := (mkF m 1 #[.val (.ref x)] [.ref x])) rfl (rest := []) rfl (hb hbytes d1)
  have hh2 := q2.trans hh0
  have hx2 := hx.mv X2.warmed.alike hh2
  have c3 : Steps p.tables e below (s₁.setTop (entryFrame m #[.ref x] 1)) (T2.setTop (mkF m 6 #[.val (.ref x)] [.ref x, .int (Int32.ofNat V.slots.size)])) := (c1.trans (st2 _ (Steps.refl _))).trans (by
    refine X2.alen hexec hx2.2.2.2.1 rfl rfl (hb hbytes d4) ?_
    refine XS.aloadN X2.here hexec rfl (hb hbytes d5) rfl rfl ?_
    exact Steps.refl _)
  obtain ⟨v4, T4, X4, E4, g4⟩ := X2.callV hexec (Cdr.law l x cd z) hown (wks W (virtW "java/lang/String" 335 "java/lang/String" Cdr.yN Cdr.yN)) rfl (by decide) (wk W Cdr.tab) (W := 1) (Nat.le_of_ble_eq_true rfl) (Nat.le_of_ble_eq_true rfl) (Nat.le_refl _) (Nat.le_refl _) (hx2.1.fc X2.warmed.alike) hx2.1.is (g := (mkF m 6 #[.val (.ref x)] [.ref x, .int (Int32.ofNat V.slots.size)])) rfl (by rw [hml]; rfl) c3 (argsL := []) (rest := [.int (Int32.ofNat V.slots.size)]) rfl rfl (by show 2 * 0 + (1 + 0) ≤ _; decide) (hb hbytes d6) (⟨rfl, hx2.2.2.1, hx.2.2.2.2.1.cd, s1.there X2.warmed.alike hh2, hz⟩)
  obtain ⟨rfl, q4⟩ := E4
  have c5 : Steps p.tables e below (s₁.setTop (entryFrame m #[.ref x] 1)) (T4.setTop (mkF m 10 #[.val (.ref x)] [.int (Int32.ofNat V.slots.size >>> (cd &&& 31))])) := Steps.trans g4 (by
    refine ishr X4.here hexec rfl (hb hbytes d9) rfl ?_
    exact Steps.refl _)
  rw [hx.2.2.2.2.1.len v31] at c5
  exact ⟨T4, some (.int (Int32.ofNat n)), _, _, _, X4, rfl, rfl, rfl, (fun h => by cases h), ⟨rfl, q4.trans hh2⟩, fun fs hl => c5.trans (X4.ireturnOut hexec hret rfl (Or.inl rfl) (hb hbytes d10) hl)⟩
theorem pays {l : Launch} {R : Room} {p : Program} {e : Env} {below : List Frame} {s : State} {sargs : Array Value} {len W : Nat} (x t : Addr) (V : Cell) (cd : Int32) (n : Nat) (f : Nat → Int32) (z : Int32) (htab : tab.before sargs s = true) (hfr : 2 ≤ R.frames) (hlo : W + 25 ≤ R.locals) :
    Back l R p e below s sargs yN len W (fun A₁ a₁ => A₁.cells + 0 ≤ R.cells ∧ A₁.slots + 0 ≤ R.slots ∧ P x t V cd n f z a₁ A₁.U) (fun A₁ _ v₁ B₁ => E n v₁ A₁.U B₁.U ∧ B₁.locs = A₁.locs ++ [] ∧ B₁.cells = A₁.cells + 0 ∧ B₁.slots = A₁.slots + 0) :=
  (law l x t V cd n f z).pays htab hfr (by omega)
end Len
namespace IsL
def yN : MethodName := ⟨"java/lang/String", "isLatin1", "()Z"⟩
abbrev yB : ByteArray := jdk_42_method_154_code
theorem d0 : decode yB 0 = .ok (.getstatic 38, 3) := by decide +kernel
theorem d3 : decode yB 3 = .ok (.ifCond (.eq) 14, 3) := by decide +kernel
theorem d6 : decode yB 6 = .ok (.aload_n 0, 1) := by decide +kernel
theorem d7 : decode yB 7 = .ok (.getfield 15, 3) := by decide +kernel
theorem d10 : decode yB 10 = .ok (.ifCond (.ne) 7, 3) := by decide +kernel
theorem d13 : decode yB 13 = .ok (.iconst 1, 1) := by decide +kernel
theorem d14 : decode yB 14 = .ok (.goto 4, 3) := by decide +kernel
theorem d17 : decode yB 17 = .ok (.iconst 0, 1) := by decide +kernel
theorem d18 : decode yB 18 = .ok (.ireturn, 1) := by decide +kernel
def site : List Cond := [.fieldLink "java/lang/String" 38 "java/lang/String" "COMPACT_STRINGS" "Z", .fieldLink "java/lang/String" 15 "java/lang/String" "coder" "B"]
def tab : Cond := tabOf yN yB 1 (some .boolean) site
def P (x : Addr) (cd z : Int32) (args : Array Value) (s : State) : Prop := args = #[.ref x] ∧ Has x "java/lang/String" "coder" "B" (.int cd) s ∧ (cd = 0 ∨ cd = 1) ∧ StaticIs s "java/lang/String" "COMPACT_STRINGS" "Z" (.int z) ∧ ¬ z = 0
def E (cd : Int32) (r : Option Value) (s u : State) : Prop := XT.PureE (some (.int (1 - cd))) r s u
theorem law (l : Launch) (x : Addr) (cd z : Int32) : Law l yN 1 0 0 0 yB 1 (some .boolean) site (P x cd z) (E cd) [] 0 0 := by
  refine Law.of_walk (plainFor_of_name (by decide +kernel)) (by decide +kernel) (by decide +kernel) (by decide) (fun _ _ h => by rw [h.1]; rfl) (fun _ U U' hal hh h => ⟨h.1, h.2.1.mv hal hh, h.2.2.1, h.2.2.2.1.there hal hh, h.2.2.2.2⟩) (fun r U U' V V' h1 hal h2 h => XT.PureE.mv r U U' V V' h1 hal h2 h) ?_
  intro p e s m args below meth c s₁ X0 hexec hbytes hml hret hlk hnm hown hh0 W hP
  obtain ⟨rfl, hx, hc, s1, hz⟩ := hP
  have c1 : Steps p.tables e below (s₁.setTop (entryFrame m #[.ref x] 1)) (s₁.setTop (mkF m 0 #[.val (.ref x)] [])) := entry rfl
  obtain ⟨T2, X2, q2, st2⟩ := X0.sget hexec hown (wk W (.fieldLink "java/lang/String" 38 "java/lang/String" "COMPACT_STRINGS" "Z")) s1 (fun _ _ h => by rw [hh0]; exact h) (g := (mkF m 0 #[.val (.ref x)] [])) rfl (hb hbytes d0)
  have hh2 := q2.trans hh0
  have c3 : Steps p.tables e below (s₁.setTop (entryFrame m #[.ref x] 1)) (T2.setTop (mkF m 7 #[.val (.ref x)] [.ref x])) := (c1.trans (st2 _ (Steps.refl _))).trans (by
    refine XS.ifNo X2.here hexec rfl (hb hbytes d3) rfl (i0_eq_f hz) ?_
    refine XS.aloadN X2.here hexec rfl (hb hbytes d6) rfl rfl ?_
    exact Steps.refl _)
  obtain ⟨T4, X4, q4, st4⟩ := X2.hget hexec hown (wk W (.fieldLink "java/lang/String" 15 "java/lang/String" "coder" "B")) (hx.mv X2.warmed.alike hh2) (g := (mkF m 7 #[.val (.ref x)] [.ref x])) rfl (rest := []) rfl (hb hbytes d7)
  have c5 : Steps p.tables e below (s₁.setTop (entryFrame m #[.ref x] 1)) (T4.setTop (mkF m 10 #[.val (.ref x)] [.int cd])) := c3.trans (st4 _ (Steps.refl _))
  have c6 : Steps p.tables e below (s₁.setTop (entryFrame m #[.ref x] 1)) (T4.setTop (mkF m 18 #[.val (.ref x)] [.int (1 - cd)])) := by
    rcases hc with rfl | rfl
    · exact c5.trans (by
        refine XS.ifNo X4.here hexec rfl (hb hbytes d10) rfl (i0_ne_f rfl) ?_
        refine iconstV X4.here hexec rfl 1 (hb hbytes d13) (by decide) ?_
        refine XS.goto X4.here hexec rfl (pc0 := 14) rfl (hb hbytes d14) (by decide) rfl ?_
        exact Steps.refl _)
    · exact c5.trans (by
        refine XS.ifYes X4.here hexec rfl (pc0 := 10) rfl (hb hbytes d10) rfl (i0_ne_t (by decide)) (by decide) rfl ?_
        refine iconstV X4.here hexec rfl 0 (hb hbytes d17) (by decide) ?_
        exact Steps.refl _)
  exact ⟨T4, some (.int (1 - cd)), _, _, _, X4, rfl, rfl, rfl, (fun h => by cases h), ⟨rfl, q4.trans hh2⟩, fun fs hl => c6.trans (X4.ireturnOut hexec hret (by rcases hc with rfl | rfl <;> rfl) (Or.inr (Or.inl rfl)) (hb hbytes d18) hl)⟩
end IsL
namespace LChA
def yN : MethodName := ⟨"java/lang/StringLatin1", "charAt", "([BI)C"⟩
abbrev yB : ByteArray := jdk_43_method_2_code
theorem d0 : decode yB 0 = .ok (.iload_n 1, 1) := by decide +kernel
theorem d1 : decode yB 1 = .ok (.aload_n 0, 1) := by decide +kernel
theorem d2 : decode yB 2 = .ok (.arraylength, 1) := by decide +kernel
theorem d3 : decode yB 3 = .ok (.invokestatic 9, 3) := by decide +kernel
theorem d6 : decode yB 6 = .ok (.aload_n 0, 1) := by decide +kernel
theorem d7 : decode yB 7 = .ok (.iload_n 1, 1) := by decide +kernel
theorem d8 : decode yB 8 = .ok (.baload, 1) := by decide +kernel
theorem d9 : decode yB 9 = .ok (.sipush 255, 3) := by decide +kernel
theorem d12 : decode yB 12 = .ok (.iand, 1) := by decide +kernel
theorem d13 : decode yB 13 = .ok (.i2c, 1) := by decide +kernel
theorem d14 : decode yB 14 = .ok (.ireturn, 1) := by decide +kernel
def site : List Cond := [JO.Str_checkIndex.tab] ++ staticW "java/lang/StringLatin1" 9 JO.Str_checkIndex.yN
def tab : Cond := tabOf yN yB 2 (some .char) site
def P (t : Addr) (V : Cell) (i : Nat) (u : Int32) (fm : Value) (args : Array Value) (s : State) : Prop := args = #[.ref t, .int (Int32.ofNat i)] ∧ XT.Arr .byte t V s ∧ V.slots[i]? = some (.int u) ∧ (StaticIs s "jdk/internal/util/Preconditions" "SIOOBE_FORMATTER" "Ljava/util/function/BiFunction;" fm ∧ fm.isRef = true)
def E (u : Int32) (r : Option Value) (s w : State) : Prop := XT.PureE (some (.int (chr8 u))) r s w
theorem law (l : Launch) (t : Addr) (V : Cell) (i : Nat) (u : Int32) (fm : Value) : Law l yN 2 2 2 27 yB 2 (some .char) site (P t V i u fm) (E u) [] 0 0 := by
  refine Law.of_walk (plainFor_of_name (by decide +kernel)) (by decide +kernel) (by decide +kernel) (by decide) (fun _ _ h => by rw [h.1]; rfl) (fun _ U U' hal hh h => ⟨h.1, h.2.1.mv hal hh, h.2.2.1, h.2.2.2.1.there hal hh, h.2.2.2.2⟩) (fun r U U' V V' h1 hal h2 h => XT.PureE.mv r U U' V V' h1 hal h2 h) ?_
  intro p e s m args below meth c s₁ X0 hexec hbytes hml hret hlk hnm hown hh0 W hP
  obtain ⟨rfl, hV, hu, s1, rf⟩ := hP
  have v31 := hV.2.2.2
  have hi : i < V.slots.size := (Array.getElem?_eq_some_iff.mp hu).1
  have c1 : Steps p.tables e below (s₁.setTop (entryFrame m #[.ref t, .int (Int32.ofNat i)] 2)) (s₁.setTop (mkF m 0 #[.val (.ref t), .val (.int (Int32.ofNat i))] [])) := entry rfl
  have c2 : Steps p.tables e below (s₁.setTop (entryFrame m #[.ref t, .int (Int32.ofNat i)] 2)) (s₁.setTop (mkF m 3 #[.val (.ref t), .val (.int (Int32.ofNat i))] [.int (Int32.ofNat V.slots.size), .int (Int32.ofNat i)])) := c1.trans (by
    refine XS.iloadN X0.here hexec rfl (hb hbytes d0) rfl ?_
    refine XS.aloadN X0.here hexec rfl (hb hbytes d1) rfl rfl ?_
    refine X0.alen hexec (hV.mv X0.warmed.alike hh0) rfl rfl (hb hbytes d2) ?_
    exact Steps.refl _)
  obtain ⟨v3, T3, X3, E3, g3⟩ := X0.callS hexec (JO.Str_checkIndex.law l (Int32.ofNat i) (Int32.ofNat V.slots.size) fm) hown (wks W (staticW "java/lang/StringLatin1" 9 JO.Str_checkIndex.yN)) (wk W JO.Str_checkIndex.tab) (W := 0) (Nat.le_of_ble_eq_true rfl) (Nat.le_of_ble_eq_true rfl) (Nat.le_refl _) (Nat.le_refl _) (g := (mkF m 3 #[.val (.ref t), .val (.int (Int32.ofNat i))] [.int (Int32.ofNat V.slots.size), .int (Int32.ofNat i)])) rfl (by rw [hml]; rfl) c2 (argsL := [.int (Int32.ofNat i), .int (Int32.ofNat V.slots.size)]) (rest := []) rfl rfl (by show 2 * 0 + 0 ≤ _; decide) (hb hbytes d3) (⟨rfl, rf, s1.there X0.warmed.alike hh0, Int32.ofNat_not_neg (by omega), lt32 v31 hi⟩)
  obtain ⟨rfl, q3⟩ := E3
  have hh3 := q3.trans hh0
  have c4 : Steps p.tables e below (s₁.setTop (entryFrame m #[.ref t, .int (Int32.ofNat i)] 2)) (T3.setTop (mkF m 14 #[.val (.ref t), .val (.int (Int32.ofNat i))] [.int (chr8 u)])) := Steps.trans g3 (by
    refine XS.aloadN X3.here hexec rfl (hb hbytes d6) rfl rfl ?_
    refine XS.iloadN X3.here hexec rfl (hb hbytes d7) rfl ?_
    refine X3.aget hexec (hV.mv X3.warmed.alike hh3) rfl hu rfl rfl (hb hbytes d8) ?_
    refine sipushV X3.here hexec rfl 255 (hb hbytes d9) (by decide) ?_
    refine XS.iand X3.here hexec rfl (hb hbytes d12) rfl ?_
    refine i2c X3.here hexec rfl (hb hbytes d13) rfl ?_
    exact Steps.refl _)
  exact ⟨T3, some (.int (chr8 u)), _, _, _, X3, rfl, rfl, rfl, (fun h => by cases h), ⟨rfl, hh3⟩, fun fs hl => c4.trans (X3.ireturnOut hexec hret (narrow_c _) (Or.inr (Or.inr (Or.inr (Or.inl rfl)))) (hb hbytes d14) hl)⟩
end LChA
end StrChars
namespace StrChars.Road
open Jvm Sem ClassFile Op Lib Jvm.Stand Jvm.Free Jvm.Free.XT
open Jvm.Lib.Cold (StaticIs)
theorem consq {a : Array Value} {s : State} {c : Jvm.Cond} {L : List Jvm.Cond} (h0 : c.before a s = true) (h : ∀ w ∈ L, w.before a s = true) : ∀ w ∈ c :: L, w.before a s = true := fun w hw => (List.mem_cons.mp hw).elim (fun e => e ▸ h0) (h w)
/-- the words of String.length(), either coding -/
abbrev wordsLen : List Jvm.Cond := [.code Len.yN Len.yB 1 (some .int), .initialized ST, .fieldLink ST 9 ST "value" "[B", .fieldLink ST 38 ST "COMPACT_STRINGS" "Z", .fieldLink ST 15 ST "coder" "B", .code Cdr.yN Cdr.yB 1 (some .byte), .methodLink ST 335 Cdr.yN, .declares Cdr.yN, .selects ST Cdr.yN Cdr.yN, .instanceMethod Cdr.yN]
theorem tabLen_of {a : Array Value} {s : State} (h : ∀ w ∈ wordsLen, w.before a s = true) : Len.tab.before a s = true := by
  have hc : Cdr.tab.before a s = true := unparts (wk h (.code Cdr.yN Cdr.yB 1 (some .byte))) (wks h (.initialized Cdr.yN.cls :: Cdr.site))
  have q := consq hc h
  exact unparts (wk q (.code Len.yN Len.yB 1 (some .int))) (wks q (.initialized Len.yN.cls :: Len.site))
theorem movedLen {Z s : State} {a0 args : Array Value} (hZ : Z.Warmed39 s.vm) (hw : ∀ d ∈ wordsLen, d.before a0 Z = true) : ∀ d ∈ wordsLen, d.before args s = true := fun d hd => by
  have q := hw d hd
  have t : ∀ d ∈ wordsLen, d = .arrayClass .byte ∨ (d.onTables && d.keepsFace) = true := by decide +kernel
  rcases t d hd with rfl | t
  · exact RoadKit.mvA hZ q
  · exact RoadKit.mv hZ q t
/-- the bytes of the chars cs, low before high -/
def wideBytes : List Int32 → List Value
  | [] => []
  | c :: cs => .int (lo8 c) :: .int (hi8 c) :: wideBytes cs
theorem wide_lo (d : Value) : ∀ (cs : List Int32) (j : Nat), j < cs.length → (wideBytes cs).getD (2 * j) d = .int (lo8 (cs.getD j 0))
  | [], j, h => absurd h (Nat.not_lt_zero j)
  | c :: cs, 0, _ => rfl
  | c :: cs, j + 1, h => by
    have q := wide_lo d cs j (by simpa using h)
    rw [show 2 * (j + 1) = 2 * j + 1 + 1 from by omega]
    simpa [wideBytes] using q
theorem wide_hi (d : Value) : ∀ (cs : List Int32) (j : Nat), j < cs.length → (wideBytes cs).getD (2 * j + 1) d = .int (hi8 (cs.getD j 0))
  | [], j, h => absurd h (Nat.not_lt_zero j)
  | c :: cs, 0, _ => rfl
  | c :: cs, j + 1, h => by
    have q := wide_hi d cs j (by simpa using h)
    rw [show 2 * (j + 1) + 1 = 2 * j + 1 + 1 + 1 from by omega]
    simpa [wideBytes] using q
theorem low_at (d : Value) (cs : List Int32) (j : Nat) (h : j < cs.length) : (cs.map fun c => Value.int (lo8 c)).getD j d = .int (lo8 (cs.getD j 0)) := by
  simp [List.getD_eq_getElem?_getD, h]
/-- an array of N2 bytes vs codes the chars cs by the coder cd -/
def CodA (cs : List Int32) (cd N2 : Int32) (vs : List Value) : Prop := (cd = 0 ∧ N2 = Int32.ofNat cs.length ∧ vs = (cs.map fun c => Value.int (lo8 c)) ∧ ∀ c ∈ cs, ¬ 255 < c) ∨ (cd = 1 ∧ N2 = Int32.ofNat (2 * cs.length) ∧ vs = wideBytes cs ∧ ∃ c ∈ cs, 255 < c)
theorem CodA.cod {cs : List Int32} {cd N2 : Int32} {vs : List Value} {V : Cell} (h : CodA cs cd N2 vs) (hn : 2 * cs.length < 2 ^ 31) (hs : V.slots.size = N2.toNatClampNeg) (hv : RoadKit.Has V vs (.int 0)) : Cod cd cs.length (fun j => cs.getD j 0) V := by
  rcases h with ⟨rfl, rfl, rfl, h⟩ | ⟨rfl, rfl, rfl, c, hc, hw⟩
  · rw [n32 (by omega)] at hs
    exact Or.inl ⟨rfl, hs, fun j hj => ⟨by rw [hv j (by omega), low_at _ _ _ hj], by
      have e : cs.getD j 0 = cs[j] := by simp [List.getD_eq_getElem?_getD, hj]
      show ¬ 255 < cs.getD j 0
      rw [e]; exact h _ (List.getElem_mem _)⟩⟩
  · rw [n32 (by omega)] at hs
    obtain ⟨j, hj, rfl⟩ := List.getElem_of_mem hc
    exact Or.inr ⟨rfl, hs, fun j hj => ⟨by rw [hv _ (by omega), wide_lo _ _ _ hj], by rw [hv _ (by omega), wide_hi _ _ _ hj]⟩, j, hj, by
      have e : cs.getD j 0 = cs[j] := by simp [List.getD_eq_getElem?_getD, hj]
      show 255 < cs.getD j 0
      rw [e]; exact hw⟩
/-- an object of exactly java/lang/String, its two fields found: as the laws ask it -/
theorem strObj {Z U : State} {a0 : Array Value} {kI : Nat} (wi : (Jvm.Cond.instantiable ST kI).before a0 Z = true) (al : Z.vm.Alike U.vm) {x : Addr} {v0 c0 : Value} (E : RoadKit.Exa Z U.heap x ST) (V : RoadKit.Fld Z U.heap x ST "value" "[B" v0) (C : RoadKit.Fld Z U.heap x ST "coder" "B" c0) :
    ∃ (D : Cell) (fV fC : Field), Blank ST x D U ∧ Found ST "value" "[B" fV U ∧ Found ST "coder" "B" fC U ∧ D.slots[fV.slot]? = some v0 ∧ D.slots[fC.slot]? = some c0 ∧ RoadKit.slotOf Z ST "value" "[B" = fV.slot ∧ RoadKit.slotOf Z ST "coder" "B" = fC.slot := by
  obtain ⟨D, cfV, kV, iV, fV, hD, gV, stV, knV, obV, asV, slV⟩ := V
  obtain ⟨D', cfC, kC, iC, fC, hD', gC, stC, -, -, asC, slC⟩ := C
  cases hD.symm.trans hD'
  obtain ⟨D2, kD, e1, e2, e3, e4, e5⟩ := E
  cases hD.symm.trans e1
  obtain ⟨c2, k2, i1, i2, i3, -⟩ := Cond.instantiable_spec wi
  cases e2.symm.trans i1
  cases e3.symm.trans i2
  obtain ⟨kU, u1, u2⟩ := al.2.2 _ _ e3
  exact ⟨D, fV, fC, ⟨hD, ⟨knV, fun q hq => by rw [hq] at obV; cases obV⟩, by rw [al.findClass]; exact e2, kU, u1, by rw [u2]; exact i3, by rw [u2]; exact e5 i3⟩, ⟨SBG.found_only al ⟨cfV, kV, iV, gV⟩, stV⟩, ⟨SBG.found_only al ⟨cfC, kC, iC, gC⟩, stC⟩, slV, slC, by simp [RoadKit.slotOf, gV], by simp [RoadKit.slotOf, gC]⟩
theorem sta_is {Z U : State} (al : Z.vm.Alike U.vm) {C n d : String} {v : Value} (S : RoadKit.Sta Z U.heap C n d v) : StaticIs U C n d v := by
  obtain ⟨cfS, iS, kS, fS, st, cS, t1, t2, t3, t4, t5, t6, t7⟩ := S
  exact StaticIs.there (s := { Z with heap := U.heap }) ⟨cfS, iS, kS, fS, st, cS, t1, t2, t3, t4, t5, (fun q => by rw [q] at t6; cases t6), t7⟩ al rfl
/-- **length() OF SUCH A STRING** -/
theorem lenW {p : Program} {l : Launch} {e : Env} {R : Room} {s : State} {args : Array Value} {below : List Frame} {len W : Nat} {Z : State} {a0 : Array Value} {h : Heap} (hZ : Z.Warmed39 s.vm) (hw : ∀ d ∈ wordsLen, d.before a0 Z = true) {kI : Nat} (wi : (Jvm.Cond.instantiable ST kI).before a0 Z = true)
    {x t : Addr} {kb : ClassId} {cs : List Int32} {cd N2 z : Int32} {vs : List Value} (E : RoadKit.Exa Z h x ST) (V : RoadKit.Fld Z h x ST "value" "[B" (.ref t)) (C : RoadKit.Fld Z h x ST "coder" "B" (.int cd)) (K : RoadKit.Arv Z h t kb .byte N2 vs (.int 0)) (hc : CodA cs cd N2 vs) (hb : ∀ c ∈ cs, ¬ c < 0 ∧ ¬ (65535 : Int32) < c)
    (S : RoadKit.Sta Z h ST "COMPACT_STRINGS" "Z" (.int z)) (hz : ¬ z = 0) (l2 : cs.length ≤ 4000) (hfr : 2 ≤ R.frames) (hlo : W + 25 ≤ R.locals) :
    Back l R p e below s args (⟨"java/lang/String", "length", "()I"⟩ : MethodName) len W (fun P a => a = #[.ref x] ∧ P.U.heap = h ∧ P.cells + 0 ≤ R.cells ∧ P.slots + 0 ≤ R.slots)
      (fun P _ v B => ∃ L, (v = some (.int (Int32.ofNat cs.length)) ∧ L = [] ∧ B.U.heap = h) ∧ B.locs = P.locs ++ L ∧ B.cells = P.cells + 0 ∧ B.slots = P.slots + 0) := by
  obtain ⟨A, K1, K2, K3, K4, K5, K6⟩ := K
  have hcod := hc.cod (by omega) K3 K5
  intro m meth c P g ig mk a X hg hsize hdg hW hn hp'
  obtain ⟨rfl, rfl, r1, r2⟩ := hp'
  have al : Z.vm.Alike P.U.vm := hZ.alike.trans X.warmed.alike
  obtain ⟨D, fV, fC, hB, F1, F2, g1, g2, -, -⟩ := strObj wi al E V C
  have hx : Txt x t A cd cs.length (fun j => cs.getD j 0) P.U := ⟨⟨_, hB.2.2.1, D, hB.1, rfl, by cases q : D.vm <;> first | rfl | exact absurd q (hB.2.1.2 _)⟩, Has.of hB F1 g1, Has.of hB F2 g2, ⟨K1.1, State.isArrayOf_alike al K1.2.1, K1.2.2, by rcases hcod with ⟨-, q, -⟩ | ⟨-, q, -⟩ <;> omega⟩, hcod, fun j hj => by
    have e : cs.getD j 0 = cs[j] := by simp [List.getD_eq_getElem?_getD, hj]
    show ¬ cs.getD j 0 < 0 ∧ ¬ 65535 < cs.getD j 0
    rw [e]; exact hb _ (List.getElem_mem _)⟩
  obtain ⟨v, B, X', ⟨⟨hv, hh⟩, hl, hk, hs⟩, st⟩ := Len.pays x t A cd cs.length (fun j => cs.getD j 0) z (tabLen_of (movedLen hZ hw)) hfr hlo m meth c P g ig mk _ X hg hsize hdg hW hn ⟨r1, r2, rfl, hx, sta_is al S, hz⟩
  exact ⟨v, B, X', ⟨[], ⟨hv, rfl, hh⟩, hl, hk, hs⟩, st⟩
end StrChars.Road
namespace StrChars.Road
open Jvm Sem ClassFile Op Lib Jvm.Stand Jvm.Free Jvm.Free.XT
open Jvm.Lib.Cold (StaticIs)
/-- the road's facts of a String, as the laws ask it -/
theorem txt_of {Z U : State} {a0 : Array Value} {kI : Nat} (wi : (Jvm.Cond.instantiable ST kI).before a0 Z = true) (al : Z.vm.Alike U.vm) {x t : Addr} {kb : ClassId} {cs : List Int32} {cd N2 : Int32} {vs : List Value} (E : RoadKit.Exa Z U.heap x ST) (V : RoadKit.Fld Z U.heap x ST "value" "[B" (.ref t)) (C : RoadKit.Fld Z U.heap x ST "coder" "B" (.int cd)) (K : RoadKit.Arv Z U.heap t kb .byte N2 vs (.int 0)) (hc : CodA cs cd N2 vs) (hb : ∀ c ∈ cs, ¬ c < 0 ∧ ¬ (65535 : Int32) < c) (l2 : cs.length ≤ 4000) :
    ∃ A, Txt x t A cd cs.length (fun j => cs.getD j 0) U := by
  obtain ⟨A, K1, K2, K3, K4, K5, K6⟩ := K
  have hcod := hc.cod (by omega) K3 K5
  obtain ⟨D, fV, fC, hB, F1, F2, g1, g2, -, -⟩ := strObj wi al E V C
  exact ⟨A, ⟨_, hB.2.2.1, D, hB.1, rfl, by cases q : D.vm <;> first | rfl | exact absurd q (hB.2.1.2 _)⟩, Has.of hB F1 g1, Has.of hB F2 g2, ⟨K1.1, State.isArrayOf_alike al K1.2.1, K1.2.2, by rcases hcod with ⟨-, q, -⟩ | ⟨-, q, -⟩ <;> omega⟩, hcod, fun j hj => by
    have e : cs.getD j 0 = cs[j] := by simp [List.getD_eq_getElem?_getD, hj]
    show ¬ cs.getD j 0 < 0 ∧ ¬ 65535 < cs.getD j 0
    rw [e]; exact hb _ (List.getElem_mem _)⟩
end StrChars.Road
namespace StrChars
open Jvm Sem ClassFile Op Lib Jvm.Stand Jvm.Free.XT Jvm.Free.ALB Jvm.Free.JM Jvm.Free
open Jvm.Lib.Cold (StaticIs)
namespace ChN
def yN : MethodName := ⟨"java/lang/String", "charAt", "(I)C"⟩
abbrev yB : ByteArray := jdk_42_method_56_code
theorem d0 : decode yB 0 = .ok (.aload_n 0, 1) := by decide +kernel
theorem d1 : decode yB 1 = .ok (.invokevirtual 492, 3) := by decide +kernel
theorem d4 : decode yB 4 = .ok (.ifCond (.eq) 12, 3) := by decide +kernel
theorem d7 : decode yB 7 = .ok (.aload_n 0, 1) := by decide +kernel
theorem d8 : decode yB 8 = .ok (.getfield 9, 3) := by decide +kernel
theorem d11 : decode yB 11 = .ok (.iload_n 1, 1) := by decide +kernel
theorem d12 : decode yB 12 = .ok (.invokestatic 495, 3) := by decide +kernel
theorem d15 : decode yB 15 = .ok (.ireturn, 1) := by decide +kernel
def site : List Cond := [.fieldLink "java/lang/String" 9 "java/lang/String" "value" "[B", IsL.tab, LChA.tab] ++ virtW "java/lang/String" 492 "java/lang/String" IsL.yN IsL.yN ++ staticW "java/lang/String" 495 LChA.yN
def tab : Cond := tabOf yN yB 2 (some .char) site
def P (x t : Addr) (V : Cell) (n : Nat) (f : Nat → Int32) (z : Int32) (fm : Value) (i : Nat) (args : Array Value) (s : State) : Prop := args = #[.ref x, .int (Int32.ofNat i)] ∧ Txt x t V 0 n f s ∧ i < n ∧ StaticIs s "java/lang/String" "COMPACT_STRINGS" "Z" (.int z) ∧ ¬ z = 0 ∧ StaticIs s "jdk/internal/util/Preconditions" "SIOOBE_FORMATTER" "Ljava/util/function/BiFunction;" fm ∧ fm.isRef = true
def E (f : Nat → Int32) (i : Nat) (r : Option Value) (s u : State) : Prop := XT.PureE (some (.int (f i))) r s u
/-- charAt(i) of a Latin-1 String of n chars, i < n: f i -/
theorem law (l : Launch) (x t : Addr) (V : Cell) (n : Nat) (f : Nat → Int32) (z : Int32) (fm : Value) (i : Nat) : Law l yN 2 1 3 40 yB 2 (some .char) site (P x t V n f z fm i) (E f i) [] 0 0 := by
  refine Law.of_walk (plainFor_of_name (by decide +kernel)) (by decide +kernel) (by decide +kernel) (by decide) (fun _ _ h => by rw [h.1]; rfl) (fun _ U U' hal hh h => ⟨h.1, h.2.1.mv hal hh, h.2.2.1, h.2.2.2.1.there hal hh, h.2.2.2.2.1, h.2.2.2.2.2.1.there hal hh, h.2.2.2.2.2.2⟩) (fun r U U' V V' h1 hal h2 h => XT.PureE.mv r U U' V V' h1 hal h2 h) ?_
  intro p e s m args below meth c s₁ X0 hexec hbytes hml hret hlk hnm hown hh0 W hP
  obtain ⟨rfl, hx, hi, s1, hz, s3, rf⟩ := hP
  have v31 := hx.2.2.2.1.2.2.2
  have hr := hx.2.2.2.2.2 i hi
  have hx0 := hx.mv X0.warmed.alike hh0
  have c1 : Steps p.tables e below (s₁.setTop (entryFrame m #[.ref x, .int (Int32.ofNat i)] 2)) (s₁.setTop (mkF m 1 #[.val (.ref x), .val (.int (Int32.ofNat i))] [.ref x])) := Steps.trans (entry rfl) (by
    show Steps p.tables e below (s₁.setTop (mkF m 0 #[.val (.ref x), .val (.int (Int32.ofNat i))] [])) _
    refine XS.aloadN X0.here hexec rfl (hb hbytes d0) rfl rfl ?_
    exact Steps.refl _)
  obtain ⟨v2, T2, X2, E2, g2⟩ := X0.callV hexec (IsL.law l x 0 z) hown (wks W (virtW "java/lang/String" 492 "java/lang/String" IsL.yN IsL.yN)) rfl (by decide) (wk W IsL.tab) (W := 0) (Nat.le_of_ble_eq_true rfl) (Nat.le_of_ble_eq_true rfl) (Nat.le_refl _) (Nat.le_refl _) (hx0.1.fc X0.warmed.alike) hx0.1.is (g := (mkF m 1 #[.val (.ref x), .val (.int (Int32.ofNat i))] [.ref x])) rfl (by rw [hml]; rfl) c1 (argsL := []) (rest := []) rfl rfl (by show 2 * 0 + 0 ≤ _; decide) (hb hbytes d1) (⟨rfl, hx0.2.2.1, hx.2.2.2.2.1.cd, s1.there X0.warmed.alike hh0, hz⟩)
  obtain ⟨rfl, q2⟩ := E2
  have hh2 := q2.trans hh0
  have hx2 := hx.mv X2.warmed.alike hh2
  obtain ⟨-, k1, k2⟩ | ⟨k0, -⟩ := hx.2.2.2.2.1
  · have c3 : Steps p.tables e below (s₁.setTop (entryFrame m #[.ref x, .int (Int32.ofNat i)] 2)) (T2.setTop (mkF m 8 #[.val (.ref x), .val (.int (Int32.ofNat i))] [.ref x])) := Steps.trans g2 (by
      refine XS.ifNo X2.here hexec rfl (hb hbytes d4) rfl (i0_eq_f (by decide)) ?_
      refine XS.aloadN X2.here hexec rfl (hb hbytes d7) rfl rfl ?_
      exact Steps.refl _)
    obtain ⟨T4, X4, q4, st4⟩ := X2.hget hexec hown (wk W (.fieldLink "java/lang/String" 9 "java/lang/String" "value" "[B")) hx2.2.1 (g := (mkF m 8 #[.val (.ref x), .val (.int (Int32.ofNat i))] [.ref x])) rfl (rest := []) rfl (hb hbytes d8)
    have hh4 := q4.trans hh2
    have c5 : Steps p.tables e below (s₁.setTop (entryFrame m #[.ref x, .int (Int32.ofNat i)] 2)) (T4.setTop (mkF m 12 #[.val (.ref x), .val (.int (Int32.ofNat i))] [.int (Int32.ofNat i), .ref t])) := (c3.trans (st4 _ (Steps.refl _))).trans (by
      refine XS.iloadN X4.here hexec rfl (hb hbytes d11) rfl ?_
      exact Steps.refl _)
    obtain ⟨v6, T6, X6, E6, g6⟩ := X4.callS hexec (LChA.law l t V i (lo8 (f i)) fm) hown (wks W (staticW "java/lang/String" 495 LChA.yN)) (wk W LChA.tab) (W := 0) (Nat.le_of_ble_eq_true rfl) (Nat.le_of_ble_eq_true rfl) (Nat.le_refl _) (Nat.le_refl _) (g := (mkF m 12 #[.val (.ref x), .val (.int (Int32.ofNat i))] [.int (Int32.ofNat i), .ref t])) rfl (by rw [hml]; rfl) c5 (argsL := [.ref t, .int (Int32.ofNat i)]) (rest := []) rfl rfl (by show 2 * 0 + 0 ≤ _; decide) (hb hbytes d12) (⟨rfl, hx.2.2.2.1.mv X4.warmed.alike hh4, (k2 i hi).1, s3.there X4.warmed.alike hh4, rf⟩)
    obtain ⟨rfl, q6⟩ := E6
    rw [chr8_lo8 hr.1 (k2 i hi).2] at g6
    exact ⟨T6, some (.int (f i)), _, _, _, X6, rfl, rfl, rfl, (fun h => by cases h), ⟨rfl, q6.trans hh4⟩, fun fs hl => Steps.trans g6 (X6.ireturnOut hexec hret (narrow_ch hr.1 hr.2) (Or.inr (Or.inr (Or.inr (Or.inl rfl)))) (hb hbytes d15) hl)⟩
  · exact absurd k0 (by decide)
theorem pays {l : Launch} {R : Room} {p : Program} {e : Env} {below : List Frame} {s : State} {sargs : Array Value} {len W : Nat} (x t : Addr) (V : Cell) (n : Nat) (f : Nat → Int32) (z : Int32) (fm : Value) (i : Nat) (htab : tab.before sargs s = true) (hfr : 4 ≤ R.frames) (hlo : W + 53 ≤ R.locals) :
    Back l R p e below s sargs yN len W (fun A₁ a₁ => A₁.cells + 0 ≤ R.cells ∧ A₁.slots + 0 ≤ R.slots ∧ P x t V n f z fm i a₁ A₁.U) (fun A₁ _ v₁ B₁ => E f i v₁ A₁.U B₁.U ∧ B₁.locs = A₁.locs ++ [] ∧ B₁.cells = A₁.cells + 0 ∧ B₁.slots = A₁.slots + 0) :=
  (law l x t V n f z fm i).pays htab hfr (by omega)
end ChN
end StrChars
namespace StrChars.Road
open Jvm Sem ClassFile Op Lib Jvm.Stand Jvm.Free Jvm.Free.XT
open Jvm.Lib.Cold (StaticIs)
/-- the words of String.charAt(int), the Latin-1 road alone -/
abbrev wordsChN : List Jvm.Cond := [.code ChN.yN ChN.yB 2 (some .char), .initialized ST, .fieldLink ST 9 ST "value" "[B", .fieldLink ST 38 ST "COMPACT_STRINGS" "Z", .fieldLink ST 15 ST "coder" "B", .code IsL.yN IsL.yB 1 (some .boolean), .methodLink ST 492 IsL.yN, .declares IsL.yN, .selects ST IsL.yN IsL.yN, .instanceMethod IsL.yN,
  .methodLink ST 495 LChA.yN, .static LChA.yN, .code LChA.yN LChA.yB 2 (some .char), .initialized "java/lang/StringLatin1", .methodLink "java/lang/StringLatin1" 9 JO.Str_checkIndex.yN, .static JO.Str_checkIndex.yN, .code JO.Str_checkIndex.yN JO.Str_checkIndex.yB 2 none,
  .fieldLink ST 1053 "jdk/internal/util/Preconditions" "SIOOBE_FORMATTER" "Ljava/util/function/BiFunction;", .methodLink ST 1059 JC.PreCheck.yN, .static JC.PreCheck.yN, .code JC.PreCheck.yN JC.PreCheck.yB 3 (some .int), .initialized "jdk/internal/util/Preconditions"]
theorem tabChN_of {a : Array Value} {s : State} (h : ∀ w ∈ wordsChN, w.before a s = true) : ChN.tab.before a s = true := by
  have hp : JC.PreCheck.tab.before a s = true := unparts (wk h (.code JC.PreCheck.yN JC.PreCheck.yB 3 (some .int))) (wks h (.initialized JC.PreCheck.yN.cls :: JC.PreCheck.site))
  have qk := consq hp h
  have hk : JO.Str_checkIndex.tab.before a s = true := unparts (wk qk (.code JO.Str_checkIndex.yN JO.Str_checkIndex.yB 2 none)) (wks qk (.initialized JO.Str_checkIndex.yN.cls :: JO.Str_checkIndex.site))
  have ql := consq hk h
  have hl : LChA.tab.before a s = true := unparts (wk ql (.code LChA.yN LChA.yB 2 (some .char))) (wks ql (.initialized LChA.yN.cls :: LChA.site))
  have hi : IsL.tab.before a s = true := unparts (wk h (.code IsL.yN IsL.yB 1 (some .boolean))) (wks h (.initialized IsL.yN.cls :: IsL.site))
  have q := consq hi (consq hl h)
  exact unparts (wk q (.code ChN.yN ChN.yB 2 (some .char))) (wks q (.initialized ChN.yN.cls :: ChN.site))
theorem movedChN {Z s : State} {a0 args : Array Value} (hZ : Z.Warmed39 s.vm) (hw : ∀ d ∈ wordsChN, d.before a0 Z = true) : ∀ d ∈ wordsChN, d.before args s = true := fun d hd => by
  have t : ∀ d ∈ wordsChN, (d.onTables && d.keepsFace) = true := by decide +kernel
  exact RoadKit.mv hZ (hw d hd) (t d hd)
/-- **charAt(i) OF A LATIN-1 STRING**, i < n: the char -/
theorem chN {p : Program} {l : Launch} {e : Env} {R : Room} {s : State} {args : Array Value} {below : List Frame} {len W : Nat} {Z : State} {a0 : Array Value} {h : Heap} (hZ : Z.Warmed39 s.vm) (hw : ∀ d ∈ wordsChN, d.before a0 Z = true) {kI : Nat} (wi : (Jvm.Cond.instantiable ST kI).before a0 Z = true)
    {x t : Addr} {kb : ClassId} {cs : List Int32} {N2 z : Int32} {vs : List Value} {fm : Value} {i : Nat} {j : Int32} (E : RoadKit.Exa Z h x ST) (V : RoadKit.Fld Z h x ST "value" "[B" (.ref t)) (C : RoadKit.Fld Z h x ST "coder" "B" (.int 0)) (K : RoadKit.Arv Z h t kb .byte N2 vs (.int 0)) (hc : CodA cs 0 N2 vs) (hb : ∀ c ∈ cs, ¬ c < 0 ∧ ¬ (65535 : Int32) < c)
    (S : RoadKit.Sta Z h ST "COMPACT_STRINGS" "Z" (.int z)) (hz : ¬ z = 0) (F : RoadKit.Sta Z h "jdk/internal/util/Preconditions" "SIOOBE_FORMATTER" "Ljava/util/function/BiFunction;" fm) (rf : fm.isRef = true) (l2 : cs.length ≤ 4000) (hi : i < cs.length) (hj : j = Int32.ofNat i) (hfr : 4 ≤ R.frames) (hlo : W + 53 ≤ R.locals) :
    Back l R p e below s args (⟨"java/lang/String", "charAt", "(I)C"⟩ : MethodName) len W (fun P a => a = #[.ref x, .int j] ∧ P.U.heap = h ∧ P.cells + 0 ≤ R.cells ∧ P.slots + 0 ≤ R.slots)
      (fun P _ v B => ∃ L, (v = some (.int (cs.getD i 0)) ∧ L = [] ∧ B.U.heap = h) ∧ B.locs = P.locs ++ L ∧ B.cells = P.cells + 0 ∧ B.slots = P.slots + 0) := by
  subst hj
  intro m meth c P g ig mk a X hg hsize hdg hW hn hp'
  obtain ⟨rfl, rfl, r1, r2⟩ := hp'
  have al : Z.vm.Alike P.U.vm := hZ.alike.trans X.warmed.alike
  obtain ⟨A, hx⟩ := txt_of wi al E V C K hc hb l2
  obtain ⟨v, B, X', ⟨⟨hv, hh⟩, hl, hk, hs⟩, st⟩ := ChN.pays x t A cs.length (fun j => cs.getD j 0) z fm i (tabChN_of (movedChN hZ hw)) hfr hlo m meth c P g ig mk _ X hg hsize hdg hW hn ⟨r1, r2, rfl, hx, hi, sta_is al S, hz, sta_is al F, rf⟩
  exact ⟨v, B, X', ⟨[], ⟨hv, rfl, hh⟩, hl, hk, hs⟩, st⟩
/-- what backV says of its String, as the contracts of this text ask it: cs's low bytes, coder 0 -/
theorem codOf {cs : List Int32} {n : Nat} (hn : cs.length = n) (hb : ∀ c ∈ cs, ¬ 255 < c) : CodA cs 0 (Int32.ofNat n) ((cs.map lo8).map Value.int) := Or.inl ⟨rfl, by rw [hn], by simp [List.map_map, Function.comp_def], hb⟩
end StrChars.Road
end Jvm.Pilot.@@N@@
namespace Jvm.Pilot.@@N@@
open Jvm Jvm.ClassFile Sem Op Lib Jvm.Free Jvm.Stand Jvm.LawKit Jvm.RoadKit Bundle Jvm.Pilot.@@N@@.Jvm.D
theorem tw {Z : State} {a0 : Array Value} (hw : ∀ d ∈ tables_1, d.before a0 Z = true) (i : Nat) {d : Jvm.Cond} (h : tables_1[i]? = some d) : d.before a0 Z = true := hw _ (List.mem_of_getElem? h)
theorem leW {a b : Nat} (h : 2 * 0 + a = b) : 2 * 0 + a ≤ b := Nat.le_of_eq h
theorem leB {a b : Nat} (h : Nat.ble a b = true) : a ≤ b := Nat.le_of_ble_eq_true h
theorem own_wS : ∀ d ∈ Bundle.stringAtoms, d ∈ tables_1 := by decide +kernel
def own_Env (Z : State) : Prop := (∃ G : Int32, Sta Z Z.heap "java/lang/String" "COMPACT_STRINGS" "Z" (.int G) ∧ ¬ G = 0) ∧ ∃ G : Value, Sta Z Z.heap "jdk/internal/util/Preconditions" "SIOOBE_FORMATTER" "Ljava/util/function/BiFunction;" G ∧ G.isRef = true
def own_Str (Z : State) (h : Heap) (x t : Addr) (cs : List Int32) : Prop := Exa Z h x "java/lang/String" ∧ Fld Z h x "java/lang/String" "value" "[B" (.ref t) ∧ Fld Z h x "java/lang/String" "coder" "B" (.int 0) ∧ (∃ (kb : ClassId) (N2 : Int32) (vs : List Value), Arv Z h t kb .byte N2 vs (.int 0) ∧ StrChars.Road.CodA cs 0 N2 vs) ∧ (∀ c ∈ cs, ¬ c < 0 ∧ ¬ (255 : Int32) < c) ∧ cs.length ≤ 4000
section OwnStr
variable {Z : State} {h h' : Heap} {x t : Addr} {cs : List Int32}
theorem own_Str.ext (F : own_Str Z h x t cs) (E : Ext h h') : own_Str Z h' x t cs := by
  obtain ⟨f1, f2, f3, ⟨kb, N2, vs, f4, f5⟩, f6⟩ := F
  exact ⟨Exa.ext E f1, Fld.ext E f2, Fld.ext E f3, ⟨kb, N2, vs, f4.ext E, f5⟩, f6⟩
theorem own_Str.other {a : Addr} {sl : Nat} {v : Value} (F : own_Str Z h x t cs) (W : Wr h h' a sl v) (n1 : x ≠ a) (n2 : t ≠ a) : own_Str Z h' x t cs := by
  obtain ⟨f1, f2, f3, ⟨kb, N2, vs, f4, f5⟩, f6⟩ := F
  exact ⟨Exa.wr W f1, f2.other W (Or.inl n1), f3.other W (Or.inl n1), ⟨kb, N2, vs, f4.other W n2, f5⟩, f6⟩
theorem own_Str.keep {ws : List Addr} (F : own_Str Z h x t cs) (K : Keep h h' ws) (n1 : x ∉ ws) (n2 : t ∉ ws) : own_Str Z h' x t cs := by
  obtain ⟨f1, f2, f3, ⟨kb, N2, vs, f4, f5⟩, f6⟩ := F
  exact ⟨f1.keep K, f2.keep K n1, f3.keep K n1, ⟨kb, N2, vs, f4.keep K n2, f5⟩, f6⟩
theorem own_Str.lt1 (F : own_Str Z h x t cs) : x < h.size := F.1.lt
theorem own_Str.lt2 (F : own_Str Z h x t cs) : t < h.size := by obtain ⟨-, -, -, ⟨kb, N2, vs, f4, -⟩, -⟩ := F; exact f4.lt
theorem own_up (F : ∀ c ∈ cs, ¬ c < 0 ∧ ¬ (255 : Int32) < c) : ∀ c ∈ cs, ¬ c < 0 ∧ ¬ (65535 : Int32) < c := fun c hc => ⟨(F c hc).1, fun q => (F c hc).2 (by rw [Int32.lt_iff_toInt_lt] at q ⊢; have e1 : (65535 : Int32).toInt = 65535 := rfl; have e2 : (255 : Int32).toInt = 255 := rfl; omega)⟩
end OwnStr
theorem own_pdNew : parseMethodDescriptor "([C)V" = some ⟨[(.array .char)], none⟩ := by decide +kernel
theorem own_pdLen : parseMethodDescriptor "()I" = some ⟨[], some .int⟩ := by decide +kernel
theorem own_pdChr : parseMethodDescriptor "(I)C" = some ⟨[.int], some .char⟩ := by decide +kernel
theorem own_pdEq : parseMethodDescriptor "(Ljava/lang/Object;)Z" = some ⟨[(.object "java/lang/Object")], some .boolean⟩ := by decide +kernel
theorem own_pdEmp : parseMethodDescriptor "()Z" = some ⟨[], some .boolean⟩ := by decide +kernel
section OwnCalls
variable {p : Program} {l : Launch} {e : Env} {R : Room} {s : State} {args : Array Value} {below : List Frame} {len W : Nat} {Z : State} {a0 : Array Value} {h : Heap} {n0 : Nat}
theorem own_wNew : ∀ d ∈ StrChars.Road.words, d ∈ tables_1 := by decide +kernel
theorem own_new (hZ : Z.Warmed39 s.vm) (hw : ∀ d ∈ tables_1, d.before a0 Z = true) (SV : own_Env Z) (O : Old Z n0 h) {x b : Addr} {kC : ClassId} {cs : List Int32} {d v0 c0 : Value} {N : Int32} {n : Nat} (hx0 : n0 ≤ x) (hh0 : n0 ≤ h.size) (E : Exa Z h x "java/lang/String") (V : Fld Z h x "java/lang/String" "value" "[B" v0) (C : Fld Z h x "java/lang/String" "coder" "B" c0) (K : Arv Z h b kC .char N (cs.map Value.int) d)
    (hn : cs.length = n) (hN : N = Int32.ofNat n) (l0 : 0 < n) (l2 : n ≤ 4000) (hp : ∀ c ∈ cs, ¬ c < 0 ∧ ¬ (255 : Int32) < c) (hfr : 4 ≤ R.frames) (hlo : W + 65 ≤ R.locals) :
    Back l R p e below s args (⟨"java/lang/String", "<init>", "([C)V"⟩ : MethodName) len W (fun P a => a = #[.ref x, .ref b] ∧ P.U.heap = h ∧ P.cells + 1 ≤ R.cells ∧ P.slots + n ≤ R.slots)
      (fun P _ v B => ∃ L, (v = none ∧ Fr n0 L ∧ Keep h B.U.heap [x] ∧ ∃ t, h.size ≤ t ∧ own_Str Z B.U.heap x t cs) ∧ B.locs = P.locs ++ L ∧ B.cells = P.cells + 1 ∧ B.slots = P.slots + n) := by
  obtain ⟨⟨G1, S1, S2⟩, -⟩ := SV
  refine Back.mono (StrChars.Road.backV hZ (fun d hd => hw d (own_wNew d hd)) (kI := 4) (tw hw 2 rfl) (bs := cs.map (fun c => c.toInt8.toInt32)) hx0 hh0 E V C K (Sta.ext O.2 S1) S2 hn hN l0 l2 hp rfl hfr hlo) (fun _ _ q => q) ?_
  rintro P a v B hq ⟨L, ⟨q1, q2, q3, q4, q5, t, kb, q6, q7, q8, q9, q10⟩, r⟩
  subst hn hN
  exact ⟨L, ⟨q1, q2, q3, t, q7, q4, q9, q5, ⟨kb, _, _, q10, StrChars.Road.codOf rfl (fun c hc => (hp c hc).2)⟩, hp, l2⟩, r⟩
theorem own_wLen : ∀ d ∈ StrChars.Road.wordsLen, d ∈ tables_1 := by decide +kernel
theorem own_len (hZ : Z.Warmed39 s.vm) (hw : ∀ d ∈ tables_1, d.before a0 Z = true) (SV : own_Env Z) (O : Old Z n0 h) {x t : Addr} {cs : List Int32} (F : own_Str Z h x t cs) (hfr : 2 ≤ R.frames) (hlo : W + 25 ≤ R.locals) :
    Back l R p e below s args (⟨"java/lang/String", "length", "()I"⟩ : MethodName) len W (fun P a => a = #[.ref x] ∧ P.U.heap = h ∧ P.cells + 0 ≤ R.cells ∧ P.slots + 0 ≤ R.slots)
      (fun P _ v B => ∃ L, (v = some (.int (Int32.ofNat cs.length)) ∧ Fr n0 L ∧ B.U.heap = h) ∧ B.locs = P.locs ++ L ∧ B.cells = P.cells + 0 ∧ B.slots = P.slots + 0) := by
  obtain ⟨⟨G1, S1, S2⟩, -⟩ := SV
  obtain ⟨f1, f2, f3, ⟨kb, N2, vs, f4, f5⟩, f6, f7⟩ := F
  refine Back.mono (StrChars.Road.lenW hZ (fun d hd => hw d (own_wLen d hd)) (kI := 4) (tw hw 2 rfl) f1 f2 f3 f4 f5 (own_up f6) (Sta.ext O.2 S1) S2 f7 hfr hlo) (fun _ _ q => q) ?_
  rintro P a v B hq ⟨L, ⟨q1, rfl, q3⟩, r⟩
  exact ⟨[], ⟨q1, Fr.nil n0, q3⟩, r⟩
theorem own_wChr : ∀ d ∈ StrChars.Road.wordsChN, d ∈ tables_1 := by decide +kernel
theorem own_chr (hZ : Z.Warmed39 s.vm) (hw : ∀ d ∈ tables_1, d.before a0 Z = true) (SV : own_Env Z) (O : Old Z n0 h) {x t : Addr} {cs : List Int32} {i : Nat} {j : Int32} (F : own_Str Z h x t cs) (hi : i < cs.length) (hj : j = Int32.ofNat i) (hfr : 4 ≤ R.frames) (hlo : W + 53 ≤ R.locals) :
    Back l R p e below s args (⟨"java/lang/String", "charAt", "(I)C"⟩ : MethodName) len W (fun P a => a = #[.ref x, .int j] ∧ P.U.heap = h ∧ P.cells + 0 ≤ R.cells ∧ P.slots + 0 ≤ R.slots)
      (fun P _ v B => ∃ L, (v = some (.int (cs.getD i 0)) ∧ Fr n0 L ∧ B.U.heap = h) ∧ B.locs = P.locs ++ L ∧ B.cells = P.cells + 0 ∧ B.slots = P.slots + 0) := by
  obtain ⟨⟨G1, S1, S2⟩, G3, S3, S4⟩ := SV
  obtain ⟨f1, f2, f3, ⟨kb, N2, vs, f4, f5⟩, f6, f7⟩ := F
  refine Back.mono (StrChars.Road.chN hZ (fun d hd => hw d (own_wChr d hd)) (kI := 4) (tw hw 2 rfl) f1 f2 f3 f4 f5 (own_up f6) (Sta.ext O.2 S1) S2 (Sta.ext O.2 S3) S4 f7 hi hj hfr hlo) (fun _ _ q => q) ?_
  rintro P a v B hq ⟨L, ⟨q1, rfl, q3⟩, r⟩
  exact ⟨[], ⟨q1, Fr.nil n0, q3⟩, r⟩
end OwnCalls
def own_ok (c : Int32) : Prop := (65 ≤ c.toInt ∧ c.toInt ≤ 90) ∨ (97 ≤ c.toInt ∧ c.toInt ≤ 122) ∨ (48 ≤ c.toInt ∧ c.toInt ≤ 57) ∨ c = 46 ∨ c = 95 ∨ c = 45
theorem own_ok.rng {c : Int32} (h : own_ok c) : 0 ≤ c.toInt ∧ c.toInt ≤ 255 := by
  rcases h with h | h | h | rfl | rfl | rfl <;> first | decide | omega
theorem own_ok.b {c : Int32} (h : own_ok c) : ¬ c < 0 ∧ ¬ (255 : Int32) < c := by
  have q := h.rng
  rw [Int32.lt_iff_toInt_lt, Int32.lt_iff_toInt_lt]
  have e1 : (255 : Int32).toInt = 255 := by decide
  have e2 : (0 : Int32).toInt = 0 := by decide
  omega
theorem own_i2c {y : Int32} (h : 0 ≤ y.toInt ∧ y.toInt < 65536) : y.toUInt32.toUInt16.toUInt32.toInt32 = y := by
  have q := c_i2c y
  apply Int32.toInt_inj.mp
  omega
theorem own_nar {y : Int32} (h : 0 ≤ y.toInt ∧ y.toInt < 65536) : nar .char y = y := own_i2c h
theorem own_nn {y : Int32} (h : 0 ≤ y.toInt ∧ y.toInt < 65536) : nar .char y.toUInt32.toUInt16.toUInt32.toInt32 = y := by rw [own_i2c h]; exact own_nar h
theorem own_ok.nar {c : Int32} (h : own_ok c) : nar .char c = c := own_nar (by have q := h.rng; omega)
theorem own_ltI (x y : Int32) : x < y ↔ x.toInt < y.toInt := Int32.lt_iff_toInt_lt
theorem own_Str.arv {Z : State} {h : Heap} {x t : Addr} {cs : List Int32} (F : own_Str Z h x t cs) : ∃ kb : ClassId, Arv Z h t kb .byte (Int32.ofNat cs.length) (cs.map fun c => Value.int (StrChars.lo8 c)) (.int 0) := by
  obtain ⟨-, -, -, ⟨kb, N2, vs, f4, f5⟩, -⟩ := F
  rcases f5 with ⟨-, rfl, rfl, -⟩ | ⟨q, -⟩
  · exact ⟨kb, f4⟩
  · exact absurd q (by decide)
theorem own_low {cs : List Int32} {i : Nat} (hi : i < cs.length) : (cs.map fun c => Value.int (StrChars.lo8 c)).getD i (.int 0) = .int (StrChars.lo8 (cs.getD i 0)) := by
  rw [own_getD _ (by simpa using hi), own_getD _ hi, List.getElem_map]
theorem own_lo8 {c : Int32} (h : ¬ c < 0 ∧ ¬ (255 : Int32) < c) : (StrChars.lo8 c &&& (255 : Int32)) = c := by
  apply Int32.toInt_inj.mp
  rw [c_mask _ 255 8 (by decide) (by decide)]
  have q : ((StrChars.lo8 c).toInt - c.toInt) % 256 = 0 ∧ -128 ≤ (StrChars.lo8 c).toInt ∧ (StrChars.lo8 c).toInt < 128 := c_i2b c
  rw [Int32.lt_iff_toInt_lt, Int32.lt_iff_toInt_lt] at h
  have e1 : (255 : Int32).toInt = 255 := by decide
  have e2 : (0 : Int32).toInt = 0 := by decide
  have e3 : ((2 ^ 8 : Nat) : Int) = 256 := by decide
  omega
theorem own_ofNat_toInt {n : Nat} (h : n < 2147483648) : (Int32.ofNat n).toInt = n := Int32.toInt_ofNat_small (n := n) (by omega)
theorem own_clamp {n : Nat} (h : n < 2147483648) : (Int32.ofNat n).toNatClampNeg = n := by
  show (Int32.ofNat n).toInt.toNat = n
  rw [own_ofNat_toInt h]; rfl
theorem own_ofNat_lt {i n : Nat} (hn : n < 2147483648) (hi : i < 2147483648) : Int32.ofNat i < Int32.ofNat n ↔ i < n := by
  rw [own_ltI, own_ofNat_toInt hn, own_ofNat_toInt hi]; omega
theorem own_ofNat_nn {i : Nat} (hi : i < 2147483648) : ¬ Int32.ofNat i < 0 := by
  rw [own_ltI, own_ofNat_toInt hi]
  have e2 : (0 : Int32).toInt = 0 := by decide
  omega
theorem own_mem_getD {cs : List Int32} {i : Nat} (hi : i < cs.length) : cs.getD i 0 ∈ cs := by
  rw [own_getD _ hi]; exact List.getElem_mem hi
theorem own_safeNull {Z : State} {EL : List (String × Nat)} {vm : Vm} {h : Heap} {x : Addr} (hal : Z.vm.Alike vm) (E : Exa Z h x "java/lang/String") (F : Fld Z h x "java/lang/String" "value" "[B" .null) : Safe Z EL vm h x := fun B => by
  obtain ⟨cell, cf, k, i, f, e1, e2, e3, e4, e5, e6, e7⟩ := F
  obtain ⟨p, -, u, a, -, q, -, G, rfl | rfl⟩ := B
  · cases (show h[q.sa]? = some q.sC from G.ha).symm.trans e1
    obtain ⟨cS, ⟨⟨-, -, -, ⟨c1, k1, i1, f1, -⟩, -, -, -, v1, -⟩, -⟩, -⟩ := G
    obtain ⟨k3, g3, -⟩ := State.fieldFound?_setVm (s := Z) hal e2
    have g4 := (show (Wst Z vm h).fieldFound? "java/lang/String" "value" "[B" = _ from g3).symm.trans f1
    simp only [Option.some.injEq, Prod.mk.injEq] at g4
    rw [g4.2.2.2, v1] at e7
    cases e7
  · obtain ⟨cell', k', a1, a2, -⟩ := E
    cases (show h[q.sd]? = some q.SA from G.hd).symm.trans a1
    obtain ⟨cS, -, -, g, -⟩ := G
    have g' : Z.vm.findClass "[B" = some q.SA.cls := by rw [← hal.findClass]; exact g
    exact ids_ne a2 g' (by decide) rfl
abbrev own_EL : List (String × Nat) := [("com/example/longhold/longhold/store/DigestFile", 14), ("java/lang/String", 7)]
theorem own_EW {Z : State} {a0 : Array Value} (hw : ∀ d ∈ tables_1, d.before a0 Z = true) : EW Z a0 own_EL := (EW.cons (tw hw 92 rfl) (by decide) (EW.cons (tw hw 14 rfl) (by decide) EW.nil))
def QAI (Z : State) (pa : Addr) (h0 : Heap) (n0 : Nat) (v : Option Value) (h : Heap) (L : List Loc) : Prop := ∃ (pv : Addr) (kv : ClassId), v = none ∧ Fr n0 L ∧ Keep h0 h [pa] ∧ h0.size ≤ pv ∧ Exa Z h pa "java/lang/StringBuilder" ∧ Fld Z h pa "java/lang/AbstractStringBuilder" "value" "[B" (.ref pv) ∧ Fld Z h pa "java/lang/AbstractStringBuilder" "coder" "B" (.int 0) ∧ Fld Z h pa "java/lang/AbstractStringBuilder" "count" "I" (.int 0) ∧ Arv Z h pv kv .byte (16 : Int32) [] (.int 0)
theorem dAI_0 : decode jdk_68_method_2_code 0 = .ok (.aload_n 0, 1) := by decide +kernel
theorem dAI_1 : decode jdk_68_method_2_code 1 = .ok (.invokespecial 3, 3) := by decide +kernel
theorem dAI_4 : decode jdk_68_method_2_code 4 = .ok (.getstatic 18, 3) := by decide +kernel
theorem dAI_7 : decode jdk_68_method_2_code 7 = .ok (.ifCond .eq 18, 3) := by decide +kernel
theorem dAI_10 : decode jdk_68_method_2_code 10 = .ok (.aload_n 0, 1) := by decide +kernel
theorem dAI_11 : decode jdk_68_method_2_code 11 = .ok (.iload_n 1, 1) := by decide +kernel
theorem dAI_12 : decode jdk_68_method_2_code 12 = .ok (.newarray .byte, 2) := by decide +kernel
theorem dAI_14 : decode jdk_68_method_2_code 14 = .ok (.putfield 15, 3) := by decide +kernel
theorem dAI_17 : decode jdk_68_method_2_code 17 = .ok (.aload_n 0, 1) := by decide +kernel
theorem dAI_18 : decode jdk_68_method_2_code 18 = .ok (.iconst 0, 1) := by decide +kernel
theorem dAI_19 : decode jdk_68_method_2_code 19 = .ok (.putfield 22, 3) := by decide +kernel
theorem dAI_22 : decode jdk_68_method_2_code 22 = .ok (.goto 16, 3) := by decide +kernel
theorem dAI_38 : decode jdk_68_method_2_code 38 = .ok (.return_, 1) := by decide +kernel
theorem pnAI : plainName "java/lang/AbstractStringBuilder" = true := by first | (simp [plainName, overriddenIn]; done) | decide +kernel
theorem pdAI : parseMethodDescriptor "(I)V" = some ⟨[.int], none⟩ := by decide +kernel
set_option maxRecDepth 65536 in
set_option maxHeartbeats 40000000 in
theorem rmAI (l : Launch) (Z : State) (a0 : Array Value) (hw : ∀ d ∈ tables_1, d.before a0 Z = true) (ws : List Jvm.Cond) (pa : Addr) (h0 : Heap) (n0 : Nat) (Z0 : n0 ≤ h0.size) (H0 : Exa Z h0 pa "java/lang/StringBuilder") (H1 : Fld Z h0 pa "java/lang/AbstractStringBuilder" "value" "[B" .null) (H2 : Fld Z h0 pa "java/lang/AbstractStringBuilder" "coder" "B" (.int 0)) (H3 : Fld Z h0 pa "java/lang/AbstractStringBuilder" "count" "I" (.int 0)) (nw_pa : n0 ≤ pa) (O0 : Old Z n0 h0) (SV : own_Env Z) :
    MetFree l (⟨"java/lang/AbstractStringBuilder", "<init>", "(I)V"⟩ : MethodName) (head1 (Jvm.Cond.code (⟨"java/lang/AbstractStringBuilder", "<init>", "(I)V"⟩ : MethodName) jdk_68_method_2_code 2 none :: ws) ({ frames := 1, cells := 1, slots := 16, locals := 12 } : Room)) (fun aa U => aa = #[(.ref pa), (.int 16)] ∧ Z.Warmed39 U.vm ∧ U.heap = h0) (fun _ _ _ _ _ => True) (fun _ U oo U' => ∃ v L, oo = .returned v ∧ QAI Z pa h0 n0 v U'.heap L ∧ FrameEnd U oo U' L ({ frames := 1, cells := 1, slots := 16, locals := 12 } : Room).cells ({ frames := 1, cells := 1, slots := 16, locals := 12 } : Room).slots) := by
  refine MetFree.of_bodySF (plainFor_of_name pnAI) hisR ?_
  intro p e s m args below meth c s₁ Bd hml0 hP hK
  obtain ⟨rfl, hZ, hh⟩ := hP
  have hx := Bd.exec
  have hby := Bd.bytes
  have hlk : meth.locks = false := BodyLoose.notSynchronized Bd
  have hml : c.maxLocals = 2 := hml0
  have hown : s.vm.findClass "java/lang/AbstractStringBuilder" = some m.cls := findClass_of_methodNamed Bd.named
  have hnm := (name_of_methodNamed Bd.named Bd.method).1
  have X0 : Stand p l e ({ frames := 1, cells := 1, slots := 16, locals := 12 } : Room) s m #[(.ref pa), (.int 16)] below meth c s₁ [] 0 0 := Stand.of_body Bd
  have e0 : s₁.heap = h0 := by rw [← hh, Bd.state]; rfl
  have N0 := Fr.nil n0
  have ef : entryFrame m #[(.ref pa), (.int 16)] 2 = mkF m 0 #[rv pa, iv 16] [] := by first | (simp [entryFrame, mkF, argsToLocals, Value.category, maxLocals]; done) | rfl
  show Way p.tables e below (KQ s (QAI Z pa h0 n0) ({ frames := 1, cells := 1, slots := 16, locals := 12 } : Room).cells ({ frames := 1, cells := 1, slots := 16, locals := 12 } : Room).slots) (s₁.setTop (entryFrame m #[(.ref pa), (.int 16)] 2))
  rw [ef]
  obtain ⟨⟨G1, SG1, hG1⟩, G3, SG3, rG3⟩ := id SV
  refine Way.by (fun _ k => XS.aloadN X0.here hx rfl (hb hby dAI_0) rfl rfl k) ?_
  show Way _ _ _ _ (s₁.setTop (mkF m 1 #[rv pa, iv 16] [(.ref pa)]))
  obtain ⟨T1, X2, e3, st4⟩ := initO X0 hx hZ hown (tw hw 38 rfl) (tw hw 12 rfl) (tw hw 13 rfl) e0 (g := (mkF m 1 #[rv pa, iv 16] [(.ref pa)])) rfl (by rw [hml]; rfl) rfl (hb hby dAI_1) (by decide) (W := 0) (leW rfl) (by decide)
  refine Way.by st4 ?_
  show Way _ _ _ _ (T1.setTop (mkF m 4 #[rv pa, iv 16] []))
  obtain ⟨T5, X6, e7, st8⟩ := getS X2 hx hZ hown (host := "") (tw hw 39 rfl) Via.refl e3 (Sta.ext O0.2 SG1) (g := (mkF m 4 #[rv pa, iv 16] [])) rfl (hb hby dAI_4)
  refine Way.by st8 ?_
  show Way _ _ _ _ (T5.setTop (mkF m 7 #[rv pa, iv 16] [(.int G1)]))
  have b9 : ¬ G1 = (0 : Int32) := hG1
  refine Way.by (fun _ k => XS.ifNo X6.here hx rfl (hb hby dAI_7) rfl ((if0 .eq _).trans (feq b9).1) k) ?_
  show Way _ _ _ _ (T5.setTop (mkF m 10 #[rv pa, iv 16] []))
  refine Way.by (fun _ k => XS.aloadN X6.here hx rfl (hb hby dAI_10) rfl rfl k) ?_
  refine Way.by (fun _ k => XS.iloadN X6.here hx rfl (hb hby dAI_11) rfl k) ?_
  show Way _ _ _ _ (T5.setTop (mkF m 12 #[rv pa, iv 16] [(.int 16), (.ref pa)]))
  obtain ⟨T10, h11, kc12, X13, e14, E15, A16, st17⟩ := newP X6 hx hZ (tw hw 15 rfl) e7 (g := (mkF m 12 #[rv pa, iv 16] [(.int 16), (.ref pa)])) rfl (hb hby dAI_12) rfl (by decide) (cap := 16) (by decide) (by decide) (by decide) (by decide)
  obtain ⟨a18, g19⟩ : ∃ z, z = h0.size := ⟨_, rfl⟩
  rw [← g19] at A16 st17
  have ne21 : pa ≠ a18 := Nat.ne_of_lt (Nat.lt_of_lt_of_eq H0.lt g19.symm)
  have nw22 : n0 ≤ a18 := Nat.le_trans Z0 (Nat.le_of_eq g19.symm)
  have hk23 : h0.size ≤ a18 := Nat.le_trans (Nat.le_refl h0.size) (Nat.le_of_eq g19.symm)
  have E24 := Exa.ext E15 H0
  have F25 := Fld.ext E15 H1
  have F26 := Fld.ext E15 H2
  have F27 := Fld.ext E15 H3
  have Z28 := Nat.le_trans Z0 E15.1
  have O29 := O0.ext E15
  have K30 := (Keep.refl h0 [pa]).ext E15
  have hz31 := Nat.le_trans (Nat.le_refl h0.size) E15.1
  have V20 : Arv Z h11 a18 kc12 .byte (16 : Int32) [] (.int 0) := Arv.new A16 (by decide)
  refine Way.by st17 ?_
  show Way _ _ _ _ (T10.setTop (mkF m 14 #[rv pa, iv 16] [(.ref a18), (.ref pa)]))
  obtain ⟨T32, h33, X34, e35, W36, st37⟩ := putF X13 hx hZ hown (host := "") (Or.inl (tw hw 40 rfl)) Via.refl e14 F25 E24 (Or.inl (tw hw 41 rfl)) (tw hw 27 rfl) (ty := (.array .byte)) (by decide) rfl rfl (g := (mkF m 14 #[rv pa, iv 16] [(.ref a18), (.ref pa)])) rfl rfl (hb hby dAI_14)
  have N38 := Fr.snoc X34 N0 nw_pa
  have E39 := Exa.wr W36 E24
  have F40 : Fld Z h33 pa "java/lang/AbstractStringBuilder" "value" "[B" (.ref a18) := F25.same W36
  have F41 := F26.other W36 (Or.inr (slot_ne (Or.inl (tw hw 43 rfl)) (Or.inl (tw hw 41 rfl)) (by decide) (t := .byte) (t' := (.array .byte)) (by decide) (by decide)))
  have F42 := F27.other W36 (Or.inr (slot_ne (Or.inl (tw hw 66 rfl)) (Or.inl (tw hw 41 rfl)) (by decide) (t := .int) (t' := (.array .byte)) (by decide) (by decide)))
  have A43 := V20.other W36 ne21.symm
  have Z44 : n0 ≤ h33.size := by rw [W36.size]; exact Z28
  have O45 := O29.wr W36 nw_pa
  have K46 := K30.wr W36 (Or.inl (List.mem_of_getElem? (i := 0) rfl))
  have hz47 : h0.size ≤ h33.size := by rw [W36.size]; exact hz31
  refine Way.by st37 ?_
  show Way _ _ _ _ (T32.setTop (mkF m 17 #[rv pa, iv 16] []))
  try clear X13 e14 V20 E24 F25 F26 F27 Z28 O29 K30 hz31 W36 st37
  try clear T10 h11
  refine Way.by (fun _ k => XS.aloadN X34.here hx rfl (hb hby dAI_17) rfl rfl k) ?_
  refine Way.by (fun _ k => XS.iconst X34.here hx rfl (hb hby dAI_18) k) ?_
  show Way _ _ _ _ (T32.setTop (mkF m 19 #[rv pa, iv 16] [(.int 0), (.ref pa)]))
  obtain ⟨T48, h49, X50, e51, W52, st53⟩ := putF X34 hx hZ hown (host := "") (Or.inl (tw hw 42 rfl)) Via.refl e35 F41 E39 (Or.inl (tw hw 43 rfl)) (tw hw 27 rfl) (ty := .byte) (by decide) rfl rfl (g := (mkF m 19 #[rv pa, iv 16] [(.int 0), (.ref pa)])) rfl rfl (hb hby dAI_19)
  have N54 := Fr.snoc X50 N38 nw_pa
  have E55 := Exa.wr W52 E39
  have F56 := F40.other W52 (Or.inr (slot_ne (Or.inl (tw hw 41 rfl)) (Or.inl (tw hw 43 rfl)) (by decide) (t := (.array .byte)) (t' := .byte) (by decide) (by decide)))
  have F57 : Fld Z h49 pa "java/lang/AbstractStringBuilder" "coder" "B" (.int 0) := F41.same W52
  have F58 := F42.other W52 (Or.inr (slot_ne (Or.inl (tw hw 66 rfl)) (Or.inl (tw hw 43 rfl)) (by decide) (t := .int) (t' := .byte) (by decide) (by decide)))
  have A59 := A43.other W52 ne21.symm
  have Z60 : n0 ≤ h49.size := by rw [W52.size]; exact Z44
  have O61 := O45.wr W52 nw_pa
  have K62 := K46.wr W52 (Or.inl (List.mem_of_getElem? (i := 0) rfl))
  have hz63 : h0.size ≤ h49.size := by rw [W52.size]; exact hz47
  refine Way.by st53 ?_
  show Way _ _ _ _ (T48.setTop (mkF m 22 #[rv pa, iv 16] []))
  try clear X34 e35 N38 E39 F40 F41 F42 A43 Z44 O45 K46 hz47 W52 st53
  try clear T32 h33
  refine Way.by (fun _ k => XS.goto X50.here hx rfl (pc0 := 22) (pc' := 38) rfl (hb hby dAI_22) (by decide) (by decide) k) ?_
  show Way _ _ _ _ (T48.setTop (mkF m 38 #[rv pa, iv 16] []))
  refine Way.ret (v := none) X50 hlk (fun _ => rfl) (fun fs hr => X50.returnOut hx Bd.returns (hb hby dAI_38) hr) ?_ (by decide) (by decide)
  show QAI Z pa h0 n0 _ T48.heap _
  rw [e51]
  exact ⟨a18, kc12, rfl, N54, K62, hk23, E55, F56, F57, F58, A59⟩
def QSI (Z : State) (pa : Addr) (h0 : Heap) (n0 : Nat) (v : Option Value) (h : Heap) (L : List Loc) : Prop := ∃ (pv : Addr) (kv : ClassId), v = none ∧ Fr n0 L ∧ Keep h0 h [pa] ∧ h0.size ≤ pv ∧ Exa Z h pa "java/lang/StringBuilder" ∧ Fld Z h pa "java/lang/AbstractStringBuilder" "value" "[B" (.ref pv) ∧ Fld Z h pa "java/lang/AbstractStringBuilder" "coder" "B" (.int 0) ∧ Fld Z h pa "java/lang/AbstractStringBuilder" "count" "I" (.int 0) ∧ Arv Z h pv kv .byte (16 : Int32) [] (.int 0)
theorem dSI_0 : decode jdk_67_method_1_code 0 = .ok (.aload_n 0, 1) := by decide +kernel
theorem dSI_1 : decode jdk_67_method_1_code 1 = .ok (.bipush 16, 2) := by decide +kernel
theorem dSI_3 : decode jdk_67_method_1_code 3 = .ok (.invokespecial 1, 3) := by decide +kernel
theorem dSI_6 : decode jdk_67_method_1_code 6 = .ok (.return_, 1) := by decide +kernel
theorem pnSI : plainName "java/lang/StringBuilder" = true := by first | (simp [plainName, overriddenIn]; done) | decide +kernel
theorem pdSI : parseMethodDescriptor "()V" = some ⟨[], none⟩ := by decide +kernel
set_option maxRecDepth 65536 in
set_option maxHeartbeats 40000000 in
theorem rmSI (l : Launch) (Z : State) (a0 : Array Value) (hw : ∀ d ∈ tables_1, d.before a0 Z = true) (ws : List Jvm.Cond) (pa : Addr) (h0 : Heap) (n0 : Nat) (Z0 : n0 ≤ h0.size) (H0 : Exa Z h0 pa "java/lang/StringBuilder") (H1 : Fld Z h0 pa "java/lang/AbstractStringBuilder" "value" "[B" .null) (H2 : Fld Z h0 pa "java/lang/AbstractStringBuilder" "coder" "B" (.int 0)) (H3 : Fld Z h0 pa "java/lang/AbstractStringBuilder" "count" "I" (.int 0)) (nw_pa : n0 ≤ pa) (O0 : Old Z n0 h0) (SV : own_Env Z) :
    MetFree l (⟨"java/lang/StringBuilder", "<init>", "()V"⟩ : MethodName) (head1 (Jvm.Cond.code (⟨"java/lang/StringBuilder", "<init>", "()V"⟩ : MethodName) jdk_67_method_1_code 1 none :: ws) ({ frames := 2, cells := 1, slots := 16, locals := 25 } : Room)) (fun aa U => aa = #[(.ref pa)] ∧ Z.Warmed39 U.vm ∧ U.heap = h0) (fun _ _ _ _ _ => True) (fun _ U oo U' => ∃ v L, oo = .returned v ∧ QSI Z pa h0 n0 v U'.heap L ∧ FrameEnd U oo U' L ({ frames := 2, cells := 1, slots := 16, locals := 25 } : Room).cells ({ frames := 2, cells := 1, slots := 16, locals := 25 } : Room).slots) := by
  refine MetFree.of_bodySF (plainFor_of_name pnSI) hisR ?_
  intro p e s m args below meth c s₁ Bd hml0 hP hK
  obtain ⟨rfl, hZ, hh⟩ := hP
  have hx := Bd.exec
  have hby := Bd.bytes
  have hlk : meth.locks = false := BodyLoose.notSynchronized Bd
  have hml : c.maxLocals = 1 := hml0
  have hown : s.vm.findClass "java/lang/StringBuilder" = some m.cls := findClass_of_methodNamed Bd.named
  have hnm := (name_of_methodNamed Bd.named Bd.method).1
  have X0 : Stand p l e ({ frames := 2, cells := 1, slots := 16, locals := 25 } : Room) s m #[(.ref pa)] below meth c s₁ [] 0 0 := Stand.of_body Bd
  have e0 : s₁.heap = h0 := by rw [← hh, Bd.state]; rfl
  have N0 := Fr.nil n0
  have ef : entryFrame m #[(.ref pa)] 1 = mkF m 0 #[rv pa] [] := by first | (simp [entryFrame, mkF, argsToLocals, Value.category, maxLocals]; done) | rfl
  show Way p.tables e below (KQ s (QSI Z pa h0 n0) ({ frames := 2, cells := 1, slots := 16, locals := 25 } : Room).cells ({ frames := 2, cells := 1, slots := 16, locals := 25 } : Room).slots) (s₁.setTop (entryFrame m #[(.ref pa)] 1))
  rw [ef]
  refine Way.by (fun _ k => XS.aloadN X0.here hx rfl (hb hby dSI_0) rfl rfl k) ?_
  refine Way.by (fun _ k => XS.bipush X0.here hx rfl (hb hby dSI_1) k) ?_
  show Way _ _ _ _ (s₁.setTop (mkF m 3 #[rv pa] [(.int 16), (.ref pa)]))
  obtain ⟨_, _, ⟨T1, L3, k4, n5⟩, -, X2, ⟨Lc6, hQ7, l8, y9, z10⟩, st11⟩ := X0.specialBack hx (y := (⟨"java/lang/AbstractStringBuilder", "<init>", "(I)V"⟩ : MethodName)) rfl hown (mvT hZ (tw hw 32 rfl)) (mvT hZ (tw hw 33 rfl)) (mvT hZ (tw hw 37 rfl)) (by decide) (backOf (W := 0) (rmAI l Z a0 hw [] pa h0 n0 Z0 H0 H1 H2 H3 nw_pa O0 SV) hZ (tw hw 37 rfl) (tw hw 36 rfl) (by decide) (by decide)) (g := (mkF m 3 #[rv pa] [(.int 16), (.ref pa)])) rfl (by rw [hml]; rfl) (Steps.refl _) (a := pa) (argsL := [(.int 16)]) (rest := []) (lenOf pdAI rfl) rfl (leW rfl) (hb hby dSI_3) (fun _ _ => ⟨rfl, e0, (leB rfl), (leB rfl)⟩)
  dsimp only [Pt.U, Pt.locs, Pt.cells, Pt.slots] at X2 l8 y9 z10 st11 hQ7
  subst y9 z10
  obtain ⟨x_pv26, x_kv25, rfl, N17, K18, fr_pv24, F_019, F_120, F_221, F_322, F_423⟩ := hQ7
  have N12 : Fr n0 L3 := by rw [l8]; exact Fr.app N0 N17
  have ne27 : pa ≠ x_pv26 := Nat.ne_of_lt (Nat.lt_of_lt_of_le H0.lt fr_pv24)
  have nw28 : n0 ≤ x_pv26 := Nat.le_trans Z0 fr_pv24
  have hk29 : h0.size ≤ x_pv26 := Nat.le_trans (Nat.le_refl h0.size) fr_pv24
  have E30 := H0.keep K18
  have Z31 := Nat.le_trans Z0 K18.1
  have O32 := O0.keep K18 (allS nw_pa all0)
  have K33 := (Keep.refl h0 [pa]).trans K18 (allS (Or.inl (List.mem_of_getElem? (i := 0) rfl)) all0)
  have hz34 := Nat.le_trans (Nat.le_refl h0.size) K18.1
  refine Way.to st11 ?_
  show Way _ _ _ _ (T1.setTop (mkF m 6 #[rv pa] []))
  refine Way.ret (v := none) X2 hlk (fun _ => rfl) (fun fs hr => X2.returnOut hx Bd.returns (hb hby dSI_6) hr) ?_ (by decide) (by decide)
  show QSI Z pa h0 n0 _ T1.heap _
  skip
  exact ⟨x_pv26, x_kv25, rfl, N12, K33, hk29, F_019, F_120, F_221, F_322, F_423⟩
def QCD (Z : State) (px : Addr) (h0 : Heap) (n0 : Nat) (v : Option Value) (h : Heap) (L : List Loc) : Prop := v = some (.int 0) ∧ Fr n0 L ∧ h = h0
theorem dCD_0 : decode jdk_42_method_152_code 0 = .ok (.getstatic 38, 3) := by decide +kernel
theorem dCD_3 : decode jdk_42_method_152_code 3 = .ok (.ifCond .eq 10, 3) := by decide +kernel
theorem dCD_6 : decode jdk_42_method_152_code 6 = .ok (.aload_n 0, 1) := by decide +kernel
theorem dCD_7 : decode jdk_42_method_152_code 7 = .ok (.getfield 15, 3) := by decide +kernel
theorem dCD_10 : decode jdk_42_method_152_code 10 = .ok (.goto 4, 3) := by decide +kernel
theorem dCD_14 : decode jdk_42_method_152_code 14 = .ok (.ireturn, 1) := by decide +kernel
theorem pnCD : plainName "java/lang/String" = true := by first | (simp [plainName, overriddenIn]; done) | decide +kernel
theorem pdCD : parseMethodDescriptor "()B" = some ⟨[], some .byte⟩ := by decide +kernel
set_option maxRecDepth 65536 in
set_option maxHeartbeats 40000000 in
theorem rmCD (l : Launch) (Z : State) (a0 : Array Value) (hw : ∀ d ∈ tables_1, d.before a0 Z = true) (ws : List Jvm.Cond) (px : Addr) (h0 : Heap) (n0 : Nat) (Z0 : n0 ≤ h0.size) (H0 : Fld Z h0 px "java/lang/String" "coder" "B" (.int 0)) (O0 : Old Z n0 h0) (SV : own_Env Z) :
    MetFree l (⟨"java/lang/String", "coder", "()B"⟩ : MethodName) (head1 (Jvm.Cond.code (⟨"java/lang/String", "coder", "()B"⟩ : MethodName) jdk_42_method_152_code 1 (some .byte) :: ws) ({ frames := 0, cells := 0, slots := 0, locals := 0 } : Room)) (fun aa U => aa = #[(.ref px)] ∧ Z.Warmed39 U.vm ∧ U.heap = h0) (fun _ _ _ _ _ => True) (fun _ U oo U' => ∃ v L, oo = .returned v ∧ QCD Z px h0 n0 v U'.heap L ∧ FrameEnd U oo U' L ({ frames := 0, cells := 0, slots := 0, locals := 0 } : Room).cells ({ frames := 0, cells := 0, slots := 0, locals := 0 } : Room).slots) := by
  refine MetFree.of_bodySF (plainFor_of_name pnCD) hisR ?_
  intro p e s m args below meth c s₁ Bd hml0 hP hK
  obtain ⟨rfl, hZ, hh⟩ := hP
  have hx := Bd.exec
  have hby := Bd.bytes
  have hlk : meth.locks = false := BodyLoose.notSynchronized Bd
  have hml : c.maxLocals = 1 := hml0
  have hown : s.vm.findClass "java/lang/String" = some m.cls := findClass_of_methodNamed Bd.named
  have hnm := (name_of_methodNamed Bd.named Bd.method).1
  have X0 : Stand p l e ({ frames := 0, cells := 0, slots := 0, locals := 0 } : Room) s m #[(.ref px)] below meth c s₁ [] 0 0 := Stand.of_body Bd
  have e0 : s₁.heap = h0 := by rw [← hh, Bd.state]; rfl
  have N0 := Fr.nil n0
  have ef : entryFrame m #[(.ref px)] 1 = mkF m 0 #[rv px] [] := by first | (simp [entryFrame, mkF, argsToLocals, Value.category, maxLocals]; done) | rfl
  show Way p.tables e below (KQ s (QCD Z px h0 n0) ({ frames := 0, cells := 0, slots := 0, locals := 0 } : Room).cells ({ frames := 0, cells := 0, slots := 0, locals := 0 } : Room).slots) (s₁.setTop (entryFrame m #[(.ref px)] 1))
  rw [ef]
  obtain ⟨⟨G1, SG1, hG1⟩, G3, SG3, rG3⟩ := id SV
  obtain ⟨T1, X2, e3, st4⟩ := getS X0 hx hZ hown (host := "") (tw hw 64 rfl) Via.refl e0 (Sta.ext O0.2 SG1) (g := (mkF m 0 #[rv px] [])) rfl (hb hby dCD_0)
  refine Way.by st4 ?_
  show Way _ _ _ _ (T1.setTop (mkF m 3 #[rv px] [(.int G1)]))
  have b5 : ¬ G1 = (0 : Int32) := hG1
  refine Way.by (fun _ k => XS.ifNo X2.here hx rfl (hb hby dCD_3) rfl ((if0 .eq _).trans (feq b5).1) k) ?_
  show Way _ _ _ _ (T1.setTop (mkF m 6 #[rv px] []))
  refine Way.by (fun _ k => XS.aloadN X2.here hx rfl (hb hby dCD_6) rfl rfl k) ?_
  show Way _ _ _ _ (T1.setTop (mkF m 7 #[rv px] [(.ref px)]))
  obtain ⟨T6, X7, e8, st9⟩ := getF X2 hx hZ hown (host := "") (Or.inl (tw hw 21 rfl)) Via.refl e3 H0 (g := (mkF m 7 #[rv px] [(.ref px)])) rfl rfl (hb hby dCD_7)
  refine Way.by st9 ?_
  show Way _ _ _ _ (T6.setTop (mkF m 10 #[rv px] [(.int 0)]))
  refine Way.by (fun _ k => XS.goto X7.here hx rfl (pc0 := 10) (pc' := 14) rfl (hb hby dCD_10) (by decide) (by decide) k) ?_
  show Way _ _ _ _ (T6.setTop (mkF m 14 #[rv px] [(.int 0)]))
  refine Way.ret (v := (some (.int (nar .byte (0 : Int32))))) X7 hlk (fun h => by rw [Bd.returns] at h; cases h) (fun fs hr => retN X7 hx (t := .byte) Bd.returns (by simp) (hb hby dCD_14) hr) ?_ (by decide) (by decide)
  show QCD Z px h0 n0 _ T6.heap _
  rw [e8]
  exact ⟨rfl, N0, rfl⟩
def QEC (Z : State) (pa : Addr) (pv : Addr) (kv : ClassId) (pm : Int32) (vs : List Value) (h0 : Heap) (n0 : Nat) (v : Option Value) (h : Heap) (L : List Loc) : Prop := v = none ∧ Fr n0 L ∧ h = h0
theorem dEC_0 : decode jdk_68_method_9_code 0 = .ok (.aload_n 0, 1) := by decide +kernel
theorem dEC_1 : decode jdk_68_method_9_code 1 = .ok (.getfield 15, 3) := by decide +kernel
theorem dEC_4 : decode jdk_68_method_9_code 4 = .ok (.arraylength, 1) := by decide +kernel
theorem dEC_5 : decode jdk_68_method_9_code 5 = .ok (.aload_n 0, 1) := by decide +kernel
theorem dEC_6 : decode jdk_68_method_9_code 6 = .ok (.getfield 22, 3) := by decide +kernel
theorem dEC_9 : decode jdk_68_method_9_code 9 = .ok (.ishr, 1) := by decide +kernel
theorem dEC_10 : decode jdk_68_method_9_code 10 = .ok (.istore_n 2, 1) := by decide +kernel
theorem dEC_11 : decode jdk_68_method_9_code 11 = .ok (.iload_n 1, 1) := by decide +kernel
theorem dEC_12 : decode jdk_68_method_9_code 12 = .ok (.iload_n 2, 1) := by decide +kernel
theorem dEC_13 : decode jdk_68_method_9_code 13 = .ok (.isub, 1) := by decide +kernel
theorem dEC_14 : decode jdk_68_method_9_code 14 = .ok (.ifCond .le 24, 3) := by decide +kernel
theorem dEC_38 : decode jdk_68_method_9_code 38 = .ok (.return_, 1) := by decide +kernel
set_option maxRecDepth 65536 in
set_option maxHeartbeats 40000000 in
theorem rmEC (l : Launch) (Z : State) (a0 : Array Value) (hw : ∀ d ∈ tables_1, d.before a0 Z = true) (ws : List Jvm.Cond) (pa : Addr) (pv : Addr) (kv : ClassId) (pm : Int32) (vs : List Value) (h0 : Heap) (n0 : Nat) (Z0 : n0 ≤ h0.size) (H0 : Fld Z h0 pa "java/lang/AbstractStringBuilder" "value" "[B" (.ref pv)) (H1 : Fld Z h0 pa "java/lang/AbstractStringBuilder" "coder" "B" (.int 0)) (H2 : Arv Z h0 pv kv .byte (16 : Int32) vs (.int 0)) (hm : ¬ (0 : Int32) < pm - (16 : Int32)) :
    MetFree l (⟨"java/lang/AbstractStringBuilder", "ensureCapacityInternal", "(I)V"⟩ : MethodName) (head1 (Jvm.Cond.code (⟨"java/lang/AbstractStringBuilder", "ensureCapacityInternal", "(I)V"⟩ : MethodName) jdk_68_method_9_code 3 none :: ws) ({ frames := 0, cells := 0, slots := 0, locals := 0 } : Room)) (fun aa U => aa = #[(.ref pa), (.int pm)] ∧ Z.Warmed39 U.vm ∧ U.heap = h0) (fun _ _ _ _ _ => True) (fun _ U oo U' => ∃ v L, oo = .returned v ∧ QEC Z pa pv kv pm vs h0 n0 v U'.heap L ∧ FrameEnd U oo U' L ({ frames := 0, cells := 0, slots := 0, locals := 0 } : Room).cells ({ frames := 0, cells := 0, slots := 0, locals := 0 } : Room).slots) := by
  refine MetFree.of_bodySF (plainFor_of_name pnAI) hisR ?_
  intro p e s m args below meth c s₁ Bd hml0 hP hK
  obtain ⟨rfl, hZ, hh⟩ := hP
  have hx := Bd.exec
  have hby := Bd.bytes
  have hlk : meth.locks = false := BodyLoose.notSynchronized Bd
  have hml : c.maxLocals = 3 := hml0
  have hown : s.vm.findClass "java/lang/AbstractStringBuilder" = some m.cls := findClass_of_methodNamed Bd.named
  have hnm := (name_of_methodNamed Bd.named Bd.method).1
  have X0 : Stand p l e ({ frames := 0, cells := 0, slots := 0, locals := 0 } : Room) s m #[(.ref pa), (.int pm)] below meth c s₁ [] 0 0 := Stand.of_body Bd
  have e0 : s₁.heap = h0 := by rw [← hh, Bd.state]; rfl
  have N0 := Fr.nil n0
  have ef : entryFrame m #[(.ref pa), (.int pm)] 3 = mkF m 0 #[rv pa, iv pm, .unset] [] := by first | (simp [entryFrame, mkF, argsToLocals, Value.category, maxLocals]; done) | rfl
  show Way p.tables e below (KQ s (QEC Z pa pv kv pm vs h0 n0) ({ frames := 0, cells := 0, slots := 0, locals := 0 } : Room).cells ({ frames := 0, cells := 0, slots := 0, locals := 0 } : Room).slots) (s₁.setTop (entryFrame m #[(.ref pa), (.int pm)] 3))
  rw [ef]
  refine Way.by (fun _ k => XS.aloadN X0.here hx rfl (hb hby dEC_0) rfl rfl k) ?_
  show Way _ _ _ _ (s₁.setTop (mkF m 1 #[rv pa, iv pm, .unset] [(.ref pa)]))
  obtain ⟨T1, X2, e3, st4⟩ := getF X0 hx hZ hown (host := "") (Or.inl (tw hw 40 rfl)) Via.refl e0 H0 (g := (mkF m 1 #[rv pa, iv pm, .unset] [(.ref pa)])) rfl rfl (hb hby dEC_1)
  refine Way.by st4 ?_
  show Way _ _ _ _ (T1.setTop (mkF m 4 #[rv pa, iv pm, .unset] [(.ref pv)]))
  obtain ⟨c5, A6, q7, S8, M9, H10, U11⟩ := id H2
  refine Way.by (fun t k => Stand.arraylength X2 hx (hpE e3 A6.1) (arrS hZ A6) (g := (mkF m 4 #[rv pa, iv pm, .unset] [(.ref pv)])) rfl rfl (hb hby dEC_4) t k) ?_
  rw [len_of S8 M9]
  show Way _ _ _ _ (T1.setTop (mkF m 5 #[rv pa, iv pm, .unset] [(.int 16)]))
  refine Way.by (fun _ k => XS.aloadN X2.here hx rfl (hb hby dEC_5) rfl rfl k) ?_
  show Way _ _ _ _ (T1.setTop (mkF m 6 #[rv pa, iv pm, .unset] [(.ref pa), (.int 16)]))
  obtain ⟨T12, X13, e14, st15⟩ := getF X2 hx hZ hown (host := "") (Or.inl (tw hw 42 rfl)) Via.refl e3 H1 (g := (mkF m 6 #[rv pa, iv pm, .unset] [(.ref pa), (.int 16)])) rfl rfl (hb hby dEC_6)
  refine Way.by st15 ?_
  show Way _ _ _ _ (T12.setTop (mkF m 9 #[rv pa, iv pm, .unset] [(.int 0), (.int 16)]))
  refine Way.by (fun _ k => XT.ishr X13.here hx rfl (hb hby dEC_9) rfl k) ?_
  show Way _ _ _ _ (T12.setTop (mkF m 10 #[rv pa, iv pm, .unset] [(.int 16)]))
  refine Way.by (fun _ k => XS.istoreN X13.here hx rfl (hb hby dEC_10) rfl (l' := #[rv pa, iv pm, iv 16]) rfl k) ?_
  show Way _ _ _ _ (T12.setTop (mkF m 11 #[rv pa, iv pm, iv 16] []))
  refine Way.by (fun _ k => XS.iloadN X13.here hx rfl (hb hby dEC_11) rfl k) ?_
  refine Way.by (fun _ k => XS.iloadN X13.here hx rfl (hb hby dEC_12) rfl k) ?_
  show Way _ _ _ _ (T12.setTop (mkF m 13 #[rv pa, iv pm, iv 16] [(.int 16), (.int pm)]))
  refine Way.by (fun _ k => XS.isub X13.here hx rfl (hb hby dEC_13) rfl k) ?_
  show Way _ _ _ _ (T12.setTop (mkF m 14 #[rv pa, iv pm, iv 16] [(.int (pm - (16 : Int32)))]))
  have b16 : ¬ (0 : Int32) < (pm - (16 : Int32)) := hm
  refine Way.by (fun _ k => XS.ifYes X13.here hx rfl (pc0 := 14) (pc' := 38) rfl (hb hby dEC_14) rfl ((if0 .le _).trans (flt b16).2.2.2) (by decide) (by decide) k) ?_
  show Way _ _ _ _ (T12.setTop (mkF m 38 #[rv pa, iv pm, iv 16] []))
  refine Way.ret (v := none) X13 hlk (fun _ => rfl) (fun fs hr => X13.returnOut hx Bd.returns (hb hby dEC_38) hr) ?_ (by decide) (by decide)
  show QEC Z pa pv kv pm vs h0 n0 _ T12.heap _
  rw [e14]
  exact ⟨rfl, N0, rfl⟩
def QIF (Z : State) (pa : Addr) (px : Addr) (pt : Addr) (cs : List Int32) (h0 : Heap) (n0 : Nat) (v : Option Value) (h : Heap) (L : List Loc) : Prop := v = none ∧ Fr n0 L ∧ h = h0
theorem dIF_0 : decode jdk_68_method_71_code 0 = .ok (.getstatic 18, 3) := by decide +kernel
theorem dIF_3 : decode jdk_68_method_71_code 3 = .ok (.ifCond .eq 18, 3) := by decide +kernel
theorem dIF_6 : decode jdk_68_method_71_code 6 = .ok (.aload_n 0, 1) := by decide +kernel
theorem dIF_7 : decode jdk_68_method_71_code 7 = .ok (.getfield 22, 3) := by decide +kernel
theorem dIF_10 : decode jdk_68_method_71_code 10 = .ok (.aload_n 1, 1) := by decide +kernel
theorem dIF_11 : decode jdk_68_method_71_code 11 = .ok (.invokevirtual 40, 3) := by decide +kernel
theorem dIF_14 : decode jdk_68_method_71_code 14 = .ok (.if_icmp .eq 7, 3) := by decide +kernel
theorem dIF_21 : decode jdk_68_method_71_code 21 = .ok (.return_, 1) := by decide +kernel
theorem pdIF : parseMethodDescriptor "(Ljava/lang/String;)V" = some ⟨[(.object "java/lang/String")], none⟩ := by decide +kernel
set_option maxRecDepth 65536 in
set_option maxHeartbeats 40000000 in
theorem rmIF (l : Launch) (Z : State) (a0 : Array Value) (hw : ∀ d ∈ tables_1, d.before a0 Z = true) (ws : List Jvm.Cond) (pa : Addr) (px : Addr) (pt : Addr) (cs : List Int32) (h0 : Heap) (n0 : Nat) (Z0 : n0 ≤ h0.size) (H0 : Fld Z h0 pa "java/lang/AbstractStringBuilder" "coder" "B" (.int 0)) (H1 : own_Str Z h0 px pt cs) (O0 : Old Z n0 h0) (SV : own_Env Z) :
    MetFree l (⟨"java/lang/AbstractStringBuilder", "inflateIfNeededFor", "(Ljava/lang/String;)V"⟩ : MethodName) (head1 (Jvm.Cond.code (⟨"java/lang/AbstractStringBuilder", "inflateIfNeededFor", "(Ljava/lang/String;)V"⟩ : MethodName) jdk_68_method_71_code 2 none :: ws) ({ frames := 1, cells := 0, slots := 0, locals := 13 } : Room)) (fun aa U => aa = #[(.ref pa), (.ref px)] ∧ Z.Warmed39 U.vm ∧ U.heap = h0) (fun _ _ _ _ _ => True) (fun _ U oo U' => ∃ v L, oo = .returned v ∧ QIF Z pa px pt cs h0 n0 v U'.heap L ∧ FrameEnd U oo U' L ({ frames := 1, cells := 0, slots := 0, locals := 13 } : Room).cells ({ frames := 1, cells := 0, slots := 0, locals := 13 } : Room).slots) := by
  refine MetFree.of_bodySF (plainFor_of_name pnAI) hisR ?_
  intro p e s m args below meth c s₁ Bd hml0 hP hK
  obtain ⟨rfl, hZ, hh⟩ := hP
  have hx := Bd.exec
  have hby := Bd.bytes
  have hlk : meth.locks = false := BodyLoose.notSynchronized Bd
  have hml : c.maxLocals = 2 := hml0
  have hown : s.vm.findClass "java/lang/AbstractStringBuilder" = some m.cls := findClass_of_methodNamed Bd.named
  have hnm := (name_of_methodNamed Bd.named Bd.method).1
  have X0 : Stand p l e ({ frames := 1, cells := 0, slots := 0, locals := 13 } : Room) s m #[(.ref pa), (.ref px)] below meth c s₁ [] 0 0 := Stand.of_body Bd
  have e0 : s₁.heap = h0 := by rw [← hh, Bd.state]; rfl
  have N0 := Fr.nil n0
  have ef : entryFrame m #[(.ref pa), (.ref px)] 2 = mkF m 0 #[rv pa, rv px] [] := by first | (simp [entryFrame, mkF, argsToLocals, Value.category, maxLocals]; done) | rfl
  show Way p.tables e below (KQ s (QIF Z pa px pt cs h0 n0) ({ frames := 1, cells := 0, slots := 0, locals := 13 } : Room).cells ({ frames := 1, cells := 0, slots := 0, locals := 13 } : Room).slots) (s₁.setTop (entryFrame m #[(.ref pa), (.ref px)] 2))
  rw [ef]
  obtain ⟨⟨G1, SG1, hG1⟩, G3, SG3, rG3⟩ := id SV
  obtain ⟨SxE, SxV, SxC, -⟩ := id H1
  obtain ⟨T1, X2, e3, st4⟩ := getS X0 hx hZ hown (host := "") (tw hw 39 rfl) Via.refl e0 (Sta.ext O0.2 SG1) (g := (mkF m 0 #[rv pa, rv px] [])) rfl (hb hby dIF_0)
  refine Way.by st4 ?_
  show Way _ _ _ _ (T1.setTop (mkF m 3 #[rv pa, rv px] [(.int G1)]))
  have b5 : ¬ G1 = (0 : Int32) := hG1
  refine Way.by (fun _ k => XS.ifNo X2.here hx rfl (hb hby dIF_3) rfl ((if0 .eq _).trans (feq b5).1) k) ?_
  show Way _ _ _ _ (T1.setTop (mkF m 6 #[rv pa, rv px] []))
  refine Way.by (fun _ k => XS.aloadN X2.here hx rfl (hb hby dIF_6) rfl rfl k) ?_
  show Way _ _ _ _ (T1.setTop (mkF m 7 #[rv pa, rv px] [(.ref pa)]))
  obtain ⟨T6, X7, e8, st9⟩ := getF X2 hx hZ hown (host := "") (Or.inl (tw hw 42 rfl)) Via.refl e3 H0 (g := (mkF m 7 #[rv pa, rv px] [(.ref pa)])) rfl rfl (hb hby dIF_7)
  refine Way.by st9 ?_
  show Way _ _ _ _ (T6.setTop (mkF m 10 #[rv pa, rv px] [(.int 0)]))
  refine Way.by (fun _ k => XS.aloadN X7.here hx rfl (hb hby dIF_10) rfl rfl k) ?_
  show Way _ _ _ _ (T6.setTop (mkF m 11 #[rv pa, rv px] [(.ref px), (.int 0)]))
  obtain ⟨cq26, kq27, qa28, qb29, qc30⟩ := isOf hZ e8 SxE
  obtain ⟨_, _, ⟨T10, L12, k13, n14⟩, -, X11, ⟨Lc15, hQ16, l17, y18, z19⟩, st20⟩ := X7.virtualBack hx (y := (⟨"java/lang/String", "coder", "()B"⟩ : MethodName)) (z := (⟨"java/lang/String", "coder", "()B"⟩ : MethodName)) hown (mvT hZ (tw hw 82 rfl)) (mvT hZ (tw hw 60 rfl)) (notFace_of_selects (args := #[]) (mvT hZ (tw hw 62 rfl))) (mvT hZ (tw hw 62 rfl)) (mvT hZ (tw hw 61 rfl)) (by decide) (backOf (W := 1) (rmCD l Z a0 hw [] px h0 n0 Z0 SxC O0 SV) hZ (tw hw 63 rfl) (tw hw 3 rfl) (by decide) (by decide)) qa28 qc30 (g := (mkF m 11 #[rv pa, rv px] [(.ref px), (.int 0)])) rfl (by rw [hml]; rfl) (Steps.refl _) (argsL := []) (rest := [(.int 0)]) (lenOf pdCD rfl) rfl (leW rfl) (hb hby dIF_11) (fun _ _ => ⟨rfl, e8, (leB rfl), (leB rfl)⟩)
  dsimp only [Pt.U, Pt.locs, Pt.cells, Pt.slots] at X11 l17 y18 z19 st20 hQ16
  subst y18 z19
  obtain ⟨rfl, N31, e22⟩ := hQ16
  have N21 : Fr n0 L12 := by rw [l17]; exact Fr.app N0 N31
  refine Way.to st20 ?_
  show Way _ _ _ _ (T10.setTop (mkF m 14 #[rv pa, rv px] [(.int 0), (.int 0)]))
  try clear X7 e8 st20 cq26 kq27 qa28 qb29 qc30 N31
  try clear T6
  have b33 : (0 : Int32) = (0 : Int32) := by decide
  refine Way.by (fun _ k => XS.icmpYes X11.here hx rfl (pc0 := 14) (pc' := 21) rfl (hb hby dIF_14) rfl (teq b33).1 (by decide) (by decide) k) ?_
  show Way _ _ _ _ (T10.setTop (mkF m 21 #[rv pa, rv px] []))
  refine Way.ret (v := none) X11 hlk (fun _ => rfl) (fun fs hr => X11.returnOut hx Bd.returns (hb hby dIF_21) hr) ?_ (by decide) (by decide)
  show QIF Z pa px pt cs h0 n0 _ T10.heap _
  rw [e22]
  exact ⟨rfl, N21, rfl⟩
def own_App (po : Int32) (vd : List Value) (cs : List Int32) : Prop := ¬ po < 0 ∧ ¬ Int32.ofNat cs.length < 0 ∧ (Int32.ofNat cs.length).toNatClampNeg = cs.length ∧ po.toNatClampNeg = vd.length ∧ vd.length + cs.length ≤ 16 ∧ ¬ (0 : Int32) < po + Int32.ofNat cs.length - (16 : Int32) ∧ po <<< ((0 : Int32) &&& 31) = po
abbrev own_by (cs : List Int32) : List Value := cs.map fun c => Value.int (StrChars.lo8 c)
theorem own_us (vs : List Value) (n : Nat) (d : Value) (h : n = vs.length) : vs = (List.range n).map fun i => vs.getD ((0 : Int32).toNatClampNeg + i) d := by
  subst h
  have z : (0 : Int32).toNatClampNeg = 0 := by decide
  apply List.ext_getElem
  · simp
  · intro i h1 h2; simp [z, h1]
theorem own_mid (vd us : List Value) (d : Value) (k a n : Nat) (hk : k = us.length) (ha : a = vd.length) (hn : n = us.length) : (vd ++ List.replicate k d).take a ++ us ++ (vd ++ List.replicate k d).drop (a + n) = vd ++ us := by
  subst hk ha hn; simp
def QGB (Z : State) (pv : Addr) (kv : ClassId) (px : Addr) (pt : Addr) (po : Int32) (vd : List Value) (cs : List Int32) (h0 : Heap) (n0 : Nat) (v : Option Value) (h : Heap) (L : List Loc) : Prop := v = none ∧ Fr n0 L ∧ Keep h0 h [pv] ∧ Arv Z h pv kv .byte (16 : Int32) (vd ++ own_by cs) (.int 0)
theorem dGB_0 : decode jdk_42_method_147_code 0 = .ok (.aload_n 0, 1) := by decide +kernel
theorem dGB_1 : decode jdk_42_method_147_code 1 = .ok (.invokevirtual 335, 3) := by decide +kernel
theorem dGB_4 : decode jdk_42_method_147_code 4 = .ok (.iload_n 3, 1) := by decide +kernel
theorem dGB_5 : decode jdk_42_method_147_code 5 = .ok (.if_icmp .ne 23, 3) := by decide +kernel
theorem dGB_8 : decode jdk_42_method_147_code 8 = .ok (.aload_n 0, 1) := by decide +kernel
theorem dGB_9 : decode jdk_42_method_147_code 9 = .ok (.getfield 9, 3) := by decide +kernel
theorem dGB_12 : decode jdk_42_method_147_code 12 = .ok (.iconst 0, 1) := by decide +kernel
theorem dGB_13 : decode jdk_42_method_147_code 13 = .ok (.aload_n 1, 1) := by decide +kernel
theorem dGB_14 : decode jdk_42_method_147_code 14 = .ok (.iload_n 2, 1) := by decide +kernel
theorem dGB_15 : decode jdk_42_method_147_code 15 = .ok (.iload_n 3, 1) := by decide +kernel
theorem dGB_16 : decode jdk_42_method_147_code 16 = .ok (.ishl, 1) := by decide +kernel
theorem dGB_17 : decode jdk_42_method_147_code 17 = .ok (.aload_n 0, 1) := by decide +kernel
theorem dGB_18 : decode jdk_42_method_147_code 18 = .ok (.getfield 9, 3) := by decide +kernel
theorem dGB_21 : decode jdk_42_method_147_code 21 = .ok (.arraylength, 1) := by decide +kernel
theorem dGB_22 : decode jdk_42_method_147_code 22 = .ok (.invokestatic 212, 3) := by decide +kernel
theorem dGB_25 : decode jdk_42_method_147_code 25 = .ok (.goto 18, 3) := by decide +kernel
theorem dGB_43 : decode jdk_42_method_147_code 43 = .ok (.return_, 1) := by decide +kernel
theorem pdGB : parseMethodDescriptor "([BIB)V" = some ⟨[(.array .byte), .int, .byte], none⟩ := by decide +kernel
set_option maxRecDepth 65536 in
set_option maxHeartbeats 40000000 in
theorem rmGB (l : Launch) (Z : State) (a0 : Array Value) (hw : ∀ d ∈ tables_1, d.before a0 Z = true) (ws : List Jvm.Cond) (pv : Addr) (kv : ClassId) (px : Addr) (pt : Addr) (po : Int32) (vd : List Value) (cs : List Int32) (h0 : Heap) (n0 : Nat) (Z0 : n0 ≤ h0.size) (H0 : Arv Z h0 pv kv .byte (16 : Int32) vd (.int 0)) (H1 : own_Str Z h0 px pt cs) (hap : own_App po vd cs) (ne_px_pv : px ≠ pv) (ne_pt_pv : pt ≠ pv) (nw_pv : n0 ≤ pv) (O0 : Old Z n0 h0) (SV : own_Env Z) :
    MetFree l (⟨"java/lang/String", "getBytes", "([BIB)V"⟩ : MethodName) (head1 (Jvm.Cond.code (⟨"java/lang/String", "getBytes", "([BIB)V"⟩ : MethodName) jdk_42_method_147_code 4 none :: ws) ({ frames := 1, cells := 0, slots := 0, locals := 40 } : Room)) (fun aa U => aa = #[(.ref px), (.ref pv), (.int po), (.int 0)] ∧ Z.Warmed39 U.vm ∧ U.heap = h0) (fun _ _ _ _ _ => True) (fun _ U oo U' => ∃ v L, oo = .returned v ∧ QGB Z pv kv px pt po vd cs h0 n0 v U'.heap L ∧ FrameEnd U oo U' L ({ frames := 1, cells := 0, slots := 0, locals := 40 } : Room).cells ({ frames := 1, cells := 0, slots := 0, locals := 40 } : Room).slots) := by
  refine MetFree.of_bodySF (plainFor_of_name pnCD) hisR ?_
  intro p e s m args below meth c s₁ Bd hml0 hP hK
  obtain ⟨rfl, hZ, hh⟩ := hP
  have hx := Bd.exec
  have hby := Bd.bytes
  have hlk : meth.locks = false := BodyLoose.notSynchronized Bd
  have hml : c.maxLocals = 4 := hml0
  have hown : s.vm.findClass "java/lang/String" = some m.cls := findClass_of_methodNamed Bd.named
  have hnm := (name_of_methodNamed Bd.named Bd.method).1
  have X0 : Stand p l e ({ frames := 1, cells := 0, slots := 0, locals := 40 } : Room) s m #[(.ref px), (.ref pv), (.int po), (.int 0)] below meth c s₁ [] 0 0 := Stand.of_body Bd
  have e0 : s₁.heap = h0 := by rw [← hh, Bd.state]; rfl
  have N0 := Fr.nil n0
  have ef : entryFrame m #[(.ref px), (.ref pv), (.int po), (.int 0)] 4 = mkF m 0 #[rv px, rv pv, iv po, iv 0] [] := by first | (simp [entryFrame, mkF, argsToLocals, Value.category, maxLocals]; done) | rfl
  show Way p.tables e below (KQ s (QGB Z pv kv px pt po vd cs h0 n0) ({ frames := 1, cells := 0, slots := 0, locals := 40 } : Room).cells ({ frames := 1, cells := 0, slots := 0, locals := 40 } : Room).slots) (s₁.setTop (entryFrame m #[(.ref px), (.ref pv), (.int po), (.int 0)] 4))
  rw [ef]
  obtain ⟨⟨G1, SG1, hG1⟩, G3, SG3, rG3⟩ := id SV
  obtain ⟨SxE, SxV, SxC, -⟩ := id H1
  obtain ⟨kx, SxA⟩ := H1.arv
  obtain ⟨ap1, ap2, ap3, ap4, ap5, ap6, ap7⟩ := hap
  refine Way.by (fun _ k => XS.aloadN X0.here hx rfl (hb hby dGB_0) rfl rfl k) ?_
  show Way _ _ _ _ (s₁.setTop (mkF m 1 #[rv px, rv pv, iv po, iv 0] [(.ref px)]))
  obtain ⟨cq17, kq18, qa19, qb20, qc21⟩ := isOf hZ e0 SxE
  obtain ⟨_, _, ⟨T1, L3, k4, n5⟩, -, X2, ⟨Lc6, hQ7, l8, y9, z10⟩, st11⟩ := X0.virtualBack hx (y := (⟨"java/lang/String", "coder", "()B"⟩ : MethodName)) (z := (⟨"java/lang/String", "coder", "()B"⟩ : MethodName)) hown (mvT hZ (tw hw 59 rfl)) (mvT hZ (tw hw 60 rfl)) (notFace_of_selects (args := #[]) (mvT hZ (tw hw 62 rfl))) (mvT hZ (tw hw 62 rfl)) (mvT hZ (tw hw 61 rfl)) (by decide) (backOf (W := 0) (rmCD l Z a0 hw [] px h0 n0 Z0 SxC O0 SV) hZ (tw hw 63 rfl) (tw hw 3 rfl) (by decide) (by decide)) qa19 qc21 (g := (mkF m 1 #[rv px, rv pv, iv po, iv 0] [(.ref px)])) rfl (by rw [hml]; rfl) (Steps.refl _) (argsL := []) (rest := []) (lenOf pdCD rfl) rfl (leW rfl) (hb hby dGB_1) (fun _ _ => ⟨rfl, e0, (leB rfl), (leB rfl)⟩)
  dsimp only [Pt.U, Pt.locs, Pt.cells, Pt.slots] at X2 l8 y9 z10 st11 hQ7
  subst y9 z10
  obtain ⟨rfl, N22, e13⟩ := hQ7
  have N12 : Fr n0 L3 := by rw [l8]; exact Fr.app N0 N22
  refine Way.to st11 ?_
  show Way _ _ _ _ (T1.setTop (mkF m 4 #[rv px, rv pv, iv po, iv 0] [(.int 0)]))
  refine Way.by (fun _ k => XS.iloadN X2.here hx rfl (hb hby dGB_4) rfl k) ?_
  show Way _ _ _ _ (T1.setTop (mkF m 5 #[rv px, rv pv, iv po, iv 0] [(.int 0), (.int 0)]))
  have b24 : (0 : Int32) = (0 : Int32) := by decide
  refine Way.by (fun _ k => XS.icmpNo X2.here hx rfl (hb hby dGB_5) rfl (teq b24).2 k) ?_
  show Way _ _ _ _ (T1.setTop (mkF m 8 #[rv px, rv pv, iv po, iv 0] []))
  refine Way.by (fun _ k => XS.aloadN X2.here hx rfl (hb hby dGB_8) rfl rfl k) ?_
  show Way _ _ _ _ (T1.setTop (mkF m 9 #[rv px, rv pv, iv po, iv 0] [(.ref px)]))
  obtain ⟨T25, X26, e27, st28⟩ := getF X2 hx hZ hown (host := "") (Or.inl (tw hw 20 rfl)) Via.refl e13 SxV (g := (mkF m 9 #[rv px, rv pv, iv po, iv 0] [(.ref px)])) rfl rfl (hb hby dGB_9)
  refine Way.by st28 ?_
  show Way _ _ _ _ (T25.setTop (mkF m 12 #[rv px, rv pv, iv po, iv 0] [(.ref pt)]))
  refine Way.by (fun _ k => XS.iconst X26.here hx rfl (hb hby dGB_12) k) ?_
  refine Way.by (fun _ k => XS.aloadN X26.here hx rfl (hb hby dGB_13) rfl rfl k) ?_
  refine Way.by (fun _ k => XS.iloadN X26.here hx rfl (hb hby dGB_14) rfl k) ?_
  show Way _ _ _ _ (T25.setTop (mkF m 15 #[rv px, rv pv, iv po, iv 0] [(.int po), (.ref pv), (.int 0), (.ref pt)]))
  refine Way.by (fun _ k => XS.iloadN X26.here hx rfl (hb hby dGB_15) rfl k) ?_
  show Way _ _ _ _ (T25.setTop (mkF m 16 #[rv px, rv pv, iv po, iv 0] [(.int 0), (.int po), (.ref pv), (.int 0), (.ref pt)]))
  refine Way.by (fun _ k => XT.ishl X26.here hx rfl (hb hby dGB_16) rfl k) ?_
  show Way _ _ _ _ (T25.setTop (mkF m 17 #[rv px, rv pv, iv po, iv 0] [(.int (po <<< ((0 : Int32) &&& 31))), (.ref pv), (.int 0), (.ref pt)]))
  rw [ap7]
  show Way _ _ _ _ (T25.setTop (mkF m 17 #[rv px, rv pv, iv po, iv 0] [(.int po), (.ref pv), (.int 0), (.ref pt)]))
  refine Way.by (fun _ k => XS.aloadN X26.here hx rfl (hb hby dGB_17) rfl rfl k) ?_
  show Way _ _ _ _ (T25.setTop (mkF m 18 #[rv px, rv pv, iv po, iv 0] [(.ref px), (.int po), (.ref pv), (.int 0), (.ref pt)]))
  obtain ⟨T29, X30, e31, st32⟩ := getF X26 hx hZ hown (host := "") (Or.inl (tw hw 20 rfl)) Via.refl e27 SxV (g := (mkF m 18 #[rv px, rv pv, iv po, iv 0] [(.ref px), (.int po), (.ref pv), (.int 0), (.ref pt)])) rfl rfl (hb hby dGB_18)
  refine Way.by st32 ?_
  show Way _ _ _ _ (T29.setTop (mkF m 21 #[rv px, rv pv, iv po, iv 0] [(.ref pt), (.int po), (.ref pv), (.int 0), (.ref pt)]))
  obtain ⟨c33, A34, q35, S36, M37, H38, U39⟩ := id SxA
  refine Way.by (fun t k => Stand.arraylength X30 hx (hpE e31 A34.1) (arrS hZ A34) (g := (mkF m 21 #[rv px, rv pv, iv po, iv 0] [(.ref pt), (.int po), (.ref pv), (.int 0), (.ref pt)])) rfl rfl (hb hby dGB_21) t k) ?_
  rw [len_of S36 M37]
  show Way _ _ _ _ (T29.setTop (mkF m 22 #[rv px, rv pv, iv po, iv 0] [(.int (Int32.ofNat cs.length)), (.int po), (.ref pv), (.int 0), (.ref pt)]))
  have z0 : (0 : Int32).toNatClampNeg = 0 := by decide
  have z16 : (16 : Int32).toNatClampNeg = 16 := by decide
  have ul : (own_by cs).length = cs.length := by simp [own_by]
  obtain ⟨T40, h41, L42, X43, e44, N45, K46, V47, st48⟩ := cpA X30 hx hZ hown (tw hw 88 rfl) (tw hw 91 rfl) (tw hw 89 rfl) (tw hw 90 rfl) e31 SxA (H0.pad (pad_rep vd (.int 0) cs.length)) (us := own_by cs) (Or.inl ⟨rfl, rfl⟩) (by decide) ap1 ap2 (by rw [z0]; omega) (by rw [z16, ap3, ap4]; exact ap5) (own_us _ _ _ (by rw [ap3, ul])) (by rw [ap3, ap4]; simp) N12 nw_pv (g := (mkF m 22 #[rv px, rv pv, iv po, iv 0] [(.int (Int32.ofNat cs.length)), (.int po), (.ref pv), (.int 0), (.ref pt)])) rfl (by rw [hml]; rfl) rfl (hb hby dGB_22) (by decide) (W := 0) (leW rfl) (by decide)
  have V49 := V47
  rw [own_mid vd (own_by cs) (.int 0) cs.length _ _ ul.symm ap4 (by rw [ap3, ul])] at V49
  have S50 := H1.keep K46 (ninS ne_px_pv nin0) (ninS ne_pt_pv nin0)
  have E51 := SxE.keep K46
  have F52 := SxC.keep K46 (ninS ne_px_pv nin0)
  have F53 := SxV.keep K46 (ninS ne_px_pv nin0)
  have A54 := SxA.keep K46 (ninS ne_pt_pv nin0)
  have Z55 := Nat.le_trans Z0 K46.1
  have O56 := O0.keep K46 (allS nw_pv all0)
  have K57 := (Keep.refl h0 [pv]).trans K46 (allS (Or.inl (List.mem_of_getElem? (i := 0) rfl)) all0)
  have hz58 := Nat.le_trans (Nat.le_refl h0.size) K46.1
  refine Way.by st48 ?_
  show Way _ _ _ _ (T40.setTop (mkF m 25 #[rv px, rv pv, iv po, iv 0] []))
  refine Way.by (fun _ k => XS.goto X43.here hx rfl (pc0 := 25) (pc' := 43) rfl (hb hby dGB_25) (by decide) (by decide) k) ?_
  show Way _ _ _ _ (T40.setTop (mkF m 43 #[rv px, rv pv, iv po, iv 0] []))
  refine Way.ret (v := none) X43 hlk (fun _ => rfl) (fun fs hr => X43.returnOut hx Bd.returns (hb hby dGB_43) hr) ?_ (by decide) (by decide)
  show QGB Z pv kv px pt po vd cs h0 n0 _ T40.heap _
  rw [e44]
  exact ⟨rfl, N45, K57, V49⟩
def QPS (Z : State) (pa : Addr) (pv : Addr) (kv : ClassId) (px : Addr) (pt : Addr) (po : Int32) (vd : List Value) (cs : List Int32) (h0 : Heap) (n0 : Nat) (v : Option Value) (h : Heap) (L : List Loc) : Prop := v = none ∧ Fr n0 L ∧ Keep h0 h [pv] ∧ Arv Z h pv kv .byte (16 : Int32) (vd ++ own_by cs) (.int 0)
theorem dPS_0 : decode jdk_68_method_73_code 0 = .ok (.aload_n 0, 1) := by decide +kernel
theorem dPS_1 : decode jdk_68_method_73_code 1 = .ok (.aload_n 2, 1) := by decide +kernel
theorem dPS_2 : decode jdk_68_method_73_code 2 = .ok (.invokevirtual 397, 3) := by decide +kernel
theorem dPS_5 : decode jdk_68_method_73_code 5 = .ok (.aload_n 2, 1) := by decide +kernel
theorem dPS_6 : decode jdk_68_method_73_code 6 = .ok (.aload_n 0, 1) := by decide +kernel
theorem dPS_7 : decode jdk_68_method_73_code 7 = .ok (.getfield 15, 3) := by decide +kernel
theorem dPS_10 : decode jdk_68_method_73_code 10 = .ok (.iload_n 1, 1) := by decide +kernel
theorem dPS_11 : decode jdk_68_method_73_code 11 = .ok (.aload_n 0, 1) := by decide +kernel
theorem dPS_12 : decode jdk_68_method_73_code 12 = .ok (.getfield 22, 3) := by decide +kernel
theorem dPS_15 : decode jdk_68_method_73_code 15 = .ok (.invokevirtual 399, 3) := by decide +kernel
theorem dPS_18 : decode jdk_68_method_73_code 18 = .ok (.return_, 1) := by decide +kernel
theorem pdPS : parseMethodDescriptor "(ILjava/lang/String;)V" = some ⟨[.int, (.object "java/lang/String")], none⟩ := by decide +kernel
set_option maxRecDepth 65536 in
set_option maxHeartbeats 40000000 in
theorem rmPS (l : Launch) (Z : State) (a0 : Array Value) (hw : ∀ d ∈ tables_1, d.before a0 Z = true) (ws : List Jvm.Cond) (pa : Addr) (pv : Addr) (kv : ClassId) (px : Addr) (pt : Addr) (po : Int32) (vd : List Value) (cs : List Int32) (h0 : Heap) (n0 : Nat) (Z0 : n0 ≤ h0.size) (H0 : Exa Z h0 pa "java/lang/StringBuilder") (H1 : Fld Z h0 pa "java/lang/AbstractStringBuilder" "value" "[B" (.ref pv)) (H2 : Fld Z h0 pa "java/lang/AbstractStringBuilder" "coder" "B" (.int 0)) (H3 : Fld Z h0 pa "java/lang/AbstractStringBuilder" "count" "I" (.int po)) (H4 : Arv Z h0 pv kv .byte (16 : Int32) vd (.int 0)) (H5 : own_Str Z h0 px pt cs) (hap : own_App po vd cs) (ne_px_pv : px ≠ pv) (ne_pt_pv : pt ≠ pv) (ne_pa_pv : pa ≠ pv) (nw_pv : n0 ≤ pv) (O0 : Old Z n0 h0) (SV : own_Env Z) :
    MetFree l (⟨"java/lang/AbstractStringBuilder", "putStringAt", "(ILjava/lang/String;)V"⟩ : MethodName) (head1 (Jvm.Cond.code (⟨"java/lang/AbstractStringBuilder", "putStringAt", "(ILjava/lang/String;)V"⟩ : MethodName) jdk_68_method_73_code 3 none :: ws) ({ frames := 2, cells := 0, slots := 0, locals := 55 } : Room)) (fun aa U => aa = #[(.ref pa), (.int po), (.ref px)] ∧ Z.Warmed39 U.vm ∧ U.heap = h0) (fun _ _ _ _ _ => True) (fun _ U oo U' => ∃ v L, oo = .returned v ∧ QPS Z pa pv kv px pt po vd cs h0 n0 v U'.heap L ∧ FrameEnd U oo U' L ({ frames := 2, cells := 0, slots := 0, locals := 55 } : Room).cells ({ frames := 2, cells := 0, slots := 0, locals := 55 } : Room).slots) := by
  refine MetFree.of_bodySF (plainFor_of_name pnAI) hisR ?_
  intro p e s m args below meth c s₁ Bd hml0 hP hK
  obtain ⟨rfl, hZ, hh⟩ := hP
  have hx := Bd.exec
  have hby := Bd.bytes
  have hlk : meth.locks = false := BodyLoose.notSynchronized Bd
  have hml : c.maxLocals = 3 := hml0
  have hown : s.vm.findClass "java/lang/AbstractStringBuilder" = some m.cls := findClass_of_methodNamed Bd.named
  have hnm := (name_of_methodNamed Bd.named Bd.method).1
  have X0 : Stand p l e ({ frames := 2, cells := 0, slots := 0, locals := 55 } : Room) s m #[(.ref pa), (.int po), (.ref px)] below meth c s₁ [] 0 0 := Stand.of_body Bd
  have e0 : s₁.heap = h0 := by rw [← hh, Bd.state]; rfl
  have N0 := Fr.nil n0
  have ef : entryFrame m #[(.ref pa), (.int po), (.ref px)] 3 = mkF m 0 #[rv pa, iv po, rv px] [] := by first | (simp [entryFrame, mkF, argsToLocals, Value.category, maxLocals]; done) | rfl
  show Way p.tables e below (KQ s (QPS Z pa pv kv px pt po vd cs h0 n0) ({ frames := 2, cells := 0, slots := 0, locals := 55 } : Room).cells ({ frames := 2, cells := 0, slots := 0, locals := 55 } : Room).slots) (s₁.setTop (entryFrame m #[(.ref pa), (.int po), (.ref px)] 3))
  rw [ef]
  refine Way.by (fun _ k => XS.aloadN X0.here hx rfl (hb hby dPS_0) rfl rfl k) ?_
  refine Way.by (fun _ k => XS.aloadN X0.here hx rfl (hb hby dPS_1) rfl rfl k) ?_
  show Way _ _ _ _ (s₁.setTop (mkF m 2 #[rv pa, iv po, rv px] [(.ref px), (.ref pa)]))
  obtain ⟨cq17, qa18, qb19⟩ := H0.cell
  obtain ⟨_, _, ⟨T1, L3, k4, n5⟩, -, X2, ⟨Lc6, hQ7, l8, y9, z10⟩, st11⟩ := X0.privateBack hx (y := (⟨"java/lang/AbstractStringBuilder", "inflateIfNeededFor", "(Ljava/lang/String;)V"⟩ : MethodName)) hown (mvT hZ (tw hw 77 rfl)) (mvT hZ (tw hw 78 rfl)) (selPriv (z := (⟨"java/lang/AbstractStringBuilder", "ensureCapacityInternal", "(I)V"⟩ : MethodName)) rfl (mvT hZ (tw hw 70 rfl)) (Cond.privateMethod_at (mvP hZ (tw hw 79 rfl) (args := #[]))) (mvT hZ (tw hw 78 rfl)) (by decide)) (Cond.privateMethod_at (mvP hZ (tw hw 79 rfl) (args := #[]))) (mvT hZ (tw hw 81 rfl)) (by decide) (backOf (W := 0) (rmIF l Z a0 hw [] pa px pt cs h0 n0 Z0 H2 H5 O0 SV) hZ (tw hw 81 rfl) (tw hw 36 rfl) (by decide) (by decide)) (g := (mkF m 2 #[rv pa, iv po, rv px] [(.ref px), (.ref pa)])) rfl (by rw [hml]; rfl) (Steps.refl _) (a := pa) (by rw [e0]; exact qa18) qb19 (argsL := [(.ref px)]) (rest := []) (lenOf pdIF rfl) rfl (leW rfl) (hb hby dPS_2) (fun _ _ => ⟨rfl, e0, (leB rfl), (leB rfl)⟩)
  dsimp only [Pt.U, Pt.locs, Pt.cells, Pt.slots] at X2 l8 y9 z10 st11 hQ7
  subst y9 z10
  obtain ⟨rfl, N20, e13⟩ := hQ7
  have N12 : Fr n0 L3 := by rw [l8]; exact Fr.app N0 N20
  refine Way.to st11 ?_
  show Way _ _ _ _ (T1.setTop (mkF m 5 #[rv pa, iv po, rv px] []))
  refine Way.by (fun _ k => XS.aloadN X2.here hx rfl (hb hby dPS_5) rfl rfl k) ?_
  refine Way.by (fun _ k => XS.aloadN X2.here hx rfl (hb hby dPS_6) rfl rfl k) ?_
  show Way _ _ _ _ (T1.setTop (mkF m 7 #[rv pa, iv po, rv px] [(.ref pa), (.ref px)]))
  obtain ⟨T22, X23, e24, st25⟩ := getF X2 hx hZ hown (host := "") (Or.inl (tw hw 40 rfl)) Via.refl e13 H1 (g := (mkF m 7 #[rv pa, iv po, rv px] [(.ref pa), (.ref px)])) rfl rfl (hb hby dPS_7)
  refine Way.by st25 ?_
  show Way _ _ _ _ (T22.setTop (mkF m 10 #[rv pa, iv po, rv px] [(.ref pv), (.ref px)]))
  refine Way.by (fun _ k => XS.iloadN X23.here hx rfl (hb hby dPS_10) rfl k) ?_
  refine Way.by (fun _ k => XS.aloadN X23.here hx rfl (hb hby dPS_11) rfl rfl k) ?_
  show Way _ _ _ _ (T22.setTop (mkF m 12 #[rv pa, iv po, rv px] [(.ref pa), (.int po), (.ref pv), (.ref px)]))
  obtain ⟨T26, X27, e28, st29⟩ := getF X23 hx hZ hown (host := "") (Or.inl (tw hw 42 rfl)) Via.refl e24 H2 (g := (mkF m 12 #[rv pa, iv po, rv px] [(.ref pa), (.int po), (.ref pv), (.ref px)])) rfl rfl (hb hby dPS_12)
  refine Way.by st29 ?_
  show Way _ _ _ _ (T26.setTop (mkF m 15 #[rv pa, iv po, rv px] [(.int 0), (.int po), (.ref pv), (.ref px)]))
  obtain ⟨cq46, kq47, qa48, qb49, qc50⟩ := isOf hZ e28 H5.1
  obtain ⟨_, _, ⟨T30, L32, k33, n34⟩, -, X31, ⟨Lc35, hQ36, l37, y38, z39⟩, st40⟩ := X27.virtualBack hx (y := (⟨"java/lang/String", "getBytes", "([BIB)V"⟩ : MethodName)) (z := (⟨"java/lang/String", "getBytes", "([BIB)V"⟩ : MethodName)) hown (mvT hZ (tw hw 83 rfl)) (mvT hZ (tw hw 84 rfl)) (notFace_of_selects (args := #[]) (mvT hZ (tw hw 86 rfl))) (mvT hZ (tw hw 86 rfl)) (mvT hZ (tw hw 85 rfl)) (by decide) (backOf (W := 0) (rmGB l Z a0 hw [] pv kv px pt po vd cs h0 n0 Z0 H4 H5 hap ne_px_pv ne_pt_pv nw_pv O0 SV) hZ (tw hw 87 rfl) (tw hw 3 rfl) (by decide) (by decide)) qa48 qc50 (g := (mkF m 15 #[rv pa, iv po, rv px] [(.int 0), (.int po), (.ref pv), (.ref px)])) rfl (by rw [hml]; rfl) (Steps.refl _) (argsL := [(.ref pv), (.int po), (.int 0)]) (rest := []) (lenOf pdGB rfl) rfl (leW rfl) (hb hby dPS_15) (fun _ _ => ⟨rfl, e28, (leB rfl), (leB rfl)⟩)
  dsimp only [Pt.U, Pt.locs, Pt.cells, Pt.slots] at X31 l37 y38 z39 st40 hQ36
  subst y38 z39
  obtain ⟨rfl, N51, K52, F_053⟩ := hQ36
  have N41 : Fr n0 L32 := by rw [l37]; exact Fr.app N12 N51
  have E54 := H0.keep K52
  have F55 := H1.keep K52 (ninS ne_pa_pv nin0)
  have F56 := H2.keep K52 (ninS ne_pa_pv nin0)
  have F57 := H3.keep K52 (ninS ne_pa_pv nin0)
  have S58 := H5.keep K52 (ninS ne_px_pv nin0) (ninS ne_pt_pv nin0)
  have Z59 := Nat.le_trans Z0 K52.1
  have O60 := O0.keep K52 (allS nw_pv all0)
  have K61 := (Keep.refl h0 [pv]).trans K52 (allS (Or.inl (List.mem_of_getElem? (i := 0) rfl)) all0)
  have hz62 := Nat.le_trans (Nat.le_refl h0.size) K52.1
  refine Way.to st40 ?_
  show Way _ _ _ _ (T30.setTop (mkF m 18 #[rv pa, iv po, rv px] []))
  try clear N12 X27 e28 st40 cq46 kq47 qa48 qb49 qc50 N51 K52
  try clear T26
  refine Way.ret (v := none) X31 hlk (fun _ => rfl) (fun fs hr => X31.returnOut hx Bd.returns (hb hby dPS_18) hr) ?_ (by decide) (by decide)
  show QPS Z pa pv kv px pt po vd cs h0 n0 _ T30.heap _
  skip
  exact ⟨rfl, N41, K61, F_053⟩
def QAA (Z : State) (pa : Addr) (pv : Addr) (kv : ClassId) (px : Addr) (pt : Addr) (po : Int32) (vd : List Value) (cs : List Int32) (h0 : Heap) (n0 : Nat) (v : Option Value) (h : Heap) (L : List Loc) : Prop := v = some (.ref pa) ∧ Fr n0 L ∧ Keep h0 h [pa, pv] ∧ Exa Z h pa "java/lang/StringBuilder" ∧ Fld Z h pa "java/lang/AbstractStringBuilder" "value" "[B" (.ref pv) ∧ Fld Z h pa "java/lang/AbstractStringBuilder" "coder" "B" (.int 0) ∧ Fld Z h pa "java/lang/AbstractStringBuilder" "count" "I" (.int (po + Int32.ofNat cs.length)) ∧ Arv Z h pv kv .byte (16 : Int32) (vd ++ own_by cs) (.int 0)
theorem dAA_0 : decode jdk_68_method_22_code 0 = .ok (.aload_n 1, 1) := by decide +kernel
theorem dAA_1 : decode jdk_68_method_22_code 1 = .ok (.ifnonnull 8, 3) := by decide +kernel
theorem dAA_9 : decode jdk_68_method_22_code 9 = .ok (.aload_n 1, 1) := by decide +kernel
theorem dAA_10 : decode jdk_68_method_22_code 10 = .ok (.invokevirtual 32, 3) := by decide +kernel
theorem dAA_13 : decode jdk_68_method_22_code 13 = .ok (.istore_n 2, 1) := by decide +kernel
theorem dAA_14 : decode jdk_68_method_22_code 14 = .ok (.aload_n 0, 1) := by decide +kernel
theorem dAA_15 : decode jdk_68_method_22_code 15 = .ok (.aload_n 0, 1) := by decide +kernel
theorem dAA_16 : decode jdk_68_method_22_code 16 = .ok (.getfield 79, 3) := by decide +kernel
theorem dAA_19 : decode jdk_68_method_22_code 19 = .ok (.iload_n 2, 1) := by decide +kernel
theorem dAA_20 : decode jdk_68_method_22_code 20 = .ok (.iadd, 1) := by decide +kernel
theorem dAA_21 : decode jdk_68_method_22_code 21 = .ok (.invokevirtual 100, 3) := by decide +kernel
theorem dAA_24 : decode jdk_68_method_22_code 24 = .ok (.aload_n 0, 1) := by decide +kernel
theorem dAA_25 : decode jdk_68_method_22_code 25 = .ok (.aload_n 0, 1) := by decide +kernel
theorem dAA_26 : decode jdk_68_method_22_code 26 = .ok (.getfield 79, 3) := by decide +kernel
theorem dAA_29 : decode jdk_68_method_22_code 29 = .ok (.aload_n 1, 1) := by decide +kernel
theorem dAA_30 : decode jdk_68_method_22_code 30 = .ok (.invokevirtual 208, 3) := by decide +kernel
theorem dAA_33 : decode jdk_68_method_22_code 33 = .ok (.aload_n 0, 1) := by decide +kernel
theorem dAA_34 : decode jdk_68_method_22_code 34 = .ok (.dup, 1) := by decide +kernel
theorem dAA_35 : decode jdk_68_method_22_code 35 = .ok (.getfield 79, 3) := by decide +kernel
theorem dAA_38 : decode jdk_68_method_22_code 38 = .ok (.iload_n 2, 1) := by decide +kernel
theorem dAA_39 : decode jdk_68_method_22_code 39 = .ok (.iadd, 1) := by decide +kernel
theorem dAA_40 : decode jdk_68_method_22_code 40 = .ok (.putfield 79, 3) := by decide +kernel
theorem dAA_43 : decode jdk_68_method_22_code 43 = .ok (.aload_n 0, 1) := by decide +kernel
theorem dAA_44 : decode jdk_68_method_22_code 44 = .ok (.areturn, 1) := by decide +kernel
theorem pdAA : parseMethodDescriptor "(Ljava/lang/String;)Ljava/lang/AbstractStringBuilder;" = some ⟨[(.object "java/lang/String")], some (.object "java/lang/AbstractStringBuilder")⟩ := by decide +kernel
set_option maxRecDepth 65536 in
set_option maxHeartbeats 40000000 in
theorem rmAA (l : Launch) (Z : State) (a0 : Array Value) (hw : ∀ d ∈ tables_1, d.before a0 Z = true) (ws : List Jvm.Cond) (pa : Addr) (pv : Addr) (kv : ClassId) (px : Addr) (pt : Addr) (po : Int32) (vd : List Value) (cs : List Int32) (h0 : Heap) (n0 : Nat) (Z0 : n0 ≤ h0.size) (H0 : Exa Z h0 pa "java/lang/StringBuilder") (H1 : Fld Z h0 pa "java/lang/AbstractStringBuilder" "value" "[B" (.ref pv)) (H2 : Fld Z h0 pa "java/lang/AbstractStringBuilder" "coder" "B" (.int 0)) (H3 : Fld Z h0 pa "java/lang/AbstractStringBuilder" "count" "I" (.int po)) (H4 : Arv Z h0 pv kv .byte (16 : Int32) vd (.int 0)) (H5 : own_Str Z h0 px pt cs) (hap : own_App po vd cs) (ne_px_pv : px ≠ pv) (ne_pt_pv : pt ≠ pv) (ne_pa_pv : pa ≠ pv) (ne_px_pa : px ≠ pa) (ne_pt_pa : pt ≠ pa) (nw_pa : n0 ≤ pa) (nw_pv : n0 ≤ pv) (O0 : Old Z n0 h0) (SV : own_Env Z) :
    MetFree l (⟨"java/lang/AbstractStringBuilder", "append", "(Ljava/lang/String;)Ljava/lang/AbstractStringBuilder;"⟩ : MethodName) (head1 (Jvm.Cond.code (⟨"java/lang/AbstractStringBuilder", "append", "(Ljava/lang/String;)Ljava/lang/AbstractStringBuilder;"⟩ : MethodName) jdk_68_method_22_code 3 (some (.object "java/lang/AbstractStringBuilder")) :: ws) ({ frames := 3, cells := 0, slots := 0, locals := 70 } : Room)) (fun aa U => aa = #[(.ref pa), (.ref px)] ∧ Z.Warmed39 U.vm ∧ U.heap = h0) (fun _ _ _ _ _ => True) (fun _ U oo U' => ∃ v L, oo = .returned v ∧ QAA Z pa pv kv px pt po vd cs h0 n0 v U'.heap L ∧ FrameEnd U oo U' L ({ frames := 3, cells := 0, slots := 0, locals := 70 } : Room).cells ({ frames := 3, cells := 0, slots := 0, locals := 70 } : Room).slots) := by
  refine MetFree.of_bodySF (plainFor_of_name pnAI) hisR ?_
  intro p e s m args below meth c s₁ Bd hml0 hP hK
  obtain ⟨rfl, hZ, hh⟩ := hP
  have hx := Bd.exec
  have hby := Bd.bytes
  have hlk : meth.locks = false := BodyLoose.notSynchronized Bd
  have hml : c.maxLocals = 3 := hml0
  have hown : s.vm.findClass "java/lang/AbstractStringBuilder" = some m.cls := findClass_of_methodNamed Bd.named
  have hnm := (name_of_methodNamed Bd.named Bd.method).1
  have X0 : Stand p l e ({ frames := 3, cells := 0, slots := 0, locals := 70 } : Room) s m #[(.ref pa), (.ref px)] below meth c s₁ [] 0 0 := Stand.of_body Bd
  have e0 : s₁.heap = h0 := by rw [← hh, Bd.state]; rfl
  have N0 := Fr.nil n0
  have ef : entryFrame m #[(.ref pa), (.ref px)] 3 = mkF m 0 #[rv pa, rv px, .unset] [] := by first | (simp [entryFrame, mkF, argsToLocals, Value.category, maxLocals]; done) | rfl
  show Way p.tables e below (KQ s (QAA Z pa pv kv px pt po vd cs h0 n0) ({ frames := 3, cells := 0, slots := 0, locals := 70 } : Room).cells ({ frames := 3, cells := 0, slots := 0, locals := 70 } : Room).slots) (s₁.setTop (entryFrame m #[(.ref pa), (.ref px)] 3))
  rw [ef]
  refine Way.by (fun _ k => XS.aloadN X0.here hx rfl (hb hby dAA_0) rfl rfl k) ?_
  show Way _ _ _ _ (s₁.setTop (mkF m 1 #[rv pa, rv px, .unset] [(.ref px)]))
  refine Way.by (fun _ k => XT.ifnonnullYes X0.here hx rfl (pc0 := 1) (pc' := 9) rfl (hb hby dAA_1) rfl (by decide) (by decide) k) ?_
  show Way _ _ _ _ (s₁.setTop (mkF m 9 #[rv pa, rv px, .unset] []))
  refine Way.by (fun _ k => XS.aloadN X0.here hx rfl (hb hby dAA_9) rfl rfl k) ?_
  show Way _ _ _ _ (s₁.setTop (mkF m 10 #[rv pa, rv px, .unset] [(.ref px)]))
  obtain ⟨cq17, kq18, qa19, qb20, qc21⟩ := isOf hZ e0 H5.1
  obtain ⟨_, _, ⟨T1, L3, k4, n5⟩, -, X2, ⟨Lc6, hQ7, l8, y9, z10⟩, st11⟩ := X0.virtualBack hx (y := (⟨"java/lang/String", "length", "()I"⟩ : MethodName)) (z := (⟨"java/lang/String", "length", "()I"⟩ : MethodName)) hown (mvT hZ (tw hw 54 rfl)) (mvT hZ (tw hw 55 rfl)) (notFace_of_selects (args := #[]) (mvT hZ (tw hw 57 rfl))) (mvT hZ (tw hw 57 rfl)) (mvT hZ (tw hw 56 rfl)) (by decide) (own_len (W := 0) (n0 := n0) hZ hw SV O0 (cs := cs) H5 (by decide) (by decide)) qa19 qc21 (g := (mkF m 10 #[rv pa, rv px, .unset] [(.ref px)])) rfl (by rw [hml]; rfl) (Steps.refl _) (argsL := []) (rest := []) (lenOf own_pdLen rfl) rfl (leW rfl) (hb hby dAA_10) (fun _ _ => ⟨rfl, e0, (leB rfl), (leB rfl)⟩)
  dsimp only [Pt.U, Pt.locs, Pt.cells, Pt.slots] at X2 l8 y9 z10 st11 hQ7
  subst y9 z10
  obtain ⟨rfl, N22, e13⟩ := hQ7
  have N12 : Fr n0 L3 := by rw [l8]; exact Fr.app N0 N22
  refine Way.to st11 ?_
  show Way _ _ _ _ (T1.setTop (mkF m 13 #[rv pa, rv px, .unset] [(.int (Int32.ofNat cs.length))]))
  refine Way.by (fun _ k => XS.istoreN X2.here hx rfl (hb hby dAA_13) rfl (l' := #[rv pa, rv px, iv (Int32.ofNat cs.length)]) rfl k) ?_
  show Way _ _ _ _ (T1.setTop (mkF m 14 #[rv pa, rv px, iv (Int32.ofNat cs.length)] []))
  refine Way.by (fun _ k => XS.aloadN X2.here hx rfl (hb hby dAA_14) rfl rfl k) ?_
  refine Way.by (fun _ k => XS.aloadN X2.here hx rfl (hb hby dAA_15) rfl rfl k) ?_
  show Way _ _ _ _ (T1.setTop (mkF m 16 #[rv pa, rv px, iv (Int32.ofNat cs.length)] [(.ref pa), (.ref pa)]))
  obtain ⟨T24, X25, e26, st27⟩ := getF X2 hx hZ hown (host := "") (Or.inl (tw hw 65 rfl)) Via.refl e13 H3 (g := (mkF m 16 #[rv pa, rv px, iv (Int32.ofNat cs.length)] [(.ref pa), (.ref pa)])) rfl rfl (hb hby dAA_16)
  refine Way.by st27 ?_
  show Way _ _ _ _ (T24.setTop (mkF m 19 #[rv pa, rv px, iv (Int32.ofNat cs.length)] [(.int po), (.ref pa)]))
  refine Way.by (fun _ k => XS.iloadN X25.here hx rfl (hb hby dAA_19) rfl k) ?_
  show Way _ _ _ _ (T24.setTop (mkF m 20 #[rv pa, rv px, iv (Int32.ofNat cs.length)] [(.int (Int32.ofNat cs.length)), (.int po), (.ref pa)]))
  refine Way.by (fun _ k => XS.iadd X25.here hx rfl (hb hby dAA_20) rfl k) ?_
  show Way _ _ _ _ (T24.setTop (mkF m 21 #[rv pa, rv px, iv (Int32.ofNat cs.length)] [(.int (po + (Int32.ofNat cs.length))), (.ref pa)]))
  obtain ⟨cq44, qa45, qb46⟩ := H0.cell
  obtain ⟨_, _, ⟨T28, L30, k31, n32⟩, -, X29, ⟨Lc33, hQ34, l35, y36, z37⟩, st38⟩ := X25.privateBack hx (y := (⟨"java/lang/AbstractStringBuilder", "ensureCapacityInternal", "(I)V"⟩ : MethodName)) hown (mvT hZ (tw hw 67 rfl)) (mvT hZ (tw hw 68 rfl)) (selPriv (z := (⟨"java/lang/AbstractStringBuilder", "ensureCapacityInternal", "(I)V"⟩ : MethodName)) rfl (mvT hZ (tw hw 70 rfl)) (Cond.privateMethod_at (mvP hZ (tw hw 69 rfl) (args := #[]))) (mvT hZ (tw hw 68 rfl)) (by decide)) (Cond.privateMethod_at (mvP hZ (tw hw 69 rfl) (args := #[]))) (mvT hZ (tw hw 71 rfl)) (by decide) (backOf (W := 0) (rmEC l Z a0 hw [] pa pv kv (po + (Int32.ofNat cs.length)) vd h0 n0 Z0 H1 H2 H4 hap.2.2.2.2.2.1) hZ (tw hw 71 rfl) (tw hw 36 rfl) (by decide) (by decide)) (g := (mkF m 21 #[rv pa, rv px, iv (Int32.ofNat cs.length)] [(.int (po + (Int32.ofNat cs.length))), (.ref pa)])) rfl (by rw [hml]; rfl) (Steps.refl _) (a := pa) (by rw [e26]; exact qa45) qb46 (argsL := [(.int (po + (Int32.ofNat cs.length)))]) (rest := []) (lenOf pdAI rfl) rfl (leW rfl) (hb hby dAA_21) (fun _ _ => ⟨rfl, e26, (leB rfl), (leB rfl)⟩)
  dsimp only [Pt.U, Pt.locs, Pt.cells, Pt.slots] at X29 l35 y36 z37 st38 hQ34
  subst y36 z37
  obtain ⟨rfl, N47, e40⟩ := hQ34
  have N39 : Fr n0 L30 := by rw [l35]; exact Fr.app N12 N47
  refine Way.to st38 ?_
  show Way _ _ _ _ (T28.setTop (mkF m 24 #[rv pa, rv px, iv (Int32.ofNat cs.length)] []))
  try clear N12 X25 e26 st38 cq44 qa45 qb46 N47
  try clear T24
  refine Way.by (fun _ k => XS.aloadN X29.here hx rfl (hb hby dAA_24) rfl rfl k) ?_
  refine Way.by (fun _ k => XS.aloadN X29.here hx rfl (hb hby dAA_25) rfl rfl k) ?_
  show Way _ _ _ _ (T28.setTop (mkF m 26 #[rv pa, rv px, iv (Int32.ofNat cs.length)] [(.ref pa), (.ref pa)]))
  obtain ⟨T49, X50, e51, st52⟩ := getF X29 hx hZ hown (host := "") (Or.inl (tw hw 65 rfl)) Via.refl e40 H3 (g := (mkF m 26 #[rv pa, rv px, iv (Int32.ofNat cs.length)] [(.ref pa), (.ref pa)])) rfl rfl (hb hby dAA_26)
  refine Way.by st52 ?_
  show Way _ _ _ _ (T49.setTop (mkF m 29 #[rv pa, rv px, iv (Int32.ofNat cs.length)] [(.int po), (.ref pa)]))
  refine Way.by (fun _ k => XS.aloadN X50.here hx rfl (hb hby dAA_29) rfl rfl k) ?_
  show Way _ _ _ _ (T49.setTop (mkF m 30 #[rv pa, rv px, iv (Int32.ofNat cs.length)] [(.ref px), (.int po), (.ref pa)]))
  obtain ⟨cq69, qa70, qb71⟩ := H0.cell
  obtain ⟨_, _, ⟨T53, L55, k56, n57⟩, -, X54, ⟨Lc58, hQ59, l60, y61, z62⟩, st63⟩ := X50.privateBack hx (y := (⟨"java/lang/AbstractStringBuilder", "putStringAt", "(ILjava/lang/String;)V"⟩ : MethodName)) hown (mvT hZ (tw hw 72 rfl)) (mvT hZ (tw hw 73 rfl)) (selPriv (z := (⟨"java/lang/AbstractStringBuilder", "ensureCapacityInternal", "(I)V"⟩ : MethodName)) rfl (mvT hZ (tw hw 70 rfl)) (Cond.privateMethod_at (mvP hZ (tw hw 74 rfl) (args := #[]))) (mvT hZ (tw hw 73 rfl)) (by decide)) (Cond.privateMethod_at (mvP hZ (tw hw 74 rfl) (args := #[]))) (mvT hZ (tw hw 76 rfl)) (by decide) (backOf (W := 0) (rmPS l Z a0 hw [] pa pv kv px pt po vd cs h0 n0 Z0 H0 H1 H2 H3 H4 H5 hap ne_px_pv ne_pt_pv ne_pa_pv nw_pv O0 SV) hZ (tw hw 76 rfl) (tw hw 36 rfl) (by decide) (by decide)) (g := (mkF m 30 #[rv pa, rv px, iv (Int32.ofNat cs.length)] [(.ref px), (.int po), (.ref pa)])) rfl (by rw [hml]; rfl) (Steps.refl _) (a := pa) (by rw [e51]; exact qa70) qb71 (argsL := [(.int po), (.ref px)]) (rest := []) (lenOf pdPS rfl) rfl (leW rfl) (hb hby dAA_30) (fun _ _ => ⟨rfl, e51, (leB rfl), (leB rfl)⟩)
  dsimp only [Pt.U, Pt.locs, Pt.cells, Pt.slots] at X54 l60 y61 z62 st63 hQ59
  subst y61 z62
  obtain ⟨rfl, N72, K73, F_074⟩ := hQ59
  have N64 : Fr n0 L55 := by rw [l60]; exact Fr.app N39 N72
  have E75 := H0.keep K73
  have F76 := H1.keep K73 (ninS ne_pa_pv nin0)
  have F77 := H2.keep K73 (ninS ne_pa_pv nin0)
  have F78 := H3.keep K73 (ninS ne_pa_pv nin0)
  have S79 := H5.keep K73 (ninS ne_px_pv nin0) (ninS ne_pt_pv nin0)
  have Z80 := Nat.le_trans Z0 K73.1
  have O81 := O0.keep K73 (allS nw_pv all0)
  have K82 := (Keep.refl h0 [pa, pv]).trans K73 (allS (Or.inl (List.mem_of_getElem? (i := 1) rfl)) all0)
  have hz83 := Nat.le_trans (Nat.le_refl h0.size) K73.1
  refine Way.to st63 ?_
  show Way _ _ _ _ (T53.setTop (mkF m 33 #[rv pa, rv px, iv (Int32.ofNat cs.length)] []))
  try clear N39 X50 e51 st63 cq69 qa70 qb71 N72 K73
  try clear T49
  refine Way.by (fun _ k => XS.aloadN X54.here hx rfl (hb hby dAA_33) rfl rfl k) ?_
  refine Way.by (fun _ k => XS.dup X54.here hx rfl (hb hby dAA_34) rfl rfl k) ?_
  show Way _ _ _ _ (T53.setTop (mkF m 35 #[rv pa, rv px, iv (Int32.ofNat cs.length)] [(.ref pa), (.ref pa)]))
  obtain ⟨T84, X85, e86, st87⟩ := getF X54 hx hZ hown (host := "") (Or.inl (tw hw 65 rfl)) Via.refl rfl F78 (g := (mkF m 35 #[rv pa, rv px, iv (Int32.ofNat cs.length)] [(.ref pa), (.ref pa)])) rfl rfl (hb hby dAA_35)
  refine Way.by st87 ?_
  show Way _ _ _ _ (T84.setTop (mkF m 38 #[rv pa, rv px, iv (Int32.ofNat cs.length)] [(.int po), (.ref pa)]))
  refine Way.by (fun _ k => XS.iloadN X85.here hx rfl (hb hby dAA_38) rfl k) ?_
  show Way _ _ _ _ (T84.setTop (mkF m 39 #[rv pa, rv px, iv (Int32.ofNat cs.length)] [(.int (Int32.ofNat cs.length)), (.int po), (.ref pa)]))
  refine Way.by (fun _ k => XS.iadd X85.here hx rfl (hb hby dAA_39) rfl k) ?_
  show Way _ _ _ _ (T84.setTop (mkF m 40 #[rv pa, rv px, iv (Int32.ofNat cs.length)] [(.int (po + (Int32.ofNat cs.length))), (.ref pa)]))
  obtain ⟨T88, h89, X90, e91, W92, st93⟩ := putF X85 hx hZ hown (host := "") (Or.inl (tw hw 65 rfl)) Via.refl e86 F78 E75 (Or.inl (tw hw 66 rfl)) (tw hw 27 rfl) (ty := .int) (by decide) rfl rfl (g := (mkF m 40 #[rv pa, rv px, iv (Int32.ofNat cs.length)] [(.int (po + (Int32.ofNat cs.length))), (.ref pa)])) rfl rfl (hb hby dAA_40)
  have N94 := Fr.snoc X90 N64 nw_pa
  have E95 := Exa.wr W92 E75
  have F96 := F76.other W92 (Or.inr (slot_ne (Or.inl (tw hw 41 rfl)) (Or.inl (tw hw 66 rfl)) (by decide) (t := (.array .byte)) (t' := .int) (by decide) (by decide)))
  have F97 := F77.other W92 (Or.inr (slot_ne (Or.inl (tw hw 43 rfl)) (Or.inl (tw hw 66 rfl)) (by decide) (t := .byte) (t' := .int) (by decide) (by decide)))
  have F98 : Fld Z h89 pa "java/lang/AbstractStringBuilder" "count" "I" (.int (po + (Int32.ofNat cs.length))) := F78.same W92
  have S99 := S79.other W92 ne_px_pa ne_pt_pa
  have A100 := F_074.other W92 ne_pa_pv.symm
  have Z101 : n0 ≤ h89.size := by rw [W92.size]; exact Z80
  have O102 := O81.wr W92 nw_pa
  have K103 := K82.wr W92 (Or.inl (List.mem_of_getElem? (i := 0) rfl))
  have hz104 : h0.size ≤ h89.size := by rw [W92.size]; exact hz83
  refine Way.by st93 ?_
  show Way _ _ _ _ (T88.setTop (mkF m 43 #[rv pa, rv px, iv (Int32.ofNat cs.length)] []))
  try clear N64 F_074 E75 F76 F77 F78 S79 Z80 O81 K82 hz83 X85 e86 W92 st93
  try clear T53 T84
  refine Way.by (fun _ k => XS.aloadN X90.here hx rfl (hb hby dAA_43) rfl rfl k) ?_
  show Way _ _ _ _ (T88.setTop (mkF m 44 #[rv pa, rv px, iv (Int32.ofNat cs.length)] [(.ref pa)]))
  refine Way.ret (v := (some (.ref pa))) X90 hlk (fun h => by rw [Bd.returns] at h; cases h) (fun fs hr => retOut X90 hx Bd.returns rfl (Or.inr (Or.inr (Or.inr (Or.inr ⟨rfl, rfl, rfl⟩)))) (hb hby dAA_44) hr) ?_ (by decide) (by decide)
  show QAA Z pa pv kv px pt po vd cs h0 n0 _ T88.heap _
  rw [e91]
  exact ⟨rfl, N94, K103, E95, F96, F97, F98, A100⟩
def QSA (Z : State) (pa : Addr) (pv : Addr) (kv : ClassId) (px : Addr) (pt : Addr) (po : Int32) (vd : List Value) (cs : List Int32) (h0 : Heap) (n0 : Nat) (v : Option Value) (h : Heap) (L : List Loc) : Prop := v = some (.ref pa) ∧ Fr n0 L ∧ Keep h0 h [pa, pv] ∧ Exa Z h pa "java/lang/StringBuilder" ∧ Fld Z h pa "java/lang/AbstractStringBuilder" "value" "[B" (.ref pv) ∧ Fld Z h pa "java/lang/AbstractStringBuilder" "coder" "B" (.int 0) ∧ Fld Z h pa "java/lang/AbstractStringBuilder" "count" "I" (.int (po + Int32.ofNat cs.length)) ∧ Arv Z h pv kv .byte (16 : Int32) (vd ++ own_by cs) (.int 0)
theorem dSA_0 : decode jdk_67_method_7_code 0 = .ok (.aload_n 0, 1) := by decide +kernel
theorem dSA_1 : decode jdk_67_method_7_code 1 = .ok (.aload_n 1, 1) := by decide +kernel
theorem dSA_2 : decode jdk_67_method_7_code 2 = .ok (.invokespecial 29, 3) := by decide +kernel
theorem dSA_5 : decode jdk_67_method_7_code 5 = .ok (.pop, 1) := by decide +kernel
theorem dSA_6 : decode jdk_67_method_7_code 6 = .ok (.aload_n 0, 1) := by decide +kernel
theorem dSA_7 : decode jdk_67_method_7_code 7 = .ok (.areturn, 1) := by decide +kernel
theorem pdSA : parseMethodDescriptor "(Ljava/lang/String;)Ljava/lang/StringBuilder;" = some ⟨[(.object "java/lang/String")], some (.object "java/lang/StringBuilder")⟩ := by decide +kernel
set_option maxRecDepth 65536 in
set_option maxHeartbeats 40000000 in
theorem rmSA (l : Launch) (Z : State) (a0 : Array Value) (hw : ∀ d ∈ tables_1, d.before a0 Z = true) (ws : List Jvm.Cond) (pa : Addr) (pv : Addr) (kv : ClassId) (px : Addr) (pt : Addr) (po : Int32) (vd : List Value) (cs : List Int32) (h0 : Heap) (n0 : Nat) (Z0 : n0 ≤ h0.size) (H0 : Exa Z h0 pa "java/lang/StringBuilder") (H1 : Fld Z h0 pa "java/lang/AbstractStringBuilder" "value" "[B" (.ref pv)) (H2 : Fld Z h0 pa "java/lang/AbstractStringBuilder" "coder" "B" (.int 0)) (H3 : Fld Z h0 pa "java/lang/AbstractStringBuilder" "count" "I" (.int po)) (H4 : Arv Z h0 pv kv .byte (16 : Int32) vd (.int 0)) (H5 : own_Str Z h0 px pt cs) (hap : own_App po vd cs) (ne_px_pv : px ≠ pv) (ne_pt_pv : pt ≠ pv) (ne_pa_pv : pa ≠ pv) (ne_px_pa : px ≠ pa) (ne_pt_pa : pt ≠ pa) (nw_pa : n0 ≤ pa) (nw_pv : n0 ≤ pv) (O0 : Old Z n0 h0) (SV : own_Env Z) :
    MetFree l (⟨"java/lang/StringBuilder", "append", "(Ljava/lang/String;)Ljava/lang/StringBuilder;"⟩ : MethodName) (head1 (Jvm.Cond.code (⟨"java/lang/StringBuilder", "append", "(Ljava/lang/String;)Ljava/lang/StringBuilder;"⟩ : MethodName) jdk_67_method_7_code 2 (some (.object "java/lang/StringBuilder")) :: ws) ({ frames := 4, cells := 0, slots := 0, locals := 84 } : Room)) (fun aa U => aa = #[(.ref pa), (.ref px)] ∧ Z.Warmed39 U.vm ∧ U.heap = h0) (fun _ _ _ _ _ => True) (fun _ U oo U' => ∃ v L, oo = .returned v ∧ QSA Z pa pv kv px pt po vd cs h0 n0 v U'.heap L ∧ FrameEnd U oo U' L ({ frames := 4, cells := 0, slots := 0, locals := 84 } : Room).cells ({ frames := 4, cells := 0, slots := 0, locals := 84 } : Room).slots) := by
  refine MetFree.of_bodySF (plainFor_of_name pnSI) hisR ?_
  intro p e s m args below meth c s₁ Bd hml0 hP hK
  obtain ⟨rfl, hZ, hh⟩ := hP
  have hx := Bd.exec
  have hby := Bd.bytes
  have hlk : meth.locks = false := BodyLoose.notSynchronized Bd
  have hml : c.maxLocals = 2 := hml0
  have hown : s.vm.findClass "java/lang/StringBuilder" = some m.cls := findClass_of_methodNamed Bd.named
  have hnm := (name_of_methodNamed Bd.named Bd.method).1
  have X0 : Stand p l e ({ frames := 4, cells := 0, slots := 0, locals := 84 } : Room) s m #[(.ref pa), (.ref px)] below meth c s₁ [] 0 0 := Stand.of_body Bd
  have e0 : s₁.heap = h0 := by rw [← hh, Bd.state]; rfl
  have N0 := Fr.nil n0
  have ef : entryFrame m #[(.ref pa), (.ref px)] 2 = mkF m 0 #[rv pa, rv px] [] := by first | (simp [entryFrame, mkF, argsToLocals, Value.category, maxLocals]; done) | rfl
  show Way p.tables e below (KQ s (QSA Z pa pv kv px pt po vd cs h0 n0) ({ frames := 4, cells := 0, slots := 0, locals := 84 } : Room).cells ({ frames := 4, cells := 0, slots := 0, locals := 84 } : Room).slots) (s₁.setTop (entryFrame m #[(.ref pa), (.ref px)] 2))
  rw [ef]
  refine Way.by (fun _ k => XS.aloadN X0.here hx rfl (hb hby dSA_0) rfl rfl k) ?_
  refine Way.by (fun _ k => XS.aloadN X0.here hx rfl (hb hby dSA_1) rfl rfl k) ?_
  show Way _ _ _ _ (s₁.setTop (mkF m 2 #[rv pa, rv px] [(.ref px), (.ref pa)]))
  obtain ⟨_, _, ⟨T1, L3, k4, n5⟩, -, X2, ⟨Lc6, hQ7, l8, y9, z10⟩, st11⟩ := superBack X0 hx hZ (y := (⟨"java/lang/AbstractStringBuilder", "append", "(Ljava/lang/String;)Ljava/lang/AbstractStringBuilder;"⟩ : MethodName)) hown (tw hw 49 rfl) (sameOwn (z := (⟨"java/lang/AbstractStringBuilder", "ensureCapacityInternal", "(I)V"⟩ : MethodName)) rfl (tw hw 70 rfl) (tw hw 50 rfl) (by decide)) (tw hw 50 rfl) (tw hw 51 rfl) (by decide) (backOf (W := 0) (rmAA l Z a0 hw [] pa pv kv px pt po vd cs h0 n0 Z0 H0 H1 H2 H3 H4 H5 hap ne_px_pv ne_pt_pv ne_pa_pv ne_px_pa ne_pt_pa nw_pa nw_pv O0 SV) hZ (tw hw 53 rfl) (tw hw 36 rfl) (by decide) (by decide)) e0 (Ins.self H0) (g := (mkF m 2 #[rv pa, rv px] [(.ref px), (.ref pa)])) rfl (by rw [hml]; rfl) (tw hw 53 rfl) (argsL := [(.ref px)]) (rest := []) (lenOf pdAA rfl) rfl (leW rfl) (hb hby dSA_2) (fun _ _ => ⟨rfl, e0, (leB rfl), (leB rfl)⟩)
  dsimp only [Pt.U, Pt.locs, Pt.cells, Pt.slots] at X2 l8 y9 z10 st11 hQ7
  subst y9 z10
  obtain ⟨rfl, N17, K18, F_019, F_120, F_221, F_322, F_423⟩ := hQ7
  have N12 : Fr n0 L3 := by rw [l8]; exact Fr.app N0 N17
  have E24 := H0.keep K18
  have S25 := H5.keep K18 (ninS ne_px_pa (ninS ne_px_pv nin0)) (ninS ne_pt_pa (ninS ne_pt_pv nin0))
  have Z26 := Nat.le_trans Z0 K18.1
  have O27 := O0.keep K18 (allS nw_pa (allS nw_pv all0))
  have K28 := (Keep.refl h0 [pa, pv]).trans K18 (allS (Or.inl (List.mem_of_getElem? (i := 0) rfl)) (allS (Or.inl (List.mem_of_getElem? (i := 1) rfl)) all0))
  have hz29 := Nat.le_trans (Nat.le_refl h0.size) K18.1
  refine Way.to st11 ?_
  show Way _ _ _ _ (T1.setTop (mkF m 5 #[rv pa, rv px] [(.ref pa)]))
  refine Way.by (fun _ k => XT.pop X2.here hx rfl (hb hby dSA_5) rfl rfl k) ?_
  show Way _ _ _ _ (T1.setTop (mkF m 6 #[rv pa, rv px] []))
  refine Way.by (fun _ k => XS.aloadN X2.here hx rfl (hb hby dSA_6) rfl rfl k) ?_
  show Way _ _ _ _ (T1.setTop (mkF m 7 #[rv pa, rv px] [(.ref pa)]))
  refine Way.ret (v := (some (.ref pa))) X2 hlk (fun h => by rw [Bd.returns] at h; cases h) (fun fs hr => retOut X2 hx Bd.returns rfl (Or.inr (Or.inr (Or.inr (Or.inr ⟨rfl, rfl, rfl⟩)))) (hb hby dSA_7) hr) ?_ (by decide) (by decide)
  show QSA Z pa pv kv px pt po vd cs h0 n0 _ T1.heap _
  skip
  exact ⟨rfl, N12, K28, F_019, F_120, F_221, F_322, F_423⟩
def QLA (Z : State) (pa : Addr) (pn : Int32) (h0 : Heap) (n0 : Nat) (v : Option Value) (h : Heap) (L : List Loc) : Prop := v = some (.int pn) ∧ Fr n0 L ∧ h = h0
theorem dLA_0 : decode jdk_68_method_6_code 0 = .ok (.aload_n 0, 1) := by decide +kernel
theorem dLA_1 : decode jdk_68_method_6_code 1 = .ok (.getfield 79, 3) := by decide +kernel
theorem dLA_4 : decode jdk_68_method_6_code 4 = .ok (.ireturn, 1) := by decide +kernel
theorem pdLA : parseMethodDescriptor "()I" = some ⟨[], some .int⟩ := by decide +kernel
set_option maxRecDepth 65536 in
set_option maxHeartbeats 40000000 in
theorem rmLA (l : Launch) (Z : State) (a0 : Array Value) (hw : ∀ d ∈ tables_1, d.before a0 Z = true) (ws : List Jvm.Cond) (pa : Addr) (pn : Int32) (h0 : Heap) (n0 : Nat) (Z0 : n0 ≤ h0.size) (H0 : Fld Z h0 pa "java/lang/AbstractStringBuilder" "count" "I" (.int pn)) :
    MetFree l (⟨"java/lang/AbstractStringBuilder", "length", "()I"⟩ : MethodName) (head1 (Jvm.Cond.code (⟨"java/lang/AbstractStringBuilder", "length", "()I"⟩ : MethodName) jdk_68_method_6_code 1 (some .int) :: ws) ({ frames := 0, cells := 0, slots := 0, locals := 0 } : Room)) (fun aa U => aa = #[(.ref pa)] ∧ Z.Warmed39 U.vm ∧ U.heap = h0) (fun _ _ _ _ _ => True) (fun _ U oo U' => ∃ v L, oo = .returned v ∧ QLA Z pa pn h0 n0 v U'.heap L ∧ FrameEnd U oo U' L ({ frames := 0, cells := 0, slots := 0, locals := 0 } : Room).cells ({ frames := 0, cells := 0, slots := 0, locals := 0 } : Room).slots) := by
  refine MetFree.of_bodySF (plainFor_of_name pnAI) hisR ?_
  intro p e s m args below meth c s₁ Bd hml0 hP hK
  obtain ⟨rfl, hZ, hh⟩ := hP
  have hx := Bd.exec
  have hby := Bd.bytes
  have hlk : meth.locks = false := BodyLoose.notSynchronized Bd
  have hml : c.maxLocals = 1 := hml0
  have hown : s.vm.findClass "java/lang/AbstractStringBuilder" = some m.cls := findClass_of_methodNamed Bd.named
  have hnm := (name_of_methodNamed Bd.named Bd.method).1
  have X0 : Stand p l e ({ frames := 0, cells := 0, slots := 0, locals := 0 } : Room) s m #[(.ref pa)] below meth c s₁ [] 0 0 := Stand.of_body Bd
  have e0 : s₁.heap = h0 := by rw [← hh, Bd.state]; rfl
  have N0 := Fr.nil n0
  have ef : entryFrame m #[(.ref pa)] 1 = mkF m 0 #[rv pa] [] := by first | (simp [entryFrame, mkF, argsToLocals, Value.category, maxLocals]; done) | rfl
  show Way p.tables e below (KQ s (QLA Z pa pn h0 n0) ({ frames := 0, cells := 0, slots := 0, locals := 0 } : Room).cells ({ frames := 0, cells := 0, slots := 0, locals := 0 } : Room).slots) (s₁.setTop (entryFrame m #[(.ref pa)] 1))
  rw [ef]
  refine Way.by (fun _ k => XS.aloadN X0.here hx rfl (hb hby dLA_0) rfl rfl k) ?_
  show Way _ _ _ _ (s₁.setTop (mkF m 1 #[rv pa] [(.ref pa)]))
  obtain ⟨T1, X2, e3, st4⟩ := getF X0 hx hZ hown (host := "") (Or.inl (tw hw 65 rfl)) Via.refl e0 H0 (g := (mkF m 1 #[rv pa] [(.ref pa)])) rfl rfl (hb hby dLA_1)
  refine Way.by st4 ?_
  show Way _ _ _ _ (T1.setTop (mkF m 4 #[rv pa] [(.int pn)]))
  refine Way.ret (v := (some (.int pn))) X2 hlk (fun h => by rw [Bd.returns] at h; cases h) (fun fs hr => retI X2 hx Bd.returns (hb hby dLA_4) hr) ?_ (by decide) (by decide)
  show QLA Z pa pn h0 n0 _ T1.heap _
  rw [e3]
  exact ⟨rfl, N0, rfl⟩
def QLS (Z : State) (pa : Addr) (pn : Int32) (h0 : Heap) (n0 : Nat) (v : Option Value) (h : Heap) (L : List Loc) : Prop := v = some (.int pn) ∧ Fr n0 L ∧ h = h0
theorem dLS_0 : decode jdk_67_method_93_code 0 = .ok (.aload_n 0, 1) := by decide +kernel
theorem dLS_1 : decode jdk_67_method_93_code 1 = .ok (.invokespecial 343, 3) := by decide +kernel
theorem dLS_4 : decode jdk_67_method_93_code 4 = .ok (.ireturn, 1) := by decide +kernel
set_option maxRecDepth 65536 in
set_option maxHeartbeats 40000000 in
theorem rmLS (l : Launch) (Z : State) (a0 : Array Value) (hw : ∀ d ∈ tables_1, d.before a0 Z = true) (ws : List Jvm.Cond) (pa : Addr) (pn : Int32) (h0 : Heap) (n0 : Nat) (Z0 : n0 ≤ h0.size) (H0 : Exa Z h0 pa "java/lang/StringBuilder") (H1 : Fld Z h0 pa "java/lang/AbstractStringBuilder" "count" "I" (.int pn)) :
    MetFree l (⟨"java/lang/StringBuilder", "length", "()I"⟩ : MethodName) (head1 (Jvm.Cond.code (⟨"java/lang/StringBuilder", "length", "()I"⟩ : MethodName) jdk_67_method_93_code 1 (some .int) :: ws) ({ frames := 1, cells := 0, slots := 0, locals := 12 } : Room)) (fun aa U => aa = #[(.ref pa)] ∧ Z.Warmed39 U.vm ∧ U.heap = h0) (fun _ _ _ _ _ => True) (fun _ U oo U' => ∃ v L, oo = .returned v ∧ QLS Z pa pn h0 n0 v U'.heap L ∧ FrameEnd U oo U' L ({ frames := 1, cells := 0, slots := 0, locals := 12 } : Room).cells ({ frames := 1, cells := 0, slots := 0, locals := 12 } : Room).slots) := by
  refine MetFree.of_bodySF (plainFor_of_name pnSI) hisR ?_
  intro p e s m args below meth c s₁ Bd hml0 hP hK
  obtain ⟨rfl, hZ, hh⟩ := hP
  have hx := Bd.exec
  have hby := Bd.bytes
  have hlk : meth.locks = false := BodyLoose.notSynchronized Bd
  have hml : c.maxLocals = 1 := hml0
  have hown : s.vm.findClass "java/lang/StringBuilder" = some m.cls := findClass_of_methodNamed Bd.named
  have hnm := (name_of_methodNamed Bd.named Bd.method).1
  have X0 : Stand p l e ({ frames := 1, cells := 0, slots := 0, locals := 12 } : Room) s m #[(.ref pa)] below meth c s₁ [] 0 0 := Stand.of_body Bd
  have e0 : s₁.heap = h0 := by rw [← hh, Bd.state]; rfl
  have N0 := Fr.nil n0
  have ef : entryFrame m #[(.ref pa)] 1 = mkF m 0 #[rv pa] [] := by first | (simp [entryFrame, mkF, argsToLocals, Value.category, maxLocals]; done) | rfl
  show Way p.tables e below (KQ s (QLS Z pa pn h0 n0) ({ frames := 1, cells := 0, slots := 0, locals := 12 } : Room).cells ({ frames := 1, cells := 0, slots := 0, locals := 12 } : Room).slots) (s₁.setTop (entryFrame m #[(.ref pa)] 1))
  rw [ef]
  refine Way.by (fun _ k => XS.aloadN X0.here hx rfl (hb hby dLS_0) rfl rfl k) ?_
  show Way _ _ _ _ (s₁.setTop (mkF m 1 #[rv pa] [(.ref pa)]))
  obtain ⟨_, _, ⟨T1, L3, k4, n5⟩, -, X2, ⟨Lc6, hQ7, l8, y9, z10⟩, st11⟩ := superBack X0 hx hZ (y := (⟨"java/lang/AbstractStringBuilder", "length", "()I"⟩ : MethodName)) hown (tw hw 127 rfl) (sameOwn (z := (⟨"java/lang/AbstractStringBuilder", "ensureCapacityInternal", "(I)V"⟩ : MethodName)) rfl (tw hw 70 rfl) (tw hw 123 rfl) (by decide)) (tw hw 123 rfl) (tw hw 51 rfl) (by decide) (backOf (W := 0) (rmLA l Z a0 hw [] pa pn h0 n0 Z0 H1) hZ (tw hw 128 rfl) (tw hw 36 rfl) (by decide) (by decide)) e0 (Ins.self H0) (g := (mkF m 1 #[rv pa] [(.ref pa)])) rfl (by rw [hml]; rfl) (tw hw 128 rfl) (argsL := []) (rest := []) (lenOf pdLA rfl) rfl (leW rfl) (hb hby dLS_1) (fun _ _ => ⟨rfl, e0, (leB rfl), (leB rfl)⟩)
  dsimp only [Pt.U, Pt.locs, Pt.cells, Pt.slots] at X2 l8 y9 z10 st11 hQ7
  subst y9 z10
  obtain ⟨rfl, N17, e13⟩ := hQ7
  have N12 : Fr n0 L3 := by rw [l8]; exact Fr.app N0 N17
  refine Way.to st11 ?_
  show Way _ _ _ _ (T1.setTop (mkF m 4 #[rv pa] [(.int pn)]))
  refine Way.ret (v := (some (.int pn))) X2 hlk (fun h => by rw [Bd.returns] at h; cases h) (fun fs hr => retI X2 hx Bd.returns (hb hby dLS_4) hr) ?_ (by decide) (by decide)
  show QLS Z pa pn h0 n0 _ T1.heap _
  rw [e13]
  exact ⟨rfl, N12, rfl⟩
def QGV (Z : State) (pa : Addr) (pv : Addr) (h0 : Heap) (n0 : Nat) (v : Option Value) (h : Heap) (L : List Loc) : Prop := v = some (.ref pv) ∧ Fr n0 L ∧ h = h0
theorem dGV_0 : decode jdk_68_method_64_code 0 = .ok (.aload_n 0, 1) := by decide +kernel
theorem dGV_1 : decode jdk_68_method_64_code 1 = .ok (.getfield 15, 3) := by decide +kernel
theorem dGV_4 : decode jdk_68_method_64_code 4 = .ok (.areturn, 1) := by decide +kernel
theorem pdGV : parseMethodDescriptor "()[B" = some ⟨[], some (.array .byte)⟩ := by decide +kernel
set_option maxRecDepth 65536 in
set_option maxHeartbeats 40000000 in
theorem rmGV (l : Launch) (Z : State) (a0 : Array Value) (hw : ∀ d ∈ tables_1, d.before a0 Z = true) (ws : List Jvm.Cond) (pa : Addr) (pv : Addr) (h0 : Heap) (n0 : Nat) (Z0 : n0 ≤ h0.size) (H0 : Fld Z h0 pa "java/lang/AbstractStringBuilder" "value" "[B" (.ref pv)) :
    MetFree l (⟨"java/lang/AbstractStringBuilder", "getValue", "()[B"⟩ : MethodName) (head1 (Jvm.Cond.code (⟨"java/lang/AbstractStringBuilder", "getValue", "()[B"⟩ : MethodName) jdk_68_method_64_code 1 (some (.array .byte)) :: ws) ({ frames := 0, cells := 0, slots := 0, locals := 0 } : Room)) (fun aa U => aa = #[(.ref pa)] ∧ Z.Warmed39 U.vm ∧ U.heap = h0) (fun _ _ _ _ _ => True) (fun _ U oo U' => ∃ v L, oo = .returned v ∧ QGV Z pa pv h0 n0 v U'.heap L ∧ FrameEnd U oo U' L ({ frames := 0, cells := 0, slots := 0, locals := 0 } : Room).cells ({ frames := 0, cells := 0, slots := 0, locals := 0 } : Room).slots) := by
  refine MetFree.of_bodySF (plainFor_of_name pnAI) hisR ?_
  intro p e s m args below meth c s₁ Bd hml0 hP hK
  obtain ⟨rfl, hZ, hh⟩ := hP
  have hx := Bd.exec
  have hby := Bd.bytes
  have hlk : meth.locks = false := BodyLoose.notSynchronized Bd
  have hml : c.maxLocals = 1 := hml0
  have hown : s.vm.findClass "java/lang/AbstractStringBuilder" = some m.cls := findClass_of_methodNamed Bd.named
  have hnm := (name_of_methodNamed Bd.named Bd.method).1
  have X0 : Stand p l e ({ frames := 0, cells := 0, slots := 0, locals := 0 } : Room) s m #[(.ref pa)] below meth c s₁ [] 0 0 := Stand.of_body Bd
  have e0 : s₁.heap = h0 := by rw [← hh, Bd.state]; rfl
  have N0 := Fr.nil n0
  have ef : entryFrame m #[(.ref pa)] 1 = mkF m 0 #[rv pa] [] := by first | (simp [entryFrame, mkF, argsToLocals, Value.category, maxLocals]; done) | rfl
  show Way p.tables e below (KQ s (QGV Z pa pv h0 n0) ({ frames := 0, cells := 0, slots := 0, locals := 0 } : Room).cells ({ frames := 0, cells := 0, slots := 0, locals := 0 } : Room).slots) (s₁.setTop (entryFrame m #[(.ref pa)] 1))
  rw [ef]
  refine Way.by (fun _ k => XS.aloadN X0.here hx rfl (hb hby dGV_0) rfl rfl k) ?_
  show Way _ _ _ _ (s₁.setTop (mkF m 1 #[rv pa] [(.ref pa)]))
  obtain ⟨T1, X2, e3, st4⟩ := getF X0 hx hZ hown (host := "") (Or.inl (tw hw 40 rfl)) Via.refl e0 H0 (g := (mkF m 1 #[rv pa] [(.ref pa)])) rfl rfl (hb hby dGV_1)
  refine Way.by st4 ?_
  show Way _ _ _ _ (T1.setTop (mkF m 4 #[rv pa] [(.ref pv)]))
  refine Way.ret (v := (some (.ref pv))) X2 hlk (fun h => by rw [Bd.returns] at h; cases h) (fun fs hr => retOut X2 hx Bd.returns rfl (Or.inr (Or.inr (Or.inr (Or.inr ⟨rfl, rfl, rfl⟩)))) (hb hby dGV_4) hr) ?_ (by decide) (by decide)
  show QGV Z pa pv h0 n0 _ T1.heap _
  rw [e3]
  exact ⟨rfl, N0, rfl⟩
def QA1 (Z : State) (pa : Addr) (h0 : Heap) (n0 : Nat) (v : Option Value) (h : Heap) (L : List Loc) : Prop := v = some (.int 1) ∧ Fr n0 L ∧ h = h0
theorem dA1_0 : decode jdk_68_method_68_code 0 = .ok (.getstatic 18, 3) := by decide +kernel
theorem dA1_3 : decode jdk_68_method_68_code 3 = .ok (.ifCond .eq 14, 3) := by decide +kernel
theorem dA1_6 : decode jdk_68_method_68_code 6 = .ok (.aload_n 0, 1) := by decide +kernel
theorem dA1_7 : decode jdk_68_method_68_code 7 = .ok (.getfield 22, 3) := by decide +kernel
theorem dA1_10 : decode jdk_68_method_68_code 10 = .ok (.ifCond .ne 7, 3) := by decide +kernel
theorem dA1_13 : decode jdk_68_method_68_code 13 = .ok (.iconst 1, 1) := by decide +kernel
theorem dA1_14 : decode jdk_68_method_68_code 14 = .ok (.goto 4, 3) := by decide +kernel
theorem dA1_18 : decode jdk_68_method_68_code 18 = .ok (.ireturn, 1) := by decide +kernel
theorem pdA1 : parseMethodDescriptor "()Z" = some ⟨[], some .boolean⟩ := by decide +kernel
set_option maxRecDepth 65536 in
set_option maxHeartbeats 40000000 in
theorem rmA1 (l : Launch) (Z : State) (a0 : Array Value) (hw : ∀ d ∈ tables_1, d.before a0 Z = true) (ws : List Jvm.Cond) (pa : Addr) (h0 : Heap) (n0 : Nat) (Z0 : n0 ≤ h0.size) (H0 : Fld Z h0 pa "java/lang/AbstractStringBuilder" "coder" "B" (.int 0)) (O0 : Old Z n0 h0) (SV : own_Env Z) :
    MetFree l (⟨"java/lang/AbstractStringBuilder", "isLatin1", "()Z"⟩ : MethodName) (head1 (Jvm.Cond.code (⟨"java/lang/AbstractStringBuilder", "isLatin1", "()Z"⟩ : MethodName) jdk_68_method_68_code 1 (some .boolean) :: ws) ({ frames := 0, cells := 0, slots := 0, locals := 0 } : Room)) (fun aa U => aa = #[(.ref pa)] ∧ Z.Warmed39 U.vm ∧ U.heap = h0) (fun _ _ _ _ _ => True) (fun _ U oo U' => ∃ v L, oo = .returned v ∧ QA1 Z pa h0 n0 v U'.heap L ∧ FrameEnd U oo U' L ({ frames := 0, cells := 0, slots := 0, locals := 0 } : Room).cells ({ frames := 0, cells := 0, slots := 0, locals := 0 } : Room).slots) := by
  refine MetFree.of_bodySF (plainFor_of_name pnAI) hisR ?_
  intro p e s m args below meth c s₁ Bd hml0 hP hK
  obtain ⟨rfl, hZ, hh⟩ := hP
  have hx := Bd.exec
  have hby := Bd.bytes
  have hlk : meth.locks = false := BodyLoose.notSynchronized Bd
  have hml : c.maxLocals = 1 := hml0
  have hown : s.vm.findClass "java/lang/AbstractStringBuilder" = some m.cls := findClass_of_methodNamed Bd.named
  have hnm := (name_of_methodNamed Bd.named Bd.method).1
  have X0 : Stand p l e ({ frames := 0, cells := 0, slots := 0, locals := 0 } : Room) s m #[(.ref pa)] below meth c s₁ [] 0 0 := Stand.of_body Bd
  have e0 : s₁.heap = h0 := by rw [← hh, Bd.state]; rfl
  have N0 := Fr.nil n0
  have ef : entryFrame m #[(.ref pa)] 1 = mkF m 0 #[rv pa] [] := by first | (simp [entryFrame, mkF, argsToLocals, Value.category, maxLocals]; done) | rfl
  show Way p.tables e below (KQ s (QA1 Z pa h0 n0) ({ frames := 0, cells := 0, slots := 0, locals := 0 } : Room).cells ({ frames := 0, cells := 0, slots := 0, locals := 0 } : Room).slots) (s₁.setTop (entryFrame m #[(.ref pa)] 1))
  rw [ef]
  obtain ⟨⟨G1, SG1, hG1⟩, G3, SG3, rG3⟩ := id SV
  obtain ⟨T1, X2, e3, st4⟩ := getS X0 hx hZ hown (host := "") (tw hw 39 rfl) Via.refl e0 (Sta.ext O0.2 SG1) (g := (mkF m 0 #[rv pa] [])) rfl (hb hby dA1_0)
  refine Way.by st4 ?_
  show Way _ _ _ _ (T1.setTop (mkF m 3 #[rv pa] [(.int G1)]))
  have b5 : ¬ G1 = (0 : Int32) := hG1
  refine Way.by (fun _ k => XS.ifNo X2.here hx rfl (hb hby dA1_3) rfl ((if0 .eq _).trans (feq b5).1) k) ?_
  show Way _ _ _ _ (T1.setTop (mkF m 6 #[rv pa] []))
  refine Way.by (fun _ k => XS.aloadN X2.here hx rfl (hb hby dA1_6) rfl rfl k) ?_
  show Way _ _ _ _ (T1.setTop (mkF m 7 #[rv pa] [(.ref pa)]))
  obtain ⟨T6, X7, e8, st9⟩ := getF X2 hx hZ hown (host := "") (Or.inl (tw hw 42 rfl)) Via.refl e3 H0 (g := (mkF m 7 #[rv pa] [(.ref pa)])) rfl rfl (hb hby dA1_7)
  refine Way.by st9 ?_
  show Way _ _ _ _ (T6.setTop (mkF m 10 #[rv pa] [(.int 0)]))
  have b10 : (0 : Int32) = (0 : Int32) := by decide
  refine Way.by (fun _ k => XS.ifNo X7.here hx rfl (hb hby dA1_10) rfl ((if0 .ne _).trans (teq b10).2) k) ?_
  show Way _ _ _ _ (T6.setTop (mkF m 13 #[rv pa] []))
  refine Way.by (fun _ k => XS.iconst X7.here hx rfl (hb hby dA1_13) k) ?_
  show Way _ _ _ _ (T6.setTop (mkF m 14 #[rv pa] [(.int 1)]))
  refine Way.by (fun _ k => XS.goto X7.here hx rfl (pc0 := 14) (pc' := 18) rfl (hb hby dA1_14) (by decide) (by decide) k) ?_
  show Way _ _ _ _ (T6.setTop (mkF m 18 #[rv pa] [(.int 1)]))
  refine Way.ret (v := (some (.int (nar .boolean (1 : Int32))))) X7 hlk (fun h => by rw [Bd.returns] at h; cases h) (fun fs hr => retN X7 hx (t := .boolean) Bd.returns (by simp) (hb hby dA1_18) hr) ?_ (by decide) (by decide)
  show QA1 Z pa h0 n0 _ T6.heap _
  rw [e8]
  exact ⟨rfl, N0, rfl⟩
def QMN (Z : State) (px : Int32) (py : Int32) (pr : Int32) (h0 : Heap) (n0 : Nat) (v : Option Value) (h : Heap) (L : List Loc) : Prop := v = some (.int pr) ∧ Fr n0 L ∧ h = h0
theorem dMN_0 : decode jdk_29_method_69_code 0 = .ok (.iload_n 0, 1) := by decide +kernel
theorem dMN_1 : decode jdk_29_method_69_code 1 = .ok (.iload_n 1, 1) := by decide +kernel
theorem dMN_2 : decode jdk_29_method_69_code 2 = .ok (.if_icmp .gt 7, 3) := by decide +kernel
theorem dMN_5 : decode jdk_29_method_69_code 5 = .ok (.iload_n 0, 1) := by decide +kernel
theorem dMN_6 : decode jdk_29_method_69_code 6 = .ok (.goto 4, 3) := by decide +kernel
theorem dMN_9 : decode jdk_29_method_69_code 9 = .ok (.iload_n 1, 1) := by decide +kernel
theorem dMN_10 : decode jdk_29_method_69_code 10 = .ok (.ireturn, 1) := by decide +kernel
theorem pnMN : plainFor (⟨"java/lang/Math", "min", "(II)I"⟩ : MethodName) = true := by decide +kernel
theorem pdMN : parseMethodDescriptor "(II)I" = some ⟨[.int, .int], some .int⟩ := by decide +kernel
set_option maxRecDepth 65536 in
set_option maxHeartbeats 40000000 in
theorem rmMN (l : Launch) (Z : State) (a0 : Array Value) (hw : ∀ d ∈ tables_1, d.before a0 Z = true) (ws : List Jvm.Cond) (px : Int32) (py : Int32) (pr : Int32) (h0 : Heap) (n0 : Nat) (Z0 : n0 ≤ h0.size) (hr : pr = if py < px then py else px) :
    MetFree l (⟨"java/lang/Math", "min", "(II)I"⟩ : MethodName) (head1 (Jvm.Cond.code (⟨"java/lang/Math", "min", "(II)I"⟩ : MethodName) jdk_29_method_69_code 2 (some .int) :: ws) ({ frames := 0, cells := 0, slots := 0, locals := 0 } : Room)) (fun aa U => aa = #[(.int px), (.int py)] ∧ Z.Warmed39 U.vm ∧ U.heap = h0) (fun _ _ _ _ _ => True) (fun _ U oo U' => ∃ v L, oo = .returned v ∧ QMN Z px py pr h0 n0 v U'.heap L ∧ FrameEnd U oo U' L ({ frames := 0, cells := 0, slots := 0, locals := 0 } : Room).cells ({ frames := 0, cells := 0, slots := 0, locals := 0 } : Room).slots) := by
  refine MetFree.of_bodySF pnMN hisR ?_
  intro p e s m args below meth c s₁ Bd hml0 hP hK
  obtain ⟨rfl, hZ, hh⟩ := hP
  have hx := Bd.exec
  have hby := Bd.bytes
  have hlk : meth.locks = false := BodyLoose.notSynchronized Bd
  have hml : c.maxLocals = 2 := hml0
  have hown : s.vm.findClass "java/lang/Math" = some m.cls := findClass_of_methodNamed Bd.named
  have hnm := (name_of_methodNamed Bd.named Bd.method).1
  have X0 : Stand p l e ({ frames := 0, cells := 0, slots := 0, locals := 0 } : Room) s m #[(.int px), (.int py)] below meth c s₁ [] 0 0 := Stand.of_body Bd
  have e0 : s₁.heap = h0 := by rw [← hh, Bd.state]; rfl
  have N0 := Fr.nil n0
  have ef : entryFrame m #[(.int px), (.int py)] 2 = mkF m 0 #[iv px, iv py] [] := by first | (simp [entryFrame, mkF, argsToLocals, Value.category, maxLocals]; done) | rfl
  show Way p.tables e below (KQ s (QMN Z px py pr h0 n0) ({ frames := 0, cells := 0, slots := 0, locals := 0 } : Room).cells ({ frames := 0, cells := 0, slots := 0, locals := 0 } : Room).slots) (s₁.setTop (entryFrame m #[(.int px), (.int py)] 2))
  rw [ef]
  refine Way.by (fun _ k => XS.iloadN X0.here hx rfl (hb hby dMN_0) rfl k) ?_
  refine Way.by (fun _ k => XS.iloadN X0.here hx rfl (hb hby dMN_1) rfl k) ?_
  show Way _ _ _ _ (s₁.setTop (mkF m 2 #[iv px, iv py] [(.int py), (.int px)]))
  by_cases hq : py < px
  · skip
    refine Way.by (fun _ k => XS.icmpYes X0.here hx rfl (pc0 := 2) (pc' := 9) rfl (hb hby dMN_2) rfl (tlt hq).2.2.1 (by decide) (by decide) k) ?_
    show Way _ _ _ _ (s₁.setTop (mkF m 9 #[iv px, iv py] []))
    refine Way.by (fun _ k => XS.iloadN X0.here hx rfl (hb hby dMN_9) rfl k) ?_
    show Way _ _ _ _ (s₁.setTop (mkF m 10 #[iv px, iv py] [(.int py)]))
    refine Way.ret (v := (some (.int py))) X0 hlk (fun h => by rw [Bd.returns] at h; cases h) (fun fs hr => retI X0 hx Bd.returns (hb hby dMN_10) hr) ?_ (by decide) (by decide)
    show QMN Z px py pr h0 n0 _ s₁.heap _
    rw [e0]
    exact ⟨by rw [hr]; simp [hq], N0, rfl⟩
  · skip
    refine Way.by (fun _ k => XS.icmpNo X0.here hx rfl (hb hby dMN_2) rfl (flt hq).2.2.1 k) ?_
    show Way _ _ _ _ (s₁.setTop (mkF m 5 #[iv px, iv py] []))
    refine Way.by (fun _ k => XS.iloadN X0.here hx rfl (hb hby dMN_5) rfl k) ?_
    show Way _ _ _ _ (s₁.setTop (mkF m 6 #[iv px, iv py] [(.int px)]))
    refine Way.by (fun _ k => XS.goto X0.here hx rfl (pc0 := 6) (pc' := 10) rfl (hb hby dMN_6) (by decide) (by decide) k) ?_
    show Way _ _ _ _ (s₁.setTop (mkF m 10 #[iv px, iv py] [(.int px)]))
    refine Way.ret (v := (some (.int px))) X0 hlk (fun h => by rw [Bd.returns] at h; cases h) (fun fs hr => retI X0 hx Bd.returns (hb hby dMN_10) hr) ?_ (by decide) (by decide)
    show QMN Z px py pr h0 n0 _ s₁.heap _
    rw [e0]
    exact ⟨by rw [hr]; simp [hq], N0, rfl⟩
def QLB (Z : State) (pa : Addr) (px : Addr) (h0 : Heap) (n0 : Nat) (v : Option Value) (h : Heap) (L : List Loc) : Prop := v = some (.ref px) ∧ Fr n0 L ∧ h = h0
theorem dLB_0 : decode prog_39_method_5_code 0 = .ok (.aload_n 0, 1) := by decide +kernel
theorem dLB_1 : decode prog_39_method_5_code 1 = .ok (.getfield 41, 3) := by decide +kernel
theorem dLB_4 : decode prog_39_method_5_code 4 = .ok (.areturn, 1) := by decide +kernel
theorem pnLB : plainName "com/example/longhold/longhold/store/DigestAlgorithm" = true := by first | (simp [plainName, overriddenIn]; done) | decide +kernel
theorem pdLB : parseMethodDescriptor "()Ljava/lang/String;" = some ⟨[], some (.object "java/lang/String")⟩ := by decide +kernel
set_option maxRecDepth 65536 in
set_option maxHeartbeats 40000000 in
theorem rmLB (l : Launch) (Z : State) (a0 : Array Value) (hw : ∀ d ∈ tables_1, d.before a0 Z = true) (ws : List Jvm.Cond) (pa : Addr) (px : Addr) (h0 : Heap) (n0 : Nat) (Z0 : n0 ≤ h0.size) (H0 : Fld Z h0 pa "com/example/longhold/longhold/store/DigestAlgorithm" "label" "Ljava/lang/String;" (.ref px)) :
    MetFree l (⟨"com/example/longhold/longhold/store/DigestAlgorithm", "label", "()Ljava/lang/String;"⟩ : MethodName) (head1 (Jvm.Cond.code (⟨"com/example/longhold/longhold/store/DigestAlgorithm", "label", "()Ljava/lang/String;"⟩ : MethodName) prog_39_method_5_code 1 (some (.object "java/lang/String")) :: ws) ({ frames := 0, cells := 0, slots := 0, locals := 0 } : Room)) (fun aa U => aa = #[(.ref pa)] ∧ Z.Warmed39 U.vm ∧ U.heap = h0) (fun _ _ _ _ _ => True) (fun _ U oo U' => ∃ v L, oo = .returned v ∧ QLB Z pa px h0 n0 v U'.heap L ∧ FrameEnd U oo U' L ({ frames := 0, cells := 0, slots := 0, locals := 0 } : Room).cells ({ frames := 0, cells := 0, slots := 0, locals := 0 } : Room).slots) := by
  refine MetFree.of_bodySF (plainFor_of_name pnLB) hisR ?_
  intro p e s m args below meth c s₁ Bd hml0 hP hK
  obtain ⟨rfl, hZ, hh⟩ := hP
  have hx := Bd.exec
  have hby := Bd.bytes
  have hlk : meth.locks = false := BodyLoose.notSynchronized Bd
  have hml : c.maxLocals = 1 := hml0
  have hown : s.vm.findClass "com/example/longhold/longhold/store/DigestAlgorithm" = some m.cls := findClass_of_methodNamed Bd.named
  have hnm := (name_of_methodNamed Bd.named Bd.method).1
  have X0 : Stand p l e ({ frames := 0, cells := 0, slots := 0, locals := 0 } : Room) s m #[(.ref pa)] below meth c s₁ [] 0 0 := Stand.of_body Bd
  have e0 : s₁.heap = h0 := by rw [← hh, Bd.state]; rfl
  have N0 := Fr.nil n0
  have ef : entryFrame m #[(.ref pa)] 1 = mkF m 0 #[rv pa] [] := by first | (simp [entryFrame, mkF, argsToLocals, Value.category, maxLocals]; done) | rfl
  show Way p.tables e below (KQ s (QLB Z pa px h0 n0) ({ frames := 0, cells := 0, slots := 0, locals := 0 } : Room).cells ({ frames := 0, cells := 0, slots := 0, locals := 0 } : Room).slots) (s₁.setTop (entryFrame m #[(.ref pa)] 1))
  rw [ef]
  refine Way.by (fun _ k => XS.aloadN X0.here hx rfl (hb hby dLB_0) rfl rfl k) ?_
  show Way _ _ _ _ (s₁.setTop (mkF m 1 #[rv pa] [(.ref pa)]))
  obtain ⟨T1, X2, e3, st4⟩ := getF X0 hx hZ hown (host := "") (Or.inl (tw hw 102 rfl)) Via.refl e0 H0 (g := (mkF m 1 #[rv pa] [(.ref pa)])) rfl rfl (hb hby dLB_1)
  refine Way.by st4 ?_
  show Way _ _ _ _ (T1.setTop (mkF m 4 #[rv pa] [(.ref px)]))
  refine Way.ret (v := (some (.ref px))) X2 hlk (fun h => by rw [Bd.returns] at h; cases h) (fun fs hr => retOut X2 hx Bd.returns rfl (Or.inr (Or.inr (Or.inr (Or.inr ⟨rfl, rfl, rfl⟩)))) (hb hby dLB_4) hr) ?_ (by decide) (by decide)
  show QLB Z pa px h0 n0 _ T1.heap _
  rw [e3]
  exact ⟨rfl, N0, rfl⟩
def QCL0 (Z : State)  (h0 : Heap) (n0 : Nat) (v : Option Value) (h : Heap) (L : List Loc) : Prop := v = none ∧ Fr n0 L ∧ h = h0
theorem dCL0_0 : decode jdk_65_method_131_code 0 = .ok (.iload_n 1, 1) := by decide +kernel
theorem dCL0_1 : decode jdk_65_method_131_code 1 = .ok (.iload_n 0, 1) := by decide +kernel
theorem dCL0_2 : decode jdk_65_method_131_code 2 = .ok (.if_icmp .ge 35, 3) := by decide +kernel
theorem dCL0_37 : decode jdk_65_method_131_code 37 = .ok (.return_, 1) := by decide +kernel
theorem pnCL0 : plainName "java/util/Arrays" = true := by first | (simp [plainName, overriddenIn]; done) | decide +kernel
theorem pdCL0 : parseMethodDescriptor "(II)V" = some ⟨[.int, .int], none⟩ := by decide +kernel
set_option maxRecDepth 65536 in
set_option maxHeartbeats 40000000 in
theorem rmCL0 (l : Launch) (Z : State) (a0 : Array Value) (hw : ∀ d ∈ tables_1, d.before a0 Z = true) (ws : List Jvm.Cond)  (h0 : Heap) (n0 : Nat) (Z0 : n0 ≤ h0.size)  :
    MetFree l (⟨"java/util/Arrays", "checkLength", "(II)V"⟩ : MethodName) (head1 (Jvm.Cond.code (⟨"java/util/Arrays", "checkLength", "(II)V"⟩ : MethodName) jdk_65_method_131_code 2 none :: ws) ({ frames := 0, cells := 0, slots := 0, locals := 0 } : Room)) (fun aa U => aa = #[(.int 0), (.int 7)] ∧ Z.Warmed39 U.vm ∧ U.heap = h0) (fun _ _ _ _ _ => True) (fun _ U oo U' => ∃ v L, oo = .returned v ∧ QCL0 Z  h0 n0 v U'.heap L ∧ FrameEnd U oo U' L ({ frames := 0, cells := 0, slots := 0, locals := 0 } : Room).cells ({ frames := 0, cells := 0, slots := 0, locals := 0 } : Room).slots) := by
  refine MetFree.of_bodySF (plainFor_of_name pnCL0) hisR ?_
  intro p e s m args below meth c s₁ Bd hml0 hP hK
  obtain ⟨rfl, hZ, hh⟩ := hP
  have hx := Bd.exec
  have hby := Bd.bytes
  have hlk : meth.locks = false := BodyLoose.notSynchronized Bd
  have hml : c.maxLocals = 2 := hml0
  have hown : s.vm.findClass "java/util/Arrays" = some m.cls := findClass_of_methodNamed Bd.named
  have hnm := (name_of_methodNamed Bd.named Bd.method).1
  have X0 : Stand p l e ({ frames := 0, cells := 0, slots := 0, locals := 0 } : Room) s m #[(.int 0), (.int 7)] below meth c s₁ [] 0 0 := Stand.of_body Bd
  have e0 : s₁.heap = h0 := by rw [← hh, Bd.state]; rfl
  have N0 := Fr.nil n0
  have ef : entryFrame m #[(.int 0), (.int 7)] 2 = mkF m 0 #[iv 0, iv 7] [] := by first | (simp [entryFrame, mkF, argsToLocals, Value.category, maxLocals]; done) | rfl
  show Way p.tables e below (KQ s (QCL0 Z  h0 n0) ({ frames := 0, cells := 0, slots := 0, locals := 0 } : Room).cells ({ frames := 0, cells := 0, slots := 0, locals := 0 } : Room).slots) (s₁.setTop (entryFrame m #[(.int 0), (.int 7)] 2))
  rw [ef]
  refine Way.by (fun _ k => XS.iloadN X0.here hx rfl (hb hby dCL0_0) rfl k) ?_
  refine Way.by (fun _ k => XS.iloadN X0.here hx rfl (hb hby dCL0_1) rfl k) ?_
  show Way _ _ _ _ (s₁.setTop (mkF m 2 #[iv 0, iv 7] [(.int 0), (.int 7)]))
  have b1 : ¬ (7 : Int32) < (0 : Int32) := by decide
  refine Way.by (fun _ k => XS.icmpYes X0.here hx rfl (pc0 := 2) (pc' := 37) rfl (hb hby dCL0_2) rfl (flt b1).2.1 (by decide) (by decide) k) ?_
  show Way _ _ _ _ (s₁.setTop (mkF m 37 #[iv 0, iv 7] []))
  refine Way.ret (v := none) X0 hlk (fun _ => rfl) (fun fs hr => X0.returnOut hx Bd.returns (hb hby dCL0_37) hr) ?_ (by decide) (by decide)
  show QCL0 Z  h0 n0 _ s₁.heap _
  rw [e0]
  exact ⟨rfl, N0, rfl⟩
def QCB0 (Z : State) (pv : Addr) (kv : ClassId) (h0 : Heap) (n0 : Nat) (v : Option Value) (h : Heap) (L : List Loc) : Prop := ∃ (bt : Addr) (kt : ClassId), v = some (.ref bt) ∧ Fr n0 L ∧ Keep h0 h [] ∧ h0.size ≤ bt ∧ Arv Z h bt kt .byte (7 : Int32) [(.int 46), (.int 115), (.int 104), (.int 97), (.int 53), (.int 49), (.int 50)] (.int 0)
theorem dCB0_0 : decode jdk_65_method_133_code 0 = .ok (.iload_n 1, 1) := by decide +kernel
theorem dCB0_1 : decode jdk_65_method_133_code 1 = .ok (.iload_n 2, 1) := by decide +kernel
theorem dCB0_2 : decode jdk_65_method_133_code 2 = .ok (.invokestatic 343, 3) := by decide +kernel
theorem dCB0_5 : decode jdk_65_method_133_code 5 = .ok (.iload_n 2, 1) := by decide +kernel
theorem dCB0_6 : decode jdk_65_method_133_code 6 = .ok (.iload_n 1, 1) := by decide +kernel
theorem dCB0_7 : decode jdk_65_method_133_code 7 = .ok (.isub, 1) := by decide +kernel
theorem dCB0_8 : decode jdk_65_method_133_code 8 = .ok (.istore_n 3, 1) := by decide +kernel
theorem dCB0_9 : decode jdk_65_method_133_code 9 = .ok (.iload_n 3, 1) := by decide +kernel
theorem dCB0_10 : decode jdk_65_method_133_code 10 = .ok (.newarray .byte, 2) := by decide +kernel
theorem dCB0_12 : decode jdk_65_method_133_code 12 = .ok (.astore 4, 2) := by decide +kernel
theorem dCB0_14 : decode jdk_65_method_133_code 14 = .ok (.aload_n 0, 1) := by decide +kernel
theorem dCB0_15 : decode jdk_65_method_133_code 15 = .ok (.iload_n 1, 1) := by decide +kernel
theorem dCB0_16 : decode jdk_65_method_133_code 16 = .ok (.aload 4, 2) := by decide +kernel
theorem dCB0_18 : decode jdk_65_method_133_code 18 = .ok (.iconst 0, 1) := by decide +kernel
theorem dCB0_19 : decode jdk_65_method_133_code 19 = .ok (.aload_n 0, 1) := by decide +kernel
theorem dCB0_20 : decode jdk_65_method_133_code 20 = .ok (.arraylength, 1) := by decide +kernel
theorem dCB0_21 : decode jdk_65_method_133_code 21 = .ok (.iload_n 1, 1) := by decide +kernel
theorem dCB0_22 : decode jdk_65_method_133_code 22 = .ok (.isub, 1) := by decide +kernel
theorem dCB0_23 : decode jdk_65_method_133_code 23 = .ok (.iload_n 3, 1) := by decide +kernel
theorem dCB0_24 : decode jdk_65_method_133_code 24 = .ok (.invokestatic 304, 3) := by decide +kernel
theorem dCB0_27 : decode jdk_65_method_133_code 27 = .ok (.invokestatic 150, 3) := by decide +kernel
theorem dCB0_30 : decode jdk_65_method_133_code 30 = .ok (.aload 4, 2) := by decide +kernel
theorem dCB0_32 : decode jdk_65_method_133_code 32 = .ok (.areturn, 1) := by decide +kernel
theorem pdCB0 : parseMethodDescriptor "([BII)[B" = some ⟨[(.array .byte), .int, .int], some (.array .byte)⟩ := by decide +kernel
set_option maxRecDepth 65536 in
set_option maxHeartbeats 40000000 in
theorem rmCB0 (l : Launch) (Z : State) (a0 : Array Value) (hw : ∀ d ∈ tables_1, d.before a0 Z = true) (ws : List Jvm.Cond) (pv : Addr) (kv : ClassId) (h0 : Heap) (n0 : Nat) (Z0 : n0 ≤ h0.size) (H0 : Arv Z h0 pv kv .byte (16 : Int32) [(.int 46), (.int 115), (.int 104), (.int 97), (.int 53), (.int 49), (.int 50)] (.int 0)) :
    MetFree l (⟨"java/util/Arrays", "copyOfRangeByte", "([BII)[B"⟩ : MethodName) (head1 (Jvm.Cond.code (⟨"java/util/Arrays", "copyOfRangeByte", "([BII)[B"⟩ : MethodName) jdk_65_method_133_code 5 (some (.array .byte)) :: ws) ({ frames := 1, cells := 1, slots := 7, locals := 44 } : Room)) (fun aa U => aa = #[(.ref pv), (.int 0), (.int 7)] ∧ Z.Warmed39 U.vm ∧ U.heap = h0) (fun _ _ _ _ _ => True) (fun _ U oo U' => ∃ v L, oo = .returned v ∧ QCB0 Z pv kv h0 n0 v U'.heap L ∧ FrameEnd U oo U' L ({ frames := 1, cells := 1, slots := 7, locals := 44 } : Room).cells ({ frames := 1, cells := 1, slots := 7, locals := 44 } : Room).slots) := by
  refine MetFree.of_bodySF (plainFor_of_name pnCL0) hisR ?_
  intro p e s m args below meth c s₁ Bd hml0 hP hK
  obtain ⟨rfl, hZ, hh⟩ := hP
  have hx := Bd.exec
  have hby := Bd.bytes
  have hlk : meth.locks = false := BodyLoose.notSynchronized Bd
  have hml : c.maxLocals = 5 := hml0
  have hown : s.vm.findClass "java/util/Arrays" = some m.cls := findClass_of_methodNamed Bd.named
  have hnm := (name_of_methodNamed Bd.named Bd.method).1
  have X0 : Stand p l e ({ frames := 1, cells := 1, slots := 7, locals := 44 } : Room) s m #[(.ref pv), (.int 0), (.int 7)] below meth c s₁ [] 0 0 := Stand.of_body Bd
  have e0 : s₁.heap = h0 := by rw [← hh, Bd.state]; rfl
  have N0 := Fr.nil n0
  have ef : entryFrame m #[(.ref pv), (.int 0), (.int 7)] 5 = mkF m 0 #[rv pv, iv 0, iv 7, .unset, .unset] [] := by first | (simp [entryFrame, mkF, argsToLocals, Value.category, maxLocals]; done) | rfl
  show Way p.tables e below (KQ s (QCB0 Z pv kv h0 n0) ({ frames := 1, cells := 1, slots := 7, locals := 44 } : Room).cells ({ frames := 1, cells := 1, slots := 7, locals := 44 } : Room).slots) (s₁.setTop (entryFrame m #[(.ref pv), (.int 0), (.int 7)] 5))
  rw [ef]
  refine Way.by (fun _ k => XS.iloadN X0.here hx rfl (hb hby dCB0_0) rfl k) ?_
  refine Way.by (fun _ k => XS.iloadN X0.here hx rfl (hb hby dCB0_1) rfl k) ?_
  show Way _ _ _ _ (s₁.setTop (mkF m 2 #[rv pv, iv 0, iv 7, .unset, .unset] [(.int 7), (.int 0)]))
  obtain ⟨_, _, ⟨T1, L3, k4, n5⟩, -, X2, ⟨Lc6, hQ7, l8, y9, z10⟩, st11⟩ := Jvm.LawKit.callS X0 hx (y := (⟨"java/util/Arrays", "checkLength", "(II)V"⟩ : MethodName)) hown (mvT hZ (tw hw 141 rfl)) (mvT hZ (tw hw 142 rfl)) (mvT hZ (tw hw 136 rfl)) (mvT hZ (tw hw 143 rfl)) (by decide) (backOf (W := 0) (rmCL0 l Z a0 hw []  h0 n0 Z0 ) hZ (tw hw 143 rfl) (tw hw 136 rfl) (by decide) (by decide)) (g := (mkF m 2 #[rv pv, iv 0, iv 7, .unset, .unset] [(.int 7), (.int 0)])) rfl (by rw [hml]; rfl) (argsL := [(.int 0), (.int 7)]) (rest := []) (lenOf pdCL0 rfl) rfl (leW rfl) (hb hby dCB0_2) (fun _ _ => ⟨rfl, e0, (leB rfl), (leB rfl)⟩)
  dsimp only [Pt.U, Pt.locs, Pt.cells, Pt.slots] at X2 l8 y9 z10 st11 hQ7
  subst y9 z10
  obtain ⟨rfl, N17, e13⟩ := hQ7
  have N12 : Fr n0 L3 := by rw [l8]; exact Fr.app N0 N17
  refine Way.by st11 ?_
  show Way _ _ _ _ (T1.setTop (mkF m 5 #[rv pv, iv 0, iv 7, .unset, .unset] []))
  refine Way.by (fun _ k => XS.iloadN X2.here hx rfl (hb hby dCB0_5) rfl k) ?_
  refine Way.by (fun _ k => XS.iloadN X2.here hx rfl (hb hby dCB0_6) rfl k) ?_
  show Way _ _ _ _ (T1.setTop (mkF m 7 #[rv pv, iv 0, iv 7, .unset, .unset] [(.int 0), (.int 7)]))
  refine Way.by (fun _ k => XS.isub X2.here hx rfl (hb hby dCB0_7) rfl k) ?_
  show Way _ _ _ _ (T1.setTop (mkF m 8 #[rv pv, iv 0, iv 7, .unset, .unset] [(.int 7)]))
  refine Way.by (fun _ k => XS.istoreN X2.here hx rfl (hb hby dCB0_8) rfl (l' := #[rv pv, iv 0, iv 7, iv 7, .unset]) rfl k) ?_
  show Way _ _ _ _ (T1.setTop (mkF m 9 #[rv pv, iv 0, iv 7, iv 7, .unset] []))
  refine Way.by (fun _ k => XS.iloadN X2.here hx rfl (hb hby dCB0_9) rfl k) ?_
  show Way _ _ _ _ (T1.setTop (mkF m 10 #[rv pv, iv 0, iv 7, iv 7, .unset] [(.int 7)]))
  obtain ⟨T19, h20, kc21, X22, e23, E24, A25, st26⟩ := newP X2 hx hZ (tw hw 15 rfl) e13 (g := (mkF m 10 #[rv pv, iv 0, iv 7, iv 7, .unset] [(.int 7)])) rfl (hb hby dCB0_10) rfl (by decide) (cap := 7) (by decide) (by decide) (by decide) (by decide)
  obtain ⟨a27, g28⟩ : ∃ z, z = h0.size := ⟨_, rfl⟩
  rw [← g28] at A25 st26
  have ne30 : pv ≠ a27 := Nat.ne_of_lt (Nat.lt_of_lt_of_eq H0.lt g28.symm)
  have nw31 : n0 ≤ a27 := Nat.le_trans Z0 (Nat.le_of_eq g28.symm)
  have hk32 : h0.size ≤ a27 := Nat.le_trans (Nat.le_refl h0.size) (Nat.le_of_eq g28.symm)
  have A33 := H0.ext E24
  have Z34 := Nat.le_trans Z0 E24.1
  have K35 := (Keep.refl h0 []).ext E24
  have hz36 := Nat.le_trans (Nat.le_refl h0.size) E24.1
  have V29 : Arv Z h20 a27 kc21 .byte (7 : Int32) [] (.int 0) := Arv.new A25 (by decide)
  refine Way.by st26 ?_
  show Way _ _ _ _ (T19.setTop (mkF m 12 #[rv pv, iv 0, iv 7, iv 7, .unset] [(.ref a27)]))
  refine Way.by (fun _ k => XS.astore X22.here hx rfl (hb hby dCB0_12) rfl rfl (l' := #[rv pv, iv 0, iv 7, iv 7, rv a27]) rfl k) ?_
  show Way _ _ _ _ (T19.setTop (mkF m 14 #[rv pv, iv 0, iv 7, iv 7, rv a27] []))
  refine Way.by (fun _ k => XS.aloadN X22.here hx rfl (hb hby dCB0_14) rfl rfl k) ?_
  refine Way.by (fun _ k => XS.iloadN X22.here hx rfl (hb hby dCB0_15) rfl k) ?_
  refine Way.by (fun _ k => XS.aload X22.here hx rfl (hb hby dCB0_16) rfl rfl k) ?_
  show Way _ _ _ _ (T19.setTop (mkF m 18 #[rv pv, iv 0, iv 7, iv 7, rv a27] [(.ref a27), (.int 0), (.ref pv)]))
  refine Way.by (fun _ k => XS.iconst X22.here hx rfl (hb hby dCB0_18) k) ?_
  refine Way.by (fun _ k => XS.aloadN X22.here hx rfl (hb hby dCB0_19) rfl rfl k) ?_
  show Way _ _ _ _ (T19.setTop (mkF m 20 #[rv pv, iv 0, iv 7, iv 7, rv a27] [(.ref pv), (.int 0), (.ref a27), (.int 0), (.ref pv)]))
  obtain ⟨c37, A38, q39, S40, M41, H42, U43⟩ := id A33
  refine Way.by (fun t k => Stand.arraylength X22 hx (hpE e23 A38.1) (arrS hZ A38) (g := (mkF m 20 #[rv pv, iv 0, iv 7, iv 7, rv a27] [(.ref pv), (.int 0), (.ref a27), (.int 0), (.ref pv)])) rfl rfl (hb hby dCB0_20) t k) ?_
  rw [len_of S40 M41]
  show Way _ _ _ _ (T19.setTop (mkF m 21 #[rv pv, iv 0, iv 7, iv 7, rv a27] [(.int 16), (.int 0), (.ref a27), (.int 0), (.ref pv)]))
  refine Way.by (fun _ k => XS.iloadN X22.here hx rfl (hb hby dCB0_21) rfl k) ?_
  show Way _ _ _ _ (T19.setTop (mkF m 22 #[rv pv, iv 0, iv 7, iv 7, rv a27] [(.int 0), (.int 16), (.int 0), (.ref a27), (.int 0), (.ref pv)]))
  refine Way.by (fun _ k => XS.isub X22.here hx rfl (hb hby dCB0_22) rfl k) ?_
  show Way _ _ _ _ (T19.setTop (mkF m 23 #[rv pv, iv 0, iv 7, iv 7, rv a27] [(.int 16), (.int 0), (.ref a27), (.int 0), (.ref pv)]))
  refine Way.by (fun _ k => XS.iloadN X22.here hx rfl (hb hby dCB0_23) rfl k) ?_
  show Way _ _ _ _ (T19.setTop (mkF m 24 #[rv pv, iv 0, iv 7, iv 7, rv a27] [(.int 7), (.int 16), (.int 0), (.ref a27), (.int 0), (.ref pv)]))
  obtain ⟨_, _, ⟨T44, L46, k47, n48⟩, -, X45, ⟨Lc49, hQ50, l51, y52, z53⟩, st54⟩ := Jvm.LawKit.callS X22 hx (y := (⟨"java/lang/Math", "min", "(II)I"⟩ : MethodName)) hown (mvT hZ (tw hw 144 rfl)) (mvT hZ (tw hw 145 rfl)) (mvT hZ (tw hw 146 rfl)) (mvT hZ (tw hw 147 rfl)) (by decide) (backOf (W := 4) (rmMN l Z a0 hw [] (16 : Int32) (7 : Int32) (7 : Int32) h20 n0 Z34 (by decide)) hZ (tw hw 147 rfl) (tw hw 146 rfl) (by decide) (by decide)) (g := (mkF m 24 #[rv pv, iv 0, iv 7, iv 7, rv a27] [(.int 7), (.int 16), (.int 0), (.ref a27), (.int 0), (.ref pv)])) rfl (by rw [hml]; rfl) (argsL := [(.int 16), (.int 7)]) (rest := [(.int 0), (.ref a27), (.int 0), (.ref pv)]) (lenOf pdMN rfl) rfl (leW rfl) (hb hby dCB0_24) (fun _ _ => ⟨rfl, e23, (leB rfl), (leB rfl)⟩)
  dsimp only [Pt.U, Pt.locs, Pt.cells, Pt.slots] at X45 l51 y52 z53 st54 hQ50
  subst y52 z53
  obtain ⟨rfl, N60, e56⟩ := hQ50
  have N55 : Fr n0 L46 := by rw [l51]; exact Fr.app N12 N60
  refine Way.by st54 ?_
  show Way _ _ _ _ (T44.setTop (mkF m 27 #[rv pv, iv 0, iv 7, iv 7, rv a27] [(.int 7), (.int 0), (.ref a27), (.int 0), (.ref pv)]))
  have V62 : Arv Z h20 a27 kc21 .byte (7 : Int32) (List.replicate 7 (Value.int (0 : Int32))) (.int 0) := V29.pad (pad_rep [] (.int 0) 7)
  obtain ⟨T63, h64, L65, X66, e67, N68, K69, V70, st71⟩ := cpA X45 hx hZ hown (tw hw 148 rfl) (tw hw 91 rfl) (tw hw 89 rfl) (tw hw 90 rfl) e56 A33 V62 (us := [(.int 46), (.int 115), (.int 104), (.int 97), (.int 53), (.int 49), (.int 50)]) (Or.inl ⟨rfl, rfl⟩) (by decide) (by decide) (by decide) (by decide) (by decide) rfl (by decide) N55 nw31 (g := (mkF m 27 #[rv pv, iv 0, iv 7, iv 7, rv a27] [(.int 7), (.int 0), (.ref a27), (.int 0), (.ref pv)])) rfl (by rw [hml]; rfl) rfl (hb hby dCB0_27) (by decide) (W := 0) (leW rfl) (by decide)
  have V72 : Arv Z h64 a27 kc21 .byte (7 : Int32) [(.int 46), (.int 115), (.int 104), (.int 97), (.int 53), (.int 49), (.int 50)] (.int 0) := V70
  have A73 := A33.keep K69 (ninS ne30 nin0)
  have Z74 := Nat.le_trans Z34 K69.1
  have K75 := K35.trans K69 (allS (Or.inr hk32) all0)
  have hz76 := Nat.le_trans hz36 K69.1
  refine Way.by st71 ?_
  show Way _ _ _ _ (T63.setTop (mkF m 30 #[rv pv, iv 0, iv 7, iv 7, rv a27] []))
  try clear V29 A33 Z34 K35 hz36 X45 N55 e56 V62 K69 V70 st71
  try clear h20 T44
  refine Way.by (fun _ k => XS.aload X66.here hx rfl (hb hby dCB0_30) rfl rfl k) ?_
  show Way _ _ _ _ (T63.setTop (mkF m 32 #[rv pv, iv 0, iv 7, iv 7, rv a27] [(.ref a27)]))
  refine Way.ret (v := (some (.ref a27))) X66 hlk (fun h => by rw [Bd.returns] at h; cases h) (fun fs hr => retOut X66 hx Bd.returns rfl (Or.inr (Or.inr (Or.inr (Or.inr ⟨rfl, rfl, rfl⟩)))) (hb hby dCB0_32) hr) ?_ (by decide) (by decide)
  show QCB0 Z pv kv h0 n0 _ T63.heap _
  rw [e67]
  exact ⟨a27, kc21, rfl, N68, K75, hk32, V72⟩
def QCR0 (Z : State) (pv : Addr) (kv : ClassId) (h0 : Heap) (n0 : Nat) (v : Option Value) (h : Heap) (L : List Loc) : Prop := ∃ (bt : Addr) (kt : ClassId), v = some (.ref bt) ∧ Fr n0 L ∧ Keep h0 h [] ∧ h0.size ≤ bt ∧ Arv Z h bt kt .byte (7 : Int32) [(.int 46), (.int 115), (.int 104), (.int 97), (.int 53), (.int 49), (.int 50)] (.int 0)
theorem dCR0_0 : decode jdk_65_method_132_code 0 = .ok (.iload_n 1, 1) := by decide +kernel
theorem dCR0_1 : decode jdk_65_method_132_code 1 = .ok (.ifCond .ne 9, 3) := by decide +kernel
theorem dCR0_4 : decode jdk_65_method_132_code 4 = .ok (.iload_n 2, 1) := by decide +kernel
theorem dCR0_5 : decode jdk_65_method_132_code 5 = .ok (.aload_n 0, 1) := by decide +kernel
theorem dCR0_6 : decode jdk_65_method_132_code 6 = .ok (.arraylength, 1) := by decide +kernel
theorem dCR0_7 : decode jdk_65_method_132_code 7 = .ok (.if_icmp .eq 10, 3) := by decide +kernel
theorem dCR0_10 : decode jdk_65_method_132_code 10 = .ok (.aload_n 0, 1) := by decide +kernel
theorem dCR0_11 : decode jdk_65_method_132_code 11 = .ok (.iload_n 1, 1) := by decide +kernel
theorem dCR0_12 : decode jdk_65_method_132_code 12 = .ok (.iload_n 2, 1) := by decide +kernel
theorem dCR0_13 : decode jdk_65_method_132_code 13 = .ok (.invokestatic 339, 3) := by decide +kernel
theorem dCR0_16 : decode jdk_65_method_132_code 16 = .ok (.areturn, 1) := by decide +kernel
set_option maxRecDepth 65536 in
set_option maxHeartbeats 40000000 in
theorem rmCR0 (l : Launch) (Z : State) (a0 : Array Value) (hw : ∀ d ∈ tables_1, d.before a0 Z = true) (ws : List Jvm.Cond) (pv : Addr) (kv : ClassId) (h0 : Heap) (n0 : Nat) (Z0 : n0 ≤ h0.size) (H0 : Arv Z h0 pv kv .byte (16 : Int32) [(.int 46), (.int 115), (.int 104), (.int 97), (.int 53), (.int 49), (.int 50)] (.int 0)) :
    MetFree l (⟨"java/util/Arrays", "copyOfRange", "([BII)[B"⟩ : MethodName) (head1 (Jvm.Cond.code (⟨"java/util/Arrays", "copyOfRange", "([BII)[B"⟩ : MethodName) jdk_65_method_132_code 3 (some (.array .byte)) :: ws) ({ frames := 2, cells := 1, slots := 7, locals := 60 } : Room)) (fun aa U => aa = #[(.ref pv), (.int 0), (.int 7)] ∧ Z.Warmed39 U.vm ∧ U.heap = h0) (fun _ _ _ _ _ => True) (fun _ U oo U' => ∃ v L, oo = .returned v ∧ QCR0 Z pv kv h0 n0 v U'.heap L ∧ FrameEnd U oo U' L ({ frames := 2, cells := 1, slots := 7, locals := 60 } : Room).cells ({ frames := 2, cells := 1, slots := 7, locals := 60 } : Room).slots) := by
  refine MetFree.of_bodySF (plainFor_of_name pnCL0) hisR ?_
  intro p e s m args below meth c s₁ Bd hml0 hP hK
  obtain ⟨rfl, hZ, hh⟩ := hP
  have hx := Bd.exec
  have hby := Bd.bytes
  have hlk : meth.locks = false := BodyLoose.notSynchronized Bd
  have hml : c.maxLocals = 3 := hml0
  have hown : s.vm.findClass "java/util/Arrays" = some m.cls := findClass_of_methodNamed Bd.named
  have hnm := (name_of_methodNamed Bd.named Bd.method).1
  have X0 : Stand p l e ({ frames := 2, cells := 1, slots := 7, locals := 60 } : Room) s m #[(.ref pv), (.int 0), (.int 7)] below meth c s₁ [] 0 0 := Stand.of_body Bd
  have e0 : s₁.heap = h0 := by rw [← hh, Bd.state]; rfl
  have N0 := Fr.nil n0
  have ef : entryFrame m #[(.ref pv), (.int 0), (.int 7)] 3 = mkF m 0 #[rv pv, iv 0, iv 7] [] := by first | (simp [entryFrame, mkF, argsToLocals, Value.category, maxLocals]; done) | rfl
  show Way p.tables e below (KQ s (QCR0 Z pv kv h0 n0) ({ frames := 2, cells := 1, slots := 7, locals := 60 } : Room).cells ({ frames := 2, cells := 1, slots := 7, locals := 60 } : Room).slots) (s₁.setTop (entryFrame m #[(.ref pv), (.int 0), (.int 7)] 3))
  rw [ef]
  refine Way.by (fun _ k => XS.iloadN X0.here hx rfl (hb hby dCR0_0) rfl k) ?_
  show Way _ _ _ _ (s₁.setTop (mkF m 1 #[rv pv, iv 0, iv 7] [(.int 0)]))
  have b1 : (0 : Int32) = (0 : Int32) := by decide
  refine Way.by (fun _ k => XS.ifNo X0.here hx rfl (hb hby dCR0_1) rfl ((if0 .ne _).trans (teq b1).2) k) ?_
  show Way _ _ _ _ (s₁.setTop (mkF m 4 #[rv pv, iv 0, iv 7] []))
  refine Way.by (fun _ k => XS.iloadN X0.here hx rfl (hb hby dCR0_4) rfl k) ?_
  refine Way.by (fun _ k => XS.aloadN X0.here hx rfl (hb hby dCR0_5) rfl rfl k) ?_
  show Way _ _ _ _ (s₁.setTop (mkF m 6 #[rv pv, iv 0, iv 7] [(.ref pv), (.int 7)]))
  obtain ⟨c2, A3, q4, S5, M6, H7, U8⟩ := id H0
  refine Way.by (fun t k => Stand.arraylength X0 hx (hpE e0 A3.1) (arrS hZ A3) (g := (mkF m 6 #[rv pv, iv 0, iv 7] [(.ref pv), (.int 7)])) rfl rfl (hb hby dCR0_6) t k) ?_
  rw [len_of S5 M6]
  show Way _ _ _ _ (s₁.setTop (mkF m 7 #[rv pv, iv 0, iv 7] [(.int 16), (.int 7)]))
  have b9 : ¬ (7 : Int32) = (16 : Int32) := by decide
  refine Way.by (fun _ k => XS.icmpNo X0.here hx rfl (hb hby dCR0_7) rfl (feq b9).1 k) ?_
  show Way _ _ _ _ (s₁.setTop (mkF m 10 #[rv pv, iv 0, iv 7] []))
  refine Way.by (fun _ k => XS.aloadN X0.here hx rfl (hb hby dCR0_10) rfl rfl k) ?_
  refine Way.by (fun _ k => XS.iloadN X0.here hx rfl (hb hby dCR0_11) rfl k) ?_
  refine Way.by (fun _ k => XS.iloadN X0.here hx rfl (hb hby dCR0_12) rfl k) ?_
  show Way _ _ _ _ (s₁.setTop (mkF m 13 #[rv pv, iv 0, iv 7] [(.int 7), (.int 0), (.ref pv)]))
  obtain ⟨_, _, ⟨T10, L12, k13, n14⟩, -, X11, ⟨Lc15, hQ16, l17, y18, z19⟩, st20⟩ := Jvm.LawKit.callS X0 hx (y := (⟨"java/util/Arrays", "copyOfRangeByte", "([BII)[B"⟩ : MethodName)) hown (mvT hZ (tw hw 138 rfl)) (mvT hZ (tw hw 139 rfl)) (mvT hZ (tw hw 136 rfl)) (mvT hZ (tw hw 140 rfl)) (by decide) (backOf (W := 0) (rmCB0 l Z a0 hw [] pv kv h0 n0 Z0 H0) hZ (tw hw 140 rfl) (tw hw 136 rfl) (by decide) (by decide)) (g := (mkF m 13 #[rv pv, iv 0, iv 7] [(.int 7), (.int 0), (.ref pv)])) rfl (by rw [hml]; rfl) (argsL := [(.ref pv), (.int 0), (.int 7)]) (rest := []) (lenOf pdCB0 rfl) rfl (leW rfl) (hb hby dCR0_13) (fun _ _ => ⟨rfl, e0, (leB rfl), (leB rfl)⟩)
  dsimp only [Pt.U, Pt.locs, Pt.cells, Pt.slots] at X11 l17 y18 z19 st20 hQ16
  subst y18 z19
  obtain ⟨x_bt30, x_kt31, rfl, N26, K27, fr_bt29, F_028⟩ := hQ16
  have N21 : Fr n0 L12 := by rw [l17]; exact Fr.app N0 N26
  have ne32 : pv ≠ x_bt30 := Nat.ne_of_lt (Nat.lt_of_lt_of_le H0.lt fr_bt29)
  have nw33 : n0 ≤ x_bt30 := Nat.le_trans Z0 fr_bt29
  have hk34 : h0.size ≤ x_bt30 := Nat.le_trans (Nat.le_refl h0.size) fr_bt29
  have A35 := H0.keep K27 nin0
  have Z36 := Nat.le_trans Z0 K27.1
  have K37 := (Keep.refl h0 []).trans K27 all0
  have hz38 := Nat.le_trans (Nat.le_refl h0.size) K27.1
  refine Way.by st20 ?_
  show Way _ _ _ _ (T10.setTop (mkF m 16 #[rv pv, iv 0, iv 7] [(.ref x_bt30)]))
  refine Way.ret (v := (some (.ref x_bt30))) X11 hlk (fun h => by rw [Bd.returns] at h; cases h) (fun fs hr => retOut X11 hx Bd.returns rfl (Or.inr (Or.inr (Or.inr (Or.inr ⟨rfl, rfl, rfl⟩)))) (hb hby dCR0_16) hr) ?_ (by decide) (by decide)
  show QCR0 Z pv kv h0 n0 _ T10.heap _
  skip
  exact ⟨x_bt30, x_kt31, rfl, N21, K37, hk34, F_028⟩
def QS20 (Z : State) (px : Addr) (pa : Addr) (pv : Addr) (kv : ClassId) (h0 : Heap) (n0 : Nat) (v : Option Value) (h : Heap) (L : List Loc) : Prop := ∃ (bt : Addr), v = none ∧ Fr n0 L ∧ Keep h0 h [px] ∧ h0.size ≤ bt ∧ own_Str Z h px bt [46, 115, 104, 97, 53, 49, 50]
theorem dS20_0 : decode jdk_42_method_150_code 0 = .ok (.aload_n 0, 1) := by decide +kernel
theorem dS20_1 : decode jdk_42_method_150_code 1 = .ok (.invokespecial 1, 3) := by decide +kernel
theorem dS20_4 : decode jdk_42_method_150_code 4 = .ok (.aload_n 1, 1) := by decide +kernel
theorem dS20_5 : decode jdk_42_method_150_code 5 = .ok (.invokevirtual 552, 3) := by decide +kernel
theorem dS20_8 : decode jdk_42_method_150_code 8 = .ok (.astore_n 3, 1) := by decide +kernel
theorem dS20_9 : decode jdk_42_method_150_code 9 = .ok (.aload_n 1, 1) := by decide +kernel
theorem dS20_10 : decode jdk_42_method_150_code 10 = .ok (.invokevirtual 549, 3) := by decide +kernel
theorem dS20_13 : decode jdk_42_method_150_code 13 = .ok (.istore 4, 2) := by decide +kernel
theorem dS20_15 : decode jdk_42_method_150_code 15 = .ok (.aload_n 1, 1) := by decide +kernel
theorem dS20_16 : decode jdk_42_method_150_code 16 = .ok (.invokevirtual 1047, 3) := by decide +kernel
theorem dS20_19 : decode jdk_42_method_150_code 19 = .ok (.ifCond .eq 22, 3) := by decide +kernel
theorem dS20_22 : decode jdk_42_method_150_code 22 = .ok (.aload_n 0, 1) := by decide +kernel
theorem dS20_23 : decode jdk_42_method_150_code 23 = .ok (.iconst 0, 1) := by decide +kernel
theorem dS20_24 : decode jdk_42_method_150_code 24 = .ok (.putfield 15, 3) := by decide +kernel
theorem dS20_27 : decode jdk_42_method_150_code 27 = .ok (.aload_n 0, 1) := by decide +kernel
theorem dS20_28 : decode jdk_42_method_150_code 28 = .ok (.aload_n 3, 1) := by decide +kernel
theorem dS20_29 : decode jdk_42_method_150_code 29 = .ok (.iconst 0, 1) := by decide +kernel
theorem dS20_30 : decode jdk_42_method_150_code 30 = .ok (.iload 4, 2) := by decide +kernel
theorem dS20_32 : decode jdk_42_method_150_code 32 = .ok (.invokestatic 54, 3) := by decide +kernel
theorem dS20_35 : decode jdk_42_method_150_code 35 = .ok (.putfield 9, 3) := by decide +kernel
theorem dS20_38 : decode jdk_42_method_150_code 38 = .ok (.goto 59, 3) := by decide +kernel
theorem dS20_97 : decode jdk_42_method_150_code 97 = .ok (.return_, 1) := by decide +kernel
theorem pdS20 : parseMethodDescriptor "(Ljava/lang/AbstractStringBuilder;Ljava/lang/Void;)V" = some ⟨[(.object "java/lang/AbstractStringBuilder"), (.object "java/lang/Void")], none⟩ := by decide +kernel
set_option maxRecDepth 65536 in
set_option maxHeartbeats 40000000 in
theorem rmS20 (l : Launch) (Z : State) (a0 : Array Value) (hw : ∀ d ∈ tables_1, d.before a0 Z = true) (ws : List Jvm.Cond) (px : Addr) (pa : Addr) (pv : Addr) (kv : ClassId) (h0 : Heap) (n0 : Nat) (Z0 : n0 ≤ h0.size) (H0 : Exa Z h0 pa "java/lang/StringBuilder") (H1 : Fld Z h0 pa "java/lang/AbstractStringBuilder" "value" "[B" (.ref pv)) (H2 : Fld Z h0 pa "java/lang/AbstractStringBuilder" "coder" "B" (.int 0)) (H3 : Fld Z h0 pa "java/lang/AbstractStringBuilder" "count" "I" (.int 7)) (H4 : Arv Z h0 pv kv .byte (16 : Int32) [(.int 46), (.int 115), (.int 104), (.int 97), (.int 53), (.int 49), (.int 50)] (.int 0)) (H5 : Exa Z h0 px "java/lang/String") (H6 : Fld Z h0 px "java/lang/String" "value" "[B" .null) (H7 : Fld Z h0 px "java/lang/String" "coder" "B" (.int 0)) (hbd : ∀ c ∈ ([46, 115, 104, 97, 53, 49, 50] : List Int32), ¬ c < 0 ∧ ¬ (255 : Int32) < c) (ne_pa_px : pa ≠ px) (ne_pv_px : pv ≠ px) (nw_px : n0 ≤ px) (O0 : Old Z n0 h0) (SV : own_Env Z) :
    MetFree l (⟨"java/lang/String", "<init>", "(Ljava/lang/AbstractStringBuilder;Ljava/lang/Void;)V"⟩ : MethodName) (head1 (Jvm.Cond.code (⟨"java/lang/String", "<init>", "(Ljava/lang/AbstractStringBuilder;Ljava/lang/Void;)V"⟩ : MethodName) jdk_42_method_150_code 5 none :: ws) ({ frames := 3, cells := 1, slots := 7, locals := 75 } : Room)) (fun aa U => aa = #[(.ref px), (.ref pa), .null] ∧ Z.Warmed39 U.vm ∧ U.heap = h0) (fun _ _ _ _ _ => True) (fun _ U oo U' => ∃ v L, oo = .returned v ∧ QS20 Z px pa pv kv h0 n0 v U'.heap L ∧ FrameEnd U oo U' L ({ frames := 3, cells := 1, slots := 7, locals := 75 } : Room).cells ({ frames := 3, cells := 1, slots := 7, locals := 75 } : Room).slots) := by
  refine MetFree.of_bodySF (plainFor_of_name pnCD) hisR ?_
  intro p e s m args below meth c s₁ Bd hml0 hP hK
  obtain ⟨rfl, hZ, hh⟩ := hP
  have hx := Bd.exec
  have hby := Bd.bytes
  have hlk : meth.locks = false := BodyLoose.notSynchronized Bd
  have hml : c.maxLocals = 5 := hml0
  have hown : s.vm.findClass "java/lang/String" = some m.cls := findClass_of_methodNamed Bd.named
  have hnm := (name_of_methodNamed Bd.named Bd.method).1
  have X0 : Stand p l e ({ frames := 3, cells := 1, slots := 7, locals := 75 } : Room) s m #[(.ref px), (.ref pa), .null] below meth c s₁ [] 0 0 := Stand.of_body Bd
  have e0 : s₁.heap = h0 := by rw [← hh, Bd.state]; rfl
  have N0 := Fr.nil n0
  have ef : entryFrame m #[(.ref px), (.ref pa), .null] 5 = mkF m 0 #[rv px, rv pa, .val .null, .unset, .unset] [] := by first | (simp [entryFrame, mkF, argsToLocals, Value.category, maxLocals]; done) | rfl
  show Way p.tables e below (KQ s (QS20 Z px pa pv kv h0 n0) ({ frames := 3, cells := 1, slots := 7, locals := 75 } : Room).cells ({ frames := 3, cells := 1, slots := 7, locals := 75 } : Room).slots) (s₁.setTop (entryFrame m #[(.ref px), (.ref pa), .null] 5))
  rw [ef]
  refine Way.by (fun _ k => XS.aloadN X0.here hx rfl (hb hby dS20_0) rfl rfl k) ?_
  show Way _ _ _ _ (s₁.setTop (mkF m 1 #[rv px, rv pa, .val .null, .unset, .unset] [(.ref px)]))
  obtain ⟨T1, X2, e3, st4⟩ := initO X0 hx hZ hown (tw hw 11 rfl) (tw hw 12 rfl) (tw hw 13 rfl) e0 (g := (mkF m 1 #[rv px, rv pa, .val .null, .unset, .unset] [(.ref px)])) rfl (by rw [hml]; rfl) rfl (hb hby dS20_1) (by decide) (W := 0) (leW rfl) (by decide)
  refine Way.by st4 ?_
  show Way _ _ _ _ (T1.setTop (mkF m 4 #[rv px, rv pa, .val .null, .unset, .unset] []))
  refine Way.by (fun _ k => XS.aloadN X2.here hx rfl (hb hby dS20_4) rfl rfl k) ?_
  show Way _ _ _ _ (T1.setTop (mkF m 5 #[rv px, rv pa, .val .null, .unset, .unset] [(.ref pa)]))
  obtain ⟨cq21, kq22, qa23, qb24, qc25⟩ := isOf hZ e3 H0
  obtain ⟨_, _, ⟨T5, L7, k8, n9⟩, -, X6, ⟨Lc10, hQ11, l12, y13, z14⟩, st15⟩ := X2.virtualBack hx (y := (⟨"java/lang/AbstractStringBuilder", "getValue", "()[B"⟩ : MethodName)) (z := (⟨"java/lang/AbstractStringBuilder", "getValue", "()[B"⟩ : MethodName)) hown (mvT hZ (tw hw 116 rfl)) (mvT hZ (tw hw 117 rfl)) (notFace_of_selects (args := #[]) (mvT hZ (tw hw 119 rfl))) (mvT hZ (tw hw 119 rfl)) (mvT hZ (tw hw 118 rfl)) (by decide) (backOf (W := 0) (rmGV l Z a0 hw [] pa pv h0 n0 Z0 H1) hZ (tw hw 120 rfl) (tw hw 36 rfl) (by decide) (by decide)) qa23 qc25 (g := (mkF m 5 #[rv px, rv pa, .val .null, .unset, .unset] [(.ref pa)])) rfl (by rw [hml]; rfl) (Steps.refl _) (argsL := []) (rest := []) (lenOf pdGV rfl) rfl (leW rfl) (hb hby dS20_5) (fun _ _ => ⟨rfl, e3, (leB rfl), (leB rfl)⟩)
  dsimp only [Pt.U, Pt.locs, Pt.cells, Pt.slots] at X6 l12 y13 z14 st15 hQ11
  subst y13 z14
  obtain ⟨rfl, N26, e17⟩ := hQ11
  have N16 : Fr n0 L7 := by rw [l12]; exact Fr.app N0 N26
  refine Way.to st15 ?_
  show Way _ _ _ _ (T5.setTop (mkF m 8 #[rv px, rv pa, .val .null, .unset, .unset] [(.ref pv)]))
  try clear X2 e3 st15 cq21 kq22 qa23 qb24 qc25 N26
  try clear T1
  refine Way.by (fun _ k => XS.astoreN X6.here hx rfl (hb hby dS20_8) rfl rfl (l' := #[rv px, rv pa, .val .null, rv pv, .unset]) rfl k) ?_
  show Way _ _ _ _ (T5.setTop (mkF m 9 #[rv px, rv pa, .val .null, rv pv, .unset] []))
  refine Way.by (fun _ k => XS.aloadN X6.here hx rfl (hb hby dS20_9) rfl rfl k) ?_
  show Way _ _ _ _ (T5.setTop (mkF m 10 #[rv px, rv pa, .val .null, rv pv, .unset] [(.ref pa)]))
  obtain ⟨cq44, kq45, qa46, qb47, qc48⟩ := isOf hZ e17 H0
  obtain ⟨_, _, ⟨T28, L30, k31, n32⟩, -, X29, ⟨Lc33, hQ34, l35, y36, z37⟩, st38⟩ := X6.virtualBack hx (y := (⟨"java/lang/AbstractStringBuilder", "length", "()I"⟩ : MethodName)) (z := (⟨"java/lang/StringBuilder", "length", "()I"⟩ : MethodName)) hown (mvT hZ (tw hw 121 rfl)) (mvT hZ (tw hw 122 rfl)) (nfSel (args := #[]) (z := (⟨"java/lang/AbstractStringBuilder", "ensureCapacityInternal", "(I)V"⟩ : MethodName)) rfl (mvT hZ (tw hw 70 rfl))) (mvT hZ (tw hw 124 rfl)) (mvT hZ (tw hw 125 rfl)) (by decide) (backOf (W := 0) (rmLS l Z a0 hw [] pa (7 : Int32) h0 n0 Z0 H0 H3) hZ (tw hw 126 rfl) (tw hw 28 rfl) (by decide) (by decide)) qa46 qc48 (g := (mkF m 10 #[rv px, rv pa, .val .null, rv pv, .unset] [(.ref pa)])) rfl (by rw [hml]; rfl) (Steps.refl _) (argsL := []) (rest := []) (lenOf pdLA rfl) rfl (leW rfl) (hb hby dS20_10) (fun _ _ => ⟨rfl, e17, (leB rfl), (leB rfl)⟩)
  dsimp only [Pt.U, Pt.locs, Pt.cells, Pt.slots] at X29 l35 y36 z37 st38 hQ34
  subst y36 z37
  obtain ⟨rfl, N49, e40⟩ := hQ34
  have N39 : Fr n0 L30 := by rw [l35]; exact Fr.app N16 N49
  refine Way.to st38 ?_
  show Way _ _ _ _ (T28.setTop (mkF m 13 #[rv px, rv pa, .val .null, rv pv, .unset] [(.int 7)]))
  try clear X6 N16 e17 st38 cq44 kq45 qa46 qb47 qc48 N49
  try clear T5
  refine Way.by (fun _ k => XS.istore X29.here hx rfl (hb hby dS20_13) rfl (l' := #[rv px, rv pa, .val .null, rv pv, iv 7]) rfl k) ?_
  show Way _ _ _ _ (T28.setTop (mkF m 15 #[rv px, rv pa, .val .null, rv pv, iv 7] []))
  refine Way.by (fun _ k => XS.aloadN X29.here hx rfl (hb hby dS20_15) rfl rfl k) ?_
  show Way _ _ _ _ (T28.setTop (mkF m 16 #[rv px, rv pa, .val .null, rv pv, iv 7] [(.ref pa)]))
  obtain ⟨cq67, kq68, qa69, qb70, qc71⟩ := isOf hZ e40 H0
  obtain ⟨_, _, ⟨T51, L53, k54, n55⟩, -, X52, ⟨Lc56, hQ57, l58, y59, z60⟩, st61⟩ := X29.virtualBack hx (y := (⟨"java/lang/AbstractStringBuilder", "isLatin1", "()Z"⟩ : MethodName)) (z := (⟨"java/lang/AbstractStringBuilder", "isLatin1", "()Z"⟩ : MethodName)) hown (mvT hZ (tw hw 129 rfl)) (mvT hZ (tw hw 130 rfl)) (notFace_of_selects (args := #[]) (mvT hZ (tw hw 132 rfl))) (mvT hZ (tw hw 132 rfl)) (mvT hZ (tw hw 131 rfl)) (by decide) (backOf (W := 0) (rmA1 l Z a0 hw [] pa h0 n0 Z0 H2 O0 SV) hZ (tw hw 133 rfl) (tw hw 36 rfl) (by decide) (by decide)) qa69 qc71 (g := (mkF m 16 #[rv px, rv pa, .val .null, rv pv, iv 7] [(.ref pa)])) rfl (by rw [hml]; rfl) (Steps.refl _) (argsL := []) (rest := []) (lenOf pdA1 rfl) rfl (leW rfl) (hb hby dS20_16) (fun _ _ => ⟨rfl, e40, (leB rfl), (leB rfl)⟩)
  dsimp only [Pt.U, Pt.locs, Pt.cells, Pt.slots] at X52 l58 y59 z60 st61 hQ57
  subst y59 z60
  obtain ⟨rfl, N72, e63⟩ := hQ57
  have N62 : Fr n0 L53 := by rw [l58]; exact Fr.app N39 N72
  refine Way.to st61 ?_
  show Way _ _ _ _ (T51.setTop (mkF m 19 #[rv px, rv pa, .val .null, rv pv, iv 7] [(.int 1)]))
  try clear X29 N39 e40 st61 cq67 kq68 qa69 qb70 qc71 N72
  try clear T28
  have b74 : ¬ (1 : Int32) = (0 : Int32) := by decide
  refine Way.by (fun _ k => XS.ifNo X52.here hx rfl (hb hby dS20_19) rfl ((if0 .eq _).trans (feq b74).1) k) ?_
  show Way _ _ _ _ (T51.setTop (mkF m 22 #[rv px, rv pa, .val .null, rv pv, iv 7] []))
  refine Way.by (fun _ k => XS.aloadN X52.here hx rfl (hb hby dS20_22) rfl rfl k) ?_
  refine Way.by (fun _ k => XS.iconst X52.here hx rfl (hb hby dS20_23) k) ?_
  show Way _ _ _ _ (T51.setTop (mkF m 24 #[rv px, rv pa, .val .null, rv pv, iv 7] [(.int 0), (.ref px)]))
  obtain ⟨T75, h76, X77, e78, W79, st80⟩ := putF X52 hx hZ hown (host := "") (Or.inl (tw hw 21 rfl)) Via.refl e63 H7 H5 (Or.inr ⟨(tw hw 17 rfl), rfl, hnm⟩) (tw hw 2 rfl) (ty := .byte) (by decide) rfl rfl (g := (mkF m 24 #[rv px, rv pa, .val .null, rv pv, iv 7] [(.int 0), (.ref px)])) rfl rfl (hb hby dS20_24)
  have N81 := Fr.snoc X77 N62 nw_px
  have E82 := Exa.wr W79 H0
  have F83 := H1.other W79 (Or.inl ne_pa_px)
  have F84 := H2.other W79 (Or.inl ne_pa_px)
  have F85 := H3.other W79 (Or.inl ne_pa_px)
  have A86 := H4.other W79 ne_pv_px
  have E87 := Exa.wr W79 H5
  have F88 := H6.other W79 (Or.inr (slot_ne (Or.inr (tw hw 16 rfl)) (Or.inr (tw hw 17 rfl)) (by decide) (t := (.array .byte)) (t' := .byte) (by decide) (by decide)))
  have F89 : Fld Z h76 px "java/lang/String" "coder" "B" (.int 0) := H7.same W79
  have Z90 : n0 ≤ h76.size := by rw [W79.size]; exact Z0
  have O91 := O0.wr W79 nw_px
  have K92 := (Keep.refl h0 [px]).wr W79 (Or.inl (List.mem_of_getElem? (i := 0) rfl))
  have hz93 : h0.size ≤ h76.size := by rw [W79.size]; exact (Nat.le_refl h0.size)
  refine Way.by st80 ?_
  show Way _ _ _ _ (T75.setTop (mkF m 27 #[rv px, rv pa, .val .null, rv pv, iv 7] []))
  refine Way.by (fun _ k => XS.aloadN X77.here hx rfl (hb hby dS20_27) rfl rfl k) ?_
  refine Way.by (fun _ k => XS.aloadN X77.here hx rfl (hb hby dS20_28) rfl rfl k) ?_
  refine Way.by (fun _ k => XS.iconst X77.here hx rfl (hb hby dS20_29) k) ?_
  show Way _ _ _ _ (T75.setTop (mkF m 30 #[rv px, rv pa, .val .null, rv pv, iv 7] [(.int 0), (.ref pv), (.ref px)]))
  refine Way.by (fun _ k => XS.iload X77.here hx rfl (hb hby dS20_30) rfl k) ?_
  show Way _ _ _ _ (T75.setTop (mkF m 32 #[rv px, rv pa, .val .null, rv pv, iv 7] [(.int 7), (.int 0), (.ref pv), (.ref px)]))
  obtain ⟨_, _, ⟨T94, L96, k97, n98⟩, -, X95, ⟨Lc99, hQ100, l101, y102, z103⟩, st104⟩ := Jvm.LawKit.callS X77 hx (y := (⟨"java/util/Arrays", "copyOfRange", "([BII)[B"⟩ : MethodName)) hown (mvT hZ (tw hw 134 rfl)) (mvT hZ (tw hw 135 rfl)) (mvT hZ (tw hw 136 rfl)) (mvT hZ (tw hw 137 rfl)) (by decide) (backOf (W := 1) (rmCR0 l Z a0 hw [] pv kv h76 n0 Z90 A86) hZ (tw hw 137 rfl) (tw hw 136 rfl) (by decide) (by decide)) (g := (mkF m 32 #[rv px, rv pa, .val .null, rv pv, iv 7] [(.int 7), (.int 0), (.ref pv), (.ref px)])) rfl (by rw [hml]; rfl) (argsL := [(.ref pv), (.int 0), (.int 7)]) (rest := [(.ref px)]) (lenOf pdCB0 rfl) rfl (leW rfl) (hb hby dS20_32) (fun _ _ => ⟨rfl, e78, (leB rfl), (leB rfl)⟩)
  dsimp only [Pt.U, Pt.locs, Pt.cells, Pt.slots] at X95 l101 y102 z103 st104 hQ100
  subst y102 z103
  obtain ⟨x_bt114, x_kt115, rfl, N110, K111, fr_bt113, F_0112⟩ := hQ100
  have N105 : Fr n0 L96 := by rw [l101]; exact Fr.app N81 N110
  have ne116 : pa ≠ x_bt114 := Nat.ne_of_lt (Nat.lt_of_lt_of_le E82.lt fr_bt113)
  have ne117 : pv ≠ x_bt114 := Nat.ne_of_lt (Nat.lt_of_lt_of_le A86.lt fr_bt113)
  have ne118 : px ≠ x_bt114 := Nat.ne_of_lt (Nat.lt_of_lt_of_le E87.lt fr_bt113)
  have nw119 : n0 ≤ x_bt114 := Nat.le_trans Z90 fr_bt113
  have hk120 : h0.size ≤ x_bt114 := Nat.le_trans hz93 fr_bt113
  have E121 := E82.keep K111
  have F122 := F83.keep K111 nin0
  have F123 := F84.keep K111 nin0
  have F124 := F85.keep K111 nin0
  have A125 := A86.keep K111 nin0
  have E126 := E87.keep K111
  have F127 := F88.keep K111 nin0
  have F128 := F89.keep K111 nin0
  have Z129 := Nat.le_trans Z90 K111.1
  have O130 := O91.keep K111 all0
  have K131 := K92.trans K111 all0
  have hz132 := Nat.le_trans hz93 K111.1
  refine Way.by st104 ?_
  show Way _ _ _ _ (T94.setTop (mkF m 35 #[rv px, rv pa, .val .null, rv pv, iv 7] [(.ref x_bt114), (.ref px)]))
  try clear X77 e78 N81 E82 F83 F84 F85 A86 E87 F88 F89 Z90 O91 K92 hz93 st104 N110 K111
  try clear T75 h76
  obtain ⟨T133, h134, X135, e136, W137, st138⟩ := putF X95 hx hZ hown (host := "") (Or.inl (tw hw 20 rfl)) Via.refl rfl F127 E126 (Or.inr ⟨(tw hw 16 rfl), rfl, hnm⟩) (tw hw 2 rfl) (ty := (.array .byte)) (by decide) rfl rfl (g := (mkF m 35 #[rv px, rv pa, .val .null, rv pv, iv 7] [(.ref x_bt114), (.ref px)])) rfl rfl (hb hby dS20_35)
  have N139 := Fr.snoc X135 N105 nw_px
  have E140 := Exa.wr W137 E121
  have F141 := F122.other W137 (Or.inl ne_pa_px)
  have F142 := F123.other W137 (Or.inl ne_pa_px)
  have F143 := F124.other W137 (Or.inl ne_pa_px)
  have A144 := A125.other W137 ne_pv_px
  have E145 := Exa.wr W137 E126
  have F146 : Fld Z h134 px "java/lang/String" "value" "[B" (.ref x_bt114) := F127.same W137
  have F147 := F128.other W137 (Or.inr (slot_ne (Or.inr (tw hw 17 rfl)) (Or.inr (tw hw 16 rfl)) (by decide) (t := .byte) (t' := (.array .byte)) (by decide) (by decide)))
  have A148 := F_0112.other W137 ne118.symm
  have Z149 : n0 ≤ h134.size := by rw [W137.size]; exact Z129
  have O150 := O130.wr W137 nw_px
  have K151 := K131.wr W137 (Or.inl (List.mem_of_getElem? (i := 0) rfl))
  have hz152 : h0.size ≤ h134.size := by rw [W137.size]; exact hz132
  refine Way.by st138 ?_
  show Way _ _ _ _ (T133.setTop (mkF m 38 #[rv px, rv pa, .val .null, rv pv, iv 7] []))
  try clear X95 N105 F_0112 E121 F122 F123 F124 A125 E126 F127 F128 Z129 O130 K131 hz132 W137 st138
  try clear T94
  refine Way.by (fun _ k => XS.goto X135.here hx rfl (pc0 := 38) (pc' := 97) rfl (hb hby dS20_38) (by decide) (by decide) k) ?_
  show Way _ _ _ _ (T133.setTop (mkF m 97 #[rv px, rv pa, .val .null, rv pv, iv 7] []))
  refine Way.ret (v := none) X135 hlk (fun _ => rfl) (fun fs hr => X135.returnOut hx Bd.returns (hb hby dS20_97) hr) ?_ (by decide) (by decide)
  show QS20 Z px pa pv kv h0 n0 _ T133.heap _
  rw [e136]
  have STR : own_Str Z h134 px x_bt114 [46, 115, 104, 97, 53, 49, 50] := ⟨E145, F146, F147, ⟨_, _, _, A148, Or.inl ⟨rfl, rfl, rfl, fun c hc => (hbd c hc).2⟩⟩, hbd, Nat.le_of_ble_eq_true rfl⟩
  exact ⟨x_bt114, rfl, N139, K151, hk120, STR⟩
def QS10 (Z : State) (px : Addr) (pa : Addr) (pv : Addr) (kv : ClassId) (h0 : Heap) (n0 : Nat) (v : Option Value) (h : Heap) (L : List Loc) : Prop := ∃ (bt : Addr), v = none ∧ Fr n0 L ∧ Keep h0 h [px] ∧ h0.size ≤ bt ∧ own_Str Z h px bt [46, 115, 104, 97, 53, 49, 50]
theorem dS10_0 : decode jdk_42_method_53_code 0 = .ok (.aload_n 0, 1) := by decide +kernel
theorem dS10_1 : decode jdk_42_method_53_code 1 = .ok (.aload_n 1, 1) := by decide +kernel
theorem dS10_2 : decode jdk_42_method_53_code 2 = .ok (.aconst_null, 1) := by decide +kernel
theorem dS10_3 : decode jdk_42_method_53_code 3 = .ok (.invokespecial 489, 3) := by decide +kernel
theorem dS10_6 : decode jdk_42_method_53_code 6 = .ok (.return_, 1) := by decide +kernel
theorem pdS10 : parseMethodDescriptor "(Ljava/lang/StringBuilder;)V" = some ⟨[(.object "java/lang/StringBuilder")], none⟩ := by decide +kernel
set_option maxRecDepth 65536 in
set_option maxHeartbeats 40000000 in
theorem rmS10 (l : Launch) (Z : State) (a0 : Array Value) (hw : ∀ d ∈ tables_1, d.before a0 Z = true) (ws : List Jvm.Cond) (px : Addr) (pa : Addr) (pv : Addr) (kv : ClassId) (h0 : Heap) (n0 : Nat) (Z0 : n0 ≤ h0.size) (H0 : Exa Z h0 pa "java/lang/StringBuilder") (H1 : Fld Z h0 pa "java/lang/AbstractStringBuilder" "value" "[B" (.ref pv)) (H2 : Fld Z h0 pa "java/lang/AbstractStringBuilder" "coder" "B" (.int 0)) (H3 : Fld Z h0 pa "java/lang/AbstractStringBuilder" "count" "I" (.int 7)) (H4 : Arv Z h0 pv kv .byte (16 : Int32) [(.int 46), (.int 115), (.int 104), (.int 97), (.int 53), (.int 49), (.int 50)] (.int 0)) (H5 : Exa Z h0 px "java/lang/String") (H6 : Fld Z h0 px "java/lang/String" "value" "[B" .null) (H7 : Fld Z h0 px "java/lang/String" "coder" "B" (.int 0)) (hbd : ∀ c ∈ ([46, 115, 104, 97, 53, 49, 50] : List Int32), ¬ c < 0 ∧ ¬ (255 : Int32) < c) (ne_pa_px : pa ≠ px) (ne_pv_px : pv ≠ px) (nw_px : n0 ≤ px) (O0 : Old Z n0 h0) (SV : own_Env Z) :
    MetFree l (⟨"java/lang/String", "<init>", "(Ljava/lang/StringBuilder;)V"⟩ : MethodName) (head1 (Jvm.Cond.code (⟨"java/lang/String", "<init>", "(Ljava/lang/StringBuilder;)V"⟩ : MethodName) jdk_42_method_53_code 2 none :: ws) ({ frames := 4, cells := 1, slots := 7, locals := 91 } : Room)) (fun aa U => aa = #[(.ref px), (.ref pa)] ∧ Z.Warmed39 U.vm ∧ U.heap = h0) (fun _ _ _ _ _ => True) (fun _ U oo U' => ∃ v L, oo = .returned v ∧ QS10 Z px pa pv kv h0 n0 v U'.heap L ∧ FrameEnd U oo U' L ({ frames := 4, cells := 1, slots := 7, locals := 91 } : Room).cells ({ frames := 4, cells := 1, slots := 7, locals := 91 } : Room).slots) := by
  refine MetFree.of_bodySF (plainFor_of_name pnCD) hisR ?_
  intro p e s m args below meth c s₁ Bd hml0 hP hK
  obtain ⟨rfl, hZ, hh⟩ := hP
  have hx := Bd.exec
  have hby := Bd.bytes
  have hlk : meth.locks = false := BodyLoose.notSynchronized Bd
  have hml : c.maxLocals = 2 := hml0
  have hown : s.vm.findClass "java/lang/String" = some m.cls := findClass_of_methodNamed Bd.named
  have hnm := (name_of_methodNamed Bd.named Bd.method).1
  have X0 : Stand p l e ({ frames := 4, cells := 1, slots := 7, locals := 91 } : Room) s m #[(.ref px), (.ref pa)] below meth c s₁ [] 0 0 := Stand.of_body Bd
  have e0 : s₁.heap = h0 := by rw [← hh, Bd.state]; rfl
  have N0 := Fr.nil n0
  have ef : entryFrame m #[(.ref px), (.ref pa)] 2 = mkF m 0 #[rv px, rv pa] [] := by first | (simp [entryFrame, mkF, argsToLocals, Value.category, maxLocals]; done) | rfl
  show Way p.tables e below (KQ s (QS10 Z px pa pv kv h0 n0) ({ frames := 4, cells := 1, slots := 7, locals := 91 } : Room).cells ({ frames := 4, cells := 1, slots := 7, locals := 91 } : Room).slots) (s₁.setTop (entryFrame m #[(.ref px), (.ref pa)] 2))
  rw [ef]
  refine Way.by (fun _ k => XS.aloadN X0.here hx rfl (hb hby dS10_0) rfl rfl k) ?_
  refine Way.by (fun _ k => XS.aloadN X0.here hx rfl (hb hby dS10_1) rfl rfl k) ?_
  show Way _ _ _ _ (s₁.setTop (mkF m 2 #[rv px, rv pa] [(.ref pa), (.ref px)]))
  refine Way.by (fun _ k => XS.aconstNull X0.here hx rfl (hb hby dS10_2) k) ?_
  show Way _ _ _ _ (s₁.setTop (mkF m 3 #[rv px, rv pa] [.null, (.ref pa), (.ref px)]))
  obtain ⟨_, _, ⟨T1, L3, k4, n5⟩, -, X2, ⟨Lc6, hQ7, l8, y9, z10⟩, st11⟩ := X0.specialBack hx (y := (⟨"java/lang/String", "<init>", "(Ljava/lang/AbstractStringBuilder;Ljava/lang/Void;)V"⟩ : MethodName)) rfl hown (mvT hZ (tw hw 113 rfl)) (mvT hZ (tw hw 114 rfl)) (mvT hZ (tw hw 115 rfl)) (by decide) (backOf (W := 0) (rmS20 l Z a0 hw [] px pa pv kv h0 n0 Z0 H0 H1 H2 H3 H4 H5 H6 H7 hbd ne_pa_px ne_pv_px nw_px O0 SV) hZ (tw hw 115 rfl) (tw hw 3 rfl) (by decide) (by decide)) (g := (mkF m 3 #[rv px, rv pa] [.null, (.ref pa), (.ref px)])) rfl (by rw [hml]; rfl) (Steps.refl _) (a := px) (argsL := [(.ref pa), .null]) (rest := []) (lenOf pdS20 rfl) rfl (leW rfl) (hb hby dS10_3) (fun _ _ => ⟨rfl, e0, (leB rfl), (leB rfl)⟩)
  dsimp only [Pt.U, Pt.locs, Pt.cells, Pt.slots] at X2 l8 y9 z10 st11 hQ7
  subst y9 z10
  obtain ⟨x_bt21, rfl, N17, K18, fr_bt20, F_019⟩ := hQ7
  have N12 : Fr n0 L3 := by rw [l8]; exact Fr.app N0 N17
  have ne22 : pa ≠ x_bt21 := Nat.ne_of_lt (Nat.lt_of_lt_of_le H0.lt fr_bt20)
  have ne23 : pv ≠ x_bt21 := Nat.ne_of_lt (Nat.lt_of_lt_of_le H4.lt fr_bt20)
  have ne24 : px ≠ x_bt21 := Nat.ne_of_lt (Nat.lt_of_lt_of_le H5.lt fr_bt20)
  have nw25 : n0 ≤ x_bt21 := Nat.le_trans Z0 fr_bt20
  have hk26 : h0.size ≤ x_bt21 := Nat.le_trans (Nat.le_refl h0.size) fr_bt20
  have E27 := H0.keep K18
  have F28 := H1.keep K18 (ninS ne_pa_px nin0)
  have F29 := H2.keep K18 (ninS ne_pa_px nin0)
  have F30 := H3.keep K18 (ninS ne_pa_px nin0)
  have A31 := H4.keep K18 (ninS ne_pv_px nin0)
  have E32 := H5.keep K18
  have Z33 := Nat.le_trans Z0 K18.1
  have O34 := O0.keep K18 (allS nw_px all0)
  have K35 := (Keep.refl h0 [px]).trans K18 (allS (Or.inl (List.mem_of_getElem? (i := 0) rfl)) all0)
  have hz36 := Nat.le_trans (Nat.le_refl h0.size) K18.1
  refine Way.to st11 ?_
  show Way _ _ _ _ (T1.setTop (mkF m 6 #[rv px, rv pa] []))
  refine Way.ret (v := none) X2 hlk (fun _ => rfl) (fun fs hr => X2.returnOut hx Bd.returns (hb hby dS10_6) hr) ?_ (by decide) (by decide)
  show QS10 Z px pa pv kv h0 n0 _ T1.heap _
  skip
  exact ⟨x_bt21, rfl, N12, K35, hk26, F_019⟩
def QTS0 (Z : State) (pa : Addr) (pv : Addr) (kv : ClassId) (h0 : Heap) (n0 : Nat) (v : Option Value) (h : Heap) (L : List Loc) : Prop := ∃ (bx : Addr) (bt : Addr), v = some (.ref bx) ∧ Fr n0 L ∧ Keep h0 h [] ∧ h0.size ≤ bx ∧ h0.size ≤ bt ∧ own_Str Z h bx bt [46, 115, 104, 97, 53, 49, 50]
theorem dTS0_0 : decode jdk_67_method_42_code 0 = .ok (.new 18, 3) := by decide +kernel
theorem dTS0_3 : decode jdk_67_method_42_code 3 = .ok (.dup, 1) := by decide +kernel
theorem dTS0_4 : decode jdk_67_method_42_code 4 = .ok (.aload_n 0, 1) := by decide +kernel
theorem dTS0_5 : decode jdk_67_method_42_code 5 = .ok (.invokespecial 137, 3) := by decide +kernel
theorem dTS0_8 : decode jdk_67_method_42_code 8 = .ok (.areturn, 1) := by decide +kernel
set_option maxRecDepth 65536 in
set_option maxHeartbeats 40000000 in
theorem rmTS0 (l : Launch) (Z : State) (a0 : Array Value) (hw : ∀ d ∈ tables_1, d.before a0 Z = true) (ws : List Jvm.Cond) (pa : Addr) (pv : Addr) (kv : ClassId) (h0 : Heap) (n0 : Nat) (Z0 : n0 ≤ h0.size) (H0 : Exa Z h0 pa "java/lang/StringBuilder") (H1 : Fld Z h0 pa "java/lang/AbstractStringBuilder" "value" "[B" (.ref pv)) (H2 : Fld Z h0 pa "java/lang/AbstractStringBuilder" "coder" "B" (.int 0)) (H3 : Fld Z h0 pa "java/lang/AbstractStringBuilder" "count" "I" (.int 7)) (H4 : Arv Z h0 pv kv .byte (16 : Int32) [(.int 46), (.int 115), (.int 104), (.int 97), (.int 53), (.int 49), (.int 50)] (.int 0)) (hbd : ∀ c ∈ ([46, 115, 104, 97, 53, 49, 50] : List Int32), ¬ c < 0 ∧ ¬ (255 : Int32) < c) (O0 : Old Z n0 h0) (SV : own_Env Z) :
    MetFree l (⟨"java/lang/StringBuilder", "toString", "()Ljava/lang/String;"⟩ : MethodName) (head1 (Jvm.Cond.code (⟨"java/lang/StringBuilder", "toString", "()Ljava/lang/String;"⟩ : MethodName) jdk_67_method_42_code 1 (some (.object "java/lang/String")) :: ws) ({ frames := 5, cells := 2, slots := 11, locals := 105 } : Room)) (fun aa U => aa = #[(.ref pa)] ∧ Z.Warmed39 U.vm ∧ U.heap = h0) (fun _ _ _ _ _ => True) (fun _ U oo U' => ∃ v L, oo = .returned v ∧ QTS0 Z pa pv kv h0 n0 v U'.heap L ∧ FrameEnd U oo U' L ({ frames := 5, cells := 2, slots := 11, locals := 105 } : Room).cells ({ frames := 5, cells := 2, slots := 11, locals := 105 } : Room).slots) := by
  refine MetFree.of_bodySF (plainFor_of_name pnSI) hisR ?_
  intro p e s m args below meth c s₁ Bd hml0 hP hK
  obtain ⟨rfl, hZ, hh⟩ := hP
  have hx := Bd.exec
  have hby := Bd.bytes
  have hlk : meth.locks = false := BodyLoose.notSynchronized Bd
  have hml : c.maxLocals = 1 := hml0
  have hown : s.vm.findClass "java/lang/StringBuilder" = some m.cls := findClass_of_methodNamed Bd.named
  have hnm := (name_of_methodNamed Bd.named Bd.method).1
  have X0 : Stand p l e ({ frames := 5, cells := 2, slots := 11, locals := 105 } : Room) s m #[(.ref pa)] below meth c s₁ [] 0 0 := Stand.of_body Bd
  have e0 : s₁.heap = h0 := by rw [← hh, Bd.state]; rfl
  have N0 := Fr.nil n0
  have ef : entryFrame m #[(.ref pa)] 1 = mkF m 0 #[rv pa] [] := by first | (simp [entryFrame, mkF, argsToLocals, Value.category, maxLocals]; done) | rfl
  show Way p.tables e below (KQ s (QTS0 Z pa pv kv h0 n0) ({ frames := 5, cells := 2, slots := 11, locals := 105 } : Room).cells ({ frames := 5, cells := 2, slots := 11, locals := 105 } : Room).slots) (s₁.setTop (entryFrame m #[(.ref pa)] 1))
  rw [ef]
  obtain ⟨T1, h2, X3, e4, E5, A6, D7, -, st8⟩ := newO X0 hx hZ hown (tw hw 109 rfl) (tw hw 2 rfl) (tw hw 3 rfl) e0 (g := (mkF m 0 #[rv pa] [])) rfl (hb hby dTS0_0) (by decide) (by decide)
  obtain ⟨a9, g10⟩ : ∃ z, z = h0.size := ⟨_, rfl⟩
  rw [← g10] at A6 D7 st8
  have ne11 : pa ≠ a9 := Nat.ne_of_lt (Nat.lt_of_lt_of_eq H0.lt g10.symm)
  have ne12 : pv ≠ a9 := Nat.ne_of_lt (Nat.lt_of_lt_of_eq H4.lt g10.symm)
  have nw13 : n0 ≤ a9 := Nat.le_trans Z0 (Nat.le_of_eq g10.symm)
  have hk14 : h0.size ≤ a9 := Nat.le_trans (Nat.le_refl h0.size) (Nat.le_of_eq g10.symm)
  have E15 := Exa.ext E5 H0
  have F16 := Fld.ext E5 H1
  have F17 := Fld.ext E5 H2
  have F18 := Fld.ext E5 H3
  have A19 := H4.ext E5
  have Z20 := Nat.le_trans Z0 E5.1
  have O21 := O0.ext E5
  have K22 := (Keep.refl h0 []).ext E5
  have hz23 := Nat.le_trans (Nat.le_refl h0.size) E5.1
  have F24 : Fld Z h2 a9 "java/lang/String" "value" "[B" .null := D7 (Or.inr (tw hw 16 rfl)) (ty := (.array .byte)) (by decide)
  have F25 : Fld Z h2 a9 "java/lang/String" "coder" "B" (.int 0) := D7 (Or.inr (tw hw 17 rfl)) (ty := .byte) (by decide)
  refine Way.by st8 ?_
  show Way _ _ _ _ (T1.setTop (mkF m 3 #[rv pa] [(.ref a9)]))
  refine Way.by (fun _ k => XS.dup X3.here hx rfl (hb hby dTS0_3) rfl rfl k) ?_
  refine Way.by (fun _ k => XS.aloadN X3.here hx rfl (hb hby dTS0_4) rfl rfl k) ?_
  show Way _ _ _ _ (T1.setTop (mkF m 5 #[rv pa] [(.ref pa), (.ref a9), (.ref a9)]))
  obtain ⟨_, _, ⟨T26, L28, k29, n30⟩, -, X27, ⟨Lc31, hQ32, l33, y34, z35⟩, st36⟩ := X3.specialBack hx (y := (⟨"java/lang/String", "<init>", "(Ljava/lang/StringBuilder;)V"⟩ : MethodName)) rfl hown (mvT hZ (tw hw 110 rfl)) (mvT hZ (tw hw 111 rfl)) (mvT hZ (tw hw 112 rfl)) (by decide) (backOf (W := 1) (rmS10 l Z a0 hw [] a9 pa pv kv h2 n0 Z20 E15 F16 F17 F18 A19 A6 F24 F25 hbd ne11 ne12 nw13 O21 SV) hZ (tw hw 112 rfl) (tw hw 3 rfl) (by decide) (by decide)) (g := (mkF m 5 #[rv pa] [(.ref pa), (.ref a9), (.ref a9)])) rfl (by rw [hml]; rfl) (Steps.refl _) (a := a9) (argsL := [(.ref pa)]) (rest := [(.ref a9)]) (lenOf pdS10 rfl) rfl (leW rfl) (hb hby dTS0_5) (fun _ _ => ⟨rfl, e4, (leB rfl), (leB rfl)⟩)
  dsimp only [Pt.U, Pt.locs, Pt.cells, Pt.slots] at X27 l33 y34 z35 st36 hQ32
  subst y34 z35
  obtain ⟨x_bt46, rfl, N42, K43, fr_bt45, F_044⟩ := hQ32
  have N37 : Fr n0 L28 := by rw [l33]; exact Fr.app N0 N42
  have ne47 : pa ≠ x_bt46 := Nat.ne_of_lt (Nat.lt_of_lt_of_le E15.lt fr_bt45)
  have ne48 : pv ≠ x_bt46 := Nat.ne_of_lt (Nat.lt_of_lt_of_le A19.lt fr_bt45)
  have ne49 : a9 ≠ x_bt46 := Nat.ne_of_lt (Nat.lt_of_lt_of_le A6.lt fr_bt45)
  have nw50 : n0 ≤ x_bt46 := Nat.le_trans Z20 fr_bt45
  have hk51 : h0.size ≤ x_bt46 := Nat.le_trans hz23 fr_bt45
  have E52 := E15.keep K43
  have F53 := F16.keep K43 (ninS ne11 nin0)
  have F54 := F17.keep K43 (ninS ne11 nin0)
  have F55 := F18.keep K43 (ninS ne11 nin0)
  have A56 := A19.keep K43 (ninS ne12 nin0)
  have E57 := A6.keep K43
  have Z58 := Nat.le_trans Z20 K43.1
  have O59 := O21.keep K43 (allS nw13 all0)
  have K60 := K22.trans K43 (allS (Or.inr hk14) all0)
  have hz61 := Nat.le_trans hz23 K43.1
  refine Way.to st36 ?_
  show Way _ _ _ _ (T26.setTop (mkF m 8 #[rv pa] [(.ref a9)]))
  try clear X3 e4 A6 E15 F16 F17 F18 A19 Z20 O21 K22 hz23 F24 F25 st36 N42 K43
  try clear T1 h2
  refine Way.ret (v := (some (.ref a9))) X27 hlk (fun h => by rw [Bd.returns] at h; cases h) (fun fs hr => retOut X27 hx Bd.returns rfl (Or.inr (Or.inr (Or.inr (Or.inr ⟨rfl, rfl, rfl⟩)))) (hb hby dTS0_8) hr) ?_ (by decide) (by decide)
  show QTS0 Z pa pv kv h0 n0 _ T26.heap _
  skip
  exact ⟨a9, x_bt46, rfl, N37, K60, hk14, hk51, F_044⟩
def QNF0 (Z : State) (px : Addr) (pt : Addr) (ud : Addr) (ul : Addr) (ult : Addr) (h0 : Heap) (n0 : Nat) (v : Option Value) (h : Heap) (L : List Loc) : Prop := ∃ (bx : Addr) (bt : Addr), v = some (.ref bx) ∧ Fr n0 L ∧ Keep h0 h [] ∧ own_Str Z h bx bt [46, 115, 104, 97, 53, 49, 50]
theorem dNF0_0 : decode prog_40_method_2_code 0 = .ok (.new 7, 3) := by decide +kernel
theorem dNF0_3 : decode prog_40_method_2_code 3 = .ok (.dup, 1) := by decide +kernel
theorem dNF0_4 : decode prog_40_method_2_code 4 = .ok (.invokespecial 9, 3) := by decide +kernel
theorem dNF0_7 : decode prog_40_method_2_code 7 = .ok (.aload_n 0, 1) := by decide +kernel
theorem dNF0_8 : decode prog_40_method_2_code 8 = .ok (.invokevirtual 10, 3) := by decide +kernel
theorem dNF0_11 : decode prog_40_method_2_code 11 = .ok (.ldc 14, 2) := by decide +kernel
theorem dNF0_13 : decode prog_40_method_2_code 13 = .ok (.invokevirtual 10, 3) := by decide +kernel
theorem dNF0_16 : decode prog_40_method_2_code 16 = .ok (.getstatic 16, 3) := by decide +kernel
theorem dNF0_19 : decode prog_40_method_2_code 19 = .ok (.invokevirtual 22, 3) := by decide +kernel
theorem dNF0_22 : decode prog_40_method_2_code 22 = .ok (.invokevirtual 10, 3) := by decide +kernel
theorem dNF0_25 : decode prog_40_method_2_code 25 = .ok (.invokevirtual 28, 3) := by decide +kernel
theorem dNF0_28 : decode prog_40_method_2_code 28 = .ok (.areturn, 1) := by decide +kernel
theorem pnNF0 : plainName "com/example/longhold/longhold/store/DigestFile" = true := by first | (simp [plainName, overriddenIn]; done) | decide +kernel
theorem pdNF0 : parseMethodDescriptor "(Ljava/lang/String;)Ljava/lang/String;" = some ⟨[(.object "java/lang/String")], some (.object "java/lang/String")⟩ := by decide +kernel
set_option maxRecDepth 65536 in
set_option maxHeartbeats 40000000 in
theorem rmNF0 (l : Launch) (Z : State) (a0 : Array Value) (hw : ∀ d ∈ tables_1, d.before a0 Z = true) (ws : List Jvm.Cond) (px : Addr) (pt : Addr) (ud : Addr) (ul : Addr) (ult : Addr) (h0 : Heap) (n0 : Nat) (Z0 : n0 ≤ h0.size) (H0 : own_Str Z h0 px pt []) (hbd : ∀ c ∈ ([46, 115, 104, 97, 53, 49, 50] : List Int32), ¬ c < 0 ∧ ¬ (255 : Int32) < c) (O0 : Old Z n0 h0) (SV : own_Env Z) (SDG : Sta Z Z.heap "com/example/longhold/longhold/store/DigestFile" "DIGEST" "Lcom/example/longhold/longhold/store/DigestAlgorithm;" (.ref ud)) (EDG : Exa Z Z.heap ud "com/example/longhold/longhold/store/DigestAlgorithm") (FLB : Fld Z Z.heap ud "com/example/longhold/longhold/store/DigestAlgorithm" "label" "Ljava/lang/String;" (.ref ul)) (SLB : own_Str Z Z.heap ul ult [115, 104, 97, 53, 49, 50]) :
    MetFree l (⟨"com/example/longhold/longhold/store/DigestFile", "nameFor", "(Ljava/lang/String;)Ljava/lang/String;"⟩ : MethodName) (head1 (Jvm.Cond.code (⟨"com/example/longhold/longhold/store/DigestFile", "nameFor", "(Ljava/lang/String;)Ljava/lang/String;"⟩ : MethodName) prog_40_method_2_code 1 (some (.object "java/lang/String")) :: ws) ({ frames := 6, cells := 6, slots := 46, locals := 117 } : Room)) (fun aa U => aa = #[(.ref px)] ∧ Z.Warmed39 U.vm ∧ U.heap = h0 ∧ CHv Z own_EL U.vm h0) (fun _ _ _ _ _ => True) (fun _ U oo U' => ∃ v L, oo = .returned v ∧ QNF0 Z px pt ud ul ult h0 n0 v U'.heap L ∧ CHr Z own_EL U.vm U.heap U'.vm U'.heap ∧ ReturnedEndW U oo U' L ({ frames := 6, cells := 6, slots := 46, locals := 117 } : Room).cells ({ frames := 6, cells := 6, slots := 46, locals := 117 } : Room).slots) := by
  refine MetFree.of_bodySF (plainFor_of_name pnNF0) hisR ?_
  intro p e s m args below meth c s₁ Bd hml0 hP hK
  obtain ⟨rfl, hZ, hh, HV0⟩ := hP
  have hx := Bd.exec
  have hby := Bd.bytes
  have hlk : meth.locks = false := BodyLoose.notSynchronized Bd
  have hml : c.maxLocals = 1 := hml0
  have hown : s.vm.findClass "com/example/longhold/longhold/store/DigestFile" = some m.cls := findClass_of_methodNamed Bd.named
  have hnm := (name_of_methodNamed Bd.named Bd.method).1
  have X0 : Stand p l e ({ frames := 6, cells := 6, slots := 46, locals := 117 } : Room) s m #[(.ref px)] below meth c s₁ [] 0 0 := Stand.of_body Bd
  have e0 : s₁.heap = h0 := by rw [← hh, Bd.state]; rfl
  have N0 := Fr.nil n0
  have ef : entryFrame m #[(.ref px)] 1 = mkF m 0 #[rv px] [] := by first | (simp [entryFrame, mkF, argsToLocals, Value.category, maxLocals]; done) | rfl
  have XW : Stand p l e ({ frames := 6, cells := 6, slots := 46, locals := 117 } : Room) (s.setVm s.vm) m #[(.ref px)] below meth c s₁ [] 0 0 := X0
  have hS0 : s.Since s.vm 0 := (State.WarmedH.refl s).since 0
  have hZ0 : Z.Warmed39 (s.setVm s.vm).vm := hZ
  have hown0 : (s.setVm s.vm).vm.findClass "com/example/longhold/longhold/store/DigestFile" = some m.cls := hown
  have wS : ∀ d ∈ Bundle.stringAtoms, d.before a0 Z = true := fun d hd => hw d (own_wS d hd)
  have hEL : EW Z a0 own_EL := own_EW hw
  have CH0 : CHr Z own_EL s.vm h0 s.vm h0 := CHr.refl HV0
  show Way p.tables e below (KQH s Z own_EL (QNF0 Z px pt ud ul ult h0 n0) ({ frames := 6, cells := 6, slots := 46, locals := 117 } : Room).cells ({ frames := 6, cells := 6, slots := 46, locals := 117 } : Room).slots) (s₁.setTop (entryFrame m #[(.ref px)] 1))
  rw [ef]
  have EDG1 := Exa.ext O0.2 EDG
  have FLB1 := Fld.ext O0.2 FLB
  have SLB1 := SLB.ext O0.2
  obtain ⟨T1, h2, X3, e4, E5, A6, D7, -, st8⟩ := newO XW hx hZ0 hown0 (tw hw 26 rfl) (tw hw 27 rfl) (tw hw 28 rfl) e0 (g := (mkF m 0 #[rv px] [])) rfl (hb hby dNF0_0) (by decide) (by decide)
  obtain ⟨a9, g10⟩ : ∃ z, z = h0.size := ⟨_, rfl⟩
  rw [← g10] at A6 D7 st8
  have ne11 : px ≠ a9 := Nat.ne_of_lt (Nat.lt_of_lt_of_eq H0.lt1 g10.symm)
  have ne12 : pt ≠ a9 := Nat.ne_of_lt (Nat.lt_of_lt_of_eq H0.lt2 g10.symm)
  have ne13 : ud ≠ a9 := Nat.ne_of_lt (Nat.lt_of_lt_of_eq EDG1.lt g10.symm)
  have ne14 : ul ≠ a9 := Nat.ne_of_lt (Nat.lt_of_lt_of_eq SLB1.lt1 g10.symm)
  have ne15 : ult ≠ a9 := Nat.ne_of_lt (Nat.lt_of_lt_of_eq SLB1.lt2 g10.symm)
  have nw16 : n0 ≤ a9 := Nat.le_trans Z0 (Nat.le_of_eq g10.symm)
  have hk17 : h0.size ≤ a9 := Nat.le_trans (Nat.le_refl h0.size) (Nat.le_of_eq g10.symm)
  have hr20 := CHr.ext E5 HV0
  have H18 := hr20.1
  have CH19 := CH0.trans hr20
  have S21 := H0.ext E5
  have E22 := Exa.ext E5 EDG1
  have F23 := Fld.ext E5 FLB1
  have S24 := SLB1.ext E5
  have Z25 := Nat.le_trans Z0 E5.1
  have hk26 := Nat.le_trans (Nat.zero_le _) E5.1
  have O27 := O0.ext E5
  have K28 := (Keep.refl h0 []).ext E5
  have hz29 := Nat.le_trans (Nat.le_refl h0.size) E5.1
  have F30 : Fld Z h2 a9 "java/lang/AbstractStringBuilder" "value" "[B" .null := D7 (Or.inl (tw hw 41 rfl)) (ty := (.array .byte)) (by decide)
  have F31 : Fld Z h2 a9 "java/lang/AbstractStringBuilder" "coder" "B" (.int 0) := D7 (Or.inl (tw hw 43 rfl)) (ty := .byte) (by decide)
  have F32 : Fld Z h2 a9 "java/lang/AbstractStringBuilder" "count" "I" (.int 0) := D7 (Or.inl (tw hw 66 rfl)) (ty := .int) (by decide)
  refine Way.by st8 ?_
  show Way _ _ _ _ (T1.setTop (mkF m 3 #[rv px] [(.ref a9)]))
  refine Way.by (fun _ k => XS.dup X3.here hx rfl (hb hby dNF0_3) rfl rfl k) ?_
  show Way _ _ _ _ (T1.setTop (mkF m 4 #[rv px] [(.ref a9), (.ref a9)]))
  obtain ⟨_, _, ⟨T33, L35, k36, n37⟩, -, X34, ⟨Lc38, hQ39, l40, y41, z42⟩, st43⟩ := X3.specialBack hx (y := (⟨"java/lang/StringBuilder", "<init>", "()V"⟩ : MethodName)) rfl hown0 (mvT hZ0 (tw hw 29 rfl)) (mvT hZ0 (tw hw 30 rfl)) (mvT hZ0 (tw hw 31 rfl)) (by decide) (backOf (W := 1) (rmSI l Z a0 hw [] a9 h2 n0 Z25 A6 F30 F31 F32 nw16 O27 SV) hZ0 (tw hw 31 rfl) (tw hw 28 rfl) (by decide) (by decide)) (g := (mkF m 4 #[rv px] [(.ref a9), (.ref a9)])) rfl (by rw [hml]; rfl) (Steps.refl _) (a := a9) (argsL := []) (rest := [(.ref a9)]) (lenOf pdSI rfl) rfl (leW rfl) (hb hby dNF0_4) (fun _ _ => ⟨rfl, e4, (leB rfl), (leB rfl)⟩)
  dsimp only [Pt.U, Pt.locs, Pt.cells, Pt.slots] at X34 l40 y41 z42 st43 hQ39
  subst y41 z42
  obtain ⟨x_pv58, x_kv57, rfl, N49, K50, fr_pv56, F_051, F_152, F_253, F_354, F_455⟩ := hQ39
  have N44 : Fr n0 L35 := by rw [l40]; exact Fr.app N0 N49
  have ne59 : px ≠ x_pv58 := Nat.ne_of_lt (Nat.lt_of_lt_of_le S21.lt1 fr_pv56)
  have ne60 : pt ≠ x_pv58 := Nat.ne_of_lt (Nat.lt_of_lt_of_le S21.lt2 fr_pv56)
  have ne61 : ud ≠ x_pv58 := Nat.ne_of_lt (Nat.lt_of_lt_of_le E22.lt fr_pv56)
  have ne62 : ul ≠ x_pv58 := Nat.ne_of_lt (Nat.lt_of_lt_of_le S24.lt1 fr_pv56)
  have ne63 : ult ≠ x_pv58 := Nat.ne_of_lt (Nat.lt_of_lt_of_le S24.lt2 fr_pv56)
  have ne64 : a9 ≠ x_pv58 := Nat.ne_of_lt (Nat.lt_of_lt_of_le A6.lt fr_pv56)
  have nw65 : n0 ≤ x_pv58 := Nat.le_trans Z25 fr_pv56
  have hk66 : h0.size ≤ x_pv58 := Nat.le_trans hz29 fr_pv56
  have Sf67 : Safe Z own_EL s.vm h2 x_pv58 := Safe.new fr_pv56
  have hr70 := CHr.keep K50 (sfS (Safe.exa hZ0.alike A6 (by decide) (by decide)) sf0) H18
  have Sf71 := Safe.keep K50 (sfS (Safe.exa hZ0.alike A6 (by decide) (by decide)) sf0) H18 Sf67
  have H68 := hr70.1
  have CH69 := CH19.trans hr70
  have S72 := S21.keep K50 (ninS ne11 nin0) (ninS ne12 nin0)
  have E73 := E22.keep K50
  have F74 := F23.keep K50 (ninS ne13 nin0)
  have S75 := S24.keep K50 (ninS ne14 nin0) (ninS ne15 nin0)
  have E76 := A6.keep K50
  have Z77 := Nat.le_trans Z25 K50.1
  have hk78 := Nat.le_trans hk26 K50.1
  have O79 := O27.keep K50 (allS nw16 all0)
  have K80 := K28.trans K50 (allS (Or.inr hk17) all0)
  have hz81 := Nat.le_trans hz29 K50.1
  refine Way.to st43 ?_
  show Way _ _ _ _ (T33.setTop (mkF m 7 #[rv px] [(.ref a9)]))
  try clear X3 e4 A6 H18 CH19 S21 E22 F23 S24 Z25 hk26 O27 K28 hz29 F30 F31 F32 st43 N49 K50 hr70 E76
  try clear T1 h2
  refine Way.by (fun _ k => XS.aloadN X34.here hx rfl (hb hby dNF0_7) rfl rfl k) ?_
  show Way _ _ _ _ (T33.setTop (mkF m 8 #[rv px] [(.ref px), (.ref a9)]))
  obtain ⟨cq98, kq99, qa100, qb101, qc102⟩ := isOf hZ0 rfl F_051
  obtain ⟨_, _, ⟨T82, L84, k85, n86⟩, -, X83, ⟨Lc87, hQ88, l89, y90, z91⟩, st92⟩ := X34.virtualBack hx (y := (⟨"java/lang/StringBuilder", "append", "(Ljava/lang/String;)Ljava/lang/StringBuilder;"⟩ : MethodName)) (z := (⟨"java/lang/StringBuilder", "append", "(Ljava/lang/String;)Ljava/lang/StringBuilder;"⟩ : MethodName)) hown0 (mvT hZ0 (tw hw 44 rfl)) (mvT hZ0 (tw hw 45 rfl)) (notFace_of_selects (args := #[]) (mvT hZ0 (tw hw 47 rfl))) (mvT hZ0 (tw hw 47 rfl)) (mvT hZ0 (tw hw 46 rfl)) (by decide) (backOf (W := 0) (rmSA l Z a0 hw [] a9 x_pv58 x_kv57 px pt (0 : Int32) [] [] T33.heap n0 Z77 F_051 F_152 F_253 F_354 F_455 S72 ⟨by decide, (show ¬ (0 : Int32) < 0 by decide), rfl, rfl, (show 0 + 0 ≤ 16 by decide), (show ¬ (0 : Int32) < (0 : Int32) + (0 : Int32) - (16 : Int32) by decide), by decide⟩ ne59 ne60 ne64 ne11 ne12 nw16 nw65 O79 SV) hZ0 (tw hw 48 rfl) (tw hw 28 rfl) (by decide) (by decide)) qa100 qc102 (g := (mkF m 8 #[rv px] [(.ref px), (.ref a9)])) rfl (by rw [hml]; rfl) (Steps.refl _) (argsL := [(.ref px)]) (rest := []) (lenOf pdSA rfl) rfl (leW rfl) (hb hby dNF0_8) (fun _ _ => ⟨rfl, rfl, (leB rfl), (leB rfl)⟩)
  dsimp only [Pt.U, Pt.locs, Pt.cells, Pt.slots] at X83 l89 y90 z91 st92 hQ88
  subst y90 z91
  obtain ⟨rfl, N103, K104, F_0105, F_1106, F_2107, F_3108, F_4109⟩ := hQ88
  have N93 : Fr n0 L84 := by rw [l89]; exact Fr.app N44 N103
  have hr112 := CHr.keep K104 (sfS (Safe.exa hZ0.alike F_051 (by decide) (by decide)) (sfS Sf71 sf0)) H68
  have Sf113 := Safe.keep K104 (sfS (Safe.exa hZ0.alike F_051 (by decide) (by decide)) (sfS Sf71 sf0)) H68 Sf71
  have H110 := hr112.1
  have CH111 := CH69.trans hr112
  have S114 := S72.keep K104 (ninS ne11 (ninS ne59 nin0)) (ninS ne12 (ninS ne60 nin0))
  have E115 := E73.keep K104
  have F116 := F74.keep K104 (ninS ne13 (ninS ne61 nin0))
  have S117 := S75.keep K104 (ninS ne14 (ninS ne62 nin0)) (ninS ne15 (ninS ne63 nin0))
  have E118 := F_051.keep K104
  have Z119 := Nat.le_trans Z77 K104.1
  have hk120 := Nat.le_trans hk78 K104.1
  have O121 := O79.keep K104 (allS nw16 (allS nw65 all0))
  have K122 := K80.trans K104 (allS (Or.inr hk17) (allS (Or.inr hk66) all0))
  have hz123 := Nat.le_trans hz81 K104.1
  have V124 : Arv Z T82.heap x_pv58 x_kv57 .byte (16 : Int32) [] (.int 0) := F_4109
  have F125 : Fld Z T82.heap a9 "java/lang/AbstractStringBuilder" "count" "I" (.int 0) := F_3108
  refine Way.to st92 ?_
  show Way _ _ _ _ (T82.setTop (mkF m 11 #[rv px] [(.ref a9)]))
  try clear X34 N44 F_051 F_152 F_253 F_354 F_455 H68 CH69 Sf71 S72 E73 F74 S75 Z77 hk78 O79 K80 hz81 st92 cq98 kq99 qa100 qb101 qc102 N103 K104 hr112 E118
  try clear T33
  obtain ⟨a126, T127, h128, k129, bd130, kc131, X132, e133, E134, hS135, hk136, hZ137, hown138, Ex139, Co140, Va141, Ar142, la143, lb144, hr145, lit146, sfn147, st148⟩ := ldcCH X83 hx hZ0 hown0 (tw hw 92 rfl) wS rfl hS0 hk120 hEL (by decide) H110 (vs := ([46] : List Int32).map fun c => Value.int (StrChars.lo8 c)) (z := (1 : Int32)) ⟨by decide, by decide⟩ (by decide) rfl (g := (mkF m 11 #[rv px] [(.ref a9)])) rfl (hb hby dNF0_11) (n := 4) (by decide) (by decide) (by decide) (by decide)
  have Sf152 := CHr.safe hr145 V124.lt Sf113
  have H149 := hr145.1
  have CH150 := CH111.trans hr145
  have S153 := S114.ext E134
  have E154 := Exa.ext E134 E115
  have F155 := Fld.ext E134 F116
  have S156 := S117.ext E134
  have E157 := Exa.ext E134 F_0105
  have F158 := Fld.ext E134 F_1106
  have F159 := Fld.ext E134 F_2107
  have F160 := Fld.ext E134 F125
  have A161 := V124.ext E134
  have Z162 := Nat.le_trans Z119 E134.1
  have O163 := O121.ext E134
  have K164 := K122.ext E134
  have hz165 := Nat.le_trans hz123 E134.1
  have F166 : own_Str Z h128 a126 bd130 [46] := ⟨Ex139, Va141, Co140, ⟨_, _, _, Ar142, Or.inl ⟨rfl, rfl, rfl, by decide⟩⟩, by decide, by decide⟩
  have ne167 := sfn147 x_pv58 Sf152
  have ne168 := sfn147 ud (Safe.exa hZ137.alike E154 (by decide) (by decide))
  have ne169 := sfn147 a9 (Safe.exa hZ137.alike E157 (by decide) (by decide))
  refine Way.by st148 ?_
  show Way _ _ _ _ (T127.setTop (mkF m 13 #[rv px] [(.ref a126), (.ref a9)]))
  try clear X83 F_0105 F_1106 F_2107 H110 CH111 Sf113 S114 E115 F116 S117 Z119 hk120 O121 K122 hz123 V124 F125 E134 hr145 st148
  try clear T82
  obtain ⟨cq186, kq187, qa188, qb189, qc190⟩ := isOf hZ137 e133 E157
  obtain ⟨_, _, ⟨T170, L172, k173, n174⟩, -, X171, ⟨Lc175, hQ176, l177, y178, z179⟩, st180⟩ := X132.virtualBack hx (y := (⟨"java/lang/StringBuilder", "append", "(Ljava/lang/String;)Ljava/lang/StringBuilder;"⟩ : MethodName)) (z := (⟨"java/lang/StringBuilder", "append", "(Ljava/lang/String;)Ljava/lang/StringBuilder;"⟩ : MethodName)) hown138 (mvT hZ137 (tw hw 44 rfl)) (mvT hZ137 (tw hw 45 rfl)) (notFace_of_selects (args := #[]) (mvT hZ137 (tw hw 47 rfl))) (mvT hZ137 (tw hw 47 rfl)) (mvT hZ137 (tw hw 46 rfl)) (by decide) (backOf (W := 0) (rmSA l Z a0 hw [] a9 x_pv58 x_kv57 a126 bd130 (0 : Int32) [] [46] h128 n0 Z162 E157 F158 F159 F160 A161 F166 ⟨by decide, (show ¬ (1 : Int32) < 0 by decide), rfl, rfl, (show 0 + 1 ≤ 16 by decide), (show ¬ (0 : Int32) < (0 : Int32) + (1 : Int32) - (16 : Int32) by decide), by decide⟩ ne167.1.symm ne167.2.symm ne64 ne169.1.symm ne169.2.symm nw16 nw65 O163 SV) hZ137 (tw hw 48 rfl) (tw hw 28 rfl) (by decide) (by decide)) qa188 qc190 (g := (mkF m 13 #[rv px] [(.ref a126), (.ref a9)])) rfl (by rw [hml]; rfl) (Steps.refl _) (argsL := [(.ref a126)]) (rest := []) (lenOf pdSA rfl) rfl (leW rfl) (hb hby dNF0_13) (fun _ _ => ⟨rfl, e133, (leB rfl), (leB rfl)⟩)
  dsimp only [Pt.U, Pt.locs, Pt.cells, Pt.slots] at X171 l177 y178 z179 st180 hQ176
  subst y178 z179
  obtain ⟨rfl, N191, K192, F_0193, F_1194, F_2195, F_3196, F_4197⟩ := hQ176
  have N181 : Fr n0 L172 := by rw [l177]; exact Fr.app N93 N191
  have hr200 := CHr.keep K192 (sfS (Safe.exa hZ137.alike E157 (by decide) (by decide)) (sfS Sf152 sf0)) H149
  have Sf201 := Safe.keep K192 (sfS (Safe.exa hZ137.alike E157 (by decide) (by decide)) (sfS Sf152 sf0)) H149 Sf152
  have H198 := hr200.1
  have CH199 := CH150.trans hr200
  have S202 := S153.keep K192 (ninS ne11 (ninS ne59 nin0)) (ninS ne12 (ninS ne60 nin0))
  have E203 := E154.keep K192
  have F204 := F155.keep K192 (ninS ne13 (ninS ne61 nin0))
  have S205 := S156.keep K192 (ninS ne14 (ninS ne62 nin0)) (ninS ne15 (ninS ne63 nin0))
  have E206 := E157.keep K192
  have S207 := F166.keep K192 (ninS ne169.1.symm (ninS ne167.1.symm nin0)) (ninS ne169.2.symm (ninS ne167.2.symm nin0))
  have Z208 := Nat.le_trans Z162 K192.1
  have hk209 := Nat.le_trans hk136 K192.1
  have O210 := O163.keep K192 (allS nw16 (allS nw65 all0))
  have K211 := K164.trans K192 (allS (Or.inr hk17) (allS (Or.inr hk66) all0))
  have hz212 := Nat.le_trans hz165 K192.1
  have V213 : Arv Z T170.heap x_pv58 x_kv57 .byte (16 : Int32) [(.int 46)] (.int 0) := F_4197
  have F214 : Fld Z T170.heap a9 "java/lang/AbstractStringBuilder" "count" "I" (.int 1) := F_3196
  refine Way.to st180 ?_
  show Way _ _ _ _ (T170.setTop (mkF m 16 #[rv px] [(.ref a9)]))
  try clear N93 X132 e133 hk136 H149 CH150 Sf152 S153 E154 F155 S156 E157 F158 F159 F160 A161 Z162 O163 K164 hz165 F166 st180 cq186 kq187 qa188 qb189 qc190 N191 K192 hr200 E206
  try clear h128
  obtain ⟨T215, X216, e217, st218⟩ := getS X171 hx hZ137 hown138 (host := "") (tw hw 93 rfl) Via.refl rfl (Sta.ext O210.2 SDG) (g := (mkF m 16 #[rv px] [(.ref a9)])) rfl (hb hby dNF0_16)
  refine Way.by st218 ?_
  show Way _ _ _ _ (T215.setTop (mkF m 19 #[rv px] [(.ref ud), (.ref a9)]))
  obtain ⟨cq235, kq236, qa237, qb238, qc239⟩ := isOf hZ137 e217 E203
  obtain ⟨_, _, ⟨T219, L221, k222, n223⟩, -, X220, ⟨Lc224, hQ225, l226, y227, z228⟩, st229⟩ := X216.virtualBack hx (y := (⟨"com/example/longhold/longhold/store/DigestAlgorithm", "label", "()Ljava/lang/String;"⟩ : MethodName)) (z := (⟨"com/example/longhold/longhold/store/DigestAlgorithm", "label", "()Ljava/lang/String;"⟩ : MethodName)) hown138 (mvT hZ137 (tw hw 97 rfl)) (mvT hZ137 (tw hw 98 rfl)) (notFace_of_selects (args := #[]) (mvT hZ137 (tw hw 100 rfl))) (mvT hZ137 (tw hw 100 rfl)) (mvT hZ137 (tw hw 99 rfl)) (by decide) (backOf (W := 1) (rmLB l Z a0 hw [] ud ul T170.heap n0 Z208 F204) hZ137 (tw hw 101 rfl) (tw hw 95 rfl) (by decide) (by decide)) qa237 qc239 (g := (mkF m 19 #[rv px] [(.ref ud), (.ref a9)])) rfl (by rw [hml]; rfl) (Steps.refl _) (argsL := []) (rest := [(.ref a9)]) (lenOf pdLB rfl) rfl (leW rfl) (hb hby dNF0_19) (fun _ _ => ⟨rfl, e217, (leB rfl), (leB rfl)⟩)
  dsimp only [Pt.U, Pt.locs, Pt.cells, Pt.slots] at X220 l226 y227 z228 st229 hQ225
  subst y227 z228
  obtain ⟨rfl, N240, e231⟩ := hQ225
  have N230 : Fr n0 L221 := by rw [l226]; exact Fr.app N181 N240
  refine Way.to st229 ?_
  show Way _ _ _ _ (T219.setTop (mkF m 22 #[rv px] [(.ref ul), (.ref a9)]))
  try clear N181 X216 e217 st229 cq235 kq236 qa237 qb238 qc239 N240
  try clear T215
  obtain ⟨cq258, kq259, qa260, qb261, qc262⟩ := isOf hZ137 e231 F_0193
  obtain ⟨_, _, ⟨T242, L244, k245, n246⟩, -, X243, ⟨Lc247, hQ248, l249, y250, z251⟩, st252⟩ := X220.virtualBack hx (y := (⟨"java/lang/StringBuilder", "append", "(Ljava/lang/String;)Ljava/lang/StringBuilder;"⟩ : MethodName)) (z := (⟨"java/lang/StringBuilder", "append", "(Ljava/lang/String;)Ljava/lang/StringBuilder;"⟩ : MethodName)) hown138 (mvT hZ137 (tw hw 44 rfl)) (mvT hZ137 (tw hw 45 rfl)) (notFace_of_selects (args := #[]) (mvT hZ137 (tw hw 47 rfl))) (mvT hZ137 (tw hw 47 rfl)) (mvT hZ137 (tw hw 46 rfl)) (by decide) (backOf (W := 0) (rmSA l Z a0 hw [] a9 x_pv58 x_kv57 ul ult (1 : Int32) [(.int 46)] [115, 104, 97, 53, 49, 50] T170.heap n0 Z208 F_0193 F_1194 F_2195 F214 V213 S205 ⟨by decide, (show ¬ (6 : Int32) < 0 by decide), rfl, rfl, (show 1 + 6 ≤ 16 by decide), (show ¬ (0 : Int32) < (1 : Int32) + (6 : Int32) - (16 : Int32) by decide), by decide⟩ ne62 ne63 ne64 ne14 ne15 nw16 nw65 O210 SV) hZ137 (tw hw 48 rfl) (tw hw 28 rfl) (by decide) (by decide)) qa260 qc262 (g := (mkF m 22 #[rv px] [(.ref ul), (.ref a9)])) rfl (by rw [hml]; rfl) (Steps.refl _) (argsL := [(.ref ul)]) (rest := []) (lenOf pdSA rfl) rfl (leW rfl) (hb hby dNF0_22) (fun _ _ => ⟨rfl, e231, (leB rfl), (leB rfl)⟩)
  dsimp only [Pt.U, Pt.locs, Pt.cells, Pt.slots] at X243 l249 y250 z251 st252 hQ248
  subst y250 z251
  obtain ⟨rfl, N263, K264, F_0265, F_1266, F_2267, F_3268, F_4269⟩ := hQ248
  have N253 : Fr n0 L244 := by rw [l249]; exact Fr.app N230 N263
  have hr272 := CHr.keep K264 (sfS (Safe.exa hZ137.alike F_0193 (by decide) (by decide)) (sfS Sf201 sf0)) H198
  have Sf273 := Safe.keep K264 (sfS (Safe.exa hZ137.alike F_0193 (by decide) (by decide)) (sfS Sf201 sf0)) H198 Sf201
  have H270 := hr272.1
  have CH271 := CH199.trans hr272
  have S274 := S202.keep K264 (ninS ne11 (ninS ne59 nin0)) (ninS ne12 (ninS ne60 nin0))
  have E275 := E203.keep K264
  have F276 := F204.keep K264 (ninS ne13 (ninS ne61 nin0))
  have S277 := S205.keep K264 (ninS ne14 (ninS ne62 nin0)) (ninS ne15 (ninS ne63 nin0))
  have E278 := F_0193.keep K264
  have S279 := S207.keep K264 (ninS ne169.1.symm (ninS ne167.1.symm nin0)) (ninS ne169.2.symm (ninS ne167.2.symm nin0))
  have Z280 := Nat.le_trans Z208 K264.1
  have hk281 := Nat.le_trans hk209 K264.1
  have O282 := O210.keep K264 (allS nw16 (allS nw65 all0))
  have K283 := K211.trans K264 (allS (Or.inr hk17) (allS (Or.inr hk66) all0))
  have hz284 := Nat.le_trans hz212 K264.1
  have V285 : Arv Z T242.heap x_pv58 x_kv57 .byte (16 : Int32) [(.int 46), (.int 115), (.int 104), (.int 97), (.int 53), (.int 49), (.int 50)] (.int 0) := F_4269
  have F286 : Fld Z T242.heap a9 "java/lang/AbstractStringBuilder" "count" "I" (.int 7) := F_3268
  refine Way.to st252 ?_
  show Way _ _ _ _ (T242.setTop (mkF m 25 #[rv px] [(.ref a9)]))
  try clear F_0193 F_1194 F_2195 H198 CH199 Sf201 S202 E203 F204 S205 S207 Z208 hk209 O210 K211 hz212 V213 F214 X220 N230 e231 st252 cq258 kq259 qa260 qb261 qc262 N263 K264 hr272 E278
  try clear T170 T219
  obtain ⟨cq303, kq304, qa305, qb306, qc307⟩ := isOf hZ137 rfl F_0265
  obtain ⟨_, _, ⟨T287, L289, k290, n291⟩, -, X288, ⟨Lc292, hQ293, l294, y295, z296⟩, st297⟩ := X243.virtualBack hx (y := (⟨"java/lang/StringBuilder", "toString", "()Ljava/lang/String;"⟩ : MethodName)) (z := (⟨"java/lang/StringBuilder", "toString", "()Ljava/lang/String;"⟩ : MethodName)) hown138 (mvT hZ137 (tw hw 104 rfl)) (mvT hZ137 (tw hw 105 rfl)) (notFace_of_selects (args := #[]) (mvT hZ137 (tw hw 107 rfl))) (mvT hZ137 (tw hw 107 rfl)) (mvT hZ137 (tw hw 106 rfl)) (by decide) (backOf (W := 0) (rmTS0 l Z a0 hw [] a9 x_pv58 x_kv57 T242.heap n0 Z280 F_0265 F_1266 F_2267 F286 V285 hbd O282 SV) hZ137 (tw hw 108 rfl) (tw hw 28 rfl) (by decide) (by decide)) qa305 qc307 (g := (mkF m 25 #[rv px] [(.ref a9)])) rfl (by rw [hml]; rfl) (Steps.refl _) (argsL := []) (rest := []) (lenOf pdLB rfl) rfl (leW rfl) (hb hby dNF0_25) (fun _ _ => ⟨rfl, rfl, (leB rfl), (leB rfl)⟩)
  dsimp only [Pt.U, Pt.locs, Pt.cells, Pt.slots] at X288 l294 y295 z296 st297 hQ293
  subst y295 z296
  obtain ⟨x_bx314, x_bt313, rfl, N308, K309, fr_bx312, fr_bt311, F_0310⟩ := hQ293
  have N298 : Fr n0 L289 := by rw [l294]; exact Fr.app N253 N308
  have ne315 : px ≠ x_bx314 := Nat.ne_of_lt (Nat.lt_of_lt_of_le S274.lt1 fr_bx312)
  have ne316 : pt ≠ x_bx314 := Nat.ne_of_lt (Nat.lt_of_lt_of_le S274.lt2 fr_bx312)
  have ne317 : ud ≠ x_bx314 := Nat.ne_of_lt (Nat.lt_of_lt_of_le E275.lt fr_bx312)
  have ne318 : ul ≠ x_bx314 := Nat.ne_of_lt (Nat.lt_of_lt_of_le S277.lt1 fr_bx312)
  have ne319 : ult ≠ x_bx314 := Nat.ne_of_lt (Nat.lt_of_lt_of_le S277.lt2 fr_bx312)
  have ne320 : a9 ≠ x_bx314 := Nat.ne_of_lt (Nat.lt_of_lt_of_le F_0265.lt fr_bx312)
  have ne321 : a126 ≠ x_bx314 := Nat.ne_of_lt (Nat.lt_of_lt_of_le S279.lt1 fr_bx312)
  have ne322 : bd130 ≠ x_bx314 := Nat.ne_of_lt (Nat.lt_of_lt_of_le S279.lt2 fr_bx312)
  have ne323 : x_pv58 ≠ x_bx314 := Nat.ne_of_lt (Nat.lt_of_lt_of_le V285.lt fr_bx312)
  have nw324 : n0 ≤ x_bx314 := Nat.le_trans Z280 fr_bx312
  have hk325 : h0.size ≤ x_bx314 := Nat.le_trans hz284 fr_bx312
  have Sf326 : Safe Z own_EL T127.vm T242.heap x_bx314 := Safe.new fr_bx312
  have ne327 : px ≠ x_bt313 := Nat.ne_of_lt (Nat.lt_of_lt_of_le S274.lt1 fr_bt311)
  have ne328 : pt ≠ x_bt313 := Nat.ne_of_lt (Nat.lt_of_lt_of_le S274.lt2 fr_bt311)
  have ne329 : ud ≠ x_bt313 := Nat.ne_of_lt (Nat.lt_of_lt_of_le E275.lt fr_bt311)
  have ne330 : ul ≠ x_bt313 := Nat.ne_of_lt (Nat.lt_of_lt_of_le S277.lt1 fr_bt311)
  have ne331 : ult ≠ x_bt313 := Nat.ne_of_lt (Nat.lt_of_lt_of_le S277.lt2 fr_bt311)
  have ne332 : a9 ≠ x_bt313 := Nat.ne_of_lt (Nat.lt_of_lt_of_le F_0265.lt fr_bt311)
  have ne333 : a126 ≠ x_bt313 := Nat.ne_of_lt (Nat.lt_of_lt_of_le S279.lt1 fr_bt311)
  have ne334 : bd130 ≠ x_bt313 := Nat.ne_of_lt (Nat.lt_of_lt_of_le S279.lt2 fr_bt311)
  have ne335 : x_pv58 ≠ x_bt313 := Nat.ne_of_lt (Nat.lt_of_lt_of_le V285.lt fr_bt311)
  have nw336 : n0 ≤ x_bt313 := Nat.le_trans Z280 fr_bt311
  have hk337 : h0.size ≤ x_bt313 := Nat.le_trans hz284 fr_bt311
  have Sf338 : Safe Z own_EL T127.vm T242.heap x_bt313 := Safe.new fr_bt311
  have hr341 := CHr.keep K309 sf0 H270
  have Sf342 := Safe.keep K309 sf0 H270 Sf273
  have Sf343 := Safe.keep K309 sf0 H270 Sf326
  have Sf344 := Safe.keep K309 sf0 H270 Sf338
  have H339 := hr341.1
  have CH340 := CH271.trans hr341
  have S345 := S274.keep K309 nin0 nin0
  have E346 := E275.keep K309
  have F347 := F276.keep K309 nin0
  have S348 := S277.keep K309 nin0 nin0
  have E349 := F_0265.keep K309
  have S350 := S279.keep K309 nin0 nin0
  have F351 := F_1266.keep K309 nin0
  have F352 := F_2267.keep K309 nin0
  have F353 := F286.keep K309 nin0
  have A354 := V285.keep K309 nin0
  have Z355 := Nat.le_trans Z280 K309.1
  have hk356 := Nat.le_trans hk281 K309.1
  have O357 := O282.keep K309 all0
  have K358 := K283.trans K309 all0
  have hz359 := Nat.le_trans hz284 K309.1
  refine Way.to st297 ?_
  show Way _ _ _ _ (T287.setTop (mkF m 28 #[rv px] [(.ref x_bx314)]))
  try clear X243 N253 F_0265 F_1266 F_2267 H270 CH271 Sf273 S274 E275 F276 S277 S279 Z280 hk281 O282 K283 hz284 V285 F286 st297 cq303 kq304 qa305 qb306 qc307 N308 K309 hr341
  try clear T242
  refine Way.retH (v := (some (.ref x_bx314))) X288 hS135 (by exact hk356) hZ137 hEL hh rfl H339 CH340 hlk (fun h => by rw [Bd.returns] at h; cases h) (fun fs hr => retOut X288 hx Bd.returns rfl (Or.inr (Or.inr (Or.inr (Or.inr ⟨rfl, rfl, rfl⟩)))) (hb hby dNF0_28) hr) ?_ (by decide) (by decide)
  show QNF0 Z px pt ud ul ult h0 n0 _ T287.heap _
  skip
  exact ⟨x_bx314, x_bt313, rfl, N298, K358, F_0310⟩
def QCL1 (Z : State)  (h0 : Heap) (n0 : Nat) (v : Option Value) (h : Heap) (L : List Loc) : Prop := v = none ∧ Fr n0 L ∧ h = h0
set_option maxRecDepth 65536 in
set_option maxHeartbeats 40000000 in
theorem rmCL1 (l : Launch) (Z : State) (a0 : Array Value) (hw : ∀ d ∈ tables_1, d.before a0 Z = true) (ws : List Jvm.Cond)  (h0 : Heap) (n0 : Nat) (Z0 : n0 ≤ h0.size)  :
    MetFree l (⟨"java/util/Arrays", "checkLength", "(II)V"⟩ : MethodName) (head1 (Jvm.Cond.code (⟨"java/util/Arrays", "checkLength", "(II)V"⟩ : MethodName) jdk_65_method_131_code 2 none :: ws) ({ frames := 0, cells := 0, slots := 0, locals := 0 } : Room)) (fun aa U => aa = #[(.int 0), (.int 8)] ∧ Z.Warmed39 U.vm ∧ U.heap = h0) (fun _ _ _ _ _ => True) (fun _ U oo U' => ∃ v L, oo = .returned v ∧ QCL1 Z  h0 n0 v U'.heap L ∧ FrameEnd U oo U' L ({ frames := 0, cells := 0, slots := 0, locals := 0 } : Room).cells ({ frames := 0, cells := 0, slots := 0, locals := 0 } : Room).slots) := by
  refine MetFree.of_bodySF (plainFor_of_name pnCL0) hisR ?_
  intro p e s m args below meth c s₁ Bd hml0 hP hK
  obtain ⟨rfl, hZ, hh⟩ := hP
  have hx := Bd.exec
  have hby := Bd.bytes
  have hlk : meth.locks = false := BodyLoose.notSynchronized Bd
  have hml : c.maxLocals = 2 := hml0
  have hown : s.vm.findClass "java/util/Arrays" = some m.cls := findClass_of_methodNamed Bd.named
  have hnm := (name_of_methodNamed Bd.named Bd.method).1
  have X0 : Stand p l e ({ frames := 0, cells := 0, slots := 0, locals := 0 } : Room) s m #[(.int 0), (.int 8)] below meth c s₁ [] 0 0 := Stand.of_body Bd
  have e0 : s₁.heap = h0 := by rw [← hh, Bd.state]; rfl
  have N0 := Fr.nil n0
  have ef : entryFrame m #[(.int 0), (.int 8)] 2 = mkF m 0 #[iv 0, iv 8] [] := by first | (simp [entryFrame, mkF, argsToLocals, Value.category, maxLocals]; done) | rfl
  show Way p.tables e below (KQ s (QCL1 Z  h0 n0) ({ frames := 0, cells := 0, slots := 0, locals := 0 } : Room).cells ({ frames := 0, cells := 0, slots := 0, locals := 0 } : Room).slots) (s₁.setTop (entryFrame m #[(.int 0), (.int 8)] 2))
  rw [ef]
  refine Way.by (fun _ k => XS.iloadN X0.here hx rfl (hb hby dCL0_0) rfl k) ?_
  refine Way.by (fun _ k => XS.iloadN X0.here hx rfl (hb hby dCL0_1) rfl k) ?_
  show Way _ _ _ _ (s₁.setTop (mkF m 2 #[iv 0, iv 8] [(.int 0), (.int 8)]))
  have b1 : ¬ (8 : Int32) < (0 : Int32) := by decide
  refine Way.by (fun _ k => XS.icmpYes X0.here hx rfl (pc0 := 2) (pc' := 37) rfl (hb hby dCL0_2) rfl (flt b1).2.1 (by decide) (by decide) k) ?_
  show Way _ _ _ _ (s₁.setTop (mkF m 37 #[iv 0, iv 8] []))
  refine Way.ret (v := none) X0 hlk (fun _ => rfl) (fun fs hr => X0.returnOut hx Bd.returns (hb hby dCL0_37) hr) ?_ (by decide) (by decide)
  show QCL1 Z  h0 n0 _ s₁.heap _
  rw [e0]
  exact ⟨rfl, N0, rfl⟩
def QCB1 (Z : State) (pv : Addr) (kv : ClassId) (u0 : Int32) (h0 : Heap) (n0 : Nat) (v : Option Value) (h : Heap) (L : List Loc) : Prop := ∃ (bt : Addr) (kt : ClassId), v = some (.ref bt) ∧ Fr n0 L ∧ Keep h0 h [] ∧ h0.size ≤ bt ∧ Arv Z h bt kt .byte (8 : Int32) [(.int (StrChars.lo8 u0)), (.int 46), (.int 115), (.int 104), (.int 97), (.int 53), (.int 49), (.int 50)] (.int 0)
set_option maxRecDepth 65536 in
set_option maxHeartbeats 40000000 in
theorem rmCB1 (l : Launch) (Z : State) (a0 : Array Value) (hw : ∀ d ∈ tables_1, d.before a0 Z = true) (ws : List Jvm.Cond) (pv : Addr) (kv : ClassId) (u0 : Int32) (h0 : Heap) (n0 : Nat) (Z0 : n0 ≤ h0.size) (H0 : Arv Z h0 pv kv .byte (16 : Int32) [(.int (StrChars.lo8 u0)), (.int 46), (.int 115), (.int 104), (.int 97), (.int 53), (.int 49), (.int 50)] (.int 0)) :
    MetFree l (⟨"java/util/Arrays", "copyOfRangeByte", "([BII)[B"⟩ : MethodName) (head1 (Jvm.Cond.code (⟨"java/util/Arrays", "copyOfRangeByte", "([BII)[B"⟩ : MethodName) jdk_65_method_133_code 5 (some (.array .byte)) :: ws) ({ frames := 1, cells := 1, slots := 8, locals := 44 } : Room)) (fun aa U => aa = #[(.ref pv), (.int 0), (.int 8)] ∧ Z.Warmed39 U.vm ∧ U.heap = h0) (fun _ _ _ _ _ => True) (fun _ U oo U' => ∃ v L, oo = .returned v ∧ QCB1 Z pv kv u0 h0 n0 v U'.heap L ∧ FrameEnd U oo U' L ({ frames := 1, cells := 1, slots := 8, locals := 44 } : Room).cells ({ frames := 1, cells := 1, slots := 8, locals := 44 } : Room).slots) := by
  refine MetFree.of_bodySF (plainFor_of_name pnCL0) hisR ?_
  intro p e s m args below meth c s₁ Bd hml0 hP hK
  obtain ⟨rfl, hZ, hh⟩ := hP
  have hx := Bd.exec
  have hby := Bd.bytes
  have hlk : meth.locks = false := BodyLoose.notSynchronized Bd
  have hml : c.maxLocals = 5 := hml0
  have hown : s.vm.findClass "java/util/Arrays" = some m.cls := findClass_of_methodNamed Bd.named
  have hnm := (name_of_methodNamed Bd.named Bd.method).1
  have X0 : Stand p l e ({ frames := 1, cells := 1, slots := 8, locals := 44 } : Room) s m #[(.ref pv), (.int 0), (.int 8)] below meth c s₁ [] 0 0 := Stand.of_body Bd
  have e0 : s₁.heap = h0 := by rw [← hh, Bd.state]; rfl
  have N0 := Fr.nil n0
  have ef : entryFrame m #[(.ref pv), (.int 0), (.int 8)] 5 = mkF m 0 #[rv pv, iv 0, iv 8, .unset, .unset] [] := by first | (simp [entryFrame, mkF, argsToLocals, Value.category, maxLocals]; done) | rfl
  show Way p.tables e below (KQ s (QCB1 Z pv kv u0 h0 n0) ({ frames := 1, cells := 1, slots := 8, locals := 44 } : Room).cells ({ frames := 1, cells := 1, slots := 8, locals := 44 } : Room).slots) (s₁.setTop (entryFrame m #[(.ref pv), (.int 0), (.int 8)] 5))
  rw [ef]
  refine Way.by (fun _ k => XS.iloadN X0.here hx rfl (hb hby dCB0_0) rfl k) ?_
  refine Way.by (fun _ k => XS.iloadN X0.here hx rfl (hb hby dCB0_1) rfl k) ?_
  show Way _ _ _ _ (s₁.setTop (mkF m 2 #[rv pv, iv 0, iv 8, .unset, .unset] [(.int 8), (.int 0)]))
  obtain ⟨_, _, ⟨T1, L3, k4, n5⟩, -, X2, ⟨Lc6, hQ7, l8, y9, z10⟩, st11⟩ := Jvm.LawKit.callS X0 hx (y := (⟨"java/util/Arrays", "checkLength", "(II)V"⟩ : MethodName)) hown (mvT hZ (tw hw 141 rfl)) (mvT hZ (tw hw 142 rfl)) (mvT hZ (tw hw 136 rfl)) (mvT hZ (tw hw 143 rfl)) (by decide) (backOf (W := 0) (rmCL1 l Z a0 hw []  h0 n0 Z0 ) hZ (tw hw 143 rfl) (tw hw 136 rfl) (by decide) (by decide)) (g := (mkF m 2 #[rv pv, iv 0, iv 8, .unset, .unset] [(.int 8), (.int 0)])) rfl (by rw [hml]; rfl) (argsL := [(.int 0), (.int 8)]) (rest := []) (lenOf pdCL0 rfl) rfl (leW rfl) (hb hby dCB0_2) (fun _ _ => ⟨rfl, e0, (leB rfl), (leB rfl)⟩)
  dsimp only [Pt.U, Pt.locs, Pt.cells, Pt.slots] at X2 l8 y9 z10 st11 hQ7
  subst y9 z10
  obtain ⟨rfl, N17, e13⟩ := hQ7
  have N12 : Fr n0 L3 := by rw [l8]; exact Fr.app N0 N17
  refine Way.by st11 ?_
  show Way _ _ _ _ (T1.setTop (mkF m 5 #[rv pv, iv 0, iv 8, .unset, .unset] []))
  refine Way.by (fun _ k => XS.iloadN X2.here hx rfl (hb hby dCB0_5) rfl k) ?_
  refine Way.by (fun _ k => XS.iloadN X2.here hx rfl (hb hby dCB0_6) rfl k) ?_
  show Way _ _ _ _ (T1.setTop (mkF m 7 #[rv pv, iv 0, iv 8, .unset, .unset] [(.int 0), (.int 8)]))
  refine Way.by (fun _ k => XS.isub X2.here hx rfl (hb hby dCB0_7) rfl k) ?_
  show Way _ _ _ _ (T1.setTop (mkF m 8 #[rv pv, iv 0, iv 8, .unset, .unset] [(.int 8)]))
  refine Way.by (fun _ k => XS.istoreN X2.here hx rfl (hb hby dCB0_8) rfl (l' := #[rv pv, iv 0, iv 8, iv 8, .unset]) rfl k) ?_
  show Way _ _ _ _ (T1.setTop (mkF m 9 #[rv pv, iv 0, iv 8, iv 8, .unset] []))
  refine Way.by (fun _ k => XS.iloadN X2.here hx rfl (hb hby dCB0_9) rfl k) ?_
  show Way _ _ _ _ (T1.setTop (mkF m 10 #[rv pv, iv 0, iv 8, iv 8, .unset] [(.int 8)]))
  obtain ⟨T19, h20, kc21, X22, e23, E24, A25, st26⟩ := newP X2 hx hZ (tw hw 15 rfl) e13 (g := (mkF m 10 #[rv pv, iv 0, iv 8, iv 8, .unset] [(.int 8)])) rfl (hb hby dCB0_10) rfl (by decide) (cap := 8) (by decide) (by decide) (by decide) (by decide)
  obtain ⟨a27, g28⟩ : ∃ z, z = h0.size := ⟨_, rfl⟩
  rw [← g28] at A25 st26
  have ne30 : pv ≠ a27 := Nat.ne_of_lt (Nat.lt_of_lt_of_eq H0.lt g28.symm)
  have nw31 : n0 ≤ a27 := Nat.le_trans Z0 (Nat.le_of_eq g28.symm)
  have hk32 : h0.size ≤ a27 := Nat.le_trans (Nat.le_refl h0.size) (Nat.le_of_eq g28.symm)
  have A33 := H0.ext E24
  have Z34 := Nat.le_trans Z0 E24.1
  have K35 := (Keep.refl h0 []).ext E24
  have hz36 := Nat.le_trans (Nat.le_refl h0.size) E24.1
  have V29 : Arv Z h20 a27 kc21 .byte (8 : Int32) [] (.int 0) := Arv.new A25 (by decide)
  refine Way.by st26 ?_
  show Way _ _ _ _ (T19.setTop (mkF m 12 #[rv pv, iv 0, iv 8, iv 8, .unset] [(.ref a27)]))
  refine Way.by (fun _ k => XS.astore X22.here hx rfl (hb hby dCB0_12) rfl rfl (l' := #[rv pv, iv 0, iv 8, iv 8, rv a27]) rfl k) ?_
  show Way _ _ _ _ (T19.setTop (mkF m 14 #[rv pv, iv 0, iv 8, iv 8, rv a27] []))
  refine Way.by (fun _ k => XS.aloadN X22.here hx rfl (hb hby dCB0_14) rfl rfl k) ?_
  refine Way.by (fun _ k => XS.iloadN X22.here hx rfl (hb hby dCB0_15) rfl k) ?_
  refine Way.by (fun _ k => XS.aload X22.here hx rfl (hb hby dCB0_16) rfl rfl k) ?_
  show Way _ _ _ _ (T19.setTop (mkF m 18 #[rv pv, iv 0, iv 8, iv 8, rv a27] [(.ref a27), (.int 0), (.ref pv)]))
  refine Way.by (fun _ k => XS.iconst X22.here hx rfl (hb hby dCB0_18) k) ?_
  refine Way.by (fun _ k => XS.aloadN X22.here hx rfl (hb hby dCB0_19) rfl rfl k) ?_
  show Way _ _ _ _ (T19.setTop (mkF m 20 #[rv pv, iv 0, iv 8, iv 8, rv a27] [(.ref pv), (.int 0), (.ref a27), (.int 0), (.ref pv)]))
  obtain ⟨c37, A38, q39, S40, M41, H42, U43⟩ := id A33
  refine Way.by (fun t k => Stand.arraylength X22 hx (hpE e23 A38.1) (arrS hZ A38) (g := (mkF m 20 #[rv pv, iv 0, iv 8, iv 8, rv a27] [(.ref pv), (.int 0), (.ref a27), (.int 0), (.ref pv)])) rfl rfl (hb hby dCB0_20) t k) ?_
  rw [len_of S40 M41]
  show Way _ _ _ _ (T19.setTop (mkF m 21 #[rv pv, iv 0, iv 8, iv 8, rv a27] [(.int 16), (.int 0), (.ref a27), (.int 0), (.ref pv)]))
  refine Way.by (fun _ k => XS.iloadN X22.here hx rfl (hb hby dCB0_21) rfl k) ?_
  show Way _ _ _ _ (T19.setTop (mkF m 22 #[rv pv, iv 0, iv 8, iv 8, rv a27] [(.int 0), (.int 16), (.int 0), (.ref a27), (.int 0), (.ref pv)]))
  refine Way.by (fun _ k => XS.isub X22.here hx rfl (hb hby dCB0_22) rfl k) ?_
  show Way _ _ _ _ (T19.setTop (mkF m 23 #[rv pv, iv 0, iv 8, iv 8, rv a27] [(.int 16), (.int 0), (.ref a27), (.int 0), (.ref pv)]))
  refine Way.by (fun _ k => XS.iloadN X22.here hx rfl (hb hby dCB0_23) rfl k) ?_
  show Way _ _ _ _ (T19.setTop (mkF m 24 #[rv pv, iv 0, iv 8, iv 8, rv a27] [(.int 8), (.int 16), (.int 0), (.ref a27), (.int 0), (.ref pv)]))
  obtain ⟨_, _, ⟨T44, L46, k47, n48⟩, -, X45, ⟨Lc49, hQ50, l51, y52, z53⟩, st54⟩ := Jvm.LawKit.callS X22 hx (y := (⟨"java/lang/Math", "min", "(II)I"⟩ : MethodName)) hown (mvT hZ (tw hw 144 rfl)) (mvT hZ (tw hw 145 rfl)) (mvT hZ (tw hw 146 rfl)) (mvT hZ (tw hw 147 rfl)) (by decide) (backOf (W := 4) (rmMN l Z a0 hw [] (16 : Int32) (8 : Int32) (8 : Int32) h20 n0 Z34 (by decide)) hZ (tw hw 147 rfl) (tw hw 146 rfl) (by decide) (by decide)) (g := (mkF m 24 #[rv pv, iv 0, iv 8, iv 8, rv a27] [(.int 8), (.int 16), (.int 0), (.ref a27), (.int 0), (.ref pv)])) rfl (by rw [hml]; rfl) (argsL := [(.int 16), (.int 8)]) (rest := [(.int 0), (.ref a27), (.int 0), (.ref pv)]) (lenOf pdMN rfl) rfl (leW rfl) (hb hby dCB0_24) (fun _ _ => ⟨rfl, e23, (leB rfl), (leB rfl)⟩)
  dsimp only [Pt.U, Pt.locs, Pt.cells, Pt.slots] at X45 l51 y52 z53 st54 hQ50
  subst y52 z53
  obtain ⟨rfl, N60, e56⟩ := hQ50
  have N55 : Fr n0 L46 := by rw [l51]; exact Fr.app N12 N60
  refine Way.by st54 ?_
  show Way _ _ _ _ (T44.setTop (mkF m 27 #[rv pv, iv 0, iv 8, iv 8, rv a27] [(.int 8), (.int 0), (.ref a27), (.int 0), (.ref pv)]))
  have V62 : Arv Z h20 a27 kc21 .byte (8 : Int32) (List.replicate 8 (Value.int (0 : Int32))) (.int 0) := V29.pad (pad_rep [] (.int 0) 8)
  obtain ⟨T63, h64, L65, X66, e67, N68, K69, V70, st71⟩ := cpA X45 hx hZ hown (tw hw 148 rfl) (tw hw 91 rfl) (tw hw 89 rfl) (tw hw 90 rfl) e56 A33 V62 (us := [(.int (StrChars.lo8 u0)), (.int 46), (.int 115), (.int 104), (.int 97), (.int 53), (.int 49), (.int 50)]) (Or.inl ⟨rfl, rfl⟩) (by decide) (by decide) (by decide) (by decide) (by decide) rfl (by decide) N55 nw31 (g := (mkF m 27 #[rv pv, iv 0, iv 8, iv 8, rv a27] [(.int 8), (.int 0), (.ref a27), (.int 0), (.ref pv)])) rfl (by rw [hml]; rfl) rfl (hb hby dCB0_27) (by decide) (W := 0) (leW rfl) (by decide)
  have V72 : Arv Z h64 a27 kc21 .byte (8 : Int32) [(.int (StrChars.lo8 u0)), (.int 46), (.int 115), (.int 104), (.int 97), (.int 53), (.int 49), (.int 50)] (.int 0) := V70
  have A73 := A33.keep K69 (ninS ne30 nin0)
  have Z74 := Nat.le_trans Z34 K69.1
  have K75 := K35.trans K69 (allS (Or.inr hk32) all0)
  have hz76 := Nat.le_trans hz36 K69.1
  refine Way.by st71 ?_
  show Way _ _ _ _ (T63.setTop (mkF m 30 #[rv pv, iv 0, iv 8, iv 8, rv a27] []))
  try clear V29 A33 Z34 K35 hz36 X45 N55 e56 V62 K69 V70 st71
  try clear h20 T44
  refine Way.by (fun _ k => XS.aload X66.here hx rfl (hb hby dCB0_30) rfl rfl k) ?_
  show Way _ _ _ _ (T63.setTop (mkF m 32 #[rv pv, iv 0, iv 8, iv 8, rv a27] [(.ref a27)]))
  refine Way.ret (v := (some (.ref a27))) X66 hlk (fun h => by rw [Bd.returns] at h; cases h) (fun fs hr => retOut X66 hx Bd.returns rfl (Or.inr (Or.inr (Or.inr (Or.inr ⟨rfl, rfl, rfl⟩)))) (hb hby dCB0_32) hr) ?_ (by decide) (by decide)
  show QCB1 Z pv kv u0 h0 n0 _ T63.heap _
  rw [e67]
  exact ⟨a27, kc21, rfl, N68, K75, hk32, V72⟩
def QCR1 (Z : State) (pv : Addr) (kv : ClassId) (u0 : Int32) (h0 : Heap) (n0 : Nat) (v : Option Value) (h : Heap) (L : List Loc) : Prop := ∃ (bt : Addr) (kt : ClassId), v = some (.ref bt) ∧ Fr n0 L ∧ Keep h0 h [] ∧ h0.size ≤ bt ∧ Arv Z h bt kt .byte (8 : Int32) [(.int (StrChars.lo8 u0)), (.int 46), (.int 115), (.int 104), (.int 97), (.int 53), (.int 49), (.int 50)] (.int 0)
set_option maxRecDepth 65536 in
set_option maxHeartbeats 40000000 in
theorem rmCR1 (l : Launch) (Z : State) (a0 : Array Value) (hw : ∀ d ∈ tables_1, d.before a0 Z = true) (ws : List Jvm.Cond) (pv : Addr) (kv : ClassId) (u0 : Int32) (h0 : Heap) (n0 : Nat) (Z0 : n0 ≤ h0.size) (H0 : Arv Z h0 pv kv .byte (16 : Int32) [(.int (StrChars.lo8 u0)), (.int 46), (.int 115), (.int 104), (.int 97), (.int 53), (.int 49), (.int 50)] (.int 0)) :
    MetFree l (⟨"java/util/Arrays", "copyOfRange", "([BII)[B"⟩ : MethodName) (head1 (Jvm.Cond.code (⟨"java/util/Arrays", "copyOfRange", "([BII)[B"⟩ : MethodName) jdk_65_method_132_code 3 (some (.array .byte)) :: ws) ({ frames := 2, cells := 1, slots := 8, locals := 60 } : Room)) (fun aa U => aa = #[(.ref pv), (.int 0), (.int 8)] ∧ Z.Warmed39 U.vm ∧ U.heap = h0) (fun _ _ _ _ _ => True) (fun _ U oo U' => ∃ v L, oo = .returned v ∧ QCR1 Z pv kv u0 h0 n0 v U'.heap L ∧ FrameEnd U oo U' L ({ frames := 2, cells := 1, slots := 8, locals := 60 } : Room).cells ({ frames := 2, cells := 1, slots := 8, locals := 60 } : Room).slots) := by
  refine MetFree.of_bodySF (plainFor_of_name pnCL0) hisR ?_
  intro p e s m args below meth c s₁ Bd hml0 hP hK
  obtain ⟨rfl, hZ, hh⟩ := hP
  have hx := Bd.exec
  have hby := Bd.bytes
  have hlk : meth.locks = false := BodyLoose.notSynchronized Bd
  have hml : c.maxLocals = 3 := hml0
  have hown : s.vm.findClass "java/util/Arrays" = some m.cls := findClass_of_methodNamed Bd.named
  have hnm := (name_of_methodNamed Bd.named Bd.method).1
  have X0 : Stand p l e ({ frames := 2, cells := 1, slots := 8, locals := 60 } : Room) s m #[(.ref pv), (.int 0), (.int 8)] below meth c s₁ [] 0 0 := Stand.of_body Bd
  have e0 : s₁.heap = h0 := by rw [← hh, Bd.state]; rfl
  have N0 := Fr.nil n0
  have ef : entryFrame m #[(.ref pv), (.int 0), (.int 8)] 3 = mkF m 0 #[rv pv, iv 0, iv 8] [] := by first | (simp [entryFrame, mkF, argsToLocals, Value.category, maxLocals]; done) | rfl
  show Way p.tables e below (KQ s (QCR1 Z pv kv u0 h0 n0) ({ frames := 2, cells := 1, slots := 8, locals := 60 } : Room).cells ({ frames := 2, cells := 1, slots := 8, locals := 60 } : Room).slots) (s₁.setTop (entryFrame m #[(.ref pv), (.int 0), (.int 8)] 3))
  rw [ef]
  refine Way.by (fun _ k => XS.iloadN X0.here hx rfl (hb hby dCR0_0) rfl k) ?_
  show Way _ _ _ _ (s₁.setTop (mkF m 1 #[rv pv, iv 0, iv 8] [(.int 0)]))
  have b1 : (0 : Int32) = (0 : Int32) := by decide
  refine Way.by (fun _ k => XS.ifNo X0.here hx rfl (hb hby dCR0_1) rfl ((if0 .ne _).trans (teq b1).2) k) ?_
  show Way _ _ _ _ (s₁.setTop (mkF m 4 #[rv pv, iv 0, iv 8] []))
  refine Way.by (fun _ k => XS.iloadN X0.here hx rfl (hb hby dCR0_4) rfl k) ?_
  refine Way.by (fun _ k => XS.aloadN X0.here hx rfl (hb hby dCR0_5) rfl rfl k) ?_
  show Way _ _ _ _ (s₁.setTop (mkF m 6 #[rv pv, iv 0, iv 8] [(.ref pv), (.int 8)]))
  obtain ⟨c2, A3, q4, S5, M6, H7, U8⟩ := id H0
  refine Way.by (fun t k => Stand.arraylength X0 hx (hpE e0 A3.1) (arrS hZ A3) (g := (mkF m 6 #[rv pv, iv 0, iv 8] [(.ref pv), (.int 8)])) rfl rfl (hb hby dCR0_6) t k) ?_
  rw [len_of S5 M6]
  show Way _ _ _ _ (s₁.setTop (mkF m 7 #[rv pv, iv 0, iv 8] [(.int 16), (.int 8)]))
  have b9 : ¬ (8 : Int32) = (16 : Int32) := by decide
  refine Way.by (fun _ k => XS.icmpNo X0.here hx rfl (hb hby dCR0_7) rfl (feq b9).1 k) ?_
  show Way _ _ _ _ (s₁.setTop (mkF m 10 #[rv pv, iv 0, iv 8] []))
  refine Way.by (fun _ k => XS.aloadN X0.here hx rfl (hb hby dCR0_10) rfl rfl k) ?_
  refine Way.by (fun _ k => XS.iloadN X0.here hx rfl (hb hby dCR0_11) rfl k) ?_
  refine Way.by (fun _ k => XS.iloadN X0.here hx rfl (hb hby dCR0_12) rfl k) ?_
  show Way _ _ _ _ (s₁.setTop (mkF m 13 #[rv pv, iv 0, iv 8] [(.int 8), (.int 0), (.ref pv)]))
  obtain ⟨_, _, ⟨T10, L12, k13, n14⟩, -, X11, ⟨Lc15, hQ16, l17, y18, z19⟩, st20⟩ := Jvm.LawKit.callS X0 hx (y := (⟨"java/util/Arrays", "copyOfRangeByte", "([BII)[B"⟩ : MethodName)) hown (mvT hZ (tw hw 138 rfl)) (mvT hZ (tw hw 139 rfl)) (mvT hZ (tw hw 136 rfl)) (mvT hZ (tw hw 140 rfl)) (by decide) (backOf (W := 0) (rmCB1 l Z a0 hw [] pv kv u0 h0 n0 Z0 H0) hZ (tw hw 140 rfl) (tw hw 136 rfl) (by decide) (by decide)) (g := (mkF m 13 #[rv pv, iv 0, iv 8] [(.int 8), (.int 0), (.ref pv)])) rfl (by rw [hml]; rfl) (argsL := [(.ref pv), (.int 0), (.int 8)]) (rest := []) (lenOf pdCB0 rfl) rfl (leW rfl) (hb hby dCR0_13) (fun _ _ => ⟨rfl, e0, (leB rfl), (leB rfl)⟩)
  dsimp only [Pt.U, Pt.locs, Pt.cells, Pt.slots] at X11 l17 y18 z19 st20 hQ16
  subst y18 z19
  obtain ⟨x_bt30, x_kt31, rfl, N26, K27, fr_bt29, F_028⟩ := hQ16
  have N21 : Fr n0 L12 := by rw [l17]; exact Fr.app N0 N26
  have ne32 : pv ≠ x_bt30 := Nat.ne_of_lt (Nat.lt_of_lt_of_le H0.lt fr_bt29)
  have nw33 : n0 ≤ x_bt30 := Nat.le_trans Z0 fr_bt29
  have hk34 : h0.size ≤ x_bt30 := Nat.le_trans (Nat.le_refl h0.size) fr_bt29
  have A35 := H0.keep K27 nin0
  have Z36 := Nat.le_trans Z0 K27.1
  have K37 := (Keep.refl h0 []).trans K27 all0
  have hz38 := Nat.le_trans (Nat.le_refl h0.size) K27.1
  refine Way.by st20 ?_
  show Way _ _ _ _ (T10.setTop (mkF m 16 #[rv pv, iv 0, iv 8] [(.ref x_bt30)]))
  refine Way.ret (v := (some (.ref x_bt30))) X11 hlk (fun h => by rw [Bd.returns] at h; cases h) (fun fs hr => retOut X11 hx Bd.returns rfl (Or.inr (Or.inr (Or.inr (Or.inr ⟨rfl, rfl, rfl⟩)))) (hb hby dCR0_16) hr) ?_ (by decide) (by decide)
  show QCR1 Z pv kv u0 h0 n0 _ T10.heap _
  skip
  exact ⟨x_bt30, x_kt31, rfl, N21, K37, hk34, F_028⟩
def QS21 (Z : State) (px : Addr) (pa : Addr) (pv : Addr) (kv : ClassId) (u0 : Int32) (h0 : Heap) (n0 : Nat) (v : Option Value) (h : Heap) (L : List Loc) : Prop := ∃ (bt : Addr), v = none ∧ Fr n0 L ∧ Keep h0 h [px] ∧ h0.size ≤ bt ∧ own_Str Z h px bt [u0, 46, 115, 104, 97, 53, 49, 50]
set_option maxRecDepth 65536 in
set_option maxHeartbeats 40000000 in
theorem rmS21 (l : Launch) (Z : State) (a0 : Array Value) (hw : ∀ d ∈ tables_1, d.before a0 Z = true) (ws : List Jvm.Cond) (px : Addr) (pa : Addr) (pv : Addr) (kv : ClassId) (u0 : Int32) (h0 : Heap) (n0 : Nat) (Z0 : n0 ≤ h0.size) (H0 : Exa Z h0 pa "java/lang/StringBuilder") (H1 : Fld Z h0 pa "java/lang/AbstractStringBuilder" "value" "[B" (.ref pv)) (H2 : Fld Z h0 pa "java/lang/AbstractStringBuilder" "coder" "B" (.int 0)) (H3 : Fld Z h0 pa "java/lang/AbstractStringBuilder" "count" "I" (.int 8)) (H4 : Arv Z h0 pv kv .byte (16 : Int32) [(.int (StrChars.lo8 u0)), (.int 46), (.int 115), (.int 104), (.int 97), (.int 53), (.int 49), (.int 50)] (.int 0)) (H5 : Exa Z h0 px "java/lang/String") (H6 : Fld Z h0 px "java/lang/String" "value" "[B" .null) (H7 : Fld Z h0 px "java/lang/String" "coder" "B" (.int 0)) (hbd : ∀ c ∈ ([u0, 46, 115, 104, 97, 53, 49, 50] : List Int32), ¬ c < 0 ∧ ¬ (255 : Int32) < c) (ne_pa_px : pa ≠ px) (ne_pv_px : pv ≠ px) (nw_px : n0 ≤ px) (O0 : Old Z n0 h0) (SV : own_Env Z) :
    MetFree l (⟨"java/lang/String", "<init>", "(Ljava/lang/AbstractStringBuilder;Ljava/lang/Void;)V"⟩ : MethodName) (head1 (Jvm.Cond.code (⟨"java/lang/String", "<init>", "(Ljava/lang/AbstractStringBuilder;Ljava/lang/Void;)V"⟩ : MethodName) jdk_42_method_150_code 5 none :: ws) ({ frames := 3, cells := 1, slots := 8, locals := 75 } : Room)) (fun aa U => aa = #[(.ref px), (.ref pa), .null] ∧ Z.Warmed39 U.vm ∧ U.heap = h0) (fun _ _ _ _ _ => True) (fun _ U oo U' => ∃ v L, oo = .returned v ∧ QS21 Z px pa pv kv u0 h0 n0 v U'.heap L ∧ FrameEnd U oo U' L ({ frames := 3, cells := 1, slots := 8, locals := 75 } : Room).cells ({ frames := 3, cells := 1, slots := 8, locals := 75 } : Room).slots) := by
  refine MetFree.of_bodySF (plainFor_of_name pnCD) hisR ?_
  intro p e s m args below meth c s₁ Bd hml0 hP hK
  obtain ⟨rfl, hZ, hh⟩ := hP
  have hx := Bd.exec
  have hby := Bd.bytes
  have hlk : meth.locks = false := BodyLoose.notSynchronized Bd
  have hml : c.maxLocals = 5 := hml0
  have hown : s.vm.findClass "java/lang/String" = some m.cls := findClass_of_methodNamed Bd.named
  have hnm := (name_of_methodNamed Bd.named Bd.method).1
  have X0 : Stand p l e ({ frames := 3, cells := 1, slots := 8, locals := 75 } : Room) s m #[(.ref px), (.ref pa), .null] below meth c s₁ [] 0 0 := Stand.of_body Bd
  have e0 : s₁.heap = h0 := by rw [← hh, Bd.state]; rfl
  have N0 := Fr.nil n0
  have ef : entryFrame m #[(.ref px), (.ref pa), .null] 5 = mkF m 0 #[rv px, rv pa, .val .null, .unset, .unset] [] := by first | (simp [entryFrame, mkF, argsToLocals, Value.category, maxLocals]; done) | rfl
  show Way p.tables e below (KQ s (QS21 Z px pa pv kv u0 h0 n0) ({ frames := 3, cells := 1, slots := 8, locals := 75 } : Room).cells ({ frames := 3, cells := 1, slots := 8, locals := 75 } : Room).slots) (s₁.setTop (entryFrame m #[(.ref px), (.ref pa), .null] 5))
  rw [ef]
  refine Way.by (fun _ k => XS.aloadN X0.here hx rfl (hb hby dS20_0) rfl rfl k) ?_
  show Way _ _ _ _ (s₁.setTop (mkF m 1 #[rv px, rv pa, .val .null, .unset, .unset] [(.ref px)]))
  obtain ⟨T1, X2, e3, st4⟩ := initO X0 hx hZ hown (tw hw 11 rfl) (tw hw 12 rfl) (tw hw 13 rfl) e0 (g := (mkF m 1 #[rv px, rv pa, .val .null, .unset, .unset] [(.ref px)])) rfl (by rw [hml]; rfl) rfl (hb hby dS20_1) (by decide) (W := 0) (leW rfl) (by decide)
  refine Way.by st4 ?_
  show Way _ _ _ _ (T1.setTop (mkF m 4 #[rv px, rv pa, .val .null, .unset, .unset] []))
  refine Way.by (fun _ k => XS.aloadN X2.here hx rfl (hb hby dS20_4) rfl rfl k) ?_
  show Way _ _ _ _ (T1.setTop (mkF m 5 #[rv px, rv pa, .val .null, .unset, .unset] [(.ref pa)]))
  obtain ⟨cq21, kq22, qa23, qb24, qc25⟩ := isOf hZ e3 H0
  obtain ⟨_, _, ⟨T5, L7, k8, n9⟩, -, X6, ⟨Lc10, hQ11, l12, y13, z14⟩, st15⟩ := X2.virtualBack hx (y := (⟨"java/lang/AbstractStringBuilder", "getValue", "()[B"⟩ : MethodName)) (z := (⟨"java/lang/AbstractStringBuilder", "getValue", "()[B"⟩ : MethodName)) hown (mvT hZ (tw hw 116 rfl)) (mvT hZ (tw hw 117 rfl)) (notFace_of_selects (args := #[]) (mvT hZ (tw hw 119 rfl))) (mvT hZ (tw hw 119 rfl)) (mvT hZ (tw hw 118 rfl)) (by decide) (backOf (W := 0) (rmGV l Z a0 hw [] pa pv h0 n0 Z0 H1) hZ (tw hw 120 rfl) (tw hw 36 rfl) (by decide) (by decide)) qa23 qc25 (g := (mkF m 5 #[rv px, rv pa, .val .null, .unset, .unset] [(.ref pa)])) rfl (by rw [hml]; rfl) (Steps.refl _) (argsL := []) (rest := []) (lenOf pdGV rfl) rfl (leW rfl) (hb hby dS20_5) (fun _ _ => ⟨rfl, e3, (leB rfl), (leB rfl)⟩)
  dsimp only [Pt.U, Pt.locs, Pt.cells, Pt.slots] at X6 l12 y13 z14 st15 hQ11
  subst y13 z14
  obtain ⟨rfl, N26, e17⟩ := hQ11
  have N16 : Fr n0 L7 := by rw [l12]; exact Fr.app N0 N26
  refine Way.to st15 ?_
  show Way _ _ _ _ (T5.setTop (mkF m 8 #[rv px, rv pa, .val .null, .unset, .unset] [(.ref pv)]))
  try clear X2 e3 st15 cq21 kq22 qa23 qb24 qc25 N26
  try clear T1
  refine Way.by (fun _ k => XS.astoreN X6.here hx rfl (hb hby dS20_8) rfl rfl (l' := #[rv px, rv pa, .val .null, rv pv, .unset]) rfl k) ?_
  show Way _ _ _ _ (T5.setTop (mkF m 9 #[rv px, rv pa, .val .null, rv pv, .unset] []))
  refine Way.by (fun _ k => XS.aloadN X6.here hx rfl (hb hby dS20_9) rfl rfl k) ?_
  show Way _ _ _ _ (T5.setTop (mkF m 10 #[rv px, rv pa, .val .null, rv pv, .unset] [(.ref pa)]))
  obtain ⟨cq44, kq45, qa46, qb47, qc48⟩ := isOf hZ e17 H0
  obtain ⟨_, _, ⟨T28, L30, k31, n32⟩, -, X29, ⟨Lc33, hQ34, l35, y36, z37⟩, st38⟩ := X6.virtualBack hx (y := (⟨"java/lang/AbstractStringBuilder", "length", "()I"⟩ : MethodName)) (z := (⟨"java/lang/StringBuilder", "length", "()I"⟩ : MethodName)) hown (mvT hZ (tw hw 121 rfl)) (mvT hZ (tw hw 122 rfl)) (nfSel (args := #[]) (z := (⟨"java/lang/AbstractStringBuilder", "ensureCapacityInternal", "(I)V"⟩ : MethodName)) rfl (mvT hZ (tw hw 70 rfl))) (mvT hZ (tw hw 124 rfl)) (mvT hZ (tw hw 125 rfl)) (by decide) (backOf (W := 0) (rmLS l Z a0 hw [] pa (8 : Int32) h0 n0 Z0 H0 H3) hZ (tw hw 126 rfl) (tw hw 28 rfl) (by decide) (by decide)) qa46 qc48 (g := (mkF m 10 #[rv px, rv pa, .val .null, rv pv, .unset] [(.ref pa)])) rfl (by rw [hml]; rfl) (Steps.refl _) (argsL := []) (rest := []) (lenOf pdLA rfl) rfl (leW rfl) (hb hby dS20_10) (fun _ _ => ⟨rfl, e17, (leB rfl), (leB rfl)⟩)
  dsimp only [Pt.U, Pt.locs, Pt.cells, Pt.slots] at X29 l35 y36 z37 st38 hQ34
  subst y36 z37
  obtain ⟨rfl, N49, e40⟩ := hQ34
  have N39 : Fr n0 L30 := by rw [l35]; exact Fr.app N16 N49
  refine Way.to st38 ?_
  show Way _ _ _ _ (T28.setTop (mkF m 13 #[rv px, rv pa, .val .null, rv pv, .unset] [(.int 8)]))
  try clear X6 N16 e17 st38 cq44 kq45 qa46 qb47 qc48 N49
  try clear T5
  refine Way.by (fun _ k => XS.istore X29.here hx rfl (hb hby dS20_13) rfl (l' := #[rv px, rv pa, .val .null, rv pv, iv 8]) rfl k) ?_
  show Way _ _ _ _ (T28.setTop (mkF m 15 #[rv px, rv pa, .val .null, rv pv, iv 8] []))
  refine Way.by (fun _ k => XS.aloadN X29.here hx rfl (hb hby dS20_15) rfl rfl k) ?_
  show Way _ _ _ _ (T28.setTop (mkF m 16 #[rv px, rv pa, .val .null, rv pv, iv 8] [(.ref pa)]))
  obtain ⟨cq67, kq68, qa69, qb70, qc71⟩ := isOf hZ e40 H0
  obtain ⟨_, _, ⟨T51, L53, k54, n55⟩, -, X52, ⟨Lc56, hQ57, l58, y59, z60⟩, st61⟩ := X29.virtualBack hx (y := (⟨"java/lang/AbstractStringBuilder", "isLatin1", "()Z"⟩ : MethodName)) (z := (⟨"java/lang/AbstractStringBuilder", "isLatin1", "()Z"⟩ : MethodName)) hown (mvT hZ (tw hw 129 rfl)) (mvT hZ (tw hw 130 rfl)) (notFace_of_selects (args := #[]) (mvT hZ (tw hw 132 rfl))) (mvT hZ (tw hw 132 rfl)) (mvT hZ (tw hw 131 rfl)) (by decide) (backOf (W := 0) (rmA1 l Z a0 hw [] pa h0 n0 Z0 H2 O0 SV) hZ (tw hw 133 rfl) (tw hw 36 rfl) (by decide) (by decide)) qa69 qc71 (g := (mkF m 16 #[rv px, rv pa, .val .null, rv pv, iv 8] [(.ref pa)])) rfl (by rw [hml]; rfl) (Steps.refl _) (argsL := []) (rest := []) (lenOf pdA1 rfl) rfl (leW rfl) (hb hby dS20_16) (fun _ _ => ⟨rfl, e40, (leB rfl), (leB rfl)⟩)
  dsimp only [Pt.U, Pt.locs, Pt.cells, Pt.slots] at X52 l58 y59 z60 st61 hQ57
  subst y59 z60
  obtain ⟨rfl, N72, e63⟩ := hQ57
  have N62 : Fr n0 L53 := by rw [l58]; exact Fr.app N39 N72
  refine Way.to st61 ?_
  show Way _ _ _ _ (T51.setTop (mkF m 19 #[rv px, rv pa, .val .null, rv pv, iv 8] [(.int 1)]))
  try clear X29 N39 e40 st61 cq67 kq68 qa69 qb70 qc71 N72
  try clear T28
  have b74 : ¬ (1 : Int32) = (0 : Int32) := by decide
  refine Way.by (fun _ k => XS.ifNo X52.here hx rfl (hb hby dS20_19) rfl ((if0 .eq _).trans (feq b74).1) k) ?_
  show Way _ _ _ _ (T51.setTop (mkF m 22 #[rv px, rv pa, .val .null, rv pv, iv 8] []))
  refine Way.by (fun _ k => XS.aloadN X52.here hx rfl (hb hby dS20_22) rfl rfl k) ?_
  refine Way.by (fun _ k => XS.iconst X52.here hx rfl (hb hby dS20_23) k) ?_
  show Way _ _ _ _ (T51.setTop (mkF m 24 #[rv px, rv pa, .val .null, rv pv, iv 8] [(.int 0), (.ref px)]))
  obtain ⟨T75, h76, X77, e78, W79, st80⟩ := putF X52 hx hZ hown (host := "") (Or.inl (tw hw 21 rfl)) Via.refl e63 H7 H5 (Or.inr ⟨(tw hw 17 rfl), rfl, hnm⟩) (tw hw 2 rfl) (ty := .byte) (by decide) rfl rfl (g := (mkF m 24 #[rv px, rv pa, .val .null, rv pv, iv 8] [(.int 0), (.ref px)])) rfl rfl (hb hby dS20_24)
  have N81 := Fr.snoc X77 N62 nw_px
  have E82 := Exa.wr W79 H0
  have F83 := H1.other W79 (Or.inl ne_pa_px)
  have F84 := H2.other W79 (Or.inl ne_pa_px)
  have F85 := H3.other W79 (Or.inl ne_pa_px)
  have A86 := H4.other W79 ne_pv_px
  have E87 := Exa.wr W79 H5
  have F88 := H6.other W79 (Or.inr (slot_ne (Or.inr (tw hw 16 rfl)) (Or.inr (tw hw 17 rfl)) (by decide) (t := (.array .byte)) (t' := .byte) (by decide) (by decide)))
  have F89 : Fld Z h76 px "java/lang/String" "coder" "B" (.int 0) := H7.same W79
  have Z90 : n0 ≤ h76.size := by rw [W79.size]; exact Z0
  have O91 := O0.wr W79 nw_px
  have K92 := (Keep.refl h0 [px]).wr W79 (Or.inl (List.mem_of_getElem? (i := 0) rfl))
  have hz93 : h0.size ≤ h76.size := by rw [W79.size]; exact (Nat.le_refl h0.size)
  refine Way.by st80 ?_
  show Way _ _ _ _ (T75.setTop (mkF m 27 #[rv px, rv pa, .val .null, rv pv, iv 8] []))
  refine Way.by (fun _ k => XS.aloadN X77.here hx rfl (hb hby dS20_27) rfl rfl k) ?_
  refine Way.by (fun _ k => XS.aloadN X77.here hx rfl (hb hby dS20_28) rfl rfl k) ?_
  refine Way.by (fun _ k => XS.iconst X77.here hx rfl (hb hby dS20_29) k) ?_
  show Way _ _ _ _ (T75.setTop (mkF m 30 #[rv px, rv pa, .val .null, rv pv, iv 8] [(.int 0), (.ref pv), (.ref px)]))
  refine Way.by (fun _ k => XS.iload X77.here hx rfl (hb hby dS20_30) rfl k) ?_
  show Way _ _ _ _ (T75.setTop (mkF m 32 #[rv px, rv pa, .val .null, rv pv, iv 8] [(.int 8), (.int 0), (.ref pv), (.ref px)]))
  obtain ⟨_, _, ⟨T94, L96, k97, n98⟩, -, X95, ⟨Lc99, hQ100, l101, y102, z103⟩, st104⟩ := Jvm.LawKit.callS X77 hx (y := (⟨"java/util/Arrays", "copyOfRange", "([BII)[B"⟩ : MethodName)) hown (mvT hZ (tw hw 134 rfl)) (mvT hZ (tw hw 135 rfl)) (mvT hZ (tw hw 136 rfl)) (mvT hZ (tw hw 137 rfl)) (by decide) (backOf (W := 1) (rmCR1 l Z a0 hw [] pv kv u0 h76 n0 Z90 A86) hZ (tw hw 137 rfl) (tw hw 136 rfl) (by decide) (by decide)) (g := (mkF m 32 #[rv px, rv pa, .val .null, rv pv, iv 8] [(.int 8), (.int 0), (.ref pv), (.ref px)])) rfl (by rw [hml]; rfl) (argsL := [(.ref pv), (.int 0), (.int 8)]) (rest := [(.ref px)]) (lenOf pdCB0 rfl) rfl (leW rfl) (hb hby dS20_32) (fun _ _ => ⟨rfl, e78, (leB rfl), (leB rfl)⟩)
  dsimp only [Pt.U, Pt.locs, Pt.cells, Pt.slots] at X95 l101 y102 z103 st104 hQ100
  subst y102 z103
  obtain ⟨x_bt114, x_kt115, rfl, N110, K111, fr_bt113, F_0112⟩ := hQ100
  have N105 : Fr n0 L96 := by rw [l101]; exact Fr.app N81 N110
  have ne116 : pa ≠ x_bt114 := Nat.ne_of_lt (Nat.lt_of_lt_of_le E82.lt fr_bt113)
  have ne117 : pv ≠ x_bt114 := Nat.ne_of_lt (Nat.lt_of_lt_of_le A86.lt fr_bt113)
  have ne118 : px ≠ x_bt114 := Nat.ne_of_lt (Nat.lt_of_lt_of_le E87.lt fr_bt113)
  have nw119 : n0 ≤ x_bt114 := Nat.le_trans Z90 fr_bt113
  have hk120 : h0.size ≤ x_bt114 := Nat.le_trans hz93 fr_bt113
  have E121 := E82.keep K111
  have F122 := F83.keep K111 nin0
  have F123 := F84.keep K111 nin0
  have F124 := F85.keep K111 nin0
  have A125 := A86.keep K111 nin0
  have E126 := E87.keep K111
  have F127 := F88.keep K111 nin0
  have F128 := F89.keep K111 nin0
  have Z129 := Nat.le_trans Z90 K111.1
  have O130 := O91.keep K111 all0
  have K131 := K92.trans K111 all0
  have hz132 := Nat.le_trans hz93 K111.1
  refine Way.by st104 ?_
  show Way _ _ _ _ (T94.setTop (mkF m 35 #[rv px, rv pa, .val .null, rv pv, iv 8] [(.ref x_bt114), (.ref px)]))
  try clear X77 e78 N81 E82 F83 F84 F85 A86 E87 F88 F89 Z90 O91 K92 hz93 st104 N110 K111
  try clear T75 h76
  obtain ⟨T133, h134, X135, e136, W137, st138⟩ := putF X95 hx hZ hown (host := "") (Or.inl (tw hw 20 rfl)) Via.refl rfl F127 E126 (Or.inr ⟨(tw hw 16 rfl), rfl, hnm⟩) (tw hw 2 rfl) (ty := (.array .byte)) (by decide) rfl rfl (g := (mkF m 35 #[rv px, rv pa, .val .null, rv pv, iv 8] [(.ref x_bt114), (.ref px)])) rfl rfl (hb hby dS20_35)
  have N139 := Fr.snoc X135 N105 nw_px
  have E140 := Exa.wr W137 E121
  have F141 := F122.other W137 (Or.inl ne_pa_px)
  have F142 := F123.other W137 (Or.inl ne_pa_px)
  have F143 := F124.other W137 (Or.inl ne_pa_px)
  have A144 := A125.other W137 ne_pv_px
  have E145 := Exa.wr W137 E126
  have F146 : Fld Z h134 px "java/lang/String" "value" "[B" (.ref x_bt114) := F127.same W137
  have F147 := F128.other W137 (Or.inr (slot_ne (Or.inr (tw hw 17 rfl)) (Or.inr (tw hw 16 rfl)) (by decide) (t := .byte) (t' := (.array .byte)) (by decide) (by decide)))
  have A148 := F_0112.other W137 ne118.symm
  have Z149 : n0 ≤ h134.size := by rw [W137.size]; exact Z129
  have O150 := O130.wr W137 nw_px
  have K151 := K131.wr W137 (Or.inl (List.mem_of_getElem? (i := 0) rfl))
  have hz152 : h0.size ≤ h134.size := by rw [W137.size]; exact hz132
  refine Way.by st138 ?_
  show Way _ _ _ _ (T133.setTop (mkF m 38 #[rv px, rv pa, .val .null, rv pv, iv 8] []))
  try clear X95 N105 F_0112 E121 F122 F123 F124 A125 E126 F127 F128 Z129 O130 K131 hz132 W137 st138
  try clear T94
  refine Way.by (fun _ k => XS.goto X135.here hx rfl (pc0 := 38) (pc' := 97) rfl (hb hby dS20_38) (by decide) (by decide) k) ?_
  show Way _ _ _ _ (T133.setTop (mkF m 97 #[rv px, rv pa, .val .null, rv pv, iv 8] []))
  refine Way.ret (v := none) X135 hlk (fun _ => rfl) (fun fs hr => X135.returnOut hx Bd.returns (hb hby dS20_97) hr) ?_ (by decide) (by decide)
  show QS21 Z px pa pv kv u0 h0 n0 _ T133.heap _
  rw [e136]
  have STR : own_Str Z h134 px x_bt114 [u0, 46, 115, 104, 97, 53, 49, 50] := ⟨E145, F146, F147, ⟨_, _, _, A148, Or.inl ⟨rfl, rfl, rfl, fun c hc => (hbd c hc).2⟩⟩, hbd, Nat.le_of_ble_eq_true rfl⟩
  exact ⟨x_bt114, rfl, N139, K151, hk120, STR⟩
def QS11 (Z : State) (px : Addr) (pa : Addr) (pv : Addr) (kv : ClassId) (u0 : Int32) (h0 : Heap) (n0 : Nat) (v : Option Value) (h : Heap) (L : List Loc) : Prop := ∃ (bt : Addr), v = none ∧ Fr n0 L ∧ Keep h0 h [px] ∧ h0.size ≤ bt ∧ own_Str Z h px bt [u0, 46, 115, 104, 97, 53, 49, 50]
set_option maxRecDepth 65536 in
set_option maxHeartbeats 40000000 in
theorem rmS11 (l : Launch) (Z : State) (a0 : Array Value) (hw : ∀ d ∈ tables_1, d.before a0 Z = true) (ws : List Jvm.Cond) (px : Addr) (pa : Addr) (pv : Addr) (kv : ClassId) (u0 : Int32) (h0 : Heap) (n0 : Nat) (Z0 : n0 ≤ h0.size) (H0 : Exa Z h0 pa "java/lang/StringBuilder") (H1 : Fld Z h0 pa "java/lang/AbstractStringBuilder" "value" "[B" (.ref pv)) (H2 : Fld Z h0 pa "java/lang/AbstractStringBuilder" "coder" "B" (.int 0)) (H3 : Fld Z h0 pa "java/lang/AbstractStringBuilder" "count" "I" (.int 8)) (H4 : Arv Z h0 pv kv .byte (16 : Int32) [(.int (StrChars.lo8 u0)), (.int 46), (.int 115), (.int 104), (.int 97), (.int 53), (.int 49), (.int 50)] (.int 0)) (H5 : Exa Z h0 px "java/lang/String") (H6 : Fld Z h0 px "java/lang/String" "value" "[B" .null) (H7 : Fld Z h0 px "java/lang/String" "coder" "B" (.int 0)) (hbd : ∀ c ∈ ([u0, 46, 115, 104, 97, 53, 49, 50] : List Int32), ¬ c < 0 ∧ ¬ (255 : Int32) < c) (ne_pa_px : pa ≠ px) (ne_pv_px : pv ≠ px) (nw_px : n0 ≤ px) (O0 : Old Z n0 h0) (SV : own_Env Z) :
    MetFree l (⟨"java/lang/String", "<init>", "(Ljava/lang/StringBuilder;)V"⟩ : MethodName) (head1 (Jvm.Cond.code (⟨"java/lang/String", "<init>", "(Ljava/lang/StringBuilder;)V"⟩ : MethodName) jdk_42_method_53_code 2 none :: ws) ({ frames := 4, cells := 1, slots := 8, locals := 91 } : Room)) (fun aa U => aa = #[(.ref px), (.ref pa)] ∧ Z.Warmed39 U.vm ∧ U.heap = h0) (fun _ _ _ _ _ => True) (fun _ U oo U' => ∃ v L, oo = .returned v ∧ QS11 Z px pa pv kv u0 h0 n0 v U'.heap L ∧ FrameEnd U oo U' L ({ frames := 4, cells := 1, slots := 8, locals := 91 } : Room).cells ({ frames := 4, cells := 1, slots := 8, locals := 91 } : Room).slots) := by
  refine MetFree.of_bodySF (plainFor_of_name pnCD) hisR ?_
  intro p e s m args below meth c s₁ Bd hml0 hP hK
  obtain ⟨rfl, hZ, hh⟩ := hP
  have hx := Bd.exec
  have hby := Bd.bytes
  have hlk : meth.locks = false := BodyLoose.notSynchronized Bd
  have hml : c.maxLocals = 2 := hml0
  have hown : s.vm.findClass "java/lang/String" = some m.cls := findClass_of_methodNamed Bd.named
  have hnm := (name_of_methodNamed Bd.named Bd.method).1
  have X0 : Stand p l e ({ frames := 4, cells := 1, slots := 8, locals := 91 } : Room) s m #[(.ref px), (.ref pa)] below meth c s₁ [] 0 0 := Stand.of_body Bd
  have e0 : s₁.heap = h0 := by rw [← hh, Bd.state]; rfl
  have N0 := Fr.nil n0
  have ef : entryFrame m #[(.ref px), (.ref pa)] 2 = mkF m 0 #[rv px, rv pa] [] := by first | (simp [entryFrame, mkF, argsToLocals, Value.category, maxLocals]; done) | rfl
  show Way p.tables e below (KQ s (QS11 Z px pa pv kv u0 h0 n0) ({ frames := 4, cells := 1, slots := 8, locals := 91 } : Room).cells ({ frames := 4, cells := 1, slots := 8, locals := 91 } : Room).slots) (s₁.setTop (entryFrame m #[(.ref px), (.ref pa)] 2))
  rw [ef]
  refine Way.by (fun _ k => XS.aloadN X0.here hx rfl (hb hby dS10_0) rfl rfl k) ?_
  refine Way.by (fun _ k => XS.aloadN X0.here hx rfl (hb hby dS10_1) rfl rfl k) ?_
  show Way _ _ _ _ (s₁.setTop (mkF m 2 #[rv px, rv pa] [(.ref pa), (.ref px)]))
  refine Way.by (fun _ k => XS.aconstNull X0.here hx rfl (hb hby dS10_2) k) ?_
  show Way _ _ _ _ (s₁.setTop (mkF m 3 #[rv px, rv pa] [.null, (.ref pa), (.ref px)]))
  obtain ⟨_, _, ⟨T1, L3, k4, n5⟩, -, X2, ⟨Lc6, hQ7, l8, y9, z10⟩, st11⟩ := X0.specialBack hx (y := (⟨"java/lang/String", "<init>", "(Ljava/lang/AbstractStringBuilder;Ljava/lang/Void;)V"⟩ : MethodName)) rfl hown (mvT hZ (tw hw 113 rfl)) (mvT hZ (tw hw 114 rfl)) (mvT hZ (tw hw 115 rfl)) (by decide) (backOf (W := 0) (rmS21 l Z a0 hw [] px pa pv kv u0 h0 n0 Z0 H0 H1 H2 H3 H4 H5 H6 H7 hbd ne_pa_px ne_pv_px nw_px O0 SV) hZ (tw hw 115 rfl) (tw hw 3 rfl) (by decide) (by decide)) (g := (mkF m 3 #[rv px, rv pa] [.null, (.ref pa), (.ref px)])) rfl (by rw [hml]; rfl) (Steps.refl _) (a := px) (argsL := [(.ref pa), .null]) (rest := []) (lenOf pdS20 rfl) rfl (leW rfl) (hb hby dS10_3) (fun _ _ => ⟨rfl, e0, (leB rfl), (leB rfl)⟩)
  dsimp only [Pt.U, Pt.locs, Pt.cells, Pt.slots] at X2 l8 y9 z10 st11 hQ7
  subst y9 z10
  obtain ⟨x_bt21, rfl, N17, K18, fr_bt20, F_019⟩ := hQ7
  have N12 : Fr n0 L3 := by rw [l8]; exact Fr.app N0 N17
  have ne22 : pa ≠ x_bt21 := Nat.ne_of_lt (Nat.lt_of_lt_of_le H0.lt fr_bt20)
  have ne23 : pv ≠ x_bt21 := Nat.ne_of_lt (Nat.lt_of_lt_of_le H4.lt fr_bt20)
  have ne24 : px ≠ x_bt21 := Nat.ne_of_lt (Nat.lt_of_lt_of_le H5.lt fr_bt20)
  have nw25 : n0 ≤ x_bt21 := Nat.le_trans Z0 fr_bt20
  have hk26 : h0.size ≤ x_bt21 := Nat.le_trans (Nat.le_refl h0.size) fr_bt20
  have E27 := H0.keep K18
  have F28 := H1.keep K18 (ninS ne_pa_px nin0)
  have F29 := H2.keep K18 (ninS ne_pa_px nin0)
  have F30 := H3.keep K18 (ninS ne_pa_px nin0)
  have A31 := H4.keep K18 (ninS ne_pv_px nin0)
  have E32 := H5.keep K18
  have Z33 := Nat.le_trans Z0 K18.1
  have O34 := O0.keep K18 (allS nw_px all0)
  have K35 := (Keep.refl h0 [px]).trans K18 (allS (Or.inl (List.mem_of_getElem? (i := 0) rfl)) all0)
  have hz36 := Nat.le_trans (Nat.le_refl h0.size) K18.1
  refine Way.to st11 ?_
  show Way _ _ _ _ (T1.setTop (mkF m 6 #[rv px, rv pa] []))
  refine Way.ret (v := none) X2 hlk (fun _ => rfl) (fun fs hr => X2.returnOut hx Bd.returns (hb hby dS10_6) hr) ?_ (by decide) (by decide)
  show QS11 Z px pa pv kv u0 h0 n0 _ T1.heap _
  skip
  exact ⟨x_bt21, rfl, N12, K35, hk26, F_019⟩
def QTS1 (Z : State) (pa : Addr) (pv : Addr) (kv : ClassId) (u0 : Int32) (h0 : Heap) (n0 : Nat) (v : Option Value) (h : Heap) (L : List Loc) : Prop := ∃ (bx : Addr) (bt : Addr), v = some (.ref bx) ∧ Fr n0 L ∧ Keep h0 h [] ∧ h0.size ≤ bx ∧ h0.size ≤ bt ∧ own_Str Z h bx bt [u0, 46, 115, 104, 97, 53, 49, 50]
set_option maxRecDepth 65536 in
set_option maxHeartbeats 40000000 in
theorem rmTS1 (l : Launch) (Z : State) (a0 : Array Value) (hw : ∀ d ∈ tables_1, d.before a0 Z = true) (ws : List Jvm.Cond) (pa : Addr) (pv : Addr) (kv : ClassId) (u0 : Int32) (h0 : Heap) (n0 : Nat) (Z0 : n0 ≤ h0.size) (H0 : Exa Z h0 pa "java/lang/StringBuilder") (H1 : Fld Z h0 pa "java/lang/AbstractStringBuilder" "value" "[B" (.ref pv)) (H2 : Fld Z h0 pa "java/lang/AbstractStringBuilder" "coder" "B" (.int 0)) (H3 : Fld Z h0 pa "java/lang/AbstractStringBuilder" "count" "I" (.int 8)) (H4 : Arv Z h0 pv kv .byte (16 : Int32) [(.int (StrChars.lo8 u0)), (.int 46), (.int 115), (.int 104), (.int 97), (.int 53), (.int 49), (.int 50)] (.int 0)) (hbd : ∀ c ∈ ([u0, 46, 115, 104, 97, 53, 49, 50] : List Int32), ¬ c < 0 ∧ ¬ (255 : Int32) < c) (O0 : Old Z n0 h0) (SV : own_Env Z) :
    MetFree l (⟨"java/lang/StringBuilder", "toString", "()Ljava/lang/String;"⟩ : MethodName) (head1 (Jvm.Cond.code (⟨"java/lang/StringBuilder", "toString", "()Ljava/lang/String;"⟩ : MethodName) jdk_67_method_42_code 1 (some (.object "java/lang/String")) :: ws) ({ frames := 5, cells := 2, slots := 12, locals := 105 } : Room)) (fun aa U => aa = #[(.ref pa)] ∧ Z.Warmed39 U.vm ∧ U.heap = h0) (fun _ _ _ _ _ => True) (fun _ U oo U' => ∃ v L, oo = .returned v ∧ QTS1 Z pa pv kv u0 h0 n0 v U'.heap L ∧ FrameEnd U oo U' L ({ frames := 5, cells := 2, slots := 12, locals := 105 } : Room).cells ({ frames := 5, cells := 2, slots := 12, locals := 105 } : Room).slots) := by
  refine MetFree.of_bodySF (plainFor_of_name pnSI) hisR ?_
  intro p e s m args below meth c s₁ Bd hml0 hP hK
  obtain ⟨rfl, hZ, hh⟩ := hP
  have hx := Bd.exec
  have hby := Bd.bytes
  have hlk : meth.locks = false := BodyLoose.notSynchronized Bd
  have hml : c.maxLocals = 1 := hml0
  have hown : s.vm.findClass "java/lang/StringBuilder" = some m.cls := findClass_of_methodNamed Bd.named
  have hnm := (name_of_methodNamed Bd.named Bd.method).1
  have X0 : Stand p l e ({ frames := 5, cells := 2, slots := 12, locals := 105 } : Room) s m #[(.ref pa)] below meth c s₁ [] 0 0 := Stand.of_body Bd
  have e0 : s₁.heap = h0 := by rw [← hh, Bd.state]; rfl
  have N0 := Fr.nil n0
  have ef : entryFrame m #[(.ref pa)] 1 = mkF m 0 #[rv pa] [] := by first | (simp [entryFrame, mkF, argsToLocals, Value.category, maxLocals]; done) | rfl
  show Way p.tables e below (KQ s (QTS1 Z pa pv kv u0 h0 n0) ({ frames := 5, cells := 2, slots := 12, locals := 105 } : Room).cells ({ frames := 5, cells := 2, slots := 12, locals := 105 } : Room).slots) (s₁.setTop (entryFrame m #[(.ref pa)] 1))
  rw [ef]
  obtain ⟨T1, h2, X3, e4, E5, A6, D7, -, st8⟩ := newO X0 hx hZ hown (tw hw 109 rfl) (tw hw 2 rfl) (tw hw 3 rfl) e0 (g := (mkF m 0 #[rv pa] [])) rfl (hb hby dTS0_0) (by decide) (by decide)
  obtain ⟨a9, g10⟩ : ∃ z, z = h0.size := ⟨_, rfl⟩
  rw [← g10] at A6 D7 st8
  have ne11 : pa ≠ a9 := Nat.ne_of_lt (Nat.lt_of_lt_of_eq H0.lt g10.symm)
  have ne12 : pv ≠ a9 := Nat.ne_of_lt (Nat.lt_of_lt_of_eq H4.lt g10.symm)
  have nw13 : n0 ≤ a9 := Nat.le_trans Z0 (Nat.le_of_eq g10.symm)
  have hk14 : h0.size ≤ a9 := Nat.le_trans (Nat.le_refl h0.size) (Nat.le_of_eq g10.symm)
  have E15 := Exa.ext E5 H0
  have F16 := Fld.ext E5 H1
  have F17 := Fld.ext E5 H2
  have F18 := Fld.ext E5 H3
  have A19 := H4.ext E5
  have Z20 := Nat.le_trans Z0 E5.1
  have O21 := O0.ext E5
  have K22 := (Keep.refl h0 []).ext E5
  have hz23 := Nat.le_trans (Nat.le_refl h0.size) E5.1
  have F24 : Fld Z h2 a9 "java/lang/String" "value" "[B" .null := D7 (Or.inr (tw hw 16 rfl)) (ty := (.array .byte)) (by decide)
  have F25 : Fld Z h2 a9 "java/lang/String" "coder" "B" (.int 0) := D7 (Or.inr (tw hw 17 rfl)) (ty := .byte) (by decide)
  refine Way.by st8 ?_
  show Way _ _ _ _ (T1.setTop (mkF m 3 #[rv pa] [(.ref a9)]))
  refine Way.by (fun _ k => XS.dup X3.here hx rfl (hb hby dTS0_3) rfl rfl k) ?_
  refine Way.by (fun _ k => XS.aloadN X3.here hx rfl (hb hby dTS0_4) rfl rfl k) ?_
  show Way _ _ _ _ (T1.setTop (mkF m 5 #[rv pa] [(.ref pa), (.ref a9), (.ref a9)]))
  obtain ⟨_, _, ⟨T26, L28, k29, n30⟩, -, X27, ⟨Lc31, hQ32, l33, y34, z35⟩, st36⟩ := X3.specialBack hx (y := (⟨"java/lang/String", "<init>", "(Ljava/lang/StringBuilder;)V"⟩ : MethodName)) rfl hown (mvT hZ (tw hw 110 rfl)) (mvT hZ (tw hw 111 rfl)) (mvT hZ (tw hw 112 rfl)) (by decide) (backOf (W := 1) (rmS11 l Z a0 hw [] a9 pa pv kv u0 h2 n0 Z20 E15 F16 F17 F18 A19 A6 F24 F25 hbd ne11 ne12 nw13 O21 SV) hZ (tw hw 112 rfl) (tw hw 3 rfl) (by decide) (by decide)) (g := (mkF m 5 #[rv pa] [(.ref pa), (.ref a9), (.ref a9)])) rfl (by rw [hml]; rfl) (Steps.refl _) (a := a9) (argsL := [(.ref pa)]) (rest := [(.ref a9)]) (lenOf pdS10 rfl) rfl (leW rfl) (hb hby dTS0_5) (fun _ _ => ⟨rfl, e4, (leB rfl), (leB rfl)⟩)
  dsimp only [Pt.U, Pt.locs, Pt.cells, Pt.slots] at X27 l33 y34 z35 st36 hQ32
  subst y34 z35
  obtain ⟨x_bt46, rfl, N42, K43, fr_bt45, F_044⟩ := hQ32
  have N37 : Fr n0 L28 := by rw [l33]; exact Fr.app N0 N42
  have ne47 : pa ≠ x_bt46 := Nat.ne_of_lt (Nat.lt_of_lt_of_le E15.lt fr_bt45)
  have ne48 : pv ≠ x_bt46 := Nat.ne_of_lt (Nat.lt_of_lt_of_le A19.lt fr_bt45)
  have ne49 : a9 ≠ x_bt46 := Nat.ne_of_lt (Nat.lt_of_lt_of_le A6.lt fr_bt45)
  have nw50 : n0 ≤ x_bt46 := Nat.le_trans Z20 fr_bt45
  have hk51 : h0.size ≤ x_bt46 := Nat.le_trans hz23 fr_bt45
  have E52 := E15.keep K43
  have F53 := F16.keep K43 (ninS ne11 nin0)
  have F54 := F17.keep K43 (ninS ne11 nin0)
  have F55 := F18.keep K43 (ninS ne11 nin0)
  have A56 := A19.keep K43 (ninS ne12 nin0)
  have E57 := A6.keep K43
  have Z58 := Nat.le_trans Z20 K43.1
  have O59 := O21.keep K43 (allS nw13 all0)
  have K60 := K22.trans K43 (allS (Or.inr hk14) all0)
  have hz61 := Nat.le_trans hz23 K43.1
  refine Way.to st36 ?_
  show Way _ _ _ _ (T26.setTop (mkF m 8 #[rv pa] [(.ref a9)]))
  try clear X3 e4 A6 E15 F16 F17 F18 A19 Z20 O21 K22 hz23 F24 F25 st36 N42 K43
  try clear T1 h2
  refine Way.ret (v := (some (.ref a9))) X27 hlk (fun h => by rw [Bd.returns] at h; cases h) (fun fs hr => retOut X27 hx Bd.returns rfl (Or.inr (Or.inr (Or.inr (Or.inr ⟨rfl, rfl, rfl⟩)))) (hb hby dTS0_8) hr) ?_ (by decide) (by decide)
  show QTS1 Z pa pv kv u0 h0 n0 _ T26.heap _
  skip
  exact ⟨a9, x_bt46, rfl, N37, K60, hk14, hk51, F_044⟩
def QNF1 (Z : State) (px : Addr) (pt : Addr) (u0 : Int32) (ud : Addr) (ul : Addr) (ult : Addr) (h0 : Heap) (n0 : Nat) (v : Option Value) (h : Heap) (L : List Loc) : Prop := ∃ (bx : Addr) (bt : Addr), v = some (.ref bx) ∧ Fr n0 L ∧ Keep h0 h [] ∧ own_Str Z h bx bt [u0, 46, 115, 104, 97, 53, 49, 50]
set_option maxRecDepth 65536 in
set_option maxHeartbeats 40000000 in
theorem rmNF1 (l : Launch) (Z : State) (a0 : Array Value) (hw : ∀ d ∈ tables_1, d.before a0 Z = true) (ws : List Jvm.Cond) (px : Addr) (pt : Addr) (u0 : Int32) (ud : Addr) (ul : Addr) (ult : Addr) (h0 : Heap) (n0 : Nat) (Z0 : n0 ≤ h0.size) (H0 : own_Str Z h0 px pt [u0]) (hbd : ∀ c ∈ ([u0, 46, 115, 104, 97, 53, 49, 50] : List Int32), ¬ c < 0 ∧ ¬ (255 : Int32) < c) (O0 : Old Z n0 h0) (SV : own_Env Z) (SDG : Sta Z Z.heap "com/example/longhold/longhold/store/DigestFile" "DIGEST" "Lcom/example/longhold/longhold/store/DigestAlgorithm;" (.ref ud)) (EDG : Exa Z Z.heap ud "com/example/longhold/longhold/store/DigestAlgorithm") (FLB : Fld Z Z.heap ud "com/example/longhold/longhold/store/DigestAlgorithm" "label" "Ljava/lang/String;" (.ref ul)) (SLB : own_Str Z Z.heap ul ult [115, 104, 97, 53, 49, 50]) :
    MetFree l (⟨"com/example/longhold/longhold/store/DigestFile", "nameFor", "(Ljava/lang/String;)Ljava/lang/String;"⟩ : MethodName) (head1 (Jvm.Cond.code (⟨"com/example/longhold/longhold/store/DigestFile", "nameFor", "(Ljava/lang/String;)Ljava/lang/String;"⟩ : MethodName) prog_40_method_2_code 1 (some (.object "java/lang/String")) :: ws) ({ frames := 6, cells := 6, slots := 47, locals := 117 } : Room)) (fun aa U => aa = #[(.ref px)] ∧ Z.Warmed39 U.vm ∧ U.heap = h0 ∧ CHv Z own_EL U.vm h0) (fun _ _ _ _ _ => True) (fun _ U oo U' => ∃ v L, oo = .returned v ∧ QNF1 Z px pt u0 ud ul ult h0 n0 v U'.heap L ∧ CHr Z own_EL U.vm U.heap U'.vm U'.heap ∧ ReturnedEndW U oo U' L ({ frames := 6, cells := 6, slots := 47, locals := 117 } : Room).cells ({ frames := 6, cells := 6, slots := 47, locals := 117 } : Room).slots) := by
  refine MetFree.of_bodySF (plainFor_of_name pnNF0) hisR ?_
  intro p e s m args below meth c s₁ Bd hml0 hP hK
  obtain ⟨rfl, hZ, hh, HV0⟩ := hP
  have hx := Bd.exec
  have hby := Bd.bytes
  have hlk : meth.locks = false := BodyLoose.notSynchronized Bd
  have hml : c.maxLocals = 1 := hml0
  have hown : s.vm.findClass "com/example/longhold/longhold/store/DigestFile" = some m.cls := findClass_of_methodNamed Bd.named
  have hnm := (name_of_methodNamed Bd.named Bd.method).1
  have X0 : Stand p l e ({ frames := 6, cells := 6, slots := 47, locals := 117 } : Room) s m #[(.ref px)] below meth c s₁ [] 0 0 := Stand.of_body Bd
  have e0 : s₁.heap = h0 := by rw [← hh, Bd.state]; rfl
  have N0 := Fr.nil n0
  have ef : entryFrame m #[(.ref px)] 1 = mkF m 0 #[rv px] [] := by first | (simp [entryFrame, mkF, argsToLocals, Value.category, maxLocals]; done) | rfl
  have XW : Stand p l e ({ frames := 6, cells := 6, slots := 47, locals := 117 } : Room) (s.setVm s.vm) m #[(.ref px)] below meth c s₁ [] 0 0 := X0
  have hS0 : s.Since s.vm 0 := (State.WarmedH.refl s).since 0
  have hZ0 : Z.Warmed39 (s.setVm s.vm).vm := hZ
  have hown0 : (s.setVm s.vm).vm.findClass "com/example/longhold/longhold/store/DigestFile" = some m.cls := hown
  have wS : ∀ d ∈ Bundle.stringAtoms, d.before a0 Z = true := fun d hd => hw d (own_wS d hd)
  have hEL : EW Z a0 own_EL := own_EW hw
  have CH0 : CHr Z own_EL s.vm h0 s.vm h0 := CHr.refl HV0
  show Way p.tables e below (KQH s Z own_EL (QNF1 Z px pt u0 ud ul ult h0 n0) ({ frames := 6, cells := 6, slots := 47, locals := 117 } : Room).cells ({ frames := 6, cells := 6, slots := 47, locals := 117 } : Room).slots) (s₁.setTop (entryFrame m #[(.ref px)] 1))
  rw [ef]
  have EDG1 := Exa.ext O0.2 EDG
  have FLB1 := Fld.ext O0.2 FLB
  have SLB1 := SLB.ext O0.2
  obtain ⟨T1, h2, X3, e4, E5, A6, D7, -, st8⟩ := newO XW hx hZ0 hown0 (tw hw 26 rfl) (tw hw 27 rfl) (tw hw 28 rfl) e0 (g := (mkF m 0 #[rv px] [])) rfl (hb hby dNF0_0) (by decide) (by decide)
  obtain ⟨a9, g10⟩ : ∃ z, z = h0.size := ⟨_, rfl⟩
  rw [← g10] at A6 D7 st8
  have ne11 : px ≠ a9 := Nat.ne_of_lt (Nat.lt_of_lt_of_eq H0.lt1 g10.symm)
  have ne12 : pt ≠ a9 := Nat.ne_of_lt (Nat.lt_of_lt_of_eq H0.lt2 g10.symm)
  have ne13 : ud ≠ a9 := Nat.ne_of_lt (Nat.lt_of_lt_of_eq EDG1.lt g10.symm)
  have ne14 : ul ≠ a9 := Nat.ne_of_lt (Nat.lt_of_lt_of_eq SLB1.lt1 g10.symm)
  have ne15 : ult ≠ a9 := Nat.ne_of_lt (Nat.lt_of_lt_of_eq SLB1.lt2 g10.symm)
  have nw16 : n0 ≤ a9 := Nat.le_trans Z0 (Nat.le_of_eq g10.symm)
  have hk17 : h0.size ≤ a9 := Nat.le_trans (Nat.le_refl h0.size) (Nat.le_of_eq g10.symm)
  have hr20 := CHr.ext E5 HV0
  have H18 := hr20.1
  have CH19 := CH0.trans hr20
  have S21 := H0.ext E5
  have E22 := Exa.ext E5 EDG1
  have F23 := Fld.ext E5 FLB1
  have S24 := SLB1.ext E5
  have Z25 := Nat.le_trans Z0 E5.1
  have hk26 := Nat.le_trans (Nat.zero_le _) E5.1
  have O27 := O0.ext E5
  have K28 := (Keep.refl h0 []).ext E5
  have hz29 := Nat.le_trans (Nat.le_refl h0.size) E5.1
  have F30 : Fld Z h2 a9 "java/lang/AbstractStringBuilder" "value" "[B" .null := D7 (Or.inl (tw hw 41 rfl)) (ty := (.array .byte)) (by decide)
  have F31 : Fld Z h2 a9 "java/lang/AbstractStringBuilder" "coder" "B" (.int 0) := D7 (Or.inl (tw hw 43 rfl)) (ty := .byte) (by decide)
  have F32 : Fld Z h2 a9 "java/lang/AbstractStringBuilder" "count" "I" (.int 0) := D7 (Or.inl (tw hw 66 rfl)) (ty := .int) (by decide)
  refine Way.by st8 ?_
  show Way _ _ _ _ (T1.setTop (mkF m 3 #[rv px] [(.ref a9)]))
  refine Way.by (fun _ k => XS.dup X3.here hx rfl (hb hby dNF0_3) rfl rfl k) ?_
  show Way _ _ _ _ (T1.setTop (mkF m 4 #[rv px] [(.ref a9), (.ref a9)]))
  obtain ⟨_, _, ⟨T33, L35, k36, n37⟩, -, X34, ⟨Lc38, hQ39, l40, y41, z42⟩, st43⟩ := X3.specialBack hx (y := (⟨"java/lang/StringBuilder", "<init>", "()V"⟩ : MethodName)) rfl hown0 (mvT hZ0 (tw hw 29 rfl)) (mvT hZ0 (tw hw 30 rfl)) (mvT hZ0 (tw hw 31 rfl)) (by decide) (backOf (W := 1) (rmSI l Z a0 hw [] a9 h2 n0 Z25 A6 F30 F31 F32 nw16 O27 SV) hZ0 (tw hw 31 rfl) (tw hw 28 rfl) (by decide) (by decide)) (g := (mkF m 4 #[rv px] [(.ref a9), (.ref a9)])) rfl (by rw [hml]; rfl) (Steps.refl _) (a := a9) (argsL := []) (rest := [(.ref a9)]) (lenOf pdSI rfl) rfl (leW rfl) (hb hby dNF0_4) (fun _ _ => ⟨rfl, e4, (leB rfl), (leB rfl)⟩)
  dsimp only [Pt.U, Pt.locs, Pt.cells, Pt.slots] at X34 l40 y41 z42 st43 hQ39
  subst y41 z42
  obtain ⟨x_pv58, x_kv57, rfl, N49, K50, fr_pv56, F_051, F_152, F_253, F_354, F_455⟩ := hQ39
  have N44 : Fr n0 L35 := by rw [l40]; exact Fr.app N0 N49
  have ne59 : px ≠ x_pv58 := Nat.ne_of_lt (Nat.lt_of_lt_of_le S21.lt1 fr_pv56)
  have ne60 : pt ≠ x_pv58 := Nat.ne_of_lt (Nat.lt_of_lt_of_le S21.lt2 fr_pv56)
  have ne61 : ud ≠ x_pv58 := Nat.ne_of_lt (Nat.lt_of_lt_of_le E22.lt fr_pv56)
  have ne62 : ul ≠ x_pv58 := Nat.ne_of_lt (Nat.lt_of_lt_of_le S24.lt1 fr_pv56)
  have ne63 : ult ≠ x_pv58 := Nat.ne_of_lt (Nat.lt_of_lt_of_le S24.lt2 fr_pv56)
  have ne64 : a9 ≠ x_pv58 := Nat.ne_of_lt (Nat.lt_of_lt_of_le A6.lt fr_pv56)
  have nw65 : n0 ≤ x_pv58 := Nat.le_trans Z25 fr_pv56
  have hk66 : h0.size ≤ x_pv58 := Nat.le_trans hz29 fr_pv56
  have Sf67 : Safe Z own_EL s.vm h2 x_pv58 := Safe.new fr_pv56
  have hr70 := CHr.keep K50 (sfS (Safe.exa hZ0.alike A6 (by decide) (by decide)) sf0) H18
  have Sf71 := Safe.keep K50 (sfS (Safe.exa hZ0.alike A6 (by decide) (by decide)) sf0) H18 Sf67
  have H68 := hr70.1
  have CH69 := CH19.trans hr70
  have S72 := S21.keep K50 (ninS ne11 nin0) (ninS ne12 nin0)
  have E73 := E22.keep K50
  have F74 := F23.keep K50 (ninS ne13 nin0)
  have S75 := S24.keep K50 (ninS ne14 nin0) (ninS ne15 nin0)
  have E76 := A6.keep K50
  have Z77 := Nat.le_trans Z25 K50.1
  have hk78 := Nat.le_trans hk26 K50.1
  have O79 := O27.keep K50 (allS nw16 all0)
  have K80 := K28.trans K50 (allS (Or.inr hk17) all0)
  have hz81 := Nat.le_trans hz29 K50.1
  refine Way.to st43 ?_
  show Way _ _ _ _ (T33.setTop (mkF m 7 #[rv px] [(.ref a9)]))
  try clear X3 e4 A6 H18 CH19 S21 E22 F23 S24 Z25 hk26 O27 K28 hz29 F30 F31 F32 st43 N49 K50 hr70 E76
  try clear T1 h2
  refine Way.by (fun _ k => XS.aloadN X34.here hx rfl (hb hby dNF0_7) rfl rfl k) ?_
  show Way _ _ _ _ (T33.setTop (mkF m 8 #[rv px] [(.ref px), (.ref a9)]))
  obtain ⟨cq98, kq99, qa100, qb101, qc102⟩ := isOf hZ0 rfl F_051
  obtain ⟨_, _, ⟨T82, L84, k85, n86⟩, -, X83, ⟨Lc87, hQ88, l89, y90, z91⟩, st92⟩ := X34.virtualBack hx (y := (⟨"java/lang/StringBuilder", "append", "(Ljava/lang/String;)Ljava/lang/StringBuilder;"⟩ : MethodName)) (z := (⟨"java/lang/StringBuilder", "append", "(Ljava/lang/String;)Ljava/lang/StringBuilder;"⟩ : MethodName)) hown0 (mvT hZ0 (tw hw 44 rfl)) (mvT hZ0 (tw hw 45 rfl)) (notFace_of_selects (args := #[]) (mvT hZ0 (tw hw 47 rfl))) (mvT hZ0 (tw hw 47 rfl)) (mvT hZ0 (tw hw 46 rfl)) (by decide) (backOf (W := 0) (rmSA l Z a0 hw [] a9 x_pv58 x_kv57 px pt (0 : Int32) [] [u0] T33.heap n0 Z77 F_051 F_152 F_253 F_354 F_455 S72 ⟨by decide, (show ¬ (1 : Int32) < 0 by decide), rfl, rfl, (show 0 + 1 ≤ 16 by decide), (show ¬ (0 : Int32) < (0 : Int32) + (1 : Int32) - (16 : Int32) by decide), by decide⟩ ne59 ne60 ne64 ne11 ne12 nw16 nw65 O79 SV) hZ0 (tw hw 48 rfl) (tw hw 28 rfl) (by decide) (by decide)) qa100 qc102 (g := (mkF m 8 #[rv px] [(.ref px), (.ref a9)])) rfl (by rw [hml]; rfl) (Steps.refl _) (argsL := [(.ref px)]) (rest := []) (lenOf pdSA rfl) rfl (leW rfl) (hb hby dNF0_8) (fun _ _ => ⟨rfl, rfl, (leB rfl), (leB rfl)⟩)
  dsimp only [Pt.U, Pt.locs, Pt.cells, Pt.slots] at X83 l89 y90 z91 st92 hQ88
  subst y90 z91
  obtain ⟨rfl, N103, K104, F_0105, F_1106, F_2107, F_3108, F_4109⟩ := hQ88
  have N93 : Fr n0 L84 := by rw [l89]; exact Fr.app N44 N103
  have hr112 := CHr.keep K104 (sfS (Safe.exa hZ0.alike F_051 (by decide) (by decide)) (sfS Sf71 sf0)) H68
  have Sf113 := Safe.keep K104 (sfS (Safe.exa hZ0.alike F_051 (by decide) (by decide)) (sfS Sf71 sf0)) H68 Sf71
  have H110 := hr112.1
  have CH111 := CH69.trans hr112
  have S114 := S72.keep K104 (ninS ne11 (ninS ne59 nin0)) (ninS ne12 (ninS ne60 nin0))
  have E115 := E73.keep K104
  have F116 := F74.keep K104 (ninS ne13 (ninS ne61 nin0))
  have S117 := S75.keep K104 (ninS ne14 (ninS ne62 nin0)) (ninS ne15 (ninS ne63 nin0))
  have E118 := F_051.keep K104
  have Z119 := Nat.le_trans Z77 K104.1
  have hk120 := Nat.le_trans hk78 K104.1
  have O121 := O79.keep K104 (allS nw16 (allS nw65 all0))
  have K122 := K80.trans K104 (allS (Or.inr hk17) (allS (Or.inr hk66) all0))
  have hz123 := Nat.le_trans hz81 K104.1
  have V124 : Arv Z T82.heap x_pv58 x_kv57 .byte (16 : Int32) [(.int (StrChars.lo8 u0))] (.int 0) := F_4109
  have F125 : Fld Z T82.heap a9 "java/lang/AbstractStringBuilder" "count" "I" (.int 1) := F_3108
  refine Way.to st92 ?_
  show Way _ _ _ _ (T82.setTop (mkF m 11 #[rv px] [(.ref a9)]))
  try clear X34 N44 F_051 F_152 F_253 F_354 F_455 H68 CH69 Sf71 S72 E73 F74 S75 Z77 hk78 O79 K80 hz81 st92 cq98 kq99 qa100 qb101 qc102 N103 K104 hr112 E118
  try clear T33
  obtain ⟨a126, T127, h128, k129, bd130, kc131, X132, e133, E134, hS135, hk136, hZ137, hown138, Ex139, Co140, Va141, Ar142, la143, lb144, hr145, lit146, sfn147, st148⟩ := ldcCH X83 hx hZ0 hown0 (tw hw 92 rfl) wS rfl hS0 hk120 hEL (by decide) H110 (vs := ([46] : List Int32).map fun c => Value.int (StrChars.lo8 c)) (z := (1 : Int32)) ⟨by decide, by decide⟩ (by decide) rfl (g := (mkF m 11 #[rv px] [(.ref a9)])) rfl (hb hby dNF0_11) (n := 4) (by decide) (by decide) (by decide) (by decide)
  have Sf152 := CHr.safe hr145 V124.lt Sf113
  have H149 := hr145.1
  have CH150 := CH111.trans hr145
  have S153 := S114.ext E134
  have E154 := Exa.ext E134 E115
  have F155 := Fld.ext E134 F116
  have S156 := S117.ext E134
  have E157 := Exa.ext E134 F_0105
  have F158 := Fld.ext E134 F_1106
  have F159 := Fld.ext E134 F_2107
  have F160 := Fld.ext E134 F125
  have A161 := V124.ext E134
  have Z162 := Nat.le_trans Z119 E134.1
  have O163 := O121.ext E134
  have K164 := K122.ext E134
  have hz165 := Nat.le_trans hz123 E134.1
  have F166 : own_Str Z h128 a126 bd130 [46] := ⟨Ex139, Va141, Co140, ⟨_, _, _, Ar142, Or.inl ⟨rfl, rfl, rfl, by decide⟩⟩, by decide, by decide⟩
  have ne167 := sfn147 x_pv58 Sf152
  have ne168 := sfn147 ud (Safe.exa hZ137.alike E154 (by decide) (by decide))
  have ne169 := sfn147 a9 (Safe.exa hZ137.alike E157 (by decide) (by decide))
  refine Way.by st148 ?_
  show Way _ _ _ _ (T127.setTop (mkF m 13 #[rv px] [(.ref a126), (.ref a9)]))
  try clear X83 F_0105 F_1106 F_2107 H110 CH111 Sf113 S114 E115 F116 S117 Z119 hk120 O121 K122 hz123 V124 F125 E134 hr145 st148
  try clear T82
  obtain ⟨cq186, kq187, qa188, qb189, qc190⟩ := isOf hZ137 e133 E157
  obtain ⟨_, _, ⟨T170, L172, k173, n174⟩, -, X171, ⟨Lc175, hQ176, l177, y178, z179⟩, st180⟩ := X132.virtualBack hx (y := (⟨"java/lang/StringBuilder", "append", "(Ljava/lang/String;)Ljava/lang/StringBuilder;"⟩ : MethodName)) (z := (⟨"java/lang/StringBuilder", "append", "(Ljava/lang/String;)Ljava/lang/StringBuilder;"⟩ : MethodName)) hown138 (mvT hZ137 (tw hw 44 rfl)) (mvT hZ137 (tw hw 45 rfl)) (notFace_of_selects (args := #[]) (mvT hZ137 (tw hw 47 rfl))) (mvT hZ137 (tw hw 47 rfl)) (mvT hZ137 (tw hw 46 rfl)) (by decide) (backOf (W := 0) (rmSA l Z a0 hw [] a9 x_pv58 x_kv57 a126 bd130 (1 : Int32) [(.int (StrChars.lo8 u0))] [46] h128 n0 Z162 E157 F158 F159 F160 A161 F166 ⟨by decide, (show ¬ (1 : Int32) < 0 by decide), rfl, rfl, (show 1 + 1 ≤ 16 by decide), (show ¬ (0 : Int32) < (1 : Int32) + (1 : Int32) - (16 : Int32) by decide), by decide⟩ ne167.1.symm ne167.2.symm ne64 ne169.1.symm ne169.2.symm nw16 nw65 O163 SV) hZ137 (tw hw 48 rfl) (tw hw 28 rfl) (by decide) (by decide)) qa188 qc190 (g := (mkF m 13 #[rv px] [(.ref a126), (.ref a9)])) rfl (by rw [hml]; rfl) (Steps.refl _) (argsL := [(.ref a126)]) (rest := []) (lenOf pdSA rfl) rfl (leW rfl) (hb hby dNF0_13) (fun _ _ => ⟨rfl, e133, (leB rfl), (leB rfl)⟩)
  dsimp only [Pt.U, Pt.locs, Pt.cells, Pt.slots] at X171 l177 y178 z179 st180 hQ176
  subst y178 z179
  obtain ⟨rfl, N191, K192, F_0193, F_1194, F_2195, F_3196, F_4197⟩ := hQ176
  have N181 : Fr n0 L172 := by rw [l177]; exact Fr.app N93 N191
  have hr200 := CHr.keep K192 (sfS (Safe.exa hZ137.alike E157 (by decide) (by decide)) (sfS Sf152 sf0)) H149
  have Sf201 := Safe.keep K192 (sfS (Safe.exa hZ137.alike E157 (by decide) (by decide)) (sfS Sf152 sf0)) H149 Sf152
  have H198 := hr200.1
  have CH199 := CH150.trans hr200
  have S202 := S153.keep K192 (ninS ne11 (ninS ne59 nin0)) (ninS ne12 (ninS ne60 nin0))
  have E203 := E154.keep K192
  have F204 := F155.keep K192 (ninS ne13 (ninS ne61 nin0))
  have S205 := S156.keep K192 (ninS ne14 (ninS ne62 nin0)) (ninS ne15 (ninS ne63 nin0))
  have E206 := E157.keep K192
  have S207 := F166.keep K192 (ninS ne169.1.symm (ninS ne167.1.symm nin0)) (ninS ne169.2.symm (ninS ne167.2.symm nin0))
  have Z208 := Nat.le_trans Z162 K192.1
  have hk209 := Nat.le_trans hk136 K192.1
  have O210 := O163.keep K192 (allS nw16 (allS nw65 all0))
  have K211 := K164.trans K192 (allS (Or.inr hk17) (allS (Or.inr hk66) all0))
  have hz212 := Nat.le_trans hz165 K192.1
  have V213 : Arv Z T170.heap x_pv58 x_kv57 .byte (16 : Int32) [(.int (StrChars.lo8 u0)), (.int 46)] (.int 0) := F_4197
  have F214 : Fld Z T170.heap a9 "java/lang/AbstractStringBuilder" "count" "I" (.int 2) := F_3196
  refine Way.to st180 ?_
  show Way _ _ _ _ (T170.setTop (mkF m 16 #[rv px] [(.ref a9)]))
  try clear N93 X132 e133 hk136 H149 CH150 Sf152 S153 E154 F155 S156 E157 F158 F159 F160 A161 Z162 O163 K164 hz165 F166 st180 cq186 kq187 qa188 qb189 qc190 N191 K192 hr200 E206
  try clear h128
  obtain ⟨T215, X216, e217, st218⟩ := getS X171 hx hZ137 hown138 (host := "") (tw hw 93 rfl) Via.refl rfl (Sta.ext O210.2 SDG) (g := (mkF m 16 #[rv px] [(.ref a9)])) rfl (hb hby dNF0_16)
  refine Way.by st218 ?_
  show Way _ _ _ _ (T215.setTop (mkF m 19 #[rv px] [(.ref ud), (.ref a9)]))
  obtain ⟨cq235, kq236, qa237, qb238, qc239⟩ := isOf hZ137 e217 E203
  obtain ⟨_, _, ⟨T219, L221, k222, n223⟩, -, X220, ⟨Lc224, hQ225, l226, y227, z228⟩, st229⟩ := X216.virtualBack hx (y := (⟨"com/example/longhold/longhold/store/DigestAlgorithm", "label", "()Ljava/lang/String;"⟩ : MethodName)) (z := (⟨"com/example/longhold/longhold/store/DigestAlgorithm", "label", "()Ljava/lang/String;"⟩ : MethodName)) hown138 (mvT hZ137 (tw hw 97 rfl)) (mvT hZ137 (tw hw 98 rfl)) (notFace_of_selects (args := #[]) (mvT hZ137 (tw hw 100 rfl))) (mvT hZ137 (tw hw 100 rfl)) (mvT hZ137 (tw hw 99 rfl)) (by decide) (backOf (W := 1) (rmLB l Z a0 hw [] ud ul T170.heap n0 Z208 F204) hZ137 (tw hw 101 rfl) (tw hw 95 rfl) (by decide) (by decide)) qa237 qc239 (g := (mkF m 19 #[rv px] [(.ref ud), (.ref a9)])) rfl (by rw [hml]; rfl) (Steps.refl _) (argsL := []) (rest := [(.ref a9)]) (lenOf pdLB rfl) rfl (leW rfl) (hb hby dNF0_19) (fun _ _ => ⟨rfl, e217, (leB rfl), (leB rfl)⟩)
  dsimp only [Pt.U, Pt.locs, Pt.cells, Pt.slots] at X220 l226 y227 z228 st229 hQ225
  subst y227 z228
  obtain ⟨rfl, N240, e231⟩ := hQ225
  have N230 : Fr n0 L221 := by rw [l226]; exact Fr.app N181 N240
  refine Way.to st229 ?_
  show Way _ _ _ _ (T219.setTop (mkF m 22 #[rv px] [(.ref ul), (.ref a9)]))
  try clear N181 X216 e217 st229 cq235 kq236 qa237 qb238 qc239 N240
  try clear T215
  obtain ⟨cq258, kq259, qa260, qb261, qc262⟩ := isOf hZ137 e231 F_0193
  obtain ⟨_, _, ⟨T242, L244, k245, n246⟩, -, X243, ⟨Lc247, hQ248, l249, y250, z251⟩, st252⟩ := X220.virtualBack hx (y := (⟨"java/lang/StringBuilder", "append", "(Ljava/lang/String;)Ljava/lang/StringBuilder;"⟩ : MethodName)) (z := (⟨"java/lang/StringBuilder", "append", "(Ljava/lang/String;)Ljava/lang/StringBuilder;"⟩ : MethodName)) hown138 (mvT hZ137 (tw hw 44 rfl)) (mvT hZ137 (tw hw 45 rfl)) (notFace_of_selects (args := #[]) (mvT hZ137 (tw hw 47 rfl))) (mvT hZ137 (tw hw 47 rfl)) (mvT hZ137 (tw hw 46 rfl)) (by decide) (backOf (W := 0) (rmSA l Z a0 hw [] a9 x_pv58 x_kv57 ul ult (2 : Int32) [(.int (StrChars.lo8 u0)), (.int 46)] [115, 104, 97, 53, 49, 50] T170.heap n0 Z208 F_0193 F_1194 F_2195 F214 V213 S205 ⟨by decide, (show ¬ (6 : Int32) < 0 by decide), rfl, rfl, (show 2 + 6 ≤ 16 by decide), (show ¬ (0 : Int32) < (2 : Int32) + (6 : Int32) - (16 : Int32) by decide), by decide⟩ ne62 ne63 ne64 ne14 ne15 nw16 nw65 O210 SV) hZ137 (tw hw 48 rfl) (tw hw 28 rfl) (by decide) (by decide)) qa260 qc262 (g := (mkF m 22 #[rv px] [(.ref ul), (.ref a9)])) rfl (by rw [hml]; rfl) (Steps.refl _) (argsL := [(.ref ul)]) (rest := []) (lenOf pdSA rfl) rfl (leW rfl) (hb hby dNF0_22) (fun _ _ => ⟨rfl, e231, (leB rfl), (leB rfl)⟩)
  dsimp only [Pt.U, Pt.locs, Pt.cells, Pt.slots] at X243 l249 y250 z251 st252 hQ248
  subst y250 z251
  obtain ⟨rfl, N263, K264, F_0265, F_1266, F_2267, F_3268, F_4269⟩ := hQ248
  have N253 : Fr n0 L244 := by rw [l249]; exact Fr.app N230 N263
  have hr272 := CHr.keep K264 (sfS (Safe.exa hZ137.alike F_0193 (by decide) (by decide)) (sfS Sf201 sf0)) H198
  have Sf273 := Safe.keep K264 (sfS (Safe.exa hZ137.alike F_0193 (by decide) (by decide)) (sfS Sf201 sf0)) H198 Sf201
  have H270 := hr272.1
  have CH271 := CH199.trans hr272
  have S274 := S202.keep K264 (ninS ne11 (ninS ne59 nin0)) (ninS ne12 (ninS ne60 nin0))
  have E275 := E203.keep K264
  have F276 := F204.keep K264 (ninS ne13 (ninS ne61 nin0))
  have S277 := S205.keep K264 (ninS ne14 (ninS ne62 nin0)) (ninS ne15 (ninS ne63 nin0))
  have E278 := F_0193.keep K264
  have S279 := S207.keep K264 (ninS ne169.1.symm (ninS ne167.1.symm nin0)) (ninS ne169.2.symm (ninS ne167.2.symm nin0))
  have Z280 := Nat.le_trans Z208 K264.1
  have hk281 := Nat.le_trans hk209 K264.1
  have O282 := O210.keep K264 (allS nw16 (allS nw65 all0))
  have K283 := K211.trans K264 (allS (Or.inr hk17) (allS (Or.inr hk66) all0))
  have hz284 := Nat.le_trans hz212 K264.1
  have V285 : Arv Z T242.heap x_pv58 x_kv57 .byte (16 : Int32) [(.int (StrChars.lo8 u0)), (.int 46), (.int 115), (.int 104), (.int 97), (.int 53), (.int 49), (.int 50)] (.int 0) := F_4269
  have F286 : Fld Z T242.heap a9 "java/lang/AbstractStringBuilder" "count" "I" (.int 8) := F_3268
  refine Way.to st252 ?_
  show Way _ _ _ _ (T242.setTop (mkF m 25 #[rv px] [(.ref a9)]))
  try clear F_0193 F_1194 F_2195 H198 CH199 Sf201 S202 E203 F204 S205 S207 Z208 hk209 O210 K211 hz212 V213 F214 X220 N230 e231 st252 cq258 kq259 qa260 qb261 qc262 N263 K264 hr272 E278
  try clear T170 T219
  obtain ⟨cq303, kq304, qa305, qb306, qc307⟩ := isOf hZ137 rfl F_0265
  obtain ⟨_, _, ⟨T287, L289, k290, n291⟩, -, X288, ⟨Lc292, hQ293, l294, y295, z296⟩, st297⟩ := X243.virtualBack hx (y := (⟨"java/lang/StringBuilder", "toString", "()Ljava/lang/String;"⟩ : MethodName)) (z := (⟨"java/lang/StringBuilder", "toString", "()Ljava/lang/String;"⟩ : MethodName)) hown138 (mvT hZ137 (tw hw 104 rfl)) (mvT hZ137 (tw hw 105 rfl)) (notFace_of_selects (args := #[]) (mvT hZ137 (tw hw 107 rfl))) (mvT hZ137 (tw hw 107 rfl)) (mvT hZ137 (tw hw 106 rfl)) (by decide) (backOf (W := 0) (rmTS1 l Z a0 hw [] a9 x_pv58 x_kv57 u0 T242.heap n0 Z280 F_0265 F_1266 F_2267 F286 V285 hbd O282 SV) hZ137 (tw hw 108 rfl) (tw hw 28 rfl) (by decide) (by decide)) qa305 qc307 (g := (mkF m 25 #[rv px] [(.ref a9)])) rfl (by rw [hml]; rfl) (Steps.refl _) (argsL := []) (rest := []) (lenOf pdLB rfl) rfl (leW rfl) (hb hby dNF0_25) (fun _ _ => ⟨rfl, rfl, (leB rfl), (leB rfl)⟩)
  dsimp only [Pt.U, Pt.locs, Pt.cells, Pt.slots] at X288 l294 y295 z296 st297 hQ293
  subst y295 z296
  obtain ⟨x_bx314, x_bt313, rfl, N308, K309, fr_bx312, fr_bt311, F_0310⟩ := hQ293
  have N298 : Fr n0 L289 := by rw [l294]; exact Fr.app N253 N308
  have ne315 : px ≠ x_bx314 := Nat.ne_of_lt (Nat.lt_of_lt_of_le S274.lt1 fr_bx312)
  have ne316 : pt ≠ x_bx314 := Nat.ne_of_lt (Nat.lt_of_lt_of_le S274.lt2 fr_bx312)
  have ne317 : ud ≠ x_bx314 := Nat.ne_of_lt (Nat.lt_of_lt_of_le E275.lt fr_bx312)
  have ne318 : ul ≠ x_bx314 := Nat.ne_of_lt (Nat.lt_of_lt_of_le S277.lt1 fr_bx312)
  have ne319 : ult ≠ x_bx314 := Nat.ne_of_lt (Nat.lt_of_lt_of_le S277.lt2 fr_bx312)
  have ne320 : a9 ≠ x_bx314 := Nat.ne_of_lt (Nat.lt_of_lt_of_le F_0265.lt fr_bx312)
  have ne321 : a126 ≠ x_bx314 := Nat.ne_of_lt (Nat.lt_of_lt_of_le S279.lt1 fr_bx312)
  have ne322 : bd130 ≠ x_bx314 := Nat.ne_of_lt (Nat.lt_of_lt_of_le S279.lt2 fr_bx312)
  have ne323 : x_pv58 ≠ x_bx314 := Nat.ne_of_lt (Nat.lt_of_lt_of_le V285.lt fr_bx312)
  have nw324 : n0 ≤ x_bx314 := Nat.le_trans Z280 fr_bx312
  have hk325 : h0.size ≤ x_bx314 := Nat.le_trans hz284 fr_bx312
  have Sf326 : Safe Z own_EL T127.vm T242.heap x_bx314 := Safe.new fr_bx312
  have ne327 : px ≠ x_bt313 := Nat.ne_of_lt (Nat.lt_of_lt_of_le S274.lt1 fr_bt311)
  have ne328 : pt ≠ x_bt313 := Nat.ne_of_lt (Nat.lt_of_lt_of_le S274.lt2 fr_bt311)
  have ne329 : ud ≠ x_bt313 := Nat.ne_of_lt (Nat.lt_of_lt_of_le E275.lt fr_bt311)
  have ne330 : ul ≠ x_bt313 := Nat.ne_of_lt (Nat.lt_of_lt_of_le S277.lt1 fr_bt311)
  have ne331 : ult ≠ x_bt313 := Nat.ne_of_lt (Nat.lt_of_lt_of_le S277.lt2 fr_bt311)
  have ne332 : a9 ≠ x_bt313 := Nat.ne_of_lt (Nat.lt_of_lt_of_le F_0265.lt fr_bt311)
  have ne333 : a126 ≠ x_bt313 := Nat.ne_of_lt (Nat.lt_of_lt_of_le S279.lt1 fr_bt311)
  have ne334 : bd130 ≠ x_bt313 := Nat.ne_of_lt (Nat.lt_of_lt_of_le S279.lt2 fr_bt311)
  have ne335 : x_pv58 ≠ x_bt313 := Nat.ne_of_lt (Nat.lt_of_lt_of_le V285.lt fr_bt311)
  have nw336 : n0 ≤ x_bt313 := Nat.le_trans Z280 fr_bt311
  have hk337 : h0.size ≤ x_bt313 := Nat.le_trans hz284 fr_bt311
  have Sf338 : Safe Z own_EL T127.vm T242.heap x_bt313 := Safe.new fr_bt311
  have hr341 := CHr.keep K309 sf0 H270
  have Sf342 := Safe.keep K309 sf0 H270 Sf273
  have Sf343 := Safe.keep K309 sf0 H270 Sf326
  have Sf344 := Safe.keep K309 sf0 H270 Sf338
  have H339 := hr341.1
  have CH340 := CH271.trans hr341
  have S345 := S274.keep K309 nin0 nin0
  have E346 := E275.keep K309
  have F347 := F276.keep K309 nin0
  have S348 := S277.keep K309 nin0 nin0
  have E349 := F_0265.keep K309
  have S350 := S279.keep K309 nin0 nin0
  have F351 := F_1266.keep K309 nin0
  have F352 := F_2267.keep K309 nin0
  have F353 := F286.keep K309 nin0
  have A354 := V285.keep K309 nin0
  have Z355 := Nat.le_trans Z280 K309.1
  have hk356 := Nat.le_trans hk281 K309.1
  have O357 := O282.keep K309 all0
  have K358 := K283.trans K309 all0
  have hz359 := Nat.le_trans hz284 K309.1
  refine Way.to st297 ?_
  show Way _ _ _ _ (T287.setTop (mkF m 28 #[rv px] [(.ref x_bx314)]))
  try clear X243 N253 F_0265 F_1266 F_2267 H270 CH271 Sf273 S274 E275 F276 S277 S279 Z280 hk281 O282 K283 hz284 V285 F286 st297 cq303 kq304 qa305 qb306 qc307 N308 K309 hr341
  try clear T242
  refine Way.retH (v := (some (.ref x_bx314))) X288 hS135 (by exact hk356) hZ137 hEL hh rfl H339 CH340 hlk (fun h => by rw [Bd.returns] at h; cases h) (fun fs hr => retOut X288 hx Bd.returns rfl (Or.inr (Or.inr (Or.inr (Or.inr ⟨rfl, rfl, rfl⟩)))) (hb hby dNF0_28) hr) ?_ (by decide) (by decide)
  show QNF1 Z px pt u0 ud ul ult h0 n0 _ T287.heap _
  skip
  exact ⟨x_bx314, x_bt313, rfl, N298, K358, F_0310⟩
def QCL2 (Z : State)  (h0 : Heap) (n0 : Nat) (v : Option Value) (h : Heap) (L : List Loc) : Prop := v = none ∧ Fr n0 L ∧ h = h0
set_option maxRecDepth 65536 in
set_option maxHeartbeats 40000000 in
theorem rmCL2 (l : Launch) (Z : State) (a0 : Array Value) (hw : ∀ d ∈ tables_1, d.before a0 Z = true) (ws : List Jvm.Cond)  (h0 : Heap) (n0 : Nat) (Z0 : n0 ≤ h0.size)  :
    MetFree l (⟨"java/util/Arrays", "checkLength", "(II)V"⟩ : MethodName) (head1 (Jvm.Cond.code (⟨"java/util/Arrays", "checkLength", "(II)V"⟩ : MethodName) jdk_65_method_131_code 2 none :: ws) ({ frames := 0, cells := 0, slots := 0, locals := 0 } : Room)) (fun aa U => aa = #[(.int 0), (.int 9)] ∧ Z.Warmed39 U.vm ∧ U.heap = h0) (fun _ _ _ _ _ => True) (fun _ U oo U' => ∃ v L, oo = .returned v ∧ QCL2 Z  h0 n0 v U'.heap L ∧ FrameEnd U oo U' L ({ frames := 0, cells := 0, slots := 0, locals := 0 } : Room).cells ({ frames := 0, cells := 0, slots := 0, locals := 0 } : Room).slots) := by
  refine MetFree.of_bodySF (plainFor_of_name pnCL0) hisR ?_
  intro p e s m args below meth c s₁ Bd hml0 hP hK
  obtain ⟨rfl, hZ, hh⟩ := hP
  have hx := Bd.exec
  have hby := Bd.bytes
  have hlk : meth.locks = false := BodyLoose.notSynchronized Bd
  have hml : c.maxLocals = 2 := hml0
  have hown : s.vm.findClass "java/util/Arrays" = some m.cls := findClass_of_methodNamed Bd.named
  have hnm := (name_of_methodNamed Bd.named Bd.method).1
  have X0 : Stand p l e ({ frames := 0, cells := 0, slots := 0, locals := 0 } : Room) s m #[(.int 0), (.int 9)] below meth c s₁ [] 0 0 := Stand.of_body Bd
  have e0 : s₁.heap = h0 := by rw [← hh, Bd.state]; rfl
  have N0 := Fr.nil n0
  have ef : entryFrame m #[(.int 0), (.int 9)] 2 = mkF m 0 #[iv 0, iv 9] [] := by first | (simp [entryFrame, mkF, argsToLocals, Value.category, maxLocals]; done) | rfl
  show Way p.tables e below (KQ s (QCL2 Z  h0 n0) ({ frames := 0, cells := 0, slots := 0, locals := 0 } : Room).cells ({ frames := 0, cells := 0, slots := 0, locals := 0 } : Room).slots) (s₁.setTop (entryFrame m #[(.int 0), (.int 9)] 2))
  rw [ef]
  refine Way.by (fun _ k => XS.iloadN X0.here hx rfl (hb hby dCL0_0) rfl k) ?_
  refine Way.by (fun _ k => XS.iloadN X0.here hx rfl (hb hby dCL0_1) rfl k) ?_
  show Way _ _ _ _ (s₁.setTop (mkF m 2 #[iv 0, iv 9] [(.int 0), (.int 9)]))
  have b1 : ¬ (9 : Int32) < (0 : Int32) := by decide
  refine Way.by (fun _ k => XS.icmpYes X0.here hx rfl (pc0 := 2) (pc' := 37) rfl (hb hby dCL0_2) rfl (flt b1).2.1 (by decide) (by decide) k) ?_
  show Way _ _ _ _ (s₁.setTop (mkF m 37 #[iv 0, iv 9] []))
  refine Way.ret (v := none) X0 hlk (fun _ => rfl) (fun fs hr => X0.returnOut hx Bd.returns (hb hby dCL0_37) hr) ?_ (by decide) (by decide)
  show QCL2 Z  h0 n0 _ s₁.heap _
  rw [e0]
  exact ⟨rfl, N0, rfl⟩
def QCB2 (Z : State) (pv : Addr) (kv : ClassId) (u0 : Int32) (u1 : Int32) (h0 : Heap) (n0 : Nat) (v : Option Value) (h : Heap) (L : List Loc) : Prop := ∃ (bt : Addr) (kt : ClassId), v = some (.ref bt) ∧ Fr n0 L ∧ Keep h0 h [] ∧ h0.size ≤ bt ∧ Arv Z h bt kt .byte (9 : Int32) [(.int (StrChars.lo8 u0)), (.int (StrChars.lo8 u1)), (.int 46), (.int 115), (.int 104), (.int 97), (.int 53), (.int 49), (.int 50)] (.int 0)
set_option maxRecDepth 65536 in
set_option maxHeartbeats 40000000 in
theorem rmCB2 (l : Launch) (Z : State) (a0 : Array Value) (hw : ∀ d ∈ tables_1, d.before a0 Z = true) (ws : List Jvm.Cond) (pv : Addr) (kv : ClassId) (u0 : Int32) (u1 : Int32) (h0 : Heap) (n0 : Nat) (Z0 : n0 ≤ h0.size) (H0 : Arv Z h0 pv kv .byte (16 : Int32) [(.int (StrChars.lo8 u0)), (.int (StrChars.lo8 u1)), (.int 46), (.int 115), (.int 104), (.int 97), (.int 53), (.int 49), (.int 50)] (.int 0)) :
    MetFree l (⟨"java/util/Arrays", "copyOfRangeByte", "([BII)[B"⟩ : MethodName) (head1 (Jvm.Cond.code (⟨"java/util/Arrays", "copyOfRangeByte", "([BII)[B"⟩ : MethodName) jdk_65_method_133_code 5 (some (.array .byte)) :: ws) ({ frames := 1, cells := 1, slots := 9, locals := 44 } : Room)) (fun aa U => aa = #[(.ref pv), (.int 0), (.int 9)] ∧ Z.Warmed39 U.vm ∧ U.heap = h0) (fun _ _ _ _ _ => True) (fun _ U oo U' => ∃ v L, oo = .returned v ∧ QCB2 Z pv kv u0 u1 h0 n0 v U'.heap L ∧ FrameEnd U oo U' L ({ frames := 1, cells := 1, slots := 9, locals := 44 } : Room).cells ({ frames := 1, cells := 1, slots := 9, locals := 44 } : Room).slots) := by
  refine MetFree.of_bodySF (plainFor_of_name pnCL0) hisR ?_
  intro p e s m args below meth c s₁ Bd hml0 hP hK
  obtain ⟨rfl, hZ, hh⟩ := hP
  have hx := Bd.exec
  have hby := Bd.bytes
  have hlk : meth.locks = false := BodyLoose.notSynchronized Bd
  have hml : c.maxLocals = 5 := hml0
  have hown : s.vm.findClass "java/util/Arrays" = some m.cls := findClass_of_methodNamed Bd.named
  have hnm := (name_of_methodNamed Bd.named Bd.method).1
  have X0 : Stand p l e ({ frames := 1, cells := 1, slots := 9, locals := 44 } : Room) s m #[(.ref pv), (.int 0), (.int 9)] below meth c s₁ [] 0 0 := Stand.of_body Bd
  have e0 : s₁.heap = h0 := by rw [← hh, Bd.state]; rfl
  have N0 := Fr.nil n0
  have ef : entryFrame m #[(.ref pv), (.int 0), (.int 9)] 5 = mkF m 0 #[rv pv, iv 0, iv 9, .unset, .unset] [] := by first | (simp [entryFrame, mkF, argsToLocals, Value.category, maxLocals]; done) | rfl
  show Way p.tables e below (KQ s (QCB2 Z pv kv u0 u1 h0 n0) ({ frames := 1, cells := 1, slots := 9, locals := 44 } : Room).cells ({ frames := 1, cells := 1, slots := 9, locals := 44 } : Room).slots) (s₁.setTop (entryFrame m #[(.ref pv), (.int 0), (.int 9)] 5))
  rw [ef]
  refine Way.by (fun _ k => XS.iloadN X0.here hx rfl (hb hby dCB0_0) rfl k) ?_
  refine Way.by (fun _ k => XS.iloadN X0.here hx rfl (hb hby dCB0_1) rfl k) ?_
  show Way _ _ _ _ (s₁.setTop (mkF m 2 #[rv pv, iv 0, iv 9, .unset, .unset] [(.int 9), (.int 0)]))
  obtain ⟨_, _, ⟨T1, L3, k4, n5⟩, -, X2, ⟨Lc6, hQ7, l8, y9, z10⟩, st11⟩ := Jvm.LawKit.callS X0 hx (y := (⟨"java/util/Arrays", "checkLength", "(II)V"⟩ : MethodName)) hown (mvT hZ (tw hw 141 rfl)) (mvT hZ (tw hw 142 rfl)) (mvT hZ (tw hw 136 rfl)) (mvT hZ (tw hw 143 rfl)) (by decide) (backOf (W := 0) (rmCL2 l Z a0 hw []  h0 n0 Z0 ) hZ (tw hw 143 rfl) (tw hw 136 rfl) (by decide) (by decide)) (g := (mkF m 2 #[rv pv, iv 0, iv 9, .unset, .unset] [(.int 9), (.int 0)])) rfl (by rw [hml]; rfl) (argsL := [(.int 0), (.int 9)]) (rest := []) (lenOf pdCL0 rfl) rfl (leW rfl) (hb hby dCB0_2) (fun _ _ => ⟨rfl, e0, (leB rfl), (leB rfl)⟩)
  dsimp only [Pt.U, Pt.locs, Pt.cells, Pt.slots] at X2 l8 y9 z10 st11 hQ7
  subst y9 z10
  obtain ⟨rfl, N17, e13⟩ := hQ7
  have N12 : Fr n0 L3 := by rw [l8]; exact Fr.app N0 N17
  refine Way.by st11 ?_
  show Way _ _ _ _ (T1.setTop (mkF m 5 #[rv pv, iv 0, iv 9, .unset, .unset] []))
  refine Way.by (fun _ k => XS.iloadN X2.here hx rfl (hb hby dCB0_5) rfl k) ?_
  refine Way.by (fun _ k => XS.iloadN X2.here hx rfl (hb hby dCB0_6) rfl k) ?_
  show Way _ _ _ _ (T1.setTop (mkF m 7 #[rv pv, iv 0, iv 9, .unset, .unset] [(.int 0), (.int 9)]))
  refine Way.by (fun _ k => XS.isub X2.here hx rfl (hb hby dCB0_7) rfl k) ?_
  show Way _ _ _ _ (T1.setTop (mkF m 8 #[rv pv, iv 0, iv 9, .unset, .unset] [(.int 9)]))
  refine Way.by (fun _ k => XS.istoreN X2.here hx rfl (hb hby dCB0_8) rfl (l' := #[rv pv, iv 0, iv 9, iv 9, .unset]) rfl k) ?_
  show Way _ _ _ _ (T1.setTop (mkF m 9 #[rv pv, iv 0, iv 9, iv 9, .unset] []))
  refine Way.by (fun _ k => XS.iloadN X2.here hx rfl (hb hby dCB0_9) rfl k) ?_
  show Way _ _ _ _ (T1.setTop (mkF m 10 #[rv pv, iv 0, iv 9, iv 9, .unset] [(.int 9)]))
  obtain ⟨T19, h20, kc21, X22, e23, E24, A25, st26⟩ := newP X2 hx hZ (tw hw 15 rfl) e13 (g := (mkF m 10 #[rv pv, iv 0, iv 9, iv 9, .unset] [(.int 9)])) rfl (hb hby dCB0_10) rfl (by decide) (cap := 9) (by decide) (by decide) (by decide) (by decide)
  obtain ⟨a27, g28⟩ : ∃ z, z = h0.size := ⟨_, rfl⟩
  rw [← g28] at A25 st26
  have ne30 : pv ≠ a27 := Nat.ne_of_lt (Nat.lt_of_lt_of_eq H0.lt g28.symm)
  have nw31 : n0 ≤ a27 := Nat.le_trans Z0 (Nat.le_of_eq g28.symm)
  have hk32 : h0.size ≤ a27 := Nat.le_trans (Nat.le_refl h0.size) (Nat.le_of_eq g28.symm)
  have A33 := H0.ext E24
  have Z34 := Nat.le_trans Z0 E24.1
  have K35 := (Keep.refl h0 []).ext E24
  have hz36 := Nat.le_trans (Nat.le_refl h0.size) E24.1
  have V29 : Arv Z h20 a27 kc21 .byte (9 : Int32) [] (.int 0) := Arv.new A25 (by decide)
  refine Way.by st26 ?_
  show Way _ _ _ _ (T19.setTop (mkF m 12 #[rv pv, iv 0, iv 9, iv 9, .unset] [(.ref a27)]))
  refine Way.by (fun _ k => XS.astore X22.here hx rfl (hb hby dCB0_12) rfl rfl (l' := #[rv pv, iv 0, iv 9, iv 9, rv a27]) rfl k) ?_
  show Way _ _ _ _ (T19.setTop (mkF m 14 #[rv pv, iv 0, iv 9, iv 9, rv a27] []))
  refine Way.by (fun _ k => XS.aloadN X22.here hx rfl (hb hby dCB0_14) rfl rfl k) ?_
  refine Way.by (fun _ k => XS.iloadN X22.here hx rfl (hb hby dCB0_15) rfl k) ?_
  refine Way.by (fun _ k => XS.aload X22.here hx rfl (hb hby dCB0_16) rfl rfl k) ?_
  show Way _ _ _ _ (T19.setTop (mkF m 18 #[rv pv, iv 0, iv 9, iv 9, rv a27] [(.ref a27), (.int 0), (.ref pv)]))
  refine Way.by (fun _ k => XS.iconst X22.here hx rfl (hb hby dCB0_18) k) ?_
  refine Way.by (fun _ k => XS.aloadN X22.here hx rfl (hb hby dCB0_19) rfl rfl k) ?_
  show Way _ _ _ _ (T19.setTop (mkF m 20 #[rv pv, iv 0, iv 9, iv 9, rv a27] [(.ref pv), (.int 0), (.ref a27), (.int 0), (.ref pv)]))
  obtain ⟨c37, A38, q39, S40, M41, H42, U43⟩ := id A33
  refine Way.by (fun t k => Stand.arraylength X22 hx (hpE e23 A38.1) (arrS hZ A38) (g := (mkF m 20 #[rv pv, iv 0, iv 9, iv 9, rv a27] [(.ref pv), (.int 0), (.ref a27), (.int 0), (.ref pv)])) rfl rfl (hb hby dCB0_20) t k) ?_
  rw [len_of S40 M41]
  show Way _ _ _ _ (T19.setTop (mkF m 21 #[rv pv, iv 0, iv 9, iv 9, rv a27] [(.int 16), (.int 0), (.ref a27), (.int 0), (.ref pv)]))
  refine Way.by (fun _ k => XS.iloadN X22.here hx rfl (hb hby dCB0_21) rfl k) ?_
  show Way _ _ _ _ (T19.setTop (mkF m 22 #[rv pv, iv 0, iv 9, iv 9, rv a27] [(.int 0), (.int 16), (.int 0), (.ref a27), (.int 0), (.ref pv)]))
  refine Way.by (fun _ k => XS.isub X22.here hx rfl (hb hby dCB0_22) rfl k) ?_
  show Way _ _ _ _ (T19.setTop (mkF m 23 #[rv pv, iv 0, iv 9, iv 9, rv a27] [(.int 16), (.int 0), (.ref a27), (.int 0), (.ref pv)]))
  refine Way.by (fun _ k => XS.iloadN X22.here hx rfl (hb hby dCB0_23) rfl k) ?_
  show Way _ _ _ _ (T19.setTop (mkF m 24 #[rv pv, iv 0, iv 9, iv 9, rv a27] [(.int 9), (.int 16), (.int 0), (.ref a27), (.int 0), (.ref pv)]))
  obtain ⟨_, _, ⟨T44, L46, k47, n48⟩, -, X45, ⟨Lc49, hQ50, l51, y52, z53⟩, st54⟩ := Jvm.LawKit.callS X22 hx (y := (⟨"java/lang/Math", "min", "(II)I"⟩ : MethodName)) hown (mvT hZ (tw hw 144 rfl)) (mvT hZ (tw hw 145 rfl)) (mvT hZ (tw hw 146 rfl)) (mvT hZ (tw hw 147 rfl)) (by decide) (backOf (W := 4) (rmMN l Z a0 hw [] (16 : Int32) (9 : Int32) (9 : Int32) h20 n0 Z34 (by decide)) hZ (tw hw 147 rfl) (tw hw 146 rfl) (by decide) (by decide)) (g := (mkF m 24 #[rv pv, iv 0, iv 9, iv 9, rv a27] [(.int 9), (.int 16), (.int 0), (.ref a27), (.int 0), (.ref pv)])) rfl (by rw [hml]; rfl) (argsL := [(.int 16), (.int 9)]) (rest := [(.int 0), (.ref a27), (.int 0), (.ref pv)]) (lenOf pdMN rfl) rfl (leW rfl) (hb hby dCB0_24) (fun _ _ => ⟨rfl, e23, (leB rfl), (leB rfl)⟩)
  dsimp only [Pt.U, Pt.locs, Pt.cells, Pt.slots] at X45 l51 y52 z53 st54 hQ50
  subst y52 z53
  obtain ⟨rfl, N60, e56⟩ := hQ50
  have N55 : Fr n0 L46 := by rw [l51]; exact Fr.app N12 N60
  refine Way.by st54 ?_
  show Way _ _ _ _ (T44.setTop (mkF m 27 #[rv pv, iv 0, iv 9, iv 9, rv a27] [(.int 9), (.int 0), (.ref a27), (.int 0), (.ref pv)]))
  have V62 : Arv Z h20 a27 kc21 .byte (9 : Int32) (List.replicate 9 (Value.int (0 : Int32))) (.int 0) := V29.pad (pad_rep [] (.int 0) 9)
  obtain ⟨T63, h64, L65, X66, e67, N68, K69, V70, st71⟩ := cpA X45 hx hZ hown (tw hw 148 rfl) (tw hw 91 rfl) (tw hw 89 rfl) (tw hw 90 rfl) e56 A33 V62 (us := [(.int (StrChars.lo8 u0)), (.int (StrChars.lo8 u1)), (.int 46), (.int 115), (.int 104), (.int 97), (.int 53), (.int 49), (.int 50)]) (Or.inl ⟨rfl, rfl⟩) (by decide) (by decide) (by decide) (by decide) (by decide) rfl (by decide) N55 nw31 (g := (mkF m 27 #[rv pv, iv 0, iv 9, iv 9, rv a27] [(.int 9), (.int 0), (.ref a27), (.int 0), (.ref pv)])) rfl (by rw [hml]; rfl) rfl (hb hby dCB0_27) (by decide) (W := 0) (leW rfl) (by decide)
  have V72 : Arv Z h64 a27 kc21 .byte (9 : Int32) [(.int (StrChars.lo8 u0)), (.int (StrChars.lo8 u1)), (.int 46), (.int 115), (.int 104), (.int 97), (.int 53), (.int 49), (.int 50)] (.int 0) := V70
  have A73 := A33.keep K69 (ninS ne30 nin0)
  have Z74 := Nat.le_trans Z34 K69.1
  have K75 := K35.trans K69 (allS (Or.inr hk32) all0)
  have hz76 := Nat.le_trans hz36 K69.1
  refine Way.by st71 ?_
  show Way _ _ _ _ (T63.setTop (mkF m 30 #[rv pv, iv 0, iv 9, iv 9, rv a27] []))
  try clear V29 A33 Z34 K35 hz36 X45 N55 e56 V62 K69 V70 st71
  try clear h20 T44
  refine Way.by (fun _ k => XS.aload X66.here hx rfl (hb hby dCB0_30) rfl rfl k) ?_
  show Way _ _ _ _ (T63.setTop (mkF m 32 #[rv pv, iv 0, iv 9, iv 9, rv a27] [(.ref a27)]))
  refine Way.ret (v := (some (.ref a27))) X66 hlk (fun h => by rw [Bd.returns] at h; cases h) (fun fs hr => retOut X66 hx Bd.returns rfl (Or.inr (Or.inr (Or.inr (Or.inr ⟨rfl, rfl, rfl⟩)))) (hb hby dCB0_32) hr) ?_ (by decide) (by decide)
  show QCB2 Z pv kv u0 u1 h0 n0 _ T63.heap _
  rw [e67]
  exact ⟨a27, kc21, rfl, N68, K75, hk32, V72⟩
def QCR2 (Z : State) (pv : Addr) (kv : ClassId) (u0 : Int32) (u1 : Int32) (h0 : Heap) (n0 : Nat) (v : Option Value) (h : Heap) (L : List Loc) : Prop := ∃ (bt : Addr) (kt : ClassId), v = some (.ref bt) ∧ Fr n0 L ∧ Keep h0 h [] ∧ h0.size ≤ bt ∧ Arv Z h bt kt .byte (9 : Int32) [(.int (StrChars.lo8 u0)), (.int (StrChars.lo8 u1)), (.int 46), (.int 115), (.int 104), (.int 97), (.int 53), (.int 49), (.int 50)] (.int 0)
set_option maxRecDepth 65536 in
set_option maxHeartbeats 40000000 in
theorem rmCR2 (l : Launch) (Z : State) (a0 : Array Value) (hw : ∀ d ∈ tables_1, d.before a0 Z = true) (ws : List Jvm.Cond) (pv : Addr) (kv : ClassId) (u0 : Int32) (u1 : Int32) (h0 : Heap) (n0 : Nat) (Z0 : n0 ≤ h0.size) (H0 : Arv Z h0 pv kv .byte (16 : Int32) [(.int (StrChars.lo8 u0)), (.int (StrChars.lo8 u1)), (.int 46), (.int 115), (.int 104), (.int 97), (.int 53), (.int 49), (.int 50)] (.int 0)) :
    MetFree l (⟨"java/util/Arrays", "copyOfRange", "([BII)[B"⟩ : MethodName) (head1 (Jvm.Cond.code (⟨"java/util/Arrays", "copyOfRange", "([BII)[B"⟩ : MethodName) jdk_65_method_132_code 3 (some (.array .byte)) :: ws) ({ frames := 2, cells := 1, slots := 9, locals := 60 } : Room)) (fun aa U => aa = #[(.ref pv), (.int 0), (.int 9)] ∧ Z.Warmed39 U.vm ∧ U.heap = h0) (fun _ _ _ _ _ => True) (fun _ U oo U' => ∃ v L, oo = .returned v ∧ QCR2 Z pv kv u0 u1 h0 n0 v U'.heap L ∧ FrameEnd U oo U' L ({ frames := 2, cells := 1, slots := 9, locals := 60 } : Room).cells ({ frames := 2, cells := 1, slots := 9, locals := 60 } : Room).slots) := by
  refine MetFree.of_bodySF (plainFor_of_name pnCL0) hisR ?_
  intro p e s m args below meth c s₁ Bd hml0 hP hK
  obtain ⟨rfl, hZ, hh⟩ := hP
  have hx := Bd.exec
  have hby := Bd.bytes
  have hlk : meth.locks = false := BodyLoose.notSynchronized Bd
  have hml : c.maxLocals = 3 := hml0
  have hown : s.vm.findClass "java/util/Arrays" = some m.cls := findClass_of_methodNamed Bd.named
  have hnm := (name_of_methodNamed Bd.named Bd.method).1
  have X0 : Stand p l e ({ frames := 2, cells := 1, slots := 9, locals := 60 } : Room) s m #[(.ref pv), (.int 0), (.int 9)] below meth c s₁ [] 0 0 := Stand.of_body Bd
  have e0 : s₁.heap = h0 := by rw [← hh, Bd.state]; rfl
  have N0 := Fr.nil n0
  have ef : entryFrame m #[(.ref pv), (.int 0), (.int 9)] 3 = mkF m 0 #[rv pv, iv 0, iv 9] [] := by first | (simp [entryFrame, mkF, argsToLocals, Value.category, maxLocals]; done) | rfl
  show Way p.tables e below (KQ s (QCR2 Z pv kv u0 u1 h0 n0) ({ frames := 2, cells := 1, slots := 9, locals := 60 } : Room).cells ({ frames := 2, cells := 1, slots := 9, locals := 60 } : Room).slots) (s₁.setTop (entryFrame m #[(.ref pv), (.int 0), (.int 9)] 3))
  rw [ef]
  refine Way.by (fun _ k => XS.iloadN X0.here hx rfl (hb hby dCR0_0) rfl k) ?_
  show Way _ _ _ _ (s₁.setTop (mkF m 1 #[rv pv, iv 0, iv 9] [(.int 0)]))
  have b1 : (0 : Int32) = (0 : Int32) := by decide
  refine Way.by (fun _ k => XS.ifNo X0.here hx rfl (hb hby dCR0_1) rfl ((if0 .ne _).trans (teq b1).2) k) ?_
  show Way _ _ _ _ (s₁.setTop (mkF m 4 #[rv pv, iv 0, iv 9] []))
  refine Way.by (fun _ k => XS.iloadN X0.here hx rfl (hb hby dCR0_4) rfl k) ?_
  refine Way.by (fun _ k => XS.aloadN X0.here hx rfl (hb hby dCR0_5) rfl rfl k) ?_
  show Way _ _ _ _ (s₁.setTop (mkF m 6 #[rv pv, iv 0, iv 9] [(.ref pv), (.int 9)]))
  obtain ⟨c2, A3, q4, S5, M6, H7, U8⟩ := id H0
  refine Way.by (fun t k => Stand.arraylength X0 hx (hpE e0 A3.1) (arrS hZ A3) (g := (mkF m 6 #[rv pv, iv 0, iv 9] [(.ref pv), (.int 9)])) rfl rfl (hb hby dCR0_6) t k) ?_
  rw [len_of S5 M6]
  show Way _ _ _ _ (s₁.setTop (mkF m 7 #[rv pv, iv 0, iv 9] [(.int 16), (.int 9)]))
  have b9 : ¬ (9 : Int32) = (16 : Int32) := by decide
  refine Way.by (fun _ k => XS.icmpNo X0.here hx rfl (hb hby dCR0_7) rfl (feq b9).1 k) ?_
  show Way _ _ _ _ (s₁.setTop (mkF m 10 #[rv pv, iv 0, iv 9] []))
  refine Way.by (fun _ k => XS.aloadN X0.here hx rfl (hb hby dCR0_10) rfl rfl k) ?_
  refine Way.by (fun _ k => XS.iloadN X0.here hx rfl (hb hby dCR0_11) rfl k) ?_
  refine Way.by (fun _ k => XS.iloadN X0.here hx rfl (hb hby dCR0_12) rfl k) ?_
  show Way _ _ _ _ (s₁.setTop (mkF m 13 #[rv pv, iv 0, iv 9] [(.int 9), (.int 0), (.ref pv)]))
  obtain ⟨_, _, ⟨T10, L12, k13, n14⟩, -, X11, ⟨Lc15, hQ16, l17, y18, z19⟩, st20⟩ := Jvm.LawKit.callS X0 hx (y := (⟨"java/util/Arrays", "copyOfRangeByte", "([BII)[B"⟩ : MethodName)) hown (mvT hZ (tw hw 138 rfl)) (mvT hZ (tw hw 139 rfl)) (mvT hZ (tw hw 136 rfl)) (mvT hZ (tw hw 140 rfl)) (by decide) (backOf (W := 0) (rmCB2 l Z a0 hw [] pv kv u0 u1 h0 n0 Z0 H0) hZ (tw hw 140 rfl) (tw hw 136 rfl) (by decide) (by decide)) (g := (mkF m 13 #[rv pv, iv 0, iv 9] [(.int 9), (.int 0), (.ref pv)])) rfl (by rw [hml]; rfl) (argsL := [(.ref pv), (.int 0), (.int 9)]) (rest := []) (lenOf pdCB0 rfl) rfl (leW rfl) (hb hby dCR0_13) (fun _ _ => ⟨rfl, e0, (leB rfl), (leB rfl)⟩)
  dsimp only [Pt.U, Pt.locs, Pt.cells, Pt.slots] at X11 l17 y18 z19 st20 hQ16
  subst y18 z19
  obtain ⟨x_bt30, x_kt31, rfl, N26, K27, fr_bt29, F_028⟩ := hQ16
  have N21 : Fr n0 L12 := by rw [l17]; exact Fr.app N0 N26
  have ne32 : pv ≠ x_bt30 := Nat.ne_of_lt (Nat.lt_of_lt_of_le H0.lt fr_bt29)
  have nw33 : n0 ≤ x_bt30 := Nat.le_trans Z0 fr_bt29
  have hk34 : h0.size ≤ x_bt30 := Nat.le_trans (Nat.le_refl h0.size) fr_bt29
  have A35 := H0.keep K27 nin0
  have Z36 := Nat.le_trans Z0 K27.1
  have K37 := (Keep.refl h0 []).trans K27 all0
  have hz38 := Nat.le_trans (Nat.le_refl h0.size) K27.1
  refine Way.by st20 ?_
  show Way _ _ _ _ (T10.setTop (mkF m 16 #[rv pv, iv 0, iv 9] [(.ref x_bt30)]))
  refine Way.ret (v := (some (.ref x_bt30))) X11 hlk (fun h => by rw [Bd.returns] at h; cases h) (fun fs hr => retOut X11 hx Bd.returns rfl (Or.inr (Or.inr (Or.inr (Or.inr ⟨rfl, rfl, rfl⟩)))) (hb hby dCR0_16) hr) ?_ (by decide) (by decide)
  show QCR2 Z pv kv u0 u1 h0 n0 _ T10.heap _
  skip
  exact ⟨x_bt30, x_kt31, rfl, N21, K37, hk34, F_028⟩
def QS22 (Z : State) (px : Addr) (pa : Addr) (pv : Addr) (kv : ClassId) (u0 : Int32) (u1 : Int32) (h0 : Heap) (n0 : Nat) (v : Option Value) (h : Heap) (L : List Loc) : Prop := ∃ (bt : Addr), v = none ∧ Fr n0 L ∧ Keep h0 h [px] ∧ h0.size ≤ bt ∧ own_Str Z h px bt [u0, u1, 46, 115, 104, 97, 53, 49, 50]
set_option maxRecDepth 65536 in
set_option maxHeartbeats 40000000 in
theorem rmS22 (l : Launch) (Z : State) (a0 : Array Value) (hw : ∀ d ∈ tables_1, d.before a0 Z = true) (ws : List Jvm.Cond) (px : Addr) (pa : Addr) (pv : Addr) (kv : ClassId) (u0 : Int32) (u1 : Int32) (h0 : Heap) (n0 : Nat) (Z0 : n0 ≤ h0.size) (H0 : Exa Z h0 pa "java/lang/StringBuilder") (H1 : Fld Z h0 pa "java/lang/AbstractStringBuilder" "value" "[B" (.ref pv)) (H2 : Fld Z h0 pa "java/lang/AbstractStringBuilder" "coder" "B" (.int 0)) (H3 : Fld Z h0 pa "java/lang/AbstractStringBuilder" "count" "I" (.int 9)) (H4 : Arv Z h0 pv kv .byte (16 : Int32) [(.int (StrChars.lo8 u0)), (.int (StrChars.lo8 u1)), (.int 46), (.int 115), (.int 104), (.int 97), (.int 53), (.int 49), (.int 50)] (.int 0)) (H5 : Exa Z h0 px "java/lang/String") (H6 : Fld Z h0 px "java/lang/String" "value" "[B" .null) (H7 : Fld Z h0 px "java/lang/String" "coder" "B" (.int 0)) (hbd : ∀ c ∈ ([u0, u1, 46, 115, 104, 97, 53, 49, 50] : List Int32), ¬ c < 0 ∧ ¬ (255 : Int32) < c) (ne_pa_px : pa ≠ px) (ne_pv_px : pv ≠ px) (nw_px : n0 ≤ px) (O0 : Old Z n0 h0) (SV : own_Env Z) :
    MetFree l (⟨"java/lang/String", "<init>", "(Ljava/lang/AbstractStringBuilder;Ljava/lang/Void;)V"⟩ : MethodName) (head1 (Jvm.Cond.code (⟨"java/lang/String", "<init>", "(Ljava/lang/AbstractStringBuilder;Ljava/lang/Void;)V"⟩ : MethodName) jdk_42_method_150_code 5 none :: ws) ({ frames := 3, cells := 1, slots := 9, locals := 75 } : Room)) (fun aa U => aa = #[(.ref px), (.ref pa), .null] ∧ Z.Warmed39 U.vm ∧ U.heap = h0) (fun _ _ _ _ _ => True) (fun _ U oo U' => ∃ v L, oo = .returned v ∧ QS22 Z px pa pv kv u0 u1 h0 n0 v U'.heap L ∧ FrameEnd U oo U' L ({ frames := 3, cells := 1, slots := 9, locals := 75 } : Room).cells ({ frames := 3, cells := 1, slots := 9, locals := 75 } : Room).slots) := by
  refine MetFree.of_bodySF (plainFor_of_name pnCD) hisR ?_
  intro p e s m args below meth c s₁ Bd hml0 hP hK
  obtain ⟨rfl, hZ, hh⟩ := hP
  have hx := Bd.exec
  have hby := Bd.bytes
  have hlk : meth.locks = false := BodyLoose.notSynchronized Bd
  have hml : c.maxLocals = 5 := hml0
  have hown : s.vm.findClass "java/lang/String" = some m.cls := findClass_of_methodNamed Bd.named
  have hnm := (name_of_methodNamed Bd.named Bd.method).1
  have X0 : Stand p l e ({ frames := 3, cells := 1, slots := 9, locals := 75 } : Room) s m #[(.ref px), (.ref pa), .null] below meth c s₁ [] 0 0 := Stand.of_body Bd
  have e0 : s₁.heap = h0 := by rw [← hh, Bd.state]; rfl
  have N0 := Fr.nil n0
  have ef : entryFrame m #[(.ref px), (.ref pa), .null] 5 = mkF m 0 #[rv px, rv pa, .val .null, .unset, .unset] [] := by first | (simp [entryFrame, mkF, argsToLocals, Value.category, maxLocals]; done) | rfl
  show Way p.tables e below (KQ s (QS22 Z px pa pv kv u0 u1 h0 n0) ({ frames := 3, cells := 1, slots := 9, locals := 75 } : Room).cells ({ frames := 3, cells := 1, slots := 9, locals := 75 } : Room).slots) (s₁.setTop (entryFrame m #[(.ref px), (.ref pa), .null] 5))
  rw [ef]
  refine Way.by (fun _ k => XS.aloadN X0.here hx rfl (hb hby dS20_0) rfl rfl k) ?_
  show Way _ _ _ _ (s₁.setTop (mkF m 1 #[rv px, rv pa, .val .null, .unset, .unset] [(.ref px)]))
  obtain ⟨T1, X2, e3, st4⟩ := initO X0 hx hZ hown (tw hw 11 rfl) (tw hw 12 rfl) (tw hw 13 rfl) e0 (g := (mkF m 1 #[rv px, rv pa, .val .null, .unset, .unset] [(.ref px)])) rfl (by rw [hml]; rfl) rfl (hb hby dS20_1) (by decide) (W := 0) (leW rfl) (by decide)
  refine Way.by st4 ?_
  show Way _ _ _ _ (T1.setTop (mkF m 4 #[rv px, rv pa, .val .null, .unset, .unset] []))
  refine Way.by (fun _ k => XS.aloadN X2.here hx rfl (hb hby dS20_4) rfl rfl k) ?_
  show Way _ _ _ _ (T1.setTop (mkF m 5 #[rv px, rv pa, .val .null, .unset, .unset] [(.ref pa)]))
  obtain ⟨cq21, kq22, qa23, qb24, qc25⟩ := isOf hZ e3 H0
  obtain ⟨_, _, ⟨T5, L7, k8, n9⟩, -, X6, ⟨Lc10, hQ11, l12, y13, z14⟩, st15⟩ := X2.virtualBack hx (y := (⟨"java/lang/AbstractStringBuilder", "getValue", "()[B"⟩ : MethodName)) (z := (⟨"java/lang/AbstractStringBuilder", "getValue", "()[B"⟩ : MethodName)) hown (mvT hZ (tw hw 116 rfl)) (mvT hZ (tw hw 117 rfl)) (notFace_of_selects (args := #[]) (mvT hZ (tw hw 119 rfl))) (mvT hZ (tw hw 119 rfl)) (mvT hZ (tw hw 118 rfl)) (by decide) (backOf (W := 0) (rmGV l Z a0 hw [] pa pv h0 n0 Z0 H1) hZ (tw hw 120 rfl) (tw hw 36 rfl) (by decide) (by decide)) qa23 qc25 (g := (mkF m 5 #[rv px, rv pa, .val .null, .unset, .unset] [(.ref pa)])) rfl (by rw [hml]; rfl) (Steps.refl _) (argsL := []) (rest := []) (lenOf pdGV rfl) rfl (leW rfl) (hb hby dS20_5) (fun _ _ => ⟨rfl, e3, (leB rfl), (leB rfl)⟩)
  dsimp only [Pt.U, Pt.locs, Pt.cells, Pt.slots] at X6 l12 y13 z14 st15 hQ11
  subst y13 z14
  obtain ⟨rfl, N26, e17⟩ := hQ11
  have N16 : Fr n0 L7 := by rw [l12]; exact Fr.app N0 N26
  refine Way.to st15 ?_
  show Way _ _ _ _ (T5.setTop (mkF m 8 #[rv px, rv pa, .val .null, .unset, .unset] [(.ref pv)]))
  try clear X2 e3 st15 cq21 kq22 qa23 qb24 qc25 N26
  try clear T1
  refine Way.by (fun _ k => XS.astoreN X6.here hx rfl (hb hby dS20_8) rfl rfl (l' := #[rv px, rv pa, .val .null, rv pv, .unset]) rfl k) ?_
  show Way _ _ _ _ (T5.setTop (mkF m 9 #[rv px, rv pa, .val .null, rv pv, .unset] []))
  refine Way.by (fun _ k => XS.aloadN X6.here hx rfl (hb hby dS20_9) rfl rfl k) ?_
  show Way _ _ _ _ (T5.setTop (mkF m 10 #[rv px, rv pa, .val .null, rv pv, .unset] [(.ref pa)]))
  obtain ⟨cq44, kq45, qa46, qb47, qc48⟩ := isOf hZ e17 H0
  obtain ⟨_, _, ⟨T28, L30, k31, n32⟩, -, X29, ⟨Lc33, hQ34, l35, y36, z37⟩, st38⟩ := X6.virtualBack hx (y := (⟨"java/lang/AbstractStringBuilder", "length", "()I"⟩ : MethodName)) (z := (⟨"java/lang/StringBuilder", "length", "()I"⟩ : MethodName)) hown (mvT hZ (tw hw 121 rfl)) (mvT hZ (tw hw 122 rfl)) (nfSel (args := #[]) (z := (⟨"java/lang/AbstractStringBuilder", "ensureCapacityInternal", "(I)V"⟩ : MethodName)) rfl (mvT hZ (tw hw 70 rfl))) (mvT hZ (tw hw 124 rfl)) (mvT hZ (tw hw 125 rfl)) (by decide) (backOf (W := 0) (rmLS l Z a0 hw [] pa (9 : Int32) h0 n0 Z0 H0 H3) hZ (tw hw 126 rfl) (tw hw 28 rfl) (by decide) (by decide)) qa46 qc48 (g := (mkF m 10 #[rv px, rv pa, .val .null, rv pv, .unset] [(.ref pa)])) rfl (by rw [hml]; rfl) (Steps.refl _) (argsL := []) (rest := []) (lenOf pdLA rfl) rfl (leW rfl) (hb hby dS20_10) (fun _ _ => ⟨rfl, e17, (leB rfl), (leB rfl)⟩)
  dsimp only [Pt.U, Pt.locs, Pt.cells, Pt.slots] at X29 l35 y36 z37 st38 hQ34
  subst y36 z37
  obtain ⟨rfl, N49, e40⟩ := hQ34
  have N39 : Fr n0 L30 := by rw [l35]; exact Fr.app N16 N49
  refine Way.to st38 ?_
  show Way _ _ _ _ (T28.setTop (mkF m 13 #[rv px, rv pa, .val .null, rv pv, .unset] [(.int 9)]))
  try clear X6 N16 e17 st38 cq44 kq45 qa46 qb47 qc48 N49
  try clear T5
  refine Way.by (fun _ k => XS.istore X29.here hx rfl (hb hby dS20_13) rfl (l' := #[rv px, rv pa, .val .null, rv pv, iv 9]) rfl k) ?_
  show Way _ _ _ _ (T28.setTop (mkF m 15 #[rv px, rv pa, .val .null, rv pv, iv 9] []))
  refine Way.by (fun _ k => XS.aloadN X29.here hx rfl (hb hby dS20_15) rfl rfl k) ?_
  show Way _ _ _ _ (T28.setTop (mkF m 16 #[rv px, rv pa, .val .null, rv pv, iv 9] [(.ref pa)]))
  obtain ⟨cq67, kq68, qa69, qb70, qc71⟩ := isOf hZ e40 H0
  obtain ⟨_, _, ⟨T51, L53, k54, n55⟩, -, X52, ⟨Lc56, hQ57, l58, y59, z60⟩, st61⟩ := X29.virtualBack hx (y := (⟨"java/lang/AbstractStringBuilder", "isLatin1", "()Z"⟩ : MethodName)) (z := (⟨"java/lang/AbstractStringBuilder", "isLatin1", "()Z"⟩ : MethodName)) hown (mvT hZ (tw hw 129 rfl)) (mvT hZ (tw hw 130 rfl)) (notFace_of_selects (args := #[]) (mvT hZ (tw hw 132 rfl))) (mvT hZ (tw hw 132 rfl)) (mvT hZ (tw hw 131 rfl)) (by decide) (backOf (W := 0) (rmA1 l Z a0 hw [] pa h0 n0 Z0 H2 O0 SV) hZ (tw hw 133 rfl) (tw hw 36 rfl) (by decide) (by decide)) qa69 qc71 (g := (mkF m 16 #[rv px, rv pa, .val .null, rv pv, iv 9] [(.ref pa)])) rfl (by rw [hml]; rfl) (Steps.refl _) (argsL := []) (rest := []) (lenOf pdA1 rfl) rfl (leW rfl) (hb hby dS20_16) (fun _ _ => ⟨rfl, e40, (leB rfl), (leB rfl)⟩)
  dsimp only [Pt.U, Pt.locs, Pt.cells, Pt.slots] at X52 l58 y59 z60 st61 hQ57
  subst y59 z60
  obtain ⟨rfl, N72, e63⟩ := hQ57
  have N62 : Fr n0 L53 := by rw [l58]; exact Fr.app N39 N72
  refine Way.to st61 ?_
  show Way _ _ _ _ (T51.setTop (mkF m 19 #[rv px, rv pa, .val .null, rv pv, iv 9] [(.int 1)]))
  try clear X29 N39 e40 st61 cq67 kq68 qa69 qb70 qc71 N72
  try clear T28
  have b74 : ¬ (1 : Int32) = (0 : Int32) := by decide
  refine Way.by (fun _ k => XS.ifNo X52.here hx rfl (hb hby dS20_19) rfl ((if0 .eq _).trans (feq b74).1) k) ?_
  show Way _ _ _ _ (T51.setTop (mkF m 22 #[rv px, rv pa, .val .null, rv pv, iv 9] []))
  refine Way.by (fun _ k => XS.aloadN X52.here hx rfl (hb hby dS20_22) rfl rfl k) ?_
  refine Way.by (fun _ k => XS.iconst X52.here hx rfl (hb hby dS20_23) k) ?_
  show Way _ _ _ _ (T51.setTop (mkF m 24 #[rv px, rv pa, .val .null, rv pv, iv 9] [(.int 0), (.ref px)]))
  obtain ⟨T75, h76, X77, e78, W79, st80⟩ := putF X52 hx hZ hown (host := "") (Or.inl (tw hw 21 rfl)) Via.refl e63 H7 H5 (Or.inr ⟨(tw hw 17 rfl), rfl, hnm⟩) (tw hw 2 rfl) (ty := .byte) (by decide) rfl rfl (g := (mkF m 24 #[rv px, rv pa, .val .null, rv pv, iv 9] [(.int 0), (.ref px)])) rfl rfl (hb hby dS20_24)
  have N81 := Fr.snoc X77 N62 nw_px
  have E82 := Exa.wr W79 H0
  have F83 := H1.other W79 (Or.inl ne_pa_px)
  have F84 := H2.other W79 (Or.inl ne_pa_px)
  have F85 := H3.other W79 (Or.inl ne_pa_px)
  have A86 := H4.other W79 ne_pv_px
  have E87 := Exa.wr W79 H5
  have F88 := H6.other W79 (Or.inr (slot_ne (Or.inr (tw hw 16 rfl)) (Or.inr (tw hw 17 rfl)) (by decide) (t := (.array .byte)) (t' := .byte) (by decide) (by decide)))
  have F89 : Fld Z h76 px "java/lang/String" "coder" "B" (.int 0) := H7.same W79
  have Z90 : n0 ≤ h76.size := by rw [W79.size]; exact Z0
  have O91 := O0.wr W79 nw_px
  have K92 := (Keep.refl h0 [px]).wr W79 (Or.inl (List.mem_of_getElem? (i := 0) rfl))
  have hz93 : h0.size ≤ h76.size := by rw [W79.size]; exact (Nat.le_refl h0.size)
  refine Way.by st80 ?_
  show Way _ _ _ _ (T75.setTop (mkF m 27 #[rv px, rv pa, .val .null, rv pv, iv 9] []))
  refine Way.by (fun _ k => XS.aloadN X77.here hx rfl (hb hby dS20_27) rfl rfl k) ?_
  refine Way.by (fun _ k => XS.aloadN X77.here hx rfl (hb hby dS20_28) rfl rfl k) ?_
  refine Way.by (fun _ k => XS.iconst X77.here hx rfl (hb hby dS20_29) k) ?_
  show Way _ _ _ _ (T75.setTop (mkF m 30 #[rv px, rv pa, .val .null, rv pv, iv 9] [(.int 0), (.ref pv), (.ref px)]))
  refine Way.by (fun _ k => XS.iload X77.here hx rfl (hb hby dS20_30) rfl k) ?_
  show Way _ _ _ _ (T75.setTop (mkF m 32 #[rv px, rv pa, .val .null, rv pv, iv 9] [(.int 9), (.int 0), (.ref pv), (.ref px)]))
  obtain ⟨_, _, ⟨T94, L96, k97, n98⟩, -, X95, ⟨Lc99, hQ100, l101, y102, z103⟩, st104⟩ := Jvm.LawKit.callS X77 hx (y := (⟨"java/util/Arrays", "copyOfRange", "([BII)[B"⟩ : MethodName)) hown (mvT hZ (tw hw 134 rfl)) (mvT hZ (tw hw 135 rfl)) (mvT hZ (tw hw 136 rfl)) (mvT hZ (tw hw 137 rfl)) (by decide) (backOf (W := 1) (rmCR2 l Z a0 hw [] pv kv u0 u1 h76 n0 Z90 A86) hZ (tw hw 137 rfl) (tw hw 136 rfl) (by decide) (by decide)) (g := (mkF m 32 #[rv px, rv pa, .val .null, rv pv, iv 9] [(.int 9), (.int 0), (.ref pv), (.ref px)])) rfl (by rw [hml]; rfl) (argsL := [(.ref pv), (.int 0), (.int 9)]) (rest := [(.ref px)]) (lenOf pdCB0 rfl) rfl (leW rfl) (hb hby dS20_32) (fun _ _ => ⟨rfl, e78, (leB rfl), (leB rfl)⟩)
  dsimp only [Pt.U, Pt.locs, Pt.cells, Pt.slots] at X95 l101 y102 z103 st104 hQ100
  subst y102 z103
  obtain ⟨x_bt114, x_kt115, rfl, N110, K111, fr_bt113, F_0112⟩ := hQ100
  have N105 : Fr n0 L96 := by rw [l101]; exact Fr.app N81 N110
  have ne116 : pa ≠ x_bt114 := Nat.ne_of_lt (Nat.lt_of_lt_of_le E82.lt fr_bt113)
  have ne117 : pv ≠ x_bt114 := Nat.ne_of_lt (Nat.lt_of_lt_of_le A86.lt fr_bt113)
  have ne118 : px ≠ x_bt114 := Nat.ne_of_lt (Nat.lt_of_lt_of_le E87.lt fr_bt113)
  have nw119 : n0 ≤ x_bt114 := Nat.le_trans Z90 fr_bt113
  have hk120 : h0.size ≤ x_bt114 := Nat.le_trans hz93 fr_bt113
  have E121 := E82.keep K111
  have F122 := F83.keep K111 nin0
  have F123 := F84.keep K111 nin0
  have F124 := F85.keep K111 nin0
  have A125 := A86.keep K111 nin0
  have E126 := E87.keep K111
  have F127 := F88.keep K111 nin0
  have F128 := F89.keep K111 nin0
  have Z129 := Nat.le_trans Z90 K111.1
  have O130 := O91.keep K111 all0
  have K131 := K92.trans K111 all0
  have hz132 := Nat.le_trans hz93 K111.1
  refine Way.by st104 ?_
  show Way _ _ _ _ (T94.setTop (mkF m 35 #[rv px, rv pa, .val .null, rv pv, iv 9] [(.ref x_bt114), (.ref px)]))
  try clear X77 e78 N81 E82 F83 F84 F85 A86 E87 F88 F89 Z90 O91 K92 hz93 st104 N110 K111
  try clear T75 h76
  obtain ⟨T133, h134, X135, e136, W137, st138⟩ := putF X95 hx hZ hown (host := "") (Or.inl (tw hw 20 rfl)) Via.refl rfl F127 E126 (Or.inr ⟨(tw hw 16 rfl), rfl, hnm⟩) (tw hw 2 rfl) (ty := (.array .byte)) (by decide) rfl rfl (g := (mkF m 35 #[rv px, rv pa, .val .null, rv pv, iv 9] [(.ref x_bt114), (.ref px)])) rfl rfl (hb hby dS20_35)
  have N139 := Fr.snoc X135 N105 nw_px
  have E140 := Exa.wr W137 E121
  have F141 := F122.other W137 (Or.inl ne_pa_px)
  have F142 := F123.other W137 (Or.inl ne_pa_px)
  have F143 := F124.other W137 (Or.inl ne_pa_px)
  have A144 := A125.other W137 ne_pv_px
  have E145 := Exa.wr W137 E126
  have F146 : Fld Z h134 px "java/lang/String" "value" "[B" (.ref x_bt114) := F127.same W137
  have F147 := F128.other W137 (Or.inr (slot_ne (Or.inr (tw hw 17 rfl)) (Or.inr (tw hw 16 rfl)) (by decide) (t := .byte) (t' := (.array .byte)) (by decide) (by decide)))
  have A148 := F_0112.other W137 ne118.symm
  have Z149 : n0 ≤ h134.size := by rw [W137.size]; exact Z129
  have O150 := O130.wr W137 nw_px
  have K151 := K131.wr W137 (Or.inl (List.mem_of_getElem? (i := 0) rfl))
  have hz152 : h0.size ≤ h134.size := by rw [W137.size]; exact hz132
  refine Way.by st138 ?_
  show Way _ _ _ _ (T133.setTop (mkF m 38 #[rv px, rv pa, .val .null, rv pv, iv 9] []))
  try clear X95 N105 F_0112 E121 F122 F123 F124 A125 E126 F127 F128 Z129 O130 K131 hz132 W137 st138
  try clear T94
  refine Way.by (fun _ k => XS.goto X135.here hx rfl (pc0 := 38) (pc' := 97) rfl (hb hby dS20_38) (by decide) (by decide) k) ?_
  show Way _ _ _ _ (T133.setTop (mkF m 97 #[rv px, rv pa, .val .null, rv pv, iv 9] []))
  refine Way.ret (v := none) X135 hlk (fun _ => rfl) (fun fs hr => X135.returnOut hx Bd.returns (hb hby dS20_97) hr) ?_ (by decide) (by decide)
  show QS22 Z px pa pv kv u0 u1 h0 n0 _ T133.heap _
  rw [e136]
  have STR : own_Str Z h134 px x_bt114 [u0, u1, 46, 115, 104, 97, 53, 49, 50] := ⟨E145, F146, F147, ⟨_, _, _, A148, Or.inl ⟨rfl, rfl, rfl, fun c hc => (hbd c hc).2⟩⟩, hbd, Nat.le_of_ble_eq_true rfl⟩
  exact ⟨x_bt114, rfl, N139, K151, hk120, STR⟩
def QS12 (Z : State) (px : Addr) (pa : Addr) (pv : Addr) (kv : ClassId) (u0 : Int32) (u1 : Int32) (h0 : Heap) (n0 : Nat) (v : Option Value) (h : Heap) (L : List Loc) : Prop := ∃ (bt : Addr), v = none ∧ Fr n0 L ∧ Keep h0 h [px] ∧ h0.size ≤ bt ∧ own_Str Z h px bt [u0, u1, 46, 115, 104, 97, 53, 49, 50]
set_option maxRecDepth 65536 in
set_option maxHeartbeats 40000000 in
theorem rmS12 (l : Launch) (Z : State) (a0 : Array Value) (hw : ∀ d ∈ tables_1, d.before a0 Z = true) (ws : List Jvm.Cond) (px : Addr) (pa : Addr) (pv : Addr) (kv : ClassId) (u0 : Int32) (u1 : Int32) (h0 : Heap) (n0 : Nat) (Z0 : n0 ≤ h0.size) (H0 : Exa Z h0 pa "java/lang/StringBuilder") (H1 : Fld Z h0 pa "java/lang/AbstractStringBuilder" "value" "[B" (.ref pv)) (H2 : Fld Z h0 pa "java/lang/AbstractStringBuilder" "coder" "B" (.int 0)) (H3 : Fld Z h0 pa "java/lang/AbstractStringBuilder" "count" "I" (.int 9)) (H4 : Arv Z h0 pv kv .byte (16 : Int32) [(.int (StrChars.lo8 u0)), (.int (StrChars.lo8 u1)), (.int 46), (.int 115), (.int 104), (.int 97), (.int 53), (.int 49), (.int 50)] (.int 0)) (H5 : Exa Z h0 px "java/lang/String") (H6 : Fld Z h0 px "java/lang/String" "value" "[B" .null) (H7 : Fld Z h0 px "java/lang/String" "coder" "B" (.int 0)) (hbd : ∀ c ∈ ([u0, u1, 46, 115, 104, 97, 53, 49, 50] : List Int32), ¬ c < 0 ∧ ¬ (255 : Int32) < c) (ne_pa_px : pa ≠ px) (ne_pv_px : pv ≠ px) (nw_px : n0 ≤ px) (O0 : Old Z n0 h0) (SV : own_Env Z) :
    MetFree l (⟨"java/lang/String", "<init>", "(Ljava/lang/StringBuilder;)V"⟩ : MethodName) (head1 (Jvm.Cond.code (⟨"java/lang/String", "<init>", "(Ljava/lang/StringBuilder;)V"⟩ : MethodName) jdk_42_method_53_code 2 none :: ws) ({ frames := 4, cells := 1, slots := 9, locals := 91 } : Room)) (fun aa U => aa = #[(.ref px), (.ref pa)] ∧ Z.Warmed39 U.vm ∧ U.heap = h0) (fun _ _ _ _ _ => True) (fun _ U oo U' => ∃ v L, oo = .returned v ∧ QS12 Z px pa pv kv u0 u1 h0 n0 v U'.heap L ∧ FrameEnd U oo U' L ({ frames := 4, cells := 1, slots := 9, locals := 91 } : Room).cells ({ frames := 4, cells := 1, slots := 9, locals := 91 } : Room).slots) := by
  refine MetFree.of_bodySF (plainFor_of_name pnCD) hisR ?_
  intro p e s m args below meth c s₁ Bd hml0 hP hK
  obtain ⟨rfl, hZ, hh⟩ := hP
  have hx := Bd.exec
  have hby := Bd.bytes
  have hlk : meth.locks = false := BodyLoose.notSynchronized Bd
  have hml : c.maxLocals = 2 := hml0
  have hown : s.vm.findClass "java/lang/String" = some m.cls := findClass_of_methodNamed Bd.named
  have hnm := (name_of_methodNamed Bd.named Bd.method).1
  have X0 : Stand p l e ({ frames := 4, cells := 1, slots := 9, locals := 91 } : Room) s m #[(.ref px), (.ref pa)] below meth c s₁ [] 0 0 := Stand.of_body Bd
  have e0 : s₁.heap = h0 := by rw [← hh, Bd.state]; rfl
  have N0 := Fr.nil n0
  have ef : entryFrame m #[(.ref px), (.ref pa)] 2 = mkF m 0 #[rv px, rv pa] [] := by first | (simp [entryFrame, mkF, argsToLocals, Value.category, maxLocals]; done) | rfl
  show Way p.tables e below (KQ s (QS12 Z px pa pv kv u0 u1 h0 n0) ({ frames := 4, cells := 1, slots := 9, locals := 91 } : Room).cells ({ frames := 4, cells := 1, slots := 9, locals := 91 } : Room).slots) (s₁.setTop (entryFrame m #[(.ref px), (.ref pa)] 2))
  rw [ef]
  refine Way.by (fun _ k => XS.aloadN X0.here hx rfl (hb hby dS10_0) rfl rfl k) ?_
  refine Way.by (fun _ k => XS.aloadN X0.here hx rfl (hb hby dS10_1) rfl rfl k) ?_
  show Way _ _ _ _ (s₁.setTop (mkF m 2 #[rv px, rv pa] [(.ref pa), (.ref px)]))
  refine Way.by (fun _ k => XS.aconstNull X0.here hx rfl (hb hby dS10_2) k) ?_
  show Way _ _ _ _ (s₁.setTop (mkF m 3 #[rv px, rv pa] [.null, (.ref pa), (.ref px)]))
  obtain ⟨_, _, ⟨T1, L3, k4, n5⟩, -, X2, ⟨Lc6, hQ7, l8, y9, z10⟩, st11⟩ := X0.specialBack hx (y := (⟨"java/lang/String", "<init>", "(Ljava/lang/AbstractStringBuilder;Ljava/lang/Void;)V"⟩ : MethodName)) rfl hown (mvT hZ (tw hw 113 rfl)) (mvT hZ (tw hw 114 rfl)) (mvT hZ (tw hw 115 rfl)) (by decide) (backOf (W := 0) (rmS22 l Z a0 hw [] px pa pv kv u0 u1 h0 n0 Z0 H0 H1 H2 H3 H4 H5 H6 H7 hbd ne_pa_px ne_pv_px nw_px O0 SV) hZ (tw hw 115 rfl) (tw hw 3 rfl) (by decide) (by decide)) (g := (mkF m 3 #[rv px, rv pa] [.null, (.ref pa), (.ref px)])) rfl (by rw [hml]; rfl) (Steps.refl _) (a := px) (argsL := [(.ref pa), .null]) (rest := []) (lenOf pdS20 rfl) rfl (leW rfl) (hb hby dS10_3) (fun _ _ => ⟨rfl, e0, (leB rfl), (leB rfl)⟩)
  dsimp only [Pt.U, Pt.locs, Pt.cells, Pt.slots] at X2 l8 y9 z10 st11 hQ7
  subst y9 z10
  obtain ⟨x_bt21, rfl, N17, K18, fr_bt20, F_019⟩ := hQ7
  have N12 : Fr n0 L3 := by rw [l8]; exact Fr.app N0 N17
  have ne22 : pa ≠ x_bt21 := Nat.ne_of_lt (Nat.lt_of_lt_of_le H0.lt fr_bt20)
  have ne23 : pv ≠ x_bt21 := Nat.ne_of_lt (Nat.lt_of_lt_of_le H4.lt fr_bt20)
  have ne24 : px ≠ x_bt21 := Nat.ne_of_lt (Nat.lt_of_lt_of_le H5.lt fr_bt20)
  have nw25 : n0 ≤ x_bt21 := Nat.le_trans Z0 fr_bt20
  have hk26 : h0.size ≤ x_bt21 := Nat.le_trans (Nat.le_refl h0.size) fr_bt20
  have E27 := H0.keep K18
  have F28 := H1.keep K18 (ninS ne_pa_px nin0)
  have F29 := H2.keep K18 (ninS ne_pa_px nin0)
  have F30 := H3.keep K18 (ninS ne_pa_px nin0)
  have A31 := H4.keep K18 (ninS ne_pv_px nin0)
  have E32 := H5.keep K18
  have Z33 := Nat.le_trans Z0 K18.1
  have O34 := O0.keep K18 (allS nw_px all0)
  have K35 := (Keep.refl h0 [px]).trans K18 (allS (Or.inl (List.mem_of_getElem? (i := 0) rfl)) all0)
  have hz36 := Nat.le_trans (Nat.le_refl h0.size) K18.1
  refine Way.to st11 ?_
  show Way _ _ _ _ (T1.setTop (mkF m 6 #[rv px, rv pa] []))
  refine Way.ret (v := none) X2 hlk (fun _ => rfl) (fun fs hr => X2.returnOut hx Bd.returns (hb hby dS10_6) hr) ?_ (by decide) (by decide)
  show QS12 Z px pa pv kv u0 u1 h0 n0 _ T1.heap _
  skip
  exact ⟨x_bt21, rfl, N12, K35, hk26, F_019⟩
def QTS2 (Z : State) (pa : Addr) (pv : Addr) (kv : ClassId) (u0 : Int32) (u1 : Int32) (h0 : Heap) (n0 : Nat) (v : Option Value) (h : Heap) (L : List Loc) : Prop := ∃ (bx : Addr) (bt : Addr), v = some (.ref bx) ∧ Fr n0 L ∧ Keep h0 h [] ∧ h0.size ≤ bx ∧ h0.size ≤ bt ∧ own_Str Z h bx bt [u0, u1, 46, 115, 104, 97, 53, 49, 50]
set_option maxRecDepth 65536 in
set_option maxHeartbeats 40000000 in
theorem rmTS2 (l : Launch) (Z : State) (a0 : Array Value) (hw : ∀ d ∈ tables_1, d.before a0 Z = true) (ws : List Jvm.Cond) (pa : Addr) (pv : Addr) (kv : ClassId) (u0 : Int32) (u1 : Int32) (h0 : Heap) (n0 : Nat) (Z0 : n0 ≤ h0.size) (H0 : Exa Z h0 pa "java/lang/StringBuilder") (H1 : Fld Z h0 pa "java/lang/AbstractStringBuilder" "value" "[B" (.ref pv)) (H2 : Fld Z h0 pa "java/lang/AbstractStringBuilder" "coder" "B" (.int 0)) (H3 : Fld Z h0 pa "java/lang/AbstractStringBuilder" "count" "I" (.int 9)) (H4 : Arv Z h0 pv kv .byte (16 : Int32) [(.int (StrChars.lo8 u0)), (.int (StrChars.lo8 u1)), (.int 46), (.int 115), (.int 104), (.int 97), (.int 53), (.int 49), (.int 50)] (.int 0)) (hbd : ∀ c ∈ ([u0, u1, 46, 115, 104, 97, 53, 49, 50] : List Int32), ¬ c < 0 ∧ ¬ (255 : Int32) < c) (O0 : Old Z n0 h0) (SV : own_Env Z) :
    MetFree l (⟨"java/lang/StringBuilder", "toString", "()Ljava/lang/String;"⟩ : MethodName) (head1 (Jvm.Cond.code (⟨"java/lang/StringBuilder", "toString", "()Ljava/lang/String;"⟩ : MethodName) jdk_67_method_42_code 1 (some (.object "java/lang/String")) :: ws) ({ frames := 5, cells := 2, slots := 13, locals := 105 } : Room)) (fun aa U => aa = #[(.ref pa)] ∧ Z.Warmed39 U.vm ∧ U.heap = h0) (fun _ _ _ _ _ => True) (fun _ U oo U' => ∃ v L, oo = .returned v ∧ QTS2 Z pa pv kv u0 u1 h0 n0 v U'.heap L ∧ FrameEnd U oo U' L ({ frames := 5, cells := 2, slots := 13, locals := 105 } : Room).cells ({ frames := 5, cells := 2, slots := 13, locals := 105 } : Room).slots) := by
  refine MetFree.of_bodySF (plainFor_of_name pnSI) hisR ?_
  intro p e s m args below meth c s₁ Bd hml0 hP hK
  obtain ⟨rfl, hZ, hh⟩ := hP
  have hx := Bd.exec
  have hby := Bd.bytes
  have hlk : meth.locks = false := BodyLoose.notSynchronized Bd
  have hml : c.maxLocals = 1 := hml0
  have hown : s.vm.findClass "java/lang/StringBuilder" = some m.cls := findClass_of_methodNamed Bd.named
  have hnm := (name_of_methodNamed Bd.named Bd.method).1
  have X0 : Stand p l e ({ frames := 5, cells := 2, slots := 13, locals := 105 } : Room) s m #[(.ref pa)] below meth c s₁ [] 0 0 := Stand.of_body Bd
  have e0 : s₁.heap = h0 := by rw [← hh, Bd.state]; rfl
  have N0 := Fr.nil n0
  have ef : entryFrame m #[(.ref pa)] 1 = mkF m 0 #[rv pa] [] := by first | (simp [entryFrame, mkF, argsToLocals, Value.category, maxLocals]; done) | rfl
  show Way p.tables e below (KQ s (QTS2 Z pa pv kv u0 u1 h0 n0) ({ frames := 5, cells := 2, slots := 13, locals := 105 } : Room).cells ({ frames := 5, cells := 2, slots := 13, locals := 105 } : Room).slots) (s₁.setTop (entryFrame m #[(.ref pa)] 1))
  rw [ef]
  obtain ⟨T1, h2, X3, e4, E5, A6, D7, -, st8⟩ := newO X0 hx hZ hown (tw hw 109 rfl) (tw hw 2 rfl) (tw hw 3 rfl) e0 (g := (mkF m 0 #[rv pa] [])) rfl (hb hby dTS0_0) (by decide) (by decide)
  obtain ⟨a9, g10⟩ : ∃ z, z = h0.size := ⟨_, rfl⟩
  rw [← g10] at A6 D7 st8
  have ne11 : pa ≠ a9 := Nat.ne_of_lt (Nat.lt_of_lt_of_eq H0.lt g10.symm)
  have ne12 : pv ≠ a9 := Nat.ne_of_lt (Nat.lt_of_lt_of_eq H4.lt g10.symm)
  have nw13 : n0 ≤ a9 := Nat.le_trans Z0 (Nat.le_of_eq g10.symm)
  have hk14 : h0.size ≤ a9 := Nat.le_trans (Nat.le_refl h0.size) (Nat.le_of_eq g10.symm)
  have E15 := Exa.ext E5 H0
  have F16 := Fld.ext E5 H1
  have F17 := Fld.ext E5 H2
  have F18 := Fld.ext E5 H3
  have A19 := H4.ext E5
  have Z20 := Nat.le_trans Z0 E5.1
  have O21 := O0.ext E5
  have K22 := (Keep.refl h0 []).ext E5
  have hz23 := Nat.le_trans (Nat.le_refl h0.size) E5.1
  have F24 : Fld Z h2 a9 "java/lang/String" "value" "[B" .null := D7 (Or.inr (tw hw 16 rfl)) (ty := (.array .byte)) (by decide)
  have F25 : Fld Z h2 a9 "java/lang/String" "coder" "B" (.int 0) := D7 (Or.inr (tw hw 17 rfl)) (ty := .byte) (by decide)
  refine Way.by st8 ?_
  show Way _ _ _ _ (T1.setTop (mkF m 3 #[rv pa] [(.ref a9)]))
  refine Way.by (fun _ k => XS.dup X3.here hx rfl (hb hby dTS0_3) rfl rfl k) ?_
  refine Way.by (fun _ k => XS.aloadN X3.here hx rfl (hb hby dTS0_4) rfl rfl k) ?_
  show Way _ _ _ _ (T1.setTop (mkF m 5 #[rv pa] [(.ref pa), (.ref a9), (.ref a9)]))
  obtain ⟨_, _, ⟨T26, L28, k29, n30⟩, -, X27, ⟨Lc31, hQ32, l33, y34, z35⟩, st36⟩ := X3.specialBack hx (y := (⟨"java/lang/String", "<init>", "(Ljava/lang/StringBuilder;)V"⟩ : MethodName)) rfl hown (mvT hZ (tw hw 110 rfl)) (mvT hZ (tw hw 111 rfl)) (mvT hZ (tw hw 112 rfl)) (by decide) (backOf (W := 1) (rmS12 l Z a0 hw [] a9 pa pv kv u0 u1 h2 n0 Z20 E15 F16 F17 F18 A19 A6 F24 F25 hbd ne11 ne12 nw13 O21 SV) hZ (tw hw 112 rfl) (tw hw 3 rfl) (by decide) (by decide)) (g := (mkF m 5 #[rv pa] [(.ref pa), (.ref a9), (.ref a9)])) rfl (by rw [hml]; rfl) (Steps.refl _) (a := a9) (argsL := [(.ref pa)]) (rest := [(.ref a9)]) (lenOf pdS10 rfl) rfl (leW rfl) (hb hby dTS0_5) (fun _ _ => ⟨rfl, e4, (leB rfl), (leB rfl)⟩)
  dsimp only [Pt.U, Pt.locs, Pt.cells, Pt.slots] at X27 l33 y34 z35 st36 hQ32
  subst y34 z35
  obtain ⟨x_bt46, rfl, N42, K43, fr_bt45, F_044⟩ := hQ32
  have N37 : Fr n0 L28 := by rw [l33]; exact Fr.app N0 N42
  have ne47 : pa ≠ x_bt46 := Nat.ne_of_lt (Nat.lt_of_lt_of_le E15.lt fr_bt45)
  have ne48 : pv ≠ x_bt46 := Nat.ne_of_lt (Nat.lt_of_lt_of_le A19.lt fr_bt45)
  have ne49 : a9 ≠ x_bt46 := Nat.ne_of_lt (Nat.lt_of_lt_of_le A6.lt fr_bt45)
  have nw50 : n0 ≤ x_bt46 := Nat.le_trans Z20 fr_bt45
  have hk51 : h0.size ≤ x_bt46 := Nat.le_trans hz23 fr_bt45
  have E52 := E15.keep K43
  have F53 := F16.keep K43 (ninS ne11 nin0)
  have F54 := F17.keep K43 (ninS ne11 nin0)
  have F55 := F18.keep K43 (ninS ne11 nin0)
  have A56 := A19.keep K43 (ninS ne12 nin0)
  have E57 := A6.keep K43
  have Z58 := Nat.le_trans Z20 K43.1
  have O59 := O21.keep K43 (allS nw13 all0)
  have K60 := K22.trans K43 (allS (Or.inr hk14) all0)
  have hz61 := Nat.le_trans hz23 K43.1
  refine Way.to st36 ?_
  show Way _ _ _ _ (T26.setTop (mkF m 8 #[rv pa] [(.ref a9)]))
  try clear X3 e4 A6 E15 F16 F17 F18 A19 Z20 O21 K22 hz23 F24 F25 st36 N42 K43
  try clear T1 h2
  refine Way.ret (v := (some (.ref a9))) X27 hlk (fun h => by rw [Bd.returns] at h; cases h) (fun fs hr => retOut X27 hx Bd.returns rfl (Or.inr (Or.inr (Or.inr (Or.inr ⟨rfl, rfl, rfl⟩)))) (hb hby dTS0_8) hr) ?_ (by decide) (by decide)
  show QTS2 Z pa pv kv u0 u1 h0 n0 _ T26.heap _
  skip
  exact ⟨a9, x_bt46, rfl, N37, K60, hk14, hk51, F_044⟩
def QNF2 (Z : State) (px : Addr) (pt : Addr) (u0 : Int32) (u1 : Int32) (ud : Addr) (ul : Addr) (ult : Addr) (h0 : Heap) (n0 : Nat) (v : Option Value) (h : Heap) (L : List Loc) : Prop := ∃ (bx : Addr) (bt : Addr), v = some (.ref bx) ∧ Fr n0 L ∧ Keep h0 h [] ∧ own_Str Z h bx bt [u0, u1, 46, 115, 104, 97, 53, 49, 50]
set_option maxRecDepth 65536 in
set_option maxHeartbeats 40000000 in
theorem rmNF2 (l : Launch) (Z : State) (a0 : Array Value) (hw : ∀ d ∈ tables_1, d.before a0 Z = true) (ws : List Jvm.Cond) (px : Addr) (pt : Addr) (u0 : Int32) (u1 : Int32) (ud : Addr) (ul : Addr) (ult : Addr) (h0 : Heap) (n0 : Nat) (Z0 : n0 ≤ h0.size) (H0 : own_Str Z h0 px pt [u0, u1]) (hbd : ∀ c ∈ ([u0, u1, 46, 115, 104, 97, 53, 49, 50] : List Int32), ¬ c < 0 ∧ ¬ (255 : Int32) < c) (O0 : Old Z n0 h0) (SV : own_Env Z) (SDG : Sta Z Z.heap "com/example/longhold/longhold/store/DigestFile" "DIGEST" "Lcom/example/longhold/longhold/store/DigestAlgorithm;" (.ref ud)) (EDG : Exa Z Z.heap ud "com/example/longhold/longhold/store/DigestAlgorithm") (FLB : Fld Z Z.heap ud "com/example/longhold/longhold/store/DigestAlgorithm" "label" "Ljava/lang/String;" (.ref ul)) (SLB : own_Str Z Z.heap ul ult [115, 104, 97, 53, 49, 50]) :
    MetFree l (⟨"com/example/longhold/longhold/store/DigestFile", "nameFor", "(Ljava/lang/String;)Ljava/lang/String;"⟩ : MethodName) (head1 (Jvm.Cond.code (⟨"com/example/longhold/longhold/store/DigestFile", "nameFor", "(Ljava/lang/String;)Ljava/lang/String;"⟩ : MethodName) prog_40_method_2_code 1 (some (.object "java/lang/String")) :: ws) ({ frames := 6, cells := 6, slots := 48, locals := 117 } : Room)) (fun aa U => aa = #[(.ref px)] ∧ Z.Warmed39 U.vm ∧ U.heap = h0 ∧ CHv Z own_EL U.vm h0) (fun _ _ _ _ _ => True) (fun _ U oo U' => ∃ v L, oo = .returned v ∧ QNF2 Z px pt u0 u1 ud ul ult h0 n0 v U'.heap L ∧ CHr Z own_EL U.vm U.heap U'.vm U'.heap ∧ ReturnedEndW U oo U' L ({ frames := 6, cells := 6, slots := 48, locals := 117 } : Room).cells ({ frames := 6, cells := 6, slots := 48, locals := 117 } : Room).slots) := by
  refine MetFree.of_bodySF (plainFor_of_name pnNF0) hisR ?_
  intro p e s m args below meth c s₁ Bd hml0 hP hK
  obtain ⟨rfl, hZ, hh, HV0⟩ := hP
  have hx := Bd.exec
  have hby := Bd.bytes
  have hlk : meth.locks = false := BodyLoose.notSynchronized Bd
  have hml : c.maxLocals = 1 := hml0
  have hown : s.vm.findClass "com/example/longhold/longhold/store/DigestFile" = some m.cls := findClass_of_methodNamed Bd.named
  have hnm := (name_of_methodNamed Bd.named Bd.method).1
  have X0 : Stand p l e ({ frames := 6, cells := 6, slots := 48, locals := 117 } : Room) s m #[(.ref px)] below meth c s₁ [] 0 0 := Stand.of_body Bd
  have e0 : s₁.heap = h0 := by rw [← hh, Bd.state]; rfl
  have N0 := Fr.nil n0
  have ef : entryFrame m #[(.ref px)] 1 = mkF m 0 #[rv px] [] := by first | (simp [entryFrame, mkF, argsToLocals, Value.category, maxLocals]; done) | rfl
  have XW : Stand p l e ({ frames := 6, cells := 6, slots := 48, locals := 117 } : Room) (s.setVm s.vm) m #[(.ref px)] below meth c s₁ [] 0 0 := X0
  have hS0 : s.Since s.vm 0 := (State.WarmedH.refl s).since 0
  have hZ0 : Z.Warmed39 (s.setVm s.vm).vm := hZ
  have hown0 : (s.setVm s.vm).vm.findClass "com/example/longhold/longhold/store/DigestFile" = some m.cls := hown
  have wS : ∀ d ∈ Bundle.stringAtoms, d.before a0 Z = true := fun d hd => hw d (own_wS d hd)
  have hEL : EW Z a0 own_EL := own_EW hw
  have CH0 : CHr Z own_EL s.vm h0 s.vm h0 := CHr.refl HV0
  show Way p.tables e below (KQH s Z own_EL (QNF2 Z px pt u0 u1 ud ul ult h0 n0) ({ frames := 6, cells := 6, slots := 48, locals := 117 } : Room).cells ({ frames := 6, cells := 6, slots := 48, locals := 117 } : Room).slots) (s₁.setTop (entryFrame m #[(.ref px)] 1))
  rw [ef]
  have EDG1 := Exa.ext O0.2 EDG
  have FLB1 := Fld.ext O0.2 FLB
  have SLB1 := SLB.ext O0.2
  obtain ⟨T1, h2, X3, e4, E5, A6, D7, -, st8⟩ := newO XW hx hZ0 hown0 (tw hw 26 rfl) (tw hw 27 rfl) (tw hw 28 rfl) e0 (g := (mkF m 0 #[rv px] [])) rfl (hb hby dNF0_0) (by decide) (by decide)
  obtain ⟨a9, g10⟩ : ∃ z, z = h0.size := ⟨_, rfl⟩
  rw [← g10] at A6 D7 st8
  have ne11 : px ≠ a9 := Nat.ne_of_lt (Nat.lt_of_lt_of_eq H0.lt1 g10.symm)
  have ne12 : pt ≠ a9 := Nat.ne_of_lt (Nat.lt_of_lt_of_eq H0.lt2 g10.symm)
  have ne13 : ud ≠ a9 := Nat.ne_of_lt (Nat.lt_of_lt_of_eq EDG1.lt g10.symm)
  have ne14 : ul ≠ a9 := Nat.ne_of_lt (Nat.lt_of_lt_of_eq SLB1.lt1 g10.symm)
  have ne15 : ult ≠ a9 := Nat.ne_of_lt (Nat.lt_of_lt_of_eq SLB1.lt2 g10.symm)
  have nw16 : n0 ≤ a9 := Nat.le_trans Z0 (Nat.le_of_eq g10.symm)
  have hk17 : h0.size ≤ a9 := Nat.le_trans (Nat.le_refl h0.size) (Nat.le_of_eq g10.symm)
  have hr20 := CHr.ext E5 HV0
  have H18 := hr20.1
  have CH19 := CH0.trans hr20
  have S21 := H0.ext E5
  have E22 := Exa.ext E5 EDG1
  have F23 := Fld.ext E5 FLB1
  have S24 := SLB1.ext E5
  have Z25 := Nat.le_trans Z0 E5.1
  have hk26 := Nat.le_trans (Nat.zero_le _) E5.1
  have O27 := O0.ext E5
  have K28 := (Keep.refl h0 []).ext E5
  have hz29 := Nat.le_trans (Nat.le_refl h0.size) E5.1
  have F30 : Fld Z h2 a9 "java/lang/AbstractStringBuilder" "value" "[B" .null := D7 (Or.inl (tw hw 41 rfl)) (ty := (.array .byte)) (by decide)
  have F31 : Fld Z h2 a9 "java/lang/AbstractStringBuilder" "coder" "B" (.int 0) := D7 (Or.inl (tw hw 43 rfl)) (ty := .byte) (by decide)
  have F32 : Fld Z h2 a9 "java/lang/AbstractStringBuilder" "count" "I" (.int 0) := D7 (Or.inl (tw hw 66 rfl)) (ty := .int) (by decide)
  refine Way.by st8 ?_
  show Way _ _ _ _ (T1.setTop (mkF m 3 #[rv px] [(.ref a9)]))
  refine Way.by (fun _ k => XS.dup X3.here hx rfl (hb hby dNF0_3) rfl rfl k) ?_
  show Way _ _ _ _ (T1.setTop (mkF m 4 #[rv px] [(.ref a9), (.ref a9)]))
  obtain ⟨_, _, ⟨T33, L35, k36, n37⟩, -, X34, ⟨Lc38, hQ39, l40, y41, z42⟩, st43⟩ := X3.specialBack hx (y := (⟨"java/lang/StringBuilder", "<init>", "()V"⟩ : MethodName)) rfl hown0 (mvT hZ0 (tw hw 29 rfl)) (mvT hZ0 (tw hw 30 rfl)) (mvT hZ0 (tw hw 31 rfl)) (by decide) (backOf (W := 1) (rmSI l Z a0 hw [] a9 h2 n0 Z25 A6 F30 F31 F32 nw16 O27 SV) hZ0 (tw hw 31 rfl) (tw hw 28 rfl) (by decide) (by decide)) (g := (mkF m 4 #[rv px] [(.ref a9), (.ref a9)])) rfl (by rw [hml]; rfl) (Steps.refl _) (a := a9) (argsL := []) (rest := [(.ref a9)]) (lenOf pdSI rfl) rfl (leW rfl) (hb hby dNF0_4) (fun _ _ => ⟨rfl, e4, (leB rfl), (leB rfl)⟩)
  dsimp only [Pt.U, Pt.locs, Pt.cells, Pt.slots] at X34 l40 y41 z42 st43 hQ39
  subst y41 z42
  obtain ⟨x_pv58, x_kv57, rfl, N49, K50, fr_pv56, F_051, F_152, F_253, F_354, F_455⟩ := hQ39
  have N44 : Fr n0 L35 := by rw [l40]; exact Fr.app N0 N49
  have ne59 : px ≠ x_pv58 := Nat.ne_of_lt (Nat.lt_of_lt_of_le S21.lt1 fr_pv56)
  have ne60 : pt ≠ x_pv58 := Nat.ne_of_lt (Nat.lt_of_lt_of_le S21.lt2 fr_pv56)
  have ne61 : ud ≠ x_pv58 := Nat.ne_of_lt (Nat.lt_of_lt_of_le E22.lt fr_pv56)
  have ne62 : ul ≠ x_pv58 := Nat.ne_of_lt (Nat.lt_of_lt_of_le S24.lt1 fr_pv56)
  have ne63 : ult ≠ x_pv58 := Nat.ne_of_lt (Nat.lt_of_lt_of_le S24.lt2 fr_pv56)
  have ne64 : a9 ≠ x_pv58 := Nat.ne_of_lt (Nat.lt_of_lt_of_le A6.lt fr_pv56)
  have nw65 : n0 ≤ x_pv58 := Nat.le_trans Z25 fr_pv56
  have hk66 : h0.size ≤ x_pv58 := Nat.le_trans hz29 fr_pv56
  have Sf67 : Safe Z own_EL s.vm h2 x_pv58 := Safe.new fr_pv56
  have hr70 := CHr.keep K50 (sfS (Safe.exa hZ0.alike A6 (by decide) (by decide)) sf0) H18
  have Sf71 := Safe.keep K50 (sfS (Safe.exa hZ0.alike A6 (by decide) (by decide)) sf0) H18 Sf67
  have H68 := hr70.1
  have CH69 := CH19.trans hr70
  have S72 := S21.keep K50 (ninS ne11 nin0) (ninS ne12 nin0)
  have E73 := E22.keep K50
  have F74 := F23.keep K50 (ninS ne13 nin0)
  have S75 := S24.keep K50 (ninS ne14 nin0) (ninS ne15 nin0)
  have E76 := A6.keep K50
  have Z77 := Nat.le_trans Z25 K50.1
  have hk78 := Nat.le_trans hk26 K50.1
  have O79 := O27.keep K50 (allS nw16 all0)
  have K80 := K28.trans K50 (allS (Or.inr hk17) all0)
  have hz81 := Nat.le_trans hz29 K50.1
  refine Way.to st43 ?_
  show Way _ _ _ _ (T33.setTop (mkF m 7 #[rv px] [(.ref a9)]))
  try clear X3 e4 A6 H18 CH19 S21 E22 F23 S24 Z25 hk26 O27 K28 hz29 F30 F31 F32 st43 N49 K50 hr70 E76
  try clear T1 h2
  refine Way.by (fun _ k => XS.aloadN X34.here hx rfl (hb hby dNF0_7) rfl rfl k) ?_
  show Way _ _ _ _ (T33.setTop (mkF m 8 #[rv px] [(.ref px), (.ref a9)]))
  obtain ⟨cq98, kq99, qa100, qb101, qc102⟩ := isOf hZ0 rfl F_051
  obtain ⟨_, _, ⟨T82, L84, k85, n86⟩, -, X83, ⟨Lc87, hQ88, l89, y90, z91⟩, st92⟩ := X34.virtualBack hx (y := (⟨"java/lang/StringBuilder", "append", "(Ljava/lang/String;)Ljava/lang/StringBuilder;"⟩ : MethodName)) (z := (⟨"java/lang/StringBuilder", "append", "(Ljava/lang/String;)Ljava/lang/StringBuilder;"⟩ : MethodName)) hown0 (mvT hZ0 (tw hw 44 rfl)) (mvT hZ0 (tw hw 45 rfl)) (notFace_of_selects (args := #[]) (mvT hZ0 (tw hw 47 rfl))) (mvT hZ0 (tw hw 47 rfl)) (mvT hZ0 (tw hw 46 rfl)) (by decide) (backOf (W := 0) (rmSA l Z a0 hw [] a9 x_pv58 x_kv57 px pt (0 : Int32) [] [u0, u1] T33.heap n0 Z77 F_051 F_152 F_253 F_354 F_455 S72 ⟨by decide, (show ¬ (2 : Int32) < 0 by decide), rfl, rfl, (show 0 + 2 ≤ 16 by decide), (show ¬ (0 : Int32) < (0 : Int32) + (2 : Int32) - (16 : Int32) by decide), by decide⟩ ne59 ne60 ne64 ne11 ne12 nw16 nw65 O79 SV) hZ0 (tw hw 48 rfl) (tw hw 28 rfl) (by decide) (by decide)) qa100 qc102 (g := (mkF m 8 #[rv px] [(.ref px), (.ref a9)])) rfl (by rw [hml]; rfl) (Steps.refl _) (argsL := [(.ref px)]) (rest := []) (lenOf pdSA rfl) rfl (leW rfl) (hb hby dNF0_8) (fun _ _ => ⟨rfl, rfl, (leB rfl), (leB rfl)⟩)
  dsimp only [Pt.U, Pt.locs, Pt.cells, Pt.slots] at X83 l89 y90 z91 st92 hQ88
  subst y90 z91
  obtain ⟨rfl, N103, K104, F_0105, F_1106, F_2107, F_3108, F_4109⟩ := hQ88
  have N93 : Fr n0 L84 := by rw [l89]; exact Fr.app N44 N103
  have hr112 := CHr.keep K104 (sfS (Safe.exa hZ0.alike F_051 (by decide) (by decide)) (sfS Sf71 sf0)) H68
  have Sf113 := Safe.keep K104 (sfS (Safe.exa hZ0.alike F_051 (by decide) (by decide)) (sfS Sf71 sf0)) H68 Sf71
  have H110 := hr112.1
  have CH111 := CH69.trans hr112
  have S114 := S72.keep K104 (ninS ne11 (ninS ne59 nin0)) (ninS ne12 (ninS ne60 nin0))
  have E115 := E73.keep K104
  have F116 := F74.keep K104 (ninS ne13 (ninS ne61 nin0))
  have S117 := S75.keep K104 (ninS ne14 (ninS ne62 nin0)) (ninS ne15 (ninS ne63 nin0))
  have E118 := F_051.keep K104
  have Z119 := Nat.le_trans Z77 K104.1
  have hk120 := Nat.le_trans hk78 K104.1
  have O121 := O79.keep K104 (allS nw16 (allS nw65 all0))
  have K122 := K80.trans K104 (allS (Or.inr hk17) (allS (Or.inr hk66) all0))
  have hz123 := Nat.le_trans hz81 K104.1
  have V124 : Arv Z T82.heap x_pv58 x_kv57 .byte (16 : Int32) [(.int (StrChars.lo8 u0)), (.int (StrChars.lo8 u1))] (.int 0) := F_4109
  have F125 : Fld Z T82.heap a9 "java/lang/AbstractStringBuilder" "count" "I" (.int 2) := F_3108
  refine Way.to st92 ?_
  show Way _ _ _ _ (T82.setTop (mkF m 11 #[rv px] [(.ref a9)]))
  try clear X34 N44 F_051 F_152 F_253 F_354 F_455 H68 CH69 Sf71 S72 E73 F74 S75 Z77 hk78 O79 K80 hz81 st92 cq98 kq99 qa100 qb101 qc102 N103 K104 hr112 E118
  try clear T33
  obtain ⟨a126, T127, h128, k129, bd130, kc131, X132, e133, E134, hS135, hk136, hZ137, hown138, Ex139, Co140, Va141, Ar142, la143, lb144, hr145, lit146, sfn147, st148⟩ := ldcCH X83 hx hZ0 hown0 (tw hw 92 rfl) wS rfl hS0 hk120 hEL (by decide) H110 (vs := ([46] : List Int32).map fun c => Value.int (StrChars.lo8 c)) (z := (1 : Int32)) ⟨by decide, by decide⟩ (by decide) rfl (g := (mkF m 11 #[rv px] [(.ref a9)])) rfl (hb hby dNF0_11) (n := 4) (by decide) (by decide) (by decide) (by decide)
  have Sf152 := CHr.safe hr145 V124.lt Sf113
  have H149 := hr145.1
  have CH150 := CH111.trans hr145
  have S153 := S114.ext E134
  have E154 := Exa.ext E134 E115
  have F155 := Fld.ext E134 F116
  have S156 := S117.ext E134
  have E157 := Exa.ext E134 F_0105
  have F158 := Fld.ext E134 F_1106
  have F159 := Fld.ext E134 F_2107
  have F160 := Fld.ext E134 F125
  have A161 := V124.ext E134
  have Z162 := Nat.le_trans Z119 E134.1
  have O163 := O121.ext E134
  have K164 := K122.ext E134
  have hz165 := Nat.le_trans hz123 E134.1
  have F166 : own_Str Z h128 a126 bd130 [46] := ⟨Ex139, Va141, Co140, ⟨_, _, _, Ar142, Or.inl ⟨rfl, rfl, rfl, by decide⟩⟩, by decide, by decide⟩
  have ne167 := sfn147 x_pv58 Sf152
  have ne168 := sfn147 ud (Safe.exa hZ137.alike E154 (by decide) (by decide))
  have ne169 := sfn147 a9 (Safe.exa hZ137.alike E157 (by decide) (by decide))
  refine Way.by st148 ?_
  show Way _ _ _ _ (T127.setTop (mkF m 13 #[rv px] [(.ref a126), (.ref a9)]))
  try clear X83 F_0105 F_1106 F_2107 H110 CH111 Sf113 S114 E115 F116 S117 Z119 hk120 O121 K122 hz123 V124 F125 E134 hr145 st148
  try clear T82
  obtain ⟨cq186, kq187, qa188, qb189, qc190⟩ := isOf hZ137 e133 E157
  obtain ⟨_, _, ⟨T170, L172, k173, n174⟩, -, X171, ⟨Lc175, hQ176, l177, y178, z179⟩, st180⟩ := X132.virtualBack hx (y := (⟨"java/lang/StringBuilder", "append", "(Ljava/lang/String;)Ljava/lang/StringBuilder;"⟩ : MethodName)) (z := (⟨"java/lang/StringBuilder", "append", "(Ljava/lang/String;)Ljava/lang/StringBuilder;"⟩ : MethodName)) hown138 (mvT hZ137 (tw hw 44 rfl)) (mvT hZ137 (tw hw 45 rfl)) (notFace_of_selects (args := #[]) (mvT hZ137 (tw hw 47 rfl))) (mvT hZ137 (tw hw 47 rfl)) (mvT hZ137 (tw hw 46 rfl)) (by decide) (backOf (W := 0) (rmSA l Z a0 hw [] a9 x_pv58 x_kv57 a126 bd130 (2 : Int32) [(.int (StrChars.lo8 u0)), (.int (StrChars.lo8 u1))] [46] h128 n0 Z162 E157 F158 F159 F160 A161 F166 ⟨by decide, (show ¬ (1 : Int32) < 0 by decide), rfl, rfl, (show 2 + 1 ≤ 16 by decide), (show ¬ (0 : Int32) < (2 : Int32) + (1 : Int32) - (16 : Int32) by decide), by decide⟩ ne167.1.symm ne167.2.symm ne64 ne169.1.symm ne169.2.symm nw16 nw65 O163 SV) hZ137 (tw hw 48 rfl) (tw hw 28 rfl) (by decide) (by decide)) qa188 qc190 (g := (mkF m 13 #[rv px] [(.ref a126), (.ref a9)])) rfl (by rw [hml]; rfl) (Steps.refl _) (argsL := [(.ref a126)]) (rest := []) (lenOf pdSA rfl) rfl (leW rfl) (hb hby dNF0_13) (fun _ _ => ⟨rfl, e133, (leB rfl), (leB rfl)⟩)
  dsimp only [Pt.U, Pt.locs, Pt.cells, Pt.slots] at X171 l177 y178 z179 st180 hQ176
  subst y178 z179
  obtain ⟨rfl, N191, K192, F_0193, F_1194, F_2195, F_3196, F_4197⟩ := hQ176
  have N181 : Fr n0 L172 := by rw [l177]; exact Fr.app N93 N191
  have hr200 := CHr.keep K192 (sfS (Safe.exa hZ137.alike E157 (by decide) (by decide)) (sfS Sf152 sf0)) H149
  have Sf201 := Safe.keep K192 (sfS (Safe.exa hZ137.alike E157 (by decide) (by decide)) (sfS Sf152 sf0)) H149 Sf152
  have H198 := hr200.1
  have CH199 := CH150.trans hr200
  have S202 := S153.keep K192 (ninS ne11 (ninS ne59 nin0)) (ninS ne12 (ninS ne60 nin0))
  have E203 := E154.keep K192
  have F204 := F155.keep K192 (ninS ne13 (ninS ne61 nin0))
  have S205 := S156.keep K192 (ninS ne14 (ninS ne62 nin0)) (ninS ne15 (ninS ne63 nin0))
  have E206 := E157.keep K192
  have S207 := F166.keep K192 (ninS ne169.1.symm (ninS ne167.1.symm nin0)) (ninS ne169.2.symm (ninS ne167.2.symm nin0))
  have Z208 := Nat.le_trans Z162 K192.1
  have hk209 := Nat.le_trans hk136 K192.1
  have O210 := O163.keep K192 (allS nw16 (allS nw65 all0))
  have K211 := K164.trans K192 (allS (Or.inr hk17) (allS (Or.inr hk66) all0))
  have hz212 := Nat.le_trans hz165 K192.1
  have V213 : Arv Z T170.heap x_pv58 x_kv57 .byte (16 : Int32) [(.int (StrChars.lo8 u0)), (.int (StrChars.lo8 u1)), (.int 46)] (.int 0) := F_4197
  have F214 : Fld Z T170.heap a9 "java/lang/AbstractStringBuilder" "count" "I" (.int 3) := F_3196
  refine Way.to st180 ?_
  show Way _ _ _ _ (T170.setTop (mkF m 16 #[rv px] [(.ref a9)]))
  try clear N93 X132 e133 hk136 H149 CH150 Sf152 S153 E154 F155 S156 E157 F158 F159 F160 A161 Z162 O163 K164 hz165 F166 st180 cq186 kq187 qa188 qb189 qc190 N191 K192 hr200 E206
  try clear h128
  obtain ⟨T215, X216, e217, st218⟩ := getS X171 hx hZ137 hown138 (host := "") (tw hw 93 rfl) Via.refl rfl (Sta.ext O210.2 SDG) (g := (mkF m 16 #[rv px] [(.ref a9)])) rfl (hb hby dNF0_16)
  refine Way.by st218 ?_
  show Way _ _ _ _ (T215.setTop (mkF m 19 #[rv px] [(.ref ud), (.ref a9)]))
  obtain ⟨cq235, kq236, qa237, qb238, qc239⟩ := isOf hZ137 e217 E203
  obtain ⟨_, _, ⟨T219, L221, k222, n223⟩, -, X220, ⟨Lc224, hQ225, l226, y227, z228⟩, st229⟩ := X216.virtualBack hx (y := (⟨"com/example/longhold/longhold/store/DigestAlgorithm", "label", "()Ljava/lang/String;"⟩ : MethodName)) (z := (⟨"com/example/longhold/longhold/store/DigestAlgorithm", "label", "()Ljava/lang/String;"⟩ : MethodName)) hown138 (mvT hZ137 (tw hw 97 rfl)) (mvT hZ137 (tw hw 98 rfl)) (notFace_of_selects (args := #[]) (mvT hZ137 (tw hw 100 rfl))) (mvT hZ137 (tw hw 100 rfl)) (mvT hZ137 (tw hw 99 rfl)) (by decide) (backOf (W := 1) (rmLB l Z a0 hw [] ud ul T170.heap n0 Z208 F204) hZ137 (tw hw 101 rfl) (tw hw 95 rfl) (by decide) (by decide)) qa237 qc239 (g := (mkF m 19 #[rv px] [(.ref ud), (.ref a9)])) rfl (by rw [hml]; rfl) (Steps.refl _) (argsL := []) (rest := [(.ref a9)]) (lenOf pdLB rfl) rfl (leW rfl) (hb hby dNF0_19) (fun _ _ => ⟨rfl, e217, (leB rfl), (leB rfl)⟩)
  dsimp only [Pt.U, Pt.locs, Pt.cells, Pt.slots] at X220 l226 y227 z228 st229 hQ225
  subst y227 z228
  obtain ⟨rfl, N240, e231⟩ := hQ225
  have N230 : Fr n0 L221 := by rw [l226]; exact Fr.app N181 N240
  refine Way.to st229 ?_
  show Way _ _ _ _ (T219.setTop (mkF m 22 #[rv px] [(.ref ul), (.ref a9)]))
  try clear N181 X216 e217 st229 cq235 kq236 qa237 qb238 qc239 N240
  try clear T215
  obtain ⟨cq258, kq259, qa260, qb261, qc262⟩ := isOf hZ137 e231 F_0193
  obtain ⟨_, _, ⟨T242, L244, k245, n246⟩, -, X243, ⟨Lc247, hQ248, l249, y250, z251⟩, st252⟩ := X220.virtualBack hx (y := (⟨"java/lang/StringBuilder", "append", "(Ljava/lang/String;)Ljava/lang/StringBuilder;"⟩ : MethodName)) (z := (⟨"java/lang/StringBuilder", "append", "(Ljava/lang/String;)Ljava/lang/StringBuilder;"⟩ : MethodName)) hown138 (mvT hZ137 (tw hw 44 rfl)) (mvT hZ137 (tw hw 45 rfl)) (notFace_of_selects (args := #[]) (mvT hZ137 (tw hw 47 rfl))) (mvT hZ137 (tw hw 47 rfl)) (mvT hZ137 (tw hw 46 rfl)) (by decide) (backOf (W := 0) (rmSA l Z a0 hw [] a9 x_pv58 x_kv57 ul ult (3 : Int32) [(.int (StrChars.lo8 u0)), (.int (StrChars.lo8 u1)), (.int 46)] [115, 104, 97, 53, 49, 50] T170.heap n0 Z208 F_0193 F_1194 F_2195 F214 V213 S205 ⟨by decide, (show ¬ (6 : Int32) < 0 by decide), rfl, rfl, (show 3 + 6 ≤ 16 by decide), (show ¬ (0 : Int32) < (3 : Int32) + (6 : Int32) - (16 : Int32) by decide), by decide⟩ ne62 ne63 ne64 ne14 ne15 nw16 nw65 O210 SV) hZ137 (tw hw 48 rfl) (tw hw 28 rfl) (by decide) (by decide)) qa260 qc262 (g := (mkF m 22 #[rv px] [(.ref ul), (.ref a9)])) rfl (by rw [hml]; rfl) (Steps.refl _) (argsL := [(.ref ul)]) (rest := []) (lenOf pdSA rfl) rfl (leW rfl) (hb hby dNF0_22) (fun _ _ => ⟨rfl, e231, (leB rfl), (leB rfl)⟩)
  dsimp only [Pt.U, Pt.locs, Pt.cells, Pt.slots] at X243 l249 y250 z251 st252 hQ248
  subst y250 z251
  obtain ⟨rfl, N263, K264, F_0265, F_1266, F_2267, F_3268, F_4269⟩ := hQ248
  have N253 : Fr n0 L244 := by rw [l249]; exact Fr.app N230 N263
  have hr272 := CHr.keep K264 (sfS (Safe.exa hZ137.alike F_0193 (by decide) (by decide)) (sfS Sf201 sf0)) H198
  have Sf273 := Safe.keep K264 (sfS (Safe.exa hZ137.alike F_0193 (by decide) (by decide)) (sfS Sf201 sf0)) H198 Sf201
  have H270 := hr272.1
  have CH271 := CH199.trans hr272
  have S274 := S202.keep K264 (ninS ne11 (ninS ne59 nin0)) (ninS ne12 (ninS ne60 nin0))
  have E275 := E203.keep K264
  have F276 := F204.keep K264 (ninS ne13 (ninS ne61 nin0))
  have S277 := S205.keep K264 (ninS ne14 (ninS ne62 nin0)) (ninS ne15 (ninS ne63 nin0))
  have E278 := F_0193.keep K264
  have S279 := S207.keep K264 (ninS ne169.1.symm (ninS ne167.1.symm nin0)) (ninS ne169.2.symm (ninS ne167.2.symm nin0))
  have Z280 := Nat.le_trans Z208 K264.1
  have hk281 := Nat.le_trans hk209 K264.1
  have O282 := O210.keep K264 (allS nw16 (allS nw65 all0))
  have K283 := K211.trans K264 (allS (Or.inr hk17) (allS (Or.inr hk66) all0))
  have hz284 := Nat.le_trans hz212 K264.1
  have V285 : Arv Z T242.heap x_pv58 x_kv57 .byte (16 : Int32) [(.int (StrChars.lo8 u0)), (.int (StrChars.lo8 u1)), (.int 46), (.int 115), (.int 104), (.int 97), (.int 53), (.int 49), (.int 50)] (.int 0) := F_4269
  have F286 : Fld Z T242.heap a9 "java/lang/AbstractStringBuilder" "count" "I" (.int 9) := F_3268
  refine Way.to st252 ?_
  show Way _ _ _ _ (T242.setTop (mkF m 25 #[rv px] [(.ref a9)]))
  try clear F_0193 F_1194 F_2195 H198 CH199 Sf201 S202 E203 F204 S205 S207 Z208 hk209 O210 K211 hz212 V213 F214 X220 N230 e231 st252 cq258 kq259 qa260 qb261 qc262 N263 K264 hr272 E278
  try clear T170 T219
  obtain ⟨cq303, kq304, qa305, qb306, qc307⟩ := isOf hZ137 rfl F_0265
  obtain ⟨_, _, ⟨T287, L289, k290, n291⟩, -, X288, ⟨Lc292, hQ293, l294, y295, z296⟩, st297⟩ := X243.virtualBack hx (y := (⟨"java/lang/StringBuilder", "toString", "()Ljava/lang/String;"⟩ : MethodName)) (z := (⟨"java/lang/StringBuilder", "toString", "()Ljava/lang/String;"⟩ : MethodName)) hown138 (mvT hZ137 (tw hw 104 rfl)) (mvT hZ137 (tw hw 105 rfl)) (notFace_of_selects (args := #[]) (mvT hZ137 (tw hw 107 rfl))) (mvT hZ137 (tw hw 107 rfl)) (mvT hZ137 (tw hw 106 rfl)) (by decide) (backOf (W := 0) (rmTS2 l Z a0 hw [] a9 x_pv58 x_kv57 u0 u1 T242.heap n0 Z280 F_0265 F_1266 F_2267 F286 V285 hbd O282 SV) hZ137 (tw hw 108 rfl) (tw hw 28 rfl) (by decide) (by decide)) qa305 qc307 (g := (mkF m 25 #[rv px] [(.ref a9)])) rfl (by rw [hml]; rfl) (Steps.refl _) (argsL := []) (rest := []) (lenOf pdLB rfl) rfl (leW rfl) (hb hby dNF0_25) (fun _ _ => ⟨rfl, rfl, (leB rfl), (leB rfl)⟩)
  dsimp only [Pt.U, Pt.locs, Pt.cells, Pt.slots] at X288 l294 y295 z296 st297 hQ293
  subst y295 z296
  obtain ⟨x_bx314, x_bt313, rfl, N308, K309, fr_bx312, fr_bt311, F_0310⟩ := hQ293
  have N298 : Fr n0 L289 := by rw [l294]; exact Fr.app N253 N308
  have ne315 : px ≠ x_bx314 := Nat.ne_of_lt (Nat.lt_of_lt_of_le S274.lt1 fr_bx312)
  have ne316 : pt ≠ x_bx314 := Nat.ne_of_lt (Nat.lt_of_lt_of_le S274.lt2 fr_bx312)
  have ne317 : ud ≠ x_bx314 := Nat.ne_of_lt (Nat.lt_of_lt_of_le E275.lt fr_bx312)
  have ne318 : ul ≠ x_bx314 := Nat.ne_of_lt (Nat.lt_of_lt_of_le S277.lt1 fr_bx312)
  have ne319 : ult ≠ x_bx314 := Nat.ne_of_lt (Nat.lt_of_lt_of_le S277.lt2 fr_bx312)
  have ne320 : a9 ≠ x_bx314 := Nat.ne_of_lt (Nat.lt_of_lt_of_le F_0265.lt fr_bx312)
  have ne321 : a126 ≠ x_bx314 := Nat.ne_of_lt (Nat.lt_of_lt_of_le S279.lt1 fr_bx312)
  have ne322 : bd130 ≠ x_bx314 := Nat.ne_of_lt (Nat.lt_of_lt_of_le S279.lt2 fr_bx312)
  have ne323 : x_pv58 ≠ x_bx314 := Nat.ne_of_lt (Nat.lt_of_lt_of_le V285.lt fr_bx312)
  have nw324 : n0 ≤ x_bx314 := Nat.le_trans Z280 fr_bx312
  have hk325 : h0.size ≤ x_bx314 := Nat.le_trans hz284 fr_bx312
  have Sf326 : Safe Z own_EL T127.vm T242.heap x_bx314 := Safe.new fr_bx312
  have ne327 : px ≠ x_bt313 := Nat.ne_of_lt (Nat.lt_of_lt_of_le S274.lt1 fr_bt311)
  have ne328 : pt ≠ x_bt313 := Nat.ne_of_lt (Nat.lt_of_lt_of_le S274.lt2 fr_bt311)
  have ne329 : ud ≠ x_bt313 := Nat.ne_of_lt (Nat.lt_of_lt_of_le E275.lt fr_bt311)
  have ne330 : ul ≠ x_bt313 := Nat.ne_of_lt (Nat.lt_of_lt_of_le S277.lt1 fr_bt311)
  have ne331 : ult ≠ x_bt313 := Nat.ne_of_lt (Nat.lt_of_lt_of_le S277.lt2 fr_bt311)
  have ne332 : a9 ≠ x_bt313 := Nat.ne_of_lt (Nat.lt_of_lt_of_le F_0265.lt fr_bt311)
  have ne333 : a126 ≠ x_bt313 := Nat.ne_of_lt (Nat.lt_of_lt_of_le S279.lt1 fr_bt311)
  have ne334 : bd130 ≠ x_bt313 := Nat.ne_of_lt (Nat.lt_of_lt_of_le S279.lt2 fr_bt311)
  have ne335 : x_pv58 ≠ x_bt313 := Nat.ne_of_lt (Nat.lt_of_lt_of_le V285.lt fr_bt311)
  have nw336 : n0 ≤ x_bt313 := Nat.le_trans Z280 fr_bt311
  have hk337 : h0.size ≤ x_bt313 := Nat.le_trans hz284 fr_bt311
  have Sf338 : Safe Z own_EL T127.vm T242.heap x_bt313 := Safe.new fr_bt311
  have hr341 := CHr.keep K309 sf0 H270
  have Sf342 := Safe.keep K309 sf0 H270 Sf273
  have Sf343 := Safe.keep K309 sf0 H270 Sf326
  have Sf344 := Safe.keep K309 sf0 H270 Sf338
  have H339 := hr341.1
  have CH340 := CH271.trans hr341
  have S345 := S274.keep K309 nin0 nin0
  have E346 := E275.keep K309
  have F347 := F276.keep K309 nin0
  have S348 := S277.keep K309 nin0 nin0
  have E349 := F_0265.keep K309
  have S350 := S279.keep K309 nin0 nin0
  have F351 := F_1266.keep K309 nin0
  have F352 := F_2267.keep K309 nin0
  have F353 := F286.keep K309 nin0
  have A354 := V285.keep K309 nin0
  have Z355 := Nat.le_trans Z280 K309.1
  have hk356 := Nat.le_trans hk281 K309.1
  have O357 := O282.keep K309 all0
  have K358 := K283.trans K309 all0
  have hz359 := Nat.le_trans hz284 K309.1
  refine Way.to st297 ?_
  show Way _ _ _ _ (T287.setTop (mkF m 28 #[rv px] [(.ref x_bx314)]))
  try clear X243 N253 F_0265 F_1266 F_2267 H270 CH271 Sf273 S274 E275 F276 S277 S279 Z280 hk281 O282 K283 hz284 V285 F286 st297 cq303 kq304 qa305 qb306 qc307 N308 K309 hr341
  try clear T242
  refine Way.retH (v := (some (.ref x_bx314))) X288 hS135 (by exact hk356) hZ137 hEL hh rfl H339 CH340 hlk (fun h => by rw [Bd.returns] at h; cases h) (fun fs hr => retOut X288 hx Bd.returns rfl (Or.inr (Or.inr (Or.inr (Or.inr ⟨rfl, rfl, rfl⟩)))) (hb hby dNF0_28) hr) ?_ (by decide) (by decide)
  show QNF2 Z px pt u0 u1 ud ul ult h0 n0 _ T287.heap _
  skip
  exact ⟨x_bx314, x_bt313, rfl, N298, K358, F_0310⟩
def QCL3 (Z : State)  (h0 : Heap) (n0 : Nat) (v : Option Value) (h : Heap) (L : List Loc) : Prop := v = none ∧ Fr n0 L ∧ h = h0
set_option maxRecDepth 65536 in
set_option maxHeartbeats 40000000 in
theorem rmCL3 (l : Launch) (Z : State) (a0 : Array Value) (hw : ∀ d ∈ tables_1, d.before a0 Z = true) (ws : List Jvm.Cond)  (h0 : Heap) (n0 : Nat) (Z0 : n0 ≤ h0.size)  :
    MetFree l (⟨"java/util/Arrays", "checkLength", "(II)V"⟩ : MethodName) (head1 (Jvm.Cond.code (⟨"java/util/Arrays", "checkLength", "(II)V"⟩ : MethodName) jdk_65_method_131_code 2 none :: ws) ({ frames := 0, cells := 0, slots := 0, locals := 0 } : Room)) (fun aa U => aa = #[(.int 0), (.int 10)] ∧ Z.Warmed39 U.vm ∧ U.heap = h0) (fun _ _ _ _ _ => True) (fun _ U oo U' => ∃ v L, oo = .returned v ∧ QCL3 Z  h0 n0 v U'.heap L ∧ FrameEnd U oo U' L ({ frames := 0, cells := 0, slots := 0, locals := 0 } : Room).cells ({ frames := 0, cells := 0, slots := 0, locals := 0 } : Room).slots) := by
  refine MetFree.of_bodySF (plainFor_of_name pnCL0) hisR ?_
  intro p e s m args below meth c s₁ Bd hml0 hP hK
  obtain ⟨rfl, hZ, hh⟩ := hP
  have hx := Bd.exec
  have hby := Bd.bytes
  have hlk : meth.locks = false := BodyLoose.notSynchronized Bd
  have hml : c.maxLocals = 2 := hml0
  have hown : s.vm.findClass "java/util/Arrays" = some m.cls := findClass_of_methodNamed Bd.named
  have hnm := (name_of_methodNamed Bd.named Bd.method).1
  have X0 : Stand p l e ({ frames := 0, cells := 0, slots := 0, locals := 0 } : Room) s m #[(.int 0), (.int 10)] below meth c s₁ [] 0 0 := Stand.of_body Bd
  have e0 : s₁.heap = h0 := by rw [← hh, Bd.state]; rfl
  have N0 := Fr.nil n0
  have ef : entryFrame m #[(.int 0), (.int 10)] 2 = mkF m 0 #[iv 0, iv 10] [] := by first | (simp [entryFrame, mkF, argsToLocals, Value.category, maxLocals]; done) | rfl
  show Way p.tables e below (KQ s (QCL3 Z  h0 n0) ({ frames := 0, cells := 0, slots := 0, locals := 0 } : Room).cells ({ frames := 0, cells := 0, slots := 0, locals := 0 } : Room).slots) (s₁.setTop (entryFrame m #[(.int 0), (.int 10)] 2))
  rw [ef]
  refine Way.by (fun _ k => XS.iloadN X0.here hx rfl (hb hby dCL0_0) rfl k) ?_
  refine Way.by (fun _ k => XS.iloadN X0.here hx rfl (hb hby dCL0_1) rfl k) ?_
  show Way _ _ _ _ (s₁.setTop (mkF m 2 #[iv 0, iv 10] [(.int 0), (.int 10)]))
  have b1 : ¬ (10 : Int32) < (0 : Int32) := by decide
  refine Way.by (fun _ k => XS.icmpYes X0.here hx rfl (pc0 := 2) (pc' := 37) rfl (hb hby dCL0_2) rfl (flt b1).2.1 (by decide) (by decide) k) ?_
  show Way _ _ _ _ (s₁.setTop (mkF m 37 #[iv 0, iv 10] []))
  refine Way.ret (v := none) X0 hlk (fun _ => rfl) (fun fs hr => X0.returnOut hx Bd.returns (hb hby dCL0_37) hr) ?_ (by decide) (by decide)
  show QCL3 Z  h0 n0 _ s₁.heap _
  rw [e0]
  exact ⟨rfl, N0, rfl⟩
def QCB3 (Z : State) (pv : Addr) (kv : ClassId) (u0 : Int32) (u1 : Int32) (u2 : Int32) (h0 : Heap) (n0 : Nat) (v : Option Value) (h : Heap) (L : List Loc) : Prop := ∃ (bt : Addr) (kt : ClassId), v = some (.ref bt) ∧ Fr n0 L ∧ Keep h0 h [] ∧ h0.size ≤ bt ∧ Arv Z h bt kt .byte (10 : Int32) [(.int (StrChars.lo8 u0)), (.int (StrChars.lo8 u1)), (.int (StrChars.lo8 u2)), (.int 46), (.int 115), (.int 104), (.int 97), (.int 53), (.int 49), (.int 50)] (.int 0)
set_option maxRecDepth 65536 in
set_option maxHeartbeats 40000000 in
theorem rmCB3 (l : Launch) (Z : State) (a0 : Array Value) (hw : ∀ d ∈ tables_1, d.before a0 Z = true) (ws : List Jvm.Cond) (pv : Addr) (kv : ClassId) (u0 : Int32) (u1 : Int32) (u2 : Int32) (h0 : Heap) (n0 : Nat) (Z0 : n0 ≤ h0.size) (H0 : Arv Z h0 pv kv .byte (16 : Int32) [(.int (StrChars.lo8 u0)), (.int (StrChars.lo8 u1)), (.int (StrChars.lo8 u2)), (.int 46), (.int 115), (.int 104), (.int 97), (.int 53), (.int 49), (.int 50)] (.int 0)) :
    MetFree l (⟨"java/util/Arrays", "copyOfRangeByte", "([BII)[B"⟩ : MethodName) (head1 (Jvm.Cond.code (⟨"java/util/Arrays", "copyOfRangeByte", "([BII)[B"⟩ : MethodName) jdk_65_method_133_code 5 (some (.array .byte)) :: ws) ({ frames := 1, cells := 1, slots := 10, locals := 44 } : Room)) (fun aa U => aa = #[(.ref pv), (.int 0), (.int 10)] ∧ Z.Warmed39 U.vm ∧ U.heap = h0) (fun _ _ _ _ _ => True) (fun _ U oo U' => ∃ v L, oo = .returned v ∧ QCB3 Z pv kv u0 u1 u2 h0 n0 v U'.heap L ∧ FrameEnd U oo U' L ({ frames := 1, cells := 1, slots := 10, locals := 44 } : Room).cells ({ frames := 1, cells := 1, slots := 10, locals := 44 } : Room).slots) := by
  refine MetFree.of_bodySF (plainFor_of_name pnCL0) hisR ?_
  intro p e s m args below meth c s₁ Bd hml0 hP hK
  obtain ⟨rfl, hZ, hh⟩ := hP
  have hx := Bd.exec
  have hby := Bd.bytes
  have hlk : meth.locks = false := BodyLoose.notSynchronized Bd
  have hml : c.maxLocals = 5 := hml0
  have hown : s.vm.findClass "java/util/Arrays" = some m.cls := findClass_of_methodNamed Bd.named
  have hnm := (name_of_methodNamed Bd.named Bd.method).1
  have X0 : Stand p l e ({ frames := 1, cells := 1, slots := 10, locals := 44 } : Room) s m #[(.ref pv), (.int 0), (.int 10)] below meth c s₁ [] 0 0 := Stand.of_body Bd
  have e0 : s₁.heap = h0 := by rw [← hh, Bd.state]; rfl
  have N0 := Fr.nil n0
  have ef : entryFrame m #[(.ref pv), (.int 0), (.int 10)] 5 = mkF m 0 #[rv pv, iv 0, iv 10, .unset, .unset] [] := by first | (simp [entryFrame, mkF, argsToLocals, Value.category, maxLocals]; done) | rfl
  show Way p.tables e below (KQ s (QCB3 Z pv kv u0 u1 u2 h0 n0) ({ frames := 1, cells := 1, slots := 10, locals := 44 } : Room).cells ({ frames := 1, cells := 1, slots := 10, locals := 44 } : Room).slots) (s₁.setTop (entryFrame m #[(.ref pv), (.int 0), (.int 10)] 5))
  rw [ef]
  refine Way.by (fun _ k => XS.iloadN X0.here hx rfl (hb hby dCB0_0) rfl k) ?_
  refine Way.by (fun _ k => XS.iloadN X0.here hx rfl (hb hby dCB0_1) rfl k) ?_
  show Way _ _ _ _ (s₁.setTop (mkF m 2 #[rv pv, iv 0, iv 10, .unset, .unset] [(.int 10), (.int 0)]))
  obtain ⟨_, _, ⟨T1, L3, k4, n5⟩, -, X2, ⟨Lc6, hQ7, l8, y9, z10⟩, st11⟩ := Jvm.LawKit.callS X0 hx (y := (⟨"java/util/Arrays", "checkLength", "(II)V"⟩ : MethodName)) hown (mvT hZ (tw hw 141 rfl)) (mvT hZ (tw hw 142 rfl)) (mvT hZ (tw hw 136 rfl)) (mvT hZ (tw hw 143 rfl)) (by decide) (backOf (W := 0) (rmCL3 l Z a0 hw []  h0 n0 Z0 ) hZ (tw hw 143 rfl) (tw hw 136 rfl) (by decide) (by decide)) (g := (mkF m 2 #[rv pv, iv 0, iv 10, .unset, .unset] [(.int 10), (.int 0)])) rfl (by rw [hml]; rfl) (argsL := [(.int 0), (.int 10)]) (rest := []) (lenOf pdCL0 rfl) rfl (leW rfl) (hb hby dCB0_2) (fun _ _ => ⟨rfl, e0, (leB rfl), (leB rfl)⟩)
  dsimp only [Pt.U, Pt.locs, Pt.cells, Pt.slots] at X2 l8 y9 z10 st11 hQ7
  subst y9 z10
  obtain ⟨rfl, N17, e13⟩ := hQ7
  have N12 : Fr n0 L3 := by rw [l8]; exact Fr.app N0 N17
  refine Way.by st11 ?_
  show Way _ _ _ _ (T1.setTop (mkF m 5 #[rv pv, iv 0, iv 10, .unset, .unset] []))
  refine Way.by (fun _ k => XS.iloadN X2.here hx rfl (hb hby dCB0_5) rfl k) ?_
  refine Way.by (fun _ k => XS.iloadN X2.here hx rfl (hb hby dCB0_6) rfl k) ?_
  show Way _ _ _ _ (T1.setTop (mkF m 7 #[rv pv, iv 0, iv 10, .unset, .unset] [(.int 0), (.int 10)]))
  refine Way.by (fun _ k => XS.isub X2.here hx rfl (hb hby dCB0_7) rfl k) ?_
  show Way _ _ _ _ (T1.setTop (mkF m 8 #[rv pv, iv 0, iv 10, .unset, .unset] [(.int 10)]))
  refine Way.by (fun _ k => XS.istoreN X2.here hx rfl (hb hby dCB0_8) rfl (l' := #[rv pv, iv 0, iv 10, iv 10, .unset]) rfl k) ?_
  show Way _ _ _ _ (T1.setTop (mkF m 9 #[rv pv, iv 0, iv 10, iv 10, .unset] []))
  refine Way.by (fun _ k => XS.iloadN X2.here hx rfl (hb hby dCB0_9) rfl k) ?_
  show Way _ _ _ _ (T1.setTop (mkF m 10 #[rv pv, iv 0, iv 10, iv 10, .unset] [(.int 10)]))
  obtain ⟨T19, h20, kc21, X22, e23, E24, A25, st26⟩ := newP X2 hx hZ (tw hw 15 rfl) e13 (g := (mkF m 10 #[rv pv, iv 0, iv 10, iv 10, .unset] [(.int 10)])) rfl (hb hby dCB0_10) rfl (by decide) (cap := 10) (by decide) (by decide) (by decide) (by decide)
  obtain ⟨a27, g28⟩ : ∃ z, z = h0.size := ⟨_, rfl⟩
  rw [← g28] at A25 st26
  have ne30 : pv ≠ a27 := Nat.ne_of_lt (Nat.lt_of_lt_of_eq H0.lt g28.symm)
  have nw31 : n0 ≤ a27 := Nat.le_trans Z0 (Nat.le_of_eq g28.symm)
  have hk32 : h0.size ≤ a27 := Nat.le_trans (Nat.le_refl h0.size) (Nat.le_of_eq g28.symm)
  have A33 := H0.ext E24
  have Z34 := Nat.le_trans Z0 E24.1
  have K35 := (Keep.refl h0 []).ext E24
  have hz36 := Nat.le_trans (Nat.le_refl h0.size) E24.1
  have V29 : Arv Z h20 a27 kc21 .byte (10 : Int32) [] (.int 0) := Arv.new A25 (by decide)
  refine Way.by st26 ?_
  show Way _ _ _ _ (T19.setTop (mkF m 12 #[rv pv, iv 0, iv 10, iv 10, .unset] [(.ref a27)]))
  refine Way.by (fun _ k => XS.astore X22.here hx rfl (hb hby dCB0_12) rfl rfl (l' := #[rv pv, iv 0, iv 10, iv 10, rv a27]) rfl k) ?_
  show Way _ _ _ _ (T19.setTop (mkF m 14 #[rv pv, iv 0, iv 10, iv 10, rv a27] []))
  refine Way.by (fun _ k => XS.aloadN X22.here hx rfl (hb hby dCB0_14) rfl rfl k) ?_
  refine Way.by (fun _ k => XS.iloadN X22.here hx rfl (hb hby dCB0_15) rfl k) ?_
  refine Way.by (fun _ k => XS.aload X22.here hx rfl (hb hby dCB0_16) rfl rfl k) ?_
  show Way _ _ _ _ (T19.setTop (mkF m 18 #[rv pv, iv 0, iv 10, iv 10, rv a27] [(.ref a27), (.int 0), (.ref pv)]))
  refine Way.by (fun _ k => XS.iconst X22.here hx rfl (hb hby dCB0_18) k) ?_
  refine Way.by (fun _ k => XS.aloadN X22.here hx rfl (hb hby dCB0_19) rfl rfl k) ?_
  show Way _ _ _ _ (T19.setTop (mkF m 20 #[rv pv, iv 0, iv 10, iv 10, rv a27] [(.ref pv), (.int 0), (.ref a27), (.int 0), (.ref pv)]))
  obtain ⟨c37, A38, q39, S40, M41, H42, U43⟩ := id A33
  refine Way.by (fun t k => Stand.arraylength X22 hx (hpE e23 A38.1) (arrS hZ A38) (g := (mkF m 20 #[rv pv, iv 0, iv 10, iv 10, rv a27] [(.ref pv), (.int 0), (.ref a27), (.int 0), (.ref pv)])) rfl rfl (hb hby dCB0_20) t k) ?_
  rw [len_of S40 M41]
  show Way _ _ _ _ (T19.setTop (mkF m 21 #[rv pv, iv 0, iv 10, iv 10, rv a27] [(.int 16), (.int 0), (.ref a27), (.int 0), (.ref pv)]))
  refine Way.by (fun _ k => XS.iloadN X22.here hx rfl (hb hby dCB0_21) rfl k) ?_
  show Way _ _ _ _ (T19.setTop (mkF m 22 #[rv pv, iv 0, iv 10, iv 10, rv a27] [(.int 0), (.int 16), (.int 0), (.ref a27), (.int 0), (.ref pv)]))
  refine Way.by (fun _ k => XS.isub X22.here hx rfl (hb hby dCB0_22) rfl k) ?_
  show Way _ _ _ _ (T19.setTop (mkF m 23 #[rv pv, iv 0, iv 10, iv 10, rv a27] [(.int 16), (.int 0), (.ref a27), (.int 0), (.ref pv)]))
  refine Way.by (fun _ k => XS.iloadN X22.here hx rfl (hb hby dCB0_23) rfl k) ?_
  show Way _ _ _ _ (T19.setTop (mkF m 24 #[rv pv, iv 0, iv 10, iv 10, rv a27] [(.int 10), (.int 16), (.int 0), (.ref a27), (.int 0), (.ref pv)]))
  obtain ⟨_, _, ⟨T44, L46, k47, n48⟩, -, X45, ⟨Lc49, hQ50, l51, y52, z53⟩, st54⟩ := Jvm.LawKit.callS X22 hx (y := (⟨"java/lang/Math", "min", "(II)I"⟩ : MethodName)) hown (mvT hZ (tw hw 144 rfl)) (mvT hZ (tw hw 145 rfl)) (mvT hZ (tw hw 146 rfl)) (mvT hZ (tw hw 147 rfl)) (by decide) (backOf (W := 4) (rmMN l Z a0 hw [] (16 : Int32) (10 : Int32) (10 : Int32) h20 n0 Z34 (by decide)) hZ (tw hw 147 rfl) (tw hw 146 rfl) (by decide) (by decide)) (g := (mkF m 24 #[rv pv, iv 0, iv 10, iv 10, rv a27] [(.int 10), (.int 16), (.int 0), (.ref a27), (.int 0), (.ref pv)])) rfl (by rw [hml]; rfl) (argsL := [(.int 16), (.int 10)]) (rest := [(.int 0), (.ref a27), (.int 0), (.ref pv)]) (lenOf pdMN rfl) rfl (leW rfl) (hb hby dCB0_24) (fun _ _ => ⟨rfl, e23, (leB rfl), (leB rfl)⟩)
  dsimp only [Pt.U, Pt.locs, Pt.cells, Pt.slots] at X45 l51 y52 z53 st54 hQ50
  subst y52 z53
  obtain ⟨rfl, N60, e56⟩ := hQ50
  have N55 : Fr n0 L46 := by rw [l51]; exact Fr.app N12 N60
  refine Way.by st54 ?_
  show Way _ _ _ _ (T44.setTop (mkF m 27 #[rv pv, iv 0, iv 10, iv 10, rv a27] [(.int 10), (.int 0), (.ref a27), (.int 0), (.ref pv)]))
  have V62 : Arv Z h20 a27 kc21 .byte (10 : Int32) (List.replicate 10 (Value.int (0 : Int32))) (.int 0) := V29.pad (pad_rep [] (.int 0) 10)
  obtain ⟨T63, h64, L65, X66, e67, N68, K69, V70, st71⟩ := cpA X45 hx hZ hown (tw hw 148 rfl) (tw hw 91 rfl) (tw hw 89 rfl) (tw hw 90 rfl) e56 A33 V62 (us := [(.int (StrChars.lo8 u0)), (.int (StrChars.lo8 u1)), (.int (StrChars.lo8 u2)), (.int 46), (.int 115), (.int 104), (.int 97), (.int 53), (.int 49), (.int 50)]) (Or.inl ⟨rfl, rfl⟩) (by decide) (by decide) (by decide) (by decide) (by decide) rfl (by decide) N55 nw31 (g := (mkF m 27 #[rv pv, iv 0, iv 10, iv 10, rv a27] [(.int 10), (.int 0), (.ref a27), (.int 0), (.ref pv)])) rfl (by rw [hml]; rfl) rfl (hb hby dCB0_27) (by decide) (W := 0) (leW rfl) (by decide)
  have V72 : Arv Z h64 a27 kc21 .byte (10 : Int32) [(.int (StrChars.lo8 u0)), (.int (StrChars.lo8 u1)), (.int (StrChars.lo8 u2)), (.int 46), (.int 115), (.int 104), (.int 97), (.int 53), (.int 49), (.int 50)] (.int 0) := V70
  have A73 := A33.keep K69 (ninS ne30 nin0)
  have Z74 := Nat.le_trans Z34 K69.1
  have K75 := K35.trans K69 (allS (Or.inr hk32) all0)
  have hz76 := Nat.le_trans hz36 K69.1
  refine Way.by st71 ?_
  show Way _ _ _ _ (T63.setTop (mkF m 30 #[rv pv, iv 0, iv 10, iv 10, rv a27] []))
  try clear V29 A33 Z34 K35 hz36 X45 N55 e56 V62 K69 V70 st71
  try clear h20 T44
  refine Way.by (fun _ k => XS.aload X66.here hx rfl (hb hby dCB0_30) rfl rfl k) ?_
  show Way _ _ _ _ (T63.setTop (mkF m 32 #[rv pv, iv 0, iv 10, iv 10, rv a27] [(.ref a27)]))
  refine Way.ret (v := (some (.ref a27))) X66 hlk (fun h => by rw [Bd.returns] at h; cases h) (fun fs hr => retOut X66 hx Bd.returns rfl (Or.inr (Or.inr (Or.inr (Or.inr ⟨rfl, rfl, rfl⟩)))) (hb hby dCB0_32) hr) ?_ (by decide) (by decide)
  show QCB3 Z pv kv u0 u1 u2 h0 n0 _ T63.heap _
  rw [e67]
  exact ⟨a27, kc21, rfl, N68, K75, hk32, V72⟩
def QCR3 (Z : State) (pv : Addr) (kv : ClassId) (u0 : Int32) (u1 : Int32) (u2 : Int32) (h0 : Heap) (n0 : Nat) (v : Option Value) (h : Heap) (L : List Loc) : Prop := ∃ (bt : Addr) (kt : ClassId), v = some (.ref bt) ∧ Fr n0 L ∧ Keep h0 h [] ∧ h0.size ≤ bt ∧ Arv Z h bt kt .byte (10 : Int32) [(.int (StrChars.lo8 u0)), (.int (StrChars.lo8 u1)), (.int (StrChars.lo8 u2)), (.int 46), (.int 115), (.int 104), (.int 97), (.int 53), (.int 49), (.int 50)] (.int 0)
set_option maxRecDepth 65536 in
set_option maxHeartbeats 40000000 in
theorem rmCR3 (l : Launch) (Z : State) (a0 : Array Value) (hw : ∀ d ∈ tables_1, d.before a0 Z = true) (ws : List Jvm.Cond) (pv : Addr) (kv : ClassId) (u0 : Int32) (u1 : Int32) (u2 : Int32) (h0 : Heap) (n0 : Nat) (Z0 : n0 ≤ h0.size) (H0 : Arv Z h0 pv kv .byte (16 : Int32) [(.int (StrChars.lo8 u0)), (.int (StrChars.lo8 u1)), (.int (StrChars.lo8 u2)), (.int 46), (.int 115), (.int 104), (.int 97), (.int 53), (.int 49), (.int 50)] (.int 0)) :
    MetFree l (⟨"java/util/Arrays", "copyOfRange", "([BII)[B"⟩ : MethodName) (head1 (Jvm.Cond.code (⟨"java/util/Arrays", "copyOfRange", "([BII)[B"⟩ : MethodName) jdk_65_method_132_code 3 (some (.array .byte)) :: ws) ({ frames := 2, cells := 1, slots := 10, locals := 60 } : Room)) (fun aa U => aa = #[(.ref pv), (.int 0), (.int 10)] ∧ Z.Warmed39 U.vm ∧ U.heap = h0) (fun _ _ _ _ _ => True) (fun _ U oo U' => ∃ v L, oo = .returned v ∧ QCR3 Z pv kv u0 u1 u2 h0 n0 v U'.heap L ∧ FrameEnd U oo U' L ({ frames := 2, cells := 1, slots := 10, locals := 60 } : Room).cells ({ frames := 2, cells := 1, slots := 10, locals := 60 } : Room).slots) := by
  refine MetFree.of_bodySF (plainFor_of_name pnCL0) hisR ?_
  intro p e s m args below meth c s₁ Bd hml0 hP hK
  obtain ⟨rfl, hZ, hh⟩ := hP
  have hx := Bd.exec
  have hby := Bd.bytes
  have hlk : meth.locks = false := BodyLoose.notSynchronized Bd
  have hml : c.maxLocals = 3 := hml0
  have hown : s.vm.findClass "java/util/Arrays" = some m.cls := findClass_of_methodNamed Bd.named
  have hnm := (name_of_methodNamed Bd.named Bd.method).1
  have X0 : Stand p l e ({ frames := 2, cells := 1, slots := 10, locals := 60 } : Room) s m #[(.ref pv), (.int 0), (.int 10)] below meth c s₁ [] 0 0 := Stand.of_body Bd
  have e0 : s₁.heap = h0 := by rw [← hh, Bd.state]; rfl
  have N0 := Fr.nil n0
  have ef : entryFrame m #[(.ref pv), (.int 0), (.int 10)] 3 = mkF m 0 #[rv pv, iv 0, iv 10] [] := by first | (simp [entryFrame, mkF, argsToLocals, Value.category, maxLocals]; done) | rfl
  show Way p.tables e below (KQ s (QCR3 Z pv kv u0 u1 u2 h0 n0) ({ frames := 2, cells := 1, slots := 10, locals := 60 } : Room).cells ({ frames := 2, cells := 1, slots := 10, locals := 60 } : Room).slots) (s₁.setTop (entryFrame m #[(.ref pv), (.int 0), (.int 10)] 3))
  rw [ef]
  refine Way.by (fun _ k => XS.iloadN X0.here hx rfl (hb hby dCR0_0) rfl k) ?_
  show Way _ _ _ _ (s₁.setTop (mkF m 1 #[rv pv, iv 0, iv 10] [(.int 0)]))
  have b1 : (0 : Int32) = (0 : Int32) := by decide
  refine Way.by (fun _ k => XS.ifNo X0.here hx rfl (hb hby dCR0_1) rfl ((if0 .ne _).trans (teq b1).2) k) ?_
  show Way _ _ _ _ (s₁.setTop (mkF m 4 #[rv pv, iv 0, iv 10] []))
  refine Way.by (fun _ k => XS.iloadN X0.here hx rfl (hb hby dCR0_4) rfl k) ?_
  refine Way.by (fun _ k => XS.aloadN X0.here hx rfl (hb hby dCR0_5) rfl rfl k) ?_
  show Way _ _ _ _ (s₁.setTop (mkF m 6 #[rv pv, iv 0, iv 10] [(.ref pv), (.int 10)]))
  obtain ⟨c2, A3, q4, S5, M6, H7, U8⟩ := id H0
  refine Way.by (fun t k => Stand.arraylength X0 hx (hpE e0 A3.1) (arrS hZ A3) (g := (mkF m 6 #[rv pv, iv 0, iv 10] [(.ref pv), (.int 10)])) rfl rfl (hb hby dCR0_6) t k) ?_
  rw [len_of S5 M6]
  show Way _ _ _ _ (s₁.setTop (mkF m 7 #[rv pv, iv 0, iv 10] [(.int 16), (.int 10)]))
  have b9 : ¬ (10 : Int32) = (16 : Int32) := by decide
  refine Way.by (fun _ k => XS.icmpNo X0.here hx rfl (hb hby dCR0_7) rfl (feq b9).1 k) ?_
  show Way _ _ _ _ (s₁.setTop (mkF m 10 #[rv pv, iv 0, iv 10] []))
  refine Way.by (fun _ k => XS.aloadN X0.here hx rfl (hb hby dCR0_10) rfl rfl k) ?_
  refine Way.by (fun _ k => XS.iloadN X0.here hx rfl (hb hby dCR0_11) rfl k) ?_
  refine Way.by (fun _ k => XS.iloadN X0.here hx rfl (hb hby dCR0_12) rfl k) ?_
  show Way _ _ _ _ (s₁.setTop (mkF m 13 #[rv pv, iv 0, iv 10] [(.int 10), (.int 0), (.ref pv)]))
  obtain ⟨_, _, ⟨T10, L12, k13, n14⟩, -, X11, ⟨Lc15, hQ16, l17, y18, z19⟩, st20⟩ := Jvm.LawKit.callS X0 hx (y := (⟨"java/util/Arrays", "copyOfRangeByte", "([BII)[B"⟩ : MethodName)) hown (mvT hZ (tw hw 138 rfl)) (mvT hZ (tw hw 139 rfl)) (mvT hZ (tw hw 136 rfl)) (mvT hZ (tw hw 140 rfl)) (by decide) (backOf (W := 0) (rmCB3 l Z a0 hw [] pv kv u0 u1 u2 h0 n0 Z0 H0) hZ (tw hw 140 rfl) (tw hw 136 rfl) (by decide) (by decide)) (g := (mkF m 13 #[rv pv, iv 0, iv 10] [(.int 10), (.int 0), (.ref pv)])) rfl (by rw [hml]; rfl) (argsL := [(.ref pv), (.int 0), (.int 10)]) (rest := []) (lenOf pdCB0 rfl) rfl (leW rfl) (hb hby dCR0_13) (fun _ _ => ⟨rfl, e0, (leB rfl), (leB rfl)⟩)
  dsimp only [Pt.U, Pt.locs, Pt.cells, Pt.slots] at X11 l17 y18 z19 st20 hQ16
  subst y18 z19
  obtain ⟨x_bt30, x_kt31, rfl, N26, K27, fr_bt29, F_028⟩ := hQ16
  have N21 : Fr n0 L12 := by rw [l17]; exact Fr.app N0 N26
  have ne32 : pv ≠ x_bt30 := Nat.ne_of_lt (Nat.lt_of_lt_of_le H0.lt fr_bt29)
  have nw33 : n0 ≤ x_bt30 := Nat.le_trans Z0 fr_bt29
  have hk34 : h0.size ≤ x_bt30 := Nat.le_trans (Nat.le_refl h0.size) fr_bt29
  have A35 := H0.keep K27 nin0
  have Z36 := Nat.le_trans Z0 K27.1
  have K37 := (Keep.refl h0 []).trans K27 all0
  have hz38 := Nat.le_trans (Nat.le_refl h0.size) K27.1
  refine Way.by st20 ?_
  show Way _ _ _ _ (T10.setTop (mkF m 16 #[rv pv, iv 0, iv 10] [(.ref x_bt30)]))
  refine Way.ret (v := (some (.ref x_bt30))) X11 hlk (fun h => by rw [Bd.returns] at h; cases h) (fun fs hr => retOut X11 hx Bd.returns rfl (Or.inr (Or.inr (Or.inr (Or.inr ⟨rfl, rfl, rfl⟩)))) (hb hby dCR0_16) hr) ?_ (by decide) (by decide)
  show QCR3 Z pv kv u0 u1 u2 h0 n0 _ T10.heap _
  skip
  exact ⟨x_bt30, x_kt31, rfl, N21, K37, hk34, F_028⟩
def QS23 (Z : State) (px : Addr) (pa : Addr) (pv : Addr) (kv : ClassId) (u0 : Int32) (u1 : Int32) (u2 : Int32) (h0 : Heap) (n0 : Nat) (v : Option Value) (h : Heap) (L : List Loc) : Prop := ∃ (bt : Addr), v = none ∧ Fr n0 L ∧ Keep h0 h [px] ∧ h0.size ≤ bt ∧ own_Str Z h px bt [u0, u1, u2, 46, 115, 104, 97, 53, 49, 50]
set_option maxRecDepth 65536 in
set_option maxHeartbeats 40000000 in
theorem rmS23 (l : Launch) (Z : State) (a0 : Array Value) (hw : ∀ d ∈ tables_1, d.before a0 Z = true) (ws : List Jvm.Cond) (px : Addr) (pa : Addr) (pv : Addr) (kv : ClassId) (u0 : Int32) (u1 : Int32) (u2 : Int32) (h0 : Heap) (n0 : Nat) (Z0 : n0 ≤ h0.size) (H0 : Exa Z h0 pa "java/lang/StringBuilder") (H1 : Fld Z h0 pa "java/lang/AbstractStringBuilder" "value" "[B" (.ref pv)) (H2 : Fld Z h0 pa "java/lang/AbstractStringBuilder" "coder" "B" (.int 0)) (H3 : Fld Z h0 pa "java/lang/AbstractStringBuilder" "count" "I" (.int 10)) (H4 : Arv Z h0 pv kv .byte (16 : Int32) [(.int (StrChars.lo8 u0)), (.int (StrChars.lo8 u1)), (.int (StrChars.lo8 u2)), (.int 46), (.int 115), (.int 104), (.int 97), (.int 53), (.int 49), (.int 50)] (.int 0)) (H5 : Exa Z h0 px "java/lang/String") (H6 : Fld Z h0 px "java/lang/String" "value" "[B" .null) (H7 : Fld Z h0 px "java/lang/String" "coder" "B" (.int 0)) (hbd : ∀ c ∈ ([u0, u1, u2, 46, 115, 104, 97, 53, 49, 50] : List Int32), ¬ c < 0 ∧ ¬ (255 : Int32) < c) (ne_pa_px : pa ≠ px) (ne_pv_px : pv ≠ px) (nw_px : n0 ≤ px) (O0 : Old Z n0 h0) (SV : own_Env Z) :
    MetFree l (⟨"java/lang/String", "<init>", "(Ljava/lang/AbstractStringBuilder;Ljava/lang/Void;)V"⟩ : MethodName) (head1 (Jvm.Cond.code (⟨"java/lang/String", "<init>", "(Ljava/lang/AbstractStringBuilder;Ljava/lang/Void;)V"⟩ : MethodName) jdk_42_method_150_code 5 none :: ws) ({ frames := 3, cells := 1, slots := 10, locals := 75 } : Room)) (fun aa U => aa = #[(.ref px), (.ref pa), .null] ∧ Z.Warmed39 U.vm ∧ U.heap = h0) (fun _ _ _ _ _ => True) (fun _ U oo U' => ∃ v L, oo = .returned v ∧ QS23 Z px pa pv kv u0 u1 u2 h0 n0 v U'.heap L ∧ FrameEnd U oo U' L ({ frames := 3, cells := 1, slots := 10, locals := 75 } : Room).cells ({ frames := 3, cells := 1, slots := 10, locals := 75 } : Room).slots) := by
  refine MetFree.of_bodySF (plainFor_of_name pnCD) hisR ?_
  intro p e s m args below meth c s₁ Bd hml0 hP hK
  obtain ⟨rfl, hZ, hh⟩ := hP
  have hx := Bd.exec
  have hby := Bd.bytes
  have hlk : meth.locks = false := BodyLoose.notSynchronized Bd
  have hml : c.maxLocals = 5 := hml0
  have hown : s.vm.findClass "java/lang/String" = some m.cls := findClass_of_methodNamed Bd.named
  have hnm := (name_of_methodNamed Bd.named Bd.method).1
  have X0 : Stand p l e ({ frames := 3, cells := 1, slots := 10, locals := 75 } : Room) s m #[(.ref px), (.ref pa), .null] below meth c s₁ [] 0 0 := Stand.of_body Bd
  have e0 : s₁.heap = h0 := by rw [← hh, Bd.state]; rfl
  have N0 := Fr.nil n0
  have ef : entryFrame m #[(.ref px), (.ref pa), .null] 5 = mkF m 0 #[rv px, rv pa, .val .null, .unset, .unset] [] := by first | (simp [entryFrame, mkF, argsToLocals, Value.category, maxLocals]; done) | rfl
  show Way p.tables e below (KQ s (QS23 Z px pa pv kv u0 u1 u2 h0 n0) ({ frames := 3, cells := 1, slots := 10, locals := 75 } : Room).cells ({ frames := 3, cells := 1, slots := 10, locals := 75 } : Room).slots) (s₁.setTop (entryFrame m #[(.ref px), (.ref pa), .null] 5))
  rw [ef]
  refine Way.by (fun _ k => XS.aloadN X0.here hx rfl (hb hby dS20_0) rfl rfl k) ?_
  show Way _ _ _ _ (s₁.setTop (mkF m 1 #[rv px, rv pa, .val .null, .unset, .unset] [(.ref px)]))
  obtain ⟨T1, X2, e3, st4⟩ := initO X0 hx hZ hown (tw hw 11 rfl) (tw hw 12 rfl) (tw hw 13 rfl) e0 (g := (mkF m 1 #[rv px, rv pa, .val .null, .unset, .unset] [(.ref px)])) rfl (by rw [hml]; rfl) rfl (hb hby dS20_1) (by decide) (W := 0) (leW rfl) (by decide)
  refine Way.by st4 ?_
  show Way _ _ _ _ (T1.setTop (mkF m 4 #[rv px, rv pa, .val .null, .unset, .unset] []))
  refine Way.by (fun _ k => XS.aloadN X2.here hx rfl (hb hby dS20_4) rfl rfl k) ?_
  show Way _ _ _ _ (T1.setTop (mkF m 5 #[rv px, rv pa, .val .null, .unset, .unset] [(.ref pa)]))
  obtain ⟨cq21, kq22, qa23, qb24, qc25⟩ := isOf hZ e3 H0
  obtain ⟨_, _, ⟨T5, L7, k8, n9⟩, -, X6, ⟨Lc10, hQ11, l12, y13, z14⟩, st15⟩ := X2.virtualBack hx (y := (⟨"java/lang/AbstractStringBuilder", "getValue", "()[B"⟩ : MethodName)) (z := (⟨"java/lang/AbstractStringBuilder", "getValue", "()[B"⟩ : MethodName)) hown (mvT hZ (tw hw 116 rfl)) (mvT hZ (tw hw 117 rfl)) (notFace_of_selects (args := #[]) (mvT hZ (tw hw 119 rfl))) (mvT hZ (tw hw 119 rfl)) (mvT hZ (tw hw 118 rfl)) (by decide) (backOf (W := 0) (rmGV l Z a0 hw [] pa pv h0 n0 Z0 H1) hZ (tw hw 120 rfl) (tw hw 36 rfl) (by decide) (by decide)) qa23 qc25 (g := (mkF m 5 #[rv px, rv pa, .val .null, .unset, .unset] [(.ref pa)])) rfl (by rw [hml]; rfl) (Steps.refl _) (argsL := []) (rest := []) (lenOf pdGV rfl) rfl (leW rfl) (hb hby dS20_5) (fun _ _ => ⟨rfl, e3, (leB rfl), (leB rfl)⟩)
  dsimp only [Pt.U, Pt.locs, Pt.cells, Pt.slots] at X6 l12 y13 z14 st15 hQ11
  subst y13 z14
  obtain ⟨rfl, N26, e17⟩ := hQ11
  have N16 : Fr n0 L7 := by rw [l12]; exact Fr.app N0 N26
  refine Way.to st15 ?_
  show Way _ _ _ _ (T5.setTop (mkF m 8 #[rv px, rv pa, .val .null, .unset, .unset] [(.ref pv)]))
  try clear X2 e3 st15 cq21 kq22 qa23 qb24 qc25 N26
  try clear T1
  refine Way.by (fun _ k => XS.astoreN X6.here hx rfl (hb hby dS20_8) rfl rfl (l' := #[rv px, rv pa, .val .null, rv pv, .unset]) rfl k) ?_
  show Way _ _ _ _ (T5.setTop (mkF m 9 #[rv px, rv pa, .val .null, rv pv, .unset] []))
  refine Way.by (fun _ k => XS.aloadN X6.here hx rfl (hb hby dS20_9) rfl rfl k) ?_
  show Way _ _ _ _ (T5.setTop (mkF m 10 #[rv px, rv pa, .val .null, rv pv, .unset] [(.ref pa)]))
  obtain ⟨cq44, kq45, qa46, qb47, qc48⟩ := isOf hZ e17 H0
  obtain ⟨_, _, ⟨T28, L30, k31, n32⟩, -, X29, ⟨Lc33, hQ34, l35, y36, z37⟩, st38⟩ := X6.virtualBack hx (y := (⟨"java/lang/AbstractStringBuilder", "length", "()I"⟩ : MethodName)) (z := (⟨"java/lang/StringBuilder", "length", "()I"⟩ : MethodName)) hown (mvT hZ (tw hw 121 rfl)) (mvT hZ (tw hw 122 rfl)) (nfSel (args := #[]) (z := (⟨"java/lang/AbstractStringBuilder", "ensureCapacityInternal", "(I)V"⟩ : MethodName)) rfl (mvT hZ (tw hw 70 rfl))) (mvT hZ (tw hw 124 rfl)) (mvT hZ (tw hw 125 rfl)) (by decide) (backOf (W := 0) (rmLS l Z a0 hw [] pa (10 : Int32) h0 n0 Z0 H0 H3) hZ (tw hw 126 rfl) (tw hw 28 rfl) (by decide) (by decide)) qa46 qc48 (g := (mkF m 10 #[rv px, rv pa, .val .null, rv pv, .unset] [(.ref pa)])) rfl (by rw [hml]; rfl) (Steps.refl _) (argsL := []) (rest := []) (lenOf pdLA rfl) rfl (leW rfl) (hb hby dS20_10) (fun _ _ => ⟨rfl, e17, (leB rfl), (leB rfl)⟩)
  dsimp only [Pt.U, Pt.locs, Pt.cells, Pt.slots] at X29 l35 y36 z37 st38 hQ34
  subst y36 z37
  obtain ⟨rfl, N49, e40⟩ := hQ34
  have N39 : Fr n0 L30 := by rw [l35]; exact Fr.app N16 N49
  refine Way.to st38 ?_
  show Way _ _ _ _ (T28.setTop (mkF m 13 #[rv px, rv pa, .val .null, rv pv, .unset] [(.int 10)]))
  try clear X6 N16 e17 st38 cq44 kq45 qa46 qb47 qc48 N49
  try clear T5
  refine Way.by (fun _ k => XS.istore X29.here hx rfl (hb hby dS20_13) rfl (l' := #[rv px, rv pa, .val .null, rv pv, iv 10]) rfl k) ?_
  show Way _ _ _ _ (T28.setTop (mkF m 15 #[rv px, rv pa, .val .null, rv pv, iv 10] []))
  refine Way.by (fun _ k => XS.aloadN X29.here hx rfl (hb hby dS20_15) rfl rfl k) ?_
  show Way _ _ _ _ (T28.setTop (mkF m 16 #[rv px, rv pa, .val .null, rv pv, iv 10] [(.ref pa)]))
  obtain ⟨cq67, kq68, qa69, qb70, qc71⟩ := isOf hZ e40 H0
  obtain ⟨_, _, ⟨T51, L53, k54, n55⟩, -, X52, ⟨Lc56, hQ57, l58, y59, z60⟩, st61⟩ := X29.virtualBack hx (y := (⟨"java/lang/AbstractStringBuilder", "isLatin1", "()Z"⟩ : MethodName)) (z := (⟨"java/lang/AbstractStringBuilder", "isLatin1", "()Z"⟩ : MethodName)) hown (mvT hZ (tw hw 129 rfl)) (mvT hZ (tw hw 130 rfl)) (notFace_of_selects (args := #[]) (mvT hZ (tw hw 132 rfl))) (mvT hZ (tw hw 132 rfl)) (mvT hZ (tw hw 131 rfl)) (by decide) (backOf (W := 0) (rmA1 l Z a0 hw [] pa h0 n0 Z0 H2 O0 SV) hZ (tw hw 133 rfl) (tw hw 36 rfl) (by decide) (by decide)) qa69 qc71 (g := (mkF m 16 #[rv px, rv pa, .val .null, rv pv, iv 10] [(.ref pa)])) rfl (by rw [hml]; rfl) (Steps.refl _) (argsL := []) (rest := []) (lenOf pdA1 rfl) rfl (leW rfl) (hb hby dS20_16) (fun _ _ => ⟨rfl, e40, (leB rfl), (leB rfl)⟩)
  dsimp only [Pt.U, Pt.locs, Pt.cells, Pt.slots] at X52 l58 y59 z60 st61 hQ57
  subst y59 z60
  obtain ⟨rfl, N72, e63⟩ := hQ57
  have N62 : Fr n0 L53 := by rw [l58]; exact Fr.app N39 N72
  refine Way.to st61 ?_
  show Way _ _ _ _ (T51.setTop (mkF m 19 #[rv px, rv pa, .val .null, rv pv, iv 10] [(.int 1)]))
  try clear X29 N39 e40 st61 cq67 kq68 qa69 qb70 qc71 N72
  try clear T28
  have b74 : ¬ (1 : Int32) = (0 : Int32) := by decide
  refine Way.by (fun _ k => XS.ifNo X52.here hx rfl (hb hby dS20_19) rfl ((if0 .eq _).trans (feq b74).1) k) ?_
  show Way _ _ _ _ (T51.setTop (mkF m 22 #[rv px, rv pa, .val .null, rv pv, iv 10] []))
  refine Way.by (fun _ k => XS.aloadN X52.here hx rfl (hb hby dS20_22) rfl rfl k) ?_
  refine Way.by (fun _ k => XS.iconst X52.here hx rfl (hb hby dS20_23) k) ?_
  show Way _ _ _ _ (T51.setTop (mkF m 24 #[rv px, rv pa, .val .null, rv pv, iv 10] [(.int 0), (.ref px)]))
  obtain ⟨T75, h76, X77, e78, W79, st80⟩ := putF X52 hx hZ hown (host := "") (Or.inl (tw hw 21 rfl)) Via.refl e63 H7 H5 (Or.inr ⟨(tw hw 17 rfl), rfl, hnm⟩) (tw hw 2 rfl) (ty := .byte) (by decide) rfl rfl (g := (mkF m 24 #[rv px, rv pa, .val .null, rv pv, iv 10] [(.int 0), (.ref px)])) rfl rfl (hb hby dS20_24)
  have N81 := Fr.snoc X77 N62 nw_px
  have E82 := Exa.wr W79 H0
  have F83 := H1.other W79 (Or.inl ne_pa_px)
  have F84 := H2.other W79 (Or.inl ne_pa_px)
  have F85 := H3.other W79 (Or.inl ne_pa_px)
  have A86 := H4.other W79 ne_pv_px
  have E87 := Exa.wr W79 H5
  have F88 := H6.other W79 (Or.inr (slot_ne (Or.inr (tw hw 16 rfl)) (Or.inr (tw hw 17 rfl)) (by decide) (t := (.array .byte)) (t' := .byte) (by decide) (by decide)))
  have F89 : Fld Z h76 px "java/lang/String" "coder" "B" (.int 0) := H7.same W79
  have Z90 : n0 ≤ h76.size := by rw [W79.size]; exact Z0
  have O91 := O0.wr W79 nw_px
  have K92 := (Keep.refl h0 [px]).wr W79 (Or.inl (List.mem_of_getElem? (i := 0) rfl))
  have hz93 : h0.size ≤ h76.size := by rw [W79.size]; exact (Nat.le_refl h0.size)
  refine Way.by st80 ?_
  show Way _ _ _ _ (T75.setTop (mkF m 27 #[rv px, rv pa, .val .null, rv pv, iv 10] []))
  refine Way.by (fun _ k => XS.aloadN X77.here hx rfl (hb hby dS20_27) rfl rfl k) ?_
  refine Way.by (fun _ k => XS.aloadN X77.here hx rfl (hb hby dS20_28) rfl rfl k) ?_
  refine Way.by (fun _ k => XS.iconst X77.here hx rfl (hb hby dS20_29) k) ?_
  show Way _ _ _ _ (T75.setTop (mkF m 30 #[rv px, rv pa, .val .null, rv pv, iv 10] [(.int 0), (.ref pv), (.ref px)]))
  refine Way.by (fun _ k => XS.iload X77.here hx rfl (hb hby dS20_30) rfl k) ?_
  show Way _ _ _ _ (T75.setTop (mkF m 32 #[rv px, rv pa, .val .null, rv pv, iv 10] [(.int 10), (.int 0), (.ref pv), (.ref px)]))
  obtain ⟨_, _, ⟨T94, L96, k97, n98⟩, -, X95, ⟨Lc99, hQ100, l101, y102, z103⟩, st104⟩ := Jvm.LawKit.callS X77 hx (y := (⟨"java/util/Arrays", "copyOfRange", "([BII)[B"⟩ : MethodName)) hown (mvT hZ (tw hw 134 rfl)) (mvT hZ (tw hw 135 rfl)) (mvT hZ (tw hw 136 rfl)) (mvT hZ (tw hw 137 rfl)) (by decide) (backOf (W := 1) (rmCR3 l Z a0 hw [] pv kv u0 u1 u2 h76 n0 Z90 A86) hZ (tw hw 137 rfl) (tw hw 136 rfl) (by decide) (by decide)) (g := (mkF m 32 #[rv px, rv pa, .val .null, rv pv, iv 10] [(.int 10), (.int 0), (.ref pv), (.ref px)])) rfl (by rw [hml]; rfl) (argsL := [(.ref pv), (.int 0), (.int 10)]) (rest := [(.ref px)]) (lenOf pdCB0 rfl) rfl (leW rfl) (hb hby dS20_32) (fun _ _ => ⟨rfl, e78, (leB rfl), (leB rfl)⟩)
  dsimp only [Pt.U, Pt.locs, Pt.cells, Pt.slots] at X95 l101 y102 z103 st104 hQ100
  subst y102 z103
  obtain ⟨x_bt114, x_kt115, rfl, N110, K111, fr_bt113, F_0112⟩ := hQ100
  have N105 : Fr n0 L96 := by rw [l101]; exact Fr.app N81 N110
  have ne116 : pa ≠ x_bt114 := Nat.ne_of_lt (Nat.lt_of_lt_of_le E82.lt fr_bt113)
  have ne117 : pv ≠ x_bt114 := Nat.ne_of_lt (Nat.lt_of_lt_of_le A86.lt fr_bt113)
  have ne118 : px ≠ x_bt114 := Nat.ne_of_lt (Nat.lt_of_lt_of_le E87.lt fr_bt113)
  have nw119 : n0 ≤ x_bt114 := Nat.le_trans Z90 fr_bt113
  have hk120 : h0.size ≤ x_bt114 := Nat.le_trans hz93 fr_bt113
  have E121 := E82.keep K111
  have F122 := F83.keep K111 nin0
  have F123 := F84.keep K111 nin0
  have F124 := F85.keep K111 nin0
  have A125 := A86.keep K111 nin0
  have E126 := E87.keep K111
  have F127 := F88.keep K111 nin0
  have F128 := F89.keep K111 nin0
  have Z129 := Nat.le_trans Z90 K111.1
  have O130 := O91.keep K111 all0
  have K131 := K92.trans K111 all0
  have hz132 := Nat.le_trans hz93 K111.1
  refine Way.by st104 ?_
  show Way _ _ _ _ (T94.setTop (mkF m 35 #[rv px, rv pa, .val .null, rv pv, iv 10] [(.ref x_bt114), (.ref px)]))
  try clear X77 e78 N81 E82 F83 F84 F85 A86 E87 F88 F89 Z90 O91 K92 hz93 st104 N110 K111
  try clear T75 h76
  obtain ⟨T133, h134, X135, e136, W137, st138⟩ := putF X95 hx hZ hown (host := "") (Or.inl (tw hw 20 rfl)) Via.refl rfl F127 E126 (Or.inr ⟨(tw hw 16 rfl), rfl, hnm⟩) (tw hw 2 rfl) (ty := (.array .byte)) (by decide) rfl rfl (g := (mkF m 35 #[rv px, rv pa, .val .null, rv pv, iv 10] [(.ref x_bt114), (.ref px)])) rfl rfl (hb hby dS20_35)
  have N139 := Fr.snoc X135 N105 nw_px
  have E140 := Exa.wr W137 E121
  have F141 := F122.other W137 (Or.inl ne_pa_px)
  have F142 := F123.other W137 (Or.inl ne_pa_px)
  have F143 := F124.other W137 (Or.inl ne_pa_px)
  have A144 := A125.other W137 ne_pv_px
  have E145 := Exa.wr W137 E126
  have F146 : Fld Z h134 px "java/lang/String" "value" "[B" (.ref x_bt114) := F127.same W137
  have F147 := F128.other W137 (Or.inr (slot_ne (Or.inr (tw hw 17 rfl)) (Or.inr (tw hw 16 rfl)) (by decide) (t := .byte) (t' := (.array .byte)) (by decide) (by decide)))
  have A148 := F_0112.other W137 ne118.symm
  have Z149 : n0 ≤ h134.size := by rw [W137.size]; exact Z129
  have O150 := O130.wr W137 nw_px
  have K151 := K131.wr W137 (Or.inl (List.mem_of_getElem? (i := 0) rfl))
  have hz152 : h0.size ≤ h134.size := by rw [W137.size]; exact hz132
  refine Way.by st138 ?_
  show Way _ _ _ _ (T133.setTop (mkF m 38 #[rv px, rv pa, .val .null, rv pv, iv 10] []))
  try clear X95 N105 F_0112 E121 F122 F123 F124 A125 E126 F127 F128 Z129 O130 K131 hz132 W137 st138
  try clear T94
  refine Way.by (fun _ k => XS.goto X135.here hx rfl (pc0 := 38) (pc' := 97) rfl (hb hby dS20_38) (by decide) (by decide) k) ?_
  show Way _ _ _ _ (T133.setTop (mkF m 97 #[rv px, rv pa, .val .null, rv pv, iv 10] []))
  refine Way.ret (v := none) X135 hlk (fun _ => rfl) (fun fs hr => X135.returnOut hx Bd.returns (hb hby dS20_97) hr) ?_ (by decide) (by decide)
  show QS23 Z px pa pv kv u0 u1 u2 h0 n0 _ T133.heap _
  rw [e136]
  have STR : own_Str Z h134 px x_bt114 [u0, u1, u2, 46, 115, 104, 97, 53, 49, 50] := ⟨E145, F146, F147, ⟨_, _, _, A148, Or.inl ⟨rfl, rfl, rfl, fun c hc => (hbd c hc).2⟩⟩, hbd, Nat.le_of_ble_eq_true rfl⟩
  exact ⟨x_bt114, rfl, N139, K151, hk120, STR⟩
def QS13 (Z : State) (px : Addr) (pa : Addr) (pv : Addr) (kv : ClassId) (u0 : Int32) (u1 : Int32) (u2 : Int32) (h0 : Heap) (n0 : Nat) (v : Option Value) (h : Heap) (L : List Loc) : Prop := ∃ (bt : Addr), v = none ∧ Fr n0 L ∧ Keep h0 h [px] ∧ h0.size ≤ bt ∧ own_Str Z h px bt [u0, u1, u2, 46, 115, 104, 97, 53, 49, 50]
set_option maxRecDepth 65536 in
set_option maxHeartbeats 40000000 in
theorem rmS13 (l : Launch) (Z : State) (a0 : Array Value) (hw : ∀ d ∈ tables_1, d.before a0 Z = true) (ws : List Jvm.Cond) (px : Addr) (pa : Addr) (pv : Addr) (kv : ClassId) (u0 : Int32) (u1 : Int32) (u2 : Int32) (h0 : Heap) (n0 : Nat) (Z0 : n0 ≤ h0.size) (H0 : Exa Z h0 pa "java/lang/StringBuilder") (H1 : Fld Z h0 pa "java/lang/AbstractStringBuilder" "value" "[B" (.ref pv)) (H2 : Fld Z h0 pa "java/lang/AbstractStringBuilder" "coder" "B" (.int 0)) (H3 : Fld Z h0 pa "java/lang/AbstractStringBuilder" "count" "I" (.int 10)) (H4 : Arv Z h0 pv kv .byte (16 : Int32) [(.int (StrChars.lo8 u0)), (.int (StrChars.lo8 u1)), (.int (StrChars.lo8 u2)), (.int 46), (.int 115), (.int 104), (.int 97), (.int 53), (.int 49), (.int 50)] (.int 0)) (H5 : Exa Z h0 px "java/lang/String") (H6 : Fld Z h0 px "java/lang/String" "value" "[B" .null) (H7 : Fld Z h0 px "java/lang/String" "coder" "B" (.int 0)) (hbd : ∀ c ∈ ([u0, u1, u2, 46, 115, 104, 97, 53, 49, 50] : List Int32), ¬ c < 0 ∧ ¬ (255 : Int32) < c) (ne_pa_px : pa ≠ px) (ne_pv_px : pv ≠ px) (nw_px : n0 ≤ px) (O0 : Old Z n0 h0) (SV : own_Env Z) :
    MetFree l (⟨"java/lang/String", "<init>", "(Ljava/lang/StringBuilder;)V"⟩ : MethodName) (head1 (Jvm.Cond.code (⟨"java/lang/String", "<init>", "(Ljava/lang/StringBuilder;)V"⟩ : MethodName) jdk_42_method_53_code 2 none :: ws) ({ frames := 4, cells := 1, slots := 10, locals := 91 } : Room)) (fun aa U => aa = #[(.ref px), (.ref pa)] ∧ Z.Warmed39 U.vm ∧ U.heap = h0) (fun _ _ _ _ _ => True) (fun _ U oo U' => ∃ v L, oo = .returned v ∧ QS13 Z px pa pv kv u0 u1 u2 h0 n0 v U'.heap L ∧ FrameEnd U oo U' L ({ frames := 4, cells := 1, slots := 10, locals := 91 } : Room).cells ({ frames := 4, cells := 1, slots := 10, locals := 91 } : Room).slots) := by
  refine MetFree.of_bodySF (plainFor_of_name pnCD) hisR ?_
  intro p e s m args below meth c s₁ Bd hml0 hP hK
  obtain ⟨rfl, hZ, hh⟩ := hP
  have hx := Bd.exec
  have hby := Bd.bytes
  have hlk : meth.locks = false := BodyLoose.notSynchronized Bd
  have hml : c.maxLocals = 2 := hml0
  have hown : s.vm.findClass "java/lang/String" = some m.cls := findClass_of_methodNamed Bd.named
  have hnm := (name_of_methodNamed Bd.named Bd.method).1
  have X0 : Stand p l e ({ frames := 4, cells := 1, slots := 10, locals := 91 } : Room) s m #[(.ref px), (.ref pa)] below meth c s₁ [] 0 0 := Stand.of_body Bd
  have e0 : s₁.heap = h0 := by rw [← hh, Bd.state]; rfl
  have N0 := Fr.nil n0
  have ef : entryFrame m #[(.ref px), (.ref pa)] 2 = mkF m 0 #[rv px, rv pa] [] := by first | (simp [entryFrame, mkF, argsToLocals, Value.category, maxLocals]; done) | rfl
  show Way p.tables e below (KQ s (QS13 Z px pa pv kv u0 u1 u2 h0 n0) ({ frames := 4, cells := 1, slots := 10, locals := 91 } : Room).cells ({ frames := 4, cells := 1, slots := 10, locals := 91 } : Room).slots) (s₁.setTop (entryFrame m #[(.ref px), (.ref pa)] 2))
  rw [ef]
  refine Way.by (fun _ k => XS.aloadN X0.here hx rfl (hb hby dS10_0) rfl rfl k) ?_
  refine Way.by (fun _ k => XS.aloadN X0.here hx rfl (hb hby dS10_1) rfl rfl k) ?_
  show Way _ _ _ _ (s₁.setTop (mkF m 2 #[rv px, rv pa] [(.ref pa), (.ref px)]))
  refine Way.by (fun _ k => XS.aconstNull X0.here hx rfl (hb hby dS10_2) k) ?_
  show Way _ _ _ _ (s₁.setTop (mkF m 3 #[rv px, rv pa] [.null, (.ref pa), (.ref px)]))
  obtain ⟨_, _, ⟨T1, L3, k4, n5⟩, -, X2, ⟨Lc6, hQ7, l8, y9, z10⟩, st11⟩ := X0.specialBack hx (y := (⟨"java/lang/String", "<init>", "(Ljava/lang/AbstractStringBuilder;Ljava/lang/Void;)V"⟩ : MethodName)) rfl hown (mvT hZ (tw hw 113 rfl)) (mvT hZ (tw hw 114 rfl)) (mvT hZ (tw hw 115 rfl)) (by decide) (backOf (W := 0) (rmS23 l Z a0 hw [] px pa pv kv u0 u1 u2 h0 n0 Z0 H0 H1 H2 H3 H4 H5 H6 H7 hbd ne_pa_px ne_pv_px nw_px O0 SV) hZ (tw hw 115 rfl) (tw hw 3 rfl) (by decide) (by decide)) (g := (mkF m 3 #[rv px, rv pa] [.null, (.ref pa), (.ref px)])) rfl (by rw [hml]; rfl) (Steps.refl _) (a := px) (argsL := [(.ref pa), .null]) (rest := []) (lenOf pdS20 rfl) rfl (leW rfl) (hb hby dS10_3) (fun _ _ => ⟨rfl, e0, (leB rfl), (leB rfl)⟩)
  dsimp only [Pt.U, Pt.locs, Pt.cells, Pt.slots] at X2 l8 y9 z10 st11 hQ7
  subst y9 z10
  obtain ⟨x_bt21, rfl, N17, K18, fr_bt20, F_019⟩ := hQ7
  have N12 : Fr n0 L3 := by rw [l8]; exact Fr.app N0 N17
  have ne22 : pa ≠ x_bt21 := Nat.ne_of_lt (Nat.lt_of_lt_of_le H0.lt fr_bt20)
  have ne23 : pv ≠ x_bt21 := Nat.ne_of_lt (Nat.lt_of_lt_of_le H4.lt fr_bt20)
  have ne24 : px ≠ x_bt21 := Nat.ne_of_lt (Nat.lt_of_lt_of_le H5.lt fr_bt20)
  have nw25 : n0 ≤ x_bt21 := Nat.le_trans Z0 fr_bt20
  have hk26 : h0.size ≤ x_bt21 := Nat.le_trans (Nat.le_refl h0.size) fr_bt20
  have E27 := H0.keep K18
  have F28 := H1.keep K18 (ninS ne_pa_px nin0)
  have F29 := H2.keep K18 (ninS ne_pa_px nin0)
  have F30 := H3.keep K18 (ninS ne_pa_px nin0)
  have A31 := H4.keep K18 (ninS ne_pv_px nin0)
  have E32 := H5.keep K18
  have Z33 := Nat.le_trans Z0 K18.1
  have O34 := O0.keep K18 (allS nw_px all0)
  have K35 := (Keep.refl h0 [px]).trans K18 (allS (Or.inl (List.mem_of_getElem? (i := 0) rfl)) all0)
  have hz36 := Nat.le_trans (Nat.le_refl h0.size) K18.1
  refine Way.to st11 ?_
  show Way _ _ _ _ (T1.setTop (mkF m 6 #[rv px, rv pa] []))
  refine Way.ret (v := none) X2 hlk (fun _ => rfl) (fun fs hr => X2.returnOut hx Bd.returns (hb hby dS10_6) hr) ?_ (by decide) (by decide)
  show QS13 Z px pa pv kv u0 u1 u2 h0 n0 _ T1.heap _
  skip
  exact ⟨x_bt21, rfl, N12, K35, hk26, F_019⟩
def QTS3 (Z : State) (pa : Addr) (pv : Addr) (kv : ClassId) (u0 : Int32) (u1 : Int32) (u2 : Int32) (h0 : Heap) (n0 : Nat) (v : Option Value) (h : Heap) (L : List Loc) : Prop := ∃ (bx : Addr) (bt : Addr), v = some (.ref bx) ∧ Fr n0 L ∧ Keep h0 h [] ∧ h0.size ≤ bx ∧ h0.size ≤ bt ∧ own_Str Z h bx bt [u0, u1, u2, 46, 115, 104, 97, 53, 49, 50]
set_option maxRecDepth 65536 in
set_option maxHeartbeats 40000000 in
theorem rmTS3 (l : Launch) (Z : State) (a0 : Array Value) (hw : ∀ d ∈ tables_1, d.before a0 Z = true) (ws : List Jvm.Cond) (pa : Addr) (pv : Addr) (kv : ClassId) (u0 : Int32) (u1 : Int32) (u2 : Int32) (h0 : Heap) (n0 : Nat) (Z0 : n0 ≤ h0.size) (H0 : Exa Z h0 pa "java/lang/StringBuilder") (H1 : Fld Z h0 pa "java/lang/AbstractStringBuilder" "value" "[B" (.ref pv)) (H2 : Fld Z h0 pa "java/lang/AbstractStringBuilder" "coder" "B" (.int 0)) (H3 : Fld Z h0 pa "java/lang/AbstractStringBuilder" "count" "I" (.int 10)) (H4 : Arv Z h0 pv kv .byte (16 : Int32) [(.int (StrChars.lo8 u0)), (.int (StrChars.lo8 u1)), (.int (StrChars.lo8 u2)), (.int 46), (.int 115), (.int 104), (.int 97), (.int 53), (.int 49), (.int 50)] (.int 0)) (hbd : ∀ c ∈ ([u0, u1, u2, 46, 115, 104, 97, 53, 49, 50] : List Int32), ¬ c < 0 ∧ ¬ (255 : Int32) < c) (O0 : Old Z n0 h0) (SV : own_Env Z) :
    MetFree l (⟨"java/lang/StringBuilder", "toString", "()Ljava/lang/String;"⟩ : MethodName) (head1 (Jvm.Cond.code (⟨"java/lang/StringBuilder", "toString", "()Ljava/lang/String;"⟩ : MethodName) jdk_67_method_42_code 1 (some (.object "java/lang/String")) :: ws) ({ frames := 5, cells := 2, slots := 14, locals := 105 } : Room)) (fun aa U => aa = #[(.ref pa)] ∧ Z.Warmed39 U.vm ∧ U.heap = h0) (fun _ _ _ _ _ => True) (fun _ U oo U' => ∃ v L, oo = .returned v ∧ QTS3 Z pa pv kv u0 u1 u2 h0 n0 v U'.heap L ∧ FrameEnd U oo U' L ({ frames := 5, cells := 2, slots := 14, locals := 105 } : Room).cells ({ frames := 5, cells := 2, slots := 14, locals := 105 } : Room).slots) := by
  refine MetFree.of_bodySF (plainFor_of_name pnSI) hisR ?_
  intro p e s m args below meth c s₁ Bd hml0 hP hK
  obtain ⟨rfl, hZ, hh⟩ := hP
  have hx := Bd.exec
  have hby := Bd.bytes
  have hlk : meth.locks = false := BodyLoose.notSynchronized Bd
  have hml : c.maxLocals = 1 := hml0
  have hown : s.vm.findClass "java/lang/StringBuilder" = some m.cls := findClass_of_methodNamed Bd.named
  have hnm := (name_of_methodNamed Bd.named Bd.method).1
  have X0 : Stand p l e ({ frames := 5, cells := 2, slots := 14, locals := 105 } : Room) s m #[(.ref pa)] below meth c s₁ [] 0 0 := Stand.of_body Bd
  have e0 : s₁.heap = h0 := by rw [← hh, Bd.state]; rfl
  have N0 := Fr.nil n0
  have ef : entryFrame m #[(.ref pa)] 1 = mkF m 0 #[rv pa] [] := by first | (simp [entryFrame, mkF, argsToLocals, Value.category, maxLocals]; done) | rfl
  show Way p.tables e below (KQ s (QTS3 Z pa pv kv u0 u1 u2 h0 n0) ({ frames := 5, cells := 2, slots := 14, locals := 105 } : Room).cells ({ frames := 5, cells := 2, slots := 14, locals := 105 } : Room).slots) (s₁.setTop (entryFrame m #[(.ref pa)] 1))
  rw [ef]
  obtain ⟨T1, h2, X3, e4, E5, A6, D7, -, st8⟩ := newO X0 hx hZ hown (tw hw 109 rfl) (tw hw 2 rfl) (tw hw 3 rfl) e0 (g := (mkF m 0 #[rv pa] [])) rfl (hb hby dTS0_0) (by decide) (by decide)
  obtain ⟨a9, g10⟩ : ∃ z, z = h0.size := ⟨_, rfl⟩
  rw [← g10] at A6 D7 st8
  have ne11 : pa ≠ a9 := Nat.ne_of_lt (Nat.lt_of_lt_of_eq H0.lt g10.symm)
  have ne12 : pv ≠ a9 := Nat.ne_of_lt (Nat.lt_of_lt_of_eq H4.lt g10.symm)
  have nw13 : n0 ≤ a9 := Nat.le_trans Z0 (Nat.le_of_eq g10.symm)
  have hk14 : h0.size ≤ a9 := Nat.le_trans (Nat.le_refl h0.size) (Nat.le_of_eq g10.symm)
  have E15 := Exa.ext E5 H0
  have F16 := Fld.ext E5 H1
  have F17 := Fld.ext E5 H2
  have F18 := Fld.ext E5 H3
  have A19 := H4.ext E5
  have Z20 := Nat.le_trans Z0 E5.1
  have O21 := O0.ext E5
  have K22 := (Keep.refl h0 []).ext E5
  have hz23 := Nat.le_trans (Nat.le_refl h0.size) E5.1
  have F24 : Fld Z h2 a9 "java/lang/String" "value" "[B" .null := D7 (Or.inr (tw hw 16 rfl)) (ty := (.array .byte)) (by decide)
  have F25 : Fld Z h2 a9 "java/lang/String" "coder" "B" (.int 0) := D7 (Or.inr (tw hw 17 rfl)) (ty := .byte) (by decide)
  refine Way.by st8 ?_
  show Way _ _ _ _ (T1.setTop (mkF m 3 #[rv pa] [(.ref a9)]))
  refine Way.by (fun _ k => XS.dup X3.here hx rfl (hb hby dTS0_3) rfl rfl k) ?_
  refine Way.by (fun _ k => XS.aloadN X3.here hx rfl (hb hby dTS0_4) rfl rfl k) ?_
  show Way _ _ _ _ (T1.setTop (mkF m 5 #[rv pa] [(.ref pa), (.ref a9), (.ref a9)]))
  obtain ⟨_, _, ⟨T26, L28, k29, n30⟩, -, X27, ⟨Lc31, hQ32, l33, y34, z35⟩, st36⟩ := X3.specialBack hx (y := (⟨"java/lang/String", "<init>", "(Ljava/lang/StringBuilder;)V"⟩ : MethodName)) rfl hown (mvT hZ (tw hw 110 rfl)) (mvT hZ (tw hw 111 rfl)) (mvT hZ (tw hw 112 rfl)) (by decide) (backOf (W := 1) (rmS13 l Z a0 hw [] a9 pa pv kv u0 u1 u2 h2 n0 Z20 E15 F16 F17 F18 A19 A6 F24 F25 hbd ne11 ne12 nw13 O21 SV) hZ (tw hw 112 rfl) (tw hw 3 rfl) (by decide) (by decide)) (g := (mkF m 5 #[rv pa] [(.ref pa), (.ref a9), (.ref a9)])) rfl (by rw [hml]; rfl) (Steps.refl _) (a := a9) (argsL := [(.ref pa)]) (rest := [(.ref a9)]) (lenOf pdS10 rfl) rfl (leW rfl) (hb hby dTS0_5) (fun _ _ => ⟨rfl, e4, (leB rfl), (leB rfl)⟩)
  dsimp only [Pt.U, Pt.locs, Pt.cells, Pt.slots] at X27 l33 y34 z35 st36 hQ32
  subst y34 z35
  obtain ⟨x_bt46, rfl, N42, K43, fr_bt45, F_044⟩ := hQ32
  have N37 : Fr n0 L28 := by rw [l33]; exact Fr.app N0 N42
  have ne47 : pa ≠ x_bt46 := Nat.ne_of_lt (Nat.lt_of_lt_of_le E15.lt fr_bt45)
  have ne48 : pv ≠ x_bt46 := Nat.ne_of_lt (Nat.lt_of_lt_of_le A19.lt fr_bt45)
  have ne49 : a9 ≠ x_bt46 := Nat.ne_of_lt (Nat.lt_of_lt_of_le A6.lt fr_bt45)
  have nw50 : n0 ≤ x_bt46 := Nat.le_trans Z20 fr_bt45
  have hk51 : h0.size ≤ x_bt46 := Nat.le_trans hz23 fr_bt45
  have E52 := E15.keep K43
  have F53 := F16.keep K43 (ninS ne11 nin0)
  have F54 := F17.keep K43 (ninS ne11 nin0)
  have F55 := F18.keep K43 (ninS ne11 nin0)
  have A56 := A19.keep K43 (ninS ne12 nin0)
  have E57 := A6.keep K43
  have Z58 := Nat.le_trans Z20 K43.1
  have O59 := O21.keep K43 (allS nw13 all0)
  have K60 := K22.trans K43 (allS (Or.inr hk14) all0)
  have hz61 := Nat.le_trans hz23 K43.1
  refine Way.to st36 ?_
  show Way _ _ _ _ (T26.setTop (mkF m 8 #[rv pa] [(.ref a9)]))
  try clear X3 e4 A6 E15 F16 F17 F18 A19 Z20 O21 K22 hz23 F24 F25 st36 N42 K43
  try clear T1 h2
  refine Way.ret (v := (some (.ref a9))) X27 hlk (fun h => by rw [Bd.returns] at h; cases h) (fun fs hr => retOut X27 hx Bd.returns rfl (Or.inr (Or.inr (Or.inr (Or.inr ⟨rfl, rfl, rfl⟩)))) (hb hby dTS0_8) hr) ?_ (by decide) (by decide)
  show QTS3 Z pa pv kv u0 u1 u2 h0 n0 _ T26.heap _
  skip
  exact ⟨a9, x_bt46, rfl, N37, K60, hk14, hk51, F_044⟩
def QNF3 (Z : State) (px : Addr) (pt : Addr) (u0 : Int32) (u1 : Int32) (u2 : Int32) (ud : Addr) (ul : Addr) (ult : Addr) (h0 : Heap) (n0 : Nat) (v : Option Value) (h : Heap) (L : List Loc) : Prop := ∃ (bx : Addr) (bt : Addr), v = some (.ref bx) ∧ Fr n0 L ∧ Keep h0 h [] ∧ own_Str Z h bx bt [u0, u1, u2, 46, 115, 104, 97, 53, 49, 50]
set_option maxRecDepth 65536 in
set_option maxHeartbeats 40000000 in
theorem rmNF3 (l : Launch) (Z : State) (a0 : Array Value) (hw : ∀ d ∈ tables_1, d.before a0 Z = true) (ws : List Jvm.Cond) (px : Addr) (pt : Addr) (u0 : Int32) (u1 : Int32) (u2 : Int32) (ud : Addr) (ul : Addr) (ult : Addr) (h0 : Heap) (n0 : Nat) (Z0 : n0 ≤ h0.size) (H0 : own_Str Z h0 px pt [u0, u1, u2]) (hbd : ∀ c ∈ ([u0, u1, u2, 46, 115, 104, 97, 53, 49, 50] : List Int32), ¬ c < 0 ∧ ¬ (255 : Int32) < c) (O0 : Old Z n0 h0) (SV : own_Env Z) (SDG : Sta Z Z.heap "com/example/longhold/longhold/store/DigestFile" "DIGEST" "Lcom/example/longhold/longhold/store/DigestAlgorithm;" (.ref ud)) (EDG : Exa Z Z.heap ud "com/example/longhold/longhold/store/DigestAlgorithm") (FLB : Fld Z Z.heap ud "com/example/longhold/longhold/store/DigestAlgorithm" "label" "Ljava/lang/String;" (.ref ul)) (SLB : own_Str Z Z.heap ul ult [115, 104, 97, 53, 49, 50]) :
    MetFree l (⟨"com/example/longhold/longhold/store/DigestFile", "nameFor", "(Ljava/lang/String;)Ljava/lang/String;"⟩ : MethodName) (head1 (Jvm.Cond.code (⟨"com/example/longhold/longhold/store/DigestFile", "nameFor", "(Ljava/lang/String;)Ljava/lang/String;"⟩ : MethodName) prog_40_method_2_code 1 (some (.object "java/lang/String")) :: ws) ({ frames := 6, cells := 6, slots := 49, locals := 117 } : Room)) (fun aa U => aa = #[(.ref px)] ∧ Z.Warmed39 U.vm ∧ U.heap = h0 ∧ CHv Z own_EL U.vm h0) (fun _ _ _ _ _ => True) (fun _ U oo U' => ∃ v L, oo = .returned v ∧ QNF3 Z px pt u0 u1 u2 ud ul ult h0 n0 v U'.heap L ∧ CHr Z own_EL U.vm U.heap U'.vm U'.heap ∧ ReturnedEndW U oo U' L ({ frames := 6, cells := 6, slots := 49, locals := 117 } : Room).cells ({ frames := 6, cells := 6, slots := 49, locals := 117 } : Room).slots) := by
  refine MetFree.of_bodySF (plainFor_of_name pnNF0) hisR ?_
  intro p e s m args below meth c s₁ Bd hml0 hP hK
  obtain ⟨rfl, hZ, hh, HV0⟩ := hP
  have hx := Bd.exec
  have hby := Bd.bytes
  have hlk : meth.locks = false := BodyLoose.notSynchronized Bd
  have hml : c.maxLocals = 1 := hml0
  have hown : s.vm.findClass "com/example/longhold/longhold/store/DigestFile" = some m.cls := findClass_of_methodNamed Bd.named
  have hnm := (name_of_methodNamed Bd.named Bd.method).1
  have X0 : Stand p l e ({ frames := 6, cells := 6, slots := 49, locals := 117 } : Room) s m #[(.ref px)] below meth c s₁ [] 0 0 := Stand.of_body Bd
  have e0 : s₁.heap = h0 := by rw [← hh, Bd.state]; rfl
  have N0 := Fr.nil n0
  have ef : entryFrame m #[(.ref px)] 1 = mkF m 0 #[rv px] [] := by first | (simp [entryFrame, mkF, argsToLocals, Value.category, maxLocals]; done) | rfl
  have XW : Stand p l e ({ frames := 6, cells := 6, slots := 49, locals := 117 } : Room) (s.setVm s.vm) m #[(.ref px)] below meth c s₁ [] 0 0 := X0
  have hS0 : s.Since s.vm 0 := (State.WarmedH.refl s).since 0
  have hZ0 : Z.Warmed39 (s.setVm s.vm).vm := hZ
  have hown0 : (s.setVm s.vm).vm.findClass "com/example/longhold/longhold/store/DigestFile" = some m.cls := hown
  have wS : ∀ d ∈ Bundle.stringAtoms, d.before a0 Z = true := fun d hd => hw d (own_wS d hd)
  have hEL : EW Z a0 own_EL := own_EW hw
  have CH0 : CHr Z own_EL s.vm h0 s.vm h0 := CHr.refl HV0
  show Way p.tables e below (KQH s Z own_EL (QNF3 Z px pt u0 u1 u2 ud ul ult h0 n0) ({ frames := 6, cells := 6, slots := 49, locals := 117 } : Room).cells ({ frames := 6, cells := 6, slots := 49, locals := 117 } : Room).slots) (s₁.setTop (entryFrame m #[(.ref px)] 1))
  rw [ef]
  have EDG1 := Exa.ext O0.2 EDG
  have FLB1 := Fld.ext O0.2 FLB
  have SLB1 := SLB.ext O0.2
  obtain ⟨T1, h2, X3, e4, E5, A6, D7, -, st8⟩ := newO XW hx hZ0 hown0 (tw hw 26 rfl) (tw hw 27 rfl) (tw hw 28 rfl) e0 (g := (mkF m 0 #[rv px] [])) rfl (hb hby dNF0_0) (by decide) (by decide)
  obtain ⟨a9, g10⟩ : ∃ z, z = h0.size := ⟨_, rfl⟩
  rw [← g10] at A6 D7 st8
  have ne11 : px ≠ a9 := Nat.ne_of_lt (Nat.lt_of_lt_of_eq H0.lt1 g10.symm)
  have ne12 : pt ≠ a9 := Nat.ne_of_lt (Nat.lt_of_lt_of_eq H0.lt2 g10.symm)
  have ne13 : ud ≠ a9 := Nat.ne_of_lt (Nat.lt_of_lt_of_eq EDG1.lt g10.symm)
  have ne14 : ul ≠ a9 := Nat.ne_of_lt (Nat.lt_of_lt_of_eq SLB1.lt1 g10.symm)
  have ne15 : ult ≠ a9 := Nat.ne_of_lt (Nat.lt_of_lt_of_eq SLB1.lt2 g10.symm)
  have nw16 : n0 ≤ a9 := Nat.le_trans Z0 (Nat.le_of_eq g10.symm)
  have hk17 : h0.size ≤ a9 := Nat.le_trans (Nat.le_refl h0.size) (Nat.le_of_eq g10.symm)
  have hr20 := CHr.ext E5 HV0
  have H18 := hr20.1
  have CH19 := CH0.trans hr20
  have S21 := H0.ext E5
  have E22 := Exa.ext E5 EDG1
  have F23 := Fld.ext E5 FLB1
  have S24 := SLB1.ext E5
  have Z25 := Nat.le_trans Z0 E5.1
  have hk26 := Nat.le_trans (Nat.zero_le _) E5.1
  have O27 := O0.ext E5
  have K28 := (Keep.refl h0 []).ext E5
  have hz29 := Nat.le_trans (Nat.le_refl h0.size) E5.1
  have F30 : Fld Z h2 a9 "java/lang/AbstractStringBuilder" "value" "[B" .null := D7 (Or.inl (tw hw 41 rfl)) (ty := (.array .byte)) (by decide)
  have F31 : Fld Z h2 a9 "java/lang/AbstractStringBuilder" "coder" "B" (.int 0) := D7 (Or.inl (tw hw 43 rfl)) (ty := .byte) (by decide)
  have F32 : Fld Z h2 a9 "java/lang/AbstractStringBuilder" "count" "I" (.int 0) := D7 (Or.inl (tw hw 66 rfl)) (ty := .int) (by decide)
  refine Way.by st8 ?_
  show Way _ _ _ _ (T1.setTop (mkF m 3 #[rv px] [(.ref a9)]))
  refine Way.by (fun _ k => XS.dup X3.here hx rfl (hb hby dNF0_3) rfl rfl k) ?_
  show Way _ _ _ _ (T1.setTop (mkF m 4 #[rv px] [(.ref a9), (.ref a9)]))
  obtain ⟨_, _, ⟨T33, L35, k36, n37⟩, -, X34, ⟨Lc38, hQ39, l40, y41, z42⟩, st43⟩ := X3.specialBack hx (y := (⟨"java/lang/StringBuilder", "<init>", "()V"⟩ : MethodName)) rfl hown0 (mvT hZ0 (tw hw 29 rfl)) (mvT hZ0 (tw hw 30 rfl)) (mvT hZ0 (tw hw 31 rfl)) (by decide) (backOf (W := 1) (rmSI l Z a0 hw [] a9 h2 n0 Z25 A6 F30 F31 F32 nw16 O27 SV) hZ0 (tw hw 31 rfl) (tw hw 28 rfl) (by decide) (by decide)) (g := (mkF m 4 #[rv px] [(.ref a9), (.ref a9)])) rfl (by rw [hml]; rfl) (Steps.refl _) (a := a9) (argsL := []) (rest := [(.ref a9)]) (lenOf pdSI rfl) rfl (leW rfl) (hb hby dNF0_4) (fun _ _ => ⟨rfl, e4, (leB rfl), (leB rfl)⟩)
  dsimp only [Pt.U, Pt.locs, Pt.cells, Pt.slots] at X34 l40 y41 z42 st43 hQ39
  subst y41 z42
  obtain ⟨x_pv58, x_kv57, rfl, N49, K50, fr_pv56, F_051, F_152, F_253, F_354, F_455⟩ := hQ39
  have N44 : Fr n0 L35 := by rw [l40]; exact Fr.app N0 N49
  have ne59 : px ≠ x_pv58 := Nat.ne_of_lt (Nat.lt_of_lt_of_le S21.lt1 fr_pv56)
  have ne60 : pt ≠ x_pv58 := Nat.ne_of_lt (Nat.lt_of_lt_of_le S21.lt2 fr_pv56)
  have ne61 : ud ≠ x_pv58 := Nat.ne_of_lt (Nat.lt_of_lt_of_le E22.lt fr_pv56)
  have ne62 : ul ≠ x_pv58 := Nat.ne_of_lt (Nat.lt_of_lt_of_le S24.lt1 fr_pv56)
  have ne63 : ult ≠ x_pv58 := Nat.ne_of_lt (Nat.lt_of_lt_of_le S24.lt2 fr_pv56)
  have ne64 : a9 ≠ x_pv58 := Nat.ne_of_lt (Nat.lt_of_lt_of_le A6.lt fr_pv56)
  have nw65 : n0 ≤ x_pv58 := Nat.le_trans Z25 fr_pv56
  have hk66 : h0.size ≤ x_pv58 := Nat.le_trans hz29 fr_pv56
  have Sf67 : Safe Z own_EL s.vm h2 x_pv58 := Safe.new fr_pv56
  have hr70 := CHr.keep K50 (sfS (Safe.exa hZ0.alike A6 (by decide) (by decide)) sf0) H18
  have Sf71 := Safe.keep K50 (sfS (Safe.exa hZ0.alike A6 (by decide) (by decide)) sf0) H18 Sf67
  have H68 := hr70.1
  have CH69 := CH19.trans hr70
  have S72 := S21.keep K50 (ninS ne11 nin0) (ninS ne12 nin0)
  have E73 := E22.keep K50
  have F74 := F23.keep K50 (ninS ne13 nin0)
  have S75 := S24.keep K50 (ninS ne14 nin0) (ninS ne15 nin0)
  have E76 := A6.keep K50
  have Z77 := Nat.le_trans Z25 K50.1
  have hk78 := Nat.le_trans hk26 K50.1
  have O79 := O27.keep K50 (allS nw16 all0)
  have K80 := K28.trans K50 (allS (Or.inr hk17) all0)
  have hz81 := Nat.le_trans hz29 K50.1
  refine Way.to st43 ?_
  show Way _ _ _ _ (T33.setTop (mkF m 7 #[rv px] [(.ref a9)]))
  try clear X3 e4 A6 H18 CH19 S21 E22 F23 S24 Z25 hk26 O27 K28 hz29 F30 F31 F32 st43 N49 K50 hr70 E76
  try clear T1 h2
  refine Way.by (fun _ k => XS.aloadN X34.here hx rfl (hb hby dNF0_7) rfl rfl k) ?_
  show Way _ _ _ _ (T33.setTop (mkF m 8 #[rv px] [(.ref px), (.ref a9)]))
  obtain ⟨cq98, kq99, qa100, qb101, qc102⟩ := isOf hZ0 rfl F_051
  obtain ⟨_, _, ⟨T82, L84, k85, n86⟩, -, X83, ⟨Lc87, hQ88, l89, y90, z91⟩, st92⟩ := X34.virtualBack hx (y := (⟨"java/lang/StringBuilder", "append", "(Ljava/lang/String;)Ljava/lang/StringBuilder;"⟩ : MethodName)) (z := (⟨"java/lang/StringBuilder", "append", "(Ljava/lang/String;)Ljava/lang/StringBuilder;"⟩ : MethodName)) hown0 (mvT hZ0 (tw hw 44 rfl)) (mvT hZ0 (tw hw 45 rfl)) (notFace_of_selects (args := #[]) (mvT hZ0 (tw hw 47 rfl))) (mvT hZ0 (tw hw 47 rfl)) (mvT hZ0 (tw hw 46 rfl)) (by decide) (backOf (W := 0) (rmSA l Z a0 hw [] a9 x_pv58 x_kv57 px pt (0 : Int32) [] [u0, u1, u2] T33.heap n0 Z77 F_051 F_152 F_253 F_354 F_455 S72 ⟨by decide, (show ¬ (3 : Int32) < 0 by decide), rfl, rfl, (show 0 + 3 ≤ 16 by decide), (show ¬ (0 : Int32) < (0 : Int32) + (3 : Int32) - (16 : Int32) by decide), by decide⟩ ne59 ne60 ne64 ne11 ne12 nw16 nw65 O79 SV) hZ0 (tw hw 48 rfl) (tw hw 28 rfl) (by decide) (by decide)) qa100 qc102 (g := (mkF m 8 #[rv px] [(.ref px), (.ref a9)])) rfl (by rw [hml]; rfl) (Steps.refl _) (argsL := [(.ref px)]) (rest := []) (lenOf pdSA rfl) rfl (leW rfl) (hb hby dNF0_8) (fun _ _ => ⟨rfl, rfl, (leB rfl), (leB rfl)⟩)
  dsimp only [Pt.U, Pt.locs, Pt.cells, Pt.slots] at X83 l89 y90 z91 st92 hQ88
  subst y90 z91
  obtain ⟨rfl, N103, K104, F_0105, F_1106, F_2107, F_3108, F_4109⟩ := hQ88
  have N93 : Fr n0 L84 := by rw [l89]; exact Fr.app N44 N103
  have hr112 := CHr.keep K104 (sfS (Safe.exa hZ0.alike F_051 (by decide) (by decide)) (sfS Sf71 sf0)) H68
  have Sf113 := Safe.keep K104 (sfS (Safe.exa hZ0.alike F_051 (by decide) (by decide)) (sfS Sf71 sf0)) H68 Sf71
  have H110 := hr112.1
  have CH111 := CH69.trans hr112
  have S114 := S72.keep K104 (ninS ne11 (ninS ne59 nin0)) (ninS ne12 (ninS ne60 nin0))
  have E115 := E73.keep K104
  have F116 := F74.keep K104 (ninS ne13 (ninS ne61 nin0))
  have S117 := S75.keep K104 (ninS ne14 (ninS ne62 nin0)) (ninS ne15 (ninS ne63 nin0))
  have E118 := F_051.keep K104
  have Z119 := Nat.le_trans Z77 K104.1
  have hk120 := Nat.le_trans hk78 K104.1
  have O121 := O79.keep K104 (allS nw16 (allS nw65 all0))
  have K122 := K80.trans K104 (allS (Or.inr hk17) (allS (Or.inr hk66) all0))
  have hz123 := Nat.le_trans hz81 K104.1
  have V124 : Arv Z T82.heap x_pv58 x_kv57 .byte (16 : Int32) [(.int (StrChars.lo8 u0)), (.int (StrChars.lo8 u1)), (.int (StrChars.lo8 u2))] (.int 0) := F_4109
  have F125 : Fld Z T82.heap a9 "java/lang/AbstractStringBuilder" "count" "I" (.int 3) := F_3108
  refine Way.to st92 ?_
  show Way _ _ _ _ (T82.setTop (mkF m 11 #[rv px] [(.ref a9)]))
  try clear X34 N44 F_051 F_152 F_253 F_354 F_455 H68 CH69 Sf71 S72 E73 F74 S75 Z77 hk78 O79 K80 hz81 st92 cq98 kq99 qa100 qb101 qc102 N103 K104 hr112 E118
  try clear T33
  obtain ⟨a126, T127, h128, k129, bd130, kc131, X132, e133, E134, hS135, hk136, hZ137, hown138, Ex139, Co140, Va141, Ar142, la143, lb144, hr145, lit146, sfn147, st148⟩ := ldcCH X83 hx hZ0 hown0 (tw hw 92 rfl) wS rfl hS0 hk120 hEL (by decide) H110 (vs := ([46] : List Int32).map fun c => Value.int (StrChars.lo8 c)) (z := (1 : Int32)) ⟨by decide, by decide⟩ (by decide) rfl (g := (mkF m 11 #[rv px] [(.ref a9)])) rfl (hb hby dNF0_11) (n := 4) (by decide) (by decide) (by decide) (by decide)
  have Sf152 := CHr.safe hr145 V124.lt Sf113
  have H149 := hr145.1
  have CH150 := CH111.trans hr145
  have S153 := S114.ext E134
  have E154 := Exa.ext E134 E115
  have F155 := Fld.ext E134 F116
  have S156 := S117.ext E134
  have E157 := Exa.ext E134 F_0105
  have F158 := Fld.ext E134 F_1106
  have F159 := Fld.ext E134 F_2107
  have F160 := Fld.ext E134 F125
  have A161 := V124.ext E134
  have Z162 := Nat.le_trans Z119 E134.1
  have O163 := O121.ext E134
  have K164 := K122.ext E134
  have hz165 := Nat.le_trans hz123 E134.1
  have F166 : own_Str Z h128 a126 bd130 [46] := ⟨Ex139, Va141, Co140, ⟨_, _, _, Ar142, Or.inl ⟨rfl, rfl, rfl, by decide⟩⟩, by decide, by decide⟩
  have ne167 := sfn147 x_pv58 Sf152
  have ne168 := sfn147 ud (Safe.exa hZ137.alike E154 (by decide) (by decide))
  have ne169 := sfn147 a9 (Safe.exa hZ137.alike E157 (by decide) (by decide))
  refine Way.by st148 ?_
  show Way _ _ _ _ (T127.setTop (mkF m 13 #[rv px] [(.ref a126), (.ref a9)]))
  try clear X83 F_0105 F_1106 F_2107 H110 CH111 Sf113 S114 E115 F116 S117 Z119 hk120 O121 K122 hz123 V124 F125 E134 hr145 st148
  try clear T82
  obtain ⟨cq186, kq187, qa188, qb189, qc190⟩ := isOf hZ137 e133 E157
  obtain ⟨_, _, ⟨T170, L172, k173, n174⟩, -, X171, ⟨Lc175, hQ176, l177, y178, z179⟩, st180⟩ := X132.virtualBack hx (y := (⟨"java/lang/StringBuilder", "append", "(Ljava/lang/String;)Ljava/lang/StringBuilder;"⟩ : MethodName)) (z := (⟨"java/lang/StringBuilder", "append", "(Ljava/lang/String;)Ljava/lang/StringBuilder;"⟩ : MethodName)) hown138 (mvT hZ137 (tw hw 44 rfl)) (mvT hZ137 (tw hw 45 rfl)) (notFace_of_selects (args := #[]) (mvT hZ137 (tw hw 47 rfl))) (mvT hZ137 (tw hw 47 rfl)) (mvT hZ137 (tw hw 46 rfl)) (by decide) (backOf (W := 0) (rmSA l Z a0 hw [] a9 x_pv58 x_kv57 a126 bd130 (3 : Int32) [(.int (StrChars.lo8 u0)), (.int (StrChars.lo8 u1)), (.int (StrChars.lo8 u2))] [46] h128 n0 Z162 E157 F158 F159 F160 A161 F166 ⟨by decide, (show ¬ (1 : Int32) < 0 by decide), rfl, rfl, (show 3 + 1 ≤ 16 by decide), (show ¬ (0 : Int32) < (3 : Int32) + (1 : Int32) - (16 : Int32) by decide), by decide⟩ ne167.1.symm ne167.2.symm ne64 ne169.1.symm ne169.2.symm nw16 nw65 O163 SV) hZ137 (tw hw 48 rfl) (tw hw 28 rfl) (by decide) (by decide)) qa188 qc190 (g := (mkF m 13 #[rv px] [(.ref a126), (.ref a9)])) rfl (by rw [hml]; rfl) (Steps.refl _) (argsL := [(.ref a126)]) (rest := []) (lenOf pdSA rfl) rfl (leW rfl) (hb hby dNF0_13) (fun _ _ => ⟨rfl, e133, (leB rfl), (leB rfl)⟩)
  dsimp only [Pt.U, Pt.locs, Pt.cells, Pt.slots] at X171 l177 y178 z179 st180 hQ176
  subst y178 z179
  obtain ⟨rfl, N191, K192, F_0193, F_1194, F_2195, F_3196, F_4197⟩ := hQ176
  have N181 : Fr n0 L172 := by rw [l177]; exact Fr.app N93 N191
  have hr200 := CHr.keep K192 (sfS (Safe.exa hZ137.alike E157 (by decide) (by decide)) (sfS Sf152 sf0)) H149
  have Sf201 := Safe.keep K192 (sfS (Safe.exa hZ137.alike E157 (by decide) (by decide)) (sfS Sf152 sf0)) H149 Sf152
  have H198 := hr200.1
  have CH199 := CH150.trans hr200
  have S202 := S153.keep K192 (ninS ne11 (ninS ne59 nin0)) (ninS ne12 (ninS ne60 nin0))
  have E203 := E154.keep K192
  have F204 := F155.keep K192 (ninS ne13 (ninS ne61 nin0))
  have S205 := S156.keep K192 (ninS ne14 (ninS ne62 nin0)) (ninS ne15 (ninS ne63 nin0))
  have E206 := E157.keep K192
  have S207 := F166.keep K192 (ninS ne169.1.symm (ninS ne167.1.symm nin0)) (ninS ne169.2.symm (ninS ne167.2.symm nin0))
  have Z208 := Nat.le_trans Z162 K192.1
  have hk209 := Nat.le_trans hk136 K192.1
  have O210 := O163.keep K192 (allS nw16 (allS nw65 all0))
  have K211 := K164.trans K192 (allS (Or.inr hk17) (allS (Or.inr hk66) all0))
  have hz212 := Nat.le_trans hz165 K192.1
  have V213 : Arv Z T170.heap x_pv58 x_kv57 .byte (16 : Int32) [(.int (StrChars.lo8 u0)), (.int (StrChars.lo8 u1)), (.int (StrChars.lo8 u2)), (.int 46)] (.int 0) := F_4197
  have F214 : Fld Z T170.heap a9 "java/lang/AbstractStringBuilder" "count" "I" (.int 4) := F_3196
  refine Way.to st180 ?_
  show Way _ _ _ _ (T170.setTop (mkF m 16 #[rv px] [(.ref a9)]))
  try clear N93 X132 e133 hk136 H149 CH150 Sf152 S153 E154 F155 S156 E157 F158 F159 F160 A161 Z162 O163 K164 hz165 F166 st180 cq186 kq187 qa188 qb189 qc190 N191 K192 hr200 E206
  try clear h128
  obtain ⟨T215, X216, e217, st218⟩ := getS X171 hx hZ137 hown138 (host := "") (tw hw 93 rfl) Via.refl rfl (Sta.ext O210.2 SDG) (g := (mkF m 16 #[rv px] [(.ref a9)])) rfl (hb hby dNF0_16)
  refine Way.by st218 ?_
  show Way _ _ _ _ (T215.setTop (mkF m 19 #[rv px] [(.ref ud), (.ref a9)]))
  obtain ⟨cq235, kq236, qa237, qb238, qc239⟩ := isOf hZ137 e217 E203
  obtain ⟨_, _, ⟨T219, L221, k222, n223⟩, -, X220, ⟨Lc224, hQ225, l226, y227, z228⟩, st229⟩ := X216.virtualBack hx (y := (⟨"com/example/longhold/longhold/store/DigestAlgorithm", "label", "()Ljava/lang/String;"⟩ : MethodName)) (z := (⟨"com/example/longhold/longhold/store/DigestAlgorithm", "label", "()Ljava/lang/String;"⟩ : MethodName)) hown138 (mvT hZ137 (tw hw 97 rfl)) (mvT hZ137 (tw hw 98 rfl)) (notFace_of_selects (args := #[]) (mvT hZ137 (tw hw 100 rfl))) (mvT hZ137 (tw hw 100 rfl)) (mvT hZ137 (tw hw 99 rfl)) (by decide) (backOf (W := 1) (rmLB l Z a0 hw [] ud ul T170.heap n0 Z208 F204) hZ137 (tw hw 101 rfl) (tw hw 95 rfl) (by decide) (by decide)) qa237 qc239 (g := (mkF m 19 #[rv px] [(.ref ud), (.ref a9)])) rfl (by rw [hml]; rfl) (Steps.refl _) (argsL := []) (rest := [(.ref a9)]) (lenOf pdLB rfl) rfl (leW rfl) (hb hby dNF0_19) (fun _ _ => ⟨rfl, e217, (leB rfl), (leB rfl)⟩)
  dsimp only [Pt.U, Pt.locs, Pt.cells, Pt.slots] at X220 l226 y227 z228 st229 hQ225
  subst y227 z228
  obtain ⟨rfl, N240, e231⟩ := hQ225
  have N230 : Fr n0 L221 := by rw [l226]; exact Fr.app N181 N240
  refine Way.to st229 ?_
  show Way _ _ _ _ (T219.setTop (mkF m 22 #[rv px] [(.ref ul), (.ref a9)]))
  try clear N181 X216 e217 st229 cq235 kq236 qa237 qb238 qc239 N240
  try clear T215
  obtain ⟨cq258, kq259, qa260, qb261, qc262⟩ := isOf hZ137 e231 F_0193
  obtain ⟨_, _, ⟨T242, L244, k245, n246⟩, -, X243, ⟨Lc247, hQ248, l249, y250, z251⟩, st252⟩ := X220.virtualBack hx (y := (⟨"java/lang/StringBuilder", "append", "(Ljava/lang/String;)Ljava/lang/StringBuilder;"⟩ : MethodName)) (z := (⟨"java/lang/StringBuilder", "append", "(Ljava/lang/String;)Ljava/lang/StringBuilder;"⟩ : MethodName)) hown138 (mvT hZ137 (tw hw 44 rfl)) (mvT hZ137 (tw hw 45 rfl)) (notFace_of_selects (args := #[]) (mvT hZ137 (tw hw 47 rfl))) (mvT hZ137 (tw hw 47 rfl)) (mvT hZ137 (tw hw 46 rfl)) (by decide) (backOf (W := 0) (rmSA l Z a0 hw [] a9 x_pv58 x_kv57 ul ult (4 : Int32) [(.int (StrChars.lo8 u0)), (.int (StrChars.lo8 u1)), (.int (StrChars.lo8 u2)), (.int 46)] [115, 104, 97, 53, 49, 50] T170.heap n0 Z208 F_0193 F_1194 F_2195 F214 V213 S205 ⟨by decide, (show ¬ (6 : Int32) < 0 by decide), rfl, rfl, (show 4 + 6 ≤ 16 by decide), (show ¬ (0 : Int32) < (4 : Int32) + (6 : Int32) - (16 : Int32) by decide), by decide⟩ ne62 ne63 ne64 ne14 ne15 nw16 nw65 O210 SV) hZ137 (tw hw 48 rfl) (tw hw 28 rfl) (by decide) (by decide)) qa260 qc262 (g := (mkF m 22 #[rv px] [(.ref ul), (.ref a9)])) rfl (by rw [hml]; rfl) (Steps.refl _) (argsL := [(.ref ul)]) (rest := []) (lenOf pdSA rfl) rfl (leW rfl) (hb hby dNF0_22) (fun _ _ => ⟨rfl, e231, (leB rfl), (leB rfl)⟩)
  dsimp only [Pt.U, Pt.locs, Pt.cells, Pt.slots] at X243 l249 y250 z251 st252 hQ248
  subst y250 z251
  obtain ⟨rfl, N263, K264, F_0265, F_1266, F_2267, F_3268, F_4269⟩ := hQ248
  have N253 : Fr n0 L244 := by rw [l249]; exact Fr.app N230 N263
  have hr272 := CHr.keep K264 (sfS (Safe.exa hZ137.alike F_0193 (by decide) (by decide)) (sfS Sf201 sf0)) H198
  have Sf273 := Safe.keep K264 (sfS (Safe.exa hZ137.alike F_0193 (by decide) (by decide)) (sfS Sf201 sf0)) H198 Sf201
  have H270 := hr272.1
  have CH271 := CH199.trans hr272
  have S274 := S202.keep K264 (ninS ne11 (ninS ne59 nin0)) (ninS ne12 (ninS ne60 nin0))
  have E275 := E203.keep K264
  have F276 := F204.keep K264 (ninS ne13 (ninS ne61 nin0))
  have S277 := S205.keep K264 (ninS ne14 (ninS ne62 nin0)) (ninS ne15 (ninS ne63 nin0))
  have E278 := F_0193.keep K264
  have S279 := S207.keep K264 (ninS ne169.1.symm (ninS ne167.1.symm nin0)) (ninS ne169.2.symm (ninS ne167.2.symm nin0))
  have Z280 := Nat.le_trans Z208 K264.1
  have hk281 := Nat.le_trans hk209 K264.1
  have O282 := O210.keep K264 (allS nw16 (allS nw65 all0))
  have K283 := K211.trans K264 (allS (Or.inr hk17) (allS (Or.inr hk66) all0))
  have hz284 := Nat.le_trans hz212 K264.1
  have V285 : Arv Z T242.heap x_pv58 x_kv57 .byte (16 : Int32) [(.int (StrChars.lo8 u0)), (.int (StrChars.lo8 u1)), (.int (StrChars.lo8 u2)), (.int 46), (.int 115), (.int 104), (.int 97), (.int 53), (.int 49), (.int 50)] (.int 0) := F_4269
  have F286 : Fld Z T242.heap a9 "java/lang/AbstractStringBuilder" "count" "I" (.int 10) := F_3268
  refine Way.to st252 ?_
  show Way _ _ _ _ (T242.setTop (mkF m 25 #[rv px] [(.ref a9)]))
  try clear F_0193 F_1194 F_2195 H198 CH199 Sf201 S202 E203 F204 S205 S207 Z208 hk209 O210 K211 hz212 V213 F214 X220 N230 e231 st252 cq258 kq259 qa260 qb261 qc262 N263 K264 hr272 E278
  try clear T170 T219
  obtain ⟨cq303, kq304, qa305, qb306, qc307⟩ := isOf hZ137 rfl F_0265
  obtain ⟨_, _, ⟨T287, L289, k290, n291⟩, -, X288, ⟨Lc292, hQ293, l294, y295, z296⟩, st297⟩ := X243.virtualBack hx (y := (⟨"java/lang/StringBuilder", "toString", "()Ljava/lang/String;"⟩ : MethodName)) (z := (⟨"java/lang/StringBuilder", "toString", "()Ljava/lang/String;"⟩ : MethodName)) hown138 (mvT hZ137 (tw hw 104 rfl)) (mvT hZ137 (tw hw 105 rfl)) (notFace_of_selects (args := #[]) (mvT hZ137 (tw hw 107 rfl))) (mvT hZ137 (tw hw 107 rfl)) (mvT hZ137 (tw hw 106 rfl)) (by decide) (backOf (W := 0) (rmTS3 l Z a0 hw [] a9 x_pv58 x_kv57 u0 u1 u2 T242.heap n0 Z280 F_0265 F_1266 F_2267 F286 V285 hbd O282 SV) hZ137 (tw hw 108 rfl) (tw hw 28 rfl) (by decide) (by decide)) qa305 qc307 (g := (mkF m 25 #[rv px] [(.ref a9)])) rfl (by rw [hml]; rfl) (Steps.refl _) (argsL := []) (rest := []) (lenOf pdLB rfl) rfl (leW rfl) (hb hby dNF0_25) (fun _ _ => ⟨rfl, rfl, (leB rfl), (leB rfl)⟩)
  dsimp only [Pt.U, Pt.locs, Pt.cells, Pt.slots] at X288 l294 y295 z296 st297 hQ293
  subst y295 z296
  obtain ⟨x_bx314, x_bt313, rfl, N308, K309, fr_bx312, fr_bt311, F_0310⟩ := hQ293
  have N298 : Fr n0 L289 := by rw [l294]; exact Fr.app N253 N308
  have ne315 : px ≠ x_bx314 := Nat.ne_of_lt (Nat.lt_of_lt_of_le S274.lt1 fr_bx312)
  have ne316 : pt ≠ x_bx314 := Nat.ne_of_lt (Nat.lt_of_lt_of_le S274.lt2 fr_bx312)
  have ne317 : ud ≠ x_bx314 := Nat.ne_of_lt (Nat.lt_of_lt_of_le E275.lt fr_bx312)
  have ne318 : ul ≠ x_bx314 := Nat.ne_of_lt (Nat.lt_of_lt_of_le S277.lt1 fr_bx312)
  have ne319 : ult ≠ x_bx314 := Nat.ne_of_lt (Nat.lt_of_lt_of_le S277.lt2 fr_bx312)
  have ne320 : a9 ≠ x_bx314 := Nat.ne_of_lt (Nat.lt_of_lt_of_le F_0265.lt fr_bx312)
  have ne321 : a126 ≠ x_bx314 := Nat.ne_of_lt (Nat.lt_of_lt_of_le S279.lt1 fr_bx312)
  have ne322 : bd130 ≠ x_bx314 := Nat.ne_of_lt (Nat.lt_of_lt_of_le S279.lt2 fr_bx312)
  have ne323 : x_pv58 ≠ x_bx314 := Nat.ne_of_lt (Nat.lt_of_lt_of_le V285.lt fr_bx312)
  have nw324 : n0 ≤ x_bx314 := Nat.le_trans Z280 fr_bx312
  have hk325 : h0.size ≤ x_bx314 := Nat.le_trans hz284 fr_bx312
  have Sf326 : Safe Z own_EL T127.vm T242.heap x_bx314 := Safe.new fr_bx312
  have ne327 : px ≠ x_bt313 := Nat.ne_of_lt (Nat.lt_of_lt_of_le S274.lt1 fr_bt311)
  have ne328 : pt ≠ x_bt313 := Nat.ne_of_lt (Nat.lt_of_lt_of_le S274.lt2 fr_bt311)
  have ne329 : ud ≠ x_bt313 := Nat.ne_of_lt (Nat.lt_of_lt_of_le E275.lt fr_bt311)
  have ne330 : ul ≠ x_bt313 := Nat.ne_of_lt (Nat.lt_of_lt_of_le S277.lt1 fr_bt311)
  have ne331 : ult ≠ x_bt313 := Nat.ne_of_lt (Nat.lt_of_lt_of_le S277.lt2 fr_bt311)
  have ne332 : a9 ≠ x_bt313 := Nat.ne_of_lt (Nat.lt_of_lt_of_le F_0265.lt fr_bt311)
  have ne333 : a126 ≠ x_bt313 := Nat.ne_of_lt (Nat.lt_of_lt_of_le S279.lt1 fr_bt311)
  have ne334 : bd130 ≠ x_bt313 := Nat.ne_of_lt (Nat.lt_of_lt_of_le S279.lt2 fr_bt311)
  have ne335 : x_pv58 ≠ x_bt313 := Nat.ne_of_lt (Nat.lt_of_lt_of_le V285.lt fr_bt311)
  have nw336 : n0 ≤ x_bt313 := Nat.le_trans Z280 fr_bt311
  have hk337 : h0.size ≤ x_bt313 := Nat.le_trans hz284 fr_bt311
  have Sf338 : Safe Z own_EL T127.vm T242.heap x_bt313 := Safe.new fr_bt311
  have hr341 := CHr.keep K309 sf0 H270
  have Sf342 := Safe.keep K309 sf0 H270 Sf273
  have Sf343 := Safe.keep K309 sf0 H270 Sf326
  have Sf344 := Safe.keep K309 sf0 H270 Sf338
  have H339 := hr341.1
  have CH340 := CH271.trans hr341
  have S345 := S274.keep K309 nin0 nin0
  have E346 := E275.keep K309
  have F347 := F276.keep K309 nin0
  have S348 := S277.keep K309 nin0 nin0
  have E349 := F_0265.keep K309
  have S350 := S279.keep K309 nin0 nin0
  have F351 := F_1266.keep K309 nin0
  have F352 := F_2267.keep K309 nin0
  have F353 := F286.keep K309 nin0
  have A354 := V285.keep K309 nin0
  have Z355 := Nat.le_trans Z280 K309.1
  have hk356 := Nat.le_trans hk281 K309.1
  have O357 := O282.keep K309 all0
  have K358 := K283.trans K309 all0
  have hz359 := Nat.le_trans hz284 K309.1
  refine Way.to st297 ?_
  show Way _ _ _ _ (T287.setTop (mkF m 28 #[rv px] [(.ref x_bx314)]))
  try clear X243 N253 F_0265 F_1266 F_2267 H270 CH271 Sf273 S274 E275 F276 S277 S279 Z280 hk281 O282 K283 hz284 V285 F286 st297 cq303 kq304 qa305 qb306 qc307 N308 K309 hr341
  try clear T242
  refine Way.retH (v := (some (.ref x_bx314))) X288 hS135 (by exact hk356) hZ137 hEL hh rfl H339 CH340 hlk (fun h => by rw [Bd.returns] at h; cases h) (fun fs hr => retOut X288 hx Bd.returns rfl (Or.inr (Or.inr (Or.inr (Or.inr ⟨rfl, rfl, rfl⟩)))) (hb hby dNF0_28) hr) ?_ (by decide) (by decide)
  show QNF3 Z px pt u0 u1 u2 ud ul ult h0 n0 _ T287.heap _
  skip
  exact ⟨x_bx314, x_bt313, rfl, N298, K358, F_0310⟩
def QN4 (Z : State) (pa : Addr) (pb : Addr) (kb : ClassId) (h0 : Heap) (n0 : Nat) (v : Option Value) (h : Heap) (L : List Loc) : Prop := ∃ (pt : Addr), v = none ∧ Fr n0 L ∧ Keep h0 h [pa] ∧ own_Str Z h pa pt []
theorem dN4_0 : decode jdk_42_method_149_code 0 = .ok (.aload_n 0, 1) := by decide +kernel
theorem dN4_1 : decode jdk_42_method_149_code 1 = .ok (.invokespecial 1, 3) := by decide +kernel
theorem dN4_4 : decode jdk_42_method_149_code 4 = .ok (.iload_n 3, 1) := by decide +kernel
theorem dN4_5 : decode jdk_42_method_149_code 5 = .ok (.ifCond .ne 22, 3) := by decide +kernel
theorem dN4_8 : decode jdk_42_method_149_code 8 = .ok (.aload_n 0, 1) := by decide +kernel
theorem dN4_9 : decode jdk_42_method_149_code 9 = .ok (.ldc 7, 2) := by decide +kernel
theorem dN4_11 : decode jdk_42_method_149_code 11 = .ok (.getfield 9, 3) := by decide +kernel
theorem dN4_14 : decode jdk_42_method_149_code 14 = .ok (.putfield 9, 3) := by decide +kernel
theorem dN4_17 : decode jdk_42_method_149_code 17 = .ok (.aload_n 0, 1) := by decide +kernel
theorem dN4_18 : decode jdk_42_method_149_code 18 = .ok (.ldc 7, 2) := by decide +kernel
theorem dN4_20 : decode jdk_42_method_149_code 20 = .ok (.getfield 15, 3) := by decide +kernel
theorem dN4_23 : decode jdk_42_method_149_code 23 = .ok (.putfield 15, 3) := by decide +kernel
theorem dN4_26 : decode jdk_42_method_149_code 26 = .ok (.return_, 1) := by decide +kernel
theorem pdN4 : parseMethodDescriptor "([CIILjava/lang/Void;)V" = some ⟨[(.array .char), .int, .int, (.object "java/lang/Void")], none⟩ := by decide +kernel
set_option maxRecDepth 65536 in
set_option maxHeartbeats 40000000 in
theorem rmN4 (l : Launch) (Z : State) (a0 : Array Value) (hw : ∀ d ∈ tables_1, d.before a0 Z = true) (ws : List Jvm.Cond) (pa : Addr) (pb : Addr) (kb : ClassId) (h0 : Heap) (n0 : Nat) (Z0 : n0 ≤ h0.size) (H0 : Exa Z h0 pa "java/lang/String") (H1 : Fld Z h0 pa "java/lang/String" "value" "[B" .null) (H2 : Fld Z h0 pa "java/lang/String" "coder" "B" (.int 0)) (H3 : Arv Z h0 pb kb .char (0 : Int32) [] (.int 0)) (ne_pb_pa : pb ≠ pa) (nw_pa : n0 ≤ pa) :
    MetFree l (⟨"java/lang/String", "<init>", "([CIILjava/lang/Void;)V"⟩ : MethodName) (head1 (Jvm.Cond.code (⟨"java/lang/String", "<init>", "([CIILjava/lang/Void;)V"⟩ : MethodName) jdk_42_method_149_code 6 none :: ws) ({ frames := 1, cells := 4, slots := 8, locals := 12 } : Room)) (fun aa U => aa = #[(.ref pa), (.ref pb), (.int 0), (.int 0), .null] ∧ Z.Warmed39 U.vm ∧ U.heap = h0 ∧ CHv Z own_EL U.vm h0) (fun _ _ _ _ _ => True) (fun _ U oo U' => ∃ v L, oo = .returned v ∧ QN4 Z pa pb kb h0 n0 v U'.heap L ∧ CHr Z own_EL U.vm U.heap U'.vm U'.heap ∧ ReturnedEndW U oo U' L ({ frames := 1, cells := 4, slots := 8, locals := 12 } : Room).cells ({ frames := 1, cells := 4, slots := 8, locals := 12 } : Room).slots) := by
  refine MetFree.of_bodySF (plainFor_of_name pnCD) hisR ?_
  intro p e s m args below meth c s₁ Bd hml0 hP hK
  obtain ⟨rfl, hZ, hh, HV0⟩ := hP
  have hx := Bd.exec
  have hby := Bd.bytes
  have hlk : meth.locks = false := BodyLoose.notSynchronized Bd
  have hml : c.maxLocals = 6 := hml0
  have hown : s.vm.findClass "java/lang/String" = some m.cls := findClass_of_methodNamed Bd.named
  have hnm := (name_of_methodNamed Bd.named Bd.method).1
  have X0 : Stand p l e ({ frames := 1, cells := 4, slots := 8, locals := 12 } : Room) s m #[(.ref pa), (.ref pb), (.int 0), (.int 0), .null] below meth c s₁ [] 0 0 := Stand.of_body Bd
  have e0 : s₁.heap = h0 := by rw [← hh, Bd.state]; rfl
  have N0 := Fr.nil n0
  have ef : entryFrame m #[(.ref pa), (.ref pb), (.int 0), (.int 0), .null] 6 = mkF m 0 #[rv pa, rv pb, iv 0, iv 0, .val .null, .unset] [] := by first | (simp [entryFrame, mkF, argsToLocals, Value.category, maxLocals]; done) | rfl
  have XW : Stand p l e ({ frames := 1, cells := 4, slots := 8, locals := 12 } : Room) (s.setVm s.vm) m #[(.ref pa), (.ref pb), (.int 0), (.int 0), .null] below meth c s₁ [] 0 0 := X0
  have hS0 : s.Since s.vm 0 := (State.WarmedH.refl s).since 0
  have hZ0 : Z.Warmed39 (s.setVm s.vm).vm := hZ
  have hown0 : (s.setVm s.vm).vm.findClass "java/lang/String" = some m.cls := hown
  have wS : ∀ d ∈ Bundle.stringAtoms, d.before a0 Z = true := fun d hd => hw d (own_wS d hd)
  have hEL : EW Z a0 own_EL := own_EW hw
  have CH0 : CHr Z own_EL s.vm h0 s.vm h0 := CHr.refl HV0
  show Way p.tables e below (KQH s Z own_EL (QN4 Z pa pb kb h0 n0) ({ frames := 1, cells := 4, slots := 8, locals := 12 } : Room).cells ({ frames := 1, cells := 4, slots := 8, locals := 12 } : Room).slots) (s₁.setTop (entryFrame m #[(.ref pa), (.ref pb), (.int 0), (.int 0), .null] 6))
  rw [ef]
  have sfa := own_safeNull (EL := own_EL) hZ.alike H0 H1
  refine Way.by (fun _ k => XS.aloadN XW.here hx rfl (hb hby dN4_0) rfl rfl k) ?_
  show Way _ _ _ _ (s₁.setTop (mkF m 1 #[rv pa, rv pb, iv 0, iv 0, .val .null, .unset] [(.ref pa)]))
  obtain ⟨T1, X2, e3, st4⟩ := initO XW hx hZ0 hown0 (tw hw 11 rfl) (tw hw 12 rfl) (tw hw 13 rfl) e0 (g := (mkF m 1 #[rv pa, rv pb, iv 0, iv 0, .val .null, .unset] [(.ref pa)])) rfl (by rw [hml]; rfl) rfl (hb hby dN4_1) (by decide) (W := 0) (leW rfl) (by decide)
  refine Way.by st4 ?_
  show Way _ _ _ _ (T1.setTop (mkF m 4 #[rv pa, rv pb, iv 0, iv 0, .val .null, .unset] []))
  refine Way.by (fun _ k => XS.iloadN X2.here hx rfl (hb hby dN4_4) rfl k) ?_
  show Way _ _ _ _ (T1.setTop (mkF m 5 #[rv pa, rv pb, iv 0, iv 0, .val .null, .unset] [(.int 0)]))
  have b5 : (0 : Int32) = (0 : Int32) := by decide
  refine Way.by (fun _ k => XS.ifNo X2.here hx rfl (hb hby dN4_5) rfl ((if0 .ne _).trans (teq b5).2) k) ?_
  show Way _ _ _ _ (T1.setTop (mkF m 8 #[rv pa, rv pb, iv 0, iv 0, .val .null, .unset] []))
  refine Way.by (fun _ k => XS.aloadN X2.here hx rfl (hb hby dN4_8) rfl rfl k) ?_
  show Way _ _ _ _ (T1.setTop (mkF m 9 #[rv pa, rv pb, iv 0, iv 0, .val .null, .unset] [(.ref pa)]))
  obtain ⟨a6, T7, h8, k9, bd10, kc11, X12, e13, E14, hS15, hk16, hZ17, hown18, Ex19, Co20, Va21, Ar22, la23, lb24, hr25, lit26, sfn27, st28⟩ := ldcCH X2 hx hZ0 hown0 (tw hw 14 rfl) wS e3 hS0 (Nat.zero_le _) hEL (by decide) HV0 (vs := ([] : List Int32).map fun c => Value.int (StrChars.lo8 c)) (z := (0 : Int32)) ⟨by decide, by decide⟩ (by decide) rfl (g := (mkF m 9 #[rv pa, rv pb, iv 0, iv 0, .val .null, .unset] [(.ref pa)])) rfl (hb hby dN4_9) (n := 0) (by decide) (by decide) (by decide) (by decide)
  have Sf32 := CHr.safe hr25 H0.lt sfa
  have H29 := hr25.1
  have CH30 := CH0.trans hr25
  have E33 := Exa.ext E14 H0
  have F34 := Fld.ext E14 H1
  have F35 := Fld.ext E14 H2
  have A36 := H3.ext E14
  have Z37 := Nat.le_trans Z0 E14.1
  have K38 := (Keep.refl h0 [pa]).ext E14
  have hz39 := Nat.le_trans (Nat.le_refl h0.size) E14.1
  have F40 : own_Str Z h8 a6 bd10 [] := ⟨Ex19, Va21, Co20, ⟨_, _, _, Ar22, Or.inl ⟨rfl, rfl, rfl, by decide⟩⟩, by decide, by decide⟩
  have ne41 := sfn27 pa Sf32
  have ne42 := sfn27 pb (Safe.arv hZ17.alike A36 (by decide))
  refine Way.by st28 ?_
  show Way _ _ _ _ (T7.setTop (mkF m 11 #[rv pa, rv pb, iv 0, iv 0, .val .null, .unset] [(.ref a6), (.ref pa)]))
  obtain ⟨T43, X44, e45, st46⟩ := getF X12 hx hZ17 hown18 (host := "") (Or.inl (tw hw 20 rfl)) Via.refl e13 F40.2.1 (g := (mkF m 11 #[rv pa, rv pb, iv 0, iv 0, .val .null, .unset] [(.ref a6), (.ref pa)])) rfl rfl (hb hby dN4_11)
  refine Way.by st46 ?_
  show Way _ _ _ _ (T43.setTop (mkF m 14 #[rv pa, rv pb, iv 0, iv 0, .val .null, .unset] [(.ref bd10), (.ref pa)]))
  obtain ⟨T47, h48, X49, e50, W51, st52⟩ := putF X44 hx hZ17 hown18 (host := "") (Or.inl (tw hw 20 rfl)) Via.refl e45 F34 E33 (Or.inr ⟨(tw hw 16 rfl), rfl, hnm⟩) (tw hw 2 rfl) (ty := (.array .byte)) (by decide) rfl rfl (g := (mkF m 14 #[rv pa, rv pb, iv 0, iv 0, .val .null, .unset] [(.ref bd10), (.ref pa)])) rfl rfl (hb hby dN4_14)
  have N53 := Fr.snoc X49 N0 nw_pa
  have hr56 := CHr.wr W51 Sf32 H29
  have Sf57 := Safe.wr W51 Sf32 H29 Sf32
  have H54 := hr56.1
  have CH55 := CH30.trans hr56
  have E58 := Exa.wr W51 E33
  have F59 : Fld Z h48 pa "java/lang/String" "value" "[B" (.ref bd10) := F34.same W51
  have F60 := F35.other W51 (Or.inr (slot_ne (Or.inr (tw hw 17 rfl)) (Or.inr (tw hw 16 rfl)) (by decide) (t := .byte) (t' := (.array .byte)) (by decide) (by decide)))
  have A61 := A36.other W51 ne_pb_pa
  have S62 := F40.other W51 ne41.1.symm ne41.2.symm
  have Z63 : n0 ≤ h48.size := by rw [W51.size]; exact Z37
  have hk64 := Nat.le_trans hk16 (Nat.le_of_eq W51.size.symm)
  have K65 := K38.wr W51 (Or.inl (List.mem_of_getElem? (i := 0) rfl))
  have hz66 : h0.size ≤ h48.size := by rw [W51.size]; exact hz39
  refine Way.by st52 ?_
  show Way _ _ _ _ (T47.setTop (mkF m 17 #[rv pa, rv pb, iv 0, iv 0, .val .null, .unset] []))
  try clear hk16 H29 CH30 Sf32 E33 F34 F35 A36 Z37 K38 hz39 F40 X44 e45 W51 st52 hr56
  try clear h8 T43
  refine Way.by (fun _ k => XS.aloadN X49.here hx rfl (hb hby dN4_17) rfl rfl k) ?_
  show Way _ _ _ _ (T47.setTop (mkF m 18 #[rv pa, rv pb, iv 0, iv 0, .val .null, .unset] [(.ref pa)]))
  obtain ⟨a67, T68, h69, k70, bd71, kc72, X73, e74, E75, hS76, hk77, hZ78, hown79, Ex80, Co81, Va82, Ar83, la84, lb85, hr86, lit87, sfn88, st89⟩ := ldcCH X49 hx hZ17 hown18 (tw hw 14 rfl) wS e50 hS15 hk64 hEL (by decide) H54 (vs := ([] : List Int32).map fun c => Value.int (StrChars.lo8 c)) (z := (0 : Int32)) ⟨by decide, by decide⟩ (by decide) rfl (g := (mkF m 18 #[rv pa, rv pb, iv 0, iv 0, .val .null, .unset] [(.ref pa)])) rfl (hb hby dN4_18) (n := 0) (by decide) (by decide) (by decide) (by decide)
  have Sf93 := CHr.safe hr86 E58.lt Sf57
  have H90 := hr86.1
  have CH91 := CH55.trans hr86
  have E94 := Exa.ext E75 E58
  have F95 := Fld.ext E75 F59
  have F96 := Fld.ext E75 F60
  have A97 := A61.ext E75
  have S98 := S62.ext E75
  have Z99 := Nat.le_trans Z63 E75.1
  have K100 := K65.ext E75
  have hz101 := Nat.le_trans hz66 E75.1
  have F102 : own_Str Z h69 a67 bd71 [] := ⟨Ex80, Va82, Co81, ⟨_, _, _, Ar83, Or.inl ⟨rfl, rfl, rfl, by decide⟩⟩, by decide, by decide⟩
  have ne103 := sfn88 pa Sf93
  have ne104 := sfn88 pb (Safe.arv hZ78.alike A97 (by decide))
  refine Way.by st89 ?_
  show Way _ _ _ _ (T68.setTop (mkF m 20 #[rv pa, rv pb, iv 0, iv 0, .val .null, .unset] [(.ref a67), (.ref pa)]))
  try clear hS15 hZ17 hown18 X49 e50 H54 CH55 Sf57 E58 F59 F60 A61 S62 Z63 hk64 K65 hz66 E75 hr86 st89
  try clear T7 T47 h48
  obtain ⟨T105, X106, e107, st108⟩ := getF X73 hx hZ78 hown79 (host := "") (Or.inl (tw hw 21 rfl)) Via.refl e74 F102.2.2.1 (g := (mkF m 20 #[rv pa, rv pb, iv 0, iv 0, .val .null, .unset] [(.ref a67), (.ref pa)])) rfl rfl (hb hby dN4_20)
  refine Way.by st108 ?_
  show Way _ _ _ _ (T105.setTop (mkF m 23 #[rv pa, rv pb, iv 0, iv 0, .val .null, .unset] [(.int 0), (.ref pa)]))
  obtain ⟨T109, h110, X111, e112, W113, st114⟩ := putF X106 hx hZ78 hown79 (host := "") (Or.inl (tw hw 21 rfl)) Via.refl e107 F96 E94 (Or.inr ⟨(tw hw 17 rfl), rfl, hnm⟩) (tw hw 2 rfl) (ty := .byte) (by decide) rfl rfl (g := (mkF m 23 #[rv pa, rv pb, iv 0, iv 0, .val .null, .unset] [(.int 0), (.ref pa)])) rfl rfl (hb hby dN4_23)
  have N115 := Fr.snoc X111 N53 nw_pa
  have hr118 := CHr.wr W113 Sf93 H90
  have Sf119 := Safe.wr W113 Sf93 H90 Sf93
  have H116 := hr118.1
  have CH117 := CH91.trans hr118
  have E120 := Exa.wr W113 E94
  have F121 := F95.other W113 (Or.inr (slot_ne (Or.inr (tw hw 16 rfl)) (Or.inr (tw hw 17 rfl)) (by decide) (t := (.array .byte)) (t' := .byte) (by decide) (by decide)))
  have F122 : Fld Z h110 pa "java/lang/String" "coder" "B" (.int 0) := F96.same W113
  have A123 := A97.other W113 ne_pb_pa
  have S124 := S98.other W113 ne41.1.symm ne41.2.symm
  have S125 := F102.other W113 ne103.1.symm ne103.2.symm
  have Z126 : n0 ≤ h110.size := by rw [W113.size]; exact Z99
  have hk127 := Nat.le_trans hk77 (Nat.le_of_eq W113.size.symm)
  have K128 := K100.wr W113 (Or.inl (List.mem_of_getElem? (i := 0) rfl))
  have hz129 : h0.size ≤ h110.size := by rw [W113.size]; exact hz101
  refine Way.by st114 ?_
  show Way _ _ _ _ (T109.setTop (mkF m 26 #[rv pa, rv pb, iv 0, iv 0, .val .null, .unset] []))
  try clear N53 hk77 H90 CH91 Sf93 E94 F95 F96 A97 S98 Z99 K100 hz101 F102 X106 e107 W113 st114 hr118
  try clear h69 T105
  refine Way.retH (v := none) X111 hS76 (by rw [e112]; exact hk127) hZ78 hEL hh e112 H116 CH117 hlk (fun _ => rfl) (fun fs hr => X111.returnOut hx Bd.returns (hb hby dN4_26) hr) ?_ (by decide) (by decide)
  show QN4 Z pa pb kb h0 n0 _ T109.heap _
  rw [e112]
  have STR : own_Str Z h110 pa bd10 [] := ⟨E120, F121, F122, S124.2.2.2⟩
  exact ⟨bd10, rfl, N115, K128, STR⟩
def QN1 (Z : State) (pa : Addr) (pb : Addr) (kb : ClassId) (h0 : Heap) (n0 : Nat) (v : Option Value) (h : Heap) (L : List Loc) : Prop := ∃ (pt : Addr), v = none ∧ Fr n0 L ∧ Keep h0 h [pa] ∧ own_Str Z h pa pt []
theorem dN1_0 : decode jdk_42_method_3_code 0 = .ok (.aload_n 0, 1) := by decide +kernel
theorem dN1_1 : decode jdk_42_method_3_code 1 = .ok (.aload_n 1, 1) := by decide +kernel
theorem dN1_2 : decode jdk_42_method_3_code 2 = .ok (.iconst 0, 1) := by decide +kernel
theorem dN1_3 : decode jdk_42_method_3_code 3 = .ok (.aload_n 1, 1) := by decide +kernel
theorem dN1_4 : decode jdk_42_method_3_code 4 = .ok (.arraylength, 1) := by decide +kernel
theorem dN1_5 : decode jdk_42_method_3_code 5 = .ok (.aconst_null, 1) := by decide +kernel
theorem dN1_6 : decode jdk_42_method_3_code 6 = .ok (.invokespecial 27, 3) := by decide +kernel
theorem dN1_9 : decode jdk_42_method_3_code 9 = .ok (.return_, 1) := by decide +kernel
theorem pdN1 : parseMethodDescriptor "([C)V" = some ⟨[(.array .char)], none⟩ := by decide +kernel
set_option maxRecDepth 65536 in
set_option maxHeartbeats 40000000 in
theorem rmN1 (l : Launch) (Z : State) (a0 : Array Value) (hw : ∀ d ∈ tables_1, d.before a0 Z = true) (ws : List Jvm.Cond) (pa : Addr) (pb : Addr) (kb : ClassId) (h0 : Heap) (n0 : Nat) (Z0 : n0 ≤ h0.size) (H0 : Exa Z h0 pa "java/lang/String") (H1 : Fld Z h0 pa "java/lang/String" "value" "[B" .null) (H2 : Fld Z h0 pa "java/lang/String" "coder" "B" (.int 0)) (H3 : Arv Z h0 pb kb .char (0 : Int32) [] (.int 0)) (ne_pb_pa : pb ≠ pa) (nw_pa : n0 ≤ pa) :
    MetFree l (⟨"java/lang/String", "<init>", "([C)V"⟩ : MethodName) (head1 (Jvm.Cond.code (⟨"java/lang/String", "<init>", "([C)V"⟩ : MethodName) jdk_42_method_3_code 2 none :: ws) ({ frames := 2, cells := 4, slots := 8, locals := 29 } : Room)) (fun aa U => aa = #[(.ref pa), (.ref pb)] ∧ Z.Warmed39 U.vm ∧ U.heap = h0 ∧ CHv Z own_EL U.vm h0) (fun _ _ _ _ _ => True) (fun _ U oo U' => ∃ v L, oo = .returned v ∧ QN1 Z pa pb kb h0 n0 v U'.heap L ∧ CHr Z own_EL U.vm U.heap U'.vm U'.heap ∧ ReturnedEndW U oo U' L ({ frames := 2, cells := 4, slots := 8, locals := 29 } : Room).cells ({ frames := 2, cells := 4, slots := 8, locals := 29 } : Room).slots) := by
  refine MetFree.of_bodySF (plainFor_of_name pnCD) hisR ?_
  intro p e s m args below meth c s₁ Bd hml0 hP hK
  obtain ⟨rfl, hZ, hh, HV0⟩ := hP
  have hx := Bd.exec
  have hby := Bd.bytes
  have hlk : meth.locks = false := BodyLoose.notSynchronized Bd
  have hml : c.maxLocals = 2 := hml0
  have hown : s.vm.findClass "java/lang/String" = some m.cls := findClass_of_methodNamed Bd.named
  have hnm := (name_of_methodNamed Bd.named Bd.method).1
  have X0 : Stand p l e ({ frames := 2, cells := 4, slots := 8, locals := 29 } : Room) s m #[(.ref pa), (.ref pb)] below meth c s₁ [] 0 0 := Stand.of_body Bd
  have e0 : s₁.heap = h0 := by rw [← hh, Bd.state]; rfl
  have N0 := Fr.nil n0
  have ef : entryFrame m #[(.ref pa), (.ref pb)] 2 = mkF m 0 #[rv pa, rv pb] [] := by first | (simp [entryFrame, mkF, argsToLocals, Value.category, maxLocals]; done) | rfl
  have XW : Stand p l e ({ frames := 2, cells := 4, slots := 8, locals := 29 } : Room) (s.setVm s.vm) m #[(.ref pa), (.ref pb)] below meth c s₁ [] 0 0 := X0
  have hS0 : s.Since s.vm 0 := (State.WarmedH.refl s).since 0
  have hZ0 : Z.Warmed39 (s.setVm s.vm).vm := hZ
  have hown0 : (s.setVm s.vm).vm.findClass "java/lang/String" = some m.cls := hown
  have wS : ∀ d ∈ Bundle.stringAtoms, d.before a0 Z = true := fun d hd => hw d (own_wS d hd)
  have hEL : EW Z a0 own_EL := own_EW hw
  have CH0 : CHr Z own_EL s.vm h0 s.vm h0 := CHr.refl HV0
  show Way p.tables e below (KQH s Z own_EL (QN1 Z pa pb kb h0 n0) ({ frames := 2, cells := 4, slots := 8, locals := 29 } : Room).cells ({ frames := 2, cells := 4, slots := 8, locals := 29 } : Room).slots) (s₁.setTop (entryFrame m #[(.ref pa), (.ref pb)] 2))
  rw [ef]
  have sfa := own_safeNull (EL := own_EL) hZ.alike H0 H1
  refine Way.by (fun _ k => XS.aloadN XW.here hx rfl (hb hby dN1_0) rfl rfl k) ?_
  refine Way.by (fun _ k => XS.aloadN XW.here hx rfl (hb hby dN1_1) rfl rfl k) ?_
  refine Way.by (fun _ k => XS.iconst XW.here hx rfl (hb hby dN1_2) k) ?_
  show Way _ _ _ _ (s₁.setTop (mkF m 3 #[rv pa, rv pb] [(.int 0), (.ref pb), (.ref pa)]))
  refine Way.by (fun _ k => XS.aloadN XW.here hx rfl (hb hby dN1_3) rfl rfl k) ?_
  show Way _ _ _ _ (s₁.setTop (mkF m 4 #[rv pa, rv pb] [(.ref pb), (.int 0), (.ref pb), (.ref pa)]))
  obtain ⟨c1, A2, q3, S4, M5, H6, U7⟩ := id H3
  refine Way.by (fun t k => Stand.arraylength XW hx (hpE e0 A2.1) (arrS hZ0 A2) (g := (mkF m 4 #[rv pa, rv pb] [(.ref pb), (.int 0), (.ref pb), (.ref pa)])) rfl rfl (hb hby dN1_4) t k) ?_
  rw [len_of S4 M5]
  show Way _ _ _ _ (s₁.setTop (mkF m 5 #[rv pa, rv pb] [(.int 0), (.int 0), (.ref pb), (.ref pa)]))
  refine Way.by (fun _ k => XS.aconstNull XW.here hx rfl (hb hby dN1_5) k) ?_
  show Way _ _ _ _ (s₁.setTop (mkF m 6 #[rv pa, rv pb] [.null, (.int 0), (.int 0), (.ref pb), (.ref pa)]))
  obtain ⟨_, _, ⟨T8, L10, k11, n12⟩, -, X9, hS21, hg22, ⟨Lc13, hQ14, l15, y16, z17, hr23⟩, st18⟩ := XW.specialBackS hx (y := (⟨"java/lang/String", "<init>", "([CIILjava/lang/Void;)V"⟩ : MethodName)) rfl hown0 (mvT hZ0 (tw hw 7 rfl)) (mvT hZ0 (tw hw 8 rfl)) (mvT hZ0 (tw hw 10 rfl)) (by decide) (backOfSH (W := 0) (rmN4 l Z a0 hw [] pa pb kb h0 n0 Z0 H0 H1 H2 H3 ne_pb_pa nw_pa) hZ0 (tw hw 10 rfl) (tw hw 3 rfl) (by decide) (by decide) hEL HV0) (g := (mkF m 6 #[rv pa, rv pb] [.null, (.int 0), (.int 0), (.ref pb), (.ref pa)])) rfl (by rw [hml]; rfl) (Steps.refl _) (a := pa) (argsL := [(.ref pb), (.int 0), (.int 0), .null]) (rest := []) (lenOf pdN4 rfl) rfl (leW rfl) (hb hby dN1_6) (fun _ _ => ⟨rfl, e0, (leB rfl), (leB rfl)⟩)
  dsimp only [Pt.U, Pt.locs, Pt.cells, Pt.slots] at X9 l15 y16 z17 st18 hQ14 hS21 hg22 hr23
  subst y16 z17
  obtain ⟨X24, hS25, hZ26, hown27⟩ := rebS hS0 (by rw [e0]; exact (Nat.zero_le _)) X9 hS21 hg22 hZ0 hown0
  obtain ⟨x_pt31, rfl, N28, K29, F_030⟩ := hQ14
  have N19 : Fr n0 L10 := by rw [l15]; exact Fr.app N0 N28
  have Sf35 := CHr.safe hr23 H0.lt sfa
  have H32 := hr23.1
  have CH33 := CH0.trans hr23
  have E36 := H0.keep K29
  have A37 := H3.keep K29 (ninS ne_pb_pa nin0)
  have Z38 := Nat.le_trans Z0 K29.1
  have K39 := (Keep.refl h0 [pa]).trans K29 (allS (Or.inl (List.mem_of_getElem? (i := 0) rfl)) all0)
  have hz40 := Nat.le_trans (Nat.le_refl h0.size) K29.1
  refine Way.to st18 ?_
  show Way _ _ _ _ (T8.setTop (mkF m 9 #[rv pa, rv pb] []))
  refine Way.retH (v := none) X24 hS25 (by exact (Nat.le_refl _)) hZ26 hEL hh rfl H32 CH33 hlk (fun _ => rfl) (fun fs hr => X24.returnOut hx Bd.returns (hb hby dN1_9) hr) ?_ (by decide) (by decide)
  show QN1 Z pa pb kb h0 n0 _ T8.heap _
  skip
  exact ⟨x_pt31, rfl, N19, K39, F_030⟩
def Q0 (n0 : Nat) (v : Option Value) (h : Heap) (L : List Loc) : Prop := v = some (.int 1) ∧ Fr n0 L
theorem own_b255 (x : Int32) : ¬ (x &&& (255 : Int32)).toUInt32.toUInt16.toUInt32.toInt32 < 0 ∧ ¬ (255 : Int32) < (x &&& (255 : Int32)).toUInt32.toUInt16.toUInt32.toInt32 := by
  rw [i2c_mask]
  have h := c_and x 255 (by decide)
  rw [Int32.lt_iff_toInt_lt, Int32.lt_iff_toInt_lt]
  have e1 : (255 : Int32).toInt = 255 := by decide
  have e2 : (0 : Int32).toInt = 0 := by decide
  omega
theorem own_n255 (x : Int32) : nar .char (x &&& (255 : Int32)).toUInt32.toUInt16.toUInt32.toInt32 = (x &&& (255 : Int32)).toUInt32.toUInt16.toUInt32.toInt32 := by
  rw [i2c_mask]; exact i2c_mask x
theorem cases4 {k : Int32} (h : 0 ≤ k.toInt ∧ k.toInt < 4) : k = 0 ∨ k = 1 ∨ k = 2 ∨ k = 3 := by
  have q : k.toInt = 0 ∨ k.toInt = 1 ∨ k.toInt = 2 ∨ k.toInt = 3 := by omega
  rcases q with q | q | q | q
  · exact Or.inl (Int32.toInt_inj.mp q)
  · exact Or.inr (Or.inl (Int32.toInt_inj.mp q))
  · exact Or.inr (Or.inr (Or.inl (Int32.toInt_inj.mp q)))
  · exact Or.inr (Or.inr (Or.inr (Int32.toInt_inj.mp q)))
theorem pn0 : plainName "com/example/longhold/longhold/store/DigestFileNameForPinLaw" = true := by first | (simp [plainName, overriddenIn]; done) | decide +kernel
theorem pd0 : parseMethodDescriptor "(IIII)Z" = some ⟨[.int, .int, .int, .int], some .boolean⟩ := by decide +kernel
set_option maxRecDepth 65536 in
set_option maxHeartbeats 40000000 in
theorem rm0 (l : Launch) (Z : State) (a0 : Array Value) (hw : ∀ d ∈ tables_1, d.before a0 Z = true) (ws : List Jvm.Cond) (p0 p1 p2 p3 : Int32) (ud ul ult : Addr) (h0 : Heap) (n0 : Nat) (Z0 : n0 ≤ h0.size) (O0 : Old Z n0 h0) (SV : own_Env Z) (SDG : Sta Z Z.heap "com/example/longhold/longhold/store/DigestFile" "DIGEST" "Lcom/example/longhold/longhold/store/DigestAlgorithm;" (.ref ud)) (EDG : Exa Z Z.heap ud "com/example/longhold/longhold/store/DigestAlgorithm") (FLB : Fld Z Z.heap ud "com/example/longhold/longhold/store/DigestAlgorithm" "label" "Ljava/lang/String;" (.ref ul)) (SLB : own_Str Z Z.heap ul ult [115, 104, 97, 53, 49, 50]) :
    MetFree l x (head1 (Jvm.Cond.code x code maxLocals ret :: ws) room_1) (fun aa U => aa = #[(.int p0), (.int p1), (.int p2), (.int p3)] ∧ Z.Warmed39 U.vm ∧ U.heap = h0 ∧ CHv Z own_EL U.vm h0) (fun _ _ _ _ _ => True) (fun _ U oo U' => ∃ v L, oo = .returned v ∧ Q0 n0 v U'.heap L ∧ CHr Z own_EL U.vm U.heap U'.vm U'.heap ∧ ReturnedEndW U oo U' L room_1.cells room_1.slots) := by
  refine MetFree.of_bodySF (plainFor_of_name pn0) hisR ?_
  intro p e s m args below meth c s₁ Bd hml0 hP hK
  obtain ⟨rfl, hZ, hh, HV0⟩ := hP
  have hx := Bd.exec
  have hby := Bd.bytes
  have hlk : meth.locks = false := BodyLoose.notSynchronized Bd
  have hml : c.maxLocals = 9 := hml0
  have hown : s.vm.findClass "com/example/longhold/longhold/store/DigestFileNameForPinLaw" = some m.cls := findClass_of_methodNamed Bd.named
  have hnm := (name_of_methodNamed Bd.named Bd.method).1
  have X0 : Stand p l e room_1 s m #[(.int p0), (.int p1), (.int p2), (.int p3)] below meth c s₁ [] 0 0 := Stand.of_body Bd
  have e0 : s₁.heap = h0 := by rw [← hh, Bd.state]; rfl
  have N0 := Fr.nil n0
  have ef : entryFrame m #[(.int p0), (.int p1), (.int p2), (.int p3)] maxLocals = mkF m 0 #[iv p0, iv p1, iv p2, iv p3, .unset, .unset, .unset, .unset, .unset] [] := by first | (simp [entryFrame, mkF, argsToLocals, Value.category, maxLocals]; done) | rfl
  have XW : Stand p l e room_1 (s.setVm s.vm) m #[(.int p0), (.int p1), (.int p2), (.int p3)] below meth c s₁ [] 0 0 := X0
  have hS0 : s.Since s.vm 0 := (State.WarmedH.refl s).since 0
  have hZ0 : Z.Warmed39 (s.setVm s.vm).vm := hZ
  have hown0 : (s.setVm s.vm).vm.findClass "com/example/longhold/longhold/store/DigestFileNameForPinLaw" = some m.cls := hown
  have wS : ∀ d ∈ Bundle.stringAtoms, d.before a0 Z = true := fun d hd => hw d (own_wS d hd)
  have hEL : EW Z a0 own_EL := own_EW hw
  have CH0 : CHr Z own_EL s.vm h0 s.vm h0 := CHr.refl HV0
  show Way p.tables e below (KQH s Z own_EL (Q0 n0) room_1.cells room_1.slots) (s₁.setTop (entryFrame m #[(.int p0), (.int p1), (.int p2), (.int p3)] maxLocals))
  rw [ef]
  refine Way.by (fun _ k => XS.iloadN XW.here hx rfl (hb hby at_0) rfl k) ?_
  refine Way.by (fun _ k => XS.iconst XW.here hx rfl (hb hby at_1) k) ?_
  show Way _ _ _ _ (s₁.setTop (mkF m 2 #[iv p0, iv p1, iv p2, iv p3, .unset, .unset, .unset, .unset, .unset] [(.int 3), (.int p0)]))
  refine Way.by (fun _ k => XS.iand XW.here hx rfl (hb hby at_2) rfl k) ?_
  show Way _ _ _ _ (s₁.setTop (mkF m 3 #[iv p0, iv p1, iv p2, iv p3, .unset, .unset, .unset, .unset, .unset] [(.int (p0 &&& (3 : Int32)))]))
  refine Way.by (fun _ k => XS.istore XW.here hx rfl (hb hby at_3) rfl (l' := #[iv p0, iv p1, iv p2, iv p3, iv (p0 &&& (3 : Int32)), .unset, .unset, .unset, .unset]) rfl k) ?_
  show Way _ _ _ _ (s₁.setTop (mkF m 5 #[iv p0, iv p1, iv p2, iv p3, iv (p0 &&& (3 : Int32)), .unset, .unset, .unset, .unset] []))
  obtain ⟨k, qk⟩ : ∃ z, z = p0 &&& (3 : Int32) := ⟨_, rfl⟩
  rw [← qk]
  have hk : 0 ≤ k.toInt ∧ k.toInt < 4 := by rw [qk, c_mask p0 3 2 (by decide) (by decide)]; exact ⟨Int.emod_nonneg _ (by decide), Int.emod_lt_of_pos _ (by decide)⟩
  rcases cases4 hk with rfl | rfl | rfl | rfl
  · skip
    show Way _ _ _ _ (s₁.setTop (mkF m 5 #[iv p0, iv p1, iv p2, iv p3, iv 0, .unset, .unset, .unset, .unset] []))
    refine Way.by (fun _ k => XS.iload XW.here hx rfl (hb hby at_5) rfl k) ?_
    show Way _ _ _ _ (s₁.setTop (mkF m 7 #[iv p0, iv p1, iv p2, iv p3, iv 0, .unset, .unset, .unset, .unset] [(.int 0)]))
    obtain ⟨T1, h2, kc3, X4, e5, E6, A7, st8⟩ := newP XW hx hZ0 (tw hw 0 rfl) e0 (g := (mkF m 7 #[iv p0, iv p1, iv p2, iv p3, iv 0, .unset, .unset, .unset, .unset] [(.int 0)])) rfl (hb hby at_7) rfl (by decide) (cap := 0) (by decide) (by decide) (by decide) (by decide)
    obtain ⟨a9, g10⟩ : ∃ z, z = h0.size := ⟨_, rfl⟩
    rw [← g10] at A7 st8
    have nw12 : n0 ≤ a9 := Nat.le_trans Z0 (Nat.le_of_eq g10.symm)
    have hr15 := CHr.ext E6 HV0
    have H13 := hr15.1
    have CH14 := CH0.trans hr15
    have Z16 := Nat.le_trans Z0 E6.1
    have hk17 := Nat.le_trans (Nat.zero_le _) E6.1
    have O18 := O0.ext E6
    have V11 : Arv Z h2 a9 kc3 .char (0 : Int32) [] (.int 0) := Arv.new A7 (by decide)
    refine Way.by st8 ?_
    show Way _ _ _ _ (T1.setTop (mkF m 9 #[iv p0, iv p1, iv p2, iv p3, iv 0, .unset, .unset, .unset, .unset] [(.ref a9)]))
    refine Way.by (fun _ k => XS.astore X4.here hx rfl (hb hby at_9) rfl rfl (l' := #[iv p0, iv p1, iv p2, iv p3, iv 0, rv a9, .unset, .unset, .unset]) rfl k) ?_
    show Way _ _ _ _ (T1.setTop (mkF m 11 #[iv p0, iv p1, iv p2, iv p3, iv 0, rv a9, .unset, .unset, .unset] []))
    refine Way.by (fun _ k => XS.iload X4.here hx rfl (hb hby at_11) rfl k) ?_
    show Way _ _ _ _ (T1.setTop (mkF m 13 #[iv p0, iv p1, iv p2, iv p3, iv 0, rv a9, .unset, .unset, .unset] [(.int 0)]))
    have b19 : ¬ (0 : Int32) < (0 : Int32) := by decide
    refine Way.by (fun _ k => XS.ifYes X4.here hx rfl (pc0 := 13) (pc' := 26) rfl (hb hby at_13) rfl ((if0 .le _).trans (flt b19).2.2.2) (by decide) (by decide) k) ?_
    show Way _ _ _ _ (T1.setTop (mkF m 26 #[iv p0, iv p1, iv p2, iv p3, iv 0, rv a9, .unset, .unset, .unset] []))
    refine Way.by (fun _ k => XS.iload X4.here hx rfl (hb hby at_26) rfl k) ?_
    refine Way.by (fun _ k => XS.iconst X4.here hx rfl (hb hby at_28) k) ?_
    show Way _ _ _ _ (T1.setTop (mkF m 29 #[iv p0, iv p1, iv p2, iv p3, iv 0, rv a9, .unset, .unset, .unset] [(.int 1), (.int 0)]))
    have b20 : ¬ (1 : Int32) < (0 : Int32) := by decide
    refine Way.by (fun _ k => XS.icmpYes X4.here hx rfl (pc0 := 29) (pc' := 42) rfl (hb hby at_29) rfl (flt b20).2.2.2 (by decide) (by decide) k) ?_
    show Way _ _ _ _ (T1.setTop (mkF m 42 #[iv p0, iv p1, iv p2, iv p3, iv 0, rv a9, .unset, .unset, .unset] []))
    refine Way.by (fun _ k => XS.iload X4.here hx rfl (hb hby at_42) rfl k) ?_
    refine Way.by (fun _ k => XS.iconst X4.here hx rfl (hb hby at_44) k) ?_
    show Way _ _ _ _ (T1.setTop (mkF m 45 #[iv p0, iv p1, iv p2, iv p3, iv 0, rv a9, .unset, .unset, .unset] [(.int 2), (.int 0)]))
    have b21 : ¬ (2 : Int32) < (0 : Int32) := by decide
    refine Way.by (fun _ k => XS.icmpYes X4.here hx rfl (pc0 := 45) (pc' := 58) rfl (hb hby at_45) rfl (flt b21).2.2.2 (by decide) (by decide) k) ?_
    show Way _ _ _ _ (T1.setTop (mkF m 58 #[iv p0, iv p1, iv p2, iv p3, iv 0, rv a9, .unset, .unset, .unset] []))
    obtain ⟨T22, h23, X24, e25, E26, A27, D28, -, st29⟩ := newO X4 hx hZ0 hown0 (tw hw 1 rfl) (tw hw 2 rfl) (tw hw 3 rfl) e5 (g := (mkF m 58 #[iv p0, iv p1, iv p2, iv p3, iv 0, rv a9, .unset, .unset, .unset] [])) rfl (hb hby at_58) (by decide) (by decide)
    obtain ⟨a30, g31⟩ : ∃ z, z = h2.size := ⟨_, rfl⟩
    rw [← g31] at A27 D28 st29
    have ne32 : a9 ≠ a30 := Nat.ne_of_lt (Nat.lt_of_lt_of_eq V11.lt g31.symm)
    have nw33 : n0 ≤ a30 := Nat.le_trans Z16 (Nat.le_of_eq g31.symm)
    have Sf34 : Safe Z own_EL s.vm h2 a30 := Safe.new (Nat.le_of_eq g31.symm)
    have hr37 := CHr.ext E26 H13
    have Sf38 := Safe.ext E26 H13 Sf34
    have H35 := hr37.1
    have CH36 := CH14.trans hr37
    have A39 := V11.ext E26
    have Z40 := Nat.le_trans Z16 E26.1
    have hk41 := Nat.le_trans hk17 E26.1
    have O42 := O18.ext E26
    have F43 : Fld Z h23 a30 "java/lang/String" "value" "[B" .null := D28 (Or.inr (tw hw 16 rfl)) (ty := (.array .byte)) (by decide)
    have F44 : Fld Z h23 a30 "java/lang/String" "coder" "B" (.int 0) := D28 (Or.inr (tw hw 17 rfl)) (ty := .byte) (by decide)
    refine Way.by st29 ?_
    show Way _ _ _ _ (T22.setTop (mkF m 61 #[iv p0, iv p1, iv p2, iv p3, iv 0, rv a9, .unset, .unset, .unset] [(.ref a30)]))
    try clear X4 e5 V11 H13 CH14 Z16 hk17 O18 E26 D28 st29 hr37
    try clear T1 h2
    refine Way.by (fun _ k => XS.dup X24.here hx rfl (hb hby at_61) rfl rfl k) ?_
    refine Way.by (fun _ k => XS.aload X24.here hx rfl (hb hby at_62) rfl rfl k) ?_
    show Way _ _ _ _ (T22.setTop (mkF m 64 #[iv p0, iv p1, iv p2, iv p3, iv 0, rv a9, .unset, .unset, .unset] [(.ref a9), (.ref a30), (.ref a30)]))
    obtain ⟨_, _, ⟨T45, L47, k48, n49⟩, -, X46, hS58, hg59, ⟨Lc50, hQ51, l52, y53, z54, hr60⟩, st55⟩ := X24.specialBackS hx (y := (⟨"java/lang/String", "<init>", "([C)V"⟩ : MethodName)) rfl hown0 (mvT hZ0 (tw hw 4 rfl)) (mvT hZ0 (tw hw 5 rfl)) (mvT hZ0 (tw hw 6 rfl)) (by decide) (backOfSH (W := 1) (rmN1 l Z a0 hw [] a30 a9 kc3 h23 n0 Z40 A27 F43 F44 A39 ne32 nw33) hZ0 (tw hw 6 rfl) (tw hw 3 rfl) (by decide) (by decide) hEL H35) (g := (mkF m 64 #[iv p0, iv p1, iv p2, iv p3, iv 0, rv a9, .unset, .unset, .unset] [(.ref a9), (.ref a30), (.ref a30)])) rfl (by rw [hml]; rfl) (Steps.refl _) (a := a30) (argsL := [(.ref a9)]) (rest := [(.ref a30)]) (lenOf pdN1 rfl) rfl (leW rfl) (hb hby at_64) (fun _ _ => ⟨rfl, e25, (leB rfl), (leB rfl)⟩)
    dsimp only [Pt.U, Pt.locs, Pt.cells, Pt.slots] at X46 l52 y53 z54 st55 hQ51 hS58 hg59 hr60
    subst y53 z54
    obtain ⟨X61, hS62, hZ63, hown64⟩ := rebS hS0 (by rw [e25]; exact hk41) X46 hS58 hg59 hZ0 hown0
    obtain ⟨x_pt68, rfl, N65, K66, F_067⟩ := hQ51
    have N56 : Fr n0 L47 := by rw [l52]; exact Fr.app N0 N65
    have Sf72 := CHr.safe hr60 A27.lt Sf38
    have H69 := hr60.1
    have CH70 := CH36.trans hr60
    have A73 := A39.keep K66 (ninS ne32 nin0)
    have E74 := A27.keep K66
    have Z75 := Nat.le_trans Z40 K66.1
    have O76 := O42.keep K66 (allS nw33 all0)
    refine Way.to st55 ?_
    show Way _ _ _ _ (T45.setTop (mkF m 67 #[iv p0, iv p1, iv p2, iv p3, iv 0, rv a9, .unset, .unset, .unset] [(.ref a30)]))
    try clear X24 e25 A27 H35 CH36 Sf38 A39 Z40 hk41 O42 F43 F44 X46 st55 hS58 hg59 hr60 N65 K66
    try clear T22 h23
    refine Way.by (fun _ k => XS.astore X61.here hx rfl (hb hby at_67) rfl rfl (l' := #[iv p0, iv p1, iv p2, iv p3, iv 0, rv a9, rv a30, .unset, .unset]) rfl k) ?_
    show Way _ _ _ _ (T45.setTop (mkF m 69 #[iv p0, iv p1, iv p2, iv p3, iv 0, rv a9, rv a30, .unset, .unset] []))
    refine Way.by (fun _ k => XS.aload X61.here hx rfl (hb hby at_69) rfl rfl k) ?_
    show Way _ _ _ _ (T45.setTop (mkF m 71 #[iv p0, iv p1, iv p2, iv p3, iv 0, rv a9, rv a30, .unset, .unset] [(.ref a30)]))
    have hb77 : ∀ c ∈ ([46, 115, 104, 97, 53, 49, 50] : List Int32), ¬ c < 0 ∧ ¬ (255 : Int32) < c := by intro c hc; simp only [List.mem_cons, List.not_mem_nil, or_false] at hc; rcases hc with rfl | rfl | rfl | rfl | rfl | rfl | rfl <;> first | decide | exact own_b255 _
    obtain ⟨_, _, ⟨T78, L80, k81, n82⟩, -, X79, hS91, hg92, ⟨Lc83, hQ84, l85, y86, z87, hr93⟩, st88⟩ := callSS X61 hx (y := (⟨"com/example/longhold/longhold/store/DigestFile", "nameFor", "(Ljava/lang/String;)Ljava/lang/String;"⟩ : MethodName)) hown64 (mvT hZ63 (tw hw 22 rfl)) (mvT hZ63 (tw hw 23 rfl)) (mvT hZ63 (tw hw 24 rfl)) (mvT hZ63 (tw hw 25 rfl)) (by decide) (backOfSH (W := 0) (rmNF0 l Z a0 hw [] a30 x_pt68 ud ul ult T45.heap n0 Z75 F_067 hb77 O76 SV SDG EDG FLB SLB) hZ63 (tw hw 25 rfl) (tw hw 24 rfl) (by decide) (by decide) hEL H69) (g := (mkF m 71 #[iv p0, iv p1, iv p2, iv p3, iv 0, rv a9, rv a30, .unset, .unset] [(.ref a30)])) rfl (by rw [hml]; rfl) (argsL := [(.ref a30)]) (rest := []) (lenOf pdNF0 rfl) rfl (leW rfl) (hb hby at_71) (fun _ _ => ⟨rfl, rfl, (leB rfl), (leB rfl)⟩)
    dsimp only [Pt.U, Pt.locs, Pt.cells, Pt.slots] at X79 l85 y86 z87 st88 hQ84 hS91 hg92 hr93
    subst y86 z87
    obtain ⟨X94, hS95, hZ96, hown97⟩ := rebS hS62 (by exact (Nat.le_refl _)) X79 hS91 hg92 hZ63 hown64
    obtain ⟨x_bx102, x_bt101, rfl, N98, K99, F_0100⟩ := hQ84
    have N89 : Fr n0 L80 := by rw [l85]; exact Fr.app N56 N98
    have Sf106 := CHr.safe hr93 E74.lt Sf72
    have H103 := hr93.1
    have CH104 := CH70.trans hr93
    have A107 := A73.keep K99 nin0
    have E108 := E74.keep K99
    have S109 := F_067.keep K99 nin0 nin0
    have Z110 := Nat.le_trans Z75 K99.1
    have O111 := O76.keep K99 all0
    refine Way.to st88 ?_
    show Way _ _ _ _ (T78.setTop (mkF m 74 #[iv p0, iv p1, iv p2, iv p3, iv 0, rv a9, rv a30, .unset, .unset] [(.ref x_bx102)]))
    try clear N56 X61 hS62 hZ63 hown64 F_067 H69 CH70 Sf72 A73 E74 Z75 O76 X79 st88 hS91 hg92 hr93 N98 K99
    try clear T45
    refine Way.by (fun _ k => XS.astore X94.here hx rfl (hb hby at_74) rfl rfl (l' := #[iv p0, iv p1, iv p2, iv p3, iv 0, rv a9, rv a30, rv x_bx102, .unset]) rfl k) ?_
    show Way _ _ _ _ (T78.setTop (mkF m 76 #[iv p0, iv p1, iv p2, iv p3, iv 0, rv a9, rv a30, rv x_bx102, .unset] []))
    refine Way.by (fun _ k => XS.aload X94.here hx rfl (hb hby at_76) rfl rfl k) ?_
    show Way _ _ _ _ (T78.setTop (mkF m 78 #[iv p0, iv p1, iv p2, iv p3, iv 0, rv a9, rv a30, rv x_bx102, .unset] [(.ref x_bx102)]))
    refine Way.by (fun _ k => XS.ifnullNo X94.here hx rfl (hb hby at_78) rfl k) ?_
    show Way _ _ _ _ (T78.setTop (mkF m 81 #[iv p0, iv p1, iv p2, iv p3, iv 0, rv a9, rv a30, rv x_bx102, .unset] []))
    refine Way.by (fun _ k => XS.aload X94.here hx rfl (hb hby at_81) rfl rfl k) ?_
    show Way _ _ _ _ (T78.setTop (mkF m 83 #[iv p0, iv p1, iv p2, iv p3, iv 0, rv a9, rv a30, rv x_bx102, .unset] [(.ref x_bx102)]))
    obtain ⟨cq128, kq129, qa130, qb131, qc132⟩ := isOf hZ96 rfl F_0100.1
    obtain ⟨_, _, ⟨T112, L114, k115, n116⟩, -, X113, ⟨Lc117, hQ118, l119, y120, z121⟩, st122⟩ := X94.virtualBack hx (y := (⟨"java/lang/String", "length", "()I"⟩ : MethodName)) (z := (⟨"java/lang/String", "length", "()I"⟩ : MethodName)) hown97 (mvT hZ96 (tw hw 149 rfl)) (mvT hZ96 (tw hw 55 rfl)) (notFace_of_selects (args := #[]) (mvT hZ96 (tw hw 57 rfl))) (mvT hZ96 (tw hw 57 rfl)) (mvT hZ96 (tw hw 56 rfl)) (by decide) (own_len (W := 0) (n0 := n0) hZ96 hw SV O111 (cs := [46, 115, 104, 97, 53, 49, 50]) F_0100 (by decide) (by decide)) qa130 qc132 (g := (mkF m 83 #[iv p0, iv p1, iv p2, iv p3, iv 0, rv a9, rv a30, rv x_bx102, .unset] [(.ref x_bx102)])) rfl (by rw [hml]; rfl) (Steps.refl _) (argsL := []) (rest := []) (lenOf own_pdLen rfl) rfl (leW rfl) (hb hby at_83) (fun _ _ => ⟨rfl, rfl, (leB rfl), (leB rfl)⟩)
    dsimp only [Pt.U, Pt.locs, Pt.cells, Pt.slots] at X113 l119 y120 z121 st122 hQ118
    subst y120 z121
    obtain ⟨rfl, N133, e124⟩ := hQ118
    have N123 : Fr n0 L114 := by rw [l119]; exact Fr.app N89 N133
    refine Way.to st122 ?_
    show Way _ _ _ _ (T112.setTop (mkF m 86 #[iv p0, iv p1, iv p2, iv p3, iv 0, rv a9, rv a30, rv x_bx102, .unset] [(.int 7)]))
    try clear N89 X94 st122 cq128 kq129 qa130 qb131 qc132 N133
    refine Way.by (fun _ k => XS.iload X113.here hx rfl (hb hby at_86) rfl k) ?_
    refine Way.by (fun _ k => XS.bipush X113.here hx rfl (hb hby at_88) k) ?_
    show Way _ _ _ _ (T112.setTop (mkF m 90 #[iv p0, iv p1, iv p2, iv p3, iv 0, rv a9, rv a30, rv x_bx102, .unset] [(.int 7), (.int 0), (.int 7)]))
    refine Way.by (fun _ k => XS.iadd X113.here hx rfl (hb hby at_90) rfl k) ?_
    show Way _ _ _ _ (T112.setTop (mkF m 91 #[iv p0, iv p1, iv p2, iv p3, iv 0, rv a9, rv a30, rv x_bx102, .unset] [(.int 7), (.int 7)]))
    have b135 : (7 : Int32) = (7 : Int32) := by decide
    refine Way.by (fun _ k => XS.icmpYes X113.here hx rfl (pc0 := 91) (pc' := 96) rfl (hb hby at_91) rfl (teq b135).1 (by decide) (by decide) k) ?_
    show Way _ _ _ _ (T112.setTop (mkF m 96 #[iv p0, iv p1, iv p2, iv p3, iv 0, rv a9, rv a30, rv x_bx102, .unset] []))
    refine Way.by (fun _ k => XS.iconst X113.here hx rfl (hb hby at_96) k) ?_
    show Way _ _ _ _ (T112.setTop (mkF m 97 #[iv p0, iv p1, iv p2, iv p3, iv 0, rv a9, rv a30, rv x_bx102, .unset] [(.int 1)]))
    refine Way.by (fun _ k => XS.istore X113.here hx rfl (hb hby at_97) rfl (l' := #[iv p0, iv p1, iv p2, iv p3, iv 0, rv a9, rv a30, rv x_bx102, iv 1]) rfl k) ?_
    show Way _ _ _ _ (T112.setTop (mkF m 99 #[iv p0, iv p1, iv p2, iv p3, iv 0, rv a9, rv a30, rv x_bx102, iv 1] []))
    refine Way.by (fun _ k => XS.iload X113.here hx rfl (hb hby at_99) rfl k) ?_
    show Way _ _ _ _ (T112.setTop (mkF m 101 #[iv p0, iv p1, iv p2, iv p3, iv 0, rv a9, rv a30, rv x_bx102, iv 1] [(.int 0)]))
    have b136 : ¬ (0 : Int32) < (0 : Int32) := by decide
    refine Way.by (fun _ k => XS.ifYes X113.here hx rfl (pc0 := 101) (pc' := 129) rfl (hb hby at_101) rfl ((if0 .le _).trans (flt b136).2.2.2) (by decide) (by decide) k) ?_
    show Way _ _ _ _ (T112.setTop (mkF m 129 #[iv p0, iv p1, iv p2, iv p3, iv 0, rv a9, rv a30, rv x_bx102, iv 1] []))
    refine Way.by (fun _ k => XS.iload X113.here hx rfl (hb hby at_129) rfl k) ?_
    refine Way.by (fun _ k => XS.iconst X113.here hx rfl (hb hby at_131) k) ?_
    show Way _ _ _ _ (T112.setTop (mkF m 132 #[iv p0, iv p1, iv p2, iv p3, iv 0, rv a9, rv a30, rv x_bx102, iv 1] [(.int 1), (.int 0)]))
    have b137 : ¬ (1 : Int32) < (0 : Int32) := by decide
    refine Way.by (fun _ k => XS.icmpYes X113.here hx rfl (pc0 := 132) (pc' := 160) rfl (hb hby at_132) rfl (flt b137).2.2.2 (by decide) (by decide) k) ?_
    show Way _ _ _ _ (T112.setTop (mkF m 160 #[iv p0, iv p1, iv p2, iv p3, iv 0, rv a9, rv a30, rv x_bx102, iv 1] []))
    refine Way.by (fun _ k => XS.iload X113.here hx rfl (hb hby at_160) rfl k) ?_
    refine Way.by (fun _ k => XS.iconst X113.here hx rfl (hb hby at_162) k) ?_
    show Way _ _ _ _ (T112.setTop (mkF m 163 #[iv p0, iv p1, iv p2, iv p3, iv 0, rv a9, rv a30, rv x_bx102, iv 1] [(.int 2), (.int 0)]))
    have b138 : ¬ (2 : Int32) < (0 : Int32) := by decide
    refine Way.by (fun _ k => XS.icmpYes X113.here hx rfl (pc0 := 163) (pc' := 191) rfl (hb hby at_163) rfl (flt b138).2.2.2 (by decide) (by decide) k) ?_
    show Way _ _ _ _ (T112.setTop (mkF m 191 #[iv p0, iv p1, iv p2, iv p3, iv 0, rv a9, rv a30, rv x_bx102, iv 1] []))
    refine Way.by (fun _ k => XS.iload X113.here hx rfl (hb hby at_191) rfl k) ?_
    show Way _ _ _ _ (T112.setTop (mkF m 193 #[iv p0, iv p1, iv p2, iv p3, iv 0, rv a9, rv a30, rv x_bx102, iv 1] [(.int 1)]))
    have b139 : ¬ (1 : Int32) = (0 : Int32) := by decide
    refine Way.by (fun _ k => XS.ifNo X113.here hx rfl (hb hby at_193) rfl ((if0 .eq _).trans (feq b139).1) k) ?_
    show Way _ _ _ _ (T112.setTop (mkF m 196 #[iv p0, iv p1, iv p2, iv p3, iv 0, rv a9, rv a30, rv x_bx102, iv 1] []))
    refine Way.by (fun _ k => XS.aload X113.here hx rfl (hb hby at_196) rfl rfl k) ?_
    refine Way.by (fun _ k => XS.iload X113.here hx rfl (hb hby at_198) rfl k) ?_
    show Way _ _ _ _ (T112.setTop (mkF m 200 #[iv p0, iv p1, iv p2, iv p3, iv 0, rv a9, rv a30, rv x_bx102, iv 1] [(.int 0), (.ref x_bx102)]))
    obtain ⟨cq156, kq157, qa158, qb159, qc160⟩ := isOf hZ96 e124 F_0100.1
    obtain ⟨_, _, ⟨T140, L142, k143, n144⟩, -, X141, ⟨Lc145, hQ146, l147, y148, z149⟩, st150⟩ := X113.virtualBack hx (y := (⟨"java/lang/String", "charAt", "(I)C"⟩ : MethodName)) (z := (⟨"java/lang/String", "charAt", "(I)C"⟩ : MethodName)) hown97 (mvT hZ96 (tw hw 150 rfl)) (mvT hZ96 (tw hw 151 rfl)) (notFace_of_selects (args := #[]) (mvT hZ96 (tw hw 153 rfl))) (mvT hZ96 (tw hw 153 rfl)) (mvT hZ96 (tw hw 152 rfl)) (by decide) (own_chr (W := 0) (n0 := n0) hZ96 hw SV O111 (cs := [46, 115, 104, 97, 53, 49, 50]) (i := 0) F_0100 (leB rfl) rfl (by decide) (by decide)) qa158 qc160 (g := (mkF m 200 #[iv p0, iv p1, iv p2, iv p3, iv 0, rv a9, rv a30, rv x_bx102, iv 1] [(.int 0), (.ref x_bx102)])) rfl (by rw [hml]; rfl) (Steps.refl _) (argsL := [(.int 0)]) (rest := []) (lenOf own_pdChr rfl) rfl (leW rfl) (hb hby at_200) (fun _ _ => ⟨rfl, e124, (leB rfl), (leB rfl)⟩)
    dsimp only [Pt.U, Pt.locs, Pt.cells, Pt.slots] at X141 l147 y148 z149 st150 hQ146
    subst y148 z149
    obtain ⟨rfl, N161, e152⟩ := hQ146
    have N151 : Fr n0 L142 := by rw [l147]; exact Fr.app N123 N161
    refine Way.to st150 ?_
    show Way _ _ _ _ (T140.setTop (mkF m 203 #[iv p0, iv p1, iv p2, iv p3, iv 0, rv a9, rv a30, rv x_bx102, iv 1] [(.int 46)]))
    try clear X113 N123 e124 st150 cq156 kq157 qa158 qb159 qc160 N161
    try clear T112
    refine Way.by (fun _ k => XS.bipush X141.here hx rfl (hb hby at_203) k) ?_
    show Way _ _ _ _ (T140.setTop (mkF m 205 #[iv p0, iv p1, iv p2, iv p3, iv 0, rv a9, rv a30, rv x_bx102, iv 1] [(.int 46), (.int 46)]))
    have b163 : (46 : Int32) = (46 : Int32) := by decide
    refine Way.by (fun _ k => XS.icmpNo X141.here hx rfl (hb hby at_205) rfl (teq b163).2 k) ?_
    show Way _ _ _ _ (T140.setTop (mkF m 208 #[iv p0, iv p1, iv p2, iv p3, iv 0, rv a9, rv a30, rv x_bx102, iv 1] []))
    refine Way.by (fun _ k => XS.iconst X141.here hx rfl (hb hby at_208) k) ?_
    show Way _ _ _ _ (T140.setTop (mkF m 209 #[iv p0, iv p1, iv p2, iv p3, iv 0, rv a9, rv a30, rv x_bx102, iv 1] [(.int 1)]))
    refine Way.by (fun _ k => XS.goto X141.here hx rfl (pc0 := 209) (pc' := 213) rfl (hb hby at_209) (by decide) (by decide) k) ?_
    show Way _ _ _ _ (T140.setTop (mkF m 213 #[iv p0, iv p1, iv p2, iv p3, iv 0, rv a9, rv a30, rv x_bx102, iv 1] [(.int 1)]))
    refine Way.by (fun _ k => XS.istore X141.here hx rfl (hb hby at_213) rfl (l' := #[iv p0, iv p1, iv p2, iv p3, iv 0, rv a9, rv a30, rv x_bx102, iv 1]) rfl k) ?_
    show Way _ _ _ _ (T140.setTop (mkF m 215 #[iv p0, iv p1, iv p2, iv p3, iv 0, rv a9, rv a30, rv x_bx102, iv 1] []))
    refine Way.by (fun _ k => XS.iload X141.here hx rfl (hb hby at_215) rfl k) ?_
    show Way _ _ _ _ (T140.setTop (mkF m 217 #[iv p0, iv p1, iv p2, iv p3, iv 0, rv a9, rv a30, rv x_bx102, iv 1] [(.int 1)]))
    have b164 : ¬ (1 : Int32) = (0 : Int32) := by decide
    refine Way.by (fun _ k => XS.ifNo X141.here hx rfl (hb hby at_217) rfl ((if0 .eq _).trans (feq b164).1) k) ?_
    show Way _ _ _ _ (T140.setTop (mkF m 220 #[iv p0, iv p1, iv p2, iv p3, iv 0, rv a9, rv a30, rv x_bx102, iv 1] []))
    refine Way.by (fun _ k => XS.aload X141.here hx rfl (hb hby at_220) rfl rfl k) ?_
    refine Way.by (fun _ k => XS.iload X141.here hx rfl (hb hby at_222) rfl k) ?_
    refine Way.by (fun _ k => XS.iconst X141.here hx rfl (hb hby at_224) k) ?_
    show Way _ _ _ _ (T140.setTop (mkF m 225 #[iv p0, iv p1, iv p2, iv p3, iv 0, rv a9, rv a30, rv x_bx102, iv 1] [(.int 1), (.int 0), (.ref x_bx102)]))
    refine Way.by (fun _ k => XS.iadd X141.here hx rfl (hb hby at_225) rfl k) ?_
    show Way _ _ _ _ (T140.setTop (mkF m 226 #[iv p0, iv p1, iv p2, iv p3, iv 0, rv a9, rv a30, rv x_bx102, iv 1] [(.int 1), (.ref x_bx102)]))
    obtain ⟨cq181, kq182, qa183, qb184, qc185⟩ := isOf hZ96 e152 F_0100.1
    obtain ⟨_, _, ⟨T165, L167, k168, n169⟩, -, X166, ⟨Lc170, hQ171, l172, y173, z174⟩, st175⟩ := X141.virtualBack hx (y := (⟨"java/lang/String", "charAt", "(I)C"⟩ : MethodName)) (z := (⟨"java/lang/String", "charAt", "(I)C"⟩ : MethodName)) hown97 (mvT hZ96 (tw hw 150 rfl)) (mvT hZ96 (tw hw 151 rfl)) (notFace_of_selects (args := #[]) (mvT hZ96 (tw hw 153 rfl))) (mvT hZ96 (tw hw 153 rfl)) (mvT hZ96 (tw hw 152 rfl)) (by decide) (own_chr (W := 0) (n0 := n0) hZ96 hw SV O111 (cs := [46, 115, 104, 97, 53, 49, 50]) (i := 1) F_0100 (leB rfl) rfl (by decide) (by decide)) qa183 qc185 (g := (mkF m 226 #[iv p0, iv p1, iv p2, iv p3, iv 0, rv a9, rv a30, rv x_bx102, iv 1] [(.int 1), (.ref x_bx102)])) rfl (by rw [hml]; rfl) (Steps.refl _) (argsL := [(.int 1)]) (rest := []) (lenOf own_pdChr rfl) rfl (leW rfl) (hb hby at_226) (fun _ _ => ⟨rfl, e152, (leB rfl), (leB rfl)⟩)
    dsimp only [Pt.U, Pt.locs, Pt.cells, Pt.slots] at X166 l172 y173 z174 st175 hQ171
    subst y173 z174
    obtain ⟨rfl, N186, e177⟩ := hQ171
    have N176 : Fr n0 L167 := by rw [l172]; exact Fr.app N151 N186
    refine Way.to st175 ?_
    show Way _ _ _ _ (T165.setTop (mkF m 229 #[iv p0, iv p1, iv p2, iv p3, iv 0, rv a9, rv a30, rv x_bx102, iv 1] [(.int 115)]))
    try clear X141 N151 e152 st175 cq181 kq182 qa183 qb184 qc185 N186
    try clear T140
    refine Way.by (fun _ k => XS.bipush X166.here hx rfl (hb hby at_229) k) ?_
    show Way _ _ _ _ (T165.setTop (mkF m 231 #[iv p0, iv p1, iv p2, iv p3, iv 0, rv a9, rv a30, rv x_bx102, iv 1] [(.int 115), (.int 115)]))
    have b188 : (115 : Int32) = (115 : Int32) := by decide
    refine Way.by (fun _ k => XS.icmpNo X166.here hx rfl (hb hby at_231) rfl (teq b188).2 k) ?_
    show Way _ _ _ _ (T165.setTop (mkF m 234 #[iv p0, iv p1, iv p2, iv p3, iv 0, rv a9, rv a30, rv x_bx102, iv 1] []))
    refine Way.by (fun _ k => XS.iconst X166.here hx rfl (hb hby at_234) k) ?_
    show Way _ _ _ _ (T165.setTop (mkF m 235 #[iv p0, iv p1, iv p2, iv p3, iv 0, rv a9, rv a30, rv x_bx102, iv 1] [(.int 1)]))
    refine Way.by (fun _ k => XS.goto X166.here hx rfl (pc0 := 235) (pc' := 239) rfl (hb hby at_235) (by decide) (by decide) k) ?_
    show Way _ _ _ _ (T165.setTop (mkF m 239 #[iv p0, iv p1, iv p2, iv p3, iv 0, rv a9, rv a30, rv x_bx102, iv 1] [(.int 1)]))
    refine Way.by (fun _ k => XS.istore X166.here hx rfl (hb hby at_239) rfl (l' := #[iv p0, iv p1, iv p2, iv p3, iv 0, rv a9, rv a30, rv x_bx102, iv 1]) rfl k) ?_
    show Way _ _ _ _ (T165.setTop (mkF m 241 #[iv p0, iv p1, iv p2, iv p3, iv 0, rv a9, rv a30, rv x_bx102, iv 1] []))
    refine Way.by (fun _ k => XS.iload X166.here hx rfl (hb hby at_241) rfl k) ?_
    show Way _ _ _ _ (T165.setTop (mkF m 243 #[iv p0, iv p1, iv p2, iv p3, iv 0, rv a9, rv a30, rv x_bx102, iv 1] [(.int 1)]))
    have b189 : ¬ (1 : Int32) = (0 : Int32) := by decide
    refine Way.by (fun _ k => XS.ifNo X166.here hx rfl (hb hby at_243) rfl ((if0 .eq _).trans (feq b189).1) k) ?_
    show Way _ _ _ _ (T165.setTop (mkF m 246 #[iv p0, iv p1, iv p2, iv p3, iv 0, rv a9, rv a30, rv x_bx102, iv 1] []))
    refine Way.by (fun _ k => XS.aload X166.here hx rfl (hb hby at_246) rfl rfl k) ?_
    refine Way.by (fun _ k => XS.iload X166.here hx rfl (hb hby at_248) rfl k) ?_
    refine Way.by (fun _ k => XS.iconst X166.here hx rfl (hb hby at_250) k) ?_
    show Way _ _ _ _ (T165.setTop (mkF m 251 #[iv p0, iv p1, iv p2, iv p3, iv 0, rv a9, rv a30, rv x_bx102, iv 1] [(.int 2), (.int 0), (.ref x_bx102)]))
    refine Way.by (fun _ k => XS.iadd X166.here hx rfl (hb hby at_251) rfl k) ?_
    show Way _ _ _ _ (T165.setTop (mkF m 252 #[iv p0, iv p1, iv p2, iv p3, iv 0, rv a9, rv a30, rv x_bx102, iv 1] [(.int 2), (.ref x_bx102)]))
    obtain ⟨cq206, kq207, qa208, qb209, qc210⟩ := isOf hZ96 e177 F_0100.1
    obtain ⟨_, _, ⟨T190, L192, k193, n194⟩, -, X191, ⟨Lc195, hQ196, l197, y198, z199⟩, st200⟩ := X166.virtualBack hx (y := (⟨"java/lang/String", "charAt", "(I)C"⟩ : MethodName)) (z := (⟨"java/lang/String", "charAt", "(I)C"⟩ : MethodName)) hown97 (mvT hZ96 (tw hw 150 rfl)) (mvT hZ96 (tw hw 151 rfl)) (notFace_of_selects (args := #[]) (mvT hZ96 (tw hw 153 rfl))) (mvT hZ96 (tw hw 153 rfl)) (mvT hZ96 (tw hw 152 rfl)) (by decide) (own_chr (W := 0) (n0 := n0) hZ96 hw SV O111 (cs := [46, 115, 104, 97, 53, 49, 50]) (i := 2) F_0100 (leB rfl) rfl (by decide) (by decide)) qa208 qc210 (g := (mkF m 252 #[iv p0, iv p1, iv p2, iv p3, iv 0, rv a9, rv a30, rv x_bx102, iv 1] [(.int 2), (.ref x_bx102)])) rfl (by rw [hml]; rfl) (Steps.refl _) (argsL := [(.int 2)]) (rest := []) (lenOf own_pdChr rfl) rfl (leW rfl) (hb hby at_252) (fun _ _ => ⟨rfl, e177, (leB rfl), (leB rfl)⟩)
    dsimp only [Pt.U, Pt.locs, Pt.cells, Pt.slots] at X191 l197 y198 z199 st200 hQ196
    subst y198 z199
    obtain ⟨rfl, N211, e202⟩ := hQ196
    have N201 : Fr n0 L192 := by rw [l197]; exact Fr.app N176 N211
    refine Way.to st200 ?_
    show Way _ _ _ _ (T190.setTop (mkF m 255 #[iv p0, iv p1, iv p2, iv p3, iv 0, rv a9, rv a30, rv x_bx102, iv 1] [(.int 104)]))
    try clear X166 N176 e177 st200 cq206 kq207 qa208 qb209 qc210 N211
    try clear T165
    refine Way.by (fun _ k => XS.bipush X191.here hx rfl (hb hby at_255) k) ?_
    show Way _ _ _ _ (T190.setTop (mkF m 257 #[iv p0, iv p1, iv p2, iv p3, iv 0, rv a9, rv a30, rv x_bx102, iv 1] [(.int 104), (.int 104)]))
    have b213 : (104 : Int32) = (104 : Int32) := by decide
    refine Way.by (fun _ k => XS.icmpNo X191.here hx rfl (hb hby at_257) rfl (teq b213).2 k) ?_
    show Way _ _ _ _ (T190.setTop (mkF m 260 #[iv p0, iv p1, iv p2, iv p3, iv 0, rv a9, rv a30, rv x_bx102, iv 1] []))
    refine Way.by (fun _ k => XS.iconst X191.here hx rfl (hb hby at_260) k) ?_
    show Way _ _ _ _ (T190.setTop (mkF m 261 #[iv p0, iv p1, iv p2, iv p3, iv 0, rv a9, rv a30, rv x_bx102, iv 1] [(.int 1)]))
    refine Way.by (fun _ k => XS.goto X191.here hx rfl (pc0 := 261) (pc' := 265) rfl (hb hby at_261) (by decide) (by decide) k) ?_
    show Way _ _ _ _ (T190.setTop (mkF m 265 #[iv p0, iv p1, iv p2, iv p3, iv 0, rv a9, rv a30, rv x_bx102, iv 1] [(.int 1)]))
    refine Way.by (fun _ k => XS.istore X191.here hx rfl (hb hby at_265) rfl (l' := #[iv p0, iv p1, iv p2, iv p3, iv 0, rv a9, rv a30, rv x_bx102, iv 1]) rfl k) ?_
    show Way _ _ _ _ (T190.setTop (mkF m 267 #[iv p0, iv p1, iv p2, iv p3, iv 0, rv a9, rv a30, rv x_bx102, iv 1] []))
    refine Way.by (fun _ k => XS.iload X191.here hx rfl (hb hby at_267) rfl k) ?_
    show Way _ _ _ _ (T190.setTop (mkF m 269 #[iv p0, iv p1, iv p2, iv p3, iv 0, rv a9, rv a30, rv x_bx102, iv 1] [(.int 1)]))
    have b214 : ¬ (1 : Int32) = (0 : Int32) := by decide
    refine Way.by (fun _ k => XS.ifNo X191.here hx rfl (hb hby at_269) rfl ((if0 .eq _).trans (feq b214).1) k) ?_
    show Way _ _ _ _ (T190.setTop (mkF m 272 #[iv p0, iv p1, iv p2, iv p3, iv 0, rv a9, rv a30, rv x_bx102, iv 1] []))
    refine Way.by (fun _ k => XS.aload X191.here hx rfl (hb hby at_272) rfl rfl k) ?_
    refine Way.by (fun _ k => XS.iload X191.here hx rfl (hb hby at_274) rfl k) ?_
    refine Way.by (fun _ k => XS.iconst X191.here hx rfl (hb hby at_276) k) ?_
    show Way _ _ _ _ (T190.setTop (mkF m 277 #[iv p0, iv p1, iv p2, iv p3, iv 0, rv a9, rv a30, rv x_bx102, iv 1] [(.int 3), (.int 0), (.ref x_bx102)]))
    refine Way.by (fun _ k => XS.iadd X191.here hx rfl (hb hby at_277) rfl k) ?_
    show Way _ _ _ _ (T190.setTop (mkF m 278 #[iv p0, iv p1, iv p2, iv p3, iv 0, rv a9, rv a30, rv x_bx102, iv 1] [(.int 3), (.ref x_bx102)]))
    obtain ⟨cq231, kq232, qa233, qb234, qc235⟩ := isOf hZ96 e202 F_0100.1
    obtain ⟨_, _, ⟨T215, L217, k218, n219⟩, -, X216, ⟨Lc220, hQ221, l222, y223, z224⟩, st225⟩ := X191.virtualBack hx (y := (⟨"java/lang/String", "charAt", "(I)C"⟩ : MethodName)) (z := (⟨"java/lang/String", "charAt", "(I)C"⟩ : MethodName)) hown97 (mvT hZ96 (tw hw 150 rfl)) (mvT hZ96 (tw hw 151 rfl)) (notFace_of_selects (args := #[]) (mvT hZ96 (tw hw 153 rfl))) (mvT hZ96 (tw hw 153 rfl)) (mvT hZ96 (tw hw 152 rfl)) (by decide) (own_chr (W := 0) (n0 := n0) hZ96 hw SV O111 (cs := [46, 115, 104, 97, 53, 49, 50]) (i := 3) F_0100 (leB rfl) rfl (by decide) (by decide)) qa233 qc235 (g := (mkF m 278 #[iv p0, iv p1, iv p2, iv p3, iv 0, rv a9, rv a30, rv x_bx102, iv 1] [(.int 3), (.ref x_bx102)])) rfl (by rw [hml]; rfl) (Steps.refl _) (argsL := [(.int 3)]) (rest := []) (lenOf own_pdChr rfl) rfl (leW rfl) (hb hby at_278) (fun _ _ => ⟨rfl, e202, (leB rfl), (leB rfl)⟩)
    dsimp only [Pt.U, Pt.locs, Pt.cells, Pt.slots] at X216 l222 y223 z224 st225 hQ221
    subst y223 z224
    obtain ⟨rfl, N236, e227⟩ := hQ221
    have N226 : Fr n0 L217 := by rw [l222]; exact Fr.app N201 N236
    refine Way.to st225 ?_
    show Way _ _ _ _ (T215.setTop (mkF m 281 #[iv p0, iv p1, iv p2, iv p3, iv 0, rv a9, rv a30, rv x_bx102, iv 1] [(.int 97)]))
    try clear X191 N201 e202 st225 cq231 kq232 qa233 qb234 qc235 N236
    try clear T190
    refine Way.by (fun _ k => XS.bipush X216.here hx rfl (hb hby at_281) k) ?_
    show Way _ _ _ _ (T215.setTop (mkF m 283 #[iv p0, iv p1, iv p2, iv p3, iv 0, rv a9, rv a30, rv x_bx102, iv 1] [(.int 97), (.int 97)]))
    have b238 : (97 : Int32) = (97 : Int32) := by decide
    refine Way.by (fun _ k => XS.icmpNo X216.here hx rfl (hb hby at_283) rfl (teq b238).2 k) ?_
    show Way _ _ _ _ (T215.setTop (mkF m 286 #[iv p0, iv p1, iv p2, iv p3, iv 0, rv a9, rv a30, rv x_bx102, iv 1] []))
    refine Way.by (fun _ k => XS.iconst X216.here hx rfl (hb hby at_286) k) ?_
    show Way _ _ _ _ (T215.setTop (mkF m 287 #[iv p0, iv p1, iv p2, iv p3, iv 0, rv a9, rv a30, rv x_bx102, iv 1] [(.int 1)]))
    refine Way.by (fun _ k => XS.goto X216.here hx rfl (pc0 := 287) (pc' := 291) rfl (hb hby at_287) (by decide) (by decide) k) ?_
    show Way _ _ _ _ (T215.setTop (mkF m 291 #[iv p0, iv p1, iv p2, iv p3, iv 0, rv a9, rv a30, rv x_bx102, iv 1] [(.int 1)]))
    refine Way.by (fun _ k => XS.istore X216.here hx rfl (hb hby at_291) rfl (l' := #[iv p0, iv p1, iv p2, iv p3, iv 0, rv a9, rv a30, rv x_bx102, iv 1]) rfl k) ?_
    show Way _ _ _ _ (T215.setTop (mkF m 293 #[iv p0, iv p1, iv p2, iv p3, iv 0, rv a9, rv a30, rv x_bx102, iv 1] []))
    refine Way.by (fun _ k => XS.iload X216.here hx rfl (hb hby at_293) rfl k) ?_
    show Way _ _ _ _ (T215.setTop (mkF m 295 #[iv p0, iv p1, iv p2, iv p3, iv 0, rv a9, rv a30, rv x_bx102, iv 1] [(.int 1)]))
    have b239 : ¬ (1 : Int32) = (0 : Int32) := by decide
    refine Way.by (fun _ k => XS.ifNo X216.here hx rfl (hb hby at_295) rfl ((if0 .eq _).trans (feq b239).1) k) ?_
    show Way _ _ _ _ (T215.setTop (mkF m 298 #[iv p0, iv p1, iv p2, iv p3, iv 0, rv a9, rv a30, rv x_bx102, iv 1] []))
    refine Way.by (fun _ k => XS.aload X216.here hx rfl (hb hby at_298) rfl rfl k) ?_
    refine Way.by (fun _ k => XS.iload X216.here hx rfl (hb hby at_300) rfl k) ?_
    refine Way.by (fun _ k => XS.iconst X216.here hx rfl (hb hby at_302) k) ?_
    show Way _ _ _ _ (T215.setTop (mkF m 303 #[iv p0, iv p1, iv p2, iv p3, iv 0, rv a9, rv a30, rv x_bx102, iv 1] [(.int 4), (.int 0), (.ref x_bx102)]))
    refine Way.by (fun _ k => XS.iadd X216.here hx rfl (hb hby at_303) rfl k) ?_
    show Way _ _ _ _ (T215.setTop (mkF m 304 #[iv p0, iv p1, iv p2, iv p3, iv 0, rv a9, rv a30, rv x_bx102, iv 1] [(.int 4), (.ref x_bx102)]))
    obtain ⟨cq256, kq257, qa258, qb259, qc260⟩ := isOf hZ96 e227 F_0100.1
    obtain ⟨_, _, ⟨T240, L242, k243, n244⟩, -, X241, ⟨Lc245, hQ246, l247, y248, z249⟩, st250⟩ := X216.virtualBack hx (y := (⟨"java/lang/String", "charAt", "(I)C"⟩ : MethodName)) (z := (⟨"java/lang/String", "charAt", "(I)C"⟩ : MethodName)) hown97 (mvT hZ96 (tw hw 150 rfl)) (mvT hZ96 (tw hw 151 rfl)) (notFace_of_selects (args := #[]) (mvT hZ96 (tw hw 153 rfl))) (mvT hZ96 (tw hw 153 rfl)) (mvT hZ96 (tw hw 152 rfl)) (by decide) (own_chr (W := 0) (n0 := n0) hZ96 hw SV O111 (cs := [46, 115, 104, 97, 53, 49, 50]) (i := 4) F_0100 (leB rfl) rfl (by decide) (by decide)) qa258 qc260 (g := (mkF m 304 #[iv p0, iv p1, iv p2, iv p3, iv 0, rv a9, rv a30, rv x_bx102, iv 1] [(.int 4), (.ref x_bx102)])) rfl (by rw [hml]; rfl) (Steps.refl _) (argsL := [(.int 4)]) (rest := []) (lenOf own_pdChr rfl) rfl (leW rfl) (hb hby at_304) (fun _ _ => ⟨rfl, e227, (leB rfl), (leB rfl)⟩)
    dsimp only [Pt.U, Pt.locs, Pt.cells, Pt.slots] at X241 l247 y248 z249 st250 hQ246
    subst y248 z249
    obtain ⟨rfl, N261, e252⟩ := hQ246
    have N251 : Fr n0 L242 := by rw [l247]; exact Fr.app N226 N261
    refine Way.to st250 ?_
    show Way _ _ _ _ (T240.setTop (mkF m 307 #[iv p0, iv p1, iv p2, iv p3, iv 0, rv a9, rv a30, rv x_bx102, iv 1] [(.int 53)]))
    try clear X216 N226 e227 st250 cq256 kq257 qa258 qb259 qc260 N261
    try clear T215
    refine Way.by (fun _ k => XS.bipush X241.here hx rfl (hb hby at_307) k) ?_
    show Way _ _ _ _ (T240.setTop (mkF m 309 #[iv p0, iv p1, iv p2, iv p3, iv 0, rv a9, rv a30, rv x_bx102, iv 1] [(.int 53), (.int 53)]))
    have b263 : (53 : Int32) = (53 : Int32) := by decide
    refine Way.by (fun _ k => XS.icmpNo X241.here hx rfl (hb hby at_309) rfl (teq b263).2 k) ?_
    show Way _ _ _ _ (T240.setTop (mkF m 312 #[iv p0, iv p1, iv p2, iv p3, iv 0, rv a9, rv a30, rv x_bx102, iv 1] []))
    refine Way.by (fun _ k => XS.iconst X241.here hx rfl (hb hby at_312) k) ?_
    show Way _ _ _ _ (T240.setTop (mkF m 313 #[iv p0, iv p1, iv p2, iv p3, iv 0, rv a9, rv a30, rv x_bx102, iv 1] [(.int 1)]))
    refine Way.by (fun _ k => XS.goto X241.here hx rfl (pc0 := 313) (pc' := 317) rfl (hb hby at_313) (by decide) (by decide) k) ?_
    show Way _ _ _ _ (T240.setTop (mkF m 317 #[iv p0, iv p1, iv p2, iv p3, iv 0, rv a9, rv a30, rv x_bx102, iv 1] [(.int 1)]))
    refine Way.by (fun _ k => XS.istore X241.here hx rfl (hb hby at_317) rfl (l' := #[iv p0, iv p1, iv p2, iv p3, iv 0, rv a9, rv a30, rv x_bx102, iv 1]) rfl k) ?_
    show Way _ _ _ _ (T240.setTop (mkF m 319 #[iv p0, iv p1, iv p2, iv p3, iv 0, rv a9, rv a30, rv x_bx102, iv 1] []))
    refine Way.by (fun _ k => XS.iload X241.here hx rfl (hb hby at_319) rfl k) ?_
    show Way _ _ _ _ (T240.setTop (mkF m 321 #[iv p0, iv p1, iv p2, iv p3, iv 0, rv a9, rv a30, rv x_bx102, iv 1] [(.int 1)]))
    have b264 : ¬ (1 : Int32) = (0 : Int32) := by decide
    refine Way.by (fun _ k => XS.ifNo X241.here hx rfl (hb hby at_321) rfl ((if0 .eq _).trans (feq b264).1) k) ?_
    show Way _ _ _ _ (T240.setTop (mkF m 324 #[iv p0, iv p1, iv p2, iv p3, iv 0, rv a9, rv a30, rv x_bx102, iv 1] []))
    refine Way.by (fun _ k => XS.aload X241.here hx rfl (hb hby at_324) rfl rfl k) ?_
    refine Way.by (fun _ k => XS.iload X241.here hx rfl (hb hby at_326) rfl k) ?_
    refine Way.by (fun _ k => XS.iconst X241.here hx rfl (hb hby at_328) k) ?_
    show Way _ _ _ _ (T240.setTop (mkF m 329 #[iv p0, iv p1, iv p2, iv p3, iv 0, rv a9, rv a30, rv x_bx102, iv 1] [(.int 5), (.int 0), (.ref x_bx102)]))
    refine Way.by (fun _ k => XS.iadd X241.here hx rfl (hb hby at_329) rfl k) ?_
    show Way _ _ _ _ (T240.setTop (mkF m 330 #[iv p0, iv p1, iv p2, iv p3, iv 0, rv a9, rv a30, rv x_bx102, iv 1] [(.int 5), (.ref x_bx102)]))
    obtain ⟨cq281, kq282, qa283, qb284, qc285⟩ := isOf hZ96 e252 F_0100.1
    obtain ⟨_, _, ⟨T265, L267, k268, n269⟩, -, X266, ⟨Lc270, hQ271, l272, y273, z274⟩, st275⟩ := X241.virtualBack hx (y := (⟨"java/lang/String", "charAt", "(I)C"⟩ : MethodName)) (z := (⟨"java/lang/String", "charAt", "(I)C"⟩ : MethodName)) hown97 (mvT hZ96 (tw hw 150 rfl)) (mvT hZ96 (tw hw 151 rfl)) (notFace_of_selects (args := #[]) (mvT hZ96 (tw hw 153 rfl))) (mvT hZ96 (tw hw 153 rfl)) (mvT hZ96 (tw hw 152 rfl)) (by decide) (own_chr (W := 0) (n0 := n0) hZ96 hw SV O111 (cs := [46, 115, 104, 97, 53, 49, 50]) (i := 5) F_0100 (leB rfl) rfl (by decide) (by decide)) qa283 qc285 (g := (mkF m 330 #[iv p0, iv p1, iv p2, iv p3, iv 0, rv a9, rv a30, rv x_bx102, iv 1] [(.int 5), (.ref x_bx102)])) rfl (by rw [hml]; rfl) (Steps.refl _) (argsL := [(.int 5)]) (rest := []) (lenOf own_pdChr rfl) rfl (leW rfl) (hb hby at_330) (fun _ _ => ⟨rfl, e252, (leB rfl), (leB rfl)⟩)
    dsimp only [Pt.U, Pt.locs, Pt.cells, Pt.slots] at X266 l272 y273 z274 st275 hQ271
    subst y273 z274
    obtain ⟨rfl, N286, e277⟩ := hQ271
    have N276 : Fr n0 L267 := by rw [l272]; exact Fr.app N251 N286
    refine Way.to st275 ?_
    show Way _ _ _ _ (T265.setTop (mkF m 333 #[iv p0, iv p1, iv p2, iv p3, iv 0, rv a9, rv a30, rv x_bx102, iv 1] [(.int 49)]))
    try clear X241 N251 e252 st275 cq281 kq282 qa283 qb284 qc285 N286
    try clear T240
    refine Way.by (fun _ k => XS.bipush X266.here hx rfl (hb hby at_333) k) ?_
    show Way _ _ _ _ (T265.setTop (mkF m 335 #[iv p0, iv p1, iv p2, iv p3, iv 0, rv a9, rv a30, rv x_bx102, iv 1] [(.int 49), (.int 49)]))
    have b288 : (49 : Int32) = (49 : Int32) := by decide
    refine Way.by (fun _ k => XS.icmpNo X266.here hx rfl (hb hby at_335) rfl (teq b288).2 k) ?_
    show Way _ _ _ _ (T265.setTop (mkF m 338 #[iv p0, iv p1, iv p2, iv p3, iv 0, rv a9, rv a30, rv x_bx102, iv 1] []))
    refine Way.by (fun _ k => XS.iconst X266.here hx rfl (hb hby at_338) k) ?_
    show Way _ _ _ _ (T265.setTop (mkF m 339 #[iv p0, iv p1, iv p2, iv p3, iv 0, rv a9, rv a30, rv x_bx102, iv 1] [(.int 1)]))
    refine Way.by (fun _ k => XS.goto X266.here hx rfl (pc0 := 339) (pc' := 343) rfl (hb hby at_339) (by decide) (by decide) k) ?_
    show Way _ _ _ _ (T265.setTop (mkF m 343 #[iv p0, iv p1, iv p2, iv p3, iv 0, rv a9, rv a30, rv x_bx102, iv 1] [(.int 1)]))
    refine Way.by (fun _ k => XS.istore X266.here hx rfl (hb hby at_343) rfl (l' := #[iv p0, iv p1, iv p2, iv p3, iv 0, rv a9, rv a30, rv x_bx102, iv 1]) rfl k) ?_
    show Way _ _ _ _ (T265.setTop (mkF m 345 #[iv p0, iv p1, iv p2, iv p3, iv 0, rv a9, rv a30, rv x_bx102, iv 1] []))
    refine Way.by (fun _ k => XS.iload X266.here hx rfl (hb hby at_345) rfl k) ?_
    show Way _ _ _ _ (T265.setTop (mkF m 347 #[iv p0, iv p1, iv p2, iv p3, iv 0, rv a9, rv a30, rv x_bx102, iv 1] [(.int 1)]))
    have b289 : ¬ (1 : Int32) = (0 : Int32) := by decide
    refine Way.by (fun _ k => XS.ifNo X266.here hx rfl (hb hby at_347) rfl ((if0 .eq _).trans (feq b289).1) k) ?_
    show Way _ _ _ _ (T265.setTop (mkF m 350 #[iv p0, iv p1, iv p2, iv p3, iv 0, rv a9, rv a30, rv x_bx102, iv 1] []))
    refine Way.by (fun _ k => XS.aload X266.here hx rfl (hb hby at_350) rfl rfl k) ?_
    refine Way.by (fun _ k => XS.iload X266.here hx rfl (hb hby at_352) rfl k) ?_
    refine Way.by (fun _ k => XS.bipush X266.here hx rfl (hb hby at_354) k) ?_
    show Way _ _ _ _ (T265.setTop (mkF m 356 #[iv p0, iv p1, iv p2, iv p3, iv 0, rv a9, rv a30, rv x_bx102, iv 1] [(.int 6), (.int 0), (.ref x_bx102)]))
    refine Way.by (fun _ k => XS.iadd X266.here hx rfl (hb hby at_356) rfl k) ?_
    show Way _ _ _ _ (T265.setTop (mkF m 357 #[iv p0, iv p1, iv p2, iv p3, iv 0, rv a9, rv a30, rv x_bx102, iv 1] [(.int 6), (.ref x_bx102)]))
    obtain ⟨cq306, kq307, qa308, qb309, qc310⟩ := isOf hZ96 e277 F_0100.1
    obtain ⟨_, _, ⟨T290, L292, k293, n294⟩, -, X291, ⟨Lc295, hQ296, l297, y298, z299⟩, st300⟩ := X266.virtualBack hx (y := (⟨"java/lang/String", "charAt", "(I)C"⟩ : MethodName)) (z := (⟨"java/lang/String", "charAt", "(I)C"⟩ : MethodName)) hown97 (mvT hZ96 (tw hw 150 rfl)) (mvT hZ96 (tw hw 151 rfl)) (notFace_of_selects (args := #[]) (mvT hZ96 (tw hw 153 rfl))) (mvT hZ96 (tw hw 153 rfl)) (mvT hZ96 (tw hw 152 rfl)) (by decide) (own_chr (W := 0) (n0 := n0) hZ96 hw SV O111 (cs := [46, 115, 104, 97, 53, 49, 50]) (i := 6) F_0100 (leB rfl) rfl (by decide) (by decide)) qa308 qc310 (g := (mkF m 357 #[iv p0, iv p1, iv p2, iv p3, iv 0, rv a9, rv a30, rv x_bx102, iv 1] [(.int 6), (.ref x_bx102)])) rfl (by rw [hml]; rfl) (Steps.refl _) (argsL := [(.int 6)]) (rest := []) (lenOf own_pdChr rfl) rfl (leW rfl) (hb hby at_357) (fun _ _ => ⟨rfl, e277, (leB rfl), (leB rfl)⟩)
    dsimp only [Pt.U, Pt.locs, Pt.cells, Pt.slots] at X291 l297 y298 z299 st300 hQ296
    subst y298 z299
    obtain ⟨rfl, N311, e302⟩ := hQ296
    have N301 : Fr n0 L292 := by rw [l297]; exact Fr.app N276 N311
    refine Way.to st300 ?_
    show Way _ _ _ _ (T290.setTop (mkF m 360 #[iv p0, iv p1, iv p2, iv p3, iv 0, rv a9, rv a30, rv x_bx102, iv 1] [(.int 50)]))
    try clear X266 N276 e277 st300 cq306 kq307 qa308 qb309 qc310 N311
    try clear T265
    refine Way.by (fun _ k => XS.bipush X291.here hx rfl (hb hby at_360) k) ?_
    show Way _ _ _ _ (T290.setTop (mkF m 362 #[iv p0, iv p1, iv p2, iv p3, iv 0, rv a9, rv a30, rv x_bx102, iv 1] [(.int 50), (.int 50)]))
    have b313 : (50 : Int32) = (50 : Int32) := by decide
    refine Way.by (fun _ k => XS.icmpNo X291.here hx rfl (hb hby at_362) rfl (teq b313).2 k) ?_
    show Way _ _ _ _ (T290.setTop (mkF m 365 #[iv p0, iv p1, iv p2, iv p3, iv 0, rv a9, rv a30, rv x_bx102, iv 1] []))
    refine Way.by (fun _ k => XS.iconst X291.here hx rfl (hb hby at_365) k) ?_
    show Way _ _ _ _ (T290.setTop (mkF m 366 #[iv p0, iv p1, iv p2, iv p3, iv 0, rv a9, rv a30, rv x_bx102, iv 1] [(.int 1)]))
    refine Way.by (fun _ k => XS.goto X291.here hx rfl (pc0 := 366) (pc' := 370) rfl (hb hby at_366) (by decide) (by decide) k) ?_
    show Way _ _ _ _ (T290.setTop (mkF m 370 #[iv p0, iv p1, iv p2, iv p3, iv 0, rv a9, rv a30, rv x_bx102, iv 1] [(.int 1)]))
    refine Way.by (fun _ k => XS.istore X291.here hx rfl (hb hby at_370) rfl (l' := #[iv p0, iv p1, iv p2, iv p3, iv 0, rv a9, rv a30, rv x_bx102, iv 1]) rfl k) ?_
    show Way _ _ _ _ (T290.setTop (mkF m 372 #[iv p0, iv p1, iv p2, iv p3, iv 0, rv a9, rv a30, rv x_bx102, iv 1] []))
    refine Way.by (fun _ k => XS.iload X291.here hx rfl (hb hby at_372) rfl k) ?_
    show Way _ _ _ _ (T290.setTop (mkF m 374 #[iv p0, iv p1, iv p2, iv p3, iv 0, rv a9, rv a30, rv x_bx102, iv 1] [(.int 1)]))
    refine Way.retH (v := (some (.int (nar .boolean (1 : Int32))))) X291 hS95 (by rw [e302]; exact (Nat.le_refl _)) hZ96 hEL hh e302 H103 CH104 hlk (fun h => by rw [Bd.returns] at h; cases h) (fun fs hr => retN X291 hx (t := .boolean) Bd.returns (by simp) (hb hby at_374) hr) ?_ (by decide) (by decide)
    show Q0 n0 _ T290.heap _
    rw [e302]
    exact ⟨rfl, N301⟩
  · skip
    show Way _ _ _ _ (s₁.setTop (mkF m 5 #[iv p0, iv p1, iv p2, iv p3, iv 1, .unset, .unset, .unset, .unset] []))
    refine Way.by (fun _ k => XS.iload XW.here hx rfl (hb hby at_5) rfl k) ?_
    show Way _ _ _ _ (s₁.setTop (mkF m 7 #[iv p0, iv p1, iv p2, iv p3, iv 1, .unset, .unset, .unset, .unset] [(.int 1)]))
    obtain ⟨T314, h315, kc316, X317, e318, E319, A320, st321⟩ := newP XW hx hZ0 (tw hw 0 rfl) e0 (g := (mkF m 7 #[iv p0, iv p1, iv p2, iv p3, iv 1, .unset, .unset, .unset, .unset] [(.int 1)])) rfl (hb hby at_7) rfl (by decide) (cap := 1) (by decide) (by decide) (by decide) (by decide)
    obtain ⟨a322, g323⟩ : ∃ z, z = h0.size := ⟨_, rfl⟩
    rw [← g323] at A320 st321
    have nw325 : n0 ≤ a322 := Nat.le_trans Z0 (Nat.le_of_eq g323.symm)
    have hr328 := CHr.ext E319 HV0
    have H326 := hr328.1
    have CH327 := CH0.trans hr328
    have Z329 := Nat.le_trans Z0 E319.1
    have hk330 := Nat.le_trans (Nat.zero_le _) E319.1
    have O331 := O0.ext E319
    have V324 : Arv Z h315 a322 kc316 .char (1 : Int32) [] (.int 0) := Arv.new A320 (by decide)
    refine Way.by st321 ?_
    show Way _ _ _ _ (T314.setTop (mkF m 9 #[iv p0, iv p1, iv p2, iv p3, iv 1, .unset, .unset, .unset, .unset] [(.ref a322)]))
    refine Way.by (fun _ k => XS.astore X317.here hx rfl (hb hby at_9) rfl rfl (l' := #[iv p0, iv p1, iv p2, iv p3, iv 1, rv a322, .unset, .unset, .unset]) rfl k) ?_
    show Way _ _ _ _ (T314.setTop (mkF m 11 #[iv p0, iv p1, iv p2, iv p3, iv 1, rv a322, .unset, .unset, .unset] []))
    refine Way.by (fun _ k => XS.iload X317.here hx rfl (hb hby at_11) rfl k) ?_
    show Way _ _ _ _ (T314.setTop (mkF m 13 #[iv p0, iv p1, iv p2, iv p3, iv 1, rv a322, .unset, .unset, .unset] [(.int 1)]))
    have b332 : (0 : Int32) < (1 : Int32) := by decide
    refine Way.by (fun _ k => XS.ifNo X317.here hx rfl (hb hby at_13) rfl ((if0 .le _).trans (tlt b332).2.2.2) k) ?_
    show Way _ _ _ _ (T314.setTop (mkF m 16 #[iv p0, iv p1, iv p2, iv p3, iv 1, rv a322, .unset, .unset, .unset] []))
    refine Way.by (fun _ k => XS.aload X317.here hx rfl (hb hby at_16) rfl rfl k) ?_
    refine Way.by (fun _ k => XS.iconst X317.here hx rfl (hb hby at_18) k) ?_
    refine Way.by (fun _ k => XS.iloadN X317.here hx rfl (hb hby at_19) rfl k) ?_
    show Way _ _ _ _ (T314.setTop (mkF m 20 #[iv p0, iv p1, iv p2, iv p3, iv 1, rv a322, .unset, .unset, .unset] [(.int p1), (.int 0), (.ref a322)]))
    refine Way.by (fun _ k => XS.sipush X317.here hx rfl (hb hby at_20) k) ?_
    show Way _ _ _ _ (T314.setTop (mkF m 23 #[iv p0, iv p1, iv p2, iv p3, iv 1, rv a322, .unset, .unset, .unset] [(.int 255), (.int p1), (.int 0), (.ref a322)]))
    refine Way.by (fun _ k => XS.iand X317.here hx rfl (hb hby at_23) rfl k) ?_
    show Way _ _ _ _ (T314.setTop (mkF m 24 #[iv p0, iv p1, iv p2, iv p3, iv 1, rv a322, .unset, .unset, .unset] [(.int (p1 &&& (255 : Int32))), (.int 0), (.ref a322)]))
    refine Way.by (fun _ k => XT.i2c X317.here hx rfl (hb hby at_24) rfl k) ?_
    show Way _ _ _ _ (T314.setTop (mkF m 25 #[iv p0, iv p1, iv p2, iv p3, iv 1, rv a322, .unset, .unset, .unset] [(.int (p1 &&& (255 : Int32)).toUInt32.toUInt16.toUInt32.toInt32), (.int 0), (.ref a322)]))
    have V333 : Arv Z h315 a322 kc316 .char (1 : Int32) [(.int 0)] (.int 0) := V324.pad (pad_rep [] (.int 0) 1)
    obtain ⟨c334, A335, q336, S337, M338, H339, U340⟩ := id V333
    obtain ⟨T341, h342, X343, e344, W345, st346⟩ := stC X317 hx hZ0 e318 A335 (j := (0 : Int32)) (inb_of S337 ⟨(by decide), (by decide)⟩) (g := (mkF m 25 #[iv p0, iv p1, iv p2, iv p3, iv 1, rv a322, .unset, .unset, .unset] [(.int (p1 &&& (255 : Int32)).toUInt32.toUInt16.toUInt32.toInt32), (.int 0), (.ref a322)])) rfl rfl (hb hby at_25)
    have N347 := Fr.snoc X343 N0 nw325
    have V348 : Arv Z h342 a322 kc316 .char (1 : Int32) [(.int (nar .char (p1 &&& (255 : Int32)).toUInt32.toUInt16.toUInt32.toInt32))] (.int 0) := Arv.set A335 q336 S337 M338 H339 U340 (fits_nar_char _) W345 0 rfl (leB rfl)
    have nq350 : nar .char (p1 &&& (255 : Int32)).toUInt32.toUInt16.toUInt32.toInt32 = (p1 &&& (255 : Int32)).toUInt32.toUInt16.toUInt32.toInt32 := own_n255 _
    have V349 : Arv Z h342 a322 kc316 .char (1 : Int32) [(.int (p1 &&& (255 : Int32)).toUInt32.toUInt16.toUInt32.toInt32)] (.int 0) := by rw [nq350] at V348; exact V348
    have hr353 := CHr.wr W345 (Safe.arv hZ0.alike V324 (by decide)) H326
    have H351 := hr353.1
    have CH352 := CH327.trans hr353
    have Z354 : n0 ≤ h342.size := by rw [W345.size]; exact Z329
    have hk355 := Nat.le_trans hk330 (Nat.le_of_eq W345.size.symm)
    have O356 := O331.wr W345 nw325
    refine Way.by st346 ?_
    show Way _ _ _ _ (T341.setTop (mkF m 26 #[iv p0, iv p1, iv p2, iv p3, iv 1, rv a322, .unset, .unset, .unset] []))
    try clear X317 e318 V324 H326 CH327 Z329 hk330 O331 V333 c334 A335 q336 S337 M338 H339 U340 W345 st346 V348 hr353
    try clear T314 h315
    refine Way.by (fun _ k => XS.iload X343.here hx rfl (hb hby at_26) rfl k) ?_
    refine Way.by (fun _ k => XS.iconst X343.here hx rfl (hb hby at_28) k) ?_
    show Way _ _ _ _ (T341.setTop (mkF m 29 #[iv p0, iv p1, iv p2, iv p3, iv 1, rv a322, .unset, .unset, .unset] [(.int 1), (.int 1)]))
    have b357 : ¬ (1 : Int32) < (1 : Int32) := by decide
    refine Way.by (fun _ k => XS.icmpYes X343.here hx rfl (pc0 := 29) (pc' := 42) rfl (hb hby at_29) rfl (flt b357).2.2.2 (by decide) (by decide) k) ?_
    show Way _ _ _ _ (T341.setTop (mkF m 42 #[iv p0, iv p1, iv p2, iv p3, iv 1, rv a322, .unset, .unset, .unset] []))
    refine Way.by (fun _ k => XS.iload X343.here hx rfl (hb hby at_42) rfl k) ?_
    refine Way.by (fun _ k => XS.iconst X343.here hx rfl (hb hby at_44) k) ?_
    show Way _ _ _ _ (T341.setTop (mkF m 45 #[iv p0, iv p1, iv p2, iv p3, iv 1, rv a322, .unset, .unset, .unset] [(.int 2), (.int 1)]))
    have b358 : ¬ (2 : Int32) < (1 : Int32) := by decide
    refine Way.by (fun _ k => XS.icmpYes X343.here hx rfl (pc0 := 45) (pc' := 58) rfl (hb hby at_45) rfl (flt b358).2.2.2 (by decide) (by decide) k) ?_
    show Way _ _ _ _ (T341.setTop (mkF m 58 #[iv p0, iv p1, iv p2, iv p3, iv 1, rv a322, .unset, .unset, .unset] []))
    obtain ⟨T359, h360, X361, e362, E363, A364, D365, -, st366⟩ := newO X343 hx hZ0 hown0 (tw hw 1 rfl) (tw hw 2 rfl) (tw hw 3 rfl) e344 (g := (mkF m 58 #[iv p0, iv p1, iv p2, iv p3, iv 1, rv a322, .unset, .unset, .unset] [])) rfl (hb hby at_58) (by decide) (by decide)
    obtain ⟨a367, g368⟩ : ∃ z, z = h342.size := ⟨_, rfl⟩
    rw [← g368] at A364 D365 st366
    have ne369 : a322 ≠ a367 := Nat.ne_of_lt (Nat.lt_of_lt_of_eq V349.lt g368.symm)
    have nw370 : n0 ≤ a367 := Nat.le_trans Z354 (Nat.le_of_eq g368.symm)
    have Sf371 : Safe Z own_EL s.vm h342 a367 := Safe.new (Nat.le_of_eq g368.symm)
    have hr374 := CHr.ext E363 H351
    have Sf375 := Safe.ext E363 H351 Sf371
    have H372 := hr374.1
    have CH373 := CH352.trans hr374
    have A376 := V349.ext E363
    have Z377 := Nat.le_trans Z354 E363.1
    have hk378 := Nat.le_trans hk355 E363.1
    have O379 := O356.ext E363
    have F380 : Fld Z h360 a367 "java/lang/String" "value" "[B" .null := D365 (Or.inr (tw hw 16 rfl)) (ty := (.array .byte)) (by decide)
    have F381 : Fld Z h360 a367 "java/lang/String" "coder" "B" (.int 0) := D365 (Or.inr (tw hw 17 rfl)) (ty := .byte) (by decide)
    refine Way.by st366 ?_
    show Way _ _ _ _ (T359.setTop (mkF m 61 #[iv p0, iv p1, iv p2, iv p3, iv 1, rv a322, .unset, .unset, .unset] [(.ref a367)]))
    try clear X343 e344 V349 H351 CH352 Z354 hk355 O356 E363 D365 st366 hr374
    try clear T341 h342
    refine Way.by (fun _ k => XS.dup X361.here hx rfl (hb hby at_61) rfl rfl k) ?_
    refine Way.by (fun _ k => XS.aload X361.here hx rfl (hb hby at_62) rfl rfl k) ?_
    show Way _ _ _ _ (T359.setTop (mkF m 64 #[iv p0, iv p1, iv p2, iv p3, iv 1, rv a322, .unset, .unset, .unset] [(.ref a322), (.ref a367), (.ref a367)]))
    have hp382 : ∀ c ∈ ([(p1 &&& (255 : Int32)).toUInt32.toUInt16.toUInt32.toInt32] : List Int32), ¬ c < 0 ∧ ¬ (255 : Int32) < c := by intro c hc; simp only [List.mem_cons, List.not_mem_nil, or_false] at hc; rcases hc with rfl <;> exact own_b255 _
    obtain ⟨_, _, ⟨T383, L385, k386, n387⟩, -, X384, ⟨Lc388, hQ389, l390, y391, z392⟩, st393⟩ := X361.specialBack hx (y := (⟨"java/lang/String", "<init>", "([C)V"⟩ : MethodName)) rfl hown0 (mvT hZ0 (tw hw 4 rfl)) (mvT hZ0 (tw hw 5 rfl)) (mvT hZ0 (tw hw 6 rfl)) (by decide) (own_new (W := 1) (n0 := n0) hZ0 hw SV O379 (cs := [(p1 &&& (255 : Int32)).toUInt32.toUInt16.toUInt32.toInt32]) (n := 1) nw370 Z377 A364 F380 F381 A376 rfl rfl (by decide) (by decide) hp382 (by decide) (by decide)) (g := (mkF m 64 #[iv p0, iv p1, iv p2, iv p3, iv 1, rv a322, .unset, .unset, .unset] [(.ref a322), (.ref a367), (.ref a367)])) rfl (by rw [hml]; rfl) (Steps.refl _) (a := a367) (argsL := [(.ref a322)]) (rest := [(.ref a367)]) (lenOf own_pdNew rfl) rfl (leW rfl) (hb hby at_64) (fun _ _ => ⟨rfl, e362, (leB rfl), (leB rfl)⟩)
    dsimp only [Pt.U, Pt.locs, Pt.cells, Pt.slots] at X384 l390 y391 z392 st393 hQ389
    subst y391 z392
    obtain ⟨rfl, N399, K400, x_t403, fr_t402, F401⟩ := hQ389
    have N394 : Fr n0 L385 := by rw [l390]; exact Fr.app N347 N399
    have ne404 : a322 ≠ x_t403 := Nat.ne_of_lt (Nat.lt_of_lt_of_le A376.lt fr_t402)
    have ne405 : a367 ≠ x_t403 := Nat.ne_of_lt (Nat.lt_of_lt_of_le A364.lt fr_t402)
    have nw406 : n0 ≤ x_t403 := Nat.le_trans Z377 fr_t402
    have Sf407 : Safe Z own_EL s.vm h360 x_t403 := Safe.new fr_t402
    have hr410 := CHr.keep K400 (sfS Sf375 sf0) H372
    have Sf411 := Safe.keep K400 (sfS Sf375 sf0) H372 Sf375
    have Sf412 := Safe.keep K400 (sfS Sf375 sf0) H372 Sf407
    have H408 := hr410.1
    have CH409 := CH373.trans hr410
    have A413 := A376.keep K400 (ninS ne369 nin0)
    have E414 := A364.keep K400
    have Z415 := Nat.le_trans Z377 K400.1
    have hk416 := Nat.le_trans hk378 K400.1
    have O417 := O379.keep K400 (allS nw370 all0)
    refine Way.to st393 ?_
    show Way _ _ _ _ (T383.setTop (mkF m 67 #[iv p0, iv p1, iv p2, iv p3, iv 1, rv a322, .unset, .unset, .unset] [(.ref a367)]))
    try clear N347 X361 e362 A364 H372 CH373 Sf375 A376 Z377 hk378 O379 F380 F381 st393 N399 K400 hr410
    try clear T359 h360
    refine Way.by (fun _ k => XS.astore X384.here hx rfl (hb hby at_67) rfl rfl (l' := #[iv p0, iv p1, iv p2, iv p3, iv 1, rv a322, rv a367, .unset, .unset]) rfl k) ?_
    show Way _ _ _ _ (T383.setTop (mkF m 69 #[iv p0, iv p1, iv p2, iv p3, iv 1, rv a322, rv a367, .unset, .unset] []))
    refine Way.by (fun _ k => XS.aload X384.here hx rfl (hb hby at_69) rfl rfl k) ?_
    show Way _ _ _ _ (T383.setTop (mkF m 71 #[iv p0, iv p1, iv p2, iv p3, iv 1, rv a322, rv a367, .unset, .unset] [(.ref a367)]))
    have hb418 : ∀ c ∈ ([(p1 &&& (255 : Int32)).toUInt32.toUInt16.toUInt32.toInt32, 46, 115, 104, 97, 53, 49, 50] : List Int32), ¬ c < 0 ∧ ¬ (255 : Int32) < c := by intro c hc; simp only [List.mem_cons, List.not_mem_nil, or_false] at hc; rcases hc with rfl | rfl | rfl | rfl | rfl | rfl | rfl | rfl <;> first | decide | exact own_b255 _
    obtain ⟨_, _, ⟨T419, L421, k422, n423⟩, -, X420, hS432, hg433, ⟨Lc424, hQ425, l426, y427, z428, hr434⟩, st429⟩ := callSS X384 hx (y := (⟨"com/example/longhold/longhold/store/DigestFile", "nameFor", "(Ljava/lang/String;)Ljava/lang/String;"⟩ : MethodName)) hown0 (mvT hZ0 (tw hw 22 rfl)) (mvT hZ0 (tw hw 23 rfl)) (mvT hZ0 (tw hw 24 rfl)) (mvT hZ0 (tw hw 25 rfl)) (by decide) (backOfSH (W := 0) (rmNF1 l Z a0 hw [] a367 x_t403 (p1 &&& (255 : Int32)).toUInt32.toUInt16.toUInt32.toInt32 ud ul ult T383.heap n0 Z415 F401 hb418 O417 SV SDG EDG FLB SLB) hZ0 (tw hw 25 rfl) (tw hw 24 rfl) (by decide) (by decide) hEL H408) (g := (mkF m 71 #[iv p0, iv p1, iv p2, iv p3, iv 1, rv a322, rv a367, .unset, .unset] [(.ref a367)])) rfl (by rw [hml]; rfl) (argsL := [(.ref a367)]) (rest := []) (lenOf pdNF0 rfl) rfl (leW rfl) (hb hby at_71) (fun _ _ => ⟨rfl, rfl, (leB rfl), (leB rfl)⟩)
    dsimp only [Pt.U, Pt.locs, Pt.cells, Pt.slots] at X420 l426 y427 z428 st429 hQ425 hS432 hg433 hr434
    subst y427 z428
    obtain ⟨X435, hS436, hZ437, hown438⟩ := rebS hS0 (by exact hk416) X420 hS432 hg433 hZ0 hown0
    obtain ⟨x_bx443, x_bt442, rfl, N439, K440, F_0441⟩ := hQ425
    have N430 : Fr n0 L421 := by rw [l426]; exact Fr.app N394 N439
    have Sf447 := CHr.safe hr434 E414.lt Sf411
    have Sf448 := CHr.safe hr434 F401.lt2 Sf412
    have H444 := hr434.1
    have CH445 := CH409.trans hr434
    have A449 := A413.keep K440 nin0
    have E450 := E414.keep K440
    have S451 := F401.keep K440 nin0 nin0
    have Z452 := Nat.le_trans Z415 K440.1
    have O453 := O417.keep K440 all0
    refine Way.to st429 ?_
    show Way _ _ _ _ (T419.setTop (mkF m 74 #[iv p0, iv p1, iv p2, iv p3, iv 1, rv a322, rv a367, .unset, .unset] [(.ref x_bx443)]))
    try clear X384 N394 F401 H408 CH409 Sf411 Sf412 A413 E414 Z415 hk416 O417 X420 st429 hS432 hg433 hr434 N439 K440
    try clear T383
    refine Way.by (fun _ k => XS.astore X435.here hx rfl (hb hby at_74) rfl rfl (l' := #[iv p0, iv p1, iv p2, iv p3, iv 1, rv a322, rv a367, rv x_bx443, .unset]) rfl k) ?_
    show Way _ _ _ _ (T419.setTop (mkF m 76 #[iv p0, iv p1, iv p2, iv p3, iv 1, rv a322, rv a367, rv x_bx443, .unset] []))
    refine Way.by (fun _ k => XS.aload X435.here hx rfl (hb hby at_76) rfl rfl k) ?_
    show Way _ _ _ _ (T419.setTop (mkF m 78 #[iv p0, iv p1, iv p2, iv p3, iv 1, rv a322, rv a367, rv x_bx443, .unset] [(.ref x_bx443)]))
    refine Way.by (fun _ k => XS.ifnullNo X435.here hx rfl (hb hby at_78) rfl k) ?_
    show Way _ _ _ _ (T419.setTop (mkF m 81 #[iv p0, iv p1, iv p2, iv p3, iv 1, rv a322, rv a367, rv x_bx443, .unset] []))
    refine Way.by (fun _ k => XS.aload X435.here hx rfl (hb hby at_81) rfl rfl k) ?_
    show Way _ _ _ _ (T419.setTop (mkF m 83 #[iv p0, iv p1, iv p2, iv p3, iv 1, rv a322, rv a367, rv x_bx443, .unset] [(.ref x_bx443)]))
    obtain ⟨cq470, kq471, qa472, qb473, qc474⟩ := isOf hZ437 rfl F_0441.1
    obtain ⟨_, _, ⟨T454, L456, k457, n458⟩, -, X455, ⟨Lc459, hQ460, l461, y462, z463⟩, st464⟩ := X435.virtualBack hx (y := (⟨"java/lang/String", "length", "()I"⟩ : MethodName)) (z := (⟨"java/lang/String", "length", "()I"⟩ : MethodName)) hown438 (mvT hZ437 (tw hw 149 rfl)) (mvT hZ437 (tw hw 55 rfl)) (notFace_of_selects (args := #[]) (mvT hZ437 (tw hw 57 rfl))) (mvT hZ437 (tw hw 57 rfl)) (mvT hZ437 (tw hw 56 rfl)) (by decide) (own_len (W := 0) (n0 := n0) hZ437 hw SV O453 (cs := [(p1 &&& (255 : Int32)).toUInt32.toUInt16.toUInt32.toInt32, 46, 115, 104, 97, 53, 49, 50]) F_0441 (by decide) (by decide)) qa472 qc474 (g := (mkF m 83 #[iv p0, iv p1, iv p2, iv p3, iv 1, rv a322, rv a367, rv x_bx443, .unset] [(.ref x_bx443)])) rfl (by rw [hml]; rfl) (Steps.refl _) (argsL := []) (rest := []) (lenOf own_pdLen rfl) rfl (leW rfl) (hb hby at_83) (fun _ _ => ⟨rfl, rfl, (leB rfl), (leB rfl)⟩)
    dsimp only [Pt.U, Pt.locs, Pt.cells, Pt.slots] at X455 l461 y462 z463 st464 hQ460
    subst y462 z463
    obtain ⟨rfl, N475, e466⟩ := hQ460
    have N465 : Fr n0 L456 := by rw [l461]; exact Fr.app N430 N475
    refine Way.to st464 ?_
    show Way _ _ _ _ (T454.setTop (mkF m 86 #[iv p0, iv p1, iv p2, iv p3, iv 1, rv a322, rv a367, rv x_bx443, .unset] [(.int 8)]))
    try clear N430 X435 st464 cq470 kq471 qa472 qb473 qc474 N475
    refine Way.by (fun _ k => XS.iload X455.here hx rfl (hb hby at_86) rfl k) ?_
    refine Way.by (fun _ k => XS.bipush X455.here hx rfl (hb hby at_88) k) ?_
    show Way _ _ _ _ (T454.setTop (mkF m 90 #[iv p0, iv p1, iv p2, iv p3, iv 1, rv a322, rv a367, rv x_bx443, .unset] [(.int 7), (.int 1), (.int 8)]))
    refine Way.by (fun _ k => XS.iadd X455.here hx rfl (hb hby at_90) rfl k) ?_
    show Way _ _ _ _ (T454.setTop (mkF m 91 #[iv p0, iv p1, iv p2, iv p3, iv 1, rv a322, rv a367, rv x_bx443, .unset] [(.int 8), (.int 8)]))
    have b477 : (8 : Int32) = (8 : Int32) := by decide
    refine Way.by (fun _ k => XS.icmpYes X455.here hx rfl (pc0 := 91) (pc' := 96) rfl (hb hby at_91) rfl (teq b477).1 (by decide) (by decide) k) ?_
    show Way _ _ _ _ (T454.setTop (mkF m 96 #[iv p0, iv p1, iv p2, iv p3, iv 1, rv a322, rv a367, rv x_bx443, .unset] []))
    refine Way.by (fun _ k => XS.iconst X455.here hx rfl (hb hby at_96) k) ?_
    show Way _ _ _ _ (T454.setTop (mkF m 97 #[iv p0, iv p1, iv p2, iv p3, iv 1, rv a322, rv a367, rv x_bx443, .unset] [(.int 1)]))
    refine Way.by (fun _ k => XS.istore X455.here hx rfl (hb hby at_97) rfl (l' := #[iv p0, iv p1, iv p2, iv p3, iv 1, rv a322, rv a367, rv x_bx443, iv 1]) rfl k) ?_
    show Way _ _ _ _ (T454.setTop (mkF m 99 #[iv p0, iv p1, iv p2, iv p3, iv 1, rv a322, rv a367, rv x_bx443, iv 1] []))
    refine Way.by (fun _ k => XS.iload X455.here hx rfl (hb hby at_99) rfl k) ?_
    show Way _ _ _ _ (T454.setTop (mkF m 101 #[iv p0, iv p1, iv p2, iv p3, iv 1, rv a322, rv a367, rv x_bx443, iv 1] [(.int 1)]))
    have b478 : (0 : Int32) < (1 : Int32) := by decide
    refine Way.by (fun _ k => XS.ifNo X455.here hx rfl (hb hby at_101) rfl ((if0 .le _).trans (tlt b478).2.2.2) k) ?_
    show Way _ _ _ _ (T454.setTop (mkF m 104 #[iv p0, iv p1, iv p2, iv p3, iv 1, rv a322, rv a367, rv x_bx443, iv 1] []))
    refine Way.by (fun _ k => XS.iload X455.here hx rfl (hb hby at_104) rfl k) ?_
    show Way _ _ _ _ (T454.setTop (mkF m 106 #[iv p0, iv p1, iv p2, iv p3, iv 1, rv a322, rv a367, rv x_bx443, iv 1] [(.int 1)]))
    have b479 : ¬ (1 : Int32) = (0 : Int32) := by decide
    refine Way.by (fun _ k => XS.ifNo X455.here hx rfl (hb hby at_106) rfl ((if0 .eq _).trans (feq b479).1) k) ?_
    show Way _ _ _ _ (T454.setTop (mkF m 109 #[iv p0, iv p1, iv p2, iv p3, iv 1, rv a322, rv a367, rv x_bx443, iv 1] []))
    refine Way.by (fun _ k => XS.aload X455.here hx rfl (hb hby at_109) rfl rfl k) ?_
    refine Way.by (fun _ k => XS.iconst X455.here hx rfl (hb hby at_111) k) ?_
    show Way _ _ _ _ (T454.setTop (mkF m 112 #[iv p0, iv p1, iv p2, iv p3, iv 1, rv a322, rv a367, rv x_bx443, iv 1] [(.int 0), (.ref x_bx443)]))
    obtain ⟨cq496, kq497, qa498, qb499, qc500⟩ := isOf hZ437 e466 F_0441.1
    obtain ⟨_, _, ⟨T480, L482, k483, n484⟩, -, X481, ⟨Lc485, hQ486, l487, y488, z489⟩, st490⟩ := X455.virtualBack hx (y := (⟨"java/lang/String", "charAt", "(I)C"⟩ : MethodName)) (z := (⟨"java/lang/String", "charAt", "(I)C"⟩ : MethodName)) hown438 (mvT hZ437 (tw hw 150 rfl)) (mvT hZ437 (tw hw 151 rfl)) (notFace_of_selects (args := #[]) (mvT hZ437 (tw hw 153 rfl))) (mvT hZ437 (tw hw 153 rfl)) (mvT hZ437 (tw hw 152 rfl)) (by decide) (own_chr (W := 0) (n0 := n0) hZ437 hw SV O453 (cs := [(p1 &&& (255 : Int32)).toUInt32.toUInt16.toUInt32.toInt32, 46, 115, 104, 97, 53, 49, 50]) (i := 0) F_0441 (leB rfl) rfl (by decide) (by decide)) qa498 qc500 (g := (mkF m 112 #[iv p0, iv p1, iv p2, iv p3, iv 1, rv a322, rv a367, rv x_bx443, iv 1] [(.int 0), (.ref x_bx443)])) rfl (by rw [hml]; rfl) (Steps.refl _) (argsL := [(.int 0)]) (rest := []) (lenOf own_pdChr rfl) rfl (leW rfl) (hb hby at_112) (fun _ _ => ⟨rfl, e466, (leB rfl), (leB rfl)⟩)
    dsimp only [Pt.U, Pt.locs, Pt.cells, Pt.slots] at X481 l487 y488 z489 st490 hQ486
    subst y488 z489
    obtain ⟨rfl, N501, e492⟩ := hQ486
    have N491 : Fr n0 L482 := by rw [l487]; exact Fr.app N465 N501
    refine Way.to st490 ?_
    show Way _ _ _ _ (T480.setTop (mkF m 115 #[iv p0, iv p1, iv p2, iv p3, iv 1, rv a322, rv a367, rv x_bx443, iv 1] [(.int (p1 &&& (255 : Int32)).toUInt32.toUInt16.toUInt32.toInt32)]))
    try clear X455 N465 e466 st490 cq496 kq497 qa498 qb499 qc500 N501
    try clear T454
    refine Way.by (fun _ k => XS.aload X481.here hx rfl (hb hby at_115) rfl rfl k) ?_
    refine Way.by (fun _ k => XS.iconst X481.here hx rfl (hb hby at_117) k) ?_
    show Way _ _ _ _ (T480.setTop (mkF m 118 #[iv p0, iv p1, iv p2, iv p3, iv 1, rv a322, rv a367, rv x_bx443, iv 1] [(.int 0), (.ref a322), (.int (p1 &&& (255 : Int32)).toUInt32.toUInt16.toUInt32.toInt32)]))
    obtain ⟨c503, A504, q505, S506, M507, H508, U509⟩ := id A449
    refine Way.by (fun t k => Stand.caload X481 hx (hpE e492 A504.1) (arrS hZ437 A504) A504.2.2 (inb_of S506 ⟨(by decide), (by decide)⟩) (Has.at H508 (inb_of S506 ⟨(by decide), (by decide)⟩) rfl) (g := (mkF m 118 #[iv p0, iv p1, iv p2, iv p3, iv 1, rv a322, rv a367, rv x_bx443, iv 1] [(.int 0), (.ref a322), (.int (p1 &&& (255 : Int32)).toUInt32.toUInt16.toUInt32.toInt32)])) rfl rfl (hb hby at_118) t k) ?_
    show Way _ _ _ _ (T480.setTop (mkF m 119 #[iv p0, iv p1, iv p2, iv p3, iv 1, rv a322, rv a367, rv x_bx443, iv 1] [(.int (p1 &&& (255 : Int32)).toUInt32.toUInt16.toUInt32.toInt32), (.int (p1 &&& (255 : Int32)).toUInt32.toUInt16.toUInt32.toInt32)]))
    have b510 : (p1 &&& (255 : Int32)).toUInt32.toUInt16.toUInt32.toInt32 = (p1 &&& (255 : Int32)).toUInt32.toUInt16.toUInt32.toInt32 := rfl
    refine Way.by (fun _ k => XS.icmpNo X481.here hx rfl (hb hby at_119) rfl (teq b510).2 k) ?_
    show Way _ _ _ _ (T480.setTop (mkF m 122 #[iv p0, iv p1, iv p2, iv p3, iv 1, rv a322, rv a367, rv x_bx443, iv 1] []))
    refine Way.by (fun _ k => XS.iconst X481.here hx rfl (hb hby at_122) k) ?_
    show Way _ _ _ _ (T480.setTop (mkF m 123 #[iv p0, iv p1, iv p2, iv p3, iv 1, rv a322, rv a367, rv x_bx443, iv 1] [(.int 1)]))
    refine Way.by (fun _ k => XS.goto X481.here hx rfl (pc0 := 123) (pc' := 127) rfl (hb hby at_123) (by decide) (by decide) k) ?_
    show Way _ _ _ _ (T480.setTop (mkF m 127 #[iv p0, iv p1, iv p2, iv p3, iv 1, rv a322, rv a367, rv x_bx443, iv 1] [(.int 1)]))
    refine Way.by (fun _ k => XS.istore X481.here hx rfl (hb hby at_127) rfl (l' := #[iv p0, iv p1, iv p2, iv p3, iv 1, rv a322, rv a367, rv x_bx443, iv 1]) rfl k) ?_
    show Way _ _ _ _ (T480.setTop (mkF m 129 #[iv p0, iv p1, iv p2, iv p3, iv 1, rv a322, rv a367, rv x_bx443, iv 1] []))
    refine Way.by (fun _ k => XS.iload X481.here hx rfl (hb hby at_129) rfl k) ?_
    refine Way.by (fun _ k => XS.iconst X481.here hx rfl (hb hby at_131) k) ?_
    show Way _ _ _ _ (T480.setTop (mkF m 132 #[iv p0, iv p1, iv p2, iv p3, iv 1, rv a322, rv a367, rv x_bx443, iv 1] [(.int 1), (.int 1)]))
    have b511 : ¬ (1 : Int32) < (1 : Int32) := by decide
    refine Way.by (fun _ k => XS.icmpYes X481.here hx rfl (pc0 := 132) (pc' := 160) rfl (hb hby at_132) rfl (flt b511).2.2.2 (by decide) (by decide) k) ?_
    show Way _ _ _ _ (T480.setTop (mkF m 160 #[iv p0, iv p1, iv p2, iv p3, iv 1, rv a322, rv a367, rv x_bx443, iv 1] []))
    refine Way.by (fun _ k => XS.iload X481.here hx rfl (hb hby at_160) rfl k) ?_
    refine Way.by (fun _ k => XS.iconst X481.here hx rfl (hb hby at_162) k) ?_
    show Way _ _ _ _ (T480.setTop (mkF m 163 #[iv p0, iv p1, iv p2, iv p3, iv 1, rv a322, rv a367, rv x_bx443, iv 1] [(.int 2), (.int 1)]))
    have b512 : ¬ (2 : Int32) < (1 : Int32) := by decide
    refine Way.by (fun _ k => XS.icmpYes X481.here hx rfl (pc0 := 163) (pc' := 191) rfl (hb hby at_163) rfl (flt b512).2.2.2 (by decide) (by decide) k) ?_
    show Way _ _ _ _ (T480.setTop (mkF m 191 #[iv p0, iv p1, iv p2, iv p3, iv 1, rv a322, rv a367, rv x_bx443, iv 1] []))
    refine Way.by (fun _ k => XS.iload X481.here hx rfl (hb hby at_191) rfl k) ?_
    show Way _ _ _ _ (T480.setTop (mkF m 193 #[iv p0, iv p1, iv p2, iv p3, iv 1, rv a322, rv a367, rv x_bx443, iv 1] [(.int 1)]))
    have b513 : ¬ (1 : Int32) = (0 : Int32) := by decide
    refine Way.by (fun _ k => XS.ifNo X481.here hx rfl (hb hby at_193) rfl ((if0 .eq _).trans (feq b513).1) k) ?_
    show Way _ _ _ _ (T480.setTop (mkF m 196 #[iv p0, iv p1, iv p2, iv p3, iv 1, rv a322, rv a367, rv x_bx443, iv 1] []))
    refine Way.by (fun _ k => XS.aload X481.here hx rfl (hb hby at_196) rfl rfl k) ?_
    refine Way.by (fun _ k => XS.iload X481.here hx rfl (hb hby at_198) rfl k) ?_
    show Way _ _ _ _ (T480.setTop (mkF m 200 #[iv p0, iv p1, iv p2, iv p3, iv 1, rv a322, rv a367, rv x_bx443, iv 1] [(.int 1), (.ref x_bx443)]))
    obtain ⟨cq530, kq531, qa532, qb533, qc534⟩ := isOf hZ437 e492 F_0441.1
    obtain ⟨_, _, ⟨T514, L516, k517, n518⟩, -, X515, ⟨Lc519, hQ520, l521, y522, z523⟩, st524⟩ := X481.virtualBack hx (y := (⟨"java/lang/String", "charAt", "(I)C"⟩ : MethodName)) (z := (⟨"java/lang/String", "charAt", "(I)C"⟩ : MethodName)) hown438 (mvT hZ437 (tw hw 150 rfl)) (mvT hZ437 (tw hw 151 rfl)) (notFace_of_selects (args := #[]) (mvT hZ437 (tw hw 153 rfl))) (mvT hZ437 (tw hw 153 rfl)) (mvT hZ437 (tw hw 152 rfl)) (by decide) (own_chr (W := 0) (n0 := n0) hZ437 hw SV O453 (cs := [(p1 &&& (255 : Int32)).toUInt32.toUInt16.toUInt32.toInt32, 46, 115, 104, 97, 53, 49, 50]) (i := 1) F_0441 (leB rfl) rfl (by decide) (by decide)) qa532 qc534 (g := (mkF m 200 #[iv p0, iv p1, iv p2, iv p3, iv 1, rv a322, rv a367, rv x_bx443, iv 1] [(.int 1), (.ref x_bx443)])) rfl (by rw [hml]; rfl) (Steps.refl _) (argsL := [(.int 1)]) (rest := []) (lenOf own_pdChr rfl) rfl (leW rfl) (hb hby at_200) (fun _ _ => ⟨rfl, e492, (leB rfl), (leB rfl)⟩)
    dsimp only [Pt.U, Pt.locs, Pt.cells, Pt.slots] at X515 l521 y522 z523 st524 hQ520
    subst y522 z523
    obtain ⟨rfl, N535, e526⟩ := hQ520
    have N525 : Fr n0 L516 := by rw [l521]; exact Fr.app N491 N535
    refine Way.to st524 ?_
    show Way _ _ _ _ (T514.setTop (mkF m 203 #[iv p0, iv p1, iv p2, iv p3, iv 1, rv a322, rv a367, rv x_bx443, iv 1] [(.int 46)]))
    try clear X481 N491 e492 st524 cq530 kq531 qa532 qb533 qc534 N535
    try clear T480
    refine Way.by (fun _ k => XS.bipush X515.here hx rfl (hb hby at_203) k) ?_
    show Way _ _ _ _ (T514.setTop (mkF m 205 #[iv p0, iv p1, iv p2, iv p3, iv 1, rv a322, rv a367, rv x_bx443, iv 1] [(.int 46), (.int 46)]))
    have b537 : (46 : Int32) = (46 : Int32) := by decide
    refine Way.by (fun _ k => XS.icmpNo X515.here hx rfl (hb hby at_205) rfl (teq b537).2 k) ?_
    show Way _ _ _ _ (T514.setTop (mkF m 208 #[iv p0, iv p1, iv p2, iv p3, iv 1, rv a322, rv a367, rv x_bx443, iv 1] []))
    refine Way.by (fun _ k => XS.iconst X515.here hx rfl (hb hby at_208) k) ?_
    show Way _ _ _ _ (T514.setTop (mkF m 209 #[iv p0, iv p1, iv p2, iv p3, iv 1, rv a322, rv a367, rv x_bx443, iv 1] [(.int 1)]))
    refine Way.by (fun _ k => XS.goto X515.here hx rfl (pc0 := 209) (pc' := 213) rfl (hb hby at_209) (by decide) (by decide) k) ?_
    show Way _ _ _ _ (T514.setTop (mkF m 213 #[iv p0, iv p1, iv p2, iv p3, iv 1, rv a322, rv a367, rv x_bx443, iv 1] [(.int 1)]))
    refine Way.by (fun _ k => XS.istore X515.here hx rfl (hb hby at_213) rfl (l' := #[iv p0, iv p1, iv p2, iv p3, iv 1, rv a322, rv a367, rv x_bx443, iv 1]) rfl k) ?_
    show Way _ _ _ _ (T514.setTop (mkF m 215 #[iv p0, iv p1, iv p2, iv p3, iv 1, rv a322, rv a367, rv x_bx443, iv 1] []))
    refine Way.by (fun _ k => XS.iload X515.here hx rfl (hb hby at_215) rfl k) ?_
    show Way _ _ _ _ (T514.setTop (mkF m 217 #[iv p0, iv p1, iv p2, iv p3, iv 1, rv a322, rv a367, rv x_bx443, iv 1] [(.int 1)]))
    have b538 : ¬ (1 : Int32) = (0 : Int32) := by decide
    refine Way.by (fun _ k => XS.ifNo X515.here hx rfl (hb hby at_217) rfl ((if0 .eq _).trans (feq b538).1) k) ?_
    show Way _ _ _ _ (T514.setTop (mkF m 220 #[iv p0, iv p1, iv p2, iv p3, iv 1, rv a322, rv a367, rv x_bx443, iv 1] []))
    refine Way.by (fun _ k => XS.aload X515.here hx rfl (hb hby at_220) rfl rfl k) ?_
    refine Way.by (fun _ k => XS.iload X515.here hx rfl (hb hby at_222) rfl k) ?_
    refine Way.by (fun _ k => XS.iconst X515.here hx rfl (hb hby at_224) k) ?_
    show Way _ _ _ _ (T514.setTop (mkF m 225 #[iv p0, iv p1, iv p2, iv p3, iv 1, rv a322, rv a367, rv x_bx443, iv 1] [(.int 1), (.int 1), (.ref x_bx443)]))
    refine Way.by (fun _ k => XS.iadd X515.here hx rfl (hb hby at_225) rfl k) ?_
    show Way _ _ _ _ (T514.setTop (mkF m 226 #[iv p0, iv p1, iv p2, iv p3, iv 1, rv a322, rv a367, rv x_bx443, iv 1] [(.int 2), (.ref x_bx443)]))
    obtain ⟨cq555, kq556, qa557, qb558, qc559⟩ := isOf hZ437 e526 F_0441.1
    obtain ⟨_, _, ⟨T539, L541, k542, n543⟩, -, X540, ⟨Lc544, hQ545, l546, y547, z548⟩, st549⟩ := X515.virtualBack hx (y := (⟨"java/lang/String", "charAt", "(I)C"⟩ : MethodName)) (z := (⟨"java/lang/String", "charAt", "(I)C"⟩ : MethodName)) hown438 (mvT hZ437 (tw hw 150 rfl)) (mvT hZ437 (tw hw 151 rfl)) (notFace_of_selects (args := #[]) (mvT hZ437 (tw hw 153 rfl))) (mvT hZ437 (tw hw 153 rfl)) (mvT hZ437 (tw hw 152 rfl)) (by decide) (own_chr (W := 0) (n0 := n0) hZ437 hw SV O453 (cs := [(p1 &&& (255 : Int32)).toUInt32.toUInt16.toUInt32.toInt32, 46, 115, 104, 97, 53, 49, 50]) (i := 2) F_0441 (leB rfl) rfl (by decide) (by decide)) qa557 qc559 (g := (mkF m 226 #[iv p0, iv p1, iv p2, iv p3, iv 1, rv a322, rv a367, rv x_bx443, iv 1] [(.int 2), (.ref x_bx443)])) rfl (by rw [hml]; rfl) (Steps.refl _) (argsL := [(.int 2)]) (rest := []) (lenOf own_pdChr rfl) rfl (leW rfl) (hb hby at_226) (fun _ _ => ⟨rfl, e526, (leB rfl), (leB rfl)⟩)
    dsimp only [Pt.U, Pt.locs, Pt.cells, Pt.slots] at X540 l546 y547 z548 st549 hQ545
    subst y547 z548
    obtain ⟨rfl, N560, e551⟩ := hQ545
    have N550 : Fr n0 L541 := by rw [l546]; exact Fr.app N525 N560
    refine Way.to st549 ?_
    show Way _ _ _ _ (T539.setTop (mkF m 229 #[iv p0, iv p1, iv p2, iv p3, iv 1, rv a322, rv a367, rv x_bx443, iv 1] [(.int 115)]))
    try clear X515 N525 e526 st549 cq555 kq556 qa557 qb558 qc559 N560
    try clear T514
    refine Way.by (fun _ k => XS.bipush X540.here hx rfl (hb hby at_229) k) ?_
    show Way _ _ _ _ (T539.setTop (mkF m 231 #[iv p0, iv p1, iv p2, iv p3, iv 1, rv a322, rv a367, rv x_bx443, iv 1] [(.int 115), (.int 115)]))
    have b562 : (115 : Int32) = (115 : Int32) := by decide
    refine Way.by (fun _ k => XS.icmpNo X540.here hx rfl (hb hby at_231) rfl (teq b562).2 k) ?_
    show Way _ _ _ _ (T539.setTop (mkF m 234 #[iv p0, iv p1, iv p2, iv p3, iv 1, rv a322, rv a367, rv x_bx443, iv 1] []))
    refine Way.by (fun _ k => XS.iconst X540.here hx rfl (hb hby at_234) k) ?_
    show Way _ _ _ _ (T539.setTop (mkF m 235 #[iv p0, iv p1, iv p2, iv p3, iv 1, rv a322, rv a367, rv x_bx443, iv 1] [(.int 1)]))
    refine Way.by (fun _ k => XS.goto X540.here hx rfl (pc0 := 235) (pc' := 239) rfl (hb hby at_235) (by decide) (by decide) k) ?_
    show Way _ _ _ _ (T539.setTop (mkF m 239 #[iv p0, iv p1, iv p2, iv p3, iv 1, rv a322, rv a367, rv x_bx443, iv 1] [(.int 1)]))
    refine Way.by (fun _ k => XS.istore X540.here hx rfl (hb hby at_239) rfl (l' := #[iv p0, iv p1, iv p2, iv p3, iv 1, rv a322, rv a367, rv x_bx443, iv 1]) rfl k) ?_
    show Way _ _ _ _ (T539.setTop (mkF m 241 #[iv p0, iv p1, iv p2, iv p3, iv 1, rv a322, rv a367, rv x_bx443, iv 1] []))
    refine Way.by (fun _ k => XS.iload X540.here hx rfl (hb hby at_241) rfl k) ?_
    show Way _ _ _ _ (T539.setTop (mkF m 243 #[iv p0, iv p1, iv p2, iv p3, iv 1, rv a322, rv a367, rv x_bx443, iv 1] [(.int 1)]))
    have b563 : ¬ (1 : Int32) = (0 : Int32) := by decide
    refine Way.by (fun _ k => XS.ifNo X540.here hx rfl (hb hby at_243) rfl ((if0 .eq _).trans (feq b563).1) k) ?_
    show Way _ _ _ _ (T539.setTop (mkF m 246 #[iv p0, iv p1, iv p2, iv p3, iv 1, rv a322, rv a367, rv x_bx443, iv 1] []))
    refine Way.by (fun _ k => XS.aload X540.here hx rfl (hb hby at_246) rfl rfl k) ?_
    refine Way.by (fun _ k => XS.iload X540.here hx rfl (hb hby at_248) rfl k) ?_
    refine Way.by (fun _ k => XS.iconst X540.here hx rfl (hb hby at_250) k) ?_
    show Way _ _ _ _ (T539.setTop (mkF m 251 #[iv p0, iv p1, iv p2, iv p3, iv 1, rv a322, rv a367, rv x_bx443, iv 1] [(.int 2), (.int 1), (.ref x_bx443)]))
    refine Way.by (fun _ k => XS.iadd X540.here hx rfl (hb hby at_251) rfl k) ?_
    show Way _ _ _ _ (T539.setTop (mkF m 252 #[iv p0, iv p1, iv p2, iv p3, iv 1, rv a322, rv a367, rv x_bx443, iv 1] [(.int 3), (.ref x_bx443)]))
    obtain ⟨cq580, kq581, qa582, qb583, qc584⟩ := isOf hZ437 e551 F_0441.1
    obtain ⟨_, _, ⟨T564, L566, k567, n568⟩, -, X565, ⟨Lc569, hQ570, l571, y572, z573⟩, st574⟩ := X540.virtualBack hx (y := (⟨"java/lang/String", "charAt", "(I)C"⟩ : MethodName)) (z := (⟨"java/lang/String", "charAt", "(I)C"⟩ : MethodName)) hown438 (mvT hZ437 (tw hw 150 rfl)) (mvT hZ437 (tw hw 151 rfl)) (notFace_of_selects (args := #[]) (mvT hZ437 (tw hw 153 rfl))) (mvT hZ437 (tw hw 153 rfl)) (mvT hZ437 (tw hw 152 rfl)) (by decide) (own_chr (W := 0) (n0 := n0) hZ437 hw SV O453 (cs := [(p1 &&& (255 : Int32)).toUInt32.toUInt16.toUInt32.toInt32, 46, 115, 104, 97, 53, 49, 50]) (i := 3) F_0441 (leB rfl) rfl (by decide) (by decide)) qa582 qc584 (g := (mkF m 252 #[iv p0, iv p1, iv p2, iv p3, iv 1, rv a322, rv a367, rv x_bx443, iv 1] [(.int 3), (.ref x_bx443)])) rfl (by rw [hml]; rfl) (Steps.refl _) (argsL := [(.int 3)]) (rest := []) (lenOf own_pdChr rfl) rfl (leW rfl) (hb hby at_252) (fun _ _ => ⟨rfl, e551, (leB rfl), (leB rfl)⟩)
    dsimp only [Pt.U, Pt.locs, Pt.cells, Pt.slots] at X565 l571 y572 z573 st574 hQ570
    subst y572 z573
    obtain ⟨rfl, N585, e576⟩ := hQ570
    have N575 : Fr n0 L566 := by rw [l571]; exact Fr.app N550 N585
    refine Way.to st574 ?_
    show Way _ _ _ _ (T564.setTop (mkF m 255 #[iv p0, iv p1, iv p2, iv p3, iv 1, rv a322, rv a367, rv x_bx443, iv 1] [(.int 104)]))
    try clear X540 N550 e551 st574 cq580 kq581 qa582 qb583 qc584 N585
    try clear T539
    refine Way.by (fun _ k => XS.bipush X565.here hx rfl (hb hby at_255) k) ?_
    show Way _ _ _ _ (T564.setTop (mkF m 257 #[iv p0, iv p1, iv p2, iv p3, iv 1, rv a322, rv a367, rv x_bx443, iv 1] [(.int 104), (.int 104)]))
    have b587 : (104 : Int32) = (104 : Int32) := by decide
    refine Way.by (fun _ k => XS.icmpNo X565.here hx rfl (hb hby at_257) rfl (teq b587).2 k) ?_
    show Way _ _ _ _ (T564.setTop (mkF m 260 #[iv p0, iv p1, iv p2, iv p3, iv 1, rv a322, rv a367, rv x_bx443, iv 1] []))
    refine Way.by (fun _ k => XS.iconst X565.here hx rfl (hb hby at_260) k) ?_
    show Way _ _ _ _ (T564.setTop (mkF m 261 #[iv p0, iv p1, iv p2, iv p3, iv 1, rv a322, rv a367, rv x_bx443, iv 1] [(.int 1)]))
    refine Way.by (fun _ k => XS.goto X565.here hx rfl (pc0 := 261) (pc' := 265) rfl (hb hby at_261) (by decide) (by decide) k) ?_
    show Way _ _ _ _ (T564.setTop (mkF m 265 #[iv p0, iv p1, iv p2, iv p3, iv 1, rv a322, rv a367, rv x_bx443, iv 1] [(.int 1)]))
    refine Way.by (fun _ k => XS.istore X565.here hx rfl (hb hby at_265) rfl (l' := #[iv p0, iv p1, iv p2, iv p3, iv 1, rv a322, rv a367, rv x_bx443, iv 1]) rfl k) ?_
    show Way _ _ _ _ (T564.setTop (mkF m 267 #[iv p0, iv p1, iv p2, iv p3, iv 1, rv a322, rv a367, rv x_bx443, iv 1] []))
    refine Way.by (fun _ k => XS.iload X565.here hx rfl (hb hby at_267) rfl k) ?_
    show Way _ _ _ _ (T564.setTop (mkF m 269 #[iv p0, iv p1, iv p2, iv p3, iv 1, rv a322, rv a367, rv x_bx443, iv 1] [(.int 1)]))
    have b588 : ¬ (1 : Int32) = (0 : Int32) := by decide
    refine Way.by (fun _ k => XS.ifNo X565.here hx rfl (hb hby at_269) rfl ((if0 .eq _).trans (feq b588).1) k) ?_
    show Way _ _ _ _ (T564.setTop (mkF m 272 #[iv p0, iv p1, iv p2, iv p3, iv 1, rv a322, rv a367, rv x_bx443, iv 1] []))
    refine Way.by (fun _ k => XS.aload X565.here hx rfl (hb hby at_272) rfl rfl k) ?_
    refine Way.by (fun _ k => XS.iload X565.here hx rfl (hb hby at_274) rfl k) ?_
    refine Way.by (fun _ k => XS.iconst X565.here hx rfl (hb hby at_276) k) ?_
    show Way _ _ _ _ (T564.setTop (mkF m 277 #[iv p0, iv p1, iv p2, iv p3, iv 1, rv a322, rv a367, rv x_bx443, iv 1] [(.int 3), (.int 1), (.ref x_bx443)]))
    refine Way.by (fun _ k => XS.iadd X565.here hx rfl (hb hby at_277) rfl k) ?_
    show Way _ _ _ _ (T564.setTop (mkF m 278 #[iv p0, iv p1, iv p2, iv p3, iv 1, rv a322, rv a367, rv x_bx443, iv 1] [(.int 4), (.ref x_bx443)]))
    obtain ⟨cq605, kq606, qa607, qb608, qc609⟩ := isOf hZ437 e576 F_0441.1
    obtain ⟨_, _, ⟨T589, L591, k592, n593⟩, -, X590, ⟨Lc594, hQ595, l596, y597, z598⟩, st599⟩ := X565.virtualBack hx (y := (⟨"java/lang/String", "charAt", "(I)C"⟩ : MethodName)) (z := (⟨"java/lang/String", "charAt", "(I)C"⟩ : MethodName)) hown438 (mvT hZ437 (tw hw 150 rfl)) (mvT hZ437 (tw hw 151 rfl)) (notFace_of_selects (args := #[]) (mvT hZ437 (tw hw 153 rfl))) (mvT hZ437 (tw hw 153 rfl)) (mvT hZ437 (tw hw 152 rfl)) (by decide) (own_chr (W := 0) (n0 := n0) hZ437 hw SV O453 (cs := [(p1 &&& (255 : Int32)).toUInt32.toUInt16.toUInt32.toInt32, 46, 115, 104, 97, 53, 49, 50]) (i := 4) F_0441 (leB rfl) rfl (by decide) (by decide)) qa607 qc609 (g := (mkF m 278 #[iv p0, iv p1, iv p2, iv p3, iv 1, rv a322, rv a367, rv x_bx443, iv 1] [(.int 4), (.ref x_bx443)])) rfl (by rw [hml]; rfl) (Steps.refl _) (argsL := [(.int 4)]) (rest := []) (lenOf own_pdChr rfl) rfl (leW rfl) (hb hby at_278) (fun _ _ => ⟨rfl, e576, (leB rfl), (leB rfl)⟩)
    dsimp only [Pt.U, Pt.locs, Pt.cells, Pt.slots] at X590 l596 y597 z598 st599 hQ595
    subst y597 z598
    obtain ⟨rfl, N610, e601⟩ := hQ595
    have N600 : Fr n0 L591 := by rw [l596]; exact Fr.app N575 N610
    refine Way.to st599 ?_
    show Way _ _ _ _ (T589.setTop (mkF m 281 #[iv p0, iv p1, iv p2, iv p3, iv 1, rv a322, rv a367, rv x_bx443, iv 1] [(.int 97)]))
    try clear X565 N575 e576 st599 cq605 kq606 qa607 qb608 qc609 N610
    try clear T564
    refine Way.by (fun _ k => XS.bipush X590.here hx rfl (hb hby at_281) k) ?_
    show Way _ _ _ _ (T589.setTop (mkF m 283 #[iv p0, iv p1, iv p2, iv p3, iv 1, rv a322, rv a367, rv x_bx443, iv 1] [(.int 97), (.int 97)]))
    have b612 : (97 : Int32) = (97 : Int32) := by decide
    refine Way.by (fun _ k => XS.icmpNo X590.here hx rfl (hb hby at_283) rfl (teq b612).2 k) ?_
    show Way _ _ _ _ (T589.setTop (mkF m 286 #[iv p0, iv p1, iv p2, iv p3, iv 1, rv a322, rv a367, rv x_bx443, iv 1] []))
    refine Way.by (fun _ k => XS.iconst X590.here hx rfl (hb hby at_286) k) ?_
    show Way _ _ _ _ (T589.setTop (mkF m 287 #[iv p0, iv p1, iv p2, iv p3, iv 1, rv a322, rv a367, rv x_bx443, iv 1] [(.int 1)]))
    refine Way.by (fun _ k => XS.goto X590.here hx rfl (pc0 := 287) (pc' := 291) rfl (hb hby at_287) (by decide) (by decide) k) ?_
    show Way _ _ _ _ (T589.setTop (mkF m 291 #[iv p0, iv p1, iv p2, iv p3, iv 1, rv a322, rv a367, rv x_bx443, iv 1] [(.int 1)]))
    refine Way.by (fun _ k => XS.istore X590.here hx rfl (hb hby at_291) rfl (l' := #[iv p0, iv p1, iv p2, iv p3, iv 1, rv a322, rv a367, rv x_bx443, iv 1]) rfl k) ?_
    show Way _ _ _ _ (T589.setTop (mkF m 293 #[iv p0, iv p1, iv p2, iv p3, iv 1, rv a322, rv a367, rv x_bx443, iv 1] []))
    refine Way.by (fun _ k => XS.iload X590.here hx rfl (hb hby at_293) rfl k) ?_
    show Way _ _ _ _ (T589.setTop (mkF m 295 #[iv p0, iv p1, iv p2, iv p3, iv 1, rv a322, rv a367, rv x_bx443, iv 1] [(.int 1)]))
    have b613 : ¬ (1 : Int32) = (0 : Int32) := by decide
    refine Way.by (fun _ k => XS.ifNo X590.here hx rfl (hb hby at_295) rfl ((if0 .eq _).trans (feq b613).1) k) ?_
    show Way _ _ _ _ (T589.setTop (mkF m 298 #[iv p0, iv p1, iv p2, iv p3, iv 1, rv a322, rv a367, rv x_bx443, iv 1] []))
    refine Way.by (fun _ k => XS.aload X590.here hx rfl (hb hby at_298) rfl rfl k) ?_
    refine Way.by (fun _ k => XS.iload X590.here hx rfl (hb hby at_300) rfl k) ?_
    refine Way.by (fun _ k => XS.iconst X590.here hx rfl (hb hby at_302) k) ?_
    show Way _ _ _ _ (T589.setTop (mkF m 303 #[iv p0, iv p1, iv p2, iv p3, iv 1, rv a322, rv a367, rv x_bx443, iv 1] [(.int 4), (.int 1), (.ref x_bx443)]))
    refine Way.by (fun _ k => XS.iadd X590.here hx rfl (hb hby at_303) rfl k) ?_
    show Way _ _ _ _ (T589.setTop (mkF m 304 #[iv p0, iv p1, iv p2, iv p3, iv 1, rv a322, rv a367, rv x_bx443, iv 1] [(.int 5), (.ref x_bx443)]))
    obtain ⟨cq630, kq631, qa632, qb633, qc634⟩ := isOf hZ437 e601 F_0441.1
    obtain ⟨_, _, ⟨T614, L616, k617, n618⟩, -, X615, ⟨Lc619, hQ620, l621, y622, z623⟩, st624⟩ := X590.virtualBack hx (y := (⟨"java/lang/String", "charAt", "(I)C"⟩ : MethodName)) (z := (⟨"java/lang/String", "charAt", "(I)C"⟩ : MethodName)) hown438 (mvT hZ437 (tw hw 150 rfl)) (mvT hZ437 (tw hw 151 rfl)) (notFace_of_selects (args := #[]) (mvT hZ437 (tw hw 153 rfl))) (mvT hZ437 (tw hw 153 rfl)) (mvT hZ437 (tw hw 152 rfl)) (by decide) (own_chr (W := 0) (n0 := n0) hZ437 hw SV O453 (cs := [(p1 &&& (255 : Int32)).toUInt32.toUInt16.toUInt32.toInt32, 46, 115, 104, 97, 53, 49, 50]) (i := 5) F_0441 (leB rfl) rfl (by decide) (by decide)) qa632 qc634 (g := (mkF m 304 #[iv p0, iv p1, iv p2, iv p3, iv 1, rv a322, rv a367, rv x_bx443, iv 1] [(.int 5), (.ref x_bx443)])) rfl (by rw [hml]; rfl) (Steps.refl _) (argsL := [(.int 5)]) (rest := []) (lenOf own_pdChr rfl) rfl (leW rfl) (hb hby at_304) (fun _ _ => ⟨rfl, e601, (leB rfl), (leB rfl)⟩)
    dsimp only [Pt.U, Pt.locs, Pt.cells, Pt.slots] at X615 l621 y622 z623 st624 hQ620
    subst y622 z623
    obtain ⟨rfl, N635, e626⟩ := hQ620
    have N625 : Fr n0 L616 := by rw [l621]; exact Fr.app N600 N635
    refine Way.to st624 ?_
    show Way _ _ _ _ (T614.setTop (mkF m 307 #[iv p0, iv p1, iv p2, iv p3, iv 1, rv a322, rv a367, rv x_bx443, iv 1] [(.int 53)]))
    try clear X590 N600 e601 st624 cq630 kq631 qa632 qb633 qc634 N635
    try clear T589
    refine Way.by (fun _ k => XS.bipush X615.here hx rfl (hb hby at_307) k) ?_
    show Way _ _ _ _ (T614.setTop (mkF m 309 #[iv p0, iv p1, iv p2, iv p3, iv 1, rv a322, rv a367, rv x_bx443, iv 1] [(.int 53), (.int 53)]))
    have b637 : (53 : Int32) = (53 : Int32) := by decide
    refine Way.by (fun _ k => XS.icmpNo X615.here hx rfl (hb hby at_309) rfl (teq b637).2 k) ?_
    show Way _ _ _ _ (T614.setTop (mkF m 312 #[iv p0, iv p1, iv p2, iv p3, iv 1, rv a322, rv a367, rv x_bx443, iv 1] []))
    refine Way.by (fun _ k => XS.iconst X615.here hx rfl (hb hby at_312) k) ?_
    show Way _ _ _ _ (T614.setTop (mkF m 313 #[iv p0, iv p1, iv p2, iv p3, iv 1, rv a322, rv a367, rv x_bx443, iv 1] [(.int 1)]))
    refine Way.by (fun _ k => XS.goto X615.here hx rfl (pc0 := 313) (pc' := 317) rfl (hb hby at_313) (by decide) (by decide) k) ?_
    show Way _ _ _ _ (T614.setTop (mkF m 317 #[iv p0, iv p1, iv p2, iv p3, iv 1, rv a322, rv a367, rv x_bx443, iv 1] [(.int 1)]))
    refine Way.by (fun _ k => XS.istore X615.here hx rfl (hb hby at_317) rfl (l' := #[iv p0, iv p1, iv p2, iv p3, iv 1, rv a322, rv a367, rv x_bx443, iv 1]) rfl k) ?_
    show Way _ _ _ _ (T614.setTop (mkF m 319 #[iv p0, iv p1, iv p2, iv p3, iv 1, rv a322, rv a367, rv x_bx443, iv 1] []))
    refine Way.by (fun _ k => XS.iload X615.here hx rfl (hb hby at_319) rfl k) ?_
    show Way _ _ _ _ (T614.setTop (mkF m 321 #[iv p0, iv p1, iv p2, iv p3, iv 1, rv a322, rv a367, rv x_bx443, iv 1] [(.int 1)]))
    have b638 : ¬ (1 : Int32) = (0 : Int32) := by decide
    refine Way.by (fun _ k => XS.ifNo X615.here hx rfl (hb hby at_321) rfl ((if0 .eq _).trans (feq b638).1) k) ?_
    show Way _ _ _ _ (T614.setTop (mkF m 324 #[iv p0, iv p1, iv p2, iv p3, iv 1, rv a322, rv a367, rv x_bx443, iv 1] []))
    refine Way.by (fun _ k => XS.aload X615.here hx rfl (hb hby at_324) rfl rfl k) ?_
    refine Way.by (fun _ k => XS.iload X615.here hx rfl (hb hby at_326) rfl k) ?_
    refine Way.by (fun _ k => XS.iconst X615.here hx rfl (hb hby at_328) k) ?_
    show Way _ _ _ _ (T614.setTop (mkF m 329 #[iv p0, iv p1, iv p2, iv p3, iv 1, rv a322, rv a367, rv x_bx443, iv 1] [(.int 5), (.int 1), (.ref x_bx443)]))
    refine Way.by (fun _ k => XS.iadd X615.here hx rfl (hb hby at_329) rfl k) ?_
    show Way _ _ _ _ (T614.setTop (mkF m 330 #[iv p0, iv p1, iv p2, iv p3, iv 1, rv a322, rv a367, rv x_bx443, iv 1] [(.int 6), (.ref x_bx443)]))
    obtain ⟨cq655, kq656, qa657, qb658, qc659⟩ := isOf hZ437 e626 F_0441.1
    obtain ⟨_, _, ⟨T639, L641, k642, n643⟩, -, X640, ⟨Lc644, hQ645, l646, y647, z648⟩, st649⟩ := X615.virtualBack hx (y := (⟨"java/lang/String", "charAt", "(I)C"⟩ : MethodName)) (z := (⟨"java/lang/String", "charAt", "(I)C"⟩ : MethodName)) hown438 (mvT hZ437 (tw hw 150 rfl)) (mvT hZ437 (tw hw 151 rfl)) (notFace_of_selects (args := #[]) (mvT hZ437 (tw hw 153 rfl))) (mvT hZ437 (tw hw 153 rfl)) (mvT hZ437 (tw hw 152 rfl)) (by decide) (own_chr (W := 0) (n0 := n0) hZ437 hw SV O453 (cs := [(p1 &&& (255 : Int32)).toUInt32.toUInt16.toUInt32.toInt32, 46, 115, 104, 97, 53, 49, 50]) (i := 6) F_0441 (leB rfl) rfl (by decide) (by decide)) qa657 qc659 (g := (mkF m 330 #[iv p0, iv p1, iv p2, iv p3, iv 1, rv a322, rv a367, rv x_bx443, iv 1] [(.int 6), (.ref x_bx443)])) rfl (by rw [hml]; rfl) (Steps.refl _) (argsL := [(.int 6)]) (rest := []) (lenOf own_pdChr rfl) rfl (leW rfl) (hb hby at_330) (fun _ _ => ⟨rfl, e626, (leB rfl), (leB rfl)⟩)
    dsimp only [Pt.U, Pt.locs, Pt.cells, Pt.slots] at X640 l646 y647 z648 st649 hQ645
    subst y647 z648
    obtain ⟨rfl, N660, e651⟩ := hQ645
    have N650 : Fr n0 L641 := by rw [l646]; exact Fr.app N625 N660
    refine Way.to st649 ?_
    show Way _ _ _ _ (T639.setTop (mkF m 333 #[iv p0, iv p1, iv p2, iv p3, iv 1, rv a322, rv a367, rv x_bx443, iv 1] [(.int 49)]))
    try clear X615 N625 e626 st649 cq655 kq656 qa657 qb658 qc659 N660
    try clear T614
    refine Way.by (fun _ k => XS.bipush X640.here hx rfl (hb hby at_333) k) ?_
    show Way _ _ _ _ (T639.setTop (mkF m 335 #[iv p0, iv p1, iv p2, iv p3, iv 1, rv a322, rv a367, rv x_bx443, iv 1] [(.int 49), (.int 49)]))
    have b662 : (49 : Int32) = (49 : Int32) := by decide
    refine Way.by (fun _ k => XS.icmpNo X640.here hx rfl (hb hby at_335) rfl (teq b662).2 k) ?_
    show Way _ _ _ _ (T639.setTop (mkF m 338 #[iv p0, iv p1, iv p2, iv p3, iv 1, rv a322, rv a367, rv x_bx443, iv 1] []))
    refine Way.by (fun _ k => XS.iconst X640.here hx rfl (hb hby at_338) k) ?_
    show Way _ _ _ _ (T639.setTop (mkF m 339 #[iv p0, iv p1, iv p2, iv p3, iv 1, rv a322, rv a367, rv x_bx443, iv 1] [(.int 1)]))
    refine Way.by (fun _ k => XS.goto X640.here hx rfl (pc0 := 339) (pc' := 343) rfl (hb hby at_339) (by decide) (by decide) k) ?_
    show Way _ _ _ _ (T639.setTop (mkF m 343 #[iv p0, iv p1, iv p2, iv p3, iv 1, rv a322, rv a367, rv x_bx443, iv 1] [(.int 1)]))
    refine Way.by (fun _ k => XS.istore X640.here hx rfl (hb hby at_343) rfl (l' := #[iv p0, iv p1, iv p2, iv p3, iv 1, rv a322, rv a367, rv x_bx443, iv 1]) rfl k) ?_
    show Way _ _ _ _ (T639.setTop (mkF m 345 #[iv p0, iv p1, iv p2, iv p3, iv 1, rv a322, rv a367, rv x_bx443, iv 1] []))
    refine Way.by (fun _ k => XS.iload X640.here hx rfl (hb hby at_345) rfl k) ?_
    show Way _ _ _ _ (T639.setTop (mkF m 347 #[iv p0, iv p1, iv p2, iv p3, iv 1, rv a322, rv a367, rv x_bx443, iv 1] [(.int 1)]))
    have b663 : ¬ (1 : Int32) = (0 : Int32) := by decide
    refine Way.by (fun _ k => XS.ifNo X640.here hx rfl (hb hby at_347) rfl ((if0 .eq _).trans (feq b663).1) k) ?_
    show Way _ _ _ _ (T639.setTop (mkF m 350 #[iv p0, iv p1, iv p2, iv p3, iv 1, rv a322, rv a367, rv x_bx443, iv 1] []))
    refine Way.by (fun _ k => XS.aload X640.here hx rfl (hb hby at_350) rfl rfl k) ?_
    refine Way.by (fun _ k => XS.iload X640.here hx rfl (hb hby at_352) rfl k) ?_
    refine Way.by (fun _ k => XS.bipush X640.here hx rfl (hb hby at_354) k) ?_
    show Way _ _ _ _ (T639.setTop (mkF m 356 #[iv p0, iv p1, iv p2, iv p3, iv 1, rv a322, rv a367, rv x_bx443, iv 1] [(.int 6), (.int 1), (.ref x_bx443)]))
    refine Way.by (fun _ k => XS.iadd X640.here hx rfl (hb hby at_356) rfl k) ?_
    show Way _ _ _ _ (T639.setTop (mkF m 357 #[iv p0, iv p1, iv p2, iv p3, iv 1, rv a322, rv a367, rv x_bx443, iv 1] [(.int 7), (.ref x_bx443)]))
    obtain ⟨cq680, kq681, qa682, qb683, qc684⟩ := isOf hZ437 e651 F_0441.1
    obtain ⟨_, _, ⟨T664, L666, k667, n668⟩, -, X665, ⟨Lc669, hQ670, l671, y672, z673⟩, st674⟩ := X640.virtualBack hx (y := (⟨"java/lang/String", "charAt", "(I)C"⟩ : MethodName)) (z := (⟨"java/lang/String", "charAt", "(I)C"⟩ : MethodName)) hown438 (mvT hZ437 (tw hw 150 rfl)) (mvT hZ437 (tw hw 151 rfl)) (notFace_of_selects (args := #[]) (mvT hZ437 (tw hw 153 rfl))) (mvT hZ437 (tw hw 153 rfl)) (mvT hZ437 (tw hw 152 rfl)) (by decide) (own_chr (W := 0) (n0 := n0) hZ437 hw SV O453 (cs := [(p1 &&& (255 : Int32)).toUInt32.toUInt16.toUInt32.toInt32, 46, 115, 104, 97, 53, 49, 50]) (i := 7) F_0441 (leB rfl) rfl (by decide) (by decide)) qa682 qc684 (g := (mkF m 357 #[iv p0, iv p1, iv p2, iv p3, iv 1, rv a322, rv a367, rv x_bx443, iv 1] [(.int 7), (.ref x_bx443)])) rfl (by rw [hml]; rfl) (Steps.refl _) (argsL := [(.int 7)]) (rest := []) (lenOf own_pdChr rfl) rfl (leW rfl) (hb hby at_357) (fun _ _ => ⟨rfl, e651, (leB rfl), (leB rfl)⟩)
    dsimp only [Pt.U, Pt.locs, Pt.cells, Pt.slots] at X665 l671 y672 z673 st674 hQ670
    subst y672 z673
    obtain ⟨rfl, N685, e676⟩ := hQ670
    have N675 : Fr n0 L666 := by rw [l671]; exact Fr.app N650 N685
    refine Way.to st674 ?_
    show Way _ _ _ _ (T664.setTop (mkF m 360 #[iv p0, iv p1, iv p2, iv p3, iv 1, rv a322, rv a367, rv x_bx443, iv 1] [(.int 50)]))
    try clear X640 N650 e651 st674 cq680 kq681 qa682 qb683 qc684 N685
    try clear T639
    refine Way.by (fun _ k => XS.bipush X665.here hx rfl (hb hby at_360) k) ?_
    show Way _ _ _ _ (T664.setTop (mkF m 362 #[iv p0, iv p1, iv p2, iv p3, iv 1, rv a322, rv a367, rv x_bx443, iv 1] [(.int 50), (.int 50)]))
    have b687 : (50 : Int32) = (50 : Int32) := by decide
    refine Way.by (fun _ k => XS.icmpNo X665.here hx rfl (hb hby at_362) rfl (teq b687).2 k) ?_
    show Way _ _ _ _ (T664.setTop (mkF m 365 #[iv p0, iv p1, iv p2, iv p3, iv 1, rv a322, rv a367, rv x_bx443, iv 1] []))
    refine Way.by (fun _ k => XS.iconst X665.here hx rfl (hb hby at_365) k) ?_
    show Way _ _ _ _ (T664.setTop (mkF m 366 #[iv p0, iv p1, iv p2, iv p3, iv 1, rv a322, rv a367, rv x_bx443, iv 1] [(.int 1)]))
    refine Way.by (fun _ k => XS.goto X665.here hx rfl (pc0 := 366) (pc' := 370) rfl (hb hby at_366) (by decide) (by decide) k) ?_
    show Way _ _ _ _ (T664.setTop (mkF m 370 #[iv p0, iv p1, iv p2, iv p3, iv 1, rv a322, rv a367, rv x_bx443, iv 1] [(.int 1)]))
    refine Way.by (fun _ k => XS.istore X665.here hx rfl (hb hby at_370) rfl (l' := #[iv p0, iv p1, iv p2, iv p3, iv 1, rv a322, rv a367, rv x_bx443, iv 1]) rfl k) ?_
    show Way _ _ _ _ (T664.setTop (mkF m 372 #[iv p0, iv p1, iv p2, iv p3, iv 1, rv a322, rv a367, rv x_bx443, iv 1] []))
    refine Way.by (fun _ k => XS.iload X665.here hx rfl (hb hby at_372) rfl k) ?_
    show Way _ _ _ _ (T664.setTop (mkF m 374 #[iv p0, iv p1, iv p2, iv p3, iv 1, rv a322, rv a367, rv x_bx443, iv 1] [(.int 1)]))
    refine Way.retH (v := (some (.int (nar .boolean (1 : Int32))))) X665 hS436 (by rw [e676]; exact (Nat.le_refl _)) hZ437 hEL hh e676 H444 CH445 hlk (fun h => by rw [Bd.returns] at h; cases h) (fun fs hr => retN X665 hx (t := .boolean) Bd.returns (by simp) (hb hby at_374) hr) ?_ (by decide) (by decide)
    show Q0 n0 _ T664.heap _
    rw [e676]
    exact ⟨rfl, N675⟩
  · skip
    show Way _ _ _ _ (s₁.setTop (mkF m 5 #[iv p0, iv p1, iv p2, iv p3, iv 2, .unset, .unset, .unset, .unset] []))
    refine Way.by (fun _ k => XS.iload XW.here hx rfl (hb hby at_5) rfl k) ?_
    show Way _ _ _ _ (s₁.setTop (mkF m 7 #[iv p0, iv p1, iv p2, iv p3, iv 2, .unset, .unset, .unset, .unset] [(.int 2)]))
    obtain ⟨T688, h689, kc690, X691, e692, E693, A694, st695⟩ := newP XW hx hZ0 (tw hw 0 rfl) e0 (g := (mkF m 7 #[iv p0, iv p1, iv p2, iv p3, iv 2, .unset, .unset, .unset, .unset] [(.int 2)])) rfl (hb hby at_7) rfl (by decide) (cap := 2) (by decide) (by decide) (by decide) (by decide)
    obtain ⟨a696, g697⟩ : ∃ z, z = h0.size := ⟨_, rfl⟩
    rw [← g697] at A694 st695
    have nw699 : n0 ≤ a696 := Nat.le_trans Z0 (Nat.le_of_eq g697.symm)
    have hr702 := CHr.ext E693 HV0
    have H700 := hr702.1
    have CH701 := CH0.trans hr702
    have Z703 := Nat.le_trans Z0 E693.1
    have hk704 := Nat.le_trans (Nat.zero_le _) E693.1
    have O705 := O0.ext E693
    have V698 : Arv Z h689 a696 kc690 .char (2 : Int32) [] (.int 0) := Arv.new A694 (by decide)
    refine Way.by st695 ?_
    show Way _ _ _ _ (T688.setTop (mkF m 9 #[iv p0, iv p1, iv p2, iv p3, iv 2, .unset, .unset, .unset, .unset] [(.ref a696)]))
    refine Way.by (fun _ k => XS.astore X691.here hx rfl (hb hby at_9) rfl rfl (l' := #[iv p0, iv p1, iv p2, iv p3, iv 2, rv a696, .unset, .unset, .unset]) rfl k) ?_
    show Way _ _ _ _ (T688.setTop (mkF m 11 #[iv p0, iv p1, iv p2, iv p3, iv 2, rv a696, .unset, .unset, .unset] []))
    refine Way.by (fun _ k => XS.iload X691.here hx rfl (hb hby at_11) rfl k) ?_
    show Way _ _ _ _ (T688.setTop (mkF m 13 #[iv p0, iv p1, iv p2, iv p3, iv 2, rv a696, .unset, .unset, .unset] [(.int 2)]))
    have b706 : (0 : Int32) < (2 : Int32) := by decide
    refine Way.by (fun _ k => XS.ifNo X691.here hx rfl (hb hby at_13) rfl ((if0 .le _).trans (tlt b706).2.2.2) k) ?_
    show Way _ _ _ _ (T688.setTop (mkF m 16 #[iv p0, iv p1, iv p2, iv p3, iv 2, rv a696, .unset, .unset, .unset] []))
    refine Way.by (fun _ k => XS.aload X691.here hx rfl (hb hby at_16) rfl rfl k) ?_
    refine Way.by (fun _ k => XS.iconst X691.here hx rfl (hb hby at_18) k) ?_
    refine Way.by (fun _ k => XS.iloadN X691.here hx rfl (hb hby at_19) rfl k) ?_
    show Way _ _ _ _ (T688.setTop (mkF m 20 #[iv p0, iv p1, iv p2, iv p3, iv 2, rv a696, .unset, .unset, .unset] [(.int p1), (.int 0), (.ref a696)]))
    refine Way.by (fun _ k => XS.sipush X691.here hx rfl (hb hby at_20) k) ?_
    show Way _ _ _ _ (T688.setTop (mkF m 23 #[iv p0, iv p1, iv p2, iv p3, iv 2, rv a696, .unset, .unset, .unset] [(.int 255), (.int p1), (.int 0), (.ref a696)]))
    refine Way.by (fun _ k => XS.iand X691.here hx rfl (hb hby at_23) rfl k) ?_
    show Way _ _ _ _ (T688.setTop (mkF m 24 #[iv p0, iv p1, iv p2, iv p3, iv 2, rv a696, .unset, .unset, .unset] [(.int (p1 &&& (255 : Int32))), (.int 0), (.ref a696)]))
    refine Way.by (fun _ k => XT.i2c X691.here hx rfl (hb hby at_24) rfl k) ?_
    show Way _ _ _ _ (T688.setTop (mkF m 25 #[iv p0, iv p1, iv p2, iv p3, iv 2, rv a696, .unset, .unset, .unset] [(.int (p1 &&& (255 : Int32)).toUInt32.toUInt16.toUInt32.toInt32), (.int 0), (.ref a696)]))
    have V707 : Arv Z h689 a696 kc690 .char (2 : Int32) [(.int 0)] (.int 0) := V698.pad (pad_rep [] (.int 0) 1)
    obtain ⟨c708, A709, q710, S711, M712, H713, U714⟩ := id V707
    obtain ⟨T715, h716, X717, e718, W719, st720⟩ := stC X691 hx hZ0 e692 A709 (j := (0 : Int32)) (inb_of S711 ⟨(by decide), (by decide)⟩) (g := (mkF m 25 #[iv p0, iv p1, iv p2, iv p3, iv 2, rv a696, .unset, .unset, .unset] [(.int (p1 &&& (255 : Int32)).toUInt32.toUInt16.toUInt32.toInt32), (.int 0), (.ref a696)])) rfl rfl (hb hby at_25)
    have N721 := Fr.snoc X717 N0 nw699
    have V722 : Arv Z h716 a696 kc690 .char (2 : Int32) [(.int (nar .char (p1 &&& (255 : Int32)).toUInt32.toUInt16.toUInt32.toInt32))] (.int 0) := Arv.set A709 q710 S711 M712 H713 U714 (fits_nar_char _) W719 0 rfl (leB rfl)
    have nq724 : nar .char (p1 &&& (255 : Int32)).toUInt32.toUInt16.toUInt32.toInt32 = (p1 &&& (255 : Int32)).toUInt32.toUInt16.toUInt32.toInt32 := own_n255 _
    have V723 : Arv Z h716 a696 kc690 .char (2 : Int32) [(.int (p1 &&& (255 : Int32)).toUInt32.toUInt16.toUInt32.toInt32)] (.int 0) := by rw [nq724] at V722; exact V722
    have hr727 := CHr.wr W719 (Safe.arv hZ0.alike V698 (by decide)) H700
    have H725 := hr727.1
    have CH726 := CH701.trans hr727
    have Z728 : n0 ≤ h716.size := by rw [W719.size]; exact Z703
    have hk729 := Nat.le_trans hk704 (Nat.le_of_eq W719.size.symm)
    have O730 := O705.wr W719 nw699
    refine Way.by st720 ?_
    show Way _ _ _ _ (T715.setTop (mkF m 26 #[iv p0, iv p1, iv p2, iv p3, iv 2, rv a696, .unset, .unset, .unset] []))
    try clear X691 e692 V698 H700 CH701 Z703 hk704 O705 V707 c708 A709 q710 S711 M712 H713 U714 W719 st720 V722 hr727
    try clear T688 h689
    refine Way.by (fun _ k => XS.iload X717.here hx rfl (hb hby at_26) rfl k) ?_
    refine Way.by (fun _ k => XS.iconst X717.here hx rfl (hb hby at_28) k) ?_
    show Way _ _ _ _ (T715.setTop (mkF m 29 #[iv p0, iv p1, iv p2, iv p3, iv 2, rv a696, .unset, .unset, .unset] [(.int 1), (.int 2)]))
    have b731 : (1 : Int32) < (2 : Int32) := by decide
    refine Way.by (fun _ k => XS.icmpNo X717.here hx rfl (hb hby at_29) rfl (tlt b731).2.2.2 k) ?_
    show Way _ _ _ _ (T715.setTop (mkF m 32 #[iv p0, iv p1, iv p2, iv p3, iv 2, rv a696, .unset, .unset, .unset] []))
    refine Way.by (fun _ k => XS.aload X717.here hx rfl (hb hby at_32) rfl rfl k) ?_
    refine Way.by (fun _ k => XS.iconst X717.here hx rfl (hb hby at_34) k) ?_
    refine Way.by (fun _ k => XS.iloadN X717.here hx rfl (hb hby at_35) rfl k) ?_
    show Way _ _ _ _ (T715.setTop (mkF m 36 #[iv p0, iv p1, iv p2, iv p3, iv 2, rv a696, .unset, .unset, .unset] [(.int p2), (.int 1), (.ref a696)]))
    refine Way.by (fun _ k => XS.sipush X717.here hx rfl (hb hby at_36) k) ?_
    show Way _ _ _ _ (T715.setTop (mkF m 39 #[iv p0, iv p1, iv p2, iv p3, iv 2, rv a696, .unset, .unset, .unset] [(.int 255), (.int p2), (.int 1), (.ref a696)]))
    refine Way.by (fun _ k => XS.iand X717.here hx rfl (hb hby at_39) rfl k) ?_
    show Way _ _ _ _ (T715.setTop (mkF m 40 #[iv p0, iv p1, iv p2, iv p3, iv 2, rv a696, .unset, .unset, .unset] [(.int (p2 &&& (255 : Int32))), (.int 1), (.ref a696)]))
    refine Way.by (fun _ k => XT.i2c X717.here hx rfl (hb hby at_40) rfl k) ?_
    show Way _ _ _ _ (T715.setTop (mkF m 41 #[iv p0, iv p1, iv p2, iv p3, iv 2, rv a696, .unset, .unset, .unset] [(.int (p2 &&& (255 : Int32)).toUInt32.toUInt16.toUInt32.toInt32), (.int 1), (.ref a696)]))
    have V732 : Arv Z h716 a696 kc690 .char (2 : Int32) [(.int (p1 &&& (255 : Int32)).toUInt32.toUInt16.toUInt32.toInt32), (.int 0)] (.int 0) := V723.pad (pad_rep [(.int (p1 &&& (255 : Int32)).toUInt32.toUInt16.toUInt32.toInt32)] (.int 0) 1)
    obtain ⟨c733, A734, q735, S736, M737, H738, U739⟩ := id V732
    obtain ⟨T740, h741, X742, e743, W744, st745⟩ := stC X717 hx hZ0 e718 A734 (j := (1 : Int32)) (inb_of S736 ⟨(by decide), (by decide)⟩) (g := (mkF m 41 #[iv p0, iv p1, iv p2, iv p3, iv 2, rv a696, .unset, .unset, .unset] [(.int (p2 &&& (255 : Int32)).toUInt32.toUInt16.toUInt32.toInt32), (.int 1), (.ref a696)])) rfl rfl (hb hby at_41)
    have N746 := Fr.snoc X742 N721 nw699
    have V747 : Arv Z h741 a696 kc690 .char (2 : Int32) [(.int (p1 &&& (255 : Int32)).toUInt32.toUInt16.toUInt32.toInt32), (.int (nar .char (p2 &&& (255 : Int32)).toUInt32.toUInt16.toUInt32.toInt32))] (.int 0) := Arv.set A734 q735 S736 M737 H738 U739 (fits_nar_char _) W744 1 rfl (leB rfl)
    have nq749 : nar .char (p2 &&& (255 : Int32)).toUInt32.toUInt16.toUInt32.toInt32 = (p2 &&& (255 : Int32)).toUInt32.toUInt16.toUInt32.toInt32 := own_n255 _
    have V748 : Arv Z h741 a696 kc690 .char (2 : Int32) [(.int (p1 &&& (255 : Int32)).toUInt32.toUInt16.toUInt32.toInt32), (.int (p2 &&& (255 : Int32)).toUInt32.toUInt16.toUInt32.toInt32)] (.int 0) := by rw [nq749] at V747; exact V747
    have hr752 := CHr.wr W744 (Safe.arv hZ0.alike V723 (by decide)) H725
    have H750 := hr752.1
    have CH751 := CH726.trans hr752
    have Z753 : n0 ≤ h741.size := by rw [W744.size]; exact Z728
    have hk754 := Nat.le_trans hk729 (Nat.le_of_eq W744.size.symm)
    have O755 := O730.wr W744 nw699
    refine Way.by st745 ?_
    show Way _ _ _ _ (T740.setTop (mkF m 42 #[iv p0, iv p1, iv p2, iv p3, iv 2, rv a696, .unset, .unset, .unset] []))
    try clear X717 e718 N721 V723 H725 CH726 Z728 hk729 O730 V732 c733 A734 q735 S736 M737 H738 U739 W744 st745 V747 hr752
    try clear T715 h716
    refine Way.by (fun _ k => XS.iload X742.here hx rfl (hb hby at_42) rfl k) ?_
    refine Way.by (fun _ k => XS.iconst X742.here hx rfl (hb hby at_44) k) ?_
    show Way _ _ _ _ (T740.setTop (mkF m 45 #[iv p0, iv p1, iv p2, iv p3, iv 2, rv a696, .unset, .unset, .unset] [(.int 2), (.int 2)]))
    have b756 : ¬ (2 : Int32) < (2 : Int32) := by decide
    refine Way.by (fun _ k => XS.icmpYes X742.here hx rfl (pc0 := 45) (pc' := 58) rfl (hb hby at_45) rfl (flt b756).2.2.2 (by decide) (by decide) k) ?_
    show Way _ _ _ _ (T740.setTop (mkF m 58 #[iv p0, iv p1, iv p2, iv p3, iv 2, rv a696, .unset, .unset, .unset] []))
    obtain ⟨T757, h758, X759, e760, E761, A762, D763, -, st764⟩ := newO X742 hx hZ0 hown0 (tw hw 1 rfl) (tw hw 2 rfl) (tw hw 3 rfl) e743 (g := (mkF m 58 #[iv p0, iv p1, iv p2, iv p3, iv 2, rv a696, .unset, .unset, .unset] [])) rfl (hb hby at_58) (by decide) (by decide)
    obtain ⟨a765, g766⟩ : ∃ z, z = h741.size := ⟨_, rfl⟩
    rw [← g766] at A762 D763 st764
    have ne767 : a696 ≠ a765 := Nat.ne_of_lt (Nat.lt_of_lt_of_eq V748.lt g766.symm)
    have nw768 : n0 ≤ a765 := Nat.le_trans Z753 (Nat.le_of_eq g766.symm)
    have Sf769 : Safe Z own_EL s.vm h741 a765 := Safe.new (Nat.le_of_eq g766.symm)
    have hr772 := CHr.ext E761 H750
    have Sf773 := Safe.ext E761 H750 Sf769
    have H770 := hr772.1
    have CH771 := CH751.trans hr772
    have A774 := V748.ext E761
    have Z775 := Nat.le_trans Z753 E761.1
    have hk776 := Nat.le_trans hk754 E761.1
    have O777 := O755.ext E761
    have F778 : Fld Z h758 a765 "java/lang/String" "value" "[B" .null := D763 (Or.inr (tw hw 16 rfl)) (ty := (.array .byte)) (by decide)
    have F779 : Fld Z h758 a765 "java/lang/String" "coder" "B" (.int 0) := D763 (Or.inr (tw hw 17 rfl)) (ty := .byte) (by decide)
    refine Way.by st764 ?_
    show Way _ _ _ _ (T757.setTop (mkF m 61 #[iv p0, iv p1, iv p2, iv p3, iv 2, rv a696, .unset, .unset, .unset] [(.ref a765)]))
    try clear X742 e743 V748 H750 CH751 Z753 hk754 O755 E761 D763 st764 hr772
    try clear T740 h741
    refine Way.by (fun _ k => XS.dup X759.here hx rfl (hb hby at_61) rfl rfl k) ?_
    refine Way.by (fun _ k => XS.aload X759.here hx rfl (hb hby at_62) rfl rfl k) ?_
    show Way _ _ _ _ (T757.setTop (mkF m 64 #[iv p0, iv p1, iv p2, iv p3, iv 2, rv a696, .unset, .unset, .unset] [(.ref a696), (.ref a765), (.ref a765)]))
    have hp780 : ∀ c ∈ ([(p1 &&& (255 : Int32)).toUInt32.toUInt16.toUInt32.toInt32, (p2 &&& (255 : Int32)).toUInt32.toUInt16.toUInt32.toInt32] : List Int32), ¬ c < 0 ∧ ¬ (255 : Int32) < c := by intro c hc; simp only [List.mem_cons, List.not_mem_nil, or_false] at hc; rcases hc with rfl | rfl <;> exact own_b255 _
    obtain ⟨_, _, ⟨T781, L783, k784, n785⟩, -, X782, ⟨Lc786, hQ787, l788, y789, z790⟩, st791⟩ := X759.specialBack hx (y := (⟨"java/lang/String", "<init>", "([C)V"⟩ : MethodName)) rfl hown0 (mvT hZ0 (tw hw 4 rfl)) (mvT hZ0 (tw hw 5 rfl)) (mvT hZ0 (tw hw 6 rfl)) (by decide) (own_new (W := 1) (n0 := n0) hZ0 hw SV O777 (cs := [(p1 &&& (255 : Int32)).toUInt32.toUInt16.toUInt32.toInt32, (p2 &&& (255 : Int32)).toUInt32.toUInt16.toUInt32.toInt32]) (n := 2) nw768 Z775 A762 F778 F779 A774 rfl rfl (by decide) (by decide) hp780 (by decide) (by decide)) (g := (mkF m 64 #[iv p0, iv p1, iv p2, iv p3, iv 2, rv a696, .unset, .unset, .unset] [(.ref a696), (.ref a765), (.ref a765)])) rfl (by rw [hml]; rfl) (Steps.refl _) (a := a765) (argsL := [(.ref a696)]) (rest := [(.ref a765)]) (lenOf own_pdNew rfl) rfl (leW rfl) (hb hby at_64) (fun _ _ => ⟨rfl, e760, (leB rfl), (leB rfl)⟩)
    dsimp only [Pt.U, Pt.locs, Pt.cells, Pt.slots] at X782 l788 y789 z790 st791 hQ787
    subst y789 z790
    obtain ⟨rfl, N797, K798, x_t801, fr_t800, F799⟩ := hQ787
    have N792 : Fr n0 L783 := by rw [l788]; exact Fr.app N746 N797
    have ne802 : a696 ≠ x_t801 := Nat.ne_of_lt (Nat.lt_of_lt_of_le A774.lt fr_t800)
    have ne803 : a765 ≠ x_t801 := Nat.ne_of_lt (Nat.lt_of_lt_of_le A762.lt fr_t800)
    have nw804 : n0 ≤ x_t801 := Nat.le_trans Z775 fr_t800
    have Sf805 : Safe Z own_EL s.vm h758 x_t801 := Safe.new fr_t800
    have hr808 := CHr.keep K798 (sfS Sf773 sf0) H770
    have Sf809 := Safe.keep K798 (sfS Sf773 sf0) H770 Sf773
    have Sf810 := Safe.keep K798 (sfS Sf773 sf0) H770 Sf805
    have H806 := hr808.1
    have CH807 := CH771.trans hr808
    have A811 := A774.keep K798 (ninS ne767 nin0)
    have E812 := A762.keep K798
    have Z813 := Nat.le_trans Z775 K798.1
    have hk814 := Nat.le_trans hk776 K798.1
    have O815 := O777.keep K798 (allS nw768 all0)
    refine Way.to st791 ?_
    show Way _ _ _ _ (T781.setTop (mkF m 67 #[iv p0, iv p1, iv p2, iv p3, iv 2, rv a696, .unset, .unset, .unset] [(.ref a765)]))
    try clear N746 X759 e760 A762 H770 CH771 Sf773 A774 Z775 hk776 O777 F778 F779 st791 N797 K798 hr808
    try clear T757 h758
    refine Way.by (fun _ k => XS.astore X782.here hx rfl (hb hby at_67) rfl rfl (l' := #[iv p0, iv p1, iv p2, iv p3, iv 2, rv a696, rv a765, .unset, .unset]) rfl k) ?_
    show Way _ _ _ _ (T781.setTop (mkF m 69 #[iv p0, iv p1, iv p2, iv p3, iv 2, rv a696, rv a765, .unset, .unset] []))
    refine Way.by (fun _ k => XS.aload X782.here hx rfl (hb hby at_69) rfl rfl k) ?_
    show Way _ _ _ _ (T781.setTop (mkF m 71 #[iv p0, iv p1, iv p2, iv p3, iv 2, rv a696, rv a765, .unset, .unset] [(.ref a765)]))
    have hb816 : ∀ c ∈ ([(p1 &&& (255 : Int32)).toUInt32.toUInt16.toUInt32.toInt32, (p2 &&& (255 : Int32)).toUInt32.toUInt16.toUInt32.toInt32, 46, 115, 104, 97, 53, 49, 50] : List Int32), ¬ c < 0 ∧ ¬ (255 : Int32) < c := by intro c hc; simp only [List.mem_cons, List.not_mem_nil, or_false] at hc; rcases hc with rfl | rfl | rfl | rfl | rfl | rfl | rfl | rfl | rfl <;> first | decide | exact own_b255 _
    obtain ⟨_, _, ⟨T817, L819, k820, n821⟩, -, X818, hS830, hg831, ⟨Lc822, hQ823, l824, y825, z826, hr832⟩, st827⟩ := callSS X782 hx (y := (⟨"com/example/longhold/longhold/store/DigestFile", "nameFor", "(Ljava/lang/String;)Ljava/lang/String;"⟩ : MethodName)) hown0 (mvT hZ0 (tw hw 22 rfl)) (mvT hZ0 (tw hw 23 rfl)) (mvT hZ0 (tw hw 24 rfl)) (mvT hZ0 (tw hw 25 rfl)) (by decide) (backOfSH (W := 0) (rmNF2 l Z a0 hw [] a765 x_t801 (p1 &&& (255 : Int32)).toUInt32.toUInt16.toUInt32.toInt32 (p2 &&& (255 : Int32)).toUInt32.toUInt16.toUInt32.toInt32 ud ul ult T781.heap n0 Z813 F799 hb816 O815 SV SDG EDG FLB SLB) hZ0 (tw hw 25 rfl) (tw hw 24 rfl) (by decide) (by decide) hEL H806) (g := (mkF m 71 #[iv p0, iv p1, iv p2, iv p3, iv 2, rv a696, rv a765, .unset, .unset] [(.ref a765)])) rfl (by rw [hml]; rfl) (argsL := [(.ref a765)]) (rest := []) (lenOf pdNF0 rfl) rfl (leW rfl) (hb hby at_71) (fun _ _ => ⟨rfl, rfl, (leB rfl), (leB rfl)⟩)
    dsimp only [Pt.U, Pt.locs, Pt.cells, Pt.slots] at X818 l824 y825 z826 st827 hQ823 hS830 hg831 hr832
    subst y825 z826
    obtain ⟨X833, hS834, hZ835, hown836⟩ := rebS hS0 (by exact hk814) X818 hS830 hg831 hZ0 hown0
    obtain ⟨x_bx841, x_bt840, rfl, N837, K838, F_0839⟩ := hQ823
    have N828 : Fr n0 L819 := by rw [l824]; exact Fr.app N792 N837
    have Sf845 := CHr.safe hr832 E812.lt Sf809
    have Sf846 := CHr.safe hr832 F799.lt2 Sf810
    have H842 := hr832.1
    have CH843 := CH807.trans hr832
    have A847 := A811.keep K838 nin0
    have E848 := E812.keep K838
    have S849 := F799.keep K838 nin0 nin0
    have Z850 := Nat.le_trans Z813 K838.1
    have O851 := O815.keep K838 all0
    refine Way.to st827 ?_
    show Way _ _ _ _ (T817.setTop (mkF m 74 #[iv p0, iv p1, iv p2, iv p3, iv 2, rv a696, rv a765, .unset, .unset] [(.ref x_bx841)]))
    try clear X782 N792 F799 H806 CH807 Sf809 Sf810 A811 E812 Z813 hk814 O815 X818 st827 hS830 hg831 hr832 N837 K838
    try clear T781
    refine Way.by (fun _ k => XS.astore X833.here hx rfl (hb hby at_74) rfl rfl (l' := #[iv p0, iv p1, iv p2, iv p3, iv 2, rv a696, rv a765, rv x_bx841, .unset]) rfl k) ?_
    show Way _ _ _ _ (T817.setTop (mkF m 76 #[iv p0, iv p1, iv p2, iv p3, iv 2, rv a696, rv a765, rv x_bx841, .unset] []))
    refine Way.by (fun _ k => XS.aload X833.here hx rfl (hb hby at_76) rfl rfl k) ?_
    show Way _ _ _ _ (T817.setTop (mkF m 78 #[iv p0, iv p1, iv p2, iv p3, iv 2, rv a696, rv a765, rv x_bx841, .unset] [(.ref x_bx841)]))
    refine Way.by (fun _ k => XS.ifnullNo X833.here hx rfl (hb hby at_78) rfl k) ?_
    show Way _ _ _ _ (T817.setTop (mkF m 81 #[iv p0, iv p1, iv p2, iv p3, iv 2, rv a696, rv a765, rv x_bx841, .unset] []))
    refine Way.by (fun _ k => XS.aload X833.here hx rfl (hb hby at_81) rfl rfl k) ?_
    show Way _ _ _ _ (T817.setTop (mkF m 83 #[iv p0, iv p1, iv p2, iv p3, iv 2, rv a696, rv a765, rv x_bx841, .unset] [(.ref x_bx841)]))
    obtain ⟨cq868, kq869, qa870, qb871, qc872⟩ := isOf hZ835 rfl F_0839.1
    obtain ⟨_, _, ⟨T852, L854, k855, n856⟩, -, X853, ⟨Lc857, hQ858, l859, y860, z861⟩, st862⟩ := X833.virtualBack hx (y := (⟨"java/lang/String", "length", "()I"⟩ : MethodName)) (z := (⟨"java/lang/String", "length", "()I"⟩ : MethodName)) hown836 (mvT hZ835 (tw hw 149 rfl)) (mvT hZ835 (tw hw 55 rfl)) (notFace_of_selects (args := #[]) (mvT hZ835 (tw hw 57 rfl))) (mvT hZ835 (tw hw 57 rfl)) (mvT hZ835 (tw hw 56 rfl)) (by decide) (own_len (W := 0) (n0 := n0) hZ835 hw SV O851 (cs := [(p1 &&& (255 : Int32)).toUInt32.toUInt16.toUInt32.toInt32, (p2 &&& (255 : Int32)).toUInt32.toUInt16.toUInt32.toInt32, 46, 115, 104, 97, 53, 49, 50]) F_0839 (by decide) (by decide)) qa870 qc872 (g := (mkF m 83 #[iv p0, iv p1, iv p2, iv p3, iv 2, rv a696, rv a765, rv x_bx841, .unset] [(.ref x_bx841)])) rfl (by rw [hml]; rfl) (Steps.refl _) (argsL := []) (rest := []) (lenOf own_pdLen rfl) rfl (leW rfl) (hb hby at_83) (fun _ _ => ⟨rfl, rfl, (leB rfl), (leB rfl)⟩)
    dsimp only [Pt.U, Pt.locs, Pt.cells, Pt.slots] at X853 l859 y860 z861 st862 hQ858
    subst y860 z861
    obtain ⟨rfl, N873, e864⟩ := hQ858
    have N863 : Fr n0 L854 := by rw [l859]; exact Fr.app N828 N873
    refine Way.to st862 ?_
    show Way _ _ _ _ (T852.setTop (mkF m 86 #[iv p0, iv p1, iv p2, iv p3, iv 2, rv a696, rv a765, rv x_bx841, .unset] [(.int 9)]))
    try clear N828 X833 st862 cq868 kq869 qa870 qb871 qc872 N873
    refine Way.by (fun _ k => XS.iload X853.here hx rfl (hb hby at_86) rfl k) ?_
    refine Way.by (fun _ k => XS.bipush X853.here hx rfl (hb hby at_88) k) ?_
    show Way _ _ _ _ (T852.setTop (mkF m 90 #[iv p0, iv p1, iv p2, iv p3, iv 2, rv a696, rv a765, rv x_bx841, .unset] [(.int 7), (.int 2), (.int 9)]))
    refine Way.by (fun _ k => XS.iadd X853.here hx rfl (hb hby at_90) rfl k) ?_
    show Way _ _ _ _ (T852.setTop (mkF m 91 #[iv p0, iv p1, iv p2, iv p3, iv 2, rv a696, rv a765, rv x_bx841, .unset] [(.int 9), (.int 9)]))
    have b875 : (9 : Int32) = (9 : Int32) := by decide
    refine Way.by (fun _ k => XS.icmpYes X853.here hx rfl (pc0 := 91) (pc' := 96) rfl (hb hby at_91) rfl (teq b875).1 (by decide) (by decide) k) ?_
    show Way _ _ _ _ (T852.setTop (mkF m 96 #[iv p0, iv p1, iv p2, iv p3, iv 2, rv a696, rv a765, rv x_bx841, .unset] []))
    refine Way.by (fun _ k => XS.iconst X853.here hx rfl (hb hby at_96) k) ?_
    show Way _ _ _ _ (T852.setTop (mkF m 97 #[iv p0, iv p1, iv p2, iv p3, iv 2, rv a696, rv a765, rv x_bx841, .unset] [(.int 1)]))
    refine Way.by (fun _ k => XS.istore X853.here hx rfl (hb hby at_97) rfl (l' := #[iv p0, iv p1, iv p2, iv p3, iv 2, rv a696, rv a765, rv x_bx841, iv 1]) rfl k) ?_
    show Way _ _ _ _ (T852.setTop (mkF m 99 #[iv p0, iv p1, iv p2, iv p3, iv 2, rv a696, rv a765, rv x_bx841, iv 1] []))
    refine Way.by (fun _ k => XS.iload X853.here hx rfl (hb hby at_99) rfl k) ?_
    show Way _ _ _ _ (T852.setTop (mkF m 101 #[iv p0, iv p1, iv p2, iv p3, iv 2, rv a696, rv a765, rv x_bx841, iv 1] [(.int 2)]))
    have b876 : (0 : Int32) < (2 : Int32) := by decide
    refine Way.by (fun _ k => XS.ifNo X853.here hx rfl (hb hby at_101) rfl ((if0 .le _).trans (tlt b876).2.2.2) k) ?_
    show Way _ _ _ _ (T852.setTop (mkF m 104 #[iv p0, iv p1, iv p2, iv p3, iv 2, rv a696, rv a765, rv x_bx841, iv 1] []))
    refine Way.by (fun _ k => XS.iload X853.here hx rfl (hb hby at_104) rfl k) ?_
    show Way _ _ _ _ (T852.setTop (mkF m 106 #[iv p0, iv p1, iv p2, iv p3, iv 2, rv a696, rv a765, rv x_bx841, iv 1] [(.int 1)]))
    have b877 : ¬ (1 : Int32) = (0 : Int32) := by decide
    refine Way.by (fun _ k => XS.ifNo X853.here hx rfl (hb hby at_106) rfl ((if0 .eq _).trans (feq b877).1) k) ?_
    show Way _ _ _ _ (T852.setTop (mkF m 109 #[iv p0, iv p1, iv p2, iv p3, iv 2, rv a696, rv a765, rv x_bx841, iv 1] []))
    refine Way.by (fun _ k => XS.aload X853.here hx rfl (hb hby at_109) rfl rfl k) ?_
    refine Way.by (fun _ k => XS.iconst X853.here hx rfl (hb hby at_111) k) ?_
    show Way _ _ _ _ (T852.setTop (mkF m 112 #[iv p0, iv p1, iv p2, iv p3, iv 2, rv a696, rv a765, rv x_bx841, iv 1] [(.int 0), (.ref x_bx841)]))
    obtain ⟨cq894, kq895, qa896, qb897, qc898⟩ := isOf hZ835 e864 F_0839.1
    obtain ⟨_, _, ⟨T878, L880, k881, n882⟩, -, X879, ⟨Lc883, hQ884, l885, y886, z887⟩, st888⟩ := X853.virtualBack hx (y := (⟨"java/lang/String", "charAt", "(I)C"⟩ : MethodName)) (z := (⟨"java/lang/String", "charAt", "(I)C"⟩ : MethodName)) hown836 (mvT hZ835 (tw hw 150 rfl)) (mvT hZ835 (tw hw 151 rfl)) (notFace_of_selects (args := #[]) (mvT hZ835 (tw hw 153 rfl))) (mvT hZ835 (tw hw 153 rfl)) (mvT hZ835 (tw hw 152 rfl)) (by decide) (own_chr (W := 0) (n0 := n0) hZ835 hw SV O851 (cs := [(p1 &&& (255 : Int32)).toUInt32.toUInt16.toUInt32.toInt32, (p2 &&& (255 : Int32)).toUInt32.toUInt16.toUInt32.toInt32, 46, 115, 104, 97, 53, 49, 50]) (i := 0) F_0839 (leB rfl) rfl (by decide) (by decide)) qa896 qc898 (g := (mkF m 112 #[iv p0, iv p1, iv p2, iv p3, iv 2, rv a696, rv a765, rv x_bx841, iv 1] [(.int 0), (.ref x_bx841)])) rfl (by rw [hml]; rfl) (Steps.refl _) (argsL := [(.int 0)]) (rest := []) (lenOf own_pdChr rfl) rfl (leW rfl) (hb hby at_112) (fun _ _ => ⟨rfl, e864, (leB rfl), (leB rfl)⟩)
    dsimp only [Pt.U, Pt.locs, Pt.cells, Pt.slots] at X879 l885 y886 z887 st888 hQ884
    subst y886 z887
    obtain ⟨rfl, N899, e890⟩ := hQ884
    have N889 : Fr n0 L880 := by rw [l885]; exact Fr.app N863 N899
    refine Way.to st888 ?_
    show Way _ _ _ _ (T878.setTop (mkF m 115 #[iv p0, iv p1, iv p2, iv p3, iv 2, rv a696, rv a765, rv x_bx841, iv 1] [(.int (p1 &&& (255 : Int32)).toUInt32.toUInt16.toUInt32.toInt32)]))
    try clear X853 N863 e864 st888 cq894 kq895 qa896 qb897 qc898 N899
    try clear T852
    refine Way.by (fun _ k => XS.aload X879.here hx rfl (hb hby at_115) rfl rfl k) ?_
    refine Way.by (fun _ k => XS.iconst X879.here hx rfl (hb hby at_117) k) ?_
    show Way _ _ _ _ (T878.setTop (mkF m 118 #[iv p0, iv p1, iv p2, iv p3, iv 2, rv a696, rv a765, rv x_bx841, iv 1] [(.int 0), (.ref a696), (.int (p1 &&& (255 : Int32)).toUInt32.toUInt16.toUInt32.toInt32)]))
    obtain ⟨c901, A902, q903, S904, M905, H906, U907⟩ := id A847
    refine Way.by (fun t k => Stand.caload X879 hx (hpE e890 A902.1) (arrS hZ835 A902) A902.2.2 (inb_of S904 ⟨(by decide), (by decide)⟩) (Has.at H906 (inb_of S904 ⟨(by decide), (by decide)⟩) rfl) (g := (mkF m 118 #[iv p0, iv p1, iv p2, iv p3, iv 2, rv a696, rv a765, rv x_bx841, iv 1] [(.int 0), (.ref a696), (.int (p1 &&& (255 : Int32)).toUInt32.toUInt16.toUInt32.toInt32)])) rfl rfl (hb hby at_118) t k) ?_
    show Way _ _ _ _ (T878.setTop (mkF m 119 #[iv p0, iv p1, iv p2, iv p3, iv 2, rv a696, rv a765, rv x_bx841, iv 1] [(.int (p1 &&& (255 : Int32)).toUInt32.toUInt16.toUInt32.toInt32), (.int (p1 &&& (255 : Int32)).toUInt32.toUInt16.toUInt32.toInt32)]))
    have b908 : (p1 &&& (255 : Int32)).toUInt32.toUInt16.toUInt32.toInt32 = (p1 &&& (255 : Int32)).toUInt32.toUInt16.toUInt32.toInt32 := rfl
    refine Way.by (fun _ k => XS.icmpNo X879.here hx rfl (hb hby at_119) rfl (teq b908).2 k) ?_
    show Way _ _ _ _ (T878.setTop (mkF m 122 #[iv p0, iv p1, iv p2, iv p3, iv 2, rv a696, rv a765, rv x_bx841, iv 1] []))
    refine Way.by (fun _ k => XS.iconst X879.here hx rfl (hb hby at_122) k) ?_
    show Way _ _ _ _ (T878.setTop (mkF m 123 #[iv p0, iv p1, iv p2, iv p3, iv 2, rv a696, rv a765, rv x_bx841, iv 1] [(.int 1)]))
    refine Way.by (fun _ k => XS.goto X879.here hx rfl (pc0 := 123) (pc' := 127) rfl (hb hby at_123) (by decide) (by decide) k) ?_
    show Way _ _ _ _ (T878.setTop (mkF m 127 #[iv p0, iv p1, iv p2, iv p3, iv 2, rv a696, rv a765, rv x_bx841, iv 1] [(.int 1)]))
    refine Way.by (fun _ k => XS.istore X879.here hx rfl (hb hby at_127) rfl (l' := #[iv p0, iv p1, iv p2, iv p3, iv 2, rv a696, rv a765, rv x_bx841, iv 1]) rfl k) ?_
    show Way _ _ _ _ (T878.setTop (mkF m 129 #[iv p0, iv p1, iv p2, iv p3, iv 2, rv a696, rv a765, rv x_bx841, iv 1] []))
    refine Way.by (fun _ k => XS.iload X879.here hx rfl (hb hby at_129) rfl k) ?_
    refine Way.by (fun _ k => XS.iconst X879.here hx rfl (hb hby at_131) k) ?_
    show Way _ _ _ _ (T878.setTop (mkF m 132 #[iv p0, iv p1, iv p2, iv p3, iv 2, rv a696, rv a765, rv x_bx841, iv 1] [(.int 1), (.int 2)]))
    have b909 : (1 : Int32) < (2 : Int32) := by decide
    refine Way.by (fun _ k => XS.icmpNo X879.here hx rfl (hb hby at_132) rfl (tlt b909).2.2.2 k) ?_
    show Way _ _ _ _ (T878.setTop (mkF m 135 #[iv p0, iv p1, iv p2, iv p3, iv 2, rv a696, rv a765, rv x_bx841, iv 1] []))
    refine Way.by (fun _ k => XS.iload X879.here hx rfl (hb hby at_135) rfl k) ?_
    show Way _ _ _ _ (T878.setTop (mkF m 137 #[iv p0, iv p1, iv p2, iv p3, iv 2, rv a696, rv a765, rv x_bx841, iv 1] [(.int 1)]))
    have b910 : ¬ (1 : Int32) = (0 : Int32) := by decide
    refine Way.by (fun _ k => XS.ifNo X879.here hx rfl (hb hby at_137) rfl ((if0 .eq _).trans (feq b910).1) k) ?_
    show Way _ _ _ _ (T878.setTop (mkF m 140 #[iv p0, iv p1, iv p2, iv p3, iv 2, rv a696, rv a765, rv x_bx841, iv 1] []))
    refine Way.by (fun _ k => XS.aload X879.here hx rfl (hb hby at_140) rfl rfl k) ?_
    refine Way.by (fun _ k => XS.iconst X879.here hx rfl (hb hby at_142) k) ?_
    show Way _ _ _ _ (T878.setTop (mkF m 143 #[iv p0, iv p1, iv p2, iv p3, iv 2, rv a696, rv a765, rv x_bx841, iv 1] [(.int 1), (.ref x_bx841)]))
    obtain ⟨cq927, kq928, qa929, qb930, qc931⟩ := isOf hZ835 e890 F_0839.1
    obtain ⟨_, _, ⟨T911, L913, k914, n915⟩, -, X912, ⟨Lc916, hQ917, l918, y919, z920⟩, st921⟩ := X879.virtualBack hx (y := (⟨"java/lang/String", "charAt", "(I)C"⟩ : MethodName)) (z := (⟨"java/lang/String", "charAt", "(I)C"⟩ : MethodName)) hown836 (mvT hZ835 (tw hw 150 rfl)) (mvT hZ835 (tw hw 151 rfl)) (notFace_of_selects (args := #[]) (mvT hZ835 (tw hw 153 rfl))) (mvT hZ835 (tw hw 153 rfl)) (mvT hZ835 (tw hw 152 rfl)) (by decide) (own_chr (W := 0) (n0 := n0) hZ835 hw SV O851 (cs := [(p1 &&& (255 : Int32)).toUInt32.toUInt16.toUInt32.toInt32, (p2 &&& (255 : Int32)).toUInt32.toUInt16.toUInt32.toInt32, 46, 115, 104, 97, 53, 49, 50]) (i := 1) F_0839 (leB rfl) rfl (by decide) (by decide)) qa929 qc931 (g := (mkF m 143 #[iv p0, iv p1, iv p2, iv p3, iv 2, rv a696, rv a765, rv x_bx841, iv 1] [(.int 1), (.ref x_bx841)])) rfl (by rw [hml]; rfl) (Steps.refl _) (argsL := [(.int 1)]) (rest := []) (lenOf own_pdChr rfl) rfl (leW rfl) (hb hby at_143) (fun _ _ => ⟨rfl, e890, (leB rfl), (leB rfl)⟩)
    dsimp only [Pt.U, Pt.locs, Pt.cells, Pt.slots] at X912 l918 y919 z920 st921 hQ917
    subst y919 z920
    obtain ⟨rfl, N932, e923⟩ := hQ917
    have N922 : Fr n0 L913 := by rw [l918]; exact Fr.app N889 N932
    refine Way.to st921 ?_
    show Way _ _ _ _ (T911.setTop (mkF m 146 #[iv p0, iv p1, iv p2, iv p3, iv 2, rv a696, rv a765, rv x_bx841, iv 1] [(.int (p2 &&& (255 : Int32)).toUInt32.toUInt16.toUInt32.toInt32)]))
    try clear X879 N889 e890 st921 cq927 kq928 qa929 qb930 qc931 N932
    try clear T878
    refine Way.by (fun _ k => XS.aload X912.here hx rfl (hb hby at_146) rfl rfl k) ?_
    refine Way.by (fun _ k => XS.iconst X912.here hx rfl (hb hby at_148) k) ?_
    show Way _ _ _ _ (T911.setTop (mkF m 149 #[iv p0, iv p1, iv p2, iv p3, iv 2, rv a696, rv a765, rv x_bx841, iv 1] [(.int 1), (.ref a696), (.int (p2 &&& (255 : Int32)).toUInt32.toUInt16.toUInt32.toInt32)]))
    obtain ⟨c934, A935, q936, S937, M938, H939, U940⟩ := id A847
    refine Way.by (fun t k => Stand.caload X912 hx (hpE e923 A935.1) (arrS hZ835 A935) A935.2.2 (inb_of S937 ⟨(by decide), (by decide)⟩) (Has.at H939 (inb_of S937 ⟨(by decide), (by decide)⟩) rfl) (g := (mkF m 149 #[iv p0, iv p1, iv p2, iv p3, iv 2, rv a696, rv a765, rv x_bx841, iv 1] [(.int 1), (.ref a696), (.int (p2 &&& (255 : Int32)).toUInt32.toUInt16.toUInt32.toInt32)])) rfl rfl (hb hby at_149) t k) ?_
    show Way _ _ _ _ (T911.setTop (mkF m 150 #[iv p0, iv p1, iv p2, iv p3, iv 2, rv a696, rv a765, rv x_bx841, iv 1] [(.int (p2 &&& (255 : Int32)).toUInt32.toUInt16.toUInt32.toInt32), (.int (p2 &&& (255 : Int32)).toUInt32.toUInt16.toUInt32.toInt32)]))
    have b941 : (p2 &&& (255 : Int32)).toUInt32.toUInt16.toUInt32.toInt32 = (p2 &&& (255 : Int32)).toUInt32.toUInt16.toUInt32.toInt32 := rfl
    refine Way.by (fun _ k => XS.icmpNo X912.here hx rfl (hb hby at_150) rfl (teq b941).2 k) ?_
    show Way _ _ _ _ (T911.setTop (mkF m 153 #[iv p0, iv p1, iv p2, iv p3, iv 2, rv a696, rv a765, rv x_bx841, iv 1] []))
    refine Way.by (fun _ k => XS.iconst X912.here hx rfl (hb hby at_153) k) ?_
    show Way _ _ _ _ (T911.setTop (mkF m 154 #[iv p0, iv p1, iv p2, iv p3, iv 2, rv a696, rv a765, rv x_bx841, iv 1] [(.int 1)]))
    refine Way.by (fun _ k => XS.goto X912.here hx rfl (pc0 := 154) (pc' := 158) rfl (hb hby at_154) (by decide) (by decide) k) ?_
    show Way _ _ _ _ (T911.setTop (mkF m 158 #[iv p0, iv p1, iv p2, iv p3, iv 2, rv a696, rv a765, rv x_bx841, iv 1] [(.int 1)]))
    refine Way.by (fun _ k => XS.istore X912.here hx rfl (hb hby at_158) rfl (l' := #[iv p0, iv p1, iv p2, iv p3, iv 2, rv a696, rv a765, rv x_bx841, iv 1]) rfl k) ?_
    show Way _ _ _ _ (T911.setTop (mkF m 160 #[iv p0, iv p1, iv p2, iv p3, iv 2, rv a696, rv a765, rv x_bx841, iv 1] []))
    refine Way.by (fun _ k => XS.iload X912.here hx rfl (hb hby at_160) rfl k) ?_
    refine Way.by (fun _ k => XS.iconst X912.here hx rfl (hb hby at_162) k) ?_
    show Way _ _ _ _ (T911.setTop (mkF m 163 #[iv p0, iv p1, iv p2, iv p3, iv 2, rv a696, rv a765, rv x_bx841, iv 1] [(.int 2), (.int 2)]))
    have b942 : ¬ (2 : Int32) < (2 : Int32) := by decide
    refine Way.by (fun _ k => XS.icmpYes X912.here hx rfl (pc0 := 163) (pc' := 191) rfl (hb hby at_163) rfl (flt b942).2.2.2 (by decide) (by decide) k) ?_
    show Way _ _ _ _ (T911.setTop (mkF m 191 #[iv p0, iv p1, iv p2, iv p3, iv 2, rv a696, rv a765, rv x_bx841, iv 1] []))
    refine Way.by (fun _ k => XS.iload X912.here hx rfl (hb hby at_191) rfl k) ?_
    show Way _ _ _ _ (T911.setTop (mkF m 193 #[iv p0, iv p1, iv p2, iv p3, iv 2, rv a696, rv a765, rv x_bx841, iv 1] [(.int 1)]))
    have b943 : ¬ (1 : Int32) = (0 : Int32) := by decide
    refine Way.by (fun _ k => XS.ifNo X912.here hx rfl (hb hby at_193) rfl ((if0 .eq _).trans (feq b943).1) k) ?_
    show Way _ _ _ _ (T911.setTop (mkF m 196 #[iv p0, iv p1, iv p2, iv p3, iv 2, rv a696, rv a765, rv x_bx841, iv 1] []))
    refine Way.by (fun _ k => XS.aload X912.here hx rfl (hb hby at_196) rfl rfl k) ?_
    refine Way.by (fun _ k => XS.iload X912.here hx rfl (hb hby at_198) rfl k) ?_
    show Way _ _ _ _ (T911.setTop (mkF m 200 #[iv p0, iv p1, iv p2, iv p3, iv 2, rv a696, rv a765, rv x_bx841, iv 1] [(.int 2), (.ref x_bx841)]))
    obtain ⟨cq960, kq961, qa962, qb963, qc964⟩ := isOf hZ835 e923 F_0839.1
    obtain ⟨_, _, ⟨T944, L946, k947, n948⟩, -, X945, ⟨Lc949, hQ950, l951, y952, z953⟩, st954⟩ := X912.virtualBack hx (y := (⟨"java/lang/String", "charAt", "(I)C"⟩ : MethodName)) (z := (⟨"java/lang/String", "charAt", "(I)C"⟩ : MethodName)) hown836 (mvT hZ835 (tw hw 150 rfl)) (mvT hZ835 (tw hw 151 rfl)) (notFace_of_selects (args := #[]) (mvT hZ835 (tw hw 153 rfl))) (mvT hZ835 (tw hw 153 rfl)) (mvT hZ835 (tw hw 152 rfl)) (by decide) (own_chr (W := 0) (n0 := n0) hZ835 hw SV O851 (cs := [(p1 &&& (255 : Int32)).toUInt32.toUInt16.toUInt32.toInt32, (p2 &&& (255 : Int32)).toUInt32.toUInt16.toUInt32.toInt32, 46, 115, 104, 97, 53, 49, 50]) (i := 2) F_0839 (leB rfl) rfl (by decide) (by decide)) qa962 qc964 (g := (mkF m 200 #[iv p0, iv p1, iv p2, iv p3, iv 2, rv a696, rv a765, rv x_bx841, iv 1] [(.int 2), (.ref x_bx841)])) rfl (by rw [hml]; rfl) (Steps.refl _) (argsL := [(.int 2)]) (rest := []) (lenOf own_pdChr rfl) rfl (leW rfl) (hb hby at_200) (fun _ _ => ⟨rfl, e923, (leB rfl), (leB rfl)⟩)
    dsimp only [Pt.U, Pt.locs, Pt.cells, Pt.slots] at X945 l951 y952 z953 st954 hQ950
    subst y952 z953
    obtain ⟨rfl, N965, e956⟩ := hQ950
    have N955 : Fr n0 L946 := by rw [l951]; exact Fr.app N922 N965
    refine Way.to st954 ?_
    show Way _ _ _ _ (T944.setTop (mkF m 203 #[iv p0, iv p1, iv p2, iv p3, iv 2, rv a696, rv a765, rv x_bx841, iv 1] [(.int 46)]))
    try clear X912 N922 e923 st954 cq960 kq961 qa962 qb963 qc964 N965
    try clear T911
    refine Way.by (fun _ k => XS.bipush X945.here hx rfl (hb hby at_203) k) ?_
    show Way _ _ _ _ (T944.setTop (mkF m 205 #[iv p0, iv p1, iv p2, iv p3, iv 2, rv a696, rv a765, rv x_bx841, iv 1] [(.int 46), (.int 46)]))
    have b967 : (46 : Int32) = (46 : Int32) := by decide
    refine Way.by (fun _ k => XS.icmpNo X945.here hx rfl (hb hby at_205) rfl (teq b967).2 k) ?_
    show Way _ _ _ _ (T944.setTop (mkF m 208 #[iv p0, iv p1, iv p2, iv p3, iv 2, rv a696, rv a765, rv x_bx841, iv 1] []))
    refine Way.by (fun _ k => XS.iconst X945.here hx rfl (hb hby at_208) k) ?_
    show Way _ _ _ _ (T944.setTop (mkF m 209 #[iv p0, iv p1, iv p2, iv p3, iv 2, rv a696, rv a765, rv x_bx841, iv 1] [(.int 1)]))
    refine Way.by (fun _ k => XS.goto X945.here hx rfl (pc0 := 209) (pc' := 213) rfl (hb hby at_209) (by decide) (by decide) k) ?_
    show Way _ _ _ _ (T944.setTop (mkF m 213 #[iv p0, iv p1, iv p2, iv p3, iv 2, rv a696, rv a765, rv x_bx841, iv 1] [(.int 1)]))
    refine Way.by (fun _ k => XS.istore X945.here hx rfl (hb hby at_213) rfl (l' := #[iv p0, iv p1, iv p2, iv p3, iv 2, rv a696, rv a765, rv x_bx841, iv 1]) rfl k) ?_
    show Way _ _ _ _ (T944.setTop (mkF m 215 #[iv p0, iv p1, iv p2, iv p3, iv 2, rv a696, rv a765, rv x_bx841, iv 1] []))
    refine Way.by (fun _ k => XS.iload X945.here hx rfl (hb hby at_215) rfl k) ?_
    show Way _ _ _ _ (T944.setTop (mkF m 217 #[iv p0, iv p1, iv p2, iv p3, iv 2, rv a696, rv a765, rv x_bx841, iv 1] [(.int 1)]))
    have b968 : ¬ (1 : Int32) = (0 : Int32) := by decide
    refine Way.by (fun _ k => XS.ifNo X945.here hx rfl (hb hby at_217) rfl ((if0 .eq _).trans (feq b968).1) k) ?_
    show Way _ _ _ _ (T944.setTop (mkF m 220 #[iv p0, iv p1, iv p2, iv p3, iv 2, rv a696, rv a765, rv x_bx841, iv 1] []))
    refine Way.by (fun _ k => XS.aload X945.here hx rfl (hb hby at_220) rfl rfl k) ?_
    refine Way.by (fun _ k => XS.iload X945.here hx rfl (hb hby at_222) rfl k) ?_
    refine Way.by (fun _ k => XS.iconst X945.here hx rfl (hb hby at_224) k) ?_
    show Way _ _ _ _ (T944.setTop (mkF m 225 #[iv p0, iv p1, iv p2, iv p3, iv 2, rv a696, rv a765, rv x_bx841, iv 1] [(.int 1), (.int 2), (.ref x_bx841)]))
    refine Way.by (fun _ k => XS.iadd X945.here hx rfl (hb hby at_225) rfl k) ?_
    show Way _ _ _ _ (T944.setTop (mkF m 226 #[iv p0, iv p1, iv p2, iv p3, iv 2, rv a696, rv a765, rv x_bx841, iv 1] [(.int 3), (.ref x_bx841)]))
    obtain ⟨cq985, kq986, qa987, qb988, qc989⟩ := isOf hZ835 e956 F_0839.1
    obtain ⟨_, _, ⟨T969, L971, k972, n973⟩, -, X970, ⟨Lc974, hQ975, l976, y977, z978⟩, st979⟩ := X945.virtualBack hx (y := (⟨"java/lang/String", "charAt", "(I)C"⟩ : MethodName)) (z := (⟨"java/lang/String", "charAt", "(I)C"⟩ : MethodName)) hown836 (mvT hZ835 (tw hw 150 rfl)) (mvT hZ835 (tw hw 151 rfl)) (notFace_of_selects (args := #[]) (mvT hZ835 (tw hw 153 rfl))) (mvT hZ835 (tw hw 153 rfl)) (mvT hZ835 (tw hw 152 rfl)) (by decide) (own_chr (W := 0) (n0 := n0) hZ835 hw SV O851 (cs := [(p1 &&& (255 : Int32)).toUInt32.toUInt16.toUInt32.toInt32, (p2 &&& (255 : Int32)).toUInt32.toUInt16.toUInt32.toInt32, 46, 115, 104, 97, 53, 49, 50]) (i := 3) F_0839 (leB rfl) rfl (by decide) (by decide)) qa987 qc989 (g := (mkF m 226 #[iv p0, iv p1, iv p2, iv p3, iv 2, rv a696, rv a765, rv x_bx841, iv 1] [(.int 3), (.ref x_bx841)])) rfl (by rw [hml]; rfl) (Steps.refl _) (argsL := [(.int 3)]) (rest := []) (lenOf own_pdChr rfl) rfl (leW rfl) (hb hby at_226) (fun _ _ => ⟨rfl, e956, (leB rfl), (leB rfl)⟩)
    dsimp only [Pt.U, Pt.locs, Pt.cells, Pt.slots] at X970 l976 y977 z978 st979 hQ975
    subst y977 z978
    obtain ⟨rfl, N990, e981⟩ := hQ975
    have N980 : Fr n0 L971 := by rw [l976]; exact Fr.app N955 N990
    refine Way.to st979 ?_
    show Way _ _ _ _ (T969.setTop (mkF m 229 #[iv p0, iv p1, iv p2, iv p3, iv 2, rv a696, rv a765, rv x_bx841, iv 1] [(.int 115)]))
    try clear X945 N955 e956 st979 cq985 kq986 qa987 qb988 qc989 N990
    try clear T944
    refine Way.by (fun _ k => XS.bipush X970.here hx rfl (hb hby at_229) k) ?_
    show Way _ _ _ _ (T969.setTop (mkF m 231 #[iv p0, iv p1, iv p2, iv p3, iv 2, rv a696, rv a765, rv x_bx841, iv 1] [(.int 115), (.int 115)]))
    have b992 : (115 : Int32) = (115 : Int32) := by decide
    refine Way.by (fun _ k => XS.icmpNo X970.here hx rfl (hb hby at_231) rfl (teq b992).2 k) ?_
    show Way _ _ _ _ (T969.setTop (mkF m 234 #[iv p0, iv p1, iv p2, iv p3, iv 2, rv a696, rv a765, rv x_bx841, iv 1] []))
    refine Way.by (fun _ k => XS.iconst X970.here hx rfl (hb hby at_234) k) ?_
    show Way _ _ _ _ (T969.setTop (mkF m 235 #[iv p0, iv p1, iv p2, iv p3, iv 2, rv a696, rv a765, rv x_bx841, iv 1] [(.int 1)]))
    refine Way.by (fun _ k => XS.goto X970.here hx rfl (pc0 := 235) (pc' := 239) rfl (hb hby at_235) (by decide) (by decide) k) ?_
    show Way _ _ _ _ (T969.setTop (mkF m 239 #[iv p0, iv p1, iv p2, iv p3, iv 2, rv a696, rv a765, rv x_bx841, iv 1] [(.int 1)]))
    refine Way.by (fun _ k => XS.istore X970.here hx rfl (hb hby at_239) rfl (l' := #[iv p0, iv p1, iv p2, iv p3, iv 2, rv a696, rv a765, rv x_bx841, iv 1]) rfl k) ?_
    show Way _ _ _ _ (T969.setTop (mkF m 241 #[iv p0, iv p1, iv p2, iv p3, iv 2, rv a696, rv a765, rv x_bx841, iv 1] []))
    refine Way.by (fun _ k => XS.iload X970.here hx rfl (hb hby at_241) rfl k) ?_
    show Way _ _ _ _ (T969.setTop (mkF m 243 #[iv p0, iv p1, iv p2, iv p3, iv 2, rv a696, rv a765, rv x_bx841, iv 1] [(.int 1)]))
    have b993 : ¬ (1 : Int32) = (0 : Int32) := by decide
    refine Way.by (fun _ k => XS.ifNo X970.here hx rfl (hb hby at_243) rfl ((if0 .eq _).trans (feq b993).1) k) ?_
    show Way _ _ _ _ (T969.setTop (mkF m 246 #[iv p0, iv p1, iv p2, iv p3, iv 2, rv a696, rv a765, rv x_bx841, iv 1] []))
    refine Way.by (fun _ k => XS.aload X970.here hx rfl (hb hby at_246) rfl rfl k) ?_
    refine Way.by (fun _ k => XS.iload X970.here hx rfl (hb hby at_248) rfl k) ?_
    refine Way.by (fun _ k => XS.iconst X970.here hx rfl (hb hby at_250) k) ?_
    show Way _ _ _ _ (T969.setTop (mkF m 251 #[iv p0, iv p1, iv p2, iv p3, iv 2, rv a696, rv a765, rv x_bx841, iv 1] [(.int 2), (.int 2), (.ref x_bx841)]))
    refine Way.by (fun _ k => XS.iadd X970.here hx rfl (hb hby at_251) rfl k) ?_
    show Way _ _ _ _ (T969.setTop (mkF m 252 #[iv p0, iv p1, iv p2, iv p3, iv 2, rv a696, rv a765, rv x_bx841, iv 1] [(.int 4), (.ref x_bx841)]))
    obtain ⟨cq1010, kq1011, qa1012, qb1013, qc1014⟩ := isOf hZ835 e981 F_0839.1
    obtain ⟨_, _, ⟨T994, L996, k997, n998⟩, -, X995, ⟨Lc999, hQ1000, l1001, y1002, z1003⟩, st1004⟩ := X970.virtualBack hx (y := (⟨"java/lang/String", "charAt", "(I)C"⟩ : MethodName)) (z := (⟨"java/lang/String", "charAt", "(I)C"⟩ : MethodName)) hown836 (mvT hZ835 (tw hw 150 rfl)) (mvT hZ835 (tw hw 151 rfl)) (notFace_of_selects (args := #[]) (mvT hZ835 (tw hw 153 rfl))) (mvT hZ835 (tw hw 153 rfl)) (mvT hZ835 (tw hw 152 rfl)) (by decide) (own_chr (W := 0) (n0 := n0) hZ835 hw SV O851 (cs := [(p1 &&& (255 : Int32)).toUInt32.toUInt16.toUInt32.toInt32, (p2 &&& (255 : Int32)).toUInt32.toUInt16.toUInt32.toInt32, 46, 115, 104, 97, 53, 49, 50]) (i := 4) F_0839 (leB rfl) rfl (by decide) (by decide)) qa1012 qc1014 (g := (mkF m 252 #[iv p0, iv p1, iv p2, iv p3, iv 2, rv a696, rv a765, rv x_bx841, iv 1] [(.int 4), (.ref x_bx841)])) rfl (by rw [hml]; rfl) (Steps.refl _) (argsL := [(.int 4)]) (rest := []) (lenOf own_pdChr rfl) rfl (leW rfl) (hb hby at_252) (fun _ _ => ⟨rfl, e981, (leB rfl), (leB rfl)⟩)
    dsimp only [Pt.U, Pt.locs, Pt.cells, Pt.slots] at X995 l1001 y1002 z1003 st1004 hQ1000
    subst y1002 z1003
    obtain ⟨rfl, N1015, e1006⟩ := hQ1000
    have N1005 : Fr n0 L996 := by rw [l1001]; exact Fr.app N980 N1015
    refine Way.to st1004 ?_
    show Way _ _ _ _ (T994.setTop (mkF m 255 #[iv p0, iv p1, iv p2, iv p3, iv 2, rv a696, rv a765, rv x_bx841, iv 1] [(.int 104)]))
    try clear X970 N980 e981 st1004 cq1010 kq1011 qa1012 qb1013 qc1014 N1015
    try clear T969
    refine Way.by (fun _ k => XS.bipush X995.here hx rfl (hb hby at_255) k) ?_
    show Way _ _ _ _ (T994.setTop (mkF m 257 #[iv p0, iv p1, iv p2, iv p3, iv 2, rv a696, rv a765, rv x_bx841, iv 1] [(.int 104), (.int 104)]))
    have b1017 : (104 : Int32) = (104 : Int32) := by decide
    refine Way.by (fun _ k => XS.icmpNo X995.here hx rfl (hb hby at_257) rfl (teq b1017).2 k) ?_
    show Way _ _ _ _ (T994.setTop (mkF m 260 #[iv p0, iv p1, iv p2, iv p3, iv 2, rv a696, rv a765, rv x_bx841, iv 1] []))
    refine Way.by (fun _ k => XS.iconst X995.here hx rfl (hb hby at_260) k) ?_
    show Way _ _ _ _ (T994.setTop (mkF m 261 #[iv p0, iv p1, iv p2, iv p3, iv 2, rv a696, rv a765, rv x_bx841, iv 1] [(.int 1)]))
    refine Way.by (fun _ k => XS.goto X995.here hx rfl (pc0 := 261) (pc' := 265) rfl (hb hby at_261) (by decide) (by decide) k) ?_
    show Way _ _ _ _ (T994.setTop (mkF m 265 #[iv p0, iv p1, iv p2, iv p3, iv 2, rv a696, rv a765, rv x_bx841, iv 1] [(.int 1)]))
    refine Way.by (fun _ k => XS.istore X995.here hx rfl (hb hby at_265) rfl (l' := #[iv p0, iv p1, iv p2, iv p3, iv 2, rv a696, rv a765, rv x_bx841, iv 1]) rfl k) ?_
    show Way _ _ _ _ (T994.setTop (mkF m 267 #[iv p0, iv p1, iv p2, iv p3, iv 2, rv a696, rv a765, rv x_bx841, iv 1] []))
    refine Way.by (fun _ k => XS.iload X995.here hx rfl (hb hby at_267) rfl k) ?_
    show Way _ _ _ _ (T994.setTop (mkF m 269 #[iv p0, iv p1, iv p2, iv p3, iv 2, rv a696, rv a765, rv x_bx841, iv 1] [(.int 1)]))
    have b1018 : ¬ (1 : Int32) = (0 : Int32) := by decide
    refine Way.by (fun _ k => XS.ifNo X995.here hx rfl (hb hby at_269) rfl ((if0 .eq _).trans (feq b1018).1) k) ?_
    show Way _ _ _ _ (T994.setTop (mkF m 272 #[iv p0, iv p1, iv p2, iv p3, iv 2, rv a696, rv a765, rv x_bx841, iv 1] []))
    refine Way.by (fun _ k => XS.aload X995.here hx rfl (hb hby at_272) rfl rfl k) ?_
    refine Way.by (fun _ k => XS.iload X995.here hx rfl (hb hby at_274) rfl k) ?_
    refine Way.by (fun _ k => XS.iconst X995.here hx rfl (hb hby at_276) k) ?_
    show Way _ _ _ _ (T994.setTop (mkF m 277 #[iv p0, iv p1, iv p2, iv p3, iv 2, rv a696, rv a765, rv x_bx841, iv 1] [(.int 3), (.int 2), (.ref x_bx841)]))
    refine Way.by (fun _ k => XS.iadd X995.here hx rfl (hb hby at_277) rfl k) ?_
    show Way _ _ _ _ (T994.setTop (mkF m 278 #[iv p0, iv p1, iv p2, iv p3, iv 2, rv a696, rv a765, rv x_bx841, iv 1] [(.int 5), (.ref x_bx841)]))
    obtain ⟨cq1035, kq1036, qa1037, qb1038, qc1039⟩ := isOf hZ835 e1006 F_0839.1
    obtain ⟨_, _, ⟨T1019, L1021, k1022, n1023⟩, -, X1020, ⟨Lc1024, hQ1025, l1026, y1027, z1028⟩, st1029⟩ := X995.virtualBack hx (y := (⟨"java/lang/String", "charAt", "(I)C"⟩ : MethodName)) (z := (⟨"java/lang/String", "charAt", "(I)C"⟩ : MethodName)) hown836 (mvT hZ835 (tw hw 150 rfl)) (mvT hZ835 (tw hw 151 rfl)) (notFace_of_selects (args := #[]) (mvT hZ835 (tw hw 153 rfl))) (mvT hZ835 (tw hw 153 rfl)) (mvT hZ835 (tw hw 152 rfl)) (by decide) (own_chr (W := 0) (n0 := n0) hZ835 hw SV O851 (cs := [(p1 &&& (255 : Int32)).toUInt32.toUInt16.toUInt32.toInt32, (p2 &&& (255 : Int32)).toUInt32.toUInt16.toUInt32.toInt32, 46, 115, 104, 97, 53, 49, 50]) (i := 5) F_0839 (leB rfl) rfl (by decide) (by decide)) qa1037 qc1039 (g := (mkF m 278 #[iv p0, iv p1, iv p2, iv p3, iv 2, rv a696, rv a765, rv x_bx841, iv 1] [(.int 5), (.ref x_bx841)])) rfl (by rw [hml]; rfl) (Steps.refl _) (argsL := [(.int 5)]) (rest := []) (lenOf own_pdChr rfl) rfl (leW rfl) (hb hby at_278) (fun _ _ => ⟨rfl, e1006, (leB rfl), (leB rfl)⟩)
    dsimp only [Pt.U, Pt.locs, Pt.cells, Pt.slots] at X1020 l1026 y1027 z1028 st1029 hQ1025
    subst y1027 z1028
    obtain ⟨rfl, N1040, e1031⟩ := hQ1025
    have N1030 : Fr n0 L1021 := by rw [l1026]; exact Fr.app N1005 N1040
    refine Way.to st1029 ?_
    show Way _ _ _ _ (T1019.setTop (mkF m 281 #[iv p0, iv p1, iv p2, iv p3, iv 2, rv a696, rv a765, rv x_bx841, iv 1] [(.int 97)]))
    try clear X995 N1005 e1006 st1029 cq1035 kq1036 qa1037 qb1038 qc1039 N1040
    try clear T994
    refine Way.by (fun _ k => XS.bipush X1020.here hx rfl (hb hby at_281) k) ?_
    show Way _ _ _ _ (T1019.setTop (mkF m 283 #[iv p0, iv p1, iv p2, iv p3, iv 2, rv a696, rv a765, rv x_bx841, iv 1] [(.int 97), (.int 97)]))
    have b1042 : (97 : Int32) = (97 : Int32) := by decide
    refine Way.by (fun _ k => XS.icmpNo X1020.here hx rfl (hb hby at_283) rfl (teq b1042).2 k) ?_
    show Way _ _ _ _ (T1019.setTop (mkF m 286 #[iv p0, iv p1, iv p2, iv p3, iv 2, rv a696, rv a765, rv x_bx841, iv 1] []))
    refine Way.by (fun _ k => XS.iconst X1020.here hx rfl (hb hby at_286) k) ?_
    show Way _ _ _ _ (T1019.setTop (mkF m 287 #[iv p0, iv p1, iv p2, iv p3, iv 2, rv a696, rv a765, rv x_bx841, iv 1] [(.int 1)]))
    refine Way.by (fun _ k => XS.goto X1020.here hx rfl (pc0 := 287) (pc' := 291) rfl (hb hby at_287) (by decide) (by decide) k) ?_
    show Way _ _ _ _ (T1019.setTop (mkF m 291 #[iv p0, iv p1, iv p2, iv p3, iv 2, rv a696, rv a765, rv x_bx841, iv 1] [(.int 1)]))
    refine Way.by (fun _ k => XS.istore X1020.here hx rfl (hb hby at_291) rfl (l' := #[iv p0, iv p1, iv p2, iv p3, iv 2, rv a696, rv a765, rv x_bx841, iv 1]) rfl k) ?_
    show Way _ _ _ _ (T1019.setTop (mkF m 293 #[iv p0, iv p1, iv p2, iv p3, iv 2, rv a696, rv a765, rv x_bx841, iv 1] []))
    refine Way.by (fun _ k => XS.iload X1020.here hx rfl (hb hby at_293) rfl k) ?_
    show Way _ _ _ _ (T1019.setTop (mkF m 295 #[iv p0, iv p1, iv p2, iv p3, iv 2, rv a696, rv a765, rv x_bx841, iv 1] [(.int 1)]))
    have b1043 : ¬ (1 : Int32) = (0 : Int32) := by decide
    refine Way.by (fun _ k => XS.ifNo X1020.here hx rfl (hb hby at_295) rfl ((if0 .eq _).trans (feq b1043).1) k) ?_
    show Way _ _ _ _ (T1019.setTop (mkF m 298 #[iv p0, iv p1, iv p2, iv p3, iv 2, rv a696, rv a765, rv x_bx841, iv 1] []))
    refine Way.by (fun _ k => XS.aload X1020.here hx rfl (hb hby at_298) rfl rfl k) ?_
    refine Way.by (fun _ k => XS.iload X1020.here hx rfl (hb hby at_300) rfl k) ?_
    refine Way.by (fun _ k => XS.iconst X1020.here hx rfl (hb hby at_302) k) ?_
    show Way _ _ _ _ (T1019.setTop (mkF m 303 #[iv p0, iv p1, iv p2, iv p3, iv 2, rv a696, rv a765, rv x_bx841, iv 1] [(.int 4), (.int 2), (.ref x_bx841)]))
    refine Way.by (fun _ k => XS.iadd X1020.here hx rfl (hb hby at_303) rfl k) ?_
    show Way _ _ _ _ (T1019.setTop (mkF m 304 #[iv p0, iv p1, iv p2, iv p3, iv 2, rv a696, rv a765, rv x_bx841, iv 1] [(.int 6), (.ref x_bx841)]))
    obtain ⟨cq1060, kq1061, qa1062, qb1063, qc1064⟩ := isOf hZ835 e1031 F_0839.1
    obtain ⟨_, _, ⟨T1044, L1046, k1047, n1048⟩, -, X1045, ⟨Lc1049, hQ1050, l1051, y1052, z1053⟩, st1054⟩ := X1020.virtualBack hx (y := (⟨"java/lang/String", "charAt", "(I)C"⟩ : MethodName)) (z := (⟨"java/lang/String", "charAt", "(I)C"⟩ : MethodName)) hown836 (mvT hZ835 (tw hw 150 rfl)) (mvT hZ835 (tw hw 151 rfl)) (notFace_of_selects (args := #[]) (mvT hZ835 (tw hw 153 rfl))) (mvT hZ835 (tw hw 153 rfl)) (mvT hZ835 (tw hw 152 rfl)) (by decide) (own_chr (W := 0) (n0 := n0) hZ835 hw SV O851 (cs := [(p1 &&& (255 : Int32)).toUInt32.toUInt16.toUInt32.toInt32, (p2 &&& (255 : Int32)).toUInt32.toUInt16.toUInt32.toInt32, 46, 115, 104, 97, 53, 49, 50]) (i := 6) F_0839 (leB rfl) rfl (by decide) (by decide)) qa1062 qc1064 (g := (mkF m 304 #[iv p0, iv p1, iv p2, iv p3, iv 2, rv a696, rv a765, rv x_bx841, iv 1] [(.int 6), (.ref x_bx841)])) rfl (by rw [hml]; rfl) (Steps.refl _) (argsL := [(.int 6)]) (rest := []) (lenOf own_pdChr rfl) rfl (leW rfl) (hb hby at_304) (fun _ _ => ⟨rfl, e1031, (leB rfl), (leB rfl)⟩)
    dsimp only [Pt.U, Pt.locs, Pt.cells, Pt.slots] at X1045 l1051 y1052 z1053 st1054 hQ1050
    subst y1052 z1053
    obtain ⟨rfl, N1065, e1056⟩ := hQ1050
    have N1055 : Fr n0 L1046 := by rw [l1051]; exact Fr.app N1030 N1065
    refine Way.to st1054 ?_
    show Way _ _ _ _ (T1044.setTop (mkF m 307 #[iv p0, iv p1, iv p2, iv p3, iv 2, rv a696, rv a765, rv x_bx841, iv 1] [(.int 53)]))
    try clear X1020 N1030 e1031 st1054 cq1060 kq1061 qa1062 qb1063 qc1064 N1065
    try clear T1019
    refine Way.by (fun _ k => XS.bipush X1045.here hx rfl (hb hby at_307) k) ?_
    show Way _ _ _ _ (T1044.setTop (mkF m 309 #[iv p0, iv p1, iv p2, iv p3, iv 2, rv a696, rv a765, rv x_bx841, iv 1] [(.int 53), (.int 53)]))
    have b1067 : (53 : Int32) = (53 : Int32) := by decide
    refine Way.by (fun _ k => XS.icmpNo X1045.here hx rfl (hb hby at_309) rfl (teq b1067).2 k) ?_
    show Way _ _ _ _ (T1044.setTop (mkF m 312 #[iv p0, iv p1, iv p2, iv p3, iv 2, rv a696, rv a765, rv x_bx841, iv 1] []))
    refine Way.by (fun _ k => XS.iconst X1045.here hx rfl (hb hby at_312) k) ?_
    show Way _ _ _ _ (T1044.setTop (mkF m 313 #[iv p0, iv p1, iv p2, iv p3, iv 2, rv a696, rv a765, rv x_bx841, iv 1] [(.int 1)]))
    refine Way.by (fun _ k => XS.goto X1045.here hx rfl (pc0 := 313) (pc' := 317) rfl (hb hby at_313) (by decide) (by decide) k) ?_
    show Way _ _ _ _ (T1044.setTop (mkF m 317 #[iv p0, iv p1, iv p2, iv p3, iv 2, rv a696, rv a765, rv x_bx841, iv 1] [(.int 1)]))
    refine Way.by (fun _ k => XS.istore X1045.here hx rfl (hb hby at_317) rfl (l' := #[iv p0, iv p1, iv p2, iv p3, iv 2, rv a696, rv a765, rv x_bx841, iv 1]) rfl k) ?_
    show Way _ _ _ _ (T1044.setTop (mkF m 319 #[iv p0, iv p1, iv p2, iv p3, iv 2, rv a696, rv a765, rv x_bx841, iv 1] []))
    refine Way.by (fun _ k => XS.iload X1045.here hx rfl (hb hby at_319) rfl k) ?_
    show Way _ _ _ _ (T1044.setTop (mkF m 321 #[iv p0, iv p1, iv p2, iv p3, iv 2, rv a696, rv a765, rv x_bx841, iv 1] [(.int 1)]))
    have b1068 : ¬ (1 : Int32) = (0 : Int32) := by decide
    refine Way.by (fun _ k => XS.ifNo X1045.here hx rfl (hb hby at_321) rfl ((if0 .eq _).trans (feq b1068).1) k) ?_
    show Way _ _ _ _ (T1044.setTop (mkF m 324 #[iv p0, iv p1, iv p2, iv p3, iv 2, rv a696, rv a765, rv x_bx841, iv 1] []))
    refine Way.by (fun _ k => XS.aload X1045.here hx rfl (hb hby at_324) rfl rfl k) ?_
    refine Way.by (fun _ k => XS.iload X1045.here hx rfl (hb hby at_326) rfl k) ?_
    refine Way.by (fun _ k => XS.iconst X1045.here hx rfl (hb hby at_328) k) ?_
    show Way _ _ _ _ (T1044.setTop (mkF m 329 #[iv p0, iv p1, iv p2, iv p3, iv 2, rv a696, rv a765, rv x_bx841, iv 1] [(.int 5), (.int 2), (.ref x_bx841)]))
    refine Way.by (fun _ k => XS.iadd X1045.here hx rfl (hb hby at_329) rfl k) ?_
    show Way _ _ _ _ (T1044.setTop (mkF m 330 #[iv p0, iv p1, iv p2, iv p3, iv 2, rv a696, rv a765, rv x_bx841, iv 1] [(.int 7), (.ref x_bx841)]))
    obtain ⟨cq1085, kq1086, qa1087, qb1088, qc1089⟩ := isOf hZ835 e1056 F_0839.1
    obtain ⟨_, _, ⟨T1069, L1071, k1072, n1073⟩, -, X1070, ⟨Lc1074, hQ1075, l1076, y1077, z1078⟩, st1079⟩ := X1045.virtualBack hx (y := (⟨"java/lang/String", "charAt", "(I)C"⟩ : MethodName)) (z := (⟨"java/lang/String", "charAt", "(I)C"⟩ : MethodName)) hown836 (mvT hZ835 (tw hw 150 rfl)) (mvT hZ835 (tw hw 151 rfl)) (notFace_of_selects (args := #[]) (mvT hZ835 (tw hw 153 rfl))) (mvT hZ835 (tw hw 153 rfl)) (mvT hZ835 (tw hw 152 rfl)) (by decide) (own_chr (W := 0) (n0 := n0) hZ835 hw SV O851 (cs := [(p1 &&& (255 : Int32)).toUInt32.toUInt16.toUInt32.toInt32, (p2 &&& (255 : Int32)).toUInt32.toUInt16.toUInt32.toInt32, 46, 115, 104, 97, 53, 49, 50]) (i := 7) F_0839 (leB rfl) rfl (by decide) (by decide)) qa1087 qc1089 (g := (mkF m 330 #[iv p0, iv p1, iv p2, iv p3, iv 2, rv a696, rv a765, rv x_bx841, iv 1] [(.int 7), (.ref x_bx841)])) rfl (by rw [hml]; rfl) (Steps.refl _) (argsL := [(.int 7)]) (rest := []) (lenOf own_pdChr rfl) rfl (leW rfl) (hb hby at_330) (fun _ _ => ⟨rfl, e1056, (leB rfl), (leB rfl)⟩)
    dsimp only [Pt.U, Pt.locs, Pt.cells, Pt.slots] at X1070 l1076 y1077 z1078 st1079 hQ1075
    subst y1077 z1078
    obtain ⟨rfl, N1090, e1081⟩ := hQ1075
    have N1080 : Fr n0 L1071 := by rw [l1076]; exact Fr.app N1055 N1090
    refine Way.to st1079 ?_
    show Way _ _ _ _ (T1069.setTop (mkF m 333 #[iv p0, iv p1, iv p2, iv p3, iv 2, rv a696, rv a765, rv x_bx841, iv 1] [(.int 49)]))
    try clear X1045 N1055 e1056 st1079 cq1085 kq1086 qa1087 qb1088 qc1089 N1090
    try clear T1044
    refine Way.by (fun _ k => XS.bipush X1070.here hx rfl (hb hby at_333) k) ?_
    show Way _ _ _ _ (T1069.setTop (mkF m 335 #[iv p0, iv p1, iv p2, iv p3, iv 2, rv a696, rv a765, rv x_bx841, iv 1] [(.int 49), (.int 49)]))
    have b1092 : (49 : Int32) = (49 : Int32) := by decide
    refine Way.by (fun _ k => XS.icmpNo X1070.here hx rfl (hb hby at_335) rfl (teq b1092).2 k) ?_
    show Way _ _ _ _ (T1069.setTop (mkF m 338 #[iv p0, iv p1, iv p2, iv p3, iv 2, rv a696, rv a765, rv x_bx841, iv 1] []))
    refine Way.by (fun _ k => XS.iconst X1070.here hx rfl (hb hby at_338) k) ?_
    show Way _ _ _ _ (T1069.setTop (mkF m 339 #[iv p0, iv p1, iv p2, iv p3, iv 2, rv a696, rv a765, rv x_bx841, iv 1] [(.int 1)]))
    refine Way.by (fun _ k => XS.goto X1070.here hx rfl (pc0 := 339) (pc' := 343) rfl (hb hby at_339) (by decide) (by decide) k) ?_
    show Way _ _ _ _ (T1069.setTop (mkF m 343 #[iv p0, iv p1, iv p2, iv p3, iv 2, rv a696, rv a765, rv x_bx841, iv 1] [(.int 1)]))
    refine Way.by (fun _ k => XS.istore X1070.here hx rfl (hb hby at_343) rfl (l' := #[iv p0, iv p1, iv p2, iv p3, iv 2, rv a696, rv a765, rv x_bx841, iv 1]) rfl k) ?_
    show Way _ _ _ _ (T1069.setTop (mkF m 345 #[iv p0, iv p1, iv p2, iv p3, iv 2, rv a696, rv a765, rv x_bx841, iv 1] []))
    refine Way.by (fun _ k => XS.iload X1070.here hx rfl (hb hby at_345) rfl k) ?_
    show Way _ _ _ _ (T1069.setTop (mkF m 347 #[iv p0, iv p1, iv p2, iv p3, iv 2, rv a696, rv a765, rv x_bx841, iv 1] [(.int 1)]))
    have b1093 : ¬ (1 : Int32) = (0 : Int32) := by decide
    refine Way.by (fun _ k => XS.ifNo X1070.here hx rfl (hb hby at_347) rfl ((if0 .eq _).trans (feq b1093).1) k) ?_
    show Way _ _ _ _ (T1069.setTop (mkF m 350 #[iv p0, iv p1, iv p2, iv p3, iv 2, rv a696, rv a765, rv x_bx841, iv 1] []))
    refine Way.by (fun _ k => XS.aload X1070.here hx rfl (hb hby at_350) rfl rfl k) ?_
    refine Way.by (fun _ k => XS.iload X1070.here hx rfl (hb hby at_352) rfl k) ?_
    refine Way.by (fun _ k => XS.bipush X1070.here hx rfl (hb hby at_354) k) ?_
    show Way _ _ _ _ (T1069.setTop (mkF m 356 #[iv p0, iv p1, iv p2, iv p3, iv 2, rv a696, rv a765, rv x_bx841, iv 1] [(.int 6), (.int 2), (.ref x_bx841)]))
    refine Way.by (fun _ k => XS.iadd X1070.here hx rfl (hb hby at_356) rfl k) ?_
    show Way _ _ _ _ (T1069.setTop (mkF m 357 #[iv p0, iv p1, iv p2, iv p3, iv 2, rv a696, rv a765, rv x_bx841, iv 1] [(.int 8), (.ref x_bx841)]))
    obtain ⟨cq1110, kq1111, qa1112, qb1113, qc1114⟩ := isOf hZ835 e1081 F_0839.1
    obtain ⟨_, _, ⟨T1094, L1096, k1097, n1098⟩, -, X1095, ⟨Lc1099, hQ1100, l1101, y1102, z1103⟩, st1104⟩ := X1070.virtualBack hx (y := (⟨"java/lang/String", "charAt", "(I)C"⟩ : MethodName)) (z := (⟨"java/lang/String", "charAt", "(I)C"⟩ : MethodName)) hown836 (mvT hZ835 (tw hw 150 rfl)) (mvT hZ835 (tw hw 151 rfl)) (notFace_of_selects (args := #[]) (mvT hZ835 (tw hw 153 rfl))) (mvT hZ835 (tw hw 153 rfl)) (mvT hZ835 (tw hw 152 rfl)) (by decide) (own_chr (W := 0) (n0 := n0) hZ835 hw SV O851 (cs := [(p1 &&& (255 : Int32)).toUInt32.toUInt16.toUInt32.toInt32, (p2 &&& (255 : Int32)).toUInt32.toUInt16.toUInt32.toInt32, 46, 115, 104, 97, 53, 49, 50]) (i := 8) F_0839 (leB rfl) rfl (by decide) (by decide)) qa1112 qc1114 (g := (mkF m 357 #[iv p0, iv p1, iv p2, iv p3, iv 2, rv a696, rv a765, rv x_bx841, iv 1] [(.int 8), (.ref x_bx841)])) rfl (by rw [hml]; rfl) (Steps.refl _) (argsL := [(.int 8)]) (rest := []) (lenOf own_pdChr rfl) rfl (leW rfl) (hb hby at_357) (fun _ _ => ⟨rfl, e1081, (leB rfl), (leB rfl)⟩)
    dsimp only [Pt.U, Pt.locs, Pt.cells, Pt.slots] at X1095 l1101 y1102 z1103 st1104 hQ1100
    subst y1102 z1103
    obtain ⟨rfl, N1115, e1106⟩ := hQ1100
    have N1105 : Fr n0 L1096 := by rw [l1101]; exact Fr.app N1080 N1115
    refine Way.to st1104 ?_
    show Way _ _ _ _ (T1094.setTop (mkF m 360 #[iv p0, iv p1, iv p2, iv p3, iv 2, rv a696, rv a765, rv x_bx841, iv 1] [(.int 50)]))
    try clear X1070 N1080 e1081 st1104 cq1110 kq1111 qa1112 qb1113 qc1114 N1115
    try clear T1069
    refine Way.by (fun _ k => XS.bipush X1095.here hx rfl (hb hby at_360) k) ?_
    show Way _ _ _ _ (T1094.setTop (mkF m 362 #[iv p0, iv p1, iv p2, iv p3, iv 2, rv a696, rv a765, rv x_bx841, iv 1] [(.int 50), (.int 50)]))
    have b1117 : (50 : Int32) = (50 : Int32) := by decide
    refine Way.by (fun _ k => XS.icmpNo X1095.here hx rfl (hb hby at_362) rfl (teq b1117).2 k) ?_
    show Way _ _ _ _ (T1094.setTop (mkF m 365 #[iv p0, iv p1, iv p2, iv p3, iv 2, rv a696, rv a765, rv x_bx841, iv 1] []))
    refine Way.by (fun _ k => XS.iconst X1095.here hx rfl (hb hby at_365) k) ?_
    show Way _ _ _ _ (T1094.setTop (mkF m 366 #[iv p0, iv p1, iv p2, iv p3, iv 2, rv a696, rv a765, rv x_bx841, iv 1] [(.int 1)]))
    refine Way.by (fun _ k => XS.goto X1095.here hx rfl (pc0 := 366) (pc' := 370) rfl (hb hby at_366) (by decide) (by decide) k) ?_
    show Way _ _ _ _ (T1094.setTop (mkF m 370 #[iv p0, iv p1, iv p2, iv p3, iv 2, rv a696, rv a765, rv x_bx841, iv 1] [(.int 1)]))
    refine Way.by (fun _ k => XS.istore X1095.here hx rfl (hb hby at_370) rfl (l' := #[iv p0, iv p1, iv p2, iv p3, iv 2, rv a696, rv a765, rv x_bx841, iv 1]) rfl k) ?_
    show Way _ _ _ _ (T1094.setTop (mkF m 372 #[iv p0, iv p1, iv p2, iv p3, iv 2, rv a696, rv a765, rv x_bx841, iv 1] []))
    refine Way.by (fun _ k => XS.iload X1095.here hx rfl (hb hby at_372) rfl k) ?_
    show Way _ _ _ _ (T1094.setTop (mkF m 374 #[iv p0, iv p1, iv p2, iv p3, iv 2, rv a696, rv a765, rv x_bx841, iv 1] [(.int 1)]))
    refine Way.retH (v := (some (.int (nar .boolean (1 : Int32))))) X1095 hS834 (by rw [e1106]; exact (Nat.le_refl _)) hZ835 hEL hh e1106 H842 CH843 hlk (fun h => by rw [Bd.returns] at h; cases h) (fun fs hr => retN X1095 hx (t := .boolean) Bd.returns (by simp) (hb hby at_374) hr) ?_ (by decide) (by decide)
    show Q0 n0 _ T1094.heap _
    rw [e1106]
    exact ⟨rfl, N1105⟩
  · skip
    show Way _ _ _ _ (s₁.setTop (mkF m 5 #[iv p0, iv p1, iv p2, iv p3, iv 3, .unset, .unset, .unset, .unset] []))
    refine Way.by (fun _ k => XS.iload XW.here hx rfl (hb hby at_5) rfl k) ?_
    show Way _ _ _ _ (s₁.setTop (mkF m 7 #[iv p0, iv p1, iv p2, iv p3, iv 3, .unset, .unset, .unset, .unset] [(.int 3)]))
    obtain ⟨T1118, h1119, kc1120, X1121, e1122, E1123, A1124, st1125⟩ := newP XW hx hZ0 (tw hw 0 rfl) e0 (g := (mkF m 7 #[iv p0, iv p1, iv p2, iv p3, iv 3, .unset, .unset, .unset, .unset] [(.int 3)])) rfl (hb hby at_7) rfl (by decide) (cap := 3) (by decide) (by decide) (by decide) (by decide)
    obtain ⟨a1126, g1127⟩ : ∃ z, z = h0.size := ⟨_, rfl⟩
    rw [← g1127] at A1124 st1125
    have nw1129 : n0 ≤ a1126 := Nat.le_trans Z0 (Nat.le_of_eq g1127.symm)
    have hr1132 := CHr.ext E1123 HV0
    have H1130 := hr1132.1
    have CH1131 := CH0.trans hr1132
    have Z1133 := Nat.le_trans Z0 E1123.1
    have hk1134 := Nat.le_trans (Nat.zero_le _) E1123.1
    have O1135 := O0.ext E1123
    have V1128 : Arv Z h1119 a1126 kc1120 .char (3 : Int32) [] (.int 0) := Arv.new A1124 (by decide)
    refine Way.by st1125 ?_
    show Way _ _ _ _ (T1118.setTop (mkF m 9 #[iv p0, iv p1, iv p2, iv p3, iv 3, .unset, .unset, .unset, .unset] [(.ref a1126)]))
    refine Way.by (fun _ k => XS.astore X1121.here hx rfl (hb hby at_9) rfl rfl (l' := #[iv p0, iv p1, iv p2, iv p3, iv 3, rv a1126, .unset, .unset, .unset]) rfl k) ?_
    show Way _ _ _ _ (T1118.setTop (mkF m 11 #[iv p0, iv p1, iv p2, iv p3, iv 3, rv a1126, .unset, .unset, .unset] []))
    refine Way.by (fun _ k => XS.iload X1121.here hx rfl (hb hby at_11) rfl k) ?_
    show Way _ _ _ _ (T1118.setTop (mkF m 13 #[iv p0, iv p1, iv p2, iv p3, iv 3, rv a1126, .unset, .unset, .unset] [(.int 3)]))
    have b1136 : (0 : Int32) < (3 : Int32) := by decide
    refine Way.by (fun _ k => XS.ifNo X1121.here hx rfl (hb hby at_13) rfl ((if0 .le _).trans (tlt b1136).2.2.2) k) ?_
    show Way _ _ _ _ (T1118.setTop (mkF m 16 #[iv p0, iv p1, iv p2, iv p3, iv 3, rv a1126, .unset, .unset, .unset] []))
    refine Way.by (fun _ k => XS.aload X1121.here hx rfl (hb hby at_16) rfl rfl k) ?_
    refine Way.by (fun _ k => XS.iconst X1121.here hx rfl (hb hby at_18) k) ?_
    refine Way.by (fun _ k => XS.iloadN X1121.here hx rfl (hb hby at_19) rfl k) ?_
    show Way _ _ _ _ (T1118.setTop (mkF m 20 #[iv p0, iv p1, iv p2, iv p3, iv 3, rv a1126, .unset, .unset, .unset] [(.int p1), (.int 0), (.ref a1126)]))
    refine Way.by (fun _ k => XS.sipush X1121.here hx rfl (hb hby at_20) k) ?_
    show Way _ _ _ _ (T1118.setTop (mkF m 23 #[iv p0, iv p1, iv p2, iv p3, iv 3, rv a1126, .unset, .unset, .unset] [(.int 255), (.int p1), (.int 0), (.ref a1126)]))
    refine Way.by (fun _ k => XS.iand X1121.here hx rfl (hb hby at_23) rfl k) ?_
    show Way _ _ _ _ (T1118.setTop (mkF m 24 #[iv p0, iv p1, iv p2, iv p3, iv 3, rv a1126, .unset, .unset, .unset] [(.int (p1 &&& (255 : Int32))), (.int 0), (.ref a1126)]))
    refine Way.by (fun _ k => XT.i2c X1121.here hx rfl (hb hby at_24) rfl k) ?_
    show Way _ _ _ _ (T1118.setTop (mkF m 25 #[iv p0, iv p1, iv p2, iv p3, iv 3, rv a1126, .unset, .unset, .unset] [(.int (p1 &&& (255 : Int32)).toUInt32.toUInt16.toUInt32.toInt32), (.int 0), (.ref a1126)]))
    have V1137 : Arv Z h1119 a1126 kc1120 .char (3 : Int32) [(.int 0)] (.int 0) := V1128.pad (pad_rep [] (.int 0) 1)
    obtain ⟨c1138, A1139, q1140, S1141, M1142, H1143, U1144⟩ := id V1137
    obtain ⟨T1145, h1146, X1147, e1148, W1149, st1150⟩ := stC X1121 hx hZ0 e1122 A1139 (j := (0 : Int32)) (inb_of S1141 ⟨(by decide), (by decide)⟩) (g := (mkF m 25 #[iv p0, iv p1, iv p2, iv p3, iv 3, rv a1126, .unset, .unset, .unset] [(.int (p1 &&& (255 : Int32)).toUInt32.toUInt16.toUInt32.toInt32), (.int 0), (.ref a1126)])) rfl rfl (hb hby at_25)
    have N1151 := Fr.snoc X1147 N0 nw1129
    have V1152 : Arv Z h1146 a1126 kc1120 .char (3 : Int32) [(.int (nar .char (p1 &&& (255 : Int32)).toUInt32.toUInt16.toUInt32.toInt32))] (.int 0) := Arv.set A1139 q1140 S1141 M1142 H1143 U1144 (fits_nar_char _) W1149 0 rfl (leB rfl)
    have nq1154 : nar .char (p1 &&& (255 : Int32)).toUInt32.toUInt16.toUInt32.toInt32 = (p1 &&& (255 : Int32)).toUInt32.toUInt16.toUInt32.toInt32 := own_n255 _
    have V1153 : Arv Z h1146 a1126 kc1120 .char (3 : Int32) [(.int (p1 &&& (255 : Int32)).toUInt32.toUInt16.toUInt32.toInt32)] (.int 0) := by rw [nq1154] at V1152; exact V1152
    have hr1157 := CHr.wr W1149 (Safe.arv hZ0.alike V1128 (by decide)) H1130
    have H1155 := hr1157.1
    have CH1156 := CH1131.trans hr1157
    have Z1158 : n0 ≤ h1146.size := by rw [W1149.size]; exact Z1133
    have hk1159 := Nat.le_trans hk1134 (Nat.le_of_eq W1149.size.symm)
    have O1160 := O1135.wr W1149 nw1129
    refine Way.by st1150 ?_
    show Way _ _ _ _ (T1145.setTop (mkF m 26 #[iv p0, iv p1, iv p2, iv p3, iv 3, rv a1126, .unset, .unset, .unset] []))
    try clear X1121 e1122 V1128 H1130 CH1131 Z1133 hk1134 O1135 V1137 c1138 A1139 q1140 S1141 M1142 H1143 U1144 W1149 st1150 V1152 hr1157
    try clear T1118 h1119
    refine Way.by (fun _ k => XS.iload X1147.here hx rfl (hb hby at_26) rfl k) ?_
    refine Way.by (fun _ k => XS.iconst X1147.here hx rfl (hb hby at_28) k) ?_
    show Way _ _ _ _ (T1145.setTop (mkF m 29 #[iv p0, iv p1, iv p2, iv p3, iv 3, rv a1126, .unset, .unset, .unset] [(.int 1), (.int 3)]))
    have b1161 : (1 : Int32) < (3 : Int32) := by decide
    refine Way.by (fun _ k => XS.icmpNo X1147.here hx rfl (hb hby at_29) rfl (tlt b1161).2.2.2 k) ?_
    show Way _ _ _ _ (T1145.setTop (mkF m 32 #[iv p0, iv p1, iv p2, iv p3, iv 3, rv a1126, .unset, .unset, .unset] []))
    refine Way.by (fun _ k => XS.aload X1147.here hx rfl (hb hby at_32) rfl rfl k) ?_
    refine Way.by (fun _ k => XS.iconst X1147.here hx rfl (hb hby at_34) k) ?_
    refine Way.by (fun _ k => XS.iloadN X1147.here hx rfl (hb hby at_35) rfl k) ?_
    show Way _ _ _ _ (T1145.setTop (mkF m 36 #[iv p0, iv p1, iv p2, iv p3, iv 3, rv a1126, .unset, .unset, .unset] [(.int p2), (.int 1), (.ref a1126)]))
    refine Way.by (fun _ k => XS.sipush X1147.here hx rfl (hb hby at_36) k) ?_
    show Way _ _ _ _ (T1145.setTop (mkF m 39 #[iv p0, iv p1, iv p2, iv p3, iv 3, rv a1126, .unset, .unset, .unset] [(.int 255), (.int p2), (.int 1), (.ref a1126)]))
    refine Way.by (fun _ k => XS.iand X1147.here hx rfl (hb hby at_39) rfl k) ?_
    show Way _ _ _ _ (T1145.setTop (mkF m 40 #[iv p0, iv p1, iv p2, iv p3, iv 3, rv a1126, .unset, .unset, .unset] [(.int (p2 &&& (255 : Int32))), (.int 1), (.ref a1126)]))
    refine Way.by (fun _ k => XT.i2c X1147.here hx rfl (hb hby at_40) rfl k) ?_
    show Way _ _ _ _ (T1145.setTop (mkF m 41 #[iv p0, iv p1, iv p2, iv p3, iv 3, rv a1126, .unset, .unset, .unset] [(.int (p2 &&& (255 : Int32)).toUInt32.toUInt16.toUInt32.toInt32), (.int 1), (.ref a1126)]))
    have V1162 : Arv Z h1146 a1126 kc1120 .char (3 : Int32) [(.int (p1 &&& (255 : Int32)).toUInt32.toUInt16.toUInt32.toInt32), (.int 0)] (.int 0) := V1153.pad (pad_rep [(.int (p1 &&& (255 : Int32)).toUInt32.toUInt16.toUInt32.toInt32)] (.int 0) 1)
    obtain ⟨c1163, A1164, q1165, S1166, M1167, H1168, U1169⟩ := id V1162
    obtain ⟨T1170, h1171, X1172, e1173, W1174, st1175⟩ := stC X1147 hx hZ0 e1148 A1164 (j := (1 : Int32)) (inb_of S1166 ⟨(by decide), (by decide)⟩) (g := (mkF m 41 #[iv p0, iv p1, iv p2, iv p3, iv 3, rv a1126, .unset, .unset, .unset] [(.int (p2 &&& (255 : Int32)).toUInt32.toUInt16.toUInt32.toInt32), (.int 1), (.ref a1126)])) rfl rfl (hb hby at_41)
    have N1176 := Fr.snoc X1172 N1151 nw1129
    have V1177 : Arv Z h1171 a1126 kc1120 .char (3 : Int32) [(.int (p1 &&& (255 : Int32)).toUInt32.toUInt16.toUInt32.toInt32), (.int (nar .char (p2 &&& (255 : Int32)).toUInt32.toUInt16.toUInt32.toInt32))] (.int 0) := Arv.set A1164 q1165 S1166 M1167 H1168 U1169 (fits_nar_char _) W1174 1 rfl (leB rfl)
    have nq1179 : nar .char (p2 &&& (255 : Int32)).toUInt32.toUInt16.toUInt32.toInt32 = (p2 &&& (255 : Int32)).toUInt32.toUInt16.toUInt32.toInt32 := own_n255 _
    have V1178 : Arv Z h1171 a1126 kc1120 .char (3 : Int32) [(.int (p1 &&& (255 : Int32)).toUInt32.toUInt16.toUInt32.toInt32), (.int (p2 &&& (255 : Int32)).toUInt32.toUInt16.toUInt32.toInt32)] (.int 0) := by rw [nq1179] at V1177; exact V1177
    have hr1182 := CHr.wr W1174 (Safe.arv hZ0.alike V1153 (by decide)) H1155
    have H1180 := hr1182.1
    have CH1181 := CH1156.trans hr1182
    have Z1183 : n0 ≤ h1171.size := by rw [W1174.size]; exact Z1158
    have hk1184 := Nat.le_trans hk1159 (Nat.le_of_eq W1174.size.symm)
    have O1185 := O1160.wr W1174 nw1129
    refine Way.by st1175 ?_
    show Way _ _ _ _ (T1170.setTop (mkF m 42 #[iv p0, iv p1, iv p2, iv p3, iv 3, rv a1126, .unset, .unset, .unset] []))
    try clear X1147 e1148 N1151 V1153 H1155 CH1156 Z1158 hk1159 O1160 V1162 c1163 A1164 q1165 S1166 M1167 H1168 U1169 W1174 st1175 V1177 hr1182
    try clear T1145 h1146
    refine Way.by (fun _ k => XS.iload X1172.here hx rfl (hb hby at_42) rfl k) ?_
    refine Way.by (fun _ k => XS.iconst X1172.here hx rfl (hb hby at_44) k) ?_
    show Way _ _ _ _ (T1170.setTop (mkF m 45 #[iv p0, iv p1, iv p2, iv p3, iv 3, rv a1126, .unset, .unset, .unset] [(.int 2), (.int 3)]))
    have b1186 : (2 : Int32) < (3 : Int32) := by decide
    refine Way.by (fun _ k => XS.icmpNo X1172.here hx rfl (hb hby at_45) rfl (tlt b1186).2.2.2 k) ?_
    show Way _ _ _ _ (T1170.setTop (mkF m 48 #[iv p0, iv p1, iv p2, iv p3, iv 3, rv a1126, .unset, .unset, .unset] []))
    refine Way.by (fun _ k => XS.aload X1172.here hx rfl (hb hby at_48) rfl rfl k) ?_
    refine Way.by (fun _ k => XS.iconst X1172.here hx rfl (hb hby at_50) k) ?_
    refine Way.by (fun _ k => XS.iloadN X1172.here hx rfl (hb hby at_51) rfl k) ?_
    show Way _ _ _ _ (T1170.setTop (mkF m 52 #[iv p0, iv p1, iv p2, iv p3, iv 3, rv a1126, .unset, .unset, .unset] [(.int p3), (.int 2), (.ref a1126)]))
    refine Way.by (fun _ k => XS.sipush X1172.here hx rfl (hb hby at_52) k) ?_
    show Way _ _ _ _ (T1170.setTop (mkF m 55 #[iv p0, iv p1, iv p2, iv p3, iv 3, rv a1126, .unset, .unset, .unset] [(.int 255), (.int p3), (.int 2), (.ref a1126)]))
    refine Way.by (fun _ k => XS.iand X1172.here hx rfl (hb hby at_55) rfl k) ?_
    show Way _ _ _ _ (T1170.setTop (mkF m 56 #[iv p0, iv p1, iv p2, iv p3, iv 3, rv a1126, .unset, .unset, .unset] [(.int (p3 &&& (255 : Int32))), (.int 2), (.ref a1126)]))
    refine Way.by (fun _ k => XT.i2c X1172.here hx rfl (hb hby at_56) rfl k) ?_
    show Way _ _ _ _ (T1170.setTop (mkF m 57 #[iv p0, iv p1, iv p2, iv p3, iv 3, rv a1126, .unset, .unset, .unset] [(.int (p3 &&& (255 : Int32)).toUInt32.toUInt16.toUInt32.toInt32), (.int 2), (.ref a1126)]))
    have V1187 : Arv Z h1171 a1126 kc1120 .char (3 : Int32) [(.int (p1 &&& (255 : Int32)).toUInt32.toUInt16.toUInt32.toInt32), (.int (p2 &&& (255 : Int32)).toUInt32.toUInt16.toUInt32.toInt32), (.int 0)] (.int 0) := V1178.pad (pad_rep [(.int (p1 &&& (255 : Int32)).toUInt32.toUInt16.toUInt32.toInt32), (.int (p2 &&& (255 : Int32)).toUInt32.toUInt16.toUInt32.toInt32)] (.int 0) 1)
    obtain ⟨c1188, A1189, q1190, S1191, M1192, H1193, U1194⟩ := id V1187
    obtain ⟨T1195, h1196, X1197, e1198, W1199, st1200⟩ := stC X1172 hx hZ0 e1173 A1189 (j := (2 : Int32)) (inb_of S1191 ⟨(by decide), (by decide)⟩) (g := (mkF m 57 #[iv p0, iv p1, iv p2, iv p3, iv 3, rv a1126, .unset, .unset, .unset] [(.int (p3 &&& (255 : Int32)).toUInt32.toUInt16.toUInt32.toInt32), (.int 2), (.ref a1126)])) rfl rfl (hb hby at_57)
    have N1201 := Fr.snoc X1197 N1176 nw1129
    have V1202 : Arv Z h1196 a1126 kc1120 .char (3 : Int32) [(.int (p1 &&& (255 : Int32)).toUInt32.toUInt16.toUInt32.toInt32), (.int (p2 &&& (255 : Int32)).toUInt32.toUInt16.toUInt32.toInt32), (.int (nar .char (p3 &&& (255 : Int32)).toUInt32.toUInt16.toUInt32.toInt32))] (.int 0) := Arv.set A1189 q1190 S1191 M1192 H1193 U1194 (fits_nar_char _) W1199 2 rfl (leB rfl)
    have nq1204 : nar .char (p3 &&& (255 : Int32)).toUInt32.toUInt16.toUInt32.toInt32 = (p3 &&& (255 : Int32)).toUInt32.toUInt16.toUInt32.toInt32 := own_n255 _
    have V1203 : Arv Z h1196 a1126 kc1120 .char (3 : Int32) [(.int (p1 &&& (255 : Int32)).toUInt32.toUInt16.toUInt32.toInt32), (.int (p2 &&& (255 : Int32)).toUInt32.toUInt16.toUInt32.toInt32), (.int (p3 &&& (255 : Int32)).toUInt32.toUInt16.toUInt32.toInt32)] (.int 0) := by rw [nq1204] at V1202; exact V1202
    have hr1207 := CHr.wr W1199 (Safe.arv hZ0.alike V1178 (by decide)) H1180
    have H1205 := hr1207.1
    have CH1206 := CH1181.trans hr1207
    have Z1208 : n0 ≤ h1196.size := by rw [W1199.size]; exact Z1183
    have hk1209 := Nat.le_trans hk1184 (Nat.le_of_eq W1199.size.symm)
    have O1210 := O1185.wr W1199 nw1129
    refine Way.by st1200 ?_
    show Way _ _ _ _ (T1195.setTop (mkF m 58 #[iv p0, iv p1, iv p2, iv p3, iv 3, rv a1126, .unset, .unset, .unset] []))
    try clear X1172 e1173 N1176 V1178 H1180 CH1181 Z1183 hk1184 O1185 V1187 c1188 A1189 q1190 S1191 M1192 H1193 U1194 W1199 st1200 V1202 hr1207
    try clear T1170 h1171
    obtain ⟨T1211, h1212, X1213, e1214, E1215, A1216, D1217, -, st1218⟩ := newO X1197 hx hZ0 hown0 (tw hw 1 rfl) (tw hw 2 rfl) (tw hw 3 rfl) e1198 (g := (mkF m 58 #[iv p0, iv p1, iv p2, iv p3, iv 3, rv a1126, .unset, .unset, .unset] [])) rfl (hb hby at_58) (by decide) (by decide)
    obtain ⟨a1219, g1220⟩ : ∃ z, z = h1196.size := ⟨_, rfl⟩
    rw [← g1220] at A1216 D1217 st1218
    have ne1221 : a1126 ≠ a1219 := Nat.ne_of_lt (Nat.lt_of_lt_of_eq V1203.lt g1220.symm)
    have nw1222 : n0 ≤ a1219 := Nat.le_trans Z1208 (Nat.le_of_eq g1220.symm)
    have Sf1223 : Safe Z own_EL s.vm h1196 a1219 := Safe.new (Nat.le_of_eq g1220.symm)
    have hr1226 := CHr.ext E1215 H1205
    have Sf1227 := Safe.ext E1215 H1205 Sf1223
    have H1224 := hr1226.1
    have CH1225 := CH1206.trans hr1226
    have A1228 := V1203.ext E1215
    have Z1229 := Nat.le_trans Z1208 E1215.1
    have hk1230 := Nat.le_trans hk1209 E1215.1
    have O1231 := O1210.ext E1215
    have F1232 : Fld Z h1212 a1219 "java/lang/String" "value" "[B" .null := D1217 (Or.inr (tw hw 16 rfl)) (ty := (.array .byte)) (by decide)
    have F1233 : Fld Z h1212 a1219 "java/lang/String" "coder" "B" (.int 0) := D1217 (Or.inr (tw hw 17 rfl)) (ty := .byte) (by decide)
    refine Way.by st1218 ?_
    show Way _ _ _ _ (T1211.setTop (mkF m 61 #[iv p0, iv p1, iv p2, iv p3, iv 3, rv a1126, .unset, .unset, .unset] [(.ref a1219)]))
    try clear X1197 e1198 V1203 H1205 CH1206 Z1208 hk1209 O1210 E1215 D1217 st1218 hr1226
    try clear T1195 h1196
    refine Way.by (fun _ k => XS.dup X1213.here hx rfl (hb hby at_61) rfl rfl k) ?_
    refine Way.by (fun _ k => XS.aload X1213.here hx rfl (hb hby at_62) rfl rfl k) ?_
    show Way _ _ _ _ (T1211.setTop (mkF m 64 #[iv p0, iv p1, iv p2, iv p3, iv 3, rv a1126, .unset, .unset, .unset] [(.ref a1126), (.ref a1219), (.ref a1219)]))
    have hp1234 : ∀ c ∈ ([(p1 &&& (255 : Int32)).toUInt32.toUInt16.toUInt32.toInt32, (p2 &&& (255 : Int32)).toUInt32.toUInt16.toUInt32.toInt32, (p3 &&& (255 : Int32)).toUInt32.toUInt16.toUInt32.toInt32] : List Int32), ¬ c < 0 ∧ ¬ (255 : Int32) < c := by intro c hc; simp only [List.mem_cons, List.not_mem_nil, or_false] at hc; rcases hc with rfl | rfl | rfl <;> exact own_b255 _
    obtain ⟨_, _, ⟨T1235, L1237, k1238, n1239⟩, -, X1236, ⟨Lc1240, hQ1241, l1242, y1243, z1244⟩, st1245⟩ := X1213.specialBack hx (y := (⟨"java/lang/String", "<init>", "([C)V"⟩ : MethodName)) rfl hown0 (mvT hZ0 (tw hw 4 rfl)) (mvT hZ0 (tw hw 5 rfl)) (mvT hZ0 (tw hw 6 rfl)) (by decide) (own_new (W := 1) (n0 := n0) hZ0 hw SV O1231 (cs := [(p1 &&& (255 : Int32)).toUInt32.toUInt16.toUInt32.toInt32, (p2 &&& (255 : Int32)).toUInt32.toUInt16.toUInt32.toInt32, (p3 &&& (255 : Int32)).toUInt32.toUInt16.toUInt32.toInt32]) (n := 3) nw1222 Z1229 A1216 F1232 F1233 A1228 rfl rfl (by decide) (by decide) hp1234 (by decide) (by decide)) (g := (mkF m 64 #[iv p0, iv p1, iv p2, iv p3, iv 3, rv a1126, .unset, .unset, .unset] [(.ref a1126), (.ref a1219), (.ref a1219)])) rfl (by rw [hml]; rfl) (Steps.refl _) (a := a1219) (argsL := [(.ref a1126)]) (rest := [(.ref a1219)]) (lenOf own_pdNew rfl) rfl (leW rfl) (hb hby at_64) (fun _ _ => ⟨rfl, e1214, (leB rfl), (leB rfl)⟩)
    dsimp only [Pt.U, Pt.locs, Pt.cells, Pt.slots] at X1236 l1242 y1243 z1244 st1245 hQ1241
    subst y1243 z1244
    obtain ⟨rfl, N1251, K1252, x_t1255, fr_t1254, F1253⟩ := hQ1241
    have N1246 : Fr n0 L1237 := by rw [l1242]; exact Fr.app N1201 N1251
    have ne1256 : a1126 ≠ x_t1255 := Nat.ne_of_lt (Nat.lt_of_lt_of_le A1228.lt fr_t1254)
    have ne1257 : a1219 ≠ x_t1255 := Nat.ne_of_lt (Nat.lt_of_lt_of_le A1216.lt fr_t1254)
    have nw1258 : n0 ≤ x_t1255 := Nat.le_trans Z1229 fr_t1254
    have Sf1259 : Safe Z own_EL s.vm h1212 x_t1255 := Safe.new fr_t1254
    have hr1262 := CHr.keep K1252 (sfS Sf1227 sf0) H1224
    have Sf1263 := Safe.keep K1252 (sfS Sf1227 sf0) H1224 Sf1227
    have Sf1264 := Safe.keep K1252 (sfS Sf1227 sf0) H1224 Sf1259
    have H1260 := hr1262.1
    have CH1261 := CH1225.trans hr1262
    have A1265 := A1228.keep K1252 (ninS ne1221 nin0)
    have E1266 := A1216.keep K1252
    have Z1267 := Nat.le_trans Z1229 K1252.1
    have hk1268 := Nat.le_trans hk1230 K1252.1
    have O1269 := O1231.keep K1252 (allS nw1222 all0)
    refine Way.to st1245 ?_
    show Way _ _ _ _ (T1235.setTop (mkF m 67 #[iv p0, iv p1, iv p2, iv p3, iv 3, rv a1126, .unset, .unset, .unset] [(.ref a1219)]))
    try clear N1201 X1213 e1214 A1216 H1224 CH1225 Sf1227 A1228 Z1229 hk1230 O1231 F1232 F1233 st1245 N1251 K1252 hr1262
    try clear T1211 h1212
    refine Way.by (fun _ k => XS.astore X1236.here hx rfl (hb hby at_67) rfl rfl (l' := #[iv p0, iv p1, iv p2, iv p3, iv 3, rv a1126, rv a1219, .unset, .unset]) rfl k) ?_
    show Way _ _ _ _ (T1235.setTop (mkF m 69 #[iv p0, iv p1, iv p2, iv p3, iv 3, rv a1126, rv a1219, .unset, .unset] []))
    refine Way.by (fun _ k => XS.aload X1236.here hx rfl (hb hby at_69) rfl rfl k) ?_
    show Way _ _ _ _ (T1235.setTop (mkF m 71 #[iv p0, iv p1, iv p2, iv p3, iv 3, rv a1126, rv a1219, .unset, .unset] [(.ref a1219)]))
    have hb1270 : ∀ c ∈ ([(p1 &&& (255 : Int32)).toUInt32.toUInt16.toUInt32.toInt32, (p2 &&& (255 : Int32)).toUInt32.toUInt16.toUInt32.toInt32, (p3 &&& (255 : Int32)).toUInt32.toUInt16.toUInt32.toInt32, 46, 115, 104, 97, 53, 49, 50] : List Int32), ¬ c < 0 ∧ ¬ (255 : Int32) < c := by intro c hc; simp only [List.mem_cons, List.not_mem_nil, or_false] at hc; rcases hc with rfl | rfl | rfl | rfl | rfl | rfl | rfl | rfl | rfl | rfl <;> first | decide | exact own_b255 _
    obtain ⟨_, _, ⟨T1271, L1273, k1274, n1275⟩, -, X1272, hS1284, hg1285, ⟨Lc1276, hQ1277, l1278, y1279, z1280, hr1286⟩, st1281⟩ := callSS X1236 hx (y := (⟨"com/example/longhold/longhold/store/DigestFile", "nameFor", "(Ljava/lang/String;)Ljava/lang/String;"⟩ : MethodName)) hown0 (mvT hZ0 (tw hw 22 rfl)) (mvT hZ0 (tw hw 23 rfl)) (mvT hZ0 (tw hw 24 rfl)) (mvT hZ0 (tw hw 25 rfl)) (by decide) (backOfSH (W := 0) (rmNF3 l Z a0 hw [] a1219 x_t1255 (p1 &&& (255 : Int32)).toUInt32.toUInt16.toUInt32.toInt32 (p2 &&& (255 : Int32)).toUInt32.toUInt16.toUInt32.toInt32 (p3 &&& (255 : Int32)).toUInt32.toUInt16.toUInt32.toInt32 ud ul ult T1235.heap n0 Z1267 F1253 hb1270 O1269 SV SDG EDG FLB SLB) hZ0 (tw hw 25 rfl) (tw hw 24 rfl) (by decide) (by decide) hEL H1260) (g := (mkF m 71 #[iv p0, iv p1, iv p2, iv p3, iv 3, rv a1126, rv a1219, .unset, .unset] [(.ref a1219)])) rfl (by rw [hml]; rfl) (argsL := [(.ref a1219)]) (rest := []) (lenOf pdNF0 rfl) rfl (leW rfl) (hb hby at_71) (fun _ _ => ⟨rfl, rfl, (leB rfl), (leB rfl)⟩)
    dsimp only [Pt.U, Pt.locs, Pt.cells, Pt.slots] at X1272 l1278 y1279 z1280 st1281 hQ1277 hS1284 hg1285 hr1286
    subst y1279 z1280
    obtain ⟨X1287, hS1288, hZ1289, hown1290⟩ := rebS hS0 (by exact hk1268) X1272 hS1284 hg1285 hZ0 hown0
    obtain ⟨x_bx1295, x_bt1294, rfl, N1291, K1292, F_01293⟩ := hQ1277
    have N1282 : Fr n0 L1273 := by rw [l1278]; exact Fr.app N1246 N1291
    have Sf1299 := CHr.safe hr1286 E1266.lt Sf1263
    have Sf1300 := CHr.safe hr1286 F1253.lt2 Sf1264
    have H1296 := hr1286.1
    have CH1297 := CH1261.trans hr1286
    have A1301 := A1265.keep K1292 nin0
    have E1302 := E1266.keep K1292
    have S1303 := F1253.keep K1292 nin0 nin0
    have Z1304 := Nat.le_trans Z1267 K1292.1
    have O1305 := O1269.keep K1292 all0
    refine Way.to st1281 ?_
    show Way _ _ _ _ (T1271.setTop (mkF m 74 #[iv p0, iv p1, iv p2, iv p3, iv 3, rv a1126, rv a1219, .unset, .unset] [(.ref x_bx1295)]))
    try clear X1236 N1246 F1253 H1260 CH1261 Sf1263 Sf1264 A1265 E1266 Z1267 hk1268 O1269 X1272 st1281 hS1284 hg1285 hr1286 N1291 K1292
    try clear T1235
    refine Way.by (fun _ k => XS.astore X1287.here hx rfl (hb hby at_74) rfl rfl (l' := #[iv p0, iv p1, iv p2, iv p3, iv 3, rv a1126, rv a1219, rv x_bx1295, .unset]) rfl k) ?_
    show Way _ _ _ _ (T1271.setTop (mkF m 76 #[iv p0, iv p1, iv p2, iv p3, iv 3, rv a1126, rv a1219, rv x_bx1295, .unset] []))
    refine Way.by (fun _ k => XS.aload X1287.here hx rfl (hb hby at_76) rfl rfl k) ?_
    show Way _ _ _ _ (T1271.setTop (mkF m 78 #[iv p0, iv p1, iv p2, iv p3, iv 3, rv a1126, rv a1219, rv x_bx1295, .unset] [(.ref x_bx1295)]))
    refine Way.by (fun _ k => XS.ifnullNo X1287.here hx rfl (hb hby at_78) rfl k) ?_
    show Way _ _ _ _ (T1271.setTop (mkF m 81 #[iv p0, iv p1, iv p2, iv p3, iv 3, rv a1126, rv a1219, rv x_bx1295, .unset] []))
    refine Way.by (fun _ k => XS.aload X1287.here hx rfl (hb hby at_81) rfl rfl k) ?_
    show Way _ _ _ _ (T1271.setTop (mkF m 83 #[iv p0, iv p1, iv p2, iv p3, iv 3, rv a1126, rv a1219, rv x_bx1295, .unset] [(.ref x_bx1295)]))
    obtain ⟨cq1322, kq1323, qa1324, qb1325, qc1326⟩ := isOf hZ1289 rfl F_01293.1
    obtain ⟨_, _, ⟨T1306, L1308, k1309, n1310⟩, -, X1307, ⟨Lc1311, hQ1312, l1313, y1314, z1315⟩, st1316⟩ := X1287.virtualBack hx (y := (⟨"java/lang/String", "length", "()I"⟩ : MethodName)) (z := (⟨"java/lang/String", "length", "()I"⟩ : MethodName)) hown1290 (mvT hZ1289 (tw hw 149 rfl)) (mvT hZ1289 (tw hw 55 rfl)) (notFace_of_selects (args := #[]) (mvT hZ1289 (tw hw 57 rfl))) (mvT hZ1289 (tw hw 57 rfl)) (mvT hZ1289 (tw hw 56 rfl)) (by decide) (own_len (W := 0) (n0 := n0) hZ1289 hw SV O1305 (cs := [(p1 &&& (255 : Int32)).toUInt32.toUInt16.toUInt32.toInt32, (p2 &&& (255 : Int32)).toUInt32.toUInt16.toUInt32.toInt32, (p3 &&& (255 : Int32)).toUInt32.toUInt16.toUInt32.toInt32, 46, 115, 104, 97, 53, 49, 50]) F_01293 (by decide) (by decide)) qa1324 qc1326 (g := (mkF m 83 #[iv p0, iv p1, iv p2, iv p3, iv 3, rv a1126, rv a1219, rv x_bx1295, .unset] [(.ref x_bx1295)])) rfl (by rw [hml]; rfl) (Steps.refl _) (argsL := []) (rest := []) (lenOf own_pdLen rfl) rfl (leW rfl) (hb hby at_83) (fun _ _ => ⟨rfl, rfl, (leB rfl), (leB rfl)⟩)
    dsimp only [Pt.U, Pt.locs, Pt.cells, Pt.slots] at X1307 l1313 y1314 z1315 st1316 hQ1312
    subst y1314 z1315
    obtain ⟨rfl, N1327, e1318⟩ := hQ1312
    have N1317 : Fr n0 L1308 := by rw [l1313]; exact Fr.app N1282 N1327
    refine Way.to st1316 ?_
    show Way _ _ _ _ (T1306.setTop (mkF m 86 #[iv p0, iv p1, iv p2, iv p3, iv 3, rv a1126, rv a1219, rv x_bx1295, .unset] [(.int 10)]))
    try clear N1282 X1287 st1316 cq1322 kq1323 qa1324 qb1325 qc1326 N1327
    refine Way.by (fun _ k => XS.iload X1307.here hx rfl (hb hby at_86) rfl k) ?_
    refine Way.by (fun _ k => XS.bipush X1307.here hx rfl (hb hby at_88) k) ?_
    show Way _ _ _ _ (T1306.setTop (mkF m 90 #[iv p0, iv p1, iv p2, iv p3, iv 3, rv a1126, rv a1219, rv x_bx1295, .unset] [(.int 7), (.int 3), (.int 10)]))
    refine Way.by (fun _ k => XS.iadd X1307.here hx rfl (hb hby at_90) rfl k) ?_
    show Way _ _ _ _ (T1306.setTop (mkF m 91 #[iv p0, iv p1, iv p2, iv p3, iv 3, rv a1126, rv a1219, rv x_bx1295, .unset] [(.int 10), (.int 10)]))
    have b1329 : (10 : Int32) = (10 : Int32) := by decide
    refine Way.by (fun _ k => XS.icmpYes X1307.here hx rfl (pc0 := 91) (pc' := 96) rfl (hb hby at_91) rfl (teq b1329).1 (by decide) (by decide) k) ?_
    show Way _ _ _ _ (T1306.setTop (mkF m 96 #[iv p0, iv p1, iv p2, iv p3, iv 3, rv a1126, rv a1219, rv x_bx1295, .unset] []))
    refine Way.by (fun _ k => XS.iconst X1307.here hx rfl (hb hby at_96) k) ?_
    show Way _ _ _ _ (T1306.setTop (mkF m 97 #[iv p0, iv p1, iv p2, iv p3, iv 3, rv a1126, rv a1219, rv x_bx1295, .unset] [(.int 1)]))
    refine Way.by (fun _ k => XS.istore X1307.here hx rfl (hb hby at_97) rfl (l' := #[iv p0, iv p1, iv p2, iv p3, iv 3, rv a1126, rv a1219, rv x_bx1295, iv 1]) rfl k) ?_
    show Way _ _ _ _ (T1306.setTop (mkF m 99 #[iv p0, iv p1, iv p2, iv p3, iv 3, rv a1126, rv a1219, rv x_bx1295, iv 1] []))
    refine Way.by (fun _ k => XS.iload X1307.here hx rfl (hb hby at_99) rfl k) ?_
    show Way _ _ _ _ (T1306.setTop (mkF m 101 #[iv p0, iv p1, iv p2, iv p3, iv 3, rv a1126, rv a1219, rv x_bx1295, iv 1] [(.int 3)]))
    have b1330 : (0 : Int32) < (3 : Int32) := by decide
    refine Way.by (fun _ k => XS.ifNo X1307.here hx rfl (hb hby at_101) rfl ((if0 .le _).trans (tlt b1330).2.2.2) k) ?_
    show Way _ _ _ _ (T1306.setTop (mkF m 104 #[iv p0, iv p1, iv p2, iv p3, iv 3, rv a1126, rv a1219, rv x_bx1295, iv 1] []))
    refine Way.by (fun _ k => XS.iload X1307.here hx rfl (hb hby at_104) rfl k) ?_
    show Way _ _ _ _ (T1306.setTop (mkF m 106 #[iv p0, iv p1, iv p2, iv p3, iv 3, rv a1126, rv a1219, rv x_bx1295, iv 1] [(.int 1)]))
    have b1331 : ¬ (1 : Int32) = (0 : Int32) := by decide
    refine Way.by (fun _ k => XS.ifNo X1307.here hx rfl (hb hby at_106) rfl ((if0 .eq _).trans (feq b1331).1) k) ?_
    show Way _ _ _ _ (T1306.setTop (mkF m 109 #[iv p0, iv p1, iv p2, iv p3, iv 3, rv a1126, rv a1219, rv x_bx1295, iv 1] []))
    refine Way.by (fun _ k => XS.aload X1307.here hx rfl (hb hby at_109) rfl rfl k) ?_
    refine Way.by (fun _ k => XS.iconst X1307.here hx rfl (hb hby at_111) k) ?_
    show Way _ _ _ _ (T1306.setTop (mkF m 112 #[iv p0, iv p1, iv p2, iv p3, iv 3, rv a1126, rv a1219, rv x_bx1295, iv 1] [(.int 0), (.ref x_bx1295)]))
    obtain ⟨cq1348, kq1349, qa1350, qb1351, qc1352⟩ := isOf hZ1289 e1318 F_01293.1
    obtain ⟨_, _, ⟨T1332, L1334, k1335, n1336⟩, -, X1333, ⟨Lc1337, hQ1338, l1339, y1340, z1341⟩, st1342⟩ := X1307.virtualBack hx (y := (⟨"java/lang/String", "charAt", "(I)C"⟩ : MethodName)) (z := (⟨"java/lang/String", "charAt", "(I)C"⟩ : MethodName)) hown1290 (mvT hZ1289 (tw hw 150 rfl)) (mvT hZ1289 (tw hw 151 rfl)) (notFace_of_selects (args := #[]) (mvT hZ1289 (tw hw 153 rfl))) (mvT hZ1289 (tw hw 153 rfl)) (mvT hZ1289 (tw hw 152 rfl)) (by decide) (own_chr (W := 0) (n0 := n0) hZ1289 hw SV O1305 (cs := [(p1 &&& (255 : Int32)).toUInt32.toUInt16.toUInt32.toInt32, (p2 &&& (255 : Int32)).toUInt32.toUInt16.toUInt32.toInt32, (p3 &&& (255 : Int32)).toUInt32.toUInt16.toUInt32.toInt32, 46, 115, 104, 97, 53, 49, 50]) (i := 0) F_01293 (leB rfl) rfl (by decide) (by decide)) qa1350 qc1352 (g := (mkF m 112 #[iv p0, iv p1, iv p2, iv p3, iv 3, rv a1126, rv a1219, rv x_bx1295, iv 1] [(.int 0), (.ref x_bx1295)])) rfl (by rw [hml]; rfl) (Steps.refl _) (argsL := [(.int 0)]) (rest := []) (lenOf own_pdChr rfl) rfl (leW rfl) (hb hby at_112) (fun _ _ => ⟨rfl, e1318, (leB rfl), (leB rfl)⟩)
    dsimp only [Pt.U, Pt.locs, Pt.cells, Pt.slots] at X1333 l1339 y1340 z1341 st1342 hQ1338
    subst y1340 z1341
    obtain ⟨rfl, N1353, e1344⟩ := hQ1338
    have N1343 : Fr n0 L1334 := by rw [l1339]; exact Fr.app N1317 N1353
    refine Way.to st1342 ?_
    show Way _ _ _ _ (T1332.setTop (mkF m 115 #[iv p0, iv p1, iv p2, iv p3, iv 3, rv a1126, rv a1219, rv x_bx1295, iv 1] [(.int (p1 &&& (255 : Int32)).toUInt32.toUInt16.toUInt32.toInt32)]))
    try clear X1307 N1317 e1318 st1342 cq1348 kq1349 qa1350 qb1351 qc1352 N1353
    try clear T1306
    refine Way.by (fun _ k => XS.aload X1333.here hx rfl (hb hby at_115) rfl rfl k) ?_
    refine Way.by (fun _ k => XS.iconst X1333.here hx rfl (hb hby at_117) k) ?_
    show Way _ _ _ _ (T1332.setTop (mkF m 118 #[iv p0, iv p1, iv p2, iv p3, iv 3, rv a1126, rv a1219, rv x_bx1295, iv 1] [(.int 0), (.ref a1126), (.int (p1 &&& (255 : Int32)).toUInt32.toUInt16.toUInt32.toInt32)]))
    obtain ⟨c1355, A1356, q1357, S1358, M1359, H1360, U1361⟩ := id A1301
    refine Way.by (fun t k => Stand.caload X1333 hx (hpE e1344 A1356.1) (arrS hZ1289 A1356) A1356.2.2 (inb_of S1358 ⟨(by decide), (by decide)⟩) (Has.at H1360 (inb_of S1358 ⟨(by decide), (by decide)⟩) rfl) (g := (mkF m 118 #[iv p0, iv p1, iv p2, iv p3, iv 3, rv a1126, rv a1219, rv x_bx1295, iv 1] [(.int 0), (.ref a1126), (.int (p1 &&& (255 : Int32)).toUInt32.toUInt16.toUInt32.toInt32)])) rfl rfl (hb hby at_118) t k) ?_
    show Way _ _ _ _ (T1332.setTop (mkF m 119 #[iv p0, iv p1, iv p2, iv p3, iv 3, rv a1126, rv a1219, rv x_bx1295, iv 1] [(.int (p1 &&& (255 : Int32)).toUInt32.toUInt16.toUInt32.toInt32), (.int (p1 &&& (255 : Int32)).toUInt32.toUInt16.toUInt32.toInt32)]))
    have b1362 : (p1 &&& (255 : Int32)).toUInt32.toUInt16.toUInt32.toInt32 = (p1 &&& (255 : Int32)).toUInt32.toUInt16.toUInt32.toInt32 := rfl
    refine Way.by (fun _ k => XS.icmpNo X1333.here hx rfl (hb hby at_119) rfl (teq b1362).2 k) ?_
    show Way _ _ _ _ (T1332.setTop (mkF m 122 #[iv p0, iv p1, iv p2, iv p3, iv 3, rv a1126, rv a1219, rv x_bx1295, iv 1] []))
    refine Way.by (fun _ k => XS.iconst X1333.here hx rfl (hb hby at_122) k) ?_
    show Way _ _ _ _ (T1332.setTop (mkF m 123 #[iv p0, iv p1, iv p2, iv p3, iv 3, rv a1126, rv a1219, rv x_bx1295, iv 1] [(.int 1)]))
    refine Way.by (fun _ k => XS.goto X1333.here hx rfl (pc0 := 123) (pc' := 127) rfl (hb hby at_123) (by decide) (by decide) k) ?_
    show Way _ _ _ _ (T1332.setTop (mkF m 127 #[iv p0, iv p1, iv p2, iv p3, iv 3, rv a1126, rv a1219, rv x_bx1295, iv 1] [(.int 1)]))
    refine Way.by (fun _ k => XS.istore X1333.here hx rfl (hb hby at_127) rfl (l' := #[iv p0, iv p1, iv p2, iv p3, iv 3, rv a1126, rv a1219, rv x_bx1295, iv 1]) rfl k) ?_
    show Way _ _ _ _ (T1332.setTop (mkF m 129 #[iv p0, iv p1, iv p2, iv p3, iv 3, rv a1126, rv a1219, rv x_bx1295, iv 1] []))
    refine Way.by (fun _ k => XS.iload X1333.here hx rfl (hb hby at_129) rfl k) ?_
    refine Way.by (fun _ k => XS.iconst X1333.here hx rfl (hb hby at_131) k) ?_
    show Way _ _ _ _ (T1332.setTop (mkF m 132 #[iv p0, iv p1, iv p2, iv p3, iv 3, rv a1126, rv a1219, rv x_bx1295, iv 1] [(.int 1), (.int 3)]))
    have b1363 : (1 : Int32) < (3 : Int32) := by decide
    refine Way.by (fun _ k => XS.icmpNo X1333.here hx rfl (hb hby at_132) rfl (tlt b1363).2.2.2 k) ?_
    show Way _ _ _ _ (T1332.setTop (mkF m 135 #[iv p0, iv p1, iv p2, iv p3, iv 3, rv a1126, rv a1219, rv x_bx1295, iv 1] []))
    refine Way.by (fun _ k => XS.iload X1333.here hx rfl (hb hby at_135) rfl k) ?_
    show Way _ _ _ _ (T1332.setTop (mkF m 137 #[iv p0, iv p1, iv p2, iv p3, iv 3, rv a1126, rv a1219, rv x_bx1295, iv 1] [(.int 1)]))
    have b1364 : ¬ (1 : Int32) = (0 : Int32) := by decide
    refine Way.by (fun _ k => XS.ifNo X1333.here hx rfl (hb hby at_137) rfl ((if0 .eq _).trans (feq b1364).1) k) ?_
    show Way _ _ _ _ (T1332.setTop (mkF m 140 #[iv p0, iv p1, iv p2, iv p3, iv 3, rv a1126, rv a1219, rv x_bx1295, iv 1] []))
    refine Way.by (fun _ k => XS.aload X1333.here hx rfl (hb hby at_140) rfl rfl k) ?_
    refine Way.by (fun _ k => XS.iconst X1333.here hx rfl (hb hby at_142) k) ?_
    show Way _ _ _ _ (T1332.setTop (mkF m 143 #[iv p0, iv p1, iv p2, iv p3, iv 3, rv a1126, rv a1219, rv x_bx1295, iv 1] [(.int 1), (.ref x_bx1295)]))
    obtain ⟨cq1381, kq1382, qa1383, qb1384, qc1385⟩ := isOf hZ1289 e1344 F_01293.1
    obtain ⟨_, _, ⟨T1365, L1367, k1368, n1369⟩, -, X1366, ⟨Lc1370, hQ1371, l1372, y1373, z1374⟩, st1375⟩ := X1333.virtualBack hx (y := (⟨"java/lang/String", "charAt", "(I)C"⟩ : MethodName)) (z := (⟨"java/lang/String", "charAt", "(I)C"⟩ : MethodName)) hown1290 (mvT hZ1289 (tw hw 150 rfl)) (mvT hZ1289 (tw hw 151 rfl)) (notFace_of_selects (args := #[]) (mvT hZ1289 (tw hw 153 rfl))) (mvT hZ1289 (tw hw 153 rfl)) (mvT hZ1289 (tw hw 152 rfl)) (by decide) (own_chr (W := 0) (n0 := n0) hZ1289 hw SV O1305 (cs := [(p1 &&& (255 : Int32)).toUInt32.toUInt16.toUInt32.toInt32, (p2 &&& (255 : Int32)).toUInt32.toUInt16.toUInt32.toInt32, (p3 &&& (255 : Int32)).toUInt32.toUInt16.toUInt32.toInt32, 46, 115, 104, 97, 53, 49, 50]) (i := 1) F_01293 (leB rfl) rfl (by decide) (by decide)) qa1383 qc1385 (g := (mkF m 143 #[iv p0, iv p1, iv p2, iv p3, iv 3, rv a1126, rv a1219, rv x_bx1295, iv 1] [(.int 1), (.ref x_bx1295)])) rfl (by rw [hml]; rfl) (Steps.refl _) (argsL := [(.int 1)]) (rest := []) (lenOf own_pdChr rfl) rfl (leW rfl) (hb hby at_143) (fun _ _ => ⟨rfl, e1344, (leB rfl), (leB rfl)⟩)
    dsimp only [Pt.U, Pt.locs, Pt.cells, Pt.slots] at X1366 l1372 y1373 z1374 st1375 hQ1371
    subst y1373 z1374
    obtain ⟨rfl, N1386, e1377⟩ := hQ1371
    have N1376 : Fr n0 L1367 := by rw [l1372]; exact Fr.app N1343 N1386
    refine Way.to st1375 ?_
    show Way _ _ _ _ (T1365.setTop (mkF m 146 #[iv p0, iv p1, iv p2, iv p3, iv 3, rv a1126, rv a1219, rv x_bx1295, iv 1] [(.int (p2 &&& (255 : Int32)).toUInt32.toUInt16.toUInt32.toInt32)]))
    try clear X1333 N1343 e1344 st1375 cq1381 kq1382 qa1383 qb1384 qc1385 N1386
    try clear T1332
    refine Way.by (fun _ k => XS.aload X1366.here hx rfl (hb hby at_146) rfl rfl k) ?_
    refine Way.by (fun _ k => XS.iconst X1366.here hx rfl (hb hby at_148) k) ?_
    show Way _ _ _ _ (T1365.setTop (mkF m 149 #[iv p0, iv p1, iv p2, iv p3, iv 3, rv a1126, rv a1219, rv x_bx1295, iv 1] [(.int 1), (.ref a1126), (.int (p2 &&& (255 : Int32)).toUInt32.toUInt16.toUInt32.toInt32)]))
    obtain ⟨c1388, A1389, q1390, S1391, M1392, H1393, U1394⟩ := id A1301
    refine Way.by (fun t k => Stand.caload X1366 hx (hpE e1377 A1389.1) (arrS hZ1289 A1389) A1389.2.2 (inb_of S1391 ⟨(by decide), (by decide)⟩) (Has.at H1393 (inb_of S1391 ⟨(by decide), (by decide)⟩) rfl) (g := (mkF m 149 #[iv p0, iv p1, iv p2, iv p3, iv 3, rv a1126, rv a1219, rv x_bx1295, iv 1] [(.int 1), (.ref a1126), (.int (p2 &&& (255 : Int32)).toUInt32.toUInt16.toUInt32.toInt32)])) rfl rfl (hb hby at_149) t k) ?_
    show Way _ _ _ _ (T1365.setTop (mkF m 150 #[iv p0, iv p1, iv p2, iv p3, iv 3, rv a1126, rv a1219, rv x_bx1295, iv 1] [(.int (p2 &&& (255 : Int32)).toUInt32.toUInt16.toUInt32.toInt32), (.int (p2 &&& (255 : Int32)).toUInt32.toUInt16.toUInt32.toInt32)]))
    have b1395 : (p2 &&& (255 : Int32)).toUInt32.toUInt16.toUInt32.toInt32 = (p2 &&& (255 : Int32)).toUInt32.toUInt16.toUInt32.toInt32 := rfl
    refine Way.by (fun _ k => XS.icmpNo X1366.here hx rfl (hb hby at_150) rfl (teq b1395).2 k) ?_
    show Way _ _ _ _ (T1365.setTop (mkF m 153 #[iv p0, iv p1, iv p2, iv p3, iv 3, rv a1126, rv a1219, rv x_bx1295, iv 1] []))
    refine Way.by (fun _ k => XS.iconst X1366.here hx rfl (hb hby at_153) k) ?_
    show Way _ _ _ _ (T1365.setTop (mkF m 154 #[iv p0, iv p1, iv p2, iv p3, iv 3, rv a1126, rv a1219, rv x_bx1295, iv 1] [(.int 1)]))
    refine Way.by (fun _ k => XS.goto X1366.here hx rfl (pc0 := 154) (pc' := 158) rfl (hb hby at_154) (by decide) (by decide) k) ?_
    show Way _ _ _ _ (T1365.setTop (mkF m 158 #[iv p0, iv p1, iv p2, iv p3, iv 3, rv a1126, rv a1219, rv x_bx1295, iv 1] [(.int 1)]))
    refine Way.by (fun _ k => XS.istore X1366.here hx rfl (hb hby at_158) rfl (l' := #[iv p0, iv p1, iv p2, iv p3, iv 3, rv a1126, rv a1219, rv x_bx1295, iv 1]) rfl k) ?_
    show Way _ _ _ _ (T1365.setTop (mkF m 160 #[iv p0, iv p1, iv p2, iv p3, iv 3, rv a1126, rv a1219, rv x_bx1295, iv 1] []))
    refine Way.by (fun _ k => XS.iload X1366.here hx rfl (hb hby at_160) rfl k) ?_
    refine Way.by (fun _ k => XS.iconst X1366.here hx rfl (hb hby at_162) k) ?_
    show Way _ _ _ _ (T1365.setTop (mkF m 163 #[iv p0, iv p1, iv p2, iv p3, iv 3, rv a1126, rv a1219, rv x_bx1295, iv 1] [(.int 2), (.int 3)]))
    have b1396 : (2 : Int32) < (3 : Int32) := by decide
    refine Way.by (fun _ k => XS.icmpNo X1366.here hx rfl (hb hby at_163) rfl (tlt b1396).2.2.2 k) ?_
    show Way _ _ _ _ (T1365.setTop (mkF m 166 #[iv p0, iv p1, iv p2, iv p3, iv 3, rv a1126, rv a1219, rv x_bx1295, iv 1] []))
    refine Way.by (fun _ k => XS.iload X1366.here hx rfl (hb hby at_166) rfl k) ?_
    show Way _ _ _ _ (T1365.setTop (mkF m 168 #[iv p0, iv p1, iv p2, iv p3, iv 3, rv a1126, rv a1219, rv x_bx1295, iv 1] [(.int 1)]))
    have b1397 : ¬ (1 : Int32) = (0 : Int32) := by decide
    refine Way.by (fun _ k => XS.ifNo X1366.here hx rfl (hb hby at_168) rfl ((if0 .eq _).trans (feq b1397).1) k) ?_
    show Way _ _ _ _ (T1365.setTop (mkF m 171 #[iv p0, iv p1, iv p2, iv p3, iv 3, rv a1126, rv a1219, rv x_bx1295, iv 1] []))
    refine Way.by (fun _ k => XS.aload X1366.here hx rfl (hb hby at_171) rfl rfl k) ?_
    refine Way.by (fun _ k => XS.iconst X1366.here hx rfl (hb hby at_173) k) ?_
    show Way _ _ _ _ (T1365.setTop (mkF m 174 #[iv p0, iv p1, iv p2, iv p3, iv 3, rv a1126, rv a1219, rv x_bx1295, iv 1] [(.int 2), (.ref x_bx1295)]))
    obtain ⟨cq1414, kq1415, qa1416, qb1417, qc1418⟩ := isOf hZ1289 e1377 F_01293.1
    obtain ⟨_, _, ⟨T1398, L1400, k1401, n1402⟩, -, X1399, ⟨Lc1403, hQ1404, l1405, y1406, z1407⟩, st1408⟩ := X1366.virtualBack hx (y := (⟨"java/lang/String", "charAt", "(I)C"⟩ : MethodName)) (z := (⟨"java/lang/String", "charAt", "(I)C"⟩ : MethodName)) hown1290 (mvT hZ1289 (tw hw 150 rfl)) (mvT hZ1289 (tw hw 151 rfl)) (notFace_of_selects (args := #[]) (mvT hZ1289 (tw hw 153 rfl))) (mvT hZ1289 (tw hw 153 rfl)) (mvT hZ1289 (tw hw 152 rfl)) (by decide) (own_chr (W := 0) (n0 := n0) hZ1289 hw SV O1305 (cs := [(p1 &&& (255 : Int32)).toUInt32.toUInt16.toUInt32.toInt32, (p2 &&& (255 : Int32)).toUInt32.toUInt16.toUInt32.toInt32, (p3 &&& (255 : Int32)).toUInt32.toUInt16.toUInt32.toInt32, 46, 115, 104, 97, 53, 49, 50]) (i := 2) F_01293 (leB rfl) rfl (by decide) (by decide)) qa1416 qc1418 (g := (mkF m 174 #[iv p0, iv p1, iv p2, iv p3, iv 3, rv a1126, rv a1219, rv x_bx1295, iv 1] [(.int 2), (.ref x_bx1295)])) rfl (by rw [hml]; rfl) (Steps.refl _) (argsL := [(.int 2)]) (rest := []) (lenOf own_pdChr rfl) rfl (leW rfl) (hb hby at_174) (fun _ _ => ⟨rfl, e1377, (leB rfl), (leB rfl)⟩)
    dsimp only [Pt.U, Pt.locs, Pt.cells, Pt.slots] at X1399 l1405 y1406 z1407 st1408 hQ1404
    subst y1406 z1407
    obtain ⟨rfl, N1419, e1410⟩ := hQ1404
    have N1409 : Fr n0 L1400 := by rw [l1405]; exact Fr.app N1376 N1419
    refine Way.to st1408 ?_
    show Way _ _ _ _ (T1398.setTop (mkF m 177 #[iv p0, iv p1, iv p2, iv p3, iv 3, rv a1126, rv a1219, rv x_bx1295, iv 1] [(.int (p3 &&& (255 : Int32)).toUInt32.toUInt16.toUInt32.toInt32)]))
    try clear X1366 N1376 e1377 st1408 cq1414 kq1415 qa1416 qb1417 qc1418 N1419
    try clear T1365
    refine Way.by (fun _ k => XS.aload X1399.here hx rfl (hb hby at_177) rfl rfl k) ?_
    refine Way.by (fun _ k => XS.iconst X1399.here hx rfl (hb hby at_179) k) ?_
    show Way _ _ _ _ (T1398.setTop (mkF m 180 #[iv p0, iv p1, iv p2, iv p3, iv 3, rv a1126, rv a1219, rv x_bx1295, iv 1] [(.int 2), (.ref a1126), (.int (p3 &&& (255 : Int32)).toUInt32.toUInt16.toUInt32.toInt32)]))
    obtain ⟨c1421, A1422, q1423, S1424, M1425, H1426, U1427⟩ := id A1301
    refine Way.by (fun t k => Stand.caload X1399 hx (hpE e1410 A1422.1) (arrS hZ1289 A1422) A1422.2.2 (inb_of S1424 ⟨(by decide), (by decide)⟩) (Has.at H1426 (inb_of S1424 ⟨(by decide), (by decide)⟩) rfl) (g := (mkF m 180 #[iv p0, iv p1, iv p2, iv p3, iv 3, rv a1126, rv a1219, rv x_bx1295, iv 1] [(.int 2), (.ref a1126), (.int (p3 &&& (255 : Int32)).toUInt32.toUInt16.toUInt32.toInt32)])) rfl rfl (hb hby at_180) t k) ?_
    show Way _ _ _ _ (T1398.setTop (mkF m 181 #[iv p0, iv p1, iv p2, iv p3, iv 3, rv a1126, rv a1219, rv x_bx1295, iv 1] [(.int (p3 &&& (255 : Int32)).toUInt32.toUInt16.toUInt32.toInt32), (.int (p3 &&& (255 : Int32)).toUInt32.toUInt16.toUInt32.toInt32)]))
    have b1428 : (p3 &&& (255 : Int32)).toUInt32.toUInt16.toUInt32.toInt32 = (p3 &&& (255 : Int32)).toUInt32.toUInt16.toUInt32.toInt32 := rfl
    refine Way.by (fun _ k => XS.icmpNo X1399.here hx rfl (hb hby at_181) rfl (teq b1428).2 k) ?_
    show Way _ _ _ _ (T1398.setTop (mkF m 184 #[iv p0, iv p1, iv p2, iv p3, iv 3, rv a1126, rv a1219, rv x_bx1295, iv 1] []))
    refine Way.by (fun _ k => XS.iconst X1399.here hx rfl (hb hby at_184) k) ?_
    show Way _ _ _ _ (T1398.setTop (mkF m 185 #[iv p0, iv p1, iv p2, iv p3, iv 3, rv a1126, rv a1219, rv x_bx1295, iv 1] [(.int 1)]))
    refine Way.by (fun _ k => XS.goto X1399.here hx rfl (pc0 := 185) (pc' := 189) rfl (hb hby at_185) (by decide) (by decide) k) ?_
    show Way _ _ _ _ (T1398.setTop (mkF m 189 #[iv p0, iv p1, iv p2, iv p3, iv 3, rv a1126, rv a1219, rv x_bx1295, iv 1] [(.int 1)]))
    refine Way.by (fun _ k => XS.istore X1399.here hx rfl (hb hby at_189) rfl (l' := #[iv p0, iv p1, iv p2, iv p3, iv 3, rv a1126, rv a1219, rv x_bx1295, iv 1]) rfl k) ?_
    show Way _ _ _ _ (T1398.setTop (mkF m 191 #[iv p0, iv p1, iv p2, iv p3, iv 3, rv a1126, rv a1219, rv x_bx1295, iv 1] []))
    refine Way.by (fun _ k => XS.iload X1399.here hx rfl (hb hby at_191) rfl k) ?_
    show Way _ _ _ _ (T1398.setTop (mkF m 193 #[iv p0, iv p1, iv p2, iv p3, iv 3, rv a1126, rv a1219, rv x_bx1295, iv 1] [(.int 1)]))
    have b1429 : ¬ (1 : Int32) = (0 : Int32) := by decide
    refine Way.by (fun _ k => XS.ifNo X1399.here hx rfl (hb hby at_193) rfl ((if0 .eq _).trans (feq b1429).1) k) ?_
    show Way _ _ _ _ (T1398.setTop (mkF m 196 #[iv p0, iv p1, iv p2, iv p3, iv 3, rv a1126, rv a1219, rv x_bx1295, iv 1] []))
    refine Way.by (fun _ k => XS.aload X1399.here hx rfl (hb hby at_196) rfl rfl k) ?_
    refine Way.by (fun _ k => XS.iload X1399.here hx rfl (hb hby at_198) rfl k) ?_
    show Way _ _ _ _ (T1398.setTop (mkF m 200 #[iv p0, iv p1, iv p2, iv p3, iv 3, rv a1126, rv a1219, rv x_bx1295, iv 1] [(.int 3), (.ref x_bx1295)]))
    obtain ⟨cq1446, kq1447, qa1448, qb1449, qc1450⟩ := isOf hZ1289 e1410 F_01293.1
    obtain ⟨_, _, ⟨T1430, L1432, k1433, n1434⟩, -, X1431, ⟨Lc1435, hQ1436, l1437, y1438, z1439⟩, st1440⟩ := X1399.virtualBack hx (y := (⟨"java/lang/String", "charAt", "(I)C"⟩ : MethodName)) (z := (⟨"java/lang/String", "charAt", "(I)C"⟩ : MethodName)) hown1290 (mvT hZ1289 (tw hw 150 rfl)) (mvT hZ1289 (tw hw 151 rfl)) (notFace_of_selects (args := #[]) (mvT hZ1289 (tw hw 153 rfl))) (mvT hZ1289 (tw hw 153 rfl)) (mvT hZ1289 (tw hw 152 rfl)) (by decide) (own_chr (W := 0) (n0 := n0) hZ1289 hw SV O1305 (cs := [(p1 &&& (255 : Int32)).toUInt32.toUInt16.toUInt32.toInt32, (p2 &&& (255 : Int32)).toUInt32.toUInt16.toUInt32.toInt32, (p3 &&& (255 : Int32)).toUInt32.toUInt16.toUInt32.toInt32, 46, 115, 104, 97, 53, 49, 50]) (i := 3) F_01293 (leB rfl) rfl (by decide) (by decide)) qa1448 qc1450 (g := (mkF m 200 #[iv p0, iv p1, iv p2, iv p3, iv 3, rv a1126, rv a1219, rv x_bx1295, iv 1] [(.int 3), (.ref x_bx1295)])) rfl (by rw [hml]; rfl) (Steps.refl _) (argsL := [(.int 3)]) (rest := []) (lenOf own_pdChr rfl) rfl (leW rfl) (hb hby at_200) (fun _ _ => ⟨rfl, e1410, (leB rfl), (leB rfl)⟩)
    dsimp only [Pt.U, Pt.locs, Pt.cells, Pt.slots] at X1431 l1437 y1438 z1439 st1440 hQ1436
    subst y1438 z1439
    obtain ⟨rfl, N1451, e1442⟩ := hQ1436
    have N1441 : Fr n0 L1432 := by rw [l1437]; exact Fr.app N1409 N1451
    refine Way.to st1440 ?_
    show Way _ _ _ _ (T1430.setTop (mkF m 203 #[iv p0, iv p1, iv p2, iv p3, iv 3, rv a1126, rv a1219, rv x_bx1295, iv 1] [(.int 46)]))
    try clear X1399 N1409 e1410 st1440 cq1446 kq1447 qa1448 qb1449 qc1450 N1451
    try clear T1398
    refine Way.by (fun _ k => XS.bipush X1431.here hx rfl (hb hby at_203) k) ?_
    show Way _ _ _ _ (T1430.setTop (mkF m 205 #[iv p0, iv p1, iv p2, iv p3, iv 3, rv a1126, rv a1219, rv x_bx1295, iv 1] [(.int 46), (.int 46)]))
    have b1453 : (46 : Int32) = (46 : Int32) := by decide
    refine Way.by (fun _ k => XS.icmpNo X1431.here hx rfl (hb hby at_205) rfl (teq b1453).2 k) ?_
    show Way _ _ _ _ (T1430.setTop (mkF m 208 #[iv p0, iv p1, iv p2, iv p3, iv 3, rv a1126, rv a1219, rv x_bx1295, iv 1] []))
    refine Way.by (fun _ k => XS.iconst X1431.here hx rfl (hb hby at_208) k) ?_
    show Way _ _ _ _ (T1430.setTop (mkF m 209 #[iv p0, iv p1, iv p2, iv p3, iv 3, rv a1126, rv a1219, rv x_bx1295, iv 1] [(.int 1)]))
    refine Way.by (fun _ k => XS.goto X1431.here hx rfl (pc0 := 209) (pc' := 213) rfl (hb hby at_209) (by decide) (by decide) k) ?_
    show Way _ _ _ _ (T1430.setTop (mkF m 213 #[iv p0, iv p1, iv p2, iv p3, iv 3, rv a1126, rv a1219, rv x_bx1295, iv 1] [(.int 1)]))
    refine Way.by (fun _ k => XS.istore X1431.here hx rfl (hb hby at_213) rfl (l' := #[iv p0, iv p1, iv p2, iv p3, iv 3, rv a1126, rv a1219, rv x_bx1295, iv 1]) rfl k) ?_
    show Way _ _ _ _ (T1430.setTop (mkF m 215 #[iv p0, iv p1, iv p2, iv p3, iv 3, rv a1126, rv a1219, rv x_bx1295, iv 1] []))
    refine Way.by (fun _ k => XS.iload X1431.here hx rfl (hb hby at_215) rfl k) ?_
    show Way _ _ _ _ (T1430.setTop (mkF m 217 #[iv p0, iv p1, iv p2, iv p3, iv 3, rv a1126, rv a1219, rv x_bx1295, iv 1] [(.int 1)]))
    have b1454 : ¬ (1 : Int32) = (0 : Int32) := by decide
    refine Way.by (fun _ k => XS.ifNo X1431.here hx rfl (hb hby at_217) rfl ((if0 .eq _).trans (feq b1454).1) k) ?_
    show Way _ _ _ _ (T1430.setTop (mkF m 220 #[iv p0, iv p1, iv p2, iv p3, iv 3, rv a1126, rv a1219, rv x_bx1295, iv 1] []))
    refine Way.by (fun _ k => XS.aload X1431.here hx rfl (hb hby at_220) rfl rfl k) ?_
    refine Way.by (fun _ k => XS.iload X1431.here hx rfl (hb hby at_222) rfl k) ?_
    refine Way.by (fun _ k => XS.iconst X1431.here hx rfl (hb hby at_224) k) ?_
    show Way _ _ _ _ (T1430.setTop (mkF m 225 #[iv p0, iv p1, iv p2, iv p3, iv 3, rv a1126, rv a1219, rv x_bx1295, iv 1] [(.int 1), (.int 3), (.ref x_bx1295)]))
    refine Way.by (fun _ k => XS.iadd X1431.here hx rfl (hb hby at_225) rfl k) ?_
    show Way _ _ _ _ (T1430.setTop (mkF m 226 #[iv p0, iv p1, iv p2, iv p3, iv 3, rv a1126, rv a1219, rv x_bx1295, iv 1] [(.int 4), (.ref x_bx1295)]))
    obtain ⟨cq1471, kq1472, qa1473, qb1474, qc1475⟩ := isOf hZ1289 e1442 F_01293.1
    obtain ⟨_, _, ⟨T1455, L1457, k1458, n1459⟩, -, X1456, ⟨Lc1460, hQ1461, l1462, y1463, z1464⟩, st1465⟩ := X1431.virtualBack hx (y := (⟨"java/lang/String", "charAt", "(I)C"⟩ : MethodName)) (z := (⟨"java/lang/String", "charAt", "(I)C"⟩ : MethodName)) hown1290 (mvT hZ1289 (tw hw 150 rfl)) (mvT hZ1289 (tw hw 151 rfl)) (notFace_of_selects (args := #[]) (mvT hZ1289 (tw hw 153 rfl))) (mvT hZ1289 (tw hw 153 rfl)) (mvT hZ1289 (tw hw 152 rfl)) (by decide) (own_chr (W := 0) (n0 := n0) hZ1289 hw SV O1305 (cs := [(p1 &&& (255 : Int32)).toUInt32.toUInt16.toUInt32.toInt32, (p2 &&& (255 : Int32)).toUInt32.toUInt16.toUInt32.toInt32, (p3 &&& (255 : Int32)).toUInt32.toUInt16.toUInt32.toInt32, 46, 115, 104, 97, 53, 49, 50]) (i := 4) F_01293 (leB rfl) rfl (by decide) (by decide)) qa1473 qc1475 (g := (mkF m 226 #[iv p0, iv p1, iv p2, iv p3, iv 3, rv a1126, rv a1219, rv x_bx1295, iv 1] [(.int 4), (.ref x_bx1295)])) rfl (by rw [hml]; rfl) (Steps.refl _) (argsL := [(.int 4)]) (rest := []) (lenOf own_pdChr rfl) rfl (leW rfl) (hb hby at_226) (fun _ _ => ⟨rfl, e1442, (leB rfl), (leB rfl)⟩)
    dsimp only [Pt.U, Pt.locs, Pt.cells, Pt.slots] at X1456 l1462 y1463 z1464 st1465 hQ1461
    subst y1463 z1464
    obtain ⟨rfl, N1476, e1467⟩ := hQ1461
    have N1466 : Fr n0 L1457 := by rw [l1462]; exact Fr.app N1441 N1476
    refine Way.to st1465 ?_
    show Way _ _ _ _ (T1455.setTop (mkF m 229 #[iv p0, iv p1, iv p2, iv p3, iv 3, rv a1126, rv a1219, rv x_bx1295, iv 1] [(.int 115)]))
    try clear X1431 N1441 e1442 st1465 cq1471 kq1472 qa1473 qb1474 qc1475 N1476
    try clear T1430
    refine Way.by (fun _ k => XS.bipush X1456.here hx rfl (hb hby at_229) k) ?_
    show Way _ _ _ _ (T1455.setTop (mkF m 231 #[iv p0, iv p1, iv p2, iv p3, iv 3, rv a1126, rv a1219, rv x_bx1295, iv 1] [(.int 115), (.int 115)]))
    have b1478 : (115 : Int32) = (115 : Int32) := by decide
    refine Way.by (fun _ k => XS.icmpNo X1456.here hx rfl (hb hby at_231) rfl (teq b1478).2 k) ?_
    show Way _ _ _ _ (T1455.setTop (mkF m 234 #[iv p0, iv p1, iv p2, iv p3, iv 3, rv a1126, rv a1219, rv x_bx1295, iv 1] []))
    refine Way.by (fun _ k => XS.iconst X1456.here hx rfl (hb hby at_234) k) ?_
    show Way _ _ _ _ (T1455.setTop (mkF m 235 #[iv p0, iv p1, iv p2, iv p3, iv 3, rv a1126, rv a1219, rv x_bx1295, iv 1] [(.int 1)]))
    refine Way.by (fun _ k => XS.goto X1456.here hx rfl (pc0 := 235) (pc' := 239) rfl (hb hby at_235) (by decide) (by decide) k) ?_
    show Way _ _ _ _ (T1455.setTop (mkF m 239 #[iv p0, iv p1, iv p2, iv p3, iv 3, rv a1126, rv a1219, rv x_bx1295, iv 1] [(.int 1)]))
    refine Way.by (fun _ k => XS.istore X1456.here hx rfl (hb hby at_239) rfl (l' := #[iv p0, iv p1, iv p2, iv p3, iv 3, rv a1126, rv a1219, rv x_bx1295, iv 1]) rfl k) ?_
    show Way _ _ _ _ (T1455.setTop (mkF m 241 #[iv p0, iv p1, iv p2, iv p3, iv 3, rv a1126, rv a1219, rv x_bx1295, iv 1] []))
    refine Way.by (fun _ k => XS.iload X1456.here hx rfl (hb hby at_241) rfl k) ?_
    show Way _ _ _ _ (T1455.setTop (mkF m 243 #[iv p0, iv p1, iv p2, iv p3, iv 3, rv a1126, rv a1219, rv x_bx1295, iv 1] [(.int 1)]))
    have b1479 : ¬ (1 : Int32) = (0 : Int32) := by decide
    refine Way.by (fun _ k => XS.ifNo X1456.here hx rfl (hb hby at_243) rfl ((if0 .eq _).trans (feq b1479).1) k) ?_
    show Way _ _ _ _ (T1455.setTop (mkF m 246 #[iv p0, iv p1, iv p2, iv p3, iv 3, rv a1126, rv a1219, rv x_bx1295, iv 1] []))
    refine Way.by (fun _ k => XS.aload X1456.here hx rfl (hb hby at_246) rfl rfl k) ?_
    refine Way.by (fun _ k => XS.iload X1456.here hx rfl (hb hby at_248) rfl k) ?_
    refine Way.by (fun _ k => XS.iconst X1456.here hx rfl (hb hby at_250) k) ?_
    show Way _ _ _ _ (T1455.setTop (mkF m 251 #[iv p0, iv p1, iv p2, iv p3, iv 3, rv a1126, rv a1219, rv x_bx1295, iv 1] [(.int 2), (.int 3), (.ref x_bx1295)]))
    refine Way.by (fun _ k => XS.iadd X1456.here hx rfl (hb hby at_251) rfl k) ?_
    show Way _ _ _ _ (T1455.setTop (mkF m 252 #[iv p0, iv p1, iv p2, iv p3, iv 3, rv a1126, rv a1219, rv x_bx1295, iv 1] [(.int 5), (.ref x_bx1295)]))
    obtain ⟨cq1496, kq1497, qa1498, qb1499, qc1500⟩ := isOf hZ1289 e1467 F_01293.1
    obtain ⟨_, _, ⟨T1480, L1482, k1483, n1484⟩, -, X1481, ⟨Lc1485, hQ1486, l1487, y1488, z1489⟩, st1490⟩ := X1456.virtualBack hx (y := (⟨"java/lang/String", "charAt", "(I)C"⟩ : MethodName)) (z := (⟨"java/lang/String", "charAt", "(I)C"⟩ : MethodName)) hown1290 (mvT hZ1289 (tw hw 150 rfl)) (mvT hZ1289 (tw hw 151 rfl)) (notFace_of_selects (args := #[]) (mvT hZ1289 (tw hw 153 rfl))) (mvT hZ1289 (tw hw 153 rfl)) (mvT hZ1289 (tw hw 152 rfl)) (by decide) (own_chr (W := 0) (n0 := n0) hZ1289 hw SV O1305 (cs := [(p1 &&& (255 : Int32)).toUInt32.toUInt16.toUInt32.toInt32, (p2 &&& (255 : Int32)).toUInt32.toUInt16.toUInt32.toInt32, (p3 &&& (255 : Int32)).toUInt32.toUInt16.toUInt32.toInt32, 46, 115, 104, 97, 53, 49, 50]) (i := 5) F_01293 (leB rfl) rfl (by decide) (by decide)) qa1498 qc1500 (g := (mkF m 252 #[iv p0, iv p1, iv p2, iv p3, iv 3, rv a1126, rv a1219, rv x_bx1295, iv 1] [(.int 5), (.ref x_bx1295)])) rfl (by rw [hml]; rfl) (Steps.refl _) (argsL := [(.int 5)]) (rest := []) (lenOf own_pdChr rfl) rfl (leW rfl) (hb hby at_252) (fun _ _ => ⟨rfl, e1467, (leB rfl), (leB rfl)⟩)
    dsimp only [Pt.U, Pt.locs, Pt.cells, Pt.slots] at X1481 l1487 y1488 z1489 st1490 hQ1486
    subst y1488 z1489
    obtain ⟨rfl, N1501, e1492⟩ := hQ1486
    have N1491 : Fr n0 L1482 := by rw [l1487]; exact Fr.app N1466 N1501
    refine Way.to st1490 ?_
    show Way _ _ _ _ (T1480.setTop (mkF m 255 #[iv p0, iv p1, iv p2, iv p3, iv 3, rv a1126, rv a1219, rv x_bx1295, iv 1] [(.int 104)]))
    try clear X1456 N1466 e1467 st1490 cq1496 kq1497 qa1498 qb1499 qc1500 N1501
    try clear T1455
    refine Way.by (fun _ k => XS.bipush X1481.here hx rfl (hb hby at_255) k) ?_
    show Way _ _ _ _ (T1480.setTop (mkF m 257 #[iv p0, iv p1, iv p2, iv p3, iv 3, rv a1126, rv a1219, rv x_bx1295, iv 1] [(.int 104), (.int 104)]))
    have b1503 : (104 : Int32) = (104 : Int32) := by decide
    refine Way.by (fun _ k => XS.icmpNo X1481.here hx rfl (hb hby at_257) rfl (teq b1503).2 k) ?_
    show Way _ _ _ _ (T1480.setTop (mkF m 260 #[iv p0, iv p1, iv p2, iv p3, iv 3, rv a1126, rv a1219, rv x_bx1295, iv 1] []))
    refine Way.by (fun _ k => XS.iconst X1481.here hx rfl (hb hby at_260) k) ?_
    show Way _ _ _ _ (T1480.setTop (mkF m 261 #[iv p0, iv p1, iv p2, iv p3, iv 3, rv a1126, rv a1219, rv x_bx1295, iv 1] [(.int 1)]))
    refine Way.by (fun _ k => XS.goto X1481.here hx rfl (pc0 := 261) (pc' := 265) rfl (hb hby at_261) (by decide) (by decide) k) ?_
    show Way _ _ _ _ (T1480.setTop (mkF m 265 #[iv p0, iv p1, iv p2, iv p3, iv 3, rv a1126, rv a1219, rv x_bx1295, iv 1] [(.int 1)]))
    refine Way.by (fun _ k => XS.istore X1481.here hx rfl (hb hby at_265) rfl (l' := #[iv p0, iv p1, iv p2, iv p3, iv 3, rv a1126, rv a1219, rv x_bx1295, iv 1]) rfl k) ?_
    show Way _ _ _ _ (T1480.setTop (mkF m 267 #[iv p0, iv p1, iv p2, iv p3, iv 3, rv a1126, rv a1219, rv x_bx1295, iv 1] []))
    refine Way.by (fun _ k => XS.iload X1481.here hx rfl (hb hby at_267) rfl k) ?_
    show Way _ _ _ _ (T1480.setTop (mkF m 269 #[iv p0, iv p1, iv p2, iv p3, iv 3, rv a1126, rv a1219, rv x_bx1295, iv 1] [(.int 1)]))
    have b1504 : ¬ (1 : Int32) = (0 : Int32) := by decide
    refine Way.by (fun _ k => XS.ifNo X1481.here hx rfl (hb hby at_269) rfl ((if0 .eq _).trans (feq b1504).1) k) ?_
    show Way _ _ _ _ (T1480.setTop (mkF m 272 #[iv p0, iv p1, iv p2, iv p3, iv 3, rv a1126, rv a1219, rv x_bx1295, iv 1] []))
    refine Way.by (fun _ k => XS.aload X1481.here hx rfl (hb hby at_272) rfl rfl k) ?_
    refine Way.by (fun _ k => XS.iload X1481.here hx rfl (hb hby at_274) rfl k) ?_
    refine Way.by (fun _ k => XS.iconst X1481.here hx rfl (hb hby at_276) k) ?_
    show Way _ _ _ _ (T1480.setTop (mkF m 277 #[iv p0, iv p1, iv p2, iv p3, iv 3, rv a1126, rv a1219, rv x_bx1295, iv 1] [(.int 3), (.int 3), (.ref x_bx1295)]))
    refine Way.by (fun _ k => XS.iadd X1481.here hx rfl (hb hby at_277) rfl k) ?_
    show Way _ _ _ _ (T1480.setTop (mkF m 278 #[iv p0, iv p1, iv p2, iv p3, iv 3, rv a1126, rv a1219, rv x_bx1295, iv 1] [(.int 6), (.ref x_bx1295)]))
    obtain ⟨cq1521, kq1522, qa1523, qb1524, qc1525⟩ := isOf hZ1289 e1492 F_01293.1
    obtain ⟨_, _, ⟨T1505, L1507, k1508, n1509⟩, -, X1506, ⟨Lc1510, hQ1511, l1512, y1513, z1514⟩, st1515⟩ := X1481.virtualBack hx (y := (⟨"java/lang/String", "charAt", "(I)C"⟩ : MethodName)) (z := (⟨"java/lang/String", "charAt", "(I)C"⟩ : MethodName)) hown1290 (mvT hZ1289 (tw hw 150 rfl)) (mvT hZ1289 (tw hw 151 rfl)) (notFace_of_selects (args := #[]) (mvT hZ1289 (tw hw 153 rfl))) (mvT hZ1289 (tw hw 153 rfl)) (mvT hZ1289 (tw hw 152 rfl)) (by decide) (own_chr (W := 0) (n0 := n0) hZ1289 hw SV O1305 (cs := [(p1 &&& (255 : Int32)).toUInt32.toUInt16.toUInt32.toInt32, (p2 &&& (255 : Int32)).toUInt32.toUInt16.toUInt32.toInt32, (p3 &&& (255 : Int32)).toUInt32.toUInt16.toUInt32.toInt32, 46, 115, 104, 97, 53, 49, 50]) (i := 6) F_01293 (leB rfl) rfl (by decide) (by decide)) qa1523 qc1525 (g := (mkF m 278 #[iv p0, iv p1, iv p2, iv p3, iv 3, rv a1126, rv a1219, rv x_bx1295, iv 1] [(.int 6), (.ref x_bx1295)])) rfl (by rw [hml]; rfl) (Steps.refl _) (argsL := [(.int 6)]) (rest := []) (lenOf own_pdChr rfl) rfl (leW rfl) (hb hby at_278) (fun _ _ => ⟨rfl, e1492, (leB rfl), (leB rfl)⟩)
    dsimp only [Pt.U, Pt.locs, Pt.cells, Pt.slots] at X1506 l1512 y1513 z1514 st1515 hQ1511
    subst y1513 z1514
    obtain ⟨rfl, N1526, e1517⟩ := hQ1511
    have N1516 : Fr n0 L1507 := by rw [l1512]; exact Fr.app N1491 N1526
    refine Way.to st1515 ?_
    show Way _ _ _ _ (T1505.setTop (mkF m 281 #[iv p0, iv p1, iv p2, iv p3, iv 3, rv a1126, rv a1219, rv x_bx1295, iv 1] [(.int 97)]))
    try clear X1481 N1491 e1492 st1515 cq1521 kq1522 qa1523 qb1524 qc1525 N1526
    try clear T1480
    refine Way.by (fun _ k => XS.bipush X1506.here hx rfl (hb hby at_281) k) ?_
    show Way _ _ _ _ (T1505.setTop (mkF m 283 #[iv p0, iv p1, iv p2, iv p3, iv 3, rv a1126, rv a1219, rv x_bx1295, iv 1] [(.int 97), (.int 97)]))
    have b1528 : (97 : Int32) = (97 : Int32) := by decide
    refine Way.by (fun _ k => XS.icmpNo X1506.here hx rfl (hb hby at_283) rfl (teq b1528).2 k) ?_
    show Way _ _ _ _ (T1505.setTop (mkF m 286 #[iv p0, iv p1, iv p2, iv p3, iv 3, rv a1126, rv a1219, rv x_bx1295, iv 1] []))
    refine Way.by (fun _ k => XS.iconst X1506.here hx rfl (hb hby at_286) k) ?_
    show Way _ _ _ _ (T1505.setTop (mkF m 287 #[iv p0, iv p1, iv p2, iv p3, iv 3, rv a1126, rv a1219, rv x_bx1295, iv 1] [(.int 1)]))
    refine Way.by (fun _ k => XS.goto X1506.here hx rfl (pc0 := 287) (pc' := 291) rfl (hb hby at_287) (by decide) (by decide) k) ?_
    show Way _ _ _ _ (T1505.setTop (mkF m 291 #[iv p0, iv p1, iv p2, iv p3, iv 3, rv a1126, rv a1219, rv x_bx1295, iv 1] [(.int 1)]))
    refine Way.by (fun _ k => XS.istore X1506.here hx rfl (hb hby at_291) rfl (l' := #[iv p0, iv p1, iv p2, iv p3, iv 3, rv a1126, rv a1219, rv x_bx1295, iv 1]) rfl k) ?_
    show Way _ _ _ _ (T1505.setTop (mkF m 293 #[iv p0, iv p1, iv p2, iv p3, iv 3, rv a1126, rv a1219, rv x_bx1295, iv 1] []))
    refine Way.by (fun _ k => XS.iload X1506.here hx rfl (hb hby at_293) rfl k) ?_
    show Way _ _ _ _ (T1505.setTop (mkF m 295 #[iv p0, iv p1, iv p2, iv p3, iv 3, rv a1126, rv a1219, rv x_bx1295, iv 1] [(.int 1)]))
    have b1529 : ¬ (1 : Int32) = (0 : Int32) := by decide
    refine Way.by (fun _ k => XS.ifNo X1506.here hx rfl (hb hby at_295) rfl ((if0 .eq _).trans (feq b1529).1) k) ?_
    show Way _ _ _ _ (T1505.setTop (mkF m 298 #[iv p0, iv p1, iv p2, iv p3, iv 3, rv a1126, rv a1219, rv x_bx1295, iv 1] []))
    refine Way.by (fun _ k => XS.aload X1506.here hx rfl (hb hby at_298) rfl rfl k) ?_
    refine Way.by (fun _ k => XS.iload X1506.here hx rfl (hb hby at_300) rfl k) ?_
    refine Way.by (fun _ k => XS.iconst X1506.here hx rfl (hb hby at_302) k) ?_
    show Way _ _ _ _ (T1505.setTop (mkF m 303 #[iv p0, iv p1, iv p2, iv p3, iv 3, rv a1126, rv a1219, rv x_bx1295, iv 1] [(.int 4), (.int 3), (.ref x_bx1295)]))
    refine Way.by (fun _ k => XS.iadd X1506.here hx rfl (hb hby at_303) rfl k) ?_
    show Way _ _ _ _ (T1505.setTop (mkF m 304 #[iv p0, iv p1, iv p2, iv p3, iv 3, rv a1126, rv a1219, rv x_bx1295, iv 1] [(.int 7), (.ref x_bx1295)]))
    obtain ⟨cq1546, kq1547, qa1548, qb1549, qc1550⟩ := isOf hZ1289 e1517 F_01293.1
    obtain ⟨_, _, ⟨T1530, L1532, k1533, n1534⟩, -, X1531, ⟨Lc1535, hQ1536, l1537, y1538, z1539⟩, st1540⟩ := X1506.virtualBack hx (y := (⟨"java/lang/String", "charAt", "(I)C"⟩ : MethodName)) (z := (⟨"java/lang/String", "charAt", "(I)C"⟩ : MethodName)) hown1290 (mvT hZ1289 (tw hw 150 rfl)) (mvT hZ1289 (tw hw 151 rfl)) (notFace_of_selects (args := #[]) (mvT hZ1289 (tw hw 153 rfl))) (mvT hZ1289 (tw hw 153 rfl)) (mvT hZ1289 (tw hw 152 rfl)) (by decide) (own_chr (W := 0) (n0 := n0) hZ1289 hw SV O1305 (cs := [(p1 &&& (255 : Int32)).toUInt32.toUInt16.toUInt32.toInt32, (p2 &&& (255 : Int32)).toUInt32.toUInt16.toUInt32.toInt32, (p3 &&& (255 : Int32)).toUInt32.toUInt16.toUInt32.toInt32, 46, 115, 104, 97, 53, 49, 50]) (i := 7) F_01293 (leB rfl) rfl (by decide) (by decide)) qa1548 qc1550 (g := (mkF m 304 #[iv p0, iv p1, iv p2, iv p3, iv 3, rv a1126, rv a1219, rv x_bx1295, iv 1] [(.int 7), (.ref x_bx1295)])) rfl (by rw [hml]; rfl) (Steps.refl _) (argsL := [(.int 7)]) (rest := []) (lenOf own_pdChr rfl) rfl (leW rfl) (hb hby at_304) (fun _ _ => ⟨rfl, e1517, (leB rfl), (leB rfl)⟩)
    dsimp only [Pt.U, Pt.locs, Pt.cells, Pt.slots] at X1531 l1537 y1538 z1539 st1540 hQ1536
    subst y1538 z1539
    obtain ⟨rfl, N1551, e1542⟩ := hQ1536
    have N1541 : Fr n0 L1532 := by rw [l1537]; exact Fr.app N1516 N1551
    refine Way.to st1540 ?_
    show Way _ _ _ _ (T1530.setTop (mkF m 307 #[iv p0, iv p1, iv p2, iv p3, iv 3, rv a1126, rv a1219, rv x_bx1295, iv 1] [(.int 53)]))
    try clear X1506 N1516 e1517 st1540 cq1546 kq1547 qa1548 qb1549 qc1550 N1551
    try clear T1505
    refine Way.by (fun _ k => XS.bipush X1531.here hx rfl (hb hby at_307) k) ?_
    show Way _ _ _ _ (T1530.setTop (mkF m 309 #[iv p0, iv p1, iv p2, iv p3, iv 3, rv a1126, rv a1219, rv x_bx1295, iv 1] [(.int 53), (.int 53)]))
    have b1553 : (53 : Int32) = (53 : Int32) := by decide
    refine Way.by (fun _ k => XS.icmpNo X1531.here hx rfl (hb hby at_309) rfl (teq b1553).2 k) ?_
    show Way _ _ _ _ (T1530.setTop (mkF m 312 #[iv p0, iv p1, iv p2, iv p3, iv 3, rv a1126, rv a1219, rv x_bx1295, iv 1] []))
    refine Way.by (fun _ k => XS.iconst X1531.here hx rfl (hb hby at_312) k) ?_
    show Way _ _ _ _ (T1530.setTop (mkF m 313 #[iv p0, iv p1, iv p2, iv p3, iv 3, rv a1126, rv a1219, rv x_bx1295, iv 1] [(.int 1)]))
    refine Way.by (fun _ k => XS.goto X1531.here hx rfl (pc0 := 313) (pc' := 317) rfl (hb hby at_313) (by decide) (by decide) k) ?_
    show Way _ _ _ _ (T1530.setTop (mkF m 317 #[iv p0, iv p1, iv p2, iv p3, iv 3, rv a1126, rv a1219, rv x_bx1295, iv 1] [(.int 1)]))
    refine Way.by (fun _ k => XS.istore X1531.here hx rfl (hb hby at_317) rfl (l' := #[iv p0, iv p1, iv p2, iv p3, iv 3, rv a1126, rv a1219, rv x_bx1295, iv 1]) rfl k) ?_
    show Way _ _ _ _ (T1530.setTop (mkF m 319 #[iv p0, iv p1, iv p2, iv p3, iv 3, rv a1126, rv a1219, rv x_bx1295, iv 1] []))
    refine Way.by (fun _ k => XS.iload X1531.here hx rfl (hb hby at_319) rfl k) ?_
    show Way _ _ _ _ (T1530.setTop (mkF m 321 #[iv p0, iv p1, iv p2, iv p3, iv 3, rv a1126, rv a1219, rv x_bx1295, iv 1] [(.int 1)]))
    have b1554 : ¬ (1 : Int32) = (0 : Int32) := by decide
    refine Way.by (fun _ k => XS.ifNo X1531.here hx rfl (hb hby at_321) rfl ((if0 .eq _).trans (feq b1554).1) k) ?_
    show Way _ _ _ _ (T1530.setTop (mkF m 324 #[iv p0, iv p1, iv p2, iv p3, iv 3, rv a1126, rv a1219, rv x_bx1295, iv 1] []))
    refine Way.by (fun _ k => XS.aload X1531.here hx rfl (hb hby at_324) rfl rfl k) ?_
    refine Way.by (fun _ k => XS.iload X1531.here hx rfl (hb hby at_326) rfl k) ?_
    refine Way.by (fun _ k => XS.iconst X1531.here hx rfl (hb hby at_328) k) ?_
    show Way _ _ _ _ (T1530.setTop (mkF m 329 #[iv p0, iv p1, iv p2, iv p3, iv 3, rv a1126, rv a1219, rv x_bx1295, iv 1] [(.int 5), (.int 3), (.ref x_bx1295)]))
    refine Way.by (fun _ k => XS.iadd X1531.here hx rfl (hb hby at_329) rfl k) ?_
    show Way _ _ _ _ (T1530.setTop (mkF m 330 #[iv p0, iv p1, iv p2, iv p3, iv 3, rv a1126, rv a1219, rv x_bx1295, iv 1] [(.int 8), (.ref x_bx1295)]))
    obtain ⟨cq1571, kq1572, qa1573, qb1574, qc1575⟩ := isOf hZ1289 e1542 F_01293.1
    obtain ⟨_, _, ⟨T1555, L1557, k1558, n1559⟩, -, X1556, ⟨Lc1560, hQ1561, l1562, y1563, z1564⟩, st1565⟩ := X1531.virtualBack hx (y := (⟨"java/lang/String", "charAt", "(I)C"⟩ : MethodName)) (z := (⟨"java/lang/String", "charAt", "(I)C"⟩ : MethodName)) hown1290 (mvT hZ1289 (tw hw 150 rfl)) (mvT hZ1289 (tw hw 151 rfl)) (notFace_of_selects (args := #[]) (mvT hZ1289 (tw hw 153 rfl))) (mvT hZ1289 (tw hw 153 rfl)) (mvT hZ1289 (tw hw 152 rfl)) (by decide) (own_chr (W := 0) (n0 := n0) hZ1289 hw SV O1305 (cs := [(p1 &&& (255 : Int32)).toUInt32.toUInt16.toUInt32.toInt32, (p2 &&& (255 : Int32)).toUInt32.toUInt16.toUInt32.toInt32, (p3 &&& (255 : Int32)).toUInt32.toUInt16.toUInt32.toInt32, 46, 115, 104, 97, 53, 49, 50]) (i := 8) F_01293 (leB rfl) rfl (by decide) (by decide)) qa1573 qc1575 (g := (mkF m 330 #[iv p0, iv p1, iv p2, iv p3, iv 3, rv a1126, rv a1219, rv x_bx1295, iv 1] [(.int 8), (.ref x_bx1295)])) rfl (by rw [hml]; rfl) (Steps.refl _) (argsL := [(.int 8)]) (rest := []) (lenOf own_pdChr rfl) rfl (leW rfl) (hb hby at_330) (fun _ _ => ⟨rfl, e1542, (leB rfl), (leB rfl)⟩)
    dsimp only [Pt.U, Pt.locs, Pt.cells, Pt.slots] at X1556 l1562 y1563 z1564 st1565 hQ1561
    subst y1563 z1564
    obtain ⟨rfl, N1576, e1567⟩ := hQ1561
    have N1566 : Fr n0 L1557 := by rw [l1562]; exact Fr.app N1541 N1576
    refine Way.to st1565 ?_
    show Way _ _ _ _ (T1555.setTop (mkF m 333 #[iv p0, iv p1, iv p2, iv p3, iv 3, rv a1126, rv a1219, rv x_bx1295, iv 1] [(.int 49)]))
    try clear X1531 N1541 e1542 st1565 cq1571 kq1572 qa1573 qb1574 qc1575 N1576
    try clear T1530
    refine Way.by (fun _ k => XS.bipush X1556.here hx rfl (hb hby at_333) k) ?_
    show Way _ _ _ _ (T1555.setTop (mkF m 335 #[iv p0, iv p1, iv p2, iv p3, iv 3, rv a1126, rv a1219, rv x_bx1295, iv 1] [(.int 49), (.int 49)]))
    have b1578 : (49 : Int32) = (49 : Int32) := by decide
    refine Way.by (fun _ k => XS.icmpNo X1556.here hx rfl (hb hby at_335) rfl (teq b1578).2 k) ?_
    show Way _ _ _ _ (T1555.setTop (mkF m 338 #[iv p0, iv p1, iv p2, iv p3, iv 3, rv a1126, rv a1219, rv x_bx1295, iv 1] []))
    refine Way.by (fun _ k => XS.iconst X1556.here hx rfl (hb hby at_338) k) ?_
    show Way _ _ _ _ (T1555.setTop (mkF m 339 #[iv p0, iv p1, iv p2, iv p3, iv 3, rv a1126, rv a1219, rv x_bx1295, iv 1] [(.int 1)]))
    refine Way.by (fun _ k => XS.goto X1556.here hx rfl (pc0 := 339) (pc' := 343) rfl (hb hby at_339) (by decide) (by decide) k) ?_
    show Way _ _ _ _ (T1555.setTop (mkF m 343 #[iv p0, iv p1, iv p2, iv p3, iv 3, rv a1126, rv a1219, rv x_bx1295, iv 1] [(.int 1)]))
    refine Way.by (fun _ k => XS.istore X1556.here hx rfl (hb hby at_343) rfl (l' := #[iv p0, iv p1, iv p2, iv p3, iv 3, rv a1126, rv a1219, rv x_bx1295, iv 1]) rfl k) ?_
    show Way _ _ _ _ (T1555.setTop (mkF m 345 #[iv p0, iv p1, iv p2, iv p3, iv 3, rv a1126, rv a1219, rv x_bx1295, iv 1] []))
    refine Way.by (fun _ k => XS.iload X1556.here hx rfl (hb hby at_345) rfl k) ?_
    show Way _ _ _ _ (T1555.setTop (mkF m 347 #[iv p0, iv p1, iv p2, iv p3, iv 3, rv a1126, rv a1219, rv x_bx1295, iv 1] [(.int 1)]))
    have b1579 : ¬ (1 : Int32) = (0 : Int32) := by decide
    refine Way.by (fun _ k => XS.ifNo X1556.here hx rfl (hb hby at_347) rfl ((if0 .eq _).trans (feq b1579).1) k) ?_
    show Way _ _ _ _ (T1555.setTop (mkF m 350 #[iv p0, iv p1, iv p2, iv p3, iv 3, rv a1126, rv a1219, rv x_bx1295, iv 1] []))
    refine Way.by (fun _ k => XS.aload X1556.here hx rfl (hb hby at_350) rfl rfl k) ?_
    refine Way.by (fun _ k => XS.iload X1556.here hx rfl (hb hby at_352) rfl k) ?_
    refine Way.by (fun _ k => XS.bipush X1556.here hx rfl (hb hby at_354) k) ?_
    show Way _ _ _ _ (T1555.setTop (mkF m 356 #[iv p0, iv p1, iv p2, iv p3, iv 3, rv a1126, rv a1219, rv x_bx1295, iv 1] [(.int 6), (.int 3), (.ref x_bx1295)]))
    refine Way.by (fun _ k => XS.iadd X1556.here hx rfl (hb hby at_356) rfl k) ?_
    show Way _ _ _ _ (T1555.setTop (mkF m 357 #[iv p0, iv p1, iv p2, iv p3, iv 3, rv a1126, rv a1219, rv x_bx1295, iv 1] [(.int 9), (.ref x_bx1295)]))
    obtain ⟨cq1596, kq1597, qa1598, qb1599, qc1600⟩ := isOf hZ1289 e1567 F_01293.1
    obtain ⟨_, _, ⟨T1580, L1582, k1583, n1584⟩, -, X1581, ⟨Lc1585, hQ1586, l1587, y1588, z1589⟩, st1590⟩ := X1556.virtualBack hx (y := (⟨"java/lang/String", "charAt", "(I)C"⟩ : MethodName)) (z := (⟨"java/lang/String", "charAt", "(I)C"⟩ : MethodName)) hown1290 (mvT hZ1289 (tw hw 150 rfl)) (mvT hZ1289 (tw hw 151 rfl)) (notFace_of_selects (args := #[]) (mvT hZ1289 (tw hw 153 rfl))) (mvT hZ1289 (tw hw 153 rfl)) (mvT hZ1289 (tw hw 152 rfl)) (by decide) (own_chr (W := 0) (n0 := n0) hZ1289 hw SV O1305 (cs := [(p1 &&& (255 : Int32)).toUInt32.toUInt16.toUInt32.toInt32, (p2 &&& (255 : Int32)).toUInt32.toUInt16.toUInt32.toInt32, (p3 &&& (255 : Int32)).toUInt32.toUInt16.toUInt32.toInt32, 46, 115, 104, 97, 53, 49, 50]) (i := 9) F_01293 (leB rfl) rfl (by decide) (by decide)) qa1598 qc1600 (g := (mkF m 357 #[iv p0, iv p1, iv p2, iv p3, iv 3, rv a1126, rv a1219, rv x_bx1295, iv 1] [(.int 9), (.ref x_bx1295)])) rfl (by rw [hml]; rfl) (Steps.refl _) (argsL := [(.int 9)]) (rest := []) (lenOf own_pdChr rfl) rfl (leW rfl) (hb hby at_357) (fun _ _ => ⟨rfl, e1567, (leB rfl), (leB rfl)⟩)
    dsimp only [Pt.U, Pt.locs, Pt.cells, Pt.slots] at X1581 l1587 y1588 z1589 st1590 hQ1586
    subst y1588 z1589
    obtain ⟨rfl, N1601, e1592⟩ := hQ1586
    have N1591 : Fr n0 L1582 := by rw [l1587]; exact Fr.app N1566 N1601
    refine Way.to st1590 ?_
    show Way _ _ _ _ (T1580.setTop (mkF m 360 #[iv p0, iv p1, iv p2, iv p3, iv 3, rv a1126, rv a1219, rv x_bx1295, iv 1] [(.int 50)]))
    try clear X1556 N1566 e1567 st1590 cq1596 kq1597 qa1598 qb1599 qc1600 N1601
    try clear T1555
    refine Way.by (fun _ k => XS.bipush X1581.here hx rfl (hb hby at_360) k) ?_
    show Way _ _ _ _ (T1580.setTop (mkF m 362 #[iv p0, iv p1, iv p2, iv p3, iv 3, rv a1126, rv a1219, rv x_bx1295, iv 1] [(.int 50), (.int 50)]))
    have b1603 : (50 : Int32) = (50 : Int32) := by decide
    refine Way.by (fun _ k => XS.icmpNo X1581.here hx rfl (hb hby at_362) rfl (teq b1603).2 k) ?_
    show Way _ _ _ _ (T1580.setTop (mkF m 365 #[iv p0, iv p1, iv p2, iv p3, iv 3, rv a1126, rv a1219, rv x_bx1295, iv 1] []))
    refine Way.by (fun _ k => XS.iconst X1581.here hx rfl (hb hby at_365) k) ?_
    show Way _ _ _ _ (T1580.setTop (mkF m 366 #[iv p0, iv p1, iv p2, iv p3, iv 3, rv a1126, rv a1219, rv x_bx1295, iv 1] [(.int 1)]))
    refine Way.by (fun _ k => XS.goto X1581.here hx rfl (pc0 := 366) (pc' := 370) rfl (hb hby at_366) (by decide) (by decide) k) ?_
    show Way _ _ _ _ (T1580.setTop (mkF m 370 #[iv p0, iv p1, iv p2, iv p3, iv 3, rv a1126, rv a1219, rv x_bx1295, iv 1] [(.int 1)]))
    refine Way.by (fun _ k => XS.istore X1581.here hx rfl (hb hby at_370) rfl (l' := #[iv p0, iv p1, iv p2, iv p3, iv 3, rv a1126, rv a1219, rv x_bx1295, iv 1]) rfl k) ?_
    show Way _ _ _ _ (T1580.setTop (mkF m 372 #[iv p0, iv p1, iv p2, iv p3, iv 3, rv a1126, rv a1219, rv x_bx1295, iv 1] []))
    refine Way.by (fun _ k => XS.iload X1581.here hx rfl (hb hby at_372) rfl k) ?_
    show Way _ _ _ _ (T1580.setTop (mkF m 374 #[iv p0, iv p1, iv p2, iv p3, iv 3, rv a1126, rv a1219, rv x_bx1295, iv 1] [(.int 1)]))
    refine Way.retH (v := (some (.int (nar .boolean (1 : Int32))))) X1581 hS1288 (by rw [e1592]; exact (Nat.le_refl _)) hZ1289 hEL hh e1592 H1296 CH1297 hlk (fun h => by rw [Bd.returns] at h; cases h) (fun fs hr => retN X1581 hx (t := .boolean) Bd.returns (by simp) (hb hby at_374) hr) ?_ (by decide) (by decide)
    show Q0 n0 _ T1580.heap _
    rw [e1592]
    exact ⟨rfl, N1591⟩
set_option maxRecDepth 65536 in
set_option maxHeartbeats 40000000 in
theorem comes_1 {Post : Tables → Env → Array Value → State → Outcome → State → Prop} (hpost : ∀ tb e args s v u, (limb_1_1.after args s (.returned v) u = true ∧ limb_1_2.after args s (.returned v) u = true ∧ True) → ReturnedEndW s (.returned v) u (Jvm.fieldLocs frame_1_writes args s ++ Jvm.arrayLocs frame_1_arrays args s ++ Jvm.staticLocs frame_1_statics s) 32 2240 → Post tb e args s (.returned v) u) :
    ArmFor flags0 classFile x code maxLocals ret World_1 tables_1 room_1 Calls_1 rest_1 Pre_1 Post := by
  intro l hfl _ _ p e ha hc hk s m args below hf hA hF happ hP
  obtain ⟨hcalls, hrest, hpre⟩ := hP
  obtain ⟨-, -, -, hnamed, -, -, -, hat⟩ := (Spec.applies_iff hf).mp happ
  obtain ⟨hg, hn⟩ := and_e (Cond.before_iff.mp (show (Jvm.Cond.and given_1 narrow_1).before args s = true from hpre))
  obtain ⟨hg0, hgr0⟩ := and_e hg
  obtain ⟨hg1, hgr1⟩ := and_e hgr0
  obtain ⟨hg2, hgr2⟩ := and_e hgr1
  obtain ⟨hg3, hgr3⟩ := and_e hgr2
  obtain ⟨w0, w1, w2, w3, rfl⟩ : ∃ w0 w1 w2 w3 : Value, args = #[w0, w1, w2, w3] := by
    have hs : args.size = 4 := by simpa [Cond.value, given_1] using hg0
    obtain ⟨L⟩ := args
    match L, hs with
    | [w0, w1, w2, w3], _ => exact ⟨w0, w1, w2, w3, rfl⟩
  have hw := fun d (hd : d ∈ tables_1) => atoms_spec (ws := Jvm.Cond.code x code maxLocals ret :: tables_1) hat d (List.mem_cons_of_mem _ hd)
  have hfit : Fit s := fun {y c} hc i hi => by
    obtain ⟨ha, rfl⟩ := Array.getElem?_eq_some_iff.mp hc
    have q := List.all_eq_true.mp ((Array.all_eq_true_iff_forall_mem.mp hF) _ (Array.getElem_mem ha)) i (List.mem_range.mpr hi)
    simpa [Array.getElem?_eq_getElem hi] using q
  obtain ⟨i0, ei0⟩ := is_v hg1
  obtain rfl : w0 = (.int i0) := Option.some.inj ei0
  obtain ⟨i1, ei1⟩ := is_v hg2
  obtain rfl : w1 = (.int i1) := Option.some.inj ei1
  obtain ⟨i2, ei2⟩ := is_v hg3
  obtain rfl : w2 = (.int i2) := Option.some.inj ei2
  obtain ⟨i3, ei3⟩ := is_v hgr3
  obtain rfl : w3 = (.int i3) := Option.some.inj ei3
  obtain ⟨hn0, hnr0⟩ := and_e hn
  obtain ⟨hn1, hnr1⟩ := and_e hnr0
  obtain ⟨hn2, hnr2⟩ := and_e hnr1
  obtain ⟨hn3, hnr3⟩ := and_e hnr2
  obtain ⟨hn4, hnr4⟩ := and_e hnr3
  obtain ⟨hn5, hnr5⟩ := and_e hnr4
  obtain ⟨hn6, hnr6⟩ := and_e hnr5
  obtain ⟨hn7, hnr7⟩ := and_e hnr6
  obtain ⟨hn8, hnr8⟩ := and_e hnr7
  obtain ⟨hn9, hnr9⟩ := and_e hnr8
  obtain ⟨hn10, hnr10⟩ := and_e hnr9
  obtain ⟨hn11, hnr11⟩ := and_e hnr10
  obtain ⟨uSHA512, _, _, _, evSHA512, -⟩ := Cond.exactly_spec (Cond.before_iff.mpr hn0)
  have SSHA512 := Sta.start evSHA512 (Or.inr ⟨(tw hw 95 rfl), (tw hw 96 rfl)⟩)
  have ESHA512 := Exa.start evSHA512 hn0
  have hs := atoms_of jdkStatics_1 (show (jdkStatics_1.foldr Jvm.Cond.and restOwn_1).before _ s = true from hrest)
  have SV : own_Env s := by
    refine ⟨?_, ?_⟩
    · obtain ⟨G1, ev⟩ := is_v (Cond.before_iff.mp (hs.1 _ (List.mem_of_getElem? (i := 1) rfl)))
      exact ⟨G1, Sta.start ev (Or.inl (hs.1 _ (List.mem_of_getElem? (i := 0) rfl))), envNe ev (hs.1 _ (List.mem_of_getElem? (i := 2) rfl))⟩
    · obtain ⟨G3, ev, rG⟩ := envRef (hs.1 _ (List.mem_of_getElem? (i := 8) rfl))
      exact ⟨G3, Sta.start ev (Or.inl (hs.1 _ (List.mem_of_getElem? (i := 7) rfl))), rG⟩

  have HC : CHv s own_EL s.vm s.heap := CHv.start (own_EW hw) (fun q hq => hcalls.1 q hq) (hs.1 _ (List.mem_of_getElem? (i := 2) rfl)) (tw hw 15 rfl) (tw hw 2 rfl)
  have evD := evRef hn1 evSHA512
  have SDG := Sta.start evD (Or.inr ⟨(tw hw 24 rfl), (tw hw 94 rfl)⟩)
  obtain ⟨ul, _, _, _, evl, -⟩ := Cond.exactly_spec (Cond.before_iff.mpr hn2)
  have FLB : Fld s s.heap uSHA512 "com/example/longhold/longhold/store/DigestAlgorithm" "label" "Ljava/lang/String;" (.ref ul) := Fld.start ((fld_at evSHA512).symm.trans evl)
  have Eul := Exa.start evl hn2
  have Cul := fldStart evl hn6
  obtain ⟨_, _, e1ul, -, -⟩ := cmp_v (Or.inl hn5)
  obtain ⟨ult, evVul⟩ := len_v e1ul
  obtain ⟨clul, AVul⟩ := Arr.start evVul hn3
  have FVul : Fld s s.heap ul "java/lang/String" "value" "[B" (.ref ult) := Fld.start ((fld_at evl).symm.trans evVul)
  obtain ⟨hszul, hlenul⟩ := Jvm.Free.IntBox.length_fwd (Cond.before_iff.mpr hn5) evVul AVul.1 AVul.2.1 AVul.2.2
  have qul0 := (elem_in (evInt hn7) evVul (Term.int_eval 0) AVul.1).2
  have qul1 := (elem_in (evInt hn8) evVul (Term.int_eval 1) AVul.1).2
  have qul2 := (elem_in (evInt hn9) evVul (Term.int_eval 2) AVul.1).2
  have qul3 := (elem_in (evInt hn10) evVul (Term.int_eval 3) AVul.1).2
  have qul4 := (elem_in (evInt hn11) evVul (Term.int_eval 4) AVul.1).2
  have qul5 := (elem_in (evInt hnr11) evVul (Term.int_eval 5) AVul.1).2
  have VVul : Arv s s.heap ult clul.cls .byte (6 : Int32) [(.int 115), (.int 104), (.int 97), (.int 53), (.int 49), (.int 50)] (.int 0) := Arv.start hfit AVul hszul hlenul (by decide) rfl ⟨qul0, qul1, qul2, qul3, qul4, qul5, trivial⟩
  have Sul : own_Str s s.heap ul ult [115, 104, 97, 53, 49, 50] := ⟨Eul, FVul, Cul, ⟨_, _, _, VVul, Or.inl ⟨rfl, rfl, rfl, by decide⟩⟩, by decide, by decide⟩
  obtain ⟨n, o, h1, h2, h3, _, L, rfl, ⟨rfl, N⟩, -, hq⟩ := rm0 l s _ hw tables_1 i0 i1 i2 i3 uSHA512 ul ult s.heap s.heap.size (Nat.le_refl _) (Old.start s) SV SDG ESHA512 FLB Sul p e ha hc hk s m _ below hf ((Spec.applies_iff_loose hf).mp happ).1 ⟨rfl, State.Warmed39.refl s, rfl, HC⟩ trivial
  refine ⟨n, _, h1, h2, h3, hpost _ _ _ _ _ _ ⟨Cond.after_iff.mpr rfl, Cond.after_iff.mpr (eq_i res_at (Term.int_eval (1)) rfl), trivial⟩ ⟨hq.1, hq.2.1, hq.2.2.1, (hq.2.2.2.sift fun y hy => Or.inr (N y hy)).mono (by decide) (by decide)⟩⟩
theorem main_1_1 : Claimed_1_1 := comes_1 fun _ _ _ _ _ _ h hF => ⟨h.1, hF⟩
theorem main_1_2 : Claimed_1_2 := comes_1 fun _ _ _ _ _ _ h hF => ⟨h.2.1, hF⟩
end Jvm.Pilot.@@N@@
namespace Jvm.Pilot.@@N@@
open Jvm Jvm.ClassFile Sem Op Lib Jvm.Free Jvm.Stand Jvm.Pilot.@@N@@.Jvm.D
/-! MADE BY PROGRAM (witnessworld.py) out of the Statement's table words and the real class files: 28 classes; the members and pool entries that the words name. The judged class is class 1, her method 1. -/
namespace start1
open Jvm.ClassFile
def u (s : String) : CpInfo := .utf8 (stringToUtf16 s)
/-- a pool by its gaps: so many unusable entries, then the entry; so many at the end -/
def gap : Nat → List CpInfo → List CpInfo
  | 0, r => r
  | n + 1, r => .unusable :: gap n r
def poolList (es : List (Nat × CpInfo)) (last : Nat) : List CpInfo := es.foldr (fun e r => gap e.1 (e.2 :: r)) (gap last [])
def pool (es : List (Nat × CpInfo)) (last : Nat) : Array CpInfo := ⟨poolList es last⟩
def fileOf (pool : Array CpInfo) (this : Nat) (attrs : Array Attribute := #[]) (ms : Array MethodInfo := #[]) (fl : Nat := 33) (sup : Nat := 0) (ifs : Array Nat := #[]) (fds : Array FieldInfo := #[]) : ClassFile where
  minorVersion := 0
  majorVersion := 65
  constantPool := pool
  accessFlags := fl
  thisClass := this
  superClass := sup
  interfaces := ifs
  fields := fds
  methods := ms
  attributes := attrs
def plain (name : String) (sup : Option ClassId) : Class where
  name := name
  kind := .ordinary
  loader := none
  accessFlags := 33
  super := sup
  interfaces := #[]
  cf := none
  fields := #[]
  methods := #[]
  instanceTypes := #[]
  staticTypes := #[]
  resolved := #[]
  callSites := []
  init := .initialized
  statics := none
  mirror := none

def pool0 : Array CpInfo := pool [(5, u "<init>"), (0, u "()V"), (1, .class_ 10), (1, u "java/lang/Object")] 113

def k0c0 : Code := { maxStack := 0, maxLocals := 1, code := object_method_1_code, exceptionTable := #[], attributes := #[] }
def k0m0 : Method := { name := "<init>", desc := "()V", sig := { parameters := [], returnType := none }, accessFlags := 1, code := some k0c0 }
/-- java/lang/Object -/
def k0 : Class := { plain "java/lang/Object" none with
  accessFlags := 33
  interfaces := #[]
  cf := some (fileOf pool0 8 #[] #[{ accessFlags := 1, nameIndex := 5, descriptorIndex := 6, attributes := #[] }] 33 0 #[] #[])
  fields := #[]
  methods := #[k0m0]
  instanceTypes := #[]
  staticTypes := #[]
  resolved := Array.replicate 124 none
  statics := none }

def pool1 : Array CpInfo := pool [(2, .class_ 4), (1, u "java/lang/Object"), (0, u "<init>"), (0, u "()V"), (0, .class_ 8), (0, u "java/lang/String"), (0, .methodref 7 10), (0, .nameAndType 5 11), (0, u "([C)V"), (0, .methodref 13 14), (0, .class_ 15), (0, .nameAndType 16 17), (0, u "com/example/longhold/longhold/store/DigestFile"), (0, u "nameFor"), (0, u "(Ljava/lang/String;)Ljava/lang/String;"), (0, .methodref 7 19), (0, .nameAndType 20 21), (0, u "length"), (0, u "()I"), (0, .methodref 7 23), (0, .nameAndType 24 25), (0, u "charAt"), (0, u "(I)C"), (0, .class_ 27), (0, u "com/example/longhold/longhold/store/DigestFileNameForPinLaw"), (2, u "law"), (0, u "(IIII)Z")] 5

def k1m0 : Method := { name := "<init>", desc := "()V", sig := { parameters := [], returnType := none }, accessFlags := 2, code := none }
def k1c1 : Code := { maxStack := 4, maxLocals := 9, code := code, exceptionTable := #[], attributes := #[] }
def k1m1 : Method := { name := "law", desc := "(IIII)Z", sig := { parameters := [.int, .int, .int, .int], returnType := some .boolean }, accessFlags := 9, code := some k1c1 }
/-- com/example/longhold/longhold/store/DigestFileNameForPinLaw -/
def k1 : Class := { plain "com/example/longhold/longhold/store/DigestFileNameForPinLaw" (some 0) with
  accessFlags := 49
  interfaces := #[]
  cf := some (fileOf pool1 26 #[] #[{ accessFlags := 2, nameIndex := 5, descriptorIndex := 6, attributes := #[] }, { accessFlags := 9, nameIndex := 30, descriptorIndex := 31, attributes := #[] }] 49 2 #[] #[])
  fields := #[]
  methods := #[k1m0, k1m1]
  instanceTypes := #[]
  staticTypes := #[]
  resolved := Array.replicate 37 none
  statics := none }

def pool2 : Array CpInfo := pool [(1, .class_ 2), (0, u "java/io/Serializable"), (0, .class_ 4), (0, u "java/lang/Object")] 2

/-- java/io/Serializable -/
def k2 : Class := { plain "java/io/Serializable" (some 0) with
  accessFlags := 1537
  interfaces := #[]
  cf := some (fileOf pool2 1 #[] #[] 1537 3 #[] #[])
  fields := #[]
  methods := #[]
  instanceTypes := #[]
  staticTypes := #[]
  resolved := Array.replicate 7 none
  statics := none }

def pool3 : Array CpInfo := pool [(1, .class_ 2), (0, u "java/lang/Comparable"), (0, .class_ 4), (0, u "java/lang/Object")] 7

/-- java/lang/Comparable -/
def k3 : Class := { plain "java/lang/Comparable" (some 0) with
  accessFlags := 1537
  interfaces := #[]
  cf := some (fileOf pool3 1 #[] #[] 1537 3 #[] #[])
  fields := #[]
  methods := #[]
  instanceTypes := #[]
  staticTypes := #[]
  resolved := Array.replicate 12 none
  statics := none }

def pool4 : Array CpInfo := pool [(2, .class_ 4), (1, u "java/lang/CharSequence"), (42, .class_ 48), (0, u "java/lang/CharSequence$1CodePointIterator"), (10, .class_ 60), (0, u "java/lang/CharSequence$1CharIterator"), (5, .class_ 67), (0, u "java/lang/Object")] 63

/-- java/lang/CharSequence -/
def k4 : Class := { plain "java/lang/CharSequence" (some 0) with
  accessFlags := 1537
  interfaces := #[]
  cf := some (fileOf pool4 2 #[.nestMembers #[47, 59]] #[] 1537 66 #[] #[])
  fields := #[]
  methods := #[]
  instanceTypes := #[]
  staticTypes := #[]
  resolved := Array.replicate 131 none
  statics := none }

def pool5 : Array CpInfo := pool [(1, .class_ 2), (0, u "java/lang/constant/Constable"), (0, .class_ 4), (0, u "java/lang/Object")] 6

/-- java/lang/constant/Constable -/
def k5 : Class := { plain "java/lang/constant/Constable" (some 0) with
  accessFlags := 1537
  interfaces := #[]
  cf := some (fileOf pool5 1 #[] #[] 1537 3 #[] #[])
  fields := #[]
  methods := #[]
  instanceTypes := #[]
  staticTypes := #[]
  resolved := Array.replicate 11 none
  statics := none }

def pool6 : Array CpInfo := pool [(1, .class_ 2), (0, u "java/lang/constant/ConstantDesc"), (0, .class_ 4), (0, u "java/lang/Object")] 32

/-- java/lang/constant/ConstantDesc -/
def k6 : Class := { plain "java/lang/constant/ConstantDesc" (some 0) with
  accessFlags := 1537
  interfaces := #[]
  cf := some (fileOf pool6 1 #[] #[] 1537 3 #[] #[])
  fields := #[]
  methods := #[]
  instanceTypes := #[]
  staticTypes := #[]
  resolved := Array.replicate 37 none
  statics := none }

def pool7 : Array CpInfo := pool [(1, .methodref 2 3), (0, .class_ 4), (0, .nameAndType 5 6), (0, u "java/lang/Object"), (0, u "<init>"), (0, u "()V"), (0, .string 8), (0, u ""), (0, .fieldref 10 11), (0, .class_ 12), (0, .nameAndType 13 14), (0, u "java/lang/String"), (0, u "value"), (0, u "[B"), (0, .fieldref 10 16), (0, .nameAndType 17 18), (0, u "coder"), (0, u "B"), (2, u "hash"), (0, u "I"), (2, u "hashIsZero"), (0, u "Z"), (0, .methodref 10 28), (0, .nameAndType 5 29), (0, u "([CIILjava/lang/Void;)V"), (8, .fieldref 10 39), (0, .nameAndType 40 26), (0, u "COMPACT_STRINGS"), (1, .class_ 44), (1, u "java/lang/StringUTF16"), (0, u "compress"), (1, .methodref 42 48), (0, .nameAndType 49 50), (0, u "coderFromArrayLen"), (0, u "([BI)B"), (3, .methodref 55 56), (0, .class_ 57), (0, .nameAndType 58 59), (0, u "java/util/Arrays"), (0, u "copyOfRange"), (0, u "([BII)[B"), (47, .class_ 109), (1, u "java/lang/StringLatin1"), (32, u "()Z"), (34, .methodref 42 178), (0, .nameAndType 45 179), (0, u "([CII)[B"), (13, .class_ 195), (1, u "java/lang/System"), (16, .methodref 193 213), (0, .nameAndType 214 215), (0, u "arraycopy"), (0, u "(Ljava/lang/Object;ILjava/lang/Object;II)V"), (118, u "()I"), (0, .methodref 10 336), (0, .nameAndType 17 337), (0, u "()B"), (2, u "()[B"), (22, u "([BI)C"), (27, u "(II)V"), (35, u "(I)C"), (61, .methodref 10 490), (0, .nameAndType 5 491), (0, u "(Ljava/lang/AbstractStringBuilder;Ljava/lang/Void;)V"), (0, .methodref 10 493), (0, .nameAndType 494 142), (0, u "isLatin1"), (0, .methodref 107 496), (0, .nameAndType 497 363), (0, u "charAt"), (3, u "checkIndex"), (4, .nameAndType 507 334), (0, u "length"), (24, u "getBytes"), (16, .methodref 550 506), (0, .class_ 551), (0, u "java/lang/AbstractStringBuilder"), (0, .methodref 550 553), (0, .nameAndType 554 340), (0, u "getValue"), (20, .class_ 576), (0, u "java/lang/CharSequence"), (22, u "CASE_INSENSITIVE_ORDER"), (0, u "Ljava/util/Comparator;"), (220, u "([BIB)V"), (188, u "([C)V"), (36, .methodref 550 493), (5, .fieldref 1054 1055), (0, .class_ 1056), (0, .nameAndType 1057 1058), (0, u "jdk/internal/util/Preconditions"), (0, u "SIOOBE_FORMATTER"), (0, u "Ljava/util/function/BiFunction;"), (0, .methodref 1054 1060), (0, .nameAndType 501 1061), (0, u "(IILjava/util/function/BiFunction;)I"), (39, u "serialPersistentFields"), (0, u "[Ljava/io/ObjectStreamField;"), (0, .class_ 1104), (0, u "java/lang/String$CaseInsensitiveComparator"), (1, .class_ 1107), (0, u "java/io/Serializable"), (0, .class_ 1109), (0, u "java/lang/Comparable"), (0, .class_ 1111), (0, u "java/lang/constant/Constable"), (0, .class_ 1113), (0, u "java/lang/constant/ConstantDesc"), (2, u "serialVersionUID"), (0, u "J"), (3, u "REPL"), (0, u "C"), (2, u "LATIN1"), (1, u "UTF16"), (105, u "(Ljava/lang/StringBuilder;)V")] 217

def k7m0 : Method := { name := "<init>", desc := "()V", sig := { parameters := [], returnType := none }, accessFlags := 1, code := none }
def k7c1 : Code := { maxStack := 5, maxLocals := 2, code := jdk_42_method_3_code, exceptionTable := #[], attributes := #[] }
def k7m1 : Method := { name := "<init>", desc := "([C)V", sig := { parameters := [(.array .char)], returnType := none }, accessFlags := 1, code := some k7c1 }
def k7c2 : Code := { maxStack := 3, maxLocals := 2, code := jdk_42_method_53_code, exceptionTable := #[], attributes := #[] }
def k7m2 : Method := { name := "<init>", desc := "(Ljava/lang/StringBuilder;)V", sig := { parameters := [(.object "java/lang/StringBuilder")], returnType := none }, accessFlags := 1, code := some k7c2 }
def k7c3 : Code := { maxStack := 2, maxLocals := 1, code := jdk_42_method_54_code, exceptionTable := #[], attributes := #[] }
def k7m3 : Method := { name := "length", desc := "()I", sig := { parameters := [], returnType := some .int }, accessFlags := 1, code := some k7c3 }
def k7c4 : Code := { maxStack := 2, maxLocals := 2, code := jdk_42_method_56_code, exceptionTable := #[], attributes := #[] }
def k7m4 : Method := { name := "charAt", desc := "(I)C", sig := { parameters := [.int], returnType := some .char }, accessFlags := 1, code := some k7c4 }
def k7c5 : Code := { maxStack := 5, maxLocals := 4, code := jdk_42_method_147_code, exceptionTable := #[], attributes := #[] }
def k7m5 : Method := { name := "getBytes", desc := "([BIB)V", sig := { parameters := [(.array .byte), .int, .byte], returnType := none }, accessFlags := 0, code := some k7c5 }
def k7c6 : Code := { maxStack := 4, maxLocals := 6, code := jdk_42_method_149_code, exceptionTable := #[], attributes := #[] }
def k7m6 : Method := { name := "<init>", desc := "([CIILjava/lang/Void;)V", sig := { parameters := [(.array .char), .int, .int, (.object "java/lang/Void")], returnType := none }, accessFlags := 2, code := some k7c6 }
def k7c7 : Code := { maxStack := 5, maxLocals := 5, code := jdk_42_method_150_code, exceptionTable := #[], attributes := #[] }
def k7m7 : Method := { name := "<init>", desc := "(Ljava/lang/AbstractStringBuilder;Ljava/lang/Void;)V", sig := { parameters := [(.object "java/lang/AbstractStringBuilder"), (.object "java/lang/Void")], returnType := none }, accessFlags := 0, code := some k7c7 }
def k7c8 : Code := { maxStack := 1, maxLocals := 1, code := jdk_42_method_152_code, exceptionTable := #[], attributes := #[] }
def k7m8 : Method := { name := "coder", desc := "()B", sig := { parameters := [], returnType := some .byte }, accessFlags := 0, code := some k7c8 }
def k7c9 : Code := { maxStack := 1, maxLocals := 1, code := jdk_42_method_154_code, exceptionTable := #[], attributes := #[] }
def k7m9 : Method := { name := "isLatin1", desc := "()Z", sig := { parameters := [], returnType := some .boolean }, accessFlags := 0, code := some k7c9 }
def k7c10 : Code := { maxStack := 3, maxLocals := 2, code := jdk_42_method_155_code, exceptionTable := #[], attributes := #[] }
def k7m10 : Method := { name := "checkIndex", desc := "(II)V", sig := { parameters := [.int, .int], returnType := none }, accessFlags := 8, code := some k7c10 }
/-- java/lang/String -/
def k7 : Class := { plain "java/lang/String" (some 0) with
  accessFlags := 49
  interfaces := #[2, 3, 4, 5, 6]
  cf := some (fileOf pool7 10 #[.nestMembers #[1103]] #[{ accessFlags := 1, nameIndex := 5, descriptorIndex := 6, attributes := #[] }, { accessFlags := 1, nameIndex := 5, descriptorIndex := 1010, attributes := #[] }, { accessFlags := 1, nameIndex := 5, descriptorIndex := 1233, attributes := #[] }, { accessFlags := 1, nameIndex := 507, descriptorIndex := 334, attributes := #[] }, { accessFlags := 1, nameIndex := 497, descriptorIndex := 427, attributes := #[] }, { accessFlags := 0, nameIndex := 532, descriptorIndex := 821, attributes := #[] }, { accessFlags := 2, nameIndex := 5, descriptorIndex := 29, attributes := #[] }, { accessFlags := 0, nameIndex := 5, descriptorIndex := 491, attributes := #[] }, { accessFlags := 0, nameIndex := 17, descriptorIndex := 337, attributes := #[] }, { accessFlags := 0, nameIndex := 494, descriptorIndex := 142, attributes := #[] }, { accessFlags := 8, nameIndex := 501, descriptorIndex := 391, attributes := #[] }] 49 2 #[1106, 1108, 575, 1110, 1112] #[{ accessFlags := 18, nameIndex := 13, descriptorIndex := 14, attributes := #[] }, { accessFlags := 18, nameIndex := 17, descriptorIndex := 18, attributes := #[] }, { accessFlags := 2, nameIndex := 21, descriptorIndex := 22, attributes := #[] }, { accessFlags := 2, nameIndex := 25, descriptorIndex := 26, attributes := #[] }, { accessFlags := 26, nameIndex := 1116, descriptorIndex := 1117, attributes := #[] }, { accessFlags := 24, nameIndex := 40, descriptorIndex := 26, attributes := #[] }, { accessFlags := 26, nameIndex := 1101, descriptorIndex := 1102, attributes := #[] }, { accessFlags := 26, nameIndex := 1121, descriptorIndex := 1122, attributes := #[] }, { accessFlags := 25, nameIndex := 599, descriptorIndex := 600, attributes := #[] }, { accessFlags := 24, nameIndex := 1125, descriptorIndex := 18, attributes := #[] }, { accessFlags := 24, nameIndex := 1127, descriptorIndex := 18, attributes := #[] }])
  fields := #[{ name := "value", type := (.array .byte), accessFlags := 18, slot := 0, constantValue := 0 }, { name := "coder", type := .byte, accessFlags := 18, slot := 1, constantValue := 0 }, { name := "hash", type := .int, accessFlags := 2, slot := 2, constantValue := 0 }, { name := "hashIsZero", type := .boolean, accessFlags := 2, slot := 3, constantValue := 0 }, { name := "serialVersionUID", type := .long, accessFlags := 26, slot := 0, constantValue := 0 }, { name := "COMPACT_STRINGS", type := .boolean, accessFlags := 24, slot := 1, constantValue := 0 }, { name := "serialPersistentFields", type := (.array (.object "java/io/ObjectStreamField")), accessFlags := 26, slot := 2, constantValue := 0 }, { name := "REPL", type := .char, accessFlags := 26, slot := 3, constantValue := 0 }, { name := "CASE_INSENSITIVE_ORDER", type := (.object "java/util/Comparator"), accessFlags := 25, slot := 4, constantValue := 0 }, { name := "LATIN1", type := .byte, accessFlags := 24, slot := 5, constantValue := 0 }, { name := "UTF16", type := .byte, accessFlags := 24, slot := 6, constantValue := 0 }]
  methods := #[k7m0, k7m1, k7m2, k7m3, k7m4, k7m5, k7m6, k7m7, k7m8, k7m9, k7m10]
  instanceTypes := #[(.array .byte), .byte, .int, .boolean]
  staticTypes := #[.long, .boolean, (.array (.object "java/io/ObjectStreamField")), .char, (.object "java/util/Comparator"), .byte, .byte]
  resolved := Array.replicate 1451 none
  statics := some 0 }

def pool8 : Array CpInfo := pool [(2, .class_ 4), (0, .nameAndType 5 6), (0, u "java/lang/Object"), (0, u "<init>"), (0, u "()V"), (0, .class_ 8), (0, u "java/lang/StringBuilder"), (0, .methodref 7 3), (0, .methodref 7 11), (0, .nameAndType 12 13), (0, u "append"), (0, u "(Ljava/lang/String;)Ljava/lang/StringBuilder;"), (0, .string 15), (0, u "."), (0, .fieldref 17 18), (0, .class_ 19), (0, .nameAndType 20 21), (0, u "com/example/longhold/longhold/store/DigestFile"), (0, u "DIGEST"), (0, u "Lcom/example/longhold/longhold/store/DigestAlgorithm;"), (0, .methodref 23 24), (0, .class_ 25), (0, .nameAndType 26 27), (0, u "com/example/longhold/longhold/store/DigestAlgorithm"), (0, u "label"), (0, u "()Ljava/lang/String;"), (0, .methodref 7 29), (0, .nameAndType 30 27), (0, u "toString"), (35, u "nameFor"), (0, u "(Ljava/lang/String;)Ljava/lang/String;")] 5

def k8m0 : Method := { name := "<init>", desc := "()V", sig := { parameters := [], returnType := none }, accessFlags := 2, code := none }
def k8c1 : Code := { maxStack := 2, maxLocals := 1, code := prog_40_method_2_code, exceptionTable := #[], attributes := #[] }
def k8m1 : Method := { name := "nameFor", desc := "(Ljava/lang/String;)Ljava/lang/String;", sig := { parameters := [(.object "java/lang/String")], returnType := some (.object "java/lang/String") }, accessFlags := 8, code := some k8c1 }
/-- com/example/longhold/longhold/store/DigestFile -/
def k8 : Class := { plain "com/example/longhold/longhold/store/DigestFile" (some 0) with
  accessFlags := 48
  interfaces := #[]
  cf := some (fileOf pool8 17 #[] #[{ accessFlags := 2, nameIndex := 5, descriptorIndex := 6, attributes := #[] }, { accessFlags := 8, nameIndex := 66, descriptorIndex := 67, attributes := #[] }] 48 2 #[] #[{ accessFlags := 24, nameIndex := 20, descriptorIndex := 21, attributes := #[] }])
  fields := #[{ name := "DIGEST", type := (.object "com/example/longhold/longhold/store/DigestAlgorithm"), accessFlags := 24, slot := 0, constantValue := 0 }]
  methods := #[k8m0, k8m1]
  instanceTypes := #[]
  staticTypes := #[(.object "com/example/longhold/longhold/store/DigestAlgorithm")]
  resolved := Array.replicate 73 none
  statics := some 1 }

def pool9 : Array CpInfo := pool [(1, .class_ 2), (0, u "java/lang/Appendable"), (0, .class_ 4), (0, u "java/lang/Object")] 9

/-- java/lang/Appendable -/
def k9 : Class := { plain "java/lang/Appendable" (some 0) with
  accessFlags := 1537
  interfaces := #[]
  cf := some (fileOf pool9 1 #[] #[] 1537 3 #[] #[])
  fields := #[]
  methods := #[]
  instanceTypes := #[]
  staticTypes := #[]
  resolved := Array.replicate 14 none
  statics := none }

def pool10 : Array CpInfo := pool [(1, .class_ 2), (0, u "java/lang/String"), (0, .methodref 4 5), (0, .class_ 6), (0, .nameAndType 7 8), (0, u "java/lang/Object"), (0, u "<init>"), (0, u "()V"), (1, .class_ 12), (1, u "java/lang/AbstractStringBuilder"), (0, u "EMPTYVALUE"), (0, u "[B"), (0, .fieldref 10 16), (0, .nameAndType 17 14), (0, u "value"), (0, .fieldref 1 19), (0, .nameAndType 20 21), (0, u "COMPACT_STRINGS"), (0, u "Z"), (0, .fieldref 10 23), (0, .nameAndType 24 25), (0, u "coder"), (0, u "B"), (6, .methodref 1 33), (0, .nameAndType 34 35), (0, u "length"), (0, u "()I"), (4, .methodref 1 41), (0, .nameAndType 24 42), (0, u "()B"), (2, u "append"), (0, u "(Ljava/lang/String;)Ljava/lang/AbstractStringBuilder;"), (1, .class_ 49), (0, u "java/lang/CharSequence"), (19, u "(Ljava/lang/String;)V"), (5, u "maybeLatin1"), (3, .fieldref 10 80), (0, .nameAndType 81 82), (0, u "count"), (0, u "I"), (2, u "isLatin1"), (0, u "()Z"), (13, .methodref 10 101), (0, .nameAndType 102 103), (0, u "ensureCapacityInternal"), (0, u "(I)V"), (104, .methodref 10 209), (0, .nameAndType 210 211), (0, u "putStringAt"), (0, u "(ILjava/lang/String;)V"), (5, u "inflateIfNeededFor"), (2, .nameAndType 221 222), (0, u "getBytes"), (0, u "([BIB)V"), (174, .methodref 10 398), (0, .nameAndType 217 69), (0, .methodref 1 220), (3, u "()[B"), (40, .class_ 445), (0, u "java/lang/Appendable"), (106, u "getValue")] 56

def k10m0 : Method := { name := "<init>", desc := "()V", sig := { parameters := [], returnType := none }, accessFlags := 0, code := none }
def k10c1 : Code := { maxStack := 2, maxLocals := 2, code := jdk_68_method_2_code, exceptionTable := #[], attributes := #[] }
def k10m1 : Method := { name := "<init>", desc := "(I)V", sig := { parameters := [.int], returnType := none }, accessFlags := 0, code := some k10c1 }
def k10c2 : Code := { maxStack := 1, maxLocals := 1, code := jdk_68_method_6_code, exceptionTable := #[], attributes := #[] }
def k10m2 : Method := { name := "length", desc := "()I", sig := { parameters := [], returnType := some .int }, accessFlags := 1, code := some k10c2 }
def k10c3 : Code := { maxStack := 4, maxLocals := 3, code := jdk_68_method_9_code, exceptionTable := #[], attributes := #[] }
def k10m3 : Method := { name := "ensureCapacityInternal", desc := "(I)V", sig := { parameters := [.int], returnType := none }, accessFlags := 2, code := some k10c3 }
def k10c4 : Code := { maxStack := 3, maxLocals := 3, code := jdk_68_method_22_code, exceptionTable := #[], attributes := #[] }
def k10m4 : Method := { name := "append", desc := "(Ljava/lang/String;)Ljava/lang/AbstractStringBuilder;", sig := { parameters := [(.object "java/lang/String")], returnType := some (.object "java/lang/AbstractStringBuilder") }, accessFlags := 1, code := some k10c4 }
def k10c5 : Code := { maxStack := 1, maxLocals := 1, code := jdk_68_method_64_code, exceptionTable := #[], attributes := #[] }
def k10m5 : Method := { name := "getValue", desc := "()[B", sig := { parameters := [], returnType := some (.array .byte) }, accessFlags := 16, code := some k10c5 }
def k10c6 : Code := { maxStack := 1, maxLocals := 1, code := jdk_68_method_68_code, exceptionTable := #[], attributes := #[] }
def k10m6 : Method := { name := "isLatin1", desc := "()Z", sig := { parameters := [], returnType := some .boolean }, accessFlags := 16, code := some k10c6 }
def k10c7 : Code := { maxStack := 2, maxLocals := 2, code := jdk_68_method_71_code, exceptionTable := #[], attributes := #[] }
def k10m7 : Method := { name := "inflateIfNeededFor", desc := "(Ljava/lang/String;)V", sig := { parameters := [(.object "java/lang/String")], returnType := none }, accessFlags := 2, code := some k10c7 }
def k10c8 : Code := { maxStack := 4, maxLocals := 3, code := jdk_68_method_73_code, exceptionTable := #[], attributes := #[] }
def k10m8 : Method := { name := "putStringAt", desc := "(ILjava/lang/String;)V", sig := { parameters := [.int, (.object "java/lang/String")], returnType := none }, accessFlags := 2, code := some k10c8 }
/-- java/lang/AbstractStringBuilder -/
def k10 : Class := { plain "java/lang/AbstractStringBuilder" (some 0) with
  accessFlags := 1056
  interfaces := #[9, 4]
  cf := some (fileOf pool10 10 #[] #[{ accessFlags := 0, nameIndex := 7, descriptorIndex := 8, attributes := #[] }, { accessFlags := 0, nameIndex := 7, descriptorIndex := 103, attributes := #[] }, { accessFlags := 1, nameIndex := 34, descriptorIndex := 35, attributes := #[] }, { accessFlags := 2, nameIndex := 102, descriptorIndex := 103, attributes := #[] }, { accessFlags := 1, nameIndex := 45, descriptorIndex := 46, attributes := #[] }, { accessFlags := 16, nameIndex := 552, descriptorIndex := 403, attributes := #[] }, { accessFlags := 16, nameIndex := 85, descriptorIndex := 86, attributes := #[] }, { accessFlags := 2, nameIndex := 217, descriptorIndex := 69, attributes := #[] }, { accessFlags := 2, nameIndex := 210, descriptorIndex := 211, attributes := #[] }] 1056 4 #[444, 48] #[{ accessFlags := 0, nameIndex := 17, descriptorIndex := 14, attributes := #[] }, { accessFlags := 0, nameIndex := 24, descriptorIndex := 25, attributes := #[] }, { accessFlags := 0, nameIndex := 75, descriptorIndex := 21, attributes := #[] }, { accessFlags := 0, nameIndex := 81, descriptorIndex := 82, attributes := #[] }, { accessFlags := 26, nameIndex := 13, descriptorIndex := 14, attributes := #[] }])
  fields := #[{ name := "value", type := (.array .byte), accessFlags := 0, slot := 0, constantValue := 0 }, { name := "coder", type := .byte, accessFlags := 0, slot := 1, constantValue := 0 }, { name := "maybeLatin1", type := .boolean, accessFlags := 0, slot := 2, constantValue := 0 }, { name := "count", type := .int, accessFlags := 0, slot := 3, constantValue := 0 }, { name := "EMPTYVALUE", type := (.array .byte), accessFlags := 26, slot := 0, constantValue := 0 }]
  methods := #[k10m0, k10m1, k10m2, k10m3, k10m4, k10m5, k10m6, k10m7, k10m8]
  instanceTypes := #[(.array .byte), .byte, .boolean, .int]
  staticTypes := #[(.array .byte)]
  resolved := Array.replicate 609 none
  statics := none }

def pool11 : Array CpInfo := pool [(1, .methodref 2 3), (0, .class_ 4), (0, .nameAndType 5 6), (0, u "java/lang/AbstractStringBuilder"), (0, u "<init>"), (0, u "(I)V"), (11, .class_ 20), (1, u "java/lang/String"), (3, .class_ 26), (1, u "java/lang/StringBuilder"), (0, u "append"), (0, u "(Ljava/lang/String;)Ljava/lang/StringBuilder;"), (0, .methodref 2 30), (0, .nameAndType 27 31), (0, u "(Ljava/lang/String;)Ljava/lang/AbstractStringBuilder;"), (105, .methodref 18 138), (0, .nameAndType 5 139), (0, u "(Ljava/lang/StringBuilder;)V"), (5, u "()V"), (10, u "()I"), (186, .methodref 2 344), (0, .nameAndType 345 156), (0, u "length"), (3, .class_ 350), (0, u "java/lang/Appendable"), (0, .class_ 352), (0, u "java/io/Serializable"), (0, .class_ 354), (0, u "java/lang/Comparable"), (0, .class_ 356), (0, u "java/lang/CharSequence"), (0, u "serialVersionUID"), (0, u "J"), (40, u "toString"), (0, u "()Ljava/lang/String;")] 21

def k11c0 : Code := { maxStack := 2, maxLocals := 1, code := jdk_67_method_1_code, exceptionTable := #[], attributes := #[] }
def k11m0 : Method := { name := "<init>", desc := "()V", sig := { parameters := [], returnType := none }, accessFlags := 1, code := some k11c0 }
def k11c1 : Code := { maxStack := 2, maxLocals := 2, code := jdk_67_method_7_code, exceptionTable := #[], attributes := #[] }
def k11m1 : Method := { name := "append", desc := "(Ljava/lang/String;)Ljava/lang/StringBuilder;", sig := { parameters := [(.object "java/lang/String")], returnType := some (.object "java/lang/StringBuilder") }, accessFlags := 1, code := some k11c1 }
def k11c2 : Code := { maxStack := 3, maxLocals := 1, code := jdk_67_method_42_code, exceptionTable := #[], attributes := #[] }
def k11m2 : Method := { name := "toString", desc := "()Ljava/lang/String;", sig := { parameters := [], returnType := some (.object "java/lang/String") }, accessFlags := 1, code := some k11c2 }
def k11c3 : Code := { maxStack := 1, maxLocals := 1, code := jdk_67_method_93_code, exceptionTable := #[], attributes := #[] }
def k11m3 : Method := { name := "length", desc := "()I", sig := { parameters := [], returnType := some .int }, accessFlags := 4161, code := some k11c3 }
/-- java/lang/StringBuilder -/
def k11 : Class := { plain "java/lang/StringBuilder" (some 10) with
  accessFlags := 49
  interfaces := #[9, 2, 3, 4]
  cf := some (fileOf pool11 24 #[] #[{ accessFlags := 1, nameIndex := 5, descriptorIndex := 145, attributes := #[] }, { accessFlags := 1, nameIndex := 27, descriptorIndex := 28, attributes := #[] }, { accessFlags := 1, nameIndex := 399, descriptorIndex := 400, attributes := #[] }, { accessFlags := 4161, nameIndex := 345, descriptorIndex := 156, attributes := #[] }] 49 2 #[349, 351, 353, 355] #[{ accessFlags := 24, nameIndex := 357, descriptorIndex := 358, attributes := #[] }])
  fields := #[{ name := "serialVersionUID", type := .long, accessFlags := 24, slot := 0, constantValue := 0 }]
  methods := #[k11m0, k11m1, k11m2, k11m3]
  instanceTypes := #[(.array .byte), .byte, .boolean, .int]
  staticTypes := #[.long]
  resolved := Array.replicate 422 none
  statics := none }

def pool12 : Array CpInfo := pool [(2, .class_ 4), (1, u "java/lang/Object"), (0, u "<init>"), (0, u "()V"), (1, .class_ 10), (1, u "java/lang/System"), (0, u "allowSecurityManager"), (0, u "I"), (16, u "cons"), (0, u "Ljava/io/Console;"), (77, .class_ 110), (1, u "java/lang/System$CallersHolder"), (43, u "initialErrStream"), (0, u "Ljava/io/PrintStream;"), (19, u "security"), (0, u "Ljava/lang/SecurityManager;"), (31, .class_ 209), (0, u "java/lang/System$1"), (7, u "props"), (0, u "Ljava/util/Properties;"), (2, u "lineSeparator"), (0, u "Ljava/lang/String;"), (96, .class_ 321), (1, u "java/lang/System$LoggerFinder"), (5, .class_ 328), (0, u "java/lang/System$Logger"), (67, u "err"), (2, u "out"), (91, u "notSupportedJnuEncoding"), (15, u "in"), (17, u "initialIn"), (0, u "Ljava/io/InputStream;"), (35, u "bootLayer"), (0, u "Ljava/lang/ModuleLayer;"), (99, .class_ 664), (0, u "java/lang/System$2"), (9, u "NEVER"), (2, u "MAYBE"), (49, u "arraycopy"), (0, u "(Ljava/lang/Object;ILjava/lang/Object;II)V"), (72, .class_ 802), (0, u "java/lang/System$Logger$Level")] 31

def k12m0 : Method := { name := "<init>", desc := "()V", sig := { parameters := [], returnType := none }, accessFlags := 2, code := none }
def k12m1 : Method := { name := "arraycopy", desc := "(Ljava/lang/Object;ILjava/lang/Object;II)V", sig := { parameters := [(.object "java/lang/Object"), .int, (.object "java/lang/Object"), .int, .int], returnType := none }, accessFlags := 265, code := none }
/-- java/lang/System -/
def k12 : Class := { plain "java/lang/System" (some 0) with
  accessFlags := 49
  interfaces := #[]
  cf := some (fileOf pool12 8 #[.nestMembers #[319, 327, 801, 108, 663, 208]] #[{ accessFlags := 2, nameIndex := 5, descriptorIndex := 6, attributes := #[] }, { accessFlags := 265, nameIndex := 727, descriptorIndex := 728, attributes := #[] }] 49 2 #[] #[{ accessFlags := 25, nameIndex := 507, descriptorIndex := 526, attributes := #[] }, { accessFlags := 25, nameIndex := 399, descriptorIndex := 155, attributes := #[] }, { accessFlags := 25, nameIndex := 396, descriptorIndex := 155, attributes := #[] }, { accessFlags := 10, nameIndex := 525, descriptorIndex := 526, attributes := #[] }, { accessFlags := 26, nameIndex := 674, descriptorIndex := 12, attributes := #[] }, { accessFlags := 26, nameIndex := 677, descriptorIndex := 12, attributes := #[] }, { accessFlags := 10, nameIndex := 11, descriptorIndex := 12, attributes := #[] }, { accessFlags := 74, nameIndex := 175, descriptorIndex := 176, attributes := #[] }, { accessFlags := 10, nameIndex := 491, descriptorIndex := 222, attributes := #[] }, { accessFlags := 74, nameIndex := 29, descriptorIndex := 30, attributes := #[] }, { accessFlags := 74, nameIndex := 154, descriptorIndex := 155, attributes := #[] }, { accessFlags := 10, nameIndex := 217, descriptorIndex := 218, attributes := #[] }, { accessFlags := 10, nameIndex := 221, descriptorIndex := 222, attributes := #[] }, { accessFlags := 8, nameIndex := 562, descriptorIndex := 563, attributes := #[] }])
  fields := #[{ name := "in", type := (.object "java/io/InputStream"), accessFlags := 25, slot := 0, constantValue := 0 }, { name := "out", type := (.object "java/io/PrintStream"), accessFlags := 25, slot := 1, constantValue := 0 }, { name := "err", type := (.object "java/io/PrintStream"), accessFlags := 25, slot := 2, constantValue := 0 }, { name := "initialIn", type := (.object "java/io/InputStream"), accessFlags := 10, slot := 3, constantValue := 0 }, { name := "NEVER", type := .int, accessFlags := 26, slot := 4, constantValue := 0 }, { name := "MAYBE", type := .int, accessFlags := 26, slot := 5, constantValue := 0 }, { name := "allowSecurityManager", type := .int, accessFlags := 10, slot := 6, constantValue := 0 }, { name := "security", type := (.object "java/lang/SecurityManager"), accessFlags := 74, slot := 7, constantValue := 0 }, { name := "notSupportedJnuEncoding", type := (.object "java/lang/String"), accessFlags := 10, slot := 8, constantValue := 0 }, { name := "cons", type := (.object "java/io/Console"), accessFlags := 74, slot := 9, constantValue := 0 }, { name := "initialErrStream", type := (.object "java/io/PrintStream"), accessFlags := 74, slot := 10, constantValue := 0 }, { name := "props", type := (.object "java/util/Properties"), accessFlags := 10, slot := 11, constantValue := 0 }, { name := "lineSeparator", type := (.object "java/lang/String"), accessFlags := 10, slot := 12, constantValue := 0 }, { name := "bootLayer", type := (.object "java/lang/ModuleLayer"), accessFlags := 8, slot := 13, constantValue := 0 }]
  methods := #[k12m0, k12m1]
  instanceTypes := #[]
  staticTypes := #[(.object "java/io/InputStream"), (.object "java/io/PrintStream"), (.object "java/io/PrintStream"), (.object "java/io/InputStream"), .int, .int, .int, (.object "java/lang/SecurityManager"), (.object "java/lang/String"), (.object "java/io/Console"), (.object "java/io/PrintStream"), (.object "java/util/Properties"), (.object "java/lang/String"), (.object "java/lang/ModuleLayer")]
  resolved := Array.replicate 834 none
  statics := none }

def pool13 : Array CpInfo := pool [(2, .class_ 4), (1, u "java/lang/Enum"), (0, u "name"), (0, u "Ljava/lang/String;"), (2, u "ordinal"), (0, u "I"), (1, .class_ 14), (1, u "java/lang/Object"), (4, u "hash"), (86, .class_ 108), (1, u "java/lang/Enum$EnumDesc"), (2, .class_ 112), (0, u "java/lang/constant/Constable"), (0, .class_ 114), (0, u "java/lang/Comparable"), (0, .class_ 116), (0, u "java/io/Serializable")] 87

/-- java/lang/Enum -/
def k13 : Class := { plain "java/lang/Enum" (some 0) with
  accessFlags := 1057
  interfaces := #[5, 3, 2]
  cf := some (fileOf pool13 2 #[.nestMembers #[106]] #[] 1057 12 #[111, 113, 115] #[{ accessFlags := 18, nameIndex := 5, descriptorIndex := 6, attributes := #[] }, { accessFlags := 18, nameIndex := 9, descriptorIndex := 10, attributes := #[] }, { accessFlags := 2, nameIndex := 19, descriptorIndex := 10, attributes := #[] }])
  fields := #[{ name := "name", type := (.object "java/lang/String"), accessFlags := 18, slot := 0, constantValue := 0 }, { name := "ordinal", type := .int, accessFlags := 18, slot := 1, constantValue := 0 }, { name := "hash", type := .int, accessFlags := 2, slot := 2, constantValue := 0 }]
  methods := #[]
  instanceTypes := #[(.object "java/lang/String"), .int, .int]
  staticTypes := #[]
  resolved := Array.replicate 204 none
  statics := none }

def pool14 : Array CpInfo := pool [(1, .class_ 2), (0, u "com/example/longhold/longhold/store/DigestAlgorithm"), (2, u "MD5"), (0, u "Lcom/example/longhold/longhold/store/DigestAlgorithm;"), (2, u "SHA1"), (2, u "SHA224"), (2, u "SHA256"), (2, u "SHA384"), (2, u "SHA512"), (2, u "$VALUES"), (0, u "[Lcom/example/longhold/longhold/store/DigestAlgorithm;"), (6, .class_ 34), (1, u "java/lang/Enum"), (6, .fieldref 1 42), (0, .nameAndType 43 44), (0, u "label"), (0, u "Ljava/lang/String;"), (2, u "javaName"), (124, u "()Ljava/lang/String;"), (37, u "BUFFER_SIZE"), (0, u "I")] 26

def k14c0 : Code := { maxStack := 1, maxLocals := 1, code := prog_39_method_5_code, exceptionTable := #[], attributes := #[] }
def k14m0 : Method := { name := "label", desc := "()Ljava/lang/String;", sig := { parameters := [], returnType := some (.object "java/lang/String") }, accessFlags := 1, code := some k14c0 }
/-- com/example/longhold/longhold/store/DigestAlgorithm -/
def k14 : Class := { plain "com/example/longhold/longhold/store/DigestAlgorithm" (some 13) with
  accessFlags := 16433
  interfaces := #[]
  cf := some (fileOf pool14 1 #[] #[{ accessFlags := 1, nameIndex := 43, descriptorIndex := 172, attributes := #[] }] 16433 32 #[] #[{ accessFlags := 16409, nameIndex := 5, descriptorIndex := 6, attributes := #[] }, { accessFlags := 16409, nameIndex := 9, descriptorIndex := 6, attributes := #[] }, { accessFlags := 16409, nameIndex := 12, descriptorIndex := 6, attributes := #[] }, { accessFlags := 16409, nameIndex := 15, descriptorIndex := 6, attributes := #[] }, { accessFlags := 16409, nameIndex := 18, descriptorIndex := 6, attributes := #[] }, { accessFlags := 16409, nameIndex := 21, descriptorIndex := 6, attributes := #[] }, { accessFlags := 26, nameIndex := 210, descriptorIndex := 211, attributes := #[] }, { accessFlags := 18, nameIndex := 43, descriptorIndex := 44, attributes := #[] }, { accessFlags := 18, nameIndex := 47, descriptorIndex := 44, attributes := #[] }, { accessFlags := 4122, nameIndex := 24, descriptorIndex := 25, attributes := #[] }])
  fields := #[{ name := "MD5", type := (.object "com/example/longhold/longhold/store/DigestAlgorithm"), accessFlags := 16409, slot := 0, constantValue := 0 }, { name := "SHA1", type := (.object "com/example/longhold/longhold/store/DigestAlgorithm"), accessFlags := 16409, slot := 1, constantValue := 0 }, { name := "SHA224", type := (.object "com/example/longhold/longhold/store/DigestAlgorithm"), accessFlags := 16409, slot := 2, constantValue := 0 }, { name := "SHA256", type := (.object "com/example/longhold/longhold/store/DigestAlgorithm"), accessFlags := 16409, slot := 3, constantValue := 0 }, { name := "SHA384", type := (.object "com/example/longhold/longhold/store/DigestAlgorithm"), accessFlags := 16409, slot := 4, constantValue := 0 }, { name := "SHA512", type := (.object "com/example/longhold/longhold/store/DigestAlgorithm"), accessFlags := 16409, slot := 5, constantValue := 0 }, { name := "BUFFER_SIZE", type := .int, accessFlags := 26, slot := 6, constantValue := 0 }, { name := "label", type := (.object "java/lang/String"), accessFlags := 18, slot := 3, constantValue := 0 }, { name := "javaName", type := (.object "java/lang/String"), accessFlags := 18, slot := 4, constantValue := 0 }, { name := "$VALUES", type := (.array (.object "com/example/longhold/longhold/store/DigestAlgorithm")), accessFlags := 4122, slot := 7, constantValue := 0 }]
  methods := #[k14m0]
  instanceTypes := #[(.object "java/lang/String"), .int, .int, (.object "java/lang/String"), (.object "java/lang/String")]
  staticTypes := #[(.object "com/example/longhold/longhold/store/DigestAlgorithm"), (.object "com/example/longhold/longhold/store/DigestAlgorithm"), (.object "com/example/longhold/longhold/store/DigestAlgorithm"), (.object "com/example/longhold/longhold/store/DigestAlgorithm"), (.object "com/example/longhold/longhold/store/DigestAlgorithm"), (.object "com/example/longhold/longhold/store/DigestAlgorithm"), .int, (.array (.object "com/example/longhold/longhold/store/DigestAlgorithm"))]
  resolved := Array.replicate 238 none
  statics := some 2 }

def pool15 : Array CpInfo := pool [(2, .class_ 4), (1, u "java/lang/Object"), (0, u "<init>"), (0, u "()V"), (7, .class_ 16), (1, u "java/util/Arrays"), (57, .class_ 76), (1, u "java/util/Arrays$NaturalOrder"), (36, .class_ 115), (1, u "java/util/Arrays$LegacyMergeSort"), (1, u "Z"), (21, u "copyOfRange"), (10, .methodref 151 152), (0, .class_ 153), (0, .nameAndType 154 155), (0, u "java/lang/System"), (0, u "arraycopy"), (0, u "(Ljava/lang/Object;ILjava/lang/Object;II)V"), (148, .methodref 305 306), (0, .class_ 307), (0, .nameAndType 308 309), (0, u "java/lang/Math"), (0, u "min"), (0, u "(II)I"), (29, .methodref 14 340), (0, .nameAndType 341 342), (0, u "copyOfRangeByte"), (0, u "([BII)[B"), (0, .methodref 14 344), (0, .nameAndType 345 346), (0, u "checkLength"), (0, u "(II)V"), (28, .class_ 376), (0, u "java/util/Arrays$ArrayList"), (68, u "$assertionsDisabled"), (269, u "MIN_ARRAY_SORT_GRAN"), (0, u "I"), (2, u "INSERTIONSORT_THRESHOLD"), (255, .class_ 976), (0, u "java/util/Arrays$ArrayItr")] 52

def k15m0 : Method := { name := "<init>", desc := "()V", sig := { parameters := [], returnType := none }, accessFlags := 2, code := none }
def k15c1 : Code := { maxStack := 4, maxLocals := 2, code := jdk_65_method_131_code, exceptionTable := #[], attributes := #[] }
def k15m1 : Method := { name := "checkLength", desc := "(II)V", sig := { parameters := [.int, .int], returnType := none }, accessFlags := 10, code := some k15c1 }
def k15c2 : Code := { maxStack := 3, maxLocals := 3, code := jdk_65_method_132_code, exceptionTable := #[], attributes := #[] }
def k15m2 : Method := { name := "copyOfRange", desc := "([BII)[B", sig := { parameters := [(.array .byte), .int, .int], returnType := some (.array .byte) }, accessFlags := 9, code := some k15c2 }
def k15c3 : Code := { maxStack := 6, maxLocals := 5, code := jdk_65_method_133_code, exceptionTable := #[], attributes := #[] }
def k15m3 : Method := { name := "copyOfRangeByte", desc := "([BII)[B", sig := { parameters := [(.array .byte), .int, .int], returnType := some (.array .byte) }, accessFlags := 10, code := some k15c3 }
/-- java/util/Arrays -/
def k15 : Class := { plain "java/util/Arrays" (some 0) with
  accessFlags := 49
  interfaces := #[]
  cf := some (fileOf pool15 14 #[.nestMembers #[975, 375, 113, 74]] #[{ accessFlags := 2, nameIndex := 5, descriptorIndex := 6, attributes := #[] }, { accessFlags := 10, nameIndex := 345, descriptorIndex := 346, attributes := #[] }, { accessFlags := 9, nameIndex := 139, descriptorIndex := 342, attributes := #[] }, { accessFlags := 10, nameIndex := 341, descriptorIndex := 342, attributes := #[] }] 49 2 #[] #[{ accessFlags := 26, nameIndex := 715, descriptorIndex := 716, attributes := #[] }, { accessFlags := 26, nameIndex := 719, descriptorIndex := 716, attributes := #[] }, { accessFlags := 4120, nameIndex := 445, descriptorIndex := 117, attributes := #[] }])
  fields := #[{ name := "MIN_ARRAY_SORT_GRAN", type := .int, accessFlags := 26, slot := 0, constantValue := 0 }, { name := "INSERTIONSORT_THRESHOLD", type := .int, accessFlags := 26, slot := 1, constantValue := 0 }, { name := "$assertionsDisabled", type := .boolean, accessFlags := 4120, slot := 2, constantValue := 0 }]
  methods := #[k15m0, k15m1, k15m2, k15m3]
  instanceTypes := #[]
  staticTypes := #[.int, .int, .boolean]
  resolved := Array.replicate 1029 none
  statics := none }

def pool16 : Array CpInfo := pool [(1, .class_ 2), (0, u "java/lang/Math"), (1, .class_ 6), (1, u "java/lang/Object"), (0, u "<init>"), (0, u "()V"), (89, .class_ 100), (1, u "java/lang/Math$RandomNumberGeneratorHolder"), (71, u "negativeZeroFloatBits"), (0, u "J"), (2, u "negativeZeroDoubleBits"), (24, u "min"), (43, u "$assertionsDisabled"), (0, u "Z"), (88, u "(II)I"), (2, u "twoToTheDoubleScaleDown"), (0, u "D"), (4, u "twoToTheDoubleScaleUp"), (9, u "E"), (3, u "PI"), (2, u "TAU"), (2, u "DEGREES_TO_RADIANS"), (0, u "RADIANS_TO_DEGREES")] 94

def k16m0 : Method := { name := "<init>", desc := "()V", sig := { parameters := [], returnType := none }, accessFlags := 2, code := none }
def k16c1 : Code := { maxStack := 2, maxLocals := 2, code := jdk_29_method_69_code, exceptionTable := #[], attributes := #[] }
def k16m1 : Method := { name := "min", desc := "(II)I", sig := { parameters := [.int, .int], returnType := some .int }, accessFlags := 9, code := some k16c1 }
/-- java/lang/Math -/
def k16 : Class := { plain "java/lang/Math" (some 0) with
  accessFlags := 49
  interfaces := #[]
  cf := some (fileOf pool16 1 #[.nestMembers #[98]] #[{ accessFlags := 2, nameIndex := 7, descriptorIndex := 8, attributes := #[] }, { accessFlags := 9, nameIndex := 201, descriptorIndex := 335, attributes := #[] }] 49 4 #[] #[{ accessFlags := 25, nameIndex := 354, descriptorIndex := 339, attributes := #[] }, { accessFlags := 25, nameIndex := 358, descriptorIndex := 339, attributes := #[] }, { accessFlags := 25, nameIndex := 361, descriptorIndex := 339, attributes := #[] }, { accessFlags := 26, nameIndex := 364, descriptorIndex := 339, attributes := #[] }, { accessFlags := 26, nameIndex := 365, descriptorIndex := 339, attributes := #[] }, { accessFlags := 26, nameIndex := 172, descriptorIndex := 173, attributes := #[] }, { accessFlags := 26, nameIndex := 176, descriptorIndex := 173, attributes := #[] }, { accessFlags := 8, nameIndex := 344, descriptorIndex := 339, attributes := #[] }, { accessFlags := 8, nameIndex := 338, descriptorIndex := 339, attributes := #[] }, { accessFlags := 4120, nameIndex := 245, descriptorIndex := 246, attributes := #[] }])
  fields := #[{ name := "E", type := .double, accessFlags := 25, slot := 0, constantValue := 0 }, { name := "PI", type := .double, accessFlags := 25, slot := 1, constantValue := 0 }, { name := "TAU", type := .double, accessFlags := 25, slot := 2, constantValue := 0 }, { name := "DEGREES_TO_RADIANS", type := .double, accessFlags := 26, slot := 3, constantValue := 0 }, { name := "RADIANS_TO_DEGREES", type := .double, accessFlags := 26, slot := 4, constantValue := 0 }, { name := "negativeZeroFloatBits", type := .long, accessFlags := 26, slot := 5, constantValue := 0 }, { name := "negativeZeroDoubleBits", type := .long, accessFlags := 26, slot := 6, constantValue := 0 }, { name := "twoToTheDoubleScaleUp", type := .double, accessFlags := 8, slot := 7, constantValue := 0 }, { name := "twoToTheDoubleScaleDown", type := .double, accessFlags := 8, slot := 8, constantValue := 0 }, { name := "$assertionsDisabled", type := .boolean, accessFlags := 4120, slot := 9, constantValue := 0 }]
  methods := #[k16m0, k16m1]
  instanceTypes := #[]
  staticTypes := #[.double, .double, .double, .double, .double, .long, .long, .double, .double, .boolean]
  resolved := Array.replicate 460 none
  statics := none }

def pool17 : Array CpInfo := pool [(1, .class_ 2), (0, u "java/lang/String"), (1, .class_ 6), (1, u "java/lang/Object"), (0, u "<init>"), (0, u "()V"), (0, .methodref 1 10), (0, .nameAndType 11 12), (0, u "checkIndex"), (0, u "(II)V"), (1, .class_ 16), (1, u "java/lang/StringLatin1"), (36, u "([BI)C"), (67, u "$assertionsDisabled"), (0, u "Z"), (98, .class_ 223), (1, u "java/lang/StringLatin1$LinesSpliterator"), (28, u "charAt"), (137, .class_ 391), (0, u "java/lang/StringLatin1$CharsSpliterator")] 3

def k17m0 : Method := { name := "<init>", desc := "()V", sig := { parameters := [], returnType := none }, accessFlags := 0, code := none }
def k17c1 : Code := { maxStack := 2, maxLocals := 2, code := jdk_43_method_2_code, exceptionTable := #[], attributes := #[] }
def k17m1 : Method := { name := "charAt", desc := "([BI)C", sig := { parameters := [(.array .byte), .int], returnType := some .char }, accessFlags := 9, code := some k17c1 }
/-- java/lang/StringLatin1 -/
def k17 : Class := { plain "java/lang/StringLatin1" (some 0) with
  accessFlags := 48
  interfaces := #[]
  cf := some (fileOf pool17 14 #[.nestMembers #[390, 221]] #[{ accessFlags := 0, nameIndex := 7, descriptorIndex := 8, attributes := #[] }, { accessFlags := 9, nameIndex := 252, descriptorIndex := 53, attributes := #[] }] 48 4 #[] #[{ accessFlags := 4120, nameIndex := 121, descriptorIndex := 122, attributes := #[] }])
  fields := #[{ name := "$assertionsDisabled", type := .boolean, accessFlags := 4120, slot := 0, constantValue := 0 }]
  methods := #[k17m0, k17m1]
  instanceTypes := #[]
  staticTypes := #[.boolean]
  resolved := Array.replicate 395 none
  statics := none }

def pool18 : Array CpInfo := pool [(2, .class_ 4), (1, u "java/lang/Object"), (0, u "<init>"), (0, u "()V"), (17, .class_ 26), (1, u "jdk/internal/util/Preconditions"), (6, u "checkIndex"), (21, .class_ 56), (0, u "jdk/internal/util/Preconditions$4"), (57, .class_ 115), (0, u "jdk/internal/util/Preconditions$1"), (7, u "SIOOBE_FORMATTER"), (0, u "Ljava/util/function/BiFunction;"), (0, .class_ 126), (0, u "jdk/internal/util/Preconditions$2"), (3, u "AIOOBE_FORMATTER"), (0, .class_ 132), (0, u "jdk/internal/util/Preconditions$3"), (3, u "IOOBE_FORMATTER"), (41, u "(IILjava/util/function/BiFunction;)I")] 15

def k18m0 : Method := { name := "<init>", desc := "()V", sig := { parameters := [], returnType := none }, accessFlags := 1, code := none }
def k18c1 : Code := { maxStack := 3, maxLocals := 3, code := jdk_41_method_11_code, exceptionTable := #[], attributes := #[] }
def k18m1 : Method := { name := "checkIndex", desc := "(IILjava/util/function/BiFunction;)I", sig := { parameters := [.int, .int, (.object "java/util/function/BiFunction")], returnType := some .int }, accessFlags := 9, code := some k18c1 }
/-- jdk/internal/util/Preconditions -/
def k18 : Class := { plain "jdk/internal/util/Preconditions" (some 0) with
  accessFlags := 33
  interfaces := #[]
  cf := some (fileOf pool18 24 #[.nestMembers #[55, 131, 125, 114]] #[{ accessFlags := 1, nameIndex := 5, descriptorIndex := 6, attributes := #[] }, { accessFlags := 9, nameIndex := 33, descriptorIndex := 178, attributes := #[] }] 33 2 #[] #[{ accessFlags := 25, nameIndex := 123, descriptorIndex := 124, attributes := #[] }, { accessFlags := 25, nameIndex := 130, descriptorIndex := 124, attributes := #[] }, { accessFlags := 25, nameIndex := 136, descriptorIndex := 124, attributes := #[] }])
  fields := #[{ name := "SIOOBE_FORMATTER", type := (.object "java/util/function/BiFunction"), accessFlags := 25, slot := 0, constantValue := 0 }, { name := "AIOOBE_FORMATTER", type := (.object "java/util/function/BiFunction"), accessFlags := 25, slot := 1, constantValue := 0 }, { name := "IOOBE_FORMATTER", type := (.object "java/util/function/BiFunction"), accessFlags := 25, slot := 2, constantValue := 0 }]
  methods := #[k18m0, k18m1]
  instanceTypes := #[]
  staticTypes := #[(.object "java/util/function/BiFunction"), (.object "java/util/function/BiFunction"), (.object "java/util/function/BiFunction")]
  resolved := Array.replicate 194 none
  statics := some 3 }

def pool19 : Array CpInfo := pool [(6, .class_ 8), (1, u "java/lang/Object"), (0, u "<init>"), (0, u "()V"), (1, .class_ 14), (1, u "java/lang/StringUTF16"), (31, u "$assertionsDisabled"), (0, u "Z"), (13, u "HI_BYTE_SHIFT"), (0, u "I"), (2, u "LO_BYTE_SHIFT"), (49, .methodref 12 116), (0, .nameAndType 117 118), (0, u "compress"), (0, u "([CI[BII)I"), (3, u "([CII)[B"), (138, u "coderFromArrayLen"), (0, u "([BI)B"), (106, .class_ 371), (1, u "java/lang/StringUTF16$LinesSpliterator"), (58, u "MAX_LENGTH"), (196, .class_ 628), (0, u "java/lang/StringUTF16$CodePointsSpliterator"), (0, .class_ 630), (0, u "java/lang/StringUTF16$CharsSpliterator")] 4

def k19m0 : Method := { name := "<init>", desc := "()V", sig := { parameters := [], returnType := none }, accessFlags := 0, code := none }
def k19c1 : Code := { maxStack := 2, maxLocals := 2, code := jdk_52_method_15_code, exceptionTable := #[], attributes := #[] }
def k19m1 : Method := { name := "coderFromArrayLen", desc := "([BI)B", sig := { parameters := [(.array .byte), .int], returnType := some .byte }, accessFlags := 8, code := some k19c1 }
def k19c2 : Code := { maxStack := 5, maxLocals := 6, code := jdk_52_method_16_code, exceptionTable := #[], attributes := #[] }
def k19m2 : Method := { name := "compress", desc := "([CII)[B", sig := { parameters := [(.array .char), .int, .int], returnType := some (.array .byte) }, accessFlags := 9, code := some k19c2 }
def k19c3 : Code := { maxStack := 3, maxLocals := 7, code := jdk_52_method_21_code, exceptionTable := #[], attributes := #[] }
def k19m3 : Method := { name := "compress", desc := "([CI[BII)I", sig := { parameters := [(.array .char), .int, (.array .byte), .int, .int], returnType := some .int }, accessFlags := 9, code := some k19c3 }
/-- java/lang/StringUTF16 -/
def k19 : Class := { plain "java/lang/StringUTF16" (some 0) with
  accessFlags := 48
  interfaces := #[]
  cf := some (fileOf pool19 12 #[.nestMembers #[627, 629, 369]] #[{ accessFlags := 0, nameIndex := 9, descriptorIndex := 10, attributes := #[] }, { accessFlags := 8, nameIndex := 261, descriptorIndex := 262, attributes := #[] }, { accessFlags := 9, nameIndex := 117, descriptorIndex := 122, attributes := #[] }, { accessFlags := 9, nameIndex := 117, descriptorIndex := 118, attributes := #[] }] 48 6 #[] #[{ accessFlags := 26, nameIndex := 61, descriptorIndex := 62, attributes := #[] }, { accessFlags := 26, nameIndex := 65, descriptorIndex := 62, attributes := #[] }, { accessFlags := 24, nameIndex := 430, descriptorIndex := 62, attributes := #[] }, { accessFlags := 4120, nameIndex := 46, descriptorIndex := 47, attributes := #[] }])
  fields := #[{ name := "HI_BYTE_SHIFT", type := .int, accessFlags := 26, slot := 0, constantValue := 0 }, { name := "LO_BYTE_SHIFT", type := .int, accessFlags := 26, slot := 1, constantValue := 0 }, { name := "MAX_LENGTH", type := .int, accessFlags := 24, slot := 2, constantValue := 0 }, { name := "$assertionsDisabled", type := .boolean, accessFlags := 4120, slot := 3, constantValue := 0 }]
  methods := #[k19m0, k19m1, k19m2, k19m3]
  instanceTypes := #[]
  staticTypes := #[.int, .int, .int, .boolean]
  resolved := Array.replicate 635 none
  statics := none }

def pool20 : Array CpInfo := pool [(9, u "<init>"), (6, .class_ 18), (1, u "java/lang/Object"), (0, u "()V"), (1, .class_ 23), (1, u "jdk/internal/util/ArraysSupport"), (0, u "LOG2_ARRAY_LONG_INDEX_SCALE"), (0, u "I"), (2, u "U"), (0, u "Ljdk/internal/misc/Unsafe;"), (8, u "BIG_ENDIAN"), (0, u "Z"), (8, u "LOG2_BYTE_BIT_SIZE"), (4, u "LOG2_ARRAY_INT_INDEX_SCALE"), (54, u "JLA"), (0, u "Ljdk/internal/access/JavaLangAccess;"), (11, u "LOG2_ARRAY_BOOLEAN_INDEX_SCALE"), (9, u "LOG2_ARRAY_BYTE_INDEX_SCALE"), (5, u "LOG2_ARRAY_CHAR_INDEX_SCALE"), (5, u "LOG2_ARRAY_SHORT_INDEX_SCALE"), (18, u "LOG2_ARRAY_FLOAT_INDEX_SCALE"), (24, u "LOG2_ARRAY_DOUBLE_INDEX_SCALE"), (89, u "T_BOOLEAN"), (2, u "T_CHAR"), (1, u "T_FLOAT"), (1, u "T_DOUBLE"), (1, u "T_BYTE"), (1, u "T_SHORT"), (1, u "T_INT"), (1, u "T_LONG"), (1, u "SOFT_MAX_ARRAY_LENGTH")] 83

def k20m0 : Method := { name := "<init>", desc := "()V", sig := { parameters := [], returnType := none }, accessFlags := 2, code := none }
/-- jdk/internal/util/ArraysSupport -/
def k20 : Class := { plain "jdk/internal/util/ArraysSupport" (some 0) with
  accessFlags := 33
  interfaces := #[]
  cf := some (fileOf pool20 21 #[] #[{ accessFlags := 2, nameIndex := 9, descriptorIndex := 19, attributes := #[] }] 33 16 #[] #[{ accessFlags := 24, nameIndex := 28, descriptorIndex := 29, attributes := #[] }, { accessFlags := 26, nameIndex := 38, descriptorIndex := 39, attributes := #[] }, { accessFlags := 25, nameIndex := 121, descriptorIndex := 25, attributes := #[] }, { accessFlags := 25, nameIndex := 131, descriptorIndex := 25, attributes := #[] }, { accessFlags := 25, nameIndex := 137, descriptorIndex := 25, attributes := #[] }, { accessFlags := 25, nameIndex := 143, descriptorIndex := 25, attributes := #[] }, { accessFlags := 25, nameIndex := 53, descriptorIndex := 25, attributes := #[] }, { accessFlags := 25, nameIndex := 24, descriptorIndex := 25, attributes := #[] }, { accessFlags := 25, nameIndex := 162, descriptorIndex := 25, attributes := #[] }, { accessFlags := 25, nameIndex := 187, descriptorIndex := 25, attributes := #[] }, { accessFlags := 26, nameIndex := 48, descriptorIndex := 25, attributes := #[] }, { accessFlags := 25, nameIndex := 277, descriptorIndex := 25, attributes := #[] }, { accessFlags := 25, nameIndex := 280, descriptorIndex := 25, attributes := #[] }, { accessFlags := 25, nameIndex := 282, descriptorIndex := 25, attributes := #[] }, { accessFlags := 25, nameIndex := 284, descriptorIndex := 25, attributes := #[] }, { accessFlags := 25, nameIndex := 286, descriptorIndex := 25, attributes := #[] }, { accessFlags := 25, nameIndex := 288, descriptorIndex := 25, attributes := #[] }, { accessFlags := 25, nameIndex := 290, descriptorIndex := 25, attributes := #[] }, { accessFlags := 25, nameIndex := 292, descriptorIndex := 25, attributes := #[] }, { accessFlags := 26, nameIndex := 108, descriptorIndex := 109, attributes := #[] }, { accessFlags := 25, nameIndex := 294, descriptorIndex := 25, attributes := #[] }])
  fields := #[{ name := "U", type := (.object "jdk/internal/misc/Unsafe"), accessFlags := 24, slot := 0, constantValue := 0 }, { name := "BIG_ENDIAN", type := .boolean, accessFlags := 26, slot := 1, constantValue := 0 }, { name := "LOG2_ARRAY_BOOLEAN_INDEX_SCALE", type := .int, accessFlags := 25, slot := 2, constantValue := 0 }, { name := "LOG2_ARRAY_BYTE_INDEX_SCALE", type := .int, accessFlags := 25, slot := 3, constantValue := 0 }, { name := "LOG2_ARRAY_CHAR_INDEX_SCALE", type := .int, accessFlags := 25, slot := 4, constantValue := 0 }, { name := "LOG2_ARRAY_SHORT_INDEX_SCALE", type := .int, accessFlags := 25, slot := 5, constantValue := 0 }, { name := "LOG2_ARRAY_INT_INDEX_SCALE", type := .int, accessFlags := 25, slot := 6, constantValue := 0 }, { name := "LOG2_ARRAY_LONG_INDEX_SCALE", type := .int, accessFlags := 25, slot := 7, constantValue := 0 }, { name := "LOG2_ARRAY_FLOAT_INDEX_SCALE", type := .int, accessFlags := 25, slot := 8, constantValue := 0 }, { name := "LOG2_ARRAY_DOUBLE_INDEX_SCALE", type := .int, accessFlags := 25, slot := 9, constantValue := 0 }, { name := "LOG2_BYTE_BIT_SIZE", type := .int, accessFlags := 26, slot := 10, constantValue := 0 }, { name := "T_BOOLEAN", type := .int, accessFlags := 25, slot := 11, constantValue := 0 }, { name := "T_CHAR", type := .int, accessFlags := 25, slot := 12, constantValue := 0 }, { name := "T_FLOAT", type := .int, accessFlags := 25, slot := 13, constantValue := 0 }, { name := "T_DOUBLE", type := .int, accessFlags := 25, slot := 14, constantValue := 0 }, { name := "T_BYTE", type := .int, accessFlags := 25, slot := 15, constantValue := 0 }, { name := "T_SHORT", type := .int, accessFlags := 25, slot := 16, constantValue := 0 }, { name := "T_INT", type := .int, accessFlags := 25, slot := 17, constantValue := 0 }, { name := "T_LONG", type := .int, accessFlags := 25, slot := 18, constantValue := 0 }, { name := "JLA", type := (.object "jdk/internal/access/JavaLangAccess"), accessFlags := 26, slot := 19, constantValue := 0 }, { name := "SOFT_MAX_ARRAY_LENGTH", type := .int, accessFlags := 25, slot := 20, constantValue := 0 }]
  methods := #[k20m0]
  instanceTypes := #[]
  staticTypes := #[(.object "jdk/internal/misc/Unsafe"), .boolean, .int, .int, .int, .int, .int, .int, .int, .int, .int, .int, .int, .int, .int, .int, .int, .int, .int, (.object "jdk/internal/access/JavaLangAccess"), .int]
  resolved := Array.replicate 378 none
  statics := none }

def pool21 : Array CpInfo := pool [(1, u "java/lang/Cloneable"), (0, .class_ 1), (0, u "java/lang/Object"), (0, .class_ 3)] 3

/-- java/lang/Cloneable -/
def k21 : Class := { plain "java/lang/Cloneable" (some 0) with
  accessFlags := 1537
  interfaces := #[]
  cf := some (fileOf pool21 2 #[] #[] 1537 4 #[] #[])
  fields := #[]
  methods := #[]
  instanceTypes := #[]
  staticTypes := #[]
  resolved := Array.replicate 8 none
  statics := none }

/-- the primitive byte -/
def k22 : Class := { plain "byte" none with kind := .primitive 'B', accessFlags := 0x411 }
/-- [B -/
def k23 : Class := { plain "[B" (some 0) with kind := .array 22 .byte, interfaces := #[21, 2], accessFlags := 1041 }

/-- the primitive char -/
def k24 : Class := { plain "char" none with kind := .primitive 'C', accessFlags := 0x411 }
/-- [C -/
def k25 : Class := { plain "[C" (some 0) with kind := .array 24 .char, interfaces := #[21, 2], accessFlags := 1041 }

/-- the primitive int -/
def k26 : Class := { plain "int" none with kind := .primitive 'I', accessFlags := 0x411 }
/-- [I -/
def k27 : Class := { plain "[I" (some 0) with kind := .array 26 .int, interfaces := #[21, 2], accessFlags := 1041 }

def heap : Heap := #[{ cls := 7, slots := #[.long 0, .int 1, .null, .int 0, .null, .int 0, .int 0], vm := .statics 7 },
  { cls := 8, slots := #[.ref 4], vm := .statics 8 },
  { cls := 14, slots := #[.null, .null, .null, .null, .null, .ref 4, .int 0, .null], vm := .statics 14 },
  { cls := 18, slots := #[.null, .null, .null], vm := .statics 18 },
  { cls := 14, slots := #[.null, .int 0, .int 0, .ref 5, .null], vm := .none },
  { cls := 7, slots := #[.ref 6, .int 0, .int 0, .int 0], vm := .none },
  { cls := 23, slots := #[.int 115, .int 104, .int 97, .int 53, .int 49, .int 50], vm := .none }]
def classes : Array Class := #[k0, k1, k2, k3, k4, k5, k6, k7, k8, k9, k10, k11, k12, k13, k14, k15, k16, k17, k18, k19, k20, k21, k22, k23, k24, k25, k26, k27]
def interned : List (Array UInt16 × Addr) := []
def slotsUsed : Nat := 34
def theMethod : MethodId := ⟨1, 1⟩
def args0 : Array Value := #[.int 4, .int 7, .int 8, .int 9]
def aboutOver (below : List Frame) : State where
  vm := { classes := classes, interned := interned.toArray }
  heap := heap
  slotsUsed := slotsUsed
  threads := #[{ frames := .invoking theMethod args0 :: below }]
def below0 : List Frame := [.native { method := ⟨0, 0⟩, args := #[] }]
def about1 : State := aboutOver below0
def p0 : Program := .bare "" "" ""
def e0 : Env := launch0.env 0 0 0
theorem w_frames : about1.frames = Frame.invoking theMethod args0 :: below0 := rfl
set_option maxRecDepth 65536 in
theorem w_args : argsFit about1.vm theMethod args0 = true := by decide +kernel
set_option maxRecDepth 65536 in
theorem w_heap : heapFits about1 = true := by decide +kernel
set_option maxRecDepth 65536 in
theorem w_runnable : about1.curStatus? = some .runnable := by decide +kernel
set_option maxRecDepth 65536 in
theorem w_alone : about1.alone = true := by decide +kernel
set_option maxRecDepth 65536 in
theorem w_named : about1.methodNamed? x = some theMethod := by decide +kernel
set_option maxRecDepth 65536 in
theorem w_hears : about1.hears theMethod below0 = true := by decide +kernel
set_option maxRecDepth 65536 in
theorem w_ripe : about1.ripe theMethod args0 below0 = true := by decide +kernel
theorem w_running : about1.status = .running := rfl
set_option maxRecDepth 65536 in
theorem w_room : about1.hasRoom e0.platform room_1 = true :=
  launch0.hasRoom_least _ room_1 (by decide +kernel) (by decide +kernel) (by decide +kernel) (by decide +kernel) (by decide +kernel) (by decide +kernel)
theorem allAtoms_all (ts : List Jvm.Cond) (a : Array Jvm.Value) (st : Jvm.State) : (allAtoms ts).before a st = ts.all (fun c => c.before a st) := by
  induction ts with
  | nil => rfl
  | cons c t ih =>
    show (Jvm.Cond.and c (allAtoms t)).before a st = _
    rw [Jvm.Cond.before_and, ih, List.all_cons]
def words1 : List Jvm.Cond := Jvm.Cond.code x code maxLocals ret :: tables_1
/-- a 'code' word, met by the world's own term for the bytes: nothing is compared byte by byte -/
theorem code_word {y : MethodName} {bytes : ByteArray} {mx : Nat} {rt : Option FieldType} {a : Array Value} {s : State} {m : MethodId} {meth : Method} {c : Code} (h1 : s.methodNamed? y = some m) (h2 : s.vm.method? m = some meth) (h3 : meth.code = some c) (h4 : c.code = bytes)
    (h5 : (c.maxLocals == mx && c.exceptionTable.isEmpty && decide (c.maxStack ≤ mostOperands) && decide (meth.sig.returnType = rt) && !meth.locks && decide (parseMethodDescriptor y.desc = some meth.sig)) = true) : (Jvm.Cond.code y bytes mx rt).before a s = true := by
  simp only [Bool.and_eq_true, beq_iff_eq, Bool.not_eq_true', decide_eq_true_eq] at h5
  obtain ⟨⟨⟨⟨⟨g1, g2⟩, g3⟩, g4⟩, g5⟩, g6⟩ := h5
  simp [Cond.before, Cond.holds, Cond.value, h1, h2, h3, h4, g1, g2, g3, g4, g5, g6]
def isCode : Jvm.Cond → Bool
  | .code _ _ _ _ => true
  | _ => false
theorem all_split {L : List Jvm.Cond} {P : Jvm.Cond → Bool} (h1 : L.all (fun c => isCode c || P c) = true) (h2 : ∀ c ∈ L.filter isCode, P c = true) : L.all P = true := by
  refine List.all_eq_true.mpr fun c hc => ?_
  have h := List.all_eq_true.mp h1 c hc
  rcases Bool.eq_false_or_eq_true (isCode c) with hi | hi
  · exact h2 c (List.mem_filter.mpr ⟨hc, hi⟩)
  · simpa [hi] using h
set_option maxRecDepth 65536 in
theorem w_c0 : (Jvm.Cond.code x code maxLocals ret).before args0 about1 = true := code_word (m := ⟨1, 1⟩) (meth := k1m1) (c := k1c1) (by decide +kernel) rfl rfl rfl (by decide +kernel)
set_option maxRecDepth 65536 in
theorem w_c1 : (Jvm.Cond.code ({ cls := "java/lang/String", name := "<init>", desc := "([C)V" } : Jvm.MethodName) jdk_42_method_3_code (2 : Nat) (Option.none : Option Jvm.ClassFile.FieldType)).before args0 about1 = true := code_word (m := ⟨7, 1⟩) (meth := k7m1) (c := k7c1) (by decide +kernel) rfl rfl rfl (by decide +kernel)
set_option maxRecDepth 65536 in
theorem w_c2 : (Jvm.Cond.code ({ cls := "java/lang/String", name := "<init>", desc := "([CIILjava/lang/Void;)V" } : Jvm.MethodName) jdk_42_method_149_code (6 : Nat) (Option.none : Option Jvm.ClassFile.FieldType)).before args0 about1 = true := code_word (m := ⟨7, 6⟩) (meth := k7m6) (c := k7c6) (by decide +kernel) rfl rfl rfl (by decide +kernel)
set_option maxRecDepth 65536 in
theorem w_c3 : (Jvm.Cond.code ({ cls := "java/lang/Object", name := "<init>", desc := "()V" } : Jvm.MethodName) object_method_1_code (1 : Nat) (Option.none : Option Jvm.ClassFile.FieldType)).before args0 about1 = true := code_word (m := ⟨0, 0⟩) (meth := k0m0) (c := k0c0) (by decide +kernel) rfl rfl rfl (by decide +kernel)
set_option maxRecDepth 65536 in
theorem w_c4 : (Jvm.Cond.code ({ cls := "com/example/longhold/longhold/store/DigestFile", name := "nameFor", desc := "(Ljava/lang/String;)Ljava/lang/String;" } : Jvm.MethodName) prog_40_method_2_code (1 : Nat) (Option.some (Jvm.ClassFile.FieldType.object "java/lang/String"))).before args0 about1 = true := code_word (m := ⟨8, 1⟩) (meth := k8m1) (c := k8c1) (by decide +kernel) rfl rfl rfl (by decide +kernel)
set_option maxRecDepth 65536 in
theorem w_c5 : (Jvm.Cond.code ({ cls := "java/lang/StringBuilder", name := "<init>", desc := "()V" } : Jvm.MethodName) jdk_67_method_1_code (1 : Nat) (Option.none : Option Jvm.ClassFile.FieldType)).before args0 about1 = true := code_word (m := ⟨11, 0⟩) (meth := k11m0) (c := k11c0) (by decide +kernel) rfl rfl rfl (by decide +kernel)
set_option maxRecDepth 65536 in
theorem w_c6 : (Jvm.Cond.code ({ cls := "java/lang/AbstractStringBuilder", name := "<init>", desc := "(I)V" } : Jvm.MethodName) jdk_68_method_2_code (2 : Nat) (Option.none : Option Jvm.ClassFile.FieldType)).before args0 about1 = true := code_word (m := ⟨10, 1⟩) (meth := k10m1) (c := k10c1) (by decide +kernel) rfl rfl rfl (by decide +kernel)
set_option maxRecDepth 65536 in
theorem w_c7 : (Jvm.Cond.code ({ cls := "java/lang/StringBuilder", name := "append", desc := "(Ljava/lang/String;)Ljava/lang/StringBuilder;" } : Jvm.MethodName) jdk_67_method_7_code (2 : Nat) (Option.some (Jvm.ClassFile.FieldType.object "java/lang/StringBuilder"))).before args0 about1 = true := code_word (m := ⟨11, 1⟩) (meth := k11m1) (c := k11c1) (by decide +kernel) rfl rfl rfl (by decide +kernel)
set_option maxRecDepth 65536 in
theorem w_c8 : (Jvm.Cond.code ({ cls := "java/lang/AbstractStringBuilder", name := "append", desc := "(Ljava/lang/String;)Ljava/lang/AbstractStringBuilder;" } : Jvm.MethodName) jdk_68_method_22_code (3 : Nat) (Option.some (Jvm.ClassFile.FieldType.object "java/lang/AbstractStringBuilder"))).before args0 about1 = true := code_word (m := ⟨10, 4⟩) (meth := k10m4) (c := k10c4) (by decide +kernel) rfl rfl rfl (by decide +kernel)
set_option maxRecDepth 65536 in
theorem w_c9 : (Jvm.Cond.code ({ cls := "java/lang/String", name := "length", desc := "()I" } : Jvm.MethodName) jdk_42_method_54_code (1 : Nat) (Option.some Jvm.ClassFile.FieldType.int)).before args0 about1 = true := code_word (m := ⟨7, 3⟩) (meth := k7m3) (c := k7c3) (by decide +kernel) rfl rfl rfl (by decide +kernel)
set_option maxRecDepth 65536 in
theorem w_c10 : (Jvm.Cond.code ({ cls := "java/lang/String", name := "coder", desc := "()B" } : Jvm.MethodName) jdk_42_method_152_code (1 : Nat) (Option.some Jvm.ClassFile.FieldType.byte)).before args0 about1 = true := code_word (m := ⟨7, 8⟩) (meth := k7m8) (c := k7c8) (by decide +kernel) rfl rfl rfl (by decide +kernel)
set_option maxRecDepth 65536 in
theorem w_c11 : (Jvm.Cond.code ({ cls := "java/lang/AbstractStringBuilder", name := "ensureCapacityInternal", desc := "(I)V" } : Jvm.MethodName) jdk_68_method_9_code (3 : Nat) (Option.none : Option Jvm.ClassFile.FieldType)).before args0 about1 = true := code_word (m := ⟨10, 3⟩) (meth := k10m3) (c := k10c3) (by decide +kernel) rfl rfl rfl (by decide +kernel)
set_option maxRecDepth 65536 in
theorem w_c12 : (Jvm.Cond.code ({ cls := "java/lang/AbstractStringBuilder", name := "putStringAt", desc := "(ILjava/lang/String;)V" } : Jvm.MethodName) jdk_68_method_73_code (3 : Nat) (Option.none : Option Jvm.ClassFile.FieldType)).before args0 about1 = true := code_word (m := ⟨10, 8⟩) (meth := k10m8) (c := k10c8) (by decide +kernel) rfl rfl rfl (by decide +kernel)
set_option maxRecDepth 65536 in
theorem w_c13 : (Jvm.Cond.code ({ cls := "java/lang/AbstractStringBuilder", name := "inflateIfNeededFor", desc := "(Ljava/lang/String;)V" } : Jvm.MethodName) jdk_68_method_71_code (2 : Nat) (Option.none : Option Jvm.ClassFile.FieldType)).before args0 about1 = true := code_word (m := ⟨10, 7⟩) (meth := k10m7) (c := k10c7) (by decide +kernel) rfl rfl rfl (by decide +kernel)
set_option maxRecDepth 65536 in
theorem w_c14 : (Jvm.Cond.code ({ cls := "java/lang/String", name := "getBytes", desc := "([BIB)V" } : Jvm.MethodName) jdk_42_method_147_code (4 : Nat) (Option.none : Option Jvm.ClassFile.FieldType)).before args0 about1 = true := code_word (m := ⟨7, 5⟩) (meth := k7m5) (c := k7c5) (by decide +kernel) rfl rfl rfl (by decide +kernel)
set_option maxRecDepth 65536 in
theorem w_c15 : (Jvm.Cond.code ({ cls := "com/example/longhold/longhold/store/DigestAlgorithm", name := "label", desc := "()Ljava/lang/String;" } : Jvm.MethodName) prog_39_method_5_code (1 : Nat) (Option.some (Jvm.ClassFile.FieldType.object "java/lang/String"))).before args0 about1 = true := code_word (m := ⟨14, 0⟩) (meth := k14m0) (c := k14c0) (by decide +kernel) rfl rfl rfl (by decide +kernel)
set_option maxRecDepth 65536 in
theorem w_c16 : (Jvm.Cond.code ({ cls := "java/lang/StringBuilder", name := "toString", desc := "()Ljava/lang/String;" } : Jvm.MethodName) jdk_67_method_42_code (1 : Nat) (Option.some (Jvm.ClassFile.FieldType.object "java/lang/String"))).before args0 about1 = true := code_word (m := ⟨11, 2⟩) (meth := k11m2) (c := k11c2) (by decide +kernel) rfl rfl rfl (by decide +kernel)
set_option maxRecDepth 65536 in
theorem w_c17 : (Jvm.Cond.code ({ cls := "java/lang/String", name := "<init>", desc := "(Ljava/lang/StringBuilder;)V" } : Jvm.MethodName) jdk_42_method_53_code (2 : Nat) (Option.none : Option Jvm.ClassFile.FieldType)).before args0 about1 = true := code_word (m := ⟨7, 2⟩) (meth := k7m2) (c := k7c2) (by decide +kernel) rfl rfl rfl (by decide +kernel)
set_option maxRecDepth 65536 in
theorem w_c18 : (Jvm.Cond.code ({ cls := "java/lang/String", name := "<init>", desc := "(Ljava/lang/AbstractStringBuilder;Ljava/lang/Void;)V" } : Jvm.MethodName) jdk_42_method_150_code (5 : Nat) (Option.none : Option Jvm.ClassFile.FieldType)).before args0 about1 = true := code_word (m := ⟨7, 7⟩) (meth := k7m7) (c := k7c7) (by decide +kernel) rfl rfl rfl (by decide +kernel)
set_option maxRecDepth 65536 in
theorem w_c19 : (Jvm.Cond.code ({ cls := "java/lang/AbstractStringBuilder", name := "getValue", desc := "()[B" } : Jvm.MethodName) jdk_68_method_64_code (1 : Nat) (Option.some (Jvm.ClassFile.FieldType.array Jvm.ClassFile.FieldType.byte))).before args0 about1 = true := code_word (m := ⟨10, 5⟩) (meth := k10m5) (c := k10c5) (by decide +kernel) rfl rfl rfl (by decide +kernel)
set_option maxRecDepth 65536 in
theorem w_c20 : (Jvm.Cond.code ({ cls := "java/lang/StringBuilder", name := "length", desc := "()I" } : Jvm.MethodName) jdk_67_method_93_code (1 : Nat) (Option.some Jvm.ClassFile.FieldType.int)).before args0 about1 = true := code_word (m := ⟨11, 3⟩) (meth := k11m3) (c := k11c3) (by decide +kernel) rfl rfl rfl (by decide +kernel)
set_option maxRecDepth 65536 in
theorem w_c21 : (Jvm.Cond.code ({ cls := "java/lang/AbstractStringBuilder", name := "length", desc := "()I" } : Jvm.MethodName) jdk_68_method_6_code (1 : Nat) (Option.some Jvm.ClassFile.FieldType.int)).before args0 about1 = true := code_word (m := ⟨10, 2⟩) (meth := k10m2) (c := k10c2) (by decide +kernel) rfl rfl rfl (by decide +kernel)
set_option maxRecDepth 65536 in
theorem w_c22 : (Jvm.Cond.code ({ cls := "java/lang/AbstractStringBuilder", name := "isLatin1", desc := "()Z" } : Jvm.MethodName) jdk_68_method_68_code (1 : Nat) (Option.some Jvm.ClassFile.FieldType.boolean)).before args0 about1 = true := code_word (m := ⟨10, 6⟩) (meth := k10m6) (c := k10c6) (by decide +kernel) rfl rfl rfl (by decide +kernel)
set_option maxRecDepth 65536 in
theorem w_c23 : (Jvm.Cond.code ({ cls := "java/util/Arrays", name := "copyOfRange", desc := "([BII)[B" } : Jvm.MethodName) jdk_65_method_132_code (3 : Nat) (Option.some (Jvm.ClassFile.FieldType.array Jvm.ClassFile.FieldType.byte))).before args0 about1 = true := code_word (m := ⟨15, 2⟩) (meth := k15m2) (c := k15c2) (by decide +kernel) rfl rfl rfl (by decide +kernel)
set_option maxRecDepth 65536 in
theorem w_c24 : (Jvm.Cond.code ({ cls := "java/util/Arrays", name := "copyOfRangeByte", desc := "([BII)[B" } : Jvm.MethodName) jdk_65_method_133_code (5 : Nat) (Option.some (Jvm.ClassFile.FieldType.array Jvm.ClassFile.FieldType.byte))).before args0 about1 = true := code_word (m := ⟨15, 3⟩) (meth := k15m3) (c := k15c3) (by decide +kernel) rfl rfl rfl (by decide +kernel)
set_option maxRecDepth 65536 in
theorem w_c25 : (Jvm.Cond.code ({ cls := "java/util/Arrays", name := "checkLength", desc := "(II)V" } : Jvm.MethodName) jdk_65_method_131_code (2 : Nat) (Option.none : Option Jvm.ClassFile.FieldType)).before args0 about1 = true := code_word (m := ⟨15, 1⟩) (meth := k15m1) (c := k15c1) (by decide +kernel) rfl rfl rfl (by decide +kernel)
set_option maxRecDepth 65536 in
theorem w_c26 : (Jvm.Cond.code ({ cls := "java/lang/Math", name := "min", desc := "(II)I" } : Jvm.MethodName) jdk_29_method_69_code (2 : Nat) (Option.some Jvm.ClassFile.FieldType.int)).before args0 about1 = true := code_word (m := ⟨16, 1⟩) (meth := k16m1) (c := k16c1) (by decide +kernel) rfl rfl rfl (by decide +kernel)
set_option maxRecDepth 65536 in
theorem w_c27 : (Jvm.Cond.code ({ cls := "java/lang/String", name := "charAt", desc := "(I)C" } : Jvm.MethodName) jdk_42_method_56_code (2 : Nat) (Option.some Jvm.ClassFile.FieldType.char)).before args0 about1 = true := code_word (m := ⟨7, 4⟩) (meth := k7m4) (c := k7c4) (by decide +kernel) rfl rfl rfl (by decide +kernel)
set_option maxRecDepth 65536 in
theorem w_c28 : (Jvm.Cond.code ({ cls := "java/lang/String", name := "isLatin1", desc := "()Z" } : Jvm.MethodName) jdk_42_method_154_code (1 : Nat) (Option.some Jvm.ClassFile.FieldType.boolean)).before args0 about1 = true := code_word (m := ⟨7, 9⟩) (meth := k7m9) (c := k7c9) (by decide +kernel) rfl rfl rfl (by decide +kernel)
set_option maxRecDepth 65536 in
theorem w_c29 : (Jvm.Cond.code ({ cls := "java/lang/StringLatin1", name := "charAt", desc := "([BI)C" } : Jvm.MethodName) jdk_43_method_2_code (2 : Nat) (Option.some Jvm.ClassFile.FieldType.char)).before args0 about1 = true := code_word (m := ⟨17, 1⟩) (meth := k17m1) (c := k17c1) (by decide +kernel) rfl rfl rfl (by decide +kernel)
set_option maxRecDepth 65536 in
theorem w_c30 : (Jvm.Cond.code ({ cls := "java/lang/String", name := "checkIndex", desc := "(II)V" } : Jvm.MethodName) jdk_42_method_155_code (2 : Nat) (Option.none : Option Jvm.ClassFile.FieldType)).before args0 about1 = true := code_word (m := ⟨7, 10⟩) (meth := k7m10) (c := k7c10) (by decide +kernel) rfl rfl rfl (by decide +kernel)
set_option maxRecDepth 65536 in
theorem w_c31 : (Jvm.Cond.code ({ cls := "jdk/internal/util/Preconditions", name := "checkIndex", desc := "(IILjava/util/function/BiFunction;)I" } : Jvm.MethodName) jdk_41_method_11_code (3 : Nat) (Option.some Jvm.ClassFile.FieldType.int)).before args0 about1 = true := code_word (m := ⟨18, 1⟩) (meth := k18m1) (c := k18c1) (by decide +kernel) rfl rfl rfl (by decide +kernel)
set_option maxRecDepth 65536 in
theorem w_c32 : (Jvm.Cond.code ({ cls := "java/lang/StringUTF16", name := "compress", desc := "([CII)[B" } : Jvm.MethodName) jdk_52_method_16_code (6 : Nat) (Option.some (Jvm.ClassFile.FieldType.array Jvm.ClassFile.FieldType.byte))).before args0 about1 = true := code_word (m := ⟨19, 2⟩) (meth := k19m2) (c := k19c2) (by decide +kernel) rfl rfl rfl (by decide +kernel)
set_option maxRecDepth 65536 in
theorem w_c33 : (Jvm.Cond.code ({ cls := "java/lang/StringUTF16", name := "compress", desc := "([CI[BII)I" } : Jvm.MethodName) jdk_52_method_21_code (7 : Nat) (Option.some Jvm.ClassFile.FieldType.int)).before args0 about1 = true := code_word (m := ⟨19, 3⟩) (meth := k19m3) (c := k19c3) (by decide +kernel) rfl rfl rfl (by decide +kernel)
set_option maxRecDepth 65536 in
theorem w_c34 : (Jvm.Cond.code ({ cls := "java/lang/StringUTF16", name := "coderFromArrayLen", desc := "([BI)B" } : Jvm.MethodName) jdk_52_method_15_code (2 : Nat) (Option.some Jvm.ClassFile.FieldType.byte)).before args0 about1 = true := code_word (m := ⟨19, 1⟩) (meth := k19m1) (c := k19c1) (by decide +kernel) rfl rfl rfl (by decide +kernel)
def codes1 : List Jvm.Cond := [Jvm.Cond.code x code maxLocals ret, Jvm.Cond.code ({ cls := "java/lang/String", name := "<init>", desc := "([C)V" } : Jvm.MethodName) jdk_42_method_3_code (2 : Nat) (Option.none : Option Jvm.ClassFile.FieldType), Jvm.Cond.code ({ cls := "java/lang/String", name := "<init>", desc := "([CIILjava/lang/Void;)V" } : Jvm.MethodName) jdk_42_method_149_code (6 : Nat) (Option.none : Option Jvm.ClassFile.FieldType), Jvm.Cond.code ({ cls := "java/lang/Object", name := "<init>", desc := "()V" } : Jvm.MethodName) object_method_1_code (1 : Nat) (Option.none : Option Jvm.ClassFile.FieldType), Jvm.Cond.code ({ cls := "com/example/longhold/longhold/store/DigestFile", name := "nameFor", desc := "(Ljava/lang/String;)Ljava/lang/String;" } : Jvm.MethodName) prog_40_method_2_code (1 : Nat) (Option.some (Jvm.ClassFile.FieldType.object "java/lang/String")), Jvm.Cond.code ({ cls := "java/lang/StringBuilder", name := "<init>", desc := "()V" } : Jvm.MethodName) jdk_67_method_1_code (1 : Nat) (Option.none : Option Jvm.ClassFile.FieldType), Jvm.Cond.code ({ cls := "java/lang/AbstractStringBuilder", name := "<init>", desc := "(I)V" } : Jvm.MethodName) jdk_68_method_2_code (2 : Nat) (Option.none : Option Jvm.ClassFile.FieldType), Jvm.Cond.code ({ cls := "java/lang/StringBuilder", name := "append", desc := "(Ljava/lang/String;)Ljava/lang/StringBuilder;" } : Jvm.MethodName) jdk_67_method_7_code (2 : Nat) (Option.some (Jvm.ClassFile.FieldType.object "java/lang/StringBuilder")), Jvm.Cond.code ({ cls := "java/lang/AbstractStringBuilder", name := "append", desc := "(Ljava/lang/String;)Ljava/lang/AbstractStringBuilder;" } : Jvm.MethodName) jdk_68_method_22_code (3 : Nat) (Option.some (Jvm.ClassFile.FieldType.object "java/lang/AbstractStringBuilder")), Jvm.Cond.code ({ cls := "java/lang/String", name := "length", desc := "()I" } : Jvm.MethodName) jdk_42_method_54_code (1 : Nat) (Option.some Jvm.ClassFile.FieldType.int), Jvm.Cond.code ({ cls := "java/lang/String", name := "coder", desc := "()B" } : Jvm.MethodName) jdk_42_method_152_code (1 : Nat) (Option.some Jvm.ClassFile.FieldType.byte), Jvm.Cond.code ({ cls := "java/lang/AbstractStringBuilder", name := "ensureCapacityInternal", desc := "(I)V" } : Jvm.MethodName) jdk_68_method_9_code (3 : Nat) (Option.none : Option Jvm.ClassFile.FieldType), Jvm.Cond.code ({ cls := "java/lang/AbstractStringBuilder", name := "putStringAt", desc := "(ILjava/lang/String;)V" } : Jvm.MethodName) jdk_68_method_73_code (3 : Nat) (Option.none : Option Jvm.ClassFile.FieldType), Jvm.Cond.code ({ cls := "java/lang/AbstractStringBuilder", name := "inflateIfNeededFor", desc := "(Ljava/lang/String;)V" } : Jvm.MethodName) jdk_68_method_71_code (2 : Nat) (Option.none : Option Jvm.ClassFile.FieldType), Jvm.Cond.code ({ cls := "java/lang/String", name := "getBytes", desc := "([BIB)V" } : Jvm.MethodName) jdk_42_method_147_code (4 : Nat) (Option.none : Option Jvm.ClassFile.FieldType), Jvm.Cond.code ({ cls := "com/example/longhold/longhold/store/DigestAlgorithm", name := "label", desc := "()Ljava/lang/String;" } : Jvm.MethodName) prog_39_method_5_code (1 : Nat) (Option.some (Jvm.ClassFile.FieldType.object "java/lang/String")), Jvm.Cond.code ({ cls := "java/lang/StringBuilder", name := "toString", desc := "()Ljava/lang/String;" } : Jvm.MethodName) jdk_67_method_42_code (1 : Nat) (Option.some (Jvm.ClassFile.FieldType.object "java/lang/String")), Jvm.Cond.code ({ cls := "java/lang/String", name := "<init>", desc := "(Ljava/lang/StringBuilder;)V" } : Jvm.MethodName) jdk_42_method_53_code (2 : Nat) (Option.none : Option Jvm.ClassFile.FieldType), Jvm.Cond.code ({ cls := "java/lang/String", name := "<init>", desc := "(Ljava/lang/AbstractStringBuilder;Ljava/lang/Void;)V" } : Jvm.MethodName) jdk_42_method_150_code (5 : Nat) (Option.none : Option Jvm.ClassFile.FieldType), Jvm.Cond.code ({ cls := "java/lang/AbstractStringBuilder", name := "getValue", desc := "()[B" } : Jvm.MethodName) jdk_68_method_64_code (1 : Nat) (Option.some (Jvm.ClassFile.FieldType.array Jvm.ClassFile.FieldType.byte)), Jvm.Cond.code ({ cls := "java/lang/StringBuilder", name := "length", desc := "()I" } : Jvm.MethodName) jdk_67_method_93_code (1 : Nat) (Option.some Jvm.ClassFile.FieldType.int), Jvm.Cond.code ({ cls := "java/lang/AbstractStringBuilder", name := "length", desc := "()I" } : Jvm.MethodName) jdk_68_method_6_code (1 : Nat) (Option.some Jvm.ClassFile.FieldType.int), Jvm.Cond.code ({ cls := "java/lang/AbstractStringBuilder", name := "isLatin1", desc := "()Z" } : Jvm.MethodName) jdk_68_method_68_code (1 : Nat) (Option.some Jvm.ClassFile.FieldType.boolean), Jvm.Cond.code ({ cls := "java/util/Arrays", name := "copyOfRange", desc := "([BII)[B" } : Jvm.MethodName) jdk_65_method_132_code (3 : Nat) (Option.some (Jvm.ClassFile.FieldType.array Jvm.ClassFile.FieldType.byte)), Jvm.Cond.code ({ cls := "java/util/Arrays", name := "copyOfRangeByte", desc := "([BII)[B" } : Jvm.MethodName) jdk_65_method_133_code (5 : Nat) (Option.some (Jvm.ClassFile.FieldType.array Jvm.ClassFile.FieldType.byte)), Jvm.Cond.code ({ cls := "java/util/Arrays", name := "checkLength", desc := "(II)V" } : Jvm.MethodName) jdk_65_method_131_code (2 : Nat) (Option.none : Option Jvm.ClassFile.FieldType), Jvm.Cond.code ({ cls := "java/lang/Math", name := "min", desc := "(II)I" } : Jvm.MethodName) jdk_29_method_69_code (2 : Nat) (Option.some Jvm.ClassFile.FieldType.int), Jvm.Cond.code ({ cls := "java/lang/String", name := "charAt", desc := "(I)C" } : Jvm.MethodName) jdk_42_method_56_code (2 : Nat) (Option.some Jvm.ClassFile.FieldType.char), Jvm.Cond.code ({ cls := "java/lang/String", name := "isLatin1", desc := "()Z" } : Jvm.MethodName) jdk_42_method_154_code (1 : Nat) (Option.some Jvm.ClassFile.FieldType.boolean), Jvm.Cond.code ({ cls := "java/lang/StringLatin1", name := "charAt", desc := "([BI)C" } : Jvm.MethodName) jdk_43_method_2_code (2 : Nat) (Option.some Jvm.ClassFile.FieldType.char), Jvm.Cond.code ({ cls := "java/lang/String", name := "checkIndex", desc := "(II)V" } : Jvm.MethodName) jdk_42_method_155_code (2 : Nat) (Option.none : Option Jvm.ClassFile.FieldType), Jvm.Cond.code ({ cls := "jdk/internal/util/Preconditions", name := "checkIndex", desc := "(IILjava/util/function/BiFunction;)I" } : Jvm.MethodName) jdk_41_method_11_code (3 : Nat) (Option.some Jvm.ClassFile.FieldType.int), Jvm.Cond.code ({ cls := "java/lang/StringUTF16", name := "compress", desc := "([CII)[B" } : Jvm.MethodName) jdk_52_method_16_code (6 : Nat) (Option.some (Jvm.ClassFile.FieldType.array Jvm.ClassFile.FieldType.byte)), Jvm.Cond.code ({ cls := "java/lang/StringUTF16", name := "compress", desc := "([CI[BII)I" } : Jvm.MethodName) jdk_52_method_21_code (7 : Nat) (Option.some Jvm.ClassFile.FieldType.int), Jvm.Cond.code ({ cls := "java/lang/StringUTF16", name := "coderFromArrayLen", desc := "([BI)B" } : Jvm.MethodName) jdk_52_method_15_code (2 : Nat) (Option.some Jvm.ClassFile.FieldType.byte)]
set_option maxRecDepth 65536 in
theorem codes_eq : words1.filter isCode = codes1 := rfl
theorem w_codes : ∀ c ∈ words1.filter isCode, c.before args0 about1 = true := by
  rw [codes_eq]
  intro c hc
  simp only [codes1, List.mem_cons, List.not_mem_nil, or_false] at hc
  rcases hc with rfl | rfl | rfl | rfl | rfl | rfl | rfl | rfl | rfl | rfl | rfl | rfl | rfl | rfl | rfl | rfl | rfl | rfl | rfl | rfl | rfl | rfl | rfl | rfl | rfl | rfl | rfl | rfl | rfl | rfl | rfl | rfl | rfl | rfl | rfl
  · exact w_c0
  · exact w_c1
  · exact w_c2
  · exact w_c3
  · exact w_c4
  · exact w_c5
  · exact w_c6
  · exact w_c7
  · exact w_c8
  · exact w_c9
  · exact w_c10
  · exact w_c11
  · exact w_c12
  · exact w_c13
  · exact w_c14
  · exact w_c15
  · exact w_c16
  · exact w_c17
  · exact w_c18
  · exact w_c19
  · exact w_c20
  · exact w_c21
  · exact w_c22
  · exact w_c23
  · exact w_c24
  · exact w_c25
  · exact w_c26
  · exact w_c27
  · exact w_c28
  · exact w_c29
  · exact w_c30
  · exact w_c31
  · exact w_c32
  · exact w_c33
  · exact w_c34
set_option maxRecDepth 65536 in
theorem w_t1 : (words1.take 24).all (fun c => isCode c || c.before args0 about1) = true := by decide +kernel
set_option maxRecDepth 65536 in
theorem w_t2 : ((words1.drop 24).take 24).all (fun c => isCode c || c.before args0 about1) = true := by decide +kernel
set_option maxRecDepth 65536 in
theorem w_t3 : (((words1.drop 24).drop 24).take 24).all (fun c => isCode c || c.before args0 about1) = true := by decide +kernel
set_option maxRecDepth 65536 in
theorem w_t4 : ((((words1.drop 24).drop 24).drop 24).take 24).all (fun c => isCode c || c.before args0 about1) = true := by decide +kernel
set_option maxRecDepth 65536 in
theorem w_t5 : (((((words1.drop 24).drop 24).drop 24).drop 24).take 24).all (fun c => isCode c || c.before args0 about1) = true := by decide +kernel
set_option maxRecDepth 65536 in
theorem w_t6 : ((((((words1.drop 24).drop 24).drop 24).drop 24).drop 24).take 24).all (fun c => isCode c || c.before args0 about1) = true := by decide +kernel
set_option maxRecDepth 65536 in
theorem w_t7 : (((((((words1.drop 24).drop 24).drop 24).drop 24).drop 24).drop 24).take 24).all (fun c => isCode c || c.before args0 about1) = true := by decide +kernel
set_option maxRecDepth 65536 in
theorem w_t8 : (((((((words1.drop 24).drop 24).drop 24).drop 24).drop 24).drop 24).drop 24).all (fun c => isCode c || c.before args0 about1) = true := by decide +kernel
theorem w_tables : (allAtoms (Jvm.Cond.code x code maxLocals ret :: tables_1)).before args0 about1 = true := by
  rw [allAtoms_all]
  show words1.all (fun c => c.before args0 about1) = true
  refine all_split ?_ w_codes
  rw [← List.take_append_drop 24 words1, List.all_append, w_t1, ← List.take_append_drop 24 (words1.drop 24), List.all_append, w_t2, ← List.take_append_drop 24 ((words1.drop 24).drop 24), List.all_append, w_t3, ← List.take_append_drop 24 (((words1.drop 24).drop 24).drop 24), List.all_append, w_t4, ← List.take_append_drop 24 ((((words1.drop 24).drop 24).drop 24).drop 24), List.all_append, w_t5, ← List.take_append_drop 24 (((((words1.drop 24).drop 24).drop 24).drop 24).drop 24), List.all_append, w_t6, ← List.take_append_drop 24 ((((((words1.drop 24).drop 24).drop 24).drop 24).drop 24).drop 24), List.all_append, w_t7, w_t8]
  rfl
set_option maxRecDepth 65536 in
theorem w_rest : rest_1_c.before args0 about1 = true := by decide +kernel
set_option maxRecDepth 65536 in
theorem w_case : (Jvm.Cond.and given_1 narrow_1).before args0 about1 = true := by decide +kernel
set_option maxRecDepth 65536 in
theorem w_consts : constsHeld consts_1 about1 := Jvm.Lit.constsHeldB_iff.mp (by decide +kernel)
theorem w_applies : (headSpec (Jvm.Cond.code x code maxLocals ret :: tables_1) room_1).applies x e0.platform about1 = true :=
  (Spec.applies_iff w_frames).mpr ⟨w_running, w_runnable, w_alone, w_named, w_hears, w_ripe, w_room, w_tables⟩
theorem atStart : AtStart classFile x code maxLocals ret World_1 tables_1 room_1 Calls_1 rest_1 Pre_1 launch0 p0 e0 about1 theMethod args0 below0 :=
  ⟨lists_1, trivial, launch0.admits_env _ _ _, launch0.least_env, fairChoices_fair.cas, fairChoices_fair.clock, w_frames, w_args, w_heap, w_applies, ⟨w_consts, trivial⟩, w_rest, w_case⟩
end start1
theorem witness_1 : WitnessClaimed_1 := ⟨start1.p0, start1.e0, start1.about1, start1.theMethod, start1.args0, start1.below0, start1.atStart⟩
end Jvm.Pilot.@@N@@
