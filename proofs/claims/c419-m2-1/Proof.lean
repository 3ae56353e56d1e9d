import JvmDerived
import JvmDerived.Pilot.@@N@@Statement
import JvmDerived.Pilot.@@N@@Code
set_option linter.unusedVariables false
set_option linter.unusedSimpArgs false
namespace Jvm.RoadKit
open Sem ClassFile Op Lib Jvm.Stand Jvm.Free Jvm.LawKit
section Own
variable {p : Program} {l : Launch} {e : Env} {R : Room} {s : State} {m : MethodId} {args : Array Value} {below : List Frame} {meth : Method} {c : Code} {T : State} {locs : List Loc} {cells slots : Nat}
theorem retI (X : Stand p l e R s m args below meth c T locs cells slots) (hx : p.tables.exec = Jvm.exec) {pc : Nat} {Ls : Array Slot} {z : Int32} {rest : List Value} (hret : meth.sig.returnType = some .int) (hd : decode c.code pc = .ok (.ireturn, 1)) {fs : List Frame}
    (hl : ∀ (f : JFrame) (acts : List Action), f.method = m → f.locked = none → f.entered = [] → (doReturn e (T.setTop f) acts (some (.int z))).1 = T.setFrames fs) : Steps p.tables e below (T.setTop (mkF m pc Ls (.int z :: rest))) (T.setFrames fs) := by
  have hm' : T.vm.method? m = some meth := X.method'
  have hn : narrow .int (.int z) = .int z := rfl
  show Steps p.tables e below (T.setTop { method := m, pc := pc, locals := Ls, stack := _ :: rest, locked := none }) _
  jvm_step X.here [X.here.top, hx, hd, hm', hret, hn]
  first | (intro acts; rw [hl _ acts rfl rfl rfl]) | rw [hl _ _ rfl rfl rfl]
  exact Steps.refl _
/-- the walk from S ends as K says -/
def Way (tb : Tables) (e : Env) (below : List Frame) (K : Outcome → State → Prop) (S : State) : Prop := ∃ s₂ o, Steps tb e below S s₂ ∧ s₂.status = .running ∧ Ended s₂ below o ∧ K o s₂
theorem Way.by {tb : Tables} {K : Outcome → State → Prop} {A B : State} (st : ∀ t, Steps tb e below B t → Steps tb e below A t) (h : Way tb e below K B) : Way tb e below K A := by
  obtain ⟨s₂, o, h1, h2⟩ := h; exact ⟨s₂, o, st _ h1, h2⟩
theorem Way.to {tb : Tables} {K : Outcome → State → Prop} {A B : State} (st : Steps tb e below A B) (h : Way tb e below K B) : Way tb e below K A := by
  obtain ⟨s₂, o, h1, h2⟩ := h; exact ⟨s₂, o, st.trans h1, h2⟩
abbrev KQ (s : State) (Q : Option Value → Heap → List Loc → Prop) (C S : Nat) : Outcome → State → Prop := fun o s₂ => ∃ v L, o = .returned v ∧ Q v s₂.heap L ∧ FrameEnd s o s₂ L C S
theorem Way.ret {Q : Option Value → Heap → List Loc → Prop} {C S : Nat} {A : State} {v : Option Value} (X : Stand p l e R s m args below meth c T locs cells slots) (hlk : meth.locks = false) (hv : meth.sig.returnType = none → v = none)
    (hret : ∀ fs, (∀ (f : JFrame) (acts : List Action), f.method = m → f.locked = none → f.entered = [] → (doReturn e (T.setTop f) acts v).1 = T.setFrames fs) → Steps p.tables e below A (T.setFrames fs))
    (hQ : Q v T.heap locs) (hc : cells ≤ C) (hs : slots ≤ S) : Way p.tables e below (KQ s Q C S) A := by
  obtain ⟨fs, hr, hrun, hended, hW, hsame⟩ := X.leave hv hlk
  exact ⟨_, _, hret fs hr, hrun, hended, _, _, rfl, hQ, ⟨_, rfl⟩, hW, hsame.mono hc hs⟩
abbrev KQW (s : State) (Q : Option Value → Heap → List Loc → Prop) (C S : Nat) : Outcome → State → Prop := fun o s₂ => ∃ v L, o = .returned v ∧ Q v s₂.heap L ∧ ReturnedEndW s o s₂ L C S
theorem Way.retW {Q : Option Value → Heap → List Loc → Prop} {C S : Nat} {A : State} {v : Option Value} {vm1 : Vm} {n : Nat} (X : Stand p l e R (s.setVm vm1) m args below meth c T locs cells slots) (hS : s.Since vm1 n) (hn : n ≤ T.heap.size) (hlk : meth.locks = false) (hv : meth.sig.returnType = none → v = none)
    (hret : ∀ fs, (∀ (f : JFrame) (acts : List Action), f.method = m → f.locked = none → f.entered = [] → (doReturn e (T.setTop f) acts v).1 = T.setFrames fs) → Steps p.tables e below A (T.setFrames fs))
    (hQ : Q v T.heap locs) (hc : cells ≤ C) (hs : slots ≤ S) : Way p.tables e below (KQW s Q C S) A := by
  obtain ⟨fs, hr, hrun, hended, h1, h2, h3, h4⟩ := X.leaveW hS hn hv hlk
  exact ⟨_, _, hret fs hr, hrun, hended, _, _, rfl, hQ, h1, h2, h3, h4.mono hc hs⟩
abbrev KQH (s Z : State) (EL : List (String × Nat)) (Q : Option Value → Heap → List Loc → Prop) (C S : Nat) : Outcome → State → Prop := fun o s₂ => ∃ v L, o = .returned v ∧ Q v s₂.heap L ∧ CHr Z EL s.vm s.heap s₂.vm s₂.heap ∧ ReturnedEndW s o s₂ L C S
theorem Way.retH {Z : State} {a0 : Array Value} {EL : List (String × Nat)} {Q : Option Value → Heap → List Loc → Prop} {C S : Nat} {A : State} {v : Option Value} {vm1 : Vm} {n : Nat} {h h0 : Heap} (X : Stand p l e R (s.setVm vm1) m args below meth c T locs cells slots) (hS : s.Since vm1 n) (hn : n ≤ T.heap.size) (hZ : Z.Warmed39 vm1) (hEL : EW Z a0 EL) (hh : s.heap = h0) (eT : T.heap = h) (H : CHv Z EL vm1 h) (CH : CHr Z EL s.vm h0 vm1 h) (hlk : meth.locks = false) (hv : meth.sig.returnType = none → v = none)
    (hret : ∀ fs, (∀ (f : JFrame) (acts : List Action), f.method = m → f.locked = none → f.entered = [] → (doReturn e (T.setTop f) acts v).1 = T.setFrames fs) → Steps p.tables e below A (T.setFrames fs))
    (hQ : Q v T.heap locs) (hc : cells ≤ C) (hs : slots ≤ S) : Way p.tables e below (KQH s Z EL Q C S) A := by
  obtain ⟨fs, hr, hrun, hended, h1, h2, h3, h4⟩ := X.leaveW hS hn hv hlk
  refine ⟨_, _, hret fs hr, hrun, hended, _, _, rfl, hQ, ?_, h1, h2, h3, h4.mono hc hs⟩
  have B := CHv.at X hZ hEL H
  show CHr Z EL s.vm s.heap T.vm T.heap
  rw [hh, eT]; exact CH.trans B
theorem fldStart {Z : State} {args : Array Value} {t : Term} {a : Addr} {C n d : String} {k : Int32} (ev : t.eval args Z none [] Z = some (.ref a)) (h : (Cond.eq (.field t C n d) (.int k)).value args Z none Z [] = some true) : Fld Z Z.heap a C n d (.int k) := by
  refine Fld.start ?_
  have e1 : (Term.field t C n d).eval args Z none [] Z = Z.fieldOf? a C n d := fld_at ev
  simp only [Cond.value] at h
  rw [e1, show (Term.int k).eval args Z none [] Z = some (.int k) from rfl] at h
  cases hf : Z.fieldOf? a C n d with
  | none => simp [hf] at h
  | some w => cases w <;> simp [hf] at h ⊢; exact h
theorem envNe {Z : State} {args : Array Value} {t : Term} {v : Int32} (ev : t.eval args Z none [] Z = some (.int v)) (h : (Cond.not (.eq t (.int 0))).before args Z = true) : v ≠ 0 := by
  have h2 := Cond.before_iff.mp h
  intro q; subst q
  simp only [Cond.value] at h2
  rw [ev] at h2
  simp [Term.eval] at h2
theorem envRef {Z : State} {args : Array Value} {t : Term} (h : (Cond.isRef t).before args Z = true) : ∃ G, t.eval args Z none [] Z = some G ∧ G.isRef = true := by
  have h2 := Cond.before_iff.mp h
  cases ht : t.eval args Z none [] Z with
  | none => simp [Cond.value, ht] at h2
  | some w => exact ⟨w, rfl, by cases w <;> simp [Cond.value, ht] at h2 <;> rfl⟩
theorem own_getD {α : Type} {u : List α} {i : Nat} (d : α) (h : i < u.length) : u.getD i d = u[i] := by rw [List.getD_eq_getElem?_getD, List.getElem?_eq_getElem h]; rfl
theorem hpE {T : State} {h : Heap} {a : Addr} {c : Cell} (e : T.heap = h) (A : h[a]? = some c) : T.heap[a]? = some c := by rw [e]; exact A
theorem remB (x d : Int32) (D : Int) (hd : d.toInt = D) (h0 : 0 < D) : 0 ≤ ((x &&& 2147483647) % d).toInt ∧ ((x &&& 2147483647) % d).toInt < D := by
  have h1 := c_and x 2147483647 (by decide)
  rw [(c_irem (x &&& 2147483647) d D hd).1 h1.1]
  exact ⟨Int.emod_nonneg _ (by omega), Int.emod_lt_of_pos _ h0⟩
theorem cases3 {k : Int32} (h : 0 ≤ k.toInt ∧ k.toInt < 3) : k = 0 ∨ k = 1 ∨ k = 2 := by
  have q : k.toInt = 0 ∨ k.toInt = 1 ∨ k.toInt = 2 := by omega
  rcases q with q | q | q
  · exact Or.inl (Int32.toInt_inj.mp q)
  · exact Or.inr (Or.inl (Int32.toInt_inj.mp q))
  · exact Or.inr (Or.inr (Int32.toInt_inj.mp q))
theorem cases5 {k : Int32} (h : 0 ≤ k.toInt ∧ k.toInt < 5) : k = 0 ∨ k = 1 ∨ k = 2 ∨ k = 3 ∨ k = 4 := by
  have q : k.toInt = 0 ∨ k.toInt = 1 ∨ k.toInt = 2 ∨ k.toInt = 3 ∨ k.toInt = 4 := by omega
  rcases q with q | q | q | q | q
  · exact Or.inl (Int32.toInt_inj.mp q)
  · exact Or.inr (Or.inl (Int32.toInt_inj.mp q))
  · exact Or.inr (Or.inr (Or.inl (Int32.toInt_inj.mp q)))
  · exact Or.inr (Or.inr (Or.inr (Or.inl (Int32.toInt_inj.mp q))))
  · exact Or.inr (Or.inr (Or.inr (Or.inr (Int32.toInt_inj.mp q))))
theorem nfSel {s : State} {args : Array Value} {C : String} {y z : MethodName} (hyz : z.cls = y.cls) (hsel : (Cond.selects C z z).before args s = true) : NotFace s y := fun r0 h0 => by
  obtain ⟨c, r, m, -, -, hn, -, mk, hk, hni⟩ := Cond.selects_spec hsel
  have e1 := findClass_of_methodNamed h0
  have e2 := findClass_of_methodNamed hn
  rw [hyz, e1] at e2
  refine ⟨mk, ?_, hni⟩
  first | (rw [Option.some.inj e2]; exact hk) | (rw [← Option.some.inj e2]; exact hk)
theorem sameOwn {s : State} {args : Array Value} {C : String} {y z : MethodName} (hyz : z.cls = y.cls) (hsel : (Cond.selects C z z).before args s = true) (hinst : (Cond.instanceMethod y).before args s = true) (hy : y.cls ≠ "java/lang/invoke/MethodHandle" ∧ y.cls ≠ "java/lang/invoke/VarHandle") : (Cond.sameMethod y.cls y.cls y.name y.desc).before args s = true := by
  obtain ⟨mk, methM, hnamed, -⟩ := Cond.instanceMethod_spec hinst
  obtain ⟨kr, hk, hni⟩ := nfSel hyz hsel mk hnamed
  have hf := State.methodFound?_of_named hnamed hy
  have hc := findClass_of_methodNamed hnamed
  have hn2 : s.methodNamed? ⟨y.cls, y.name, y.desc⟩ = some mk := hnamed
  simp [Cond.before, Cond.holds, Cond.value, hc, hf, hn2, hk, hni]
theorem selPriv {s : State} {args : Array Value} {C : String} {y z : MethodName} (hyz : z.cls = y.cls) (hsel : (Cond.selects C z z).before args s = true) (hpriv : s.PrivateAt y) (hinst : (Cond.instanceMethod y).before args s = true) (hy : y.cls ≠ "java/lang/invoke/MethodHandle" ∧ y.cls ≠ "java/lang/invoke/VarHandle") : (Cond.selects y.cls y y).before args s = true := by
  obtain ⟨c, r, m, -, -, hn, -, mk, hk, hni⟩ := Cond.selects_spec hsel
  exact selects_self_of_private (by rw [← hyz]; exact findClass_of_methodNamed hn) hk hni hpriv hinst hy
theorem arrS {Z s : State} {h : Heap} {a : Addr} {cl : Cell} {ty : FieldType} (hZ : Z.Warmed39 s.vm) (A : Arr Z h a cl ty) : s.isArrayOf cl ty := State.isArrayOf_alike hZ.alike A.2.1
end Own
end Jvm.RoadKit
/- laws to paste: Road.backV, Road.lenW, Road.eqW, Road.empW, Road.codOf (cut by pick.py; bodies as the Statement names them) -/
namespace Jvm.Pilot.@@N@@
namespace StrChars
open Jvm Sem ClassFile Op Lib Jvm.Stand Jvm.Free.XT Jvm.Free.ALB Jvm.Free.JM Jvm.Free
open Jvm.Lib.Cold (StaticIs)
/-- a char array whose places are chars -/
def Ch (a : Addr) (A : Cell) (U : State) : Prop := Arr .char a A U ∧ Typed .char A
theorem Ch.mv {a : Addr} {A : Cell} {U U' : State} (h : Ch a A U) (hal : U.vm.Alike U'.vm) (hh : U'.heap = U.heap) : Ch a A U' := ⟨h.1.mv hal hh, h.2⟩
theorem Ch.keep {a : Addr} {A : Cell} {U U' : State} (h : Ch a A U) (hal : U.vm.Alike U'.vm) (hk : U'.heap[a]? = some A) : Ch a A U' := ⟨h.1.keep hal hk, h.2⟩
/-- what place i of a char[]'s cell holds -/
def cv (A : Cell) (i : Nat) : Int32 := match A.slots[i]? with | some (.int x) => x | _ => 0
theorem Ch.get {a : Addr} {A : Cell} {U : State} (h : Ch a A U) {i : Nat} (hi : i < A.slots.size) : A.slots[i]? = some (.int (cv A i)) := by
  have e := Array.getElem?_eq_getElem hi
  have f := h.2 i _ e
  unfold cv; rw [e]
  generalize A.slots[i] = v at f
  cases v <;> simp [fits] at f ⊢
/-- the byte that i2b leaves of a char -/
def lo8 (x : Int32) : Int32 := x.toInt8.toInt32
theorem fits_lo8 (y : Int32) : fits .byte (.int (lo8 y)) = true := by
  have h1 := y.toInt8.le_toInt
  have h2 := y.toInt8.toInt_lt
  simp only [lo8, fits, Bool.and_eq_true, decide_eq_true_eq, Int32.le_iff_toInt_le, Int8.toInt_toInt32, show (-128 : Int32).toInt = -128 from by decide, show (127 : Int32).toInt = 127 from by decide]
  omega
/-- A' is A but that each place j of lo .. hi - 1 holds f j -/
def Laid (A A' : Cell) (lo hi : Nat) (f : Nat → Value) : Prop := A'.cls = A.cls ∧ A'.vm = A.vm ∧ A'.slots.size = A.slots.size ∧ ∀ i, A'.slots[i]? = if lo ≤ i ∧ i < hi then some (f i) else A.slots[i]?
theorem Laid.zero (A : Cell) (lo : Nat) (f : Nat → Value) : Laid A A lo (lo + 0) f := ⟨rfl, rfl, rfl, fun i => by rw [if_neg (by omega)]⟩
theorem Laid.step {A Ak : Cell} {lo k : Nat} {f : Nat → Value} {v : Value} (h : Laid A Ak lo k f) (hlo : lo ≤ k) (hk : k < Ak.slots.size) (hv : v = f k) : Laid A (Ak.setSlot k v) lo (k + 1) f := by
  refine ⟨h.1, h.2.1, by simpa [Cell.setSlot] using h.2.2.1, fun i => ?_⟩
  by_cases e : k = i
  · subst e; rw [Cell.slots_setSlot_self v hk, if_pos (by omega), hv]
  · rw [Cell.slots_setSlot_ne v e, h.2.2.2 i]
    by_cases q : lo ≤ i ∧ i < k
    · rw [if_pos q, if_pos (by omega)]
    · rw [if_neg q, if_neg (by omega)]
def U16 : String := "java/lang/StringUTF16"
namespace Cmp5
def yN : MethodName := ⟨"java/lang/StringUTF16", "compress", "([CI[BII)I"⟩
abbrev yB : ByteArray := jdk_52_method_21_code
theorem d0 : decode yB 0 = .ok (.iconst 0, 1) := by decide +kernel
theorem d1 : decode yB 1 = .ok (.istore 5, 2) := by decide +kernel
theorem d3 : decode yB 3 = .ok (.iload 5, 2) := by decide +kernel
theorem d5 : decode yB 5 = .ok (.iload 4, 2) := by decide +kernel
theorem d7 : decode yB 7 = .ok (.if_icmp (.ge) 37, 3) := by decide +kernel
theorem d10 : decode yB 10 = .ok (.aload_n 0, 1) := by decide +kernel
theorem d11 : decode yB 11 = .ok (.iload_n 1, 1) := by decide +kernel
theorem d12 : decode yB 12 = .ok (.caload, 1) := by decide +kernel
theorem d13 : decode yB 13 = .ok (.istore 6, 2) := by decide +kernel
theorem d15 : decode yB 15 = .ok (.iload 6, 2) := by decide +kernel
theorem d17 : decode yB 17 = .ok (.sipush 255, 3) := by decide +kernel
theorem d20 : decode yB 20 = .ok (.if_icmp (.le) 6, 3) := by decide +kernel
theorem d26 : decode yB 26 = .ok (.aload_n 2, 1) := by decide +kernel
theorem d27 : decode yB 27 = .ok (.iload_n 3, 1) := by decide +kernel
theorem d28 : decode yB 28 = .ok (.iload 6, 2) := by decide +kernel
theorem d30 : decode yB 30 = .ok (.i2b, 1) := by decide +kernel
theorem d31 : decode yB 31 = .ok (.bastore, 1) := by decide +kernel
theorem d32 : decode yB 32 = .ok (.iinc 1 1, 3) := by decide +kernel
theorem d35 : decode yB 35 = .ok (.iinc 3 1, 3) := by decide +kernel
theorem d38 : decode yB 38 = .ok (.iinc 5 1, 3) := by decide +kernel
theorem d41 : decode yB 41 = .ok (.goto (-38), 3) := by decide +kernel
theorem d44 : decode yB 44 = .ok (.iload 4, 2) := by decide +kernel
theorem d46 : decode yB 46 = .ok (.ireturn, 1) := by decide +kernel
def site : List Cond := []
def tab : Cond := tabOf yN yB 7 (some .int) site
def P (b : Addr) (A : Cell) (d : Addr) (B : Cell) (o q len : Nat) (args : Array Value) (s : State) : Prop := args = #[.ref b, .int (Int32.ofNat o), .ref d, .int (Int32.ofNat q), .int (Int32.ofNat len)] ∧ Ch b A s ∧ Arr .byte d B s ∧ b ≠ d ∧ o + len ≤ A.slots.size ∧ q + len ≤ B.slots.size ∧ ∀ i, i < len → ¬ 255 < cv A (o + i)
def E (b : Addr) (A : Cell) (d : Addr) (B : Cell) (o q len : Nat) (r : Option Value) (s u : State) : Prop := r = some (.int (Int32.ofNat len)) ∧ ∃ B', Put d B' s u ∧ Laid B B' q (q + len) (fun j => Value.int (lo8 (cv A (o + (j - q)))))
/-- no char of the range above 255: len; the places written hold each char's low byte -/
theorem law (l : Launch) (b : Addr) (A : Cell) (d : Addr) (B : Cell) (o q len : Nat) : Law l yN 5 5 0 0 yB 7 (some .int) site (P b A d B o q len) (E b A d B o q len) (copyLocs d q len) 0 0 := by
  refine Law.of_walk (plainFor_of_name (by decide +kernel)) (by decide +kernel) (by decide +kernel) (by decide) (fun _ _ h => by rw [h.1]; rfl) (fun _ U U' hal hh h => ⟨h.1, h.2.1.mv hal hh, h.2.2.1.mv hal hh, h.2.2.2⟩) (fun r U U' V V' h1 hal h2 h => ⟨h.1, h.2.elim fun B' q => ⟨B', q.1.mv h1 h2, q.2⟩⟩) ?_
  intro p e s m args below meth c s₁ X0 hexec hbytes hml hret hlk hnm hown hh0 W hP
  obtain ⟨rfl, hA, hB, hne, l1, l2, hp⟩ := hP
  have c1 : Steps p.tables e below (s₁.setTop (entryFrame m #[.ref b, .int (Int32.ofNat o), .ref d, .int (Int32.ofNat q), .int (Int32.ofNat len)] 7)) (s₁.setTop (mkF m 0 #[.val (.ref b), .val (.int (Int32.ofNat o)), .val (.ref d), .val (.int (Int32.ofNat q)), .val (.int (Int32.ofNat len)), .unset, .unset] [])) := entry rfl
  have hA0 := hA.1.mv X0.warmed.alike hh0
  have hB0 := hB.mv X0.warmed.alike hh0
  have a31 := hA.1.2.2.2
  have c2 : Steps p.tables e below (s₁.setTop (entryFrame m #[.ref b, .int (Int32.ofNat o), .ref d, .int (Int32.ofNat q), .int (Int32.ofNat len)] 7)) (s₁.setTop (mkF m 3 #[.val (.ref b), .val (.int (Int32.ofNat o)), .val (.ref d), .val (.int (Int32.ofNat q)), .val (.int (Int32.ofNat len)), .val (.int 0), .unset] [])) := c1.trans (by
    refine iconstV X0.here hexec rfl 0 (hb hbytes d0) (by decide) ?_
    refine XS.istore X0.here hexec rfl (hb hbytes d1) rfl rfl ?_
    exact Steps.refl _)
  have loop : ∀ (r i : Nat), i + r = len → ∀ (z : Slot), (z = .unset ∨ ∃ w, z = .val w ∧ w.category = 1) → ∀ (Tl : State) (Bk : Cell), Stand p l e { frames := 0, locals := 0, cells := 0, slots := 0 } s m #[.ref b, .int (Int32.ofNat o), .ref d, .int (Int32.ofNat q), .int (Int32.ofNat len)] below meth c Tl ([] ++ copyLocs d q i) 0 0 → Put d Bk s₁ Tl → Laid B Bk q (q + i) (fun j => Value.int (lo8 (cv A (o + (j - q))))) →
      Steps p.tables e below (s₁.setTop (entryFrame m #[.ref b, .int (Int32.ofNat o), .ref d, .int (Int32.ofNat q), .int (Int32.ofNat len)] 7)) (Tl.setTop (mkF m 3 #[.val (.ref b), .val (.int (Int32.ofNat (o + i))), .val (.ref d), .val (.int (Int32.ofNat (q + i))), .val (.int (Int32.ofNat len)), .val (.int (Int32.ofNat i)), z] [])) → ∃ (T' : State) (B' : Cell) (z' : Slot), Stand p l e { frames := 0, locals := 0, cells := 0, slots := 0 } s m #[.ref b, .int (Int32.ofNat o), .ref d, .int (Int32.ofNat q), .int (Int32.ofNat len)] below meth c T' ([] ++ copyLocs d q len) 0 0 ∧ Put d B' s₁ T' ∧ Laid B B' q (q + len) (fun j => Value.int (lo8 (cv A (o + (j - q))))) ∧
      Steps p.tables e below (s₁.setTop (entryFrame m #[.ref b, .int (Int32.ofNat o), .ref d, .int (Int32.ofNat q), .int (Int32.ofNat len)] 7)) (T'.setTop (mkF m 3 #[.val (.ref b), .val (.int (Int32.ofNat (o + len))), .val (.ref d), .val (.int (Int32.ofNat (q + len))), .val (.int (Int32.ofNat len)), .val (.int (Int32.ofNat len)), z'] [])) := by
    intro r
    induction r with
    | zero =>
      intro i hi z hz Tl Bk Xl pl fl cl
      have hil : i = len := by omega
      rw [hil] at Xl fl cl
      exact ⟨Tl, Bk, z, Xl, pl, fl, cl⟩
    | succ r ih =>
      intro i hi z hz Tl Bk Xl pl fl cl
      have all := X0.warmed.alike.symm.trans Xl.warmed.alike
      have hAl := hA0.keep all (pl.other hne hA0.1)
      have hBk := hB0.like all pl.1 fl.1 fl.2.1 fl.2.2.1
      have hlt : q + i < Bk.slots.size := by rw [fl.2.2.1]; omega
      have c3 : Steps p.tables e below (s₁.setTop (entryFrame m #[.ref b, .int (Int32.ofNat o), .ref d, .int (Int32.ofNat q), .int (Int32.ofNat len)] 7)) (Tl.setTop (mkF m 12 #[.val (.ref b), .val (.int (Int32.ofNat (o + i))), .val (.ref d), .val (.int (Int32.ofNat (q + i))), .val (.int (Int32.ofNat len)), .val (.int (Int32.ofNat i)), z] [.int (Int32.ofNat (o + i)), .ref b])) := cl.trans (by
        refine XS.iload Xl.here hexec rfl (hb hbytes d3) rfl ?_
        refine XS.iload Xl.here hexec rfl (hb hbytes d5) rfl ?_
        refine XS.icmpNo Xl.here hexec rfl (hb hbytes d7) rfl (ii_ge_f (lt32 (by omega) (by omega))) ?_
        refine XS.aloadN Xl.here hexec rfl (hb hbytes d10) rfl rfl ?_
        refine XS.iloadN Xl.here hexec rfl (hb hbytes d11) rfl ?_
        exact Steps.refl _)
      have c4 : Steps p.tables e below (s₁.setTop (entryFrame m #[.ref b, .int (Int32.ofNat o), .ref d, .int (Int32.ofNat q), .int (Int32.ofNat len)] 7)) (Tl.setTop (mkF m 13 #[.val (.ref b), .val (.int (Int32.ofNat (o + i))), .val (.ref d), .val (.int (Int32.ofNat (q + i))), .val (.int (Int32.ofNat len)), .val (.int (Int32.ofNat i)), z] [.int (cv A (o + i))])) := c3.trans (by
        refine Xl.aget hexec hAl rfl (hA.get (i := o + i) (by omega)) rfl rfl (hb hbytes d12) ?_
        exact Steps.refl _)
      have c5 : Steps p.tables e below (s₁.setTop (entryFrame m #[.ref b, .int (Int32.ofNat o), .ref d, .int (Int32.ofNat q), .int (Int32.ofNat len)] 7)) (Tl.setTop (mkF m 15 #[.val (.ref b), .val (.int (Int32.ofNat (o + i))), .val (.ref d), .val (.int (Int32.ofNat (q + i))), .val (.int (Int32.ofNat len)), .val (.int (Int32.ofNat i)), .val (.int (cv A (o + i)))] [])) := c4.trans (by
        refine XS.istoreS Xl.here hexec rfl (hb hbytes d13) rfl rfl hz ?_
        exact Steps.refl _)
      have c6 : Steps p.tables e below (s₁.setTop (entryFrame m #[.ref b, .int (Int32.ofNat o), .ref d, .int (Int32.ofNat q), .int (Int32.ofNat len)] 7)) (Tl.setTop (mkF m 31 #[.val (.ref b), .val (.int (Int32.ofNat (o + i))), .val (.ref d), .val (.int (Int32.ofNat (q + i))), .val (.int (Int32.ofNat len)), .val (.int (Int32.ofNat i)), .val (.int (cv A (o + i)))] [.int (lo8 (cv A (o + i))), .int (Int32.ofNat (q + i)), .ref d])) := c5.trans (by
        refine XS.iload Xl.here hexec rfl (hb hbytes d15) rfl ?_
        refine sipushV Xl.here hexec rfl 255 (hb hbytes d17) (by decide) ?_
        refine XS.icmpYes Xl.here hexec rfl (pc0 := 20) rfl (hb hbytes d20) rfl (ii_le_t (hp i (by omega))) (by decide) rfl ?_
        refine XS.aloadN Xl.here hexec rfl (hb hbytes d26) rfl rfl ?_
        refine XS.iloadN Xl.here hexec rfl (hb hbytes d27) rfl ?_
        refine XS.iload Xl.here hexec rfl (hb hbytes d28) rfl ?_
        refine i2b Xl.here hexec rfl (hb hbytes d30) rfl ?_
        exact Steps.refl _)
      obtain ⟨T7, X7, p7, st7⟩ := Xl.aput hexec hBk rfl hlt rfl (fits_lo8 (cv A (o + i))) (g := (mkF m 31 #[.val (.ref b), .val (.int (Int32.ofNat (o + i))), .val (.ref d), .val (.int (Int32.ofNat (q + i))), .val (.int (Int32.ofNat len)), .val (.int (Int32.ofNat i)), .val (.int (cv A (o + i)))] [.int (lo8 (cv A (o + i))), .int (Int32.ofNat (q + i)), .ref d])) rfl (rest := []) rfl (hb hbytes d31)
      have c8 : Steps p.tables e below (s₁.setTop (entryFrame m #[.ref b, .int (Int32.ofNat o), .ref d, .int (Int32.ofNat q), .int (Int32.ofNat len)] 7)) (T7.setTop (mkF m 32 #[.val (.ref b), .val (.int (Int32.ofNat (o + i))), .val (.ref d), .val (.int (Int32.ofNat (q + i))), .val (.int (Int32.ofNat len)), .val (.int (Int32.ofNat i)), .val (.int (cv A (o + i)))] [])) := c6.trans (st7 _ (Steps.refl _))
      have c9 : Steps p.tables e below (s₁.setTop (entryFrame m #[.ref b, .int (Int32.ofNat o), .ref d, .int (Int32.ofNat q), .int (Int32.ofNat len)] 7)) (T7.setTop (mkF m 3 #[.val (.ref b), .val (.int (Int32.ofNat (o + i) + 1)), .val (.ref d), .val (.int (Int32.ofNat (q + i) + 1)), .val (.int (Int32.ofNat len)), .val (.int (Int32.ofNat i + 1)), .val (.int (cv A (o + i)))] [])) := c8.trans (by
        refine iincV X7.here hexec rfl 1 (hb hbytes d32) (by decide) rfl rfl ?_
        refine iincV X7.here hexec rfl 1 (hb hbytes d35) (by decide) rfl rfl ?_
        refine iincV X7.here hexec rfl 1 (hb hbytes d38) (by decide) rfl rfl ?_
        refine XS.goto X7.here hexec rfl (pc0 := 41) rfl (hb hbytes d41) (by decide) rfl ?_
        exact Steps.refl _)
      have c10 : Steps p.tables e below (s₁.setTop (entryFrame m #[.ref b, .int (Int32.ofNat o), .ref d, .int (Int32.ofNat q), .int (Int32.ofNat len)] 7)) (T7.setTop (mkF m 3 #[.val (.ref b), .val (.int (Int32.ofNat (o + (i + 1)))), .val (.ref d), .val (.int (Int32.ofNat (q + (i + 1)))), .val (.int (Int32.ofNat len)), .val (.int (Int32.ofNat (i + 1))), .val (.int (cv A (o + i)))] [])) := by
        have := c9
        rw [succ32, succ32, succ32] at this
        exact this
      exact ih (i + 1) (by omega) _ (Or.inr ⟨_, rfl, rfl⟩) T7 _ (by rw [copyLocs_step, ← List.append_assoc]; exact X7) (pl.trans p7) (fl.step (by omega) hlt (by simp)) c10
  obtain ⟨T9, B9, z9, X9, p9, f9, g9⟩ := loop len 0 (by omega) .unset (Or.inl rfl) s₁ B (by simpa [copyLocs] using X0) ⟨hB0.1, fun _ _ => rfl, rfl⟩ (Laid.zero _ _ _) c2
  have c11 : Steps p.tables e below (s₁.setTop (entryFrame m #[.ref b, .int (Int32.ofNat o), .ref d, .int (Int32.ofNat q), .int (Int32.ofNat len)] 7)) (T9.setTop (mkF m 46 #[.val (.ref b), .val (.int (Int32.ofNat (o + len))), .val (.ref d), .val (.int (Int32.ofNat (q + len))), .val (.int (Int32.ofNat len)), .val (.int (Int32.ofNat len)), z9] [.int (Int32.ofNat len)])) := g9.trans (by
    refine XS.iload X9.here hexec rfl (hb hbytes d3) rfl ?_
    refine XS.iload X9.here hexec rfl (hb hbytes d5) rfl ?_
    refine XS.icmpYes X9.here hexec rfl (pc0 := 7) rfl (hb hbytes d7) rfl (ii_ge_t (nlt32 (by omega) (Nat.le_refl _))) (by decide) rfl ?_
    refine XS.iload X9.here hexec rfl (hb hbytes d44) rfl ?_
    exact Steps.refl _)
  exact ⟨T9, some (.int (Int32.ofNat len)), _, _, _, X9, by simp, rfl, rfl, (fun h => by cases h), ⟨rfl, B9, p9.from hh0, f9⟩, fun fs hl => c11.trans (X9.ireturnOut hexec hret rfl (Or.inl rfl) (hb hbytes d46) hl)⟩
end Cmp5
namespace Cmp3
def yN : MethodName := ⟨"java/lang/StringUTF16", "compress", "([CII)[B"⟩
abbrev yB : ByteArray := jdk_52_method_16_code
theorem d0 : decode yB 0 = .ok (.iload_n 2, 1) := by decide +kernel
theorem d1 : decode yB 1 = .ok (.newarray .byte, 2) := by decide +kernel
theorem d3 : decode yB 3 = .ok (.astore_n 3, 1) := by decide +kernel
theorem d4 : decode yB 4 = .ok (.aload_n 0, 1) := by decide +kernel
theorem d5 : decode yB 5 = .ok (.iload_n 1, 1) := by decide +kernel
theorem d6 : decode yB 6 = .ok (.aload_n 3, 1) := by decide +kernel
theorem d7 : decode yB 7 = .ok (.iconst 0, 1) := by decide +kernel
theorem d8 : decode yB 8 = .ok (.iload_n 2, 1) := by decide +kernel
theorem d9 : decode yB 9 = .ok (.invokestatic 115, 3) := by decide +kernel
theorem d12 : decode yB 12 = .ok (.istore 4, 2) := by decide +kernel
theorem d14 : decode yB 14 = .ok (.iload 4, 2) := by decide +kernel
theorem d16 : decode yB 16 = .ok (.iload_n 2, 1) := by decide +kernel
theorem d17 : decode yB 17 = .ok (.if_icmp (.eq) 40, 3) := by decide +kernel
theorem d57 : decode yB 57 = .ok (.aload_n 3, 1) := by decide +kernel
theorem d58 : decode yB 58 = .ok (.areturn, 1) := by decide +kernel
def site : List Cond := [.arrayClass .byte, Cmp5.tab] ++ staticW U16 115 Cmp5.yN
def tab : Cond := tabOf yN yB 6 (some (.array .byte)) site
def P (b : Addr) (A : Cell) (o len : Nat) (args : Array Value) (s : State) : Prop := args = #[.ref b, .int (Int32.ofNat o), .int (Int32.ofNat len)] ∧ Ch b A s ∧ o + len ≤ A.slots.size ∧ len ≤ 536870912 ∧ ∀ i, i < len → ¬ 255 < cv A (o + i)
def E (b : Addr) (A : Cell) (o len : Nat) (r : Option Value) (s u : State) : Prop := NewArr .byte "[B" len (fun j => .int (lo8 (cv A (o + j)))) r s u ∧ u.heap.size = s.heap.size + 1
/-- no char of the range above 255: a new byte[] of their low bytes -/
theorem law (l : Launch) (b : Addr) (A : Cell) (o len : Nat) : Law l yN 3 3 1 18 yB 6 (some (.array .byte)) site (P b A o len) (E b A o len) [] 1 len := by
  refine Law.of_walk (plainFor_of_name (by decide +kernel)) (by decide +kernel) (by decide +kernel) (by decide) (fun _ _ h => by rw [h.1]; rfl) (fun _ U U' hal hh h => ⟨h.1, h.2.1.mv hal hh, h.2.2⟩) (fun r U U' V V' h1 hal h2 h => ⟨NewArr.mv r U U' V V' h1 hal h2 h.1, by rw [h1, h2]; exact h.2⟩) ?_
  intro p e s m args below meth c s₁ X0 hexec hbytes hml hret hlk hnm hown hh0 W hP
  obtain ⟨rfl, hA, l1, l2, hp⟩ := hP
  have a31 := hA.1.2.2.2
  have c1 : Steps p.tables e below (s₁.setTop (entryFrame m #[.ref b, .int (Int32.ofNat o), .int (Int32.ofNat len)] 6)) (s₁.setTop (mkF m 0 #[.val (.ref b), .val (.int (Int32.ofNat o)), .val (.int (Int32.ofNat len)), .unset, .unset, .unset] [])) := entry rfl
  have c2 : Steps p.tables e below (s₁.setTop (entryFrame m #[.ref b, .int (Int32.ofNat o), .int (Int32.ofNat len)] 6)) (s₁.setTop (mkF m 1 #[.val (.ref b), .val (.int (Int32.ofNat o)), .val (.int (Int32.ofNat len)), .unset, .unset, .unset] [.int (Int32.ofNat len)])) := c1.trans (by
    refine XS.iloadN X0.here hexec rfl (hb hbytes d0) rfl ?_
    exact Steps.refl _)
  obtain ⟨T3, B3, X3, ba3, bs3, bv3, bh3, bf3, st3⟩ := X0.anew hexec (atype := .byte) (wk W (.arrayClass .byte)) rfl (by show len * 1 ≤ _; omega) (by omega) (g := (mkF m 1 #[.val (.ref b), .val (.int (Int32.ofNat o)), .val (.int (Int32.ofNat len)), .unset, .unset, .unset] [.int (Int32.ofNat len)])) rfl (hb hbytes d1) (rest := []) rfl (Nat.le_refl _) (by show 0 + len ≤ len; omega)
  rw [hh0] at ba3 st3
  have kp3 : XT.Kept s T3 := (XT.Kept.of_eq hh0).push bh3
  have hA3 := hA.keep X3.warmed.alike (kp3 _ _ hA.1.1)
  have hne : b ≠ s.heap.size := hA.1.ne
  have c4 : Steps p.tables e below (s₁.setTop (entryFrame m #[.ref b, .int (Int32.ofNat o), .int (Int32.ofNat len)] 6)) (T3.setTop (mkF m 3 #[.val (.ref b), .val (.int (Int32.ofNat o)), .val (.int (Int32.ofNat len)), .unset, .unset, .unset] [.ref s.heap.size])) := c2.trans (st3 _ (Steps.refl _))
  have c5 : Steps p.tables e below (s₁.setTop (entryFrame m #[.ref b, .int (Int32.ofNat o), .int (Int32.ofNat len)] 6)) (T3.setTop (mkF m 9 #[.val (.ref b), .val (.int (Int32.ofNat o)), .val (.int (Int32.ofNat len)), .val (.ref s.heap.size), .unset, .unset] [.int (Int32.ofNat len), .int 0, .ref s.heap.size, .int (Int32.ofNat o), .ref b])) := c4.trans (by
    refine XS.astoreN X3.here hexec rfl (hb hbytes d3) rfl rfl rfl ?_
    refine XS.aloadN X3.here hexec rfl (hb hbytes d4) rfl rfl ?_
    refine XS.iloadN X3.here hexec rfl (hb hbytes d5) rfl ?_
    refine XS.aloadN X3.here hexec rfl (hb hbytes d6) rfl rfl ?_
    refine iconstV X3.here hexec rfl 0 (hb hbytes d7) (by decide) ?_
    refine XS.iloadN X3.here hexec rfl (hb hbytes d8) rfl ?_
    exact Steps.refl _)
  obtain ⟨v6, T6, X6, E6, g6⟩ := X3.callS hexec (Cmp5.law l b A s.heap.size B3 o 0 len) hown (wks W (staticW U16 115 Cmp5.yN)) (wk W Cmp5.tab) (W := 0) (Nat.le_of_ble_eq_true rfl) (Nat.le_of_ble_eq_true rfl) (Nat.le_refl _) (by show 0 + len + 0 ≤ len; omega) (g := (mkF m 9 #[.val (.ref b), .val (.int (Int32.ofNat o)), .val (.int (Int32.ofNat len)), .val (.ref s.heap.size), .unset, .unset] [.int (Int32.ofNat len), .int (Int32.ofNat 0), .ref s.heap.size, .int (Int32.ofNat o), .ref b])) rfl (by rw [hml]; rfl) c5 (argsL := [.ref b, .int (Int32.ofNat o), .ref s.heap.size, .int (Int32.ofNat 0), .int (Int32.ofNat len)]) (rest := []) rfl rfl (by show 2 * 0 + 0 ≤ _; decide) (hb hbytes d9) (⟨rfl, hA3, ba3, hne, l1, by rw [bs3]; simp, hp⟩)
  obtain ⟨rfl, B6, p6, f6⟩ := E6
  have c7 : Steps p.tables e below (s₁.setTop (entryFrame m #[.ref b, .int (Int32.ofNat o), .int (Int32.ofNat len)] 6)) (T6.setTop (mkF m 12 #[.val (.ref b), .val (.int (Int32.ofNat o)), .val (.int (Int32.ofNat len)), .val (.ref s.heap.size), .unset, .unset] [.int (Int32.ofNat len)])) := g6
  have c8 : Steps p.tables e below (s₁.setTop (entryFrame m #[.ref b, .int (Int32.ofNat o), .int (Int32.ofNat len)] 6)) (T6.setTop (mkF m 58 #[.val (.ref b), .val (.int (Int32.ofNat o)), .val (.int (Int32.ofNat len)), .val (.ref s.heap.size), .val (.int (Int32.ofNat len)), .unset] [.ref s.heap.size])) := c7.trans (by
    refine XS.istore X6.here hexec rfl (hb hbytes d12) rfl rfl ?_
    refine XS.iload X6.here hexec rfl (hb hbytes d14) rfl ?_
    refine XS.iloadN X6.here hexec rfl (hb hbytes d16) rfl ?_
    refine XS.icmpYes X6.here hexec rfl (pc0 := 17) rfl (hb hbytes d17) rfl (ii_eq_t rfl) (by decide) rfl ?_
    refine XS.aloadN X6.here hexec rfl (hb hbytes d57) rfl rfl ?_
    exact Steps.refl _)
  have X8 := X6.wide (L' := []) (cells' := 1) (slots' := len) (fun x hx hlt => by
    simp only [List.nil_append, copyLocs, List.mem_map, List.mem_range] at hx
    obtain ⟨i, -, rfl⟩ := hx
    exact absurd hlt (Nat.lt_irrefl _)) (Nat.le_refl _) (by omega)
  exact ⟨T6, some (.ref s.heap.size), _, _, _, X8, rfl, rfl, rfl, (fun h => by cases h), ⟨⟨rfl, B6, ba3.like (X3.warmed.alike.symm.trans X6.warmed.alike) p6.1 f6.1 f6.2.1 f6.2.2.1, f6.2.1.trans bv3, by rw [X6.warmed.alike.findClass, f6.1]; exact bf3, by rw [f6.2.2.1, bs3]; simp, fun j hj => by rw [f6.2.2.2 j, if_pos (by omega)]; rfl, kp3.put p6 (Nat.le_refl _)⟩, by rw [p6.2.2, bh3, hh0]; simp⟩, fun fs hl => c8.trans (X8.areturnOut hexec rfl hret rfl (hb hbytes d58) hl)⟩
end Cmp3
namespace CodL
def yN : MethodName := ⟨"java/lang/StringUTF16", "coderFromArrayLen", "([BI)B"⟩
abbrev yB : ByteArray := jdk_52_method_15_code
theorem d0 : decode yB 0 = .ok (.iload_n 1, 1) := by decide +kernel
theorem d1 : decode yB 1 = .ok (.aload_n 0, 1) := by decide +kernel
theorem d2 : decode yB 2 = .ok (.arraylength, 1) := by decide +kernel
theorem d3 : decode yB 3 = .ok (.isub, 1) := by decide +kernel
theorem d4 : decode yB 4 = .ok (.bipush 31, 2) := by decide +kernel
theorem d6 : decode yB 6 = .ok (.iushr, 1) := by decide +kernel
theorem d7 : decode yB 7 = .ok (.i2b, 1) := by decide +kernel
theorem d8 : decode yB 8 = .ok (.ireturn, 1) := by decide +kernel
def site : List Cond := []
def tab : Cond := tabOf yN yB 2 (some .byte) site
def P (d : Addr) (B : Cell) (args : Array Value) (s : State) : Prop := args = #[.ref d, .int (Int32.ofNat B.slots.size)] ∧ Arr .byte d B s
def E (r : Option Value) (s u : State) : Prop := XT.PureE (some (.int 0)) r s u
/-- an array as long as the number of chars: LATIN1 -/
theorem law (l : Launch) (d : Addr) (B : Cell) : Law l yN 2 2 0 0 yB 2 (some .byte) site (P d B) E [] 0 0 := by
  refine Law.of_walk (plainFor_of_name (by decide +kernel)) (by decide +kernel) (by decide +kernel) (by decide) (fun _ _ h => by rw [h.1]; rfl) (fun _ U U' hal hh h => ⟨h.1, h.2.mv hal hh⟩) (fun r U U' V V' h1 hal h2 h => XT.PureE.mv r U U' V V' h1 hal h2 h) ?_
  intro p e s m args below meth c s₁ X0 hexec hbytes hml hret hlk hnm hown hh0 W hP
  obtain ⟨rfl, hB⟩ := hP
  have hB0 := hB.mv X0.warmed.alike hh0
  have c1 : Steps p.tables e below (s₁.setTop (entryFrame m #[.ref d, .int (Int32.ofNat B.slots.size)] 2)) (s₁.setTop (mkF m 0 #[.val (.ref d), .val (.int (Int32.ofNat B.slots.size))] [])) := entry rfl
  have c2 : Steps p.tables e below (s₁.setTop (entryFrame m #[.ref d, .int (Int32.ofNat B.slots.size)] 2)) (s₁.setTop (mkF m 2 #[.val (.ref d), .val (.int (Int32.ofNat B.slots.size))] [.ref d, .int (Int32.ofNat B.slots.size)])) := c1.trans (by
    refine XS.iloadN X0.here hexec rfl (hb hbytes d0) rfl ?_
    refine XS.aloadN X0.here hexec rfl (hb hbytes d1) rfl rfl ?_
    exact Steps.refl _)
  have c3 : Steps p.tables e below (s₁.setTop (entryFrame m #[.ref d, .int (Int32.ofNat B.slots.size)] 2)) (s₁.setTop (mkF m 8 #[.val (.ref d), .val (.int (Int32.ofNat B.slots.size))] [.int (lo8 (ushr (Int32.ofNat B.slots.size - Int32.ofNat B.slots.size) 31))])) := c2.trans (by
    refine X0.alen hexec hB0 rfl rfl (hb hbytes d2) ?_
    refine XS.isub X0.here hexec rfl (hb hbytes d3) rfl ?_
    refine bipushV X0.here hexec rfl 31 (hb hbytes d4) (by decide) ?_
    refine iushr X0.here hexec rfl (hb hbytes d6) rfl ?_
    refine i2b X0.here hexec rfl (hb hbytes d7) rfl ?_
    exact Steps.refl _)
  have e0 : lo8 (ushr (Int32.ofNat B.slots.size - Int32.ofNat B.slots.size) 31) = 0 := by rw [Int32.sub_self]; decide
  rw [e0] at c3
  exact ⟨s₁, some (.int 0), _, _, _, X0, rfl, rfl, rfl, (fun h => by cases h), ⟨rfl, hh0⟩, fun fs hl => c3.trans (X0.ireturnOut hexec hret rfl (Or.inr (Or.inr (Or.inl rfl))) (hb hbytes d8) hl)⟩
end CodL
/-- the String at a is Latin-1 over a new byte[] (the heap's one new cell): the low bytes of the len chars of A from o on; every cell but a is kept -/
def Got (a : Addr) (D : Cell) (fV fC : Field) (A : Cell) (o len : Nat) (r : Option Value) (s u : State) : Prop := r = none ∧ ∃ D' V : Cell, Blank "java/lang/String" a D' u ∧ Same D D' [fV.slot, fC.slot] ∧ D'.slots[fV.slot]? = some (.ref s.heap.size) ∧ D'.slots[fC.slot]? = some (.int 0) ∧ Arr .byte s.heap.size V u ∧ V.vm = .none ∧ u.vm.findClass "[B" = some V.cls ∧ V.slots.size = len ∧ (∀ j, j < len → V.slots[j]? = some (.int (lo8 (cv A (o + j))))) ∧ (∀ (y : Addr) (c : Cell), y ≠ a → s.heap[y]? = some c → u.heap[y]? = some c) ∧ u.heap.size = s.heap.size + 1
theorem Got.mv {a : Addr} {D A : Cell} {fV fC : Field} {o len : Nat} : ∀ r (U U' V V' : State), U'.heap = U.heap → V.vm.Alike V'.vm → V'.heap = V.heap → Got a D fV fC A o len r U V → Got a D fV fC A o len r U' V' :=
  fun r U U' V V' h1 hal h2 ⟨e0, D', X, a1, a2, a3, a4, a5, a6, a7, a8, a9, a10, a11⟩ => ⟨e0, D', X, a1.mv hal h2, a2, by rw [h1]; exact a3, a4, by rw [h1]; exact a5.mv hal h2, a6, by rw [hal.findClass]; exact a7, a8, a9, by rw [h1, h2]; exact a10, by rw [h1, h2]; exact a11⟩
namespace New4
def yN : MethodName := ⟨"java/lang/String", "<init>", "([CIILjava/lang/Void;)V"⟩
abbrev yB : ByteArray := jdk_42_method_149_code
theorem d0 : decode yB 0 = .ok (.aload_n 0, 1) := by decide +kernel
theorem d1 : decode yB 1 = .ok (.invokespecial 1, 3) := by decide +kernel
theorem d4 : decode yB 4 = .ok (.iload_n 3, 1) := by decide +kernel
theorem d5 : decode yB 5 = .ok (.ifCond (.ne) 22, 3) := by decide +kernel
theorem d27 : decode yB 27 = .ok (.getstatic 38, 3) := by decide +kernel
theorem d30 : decode yB 30 = .ok (.ifCond (.eq) 28, 3) := by decide +kernel
theorem d33 : decode yB 33 = .ok (.aload_n 1, 1) := by decide +kernel
theorem d34 : decode yB 34 = .ok (.iload_n 2, 1) := by decide +kernel
theorem d35 : decode yB 35 = .ok (.iload_n 3, 1) := by decide +kernel
theorem d36 : decode yB 36 = .ok (.invokestatic 177, 3) := by decide +kernel
theorem d39 : decode yB 39 = .ok (.astore 5, 2) := by decide +kernel
theorem d41 : decode yB 41 = .ok (.aload_n 0, 1) := by decide +kernel
theorem d42 : decode yB 42 = .ok (.aload 5, 2) := by decide +kernel
theorem d44 : decode yB 44 = .ok (.iload_n 3, 1) := by decide +kernel
theorem d45 : decode yB 45 = .ok (.invokestatic 47, 3) := by decide +kernel
theorem d48 : decode yB 48 = .ok (.putfield 15, 3) := by decide +kernel
theorem d51 : decode yB 51 = .ok (.aload_n 0, 1) := by decide +kernel
theorem d52 : decode yB 52 = .ok (.aload 5, 2) := by decide +kernel
theorem d54 : decode yB 54 = .ok (.putfield 9, 3) := by decide +kernel
theorem d57 : decode yB 57 = .ok (.return_, 1) := by decide +kernel
def site : List Cond := [.fieldLink "java/lang/String" 38 "java/lang/String" "COMPACT_STRINGS" "Z", Cmp3.tab, CodL.tab, .laysFinal "java/lang/String" "java/lang/String" "value" "[B", .fieldLink "java/lang/String" 9 "java/lang/String" "value" "[B", .laysFinal "java/lang/String" "java/lang/String" "coder" "B", .fieldLink "java/lang/String" 15 "java/lang/String" "coder" "B"] ++ objW "java/lang/String" 1 ++ staticW "java/lang/String" 177 Cmp3.yN ++ staticW "java/lang/String" 47 CodL.yN
def tab : Cond := tabOf yN yB 6 none site
def P (a : Addr) (D : Cell) (fV fC : Field) (b : Addr) (A : Cell) (z : Int32) (o len : Nat) (args : Array Value) (s : State) : Prop := args = #[.ref a, .ref b, .int (Int32.ofNat o), .int (Int32.ofNat len), .null] ∧ Blank "java/lang/String" a D s ∧ Found "java/lang/String" "value" "[B" fV s ∧ Found "java/lang/String" "coder" "B" fC s ∧ Ch b A s ∧ StaticIs s "java/lang/String" "COMPACT_STRINGS" "Z" (.int z) ∧ ¬ z = 0 ∧ 0 < len ∧ o + len ≤ A.slots.size ∧ len ≤ 536870912 ∧ ∀ i, i < len → ¬ 255 < cv A (o + i)
def E (a : Addr) (D : Cell) (fV fC : Field) (A : Cell) (o len : Nat) (r : Option Value) (s u : State) : Prop := Got a D fV fC A o len r s u
/-- len > 0, no char of the range above 255: a Latin-1 String of their low bytes -/
theorem law (l : Launch) (a : Addr) (D : Cell) (fV fC : Field) (b : Addr) (A : Cell) (z : Int32) (o len : Nat) : Law l yN 5 4 2 35 yB 6 none site (P a D fV fC b A z o len) (E a D fV fC A o len) [⟨a, fC.slot⟩, ⟨a, fV.slot⟩] 1 len := by
  refine Law.of_walk (plainFor_of_name (by decide +kernel)) (by decide +kernel) (by decide +kernel) (by decide) (fun _ _ h => by rw [h.1]; rfl) (fun _ U U' hal hh h => ⟨h.1, h.2.1.mv hal hh, h.2.2.1.al hal, h.2.2.2.1.al hal, h.2.2.2.2.1.mv hal hh, h.2.2.2.2.2.1.there hal hh, h.2.2.2.2.2.2⟩) (fun r U U' V V' h1 hal h2 h => Got.mv r U U' V V' h1 hal h2 h) ?_
  intro p e s m args below meth c s₁ X0 hexec hbytes hml hret hlk hnm hown hh0 W hP
  obtain ⟨rfl, hB, f1, f2, hA, s1, hz, l0, l1, l2, hp⟩ := hP
  have a31 := hA.1.2.2.2
  have c1 : Steps p.tables e below (s₁.setTop (entryFrame m #[.ref a, .ref b, .int (Int32.ofNat o), .int (Int32.ofNat len), .null] 6)) (s₁.setTop (mkF m 0 #[.val (.ref a), .val (.ref b), .val (.int (Int32.ofNat o)), .val (.int (Int32.ofNat len)), .val .null, .unset] [])) := entry rfl
  have c2 : Steps p.tables e below (s₁.setTop (entryFrame m #[.ref a, .ref b, .int (Int32.ofNat o), .int (Int32.ofNat len), .null] 6)) (s₁.setTop (mkF m 1 #[.val (.ref a), .val (.ref b), .val (.int (Int32.ofNat o)), .val (.int (Int32.ofNat len)), .val .null, .unset] [.ref a])) := c1.trans (by
    refine XS.aloadN X0.here hexec rfl (hb hbytes d0) rfl rfl ?_
    exact Steps.refl _)
  obtain ⟨T3, X3, q3, st3⟩ := X0.oinit hexec hown (wks W (objW "java/lang/String" 1)) (g := (mkF m 1 #[.val (.ref a), .val (.ref b), .val (.int (Int32.ofNat o)), .val (.int (Int32.ofNat len)), .val .null, .unset] [.ref a])) rfl (by rw [hml]; rfl) (rest := []) rfl (hb hbytes d1) (W := 0) (by show 2 * 0 + 0 ≤ _; decide) (Nat.le_of_ble_eq_true rfl) (Nat.le_of_ble_eq_true rfl)
  have hh3 := q3.trans hh0
  have c4 : Steps p.tables e below (s₁.setTop (entryFrame m #[.ref a, .ref b, .int (Int32.ofNat o), .int (Int32.ofNat len), .null] 6)) (T3.setTop (mkF m 27 #[.val (.ref a), .val (.ref b), .val (.int (Int32.ofNat o)), .val (.int (Int32.ofNat len)), .val .null, .unset] [])) := (c2.trans (st3 _ (Steps.refl _))).trans (by
    refine XS.iloadN X3.here hexec rfl (hb hbytes d4) rfl ?_
    refine XS.ifYes X3.here hexec rfl (pc0 := 5) rfl (hb hbytes d5) rfl (i0_ne_t (nz32 (by omega) l0)) (by decide) rfl ?_
    exact Steps.refl _)
  obtain ⟨T5, X5, q5, st5⟩ := X3.sget hexec hown (wk W (.fieldLink "java/lang/String" 38 "java/lang/String" "COMPACT_STRINGS" "Z")) s1 (fun _ _ h => by rw [hh3]; exact h) (g := (mkF m 27 #[.val (.ref a), .val (.ref b), .val (.int (Int32.ofNat o)), .val (.int (Int32.ofNat len)), .val .null, .unset] [])) rfl (hb hbytes d27)
  have hh5 := q5.trans hh3
  have c6 : Steps p.tables e below (s₁.setTop (entryFrame m #[.ref a, .ref b, .int (Int32.ofNat o), .int (Int32.ofNat len), .null] 6)) (T5.setTop (mkF m 30 #[.val (.ref a), .val (.ref b), .val (.int (Int32.ofNat o)), .val (.int (Int32.ofNat len)), .val .null, .unset] [.int z])) := c4.trans (st5 _ (Steps.refl _))
  have c7 : Steps p.tables e below (s₁.setTop (entryFrame m #[.ref a, .ref b, .int (Int32.ofNat o), .int (Int32.ofNat len), .null] 6)) (T5.setTop (mkF m 36 #[.val (.ref a), .val (.ref b), .val (.int (Int32.ofNat o)), .val (.int (Int32.ofNat len)), .val .null, .unset] [.int (Int32.ofNat len), .int (Int32.ofNat o), .ref b])) := c6.trans (by
    refine XS.ifNo X5.here hexec rfl (hb hbytes d30) rfl (i0_eq_f hz) ?_
    refine XS.aloadN X5.here hexec rfl (hb hbytes d33) rfl rfl ?_
    refine XS.iloadN X5.here hexec rfl (hb hbytes d34) rfl ?_
    refine XS.iloadN X5.here hexec rfl (hb hbytes d35) rfl ?_
    exact Steps.refl _)
  obtain ⟨v8, T8, X8, E8, g8⟩ := X5.callS hexec (Cmp3.law l b A o len) hown (wks W (staticW "java/lang/String" 177 Cmp3.yN)) (wk W Cmp3.tab) (W := 0) (Nat.le_of_ble_eq_true rfl) (Nat.le_of_ble_eq_true rfl) (Nat.le_refl _) (by show 0 + len ≤ len; omega) (g := (mkF m 36 #[.val (.ref a), .val (.ref b), .val (.int (Int32.ofNat o)), .val (.int (Int32.ofNat len)), .val .null, .unset] [.int (Int32.ofNat len), .int (Int32.ofNat o), .ref b])) rfl (by rw [hml]; rfl) c7 (argsL := [.ref b, .int (Int32.ofNat o), .int (Int32.ofNat len)]) (rest := []) rfl rfl (by show 2 * 0 + 0 ≤ _; decide) (hb hbytes d36) (⟨rfl, hA.mv X5.warmed.alike hh5, l1, l2, hp⟩)
  obtain ⟨e8, z8⟩ := E8
  obtain ⟨rfl, N, n1, n2, n3, n4, n5, n6⟩ := NewArr.mv _ T5 s _ _ hh5.symm (Vm.Alike.refl _) rfl e8
  rw [hh5] at z8
  have hB1 := hB.keep X8.warmed.alike (n6 _ _ hB.1)
  have hne : s.heap.size ≠ a := (Nat.ne_of_lt (Array.getElem?_eq_some_iff.mp hB.1).1).symm
  have c9 : Steps p.tables e below (s₁.setTop (entryFrame m #[.ref a, .ref b, .int (Int32.ofNat o), .int (Int32.ofNat len), .null] 6)) (T8.setTop (mkF m 39 #[.val (.ref a), .val (.ref b), .val (.int (Int32.ofNat o)), .val (.int (Int32.ofNat len)), .val .null, .unset] [.ref s.heap.size])) := g8
  have c10 : Steps p.tables e below (s₁.setTop (entryFrame m #[.ref a, .ref b, .int (Int32.ofNat o), .int (Int32.ofNat len), .null] 6)) (T8.setTop (mkF m 45 #[.val (.ref a), .val (.ref b), .val (.int (Int32.ofNat o)), .val (.int (Int32.ofNat len)), .val .null, .val (.ref s.heap.size)] [.int (Int32.ofNat N.slots.size), .ref s.heap.size, .ref a])) := by
    have hc : Steps p.tables e below (s₁.setTop (entryFrame m #[.ref a, .ref b, .int (Int32.ofNat o), .int (Int32.ofNat len), .null] 6)) (T8.setTop (mkF m 45 #[.val (.ref a), .val (.ref b), .val (.int (Int32.ofNat o)), .val (.int (Int32.ofNat len)), .val .null, .val (.ref s.heap.size)] [.int (Int32.ofNat len), .ref s.heap.size, .ref a])) := c9.trans (by
      refine XS.astore X8.here hexec rfl (hb hbytes d39) rfl rfl rfl ?_
      refine XS.aloadN X8.here hexec rfl (hb hbytes d41) rfl rfl ?_
      refine XS.aload X8.here hexec rfl (hb hbytes d42) rfl rfl ?_
      refine XS.iloadN X8.here hexec rfl (hb hbytes d44) rfl ?_
      exact Steps.refl _)
    rw [n4]; exact hc
  obtain ⟨v11, T11, X11, E11, g11⟩ := X8.callS hexec (CodL.law l s.heap.size N) hown (wks W (staticW "java/lang/String" 47 CodL.yN)) (wk W CodL.tab) (W := 1) (Nat.le_of_ble_eq_true rfl) (Nat.le_of_ble_eq_true rfl) (Nat.le_refl _) (by show 0 + len + 0 ≤ len; omega) (g := (mkF m 45 #[.val (.ref a), .val (.ref b), .val (.int (Int32.ofNat o)), .val (.int (Int32.ofNat len)), .val .null, .val (.ref s.heap.size)] [.int (Int32.ofNat N.slots.size), .ref s.heap.size, .ref a])) rfl (by rw [hml]; rfl) c10 (argsL := [.ref s.heap.size, .int (Int32.ofNat N.slots.size)]) (rest := [.ref a]) rfl rfl (by show 2 * 0 + (1 + 0) ≤ _; decide) (hb hbytes d45) (⟨rfl, n1⟩)
  obtain ⟨rfl, q11⟩ := E11
  have hB11 := hB1.mv (X8.warmed.alike.symm.trans X11.warmed.alike) q11
  have c12 : Steps p.tables e below (s₁.setTop (entryFrame m #[.ref a, .ref b, .int (Int32.ofNat o), .int (Int32.ofNat len), .null] 6)) (T11.setTop (mkF m 48 #[.val (.ref a), .val (.ref b), .val (.int (Int32.ofNat o)), .val (.int (Int32.ofNat len)), .val .null, .val (.ref s.heap.size)] [.int 0, .ref a])) := g11
  obtain ⟨T13, X13, p13, bl13, sl13, st13⟩ := X11.finit hexec hown (wk W (.fieldLink "java/lang/String" 15 "java/lang/String" "coder" "B")) (Or.inr ⟨_, (wk W (.laysFinal "java/lang/String" "java/lang/String" "coder" "B"))⟩) (Or.inl ⟨rfl, hnm⟩) f2 (Or.inl rfl) hB11 (t := .byte) (by decide +kernel) rfl (g := (mkF m 48 #[.val (.ref a), .val (.ref b), .val (.int (Int32.ofNat o)), .val (.int (Int32.ofNat len)), .val .null, .val (.ref s.heap.size)] [.int 0, .ref a])) rfl (rest := []) rfl (hb hbytes d48)
  have c14 : Steps p.tables e below (s₁.setTop (entryFrame m #[.ref a, .ref b, .int (Int32.ofNat o), .int (Int32.ofNat len), .null] 6)) (T13.setTop (mkF m 54 #[.val (.ref a), .val (.ref b), .val (.int (Int32.ofNat o)), .val (.int (Int32.ofNat len)), .val .null, .val (.ref s.heap.size)] [.ref s.heap.size, .ref a])) := (c12.trans (st13 _ (Steps.refl _))).trans (by
    refine XS.aloadN X13.here hexec rfl (hb hbytes d51) rfl rfl ?_
    refine XS.aload X13.here hexec rfl (hb hbytes d52) rfl rfl ?_
    exact Steps.refl _)
  obtain ⟨T15, X15, p15, bl15, sl15, st15⟩ := X13.finit hexec hown (wk W (.fieldLink "java/lang/String" 9 "java/lang/String" "value" "[B")) (Or.inr ⟨_, (wk W (.laysFinal "java/lang/String" "java/lang/String" "value" "[B"))⟩) (Or.inl ⟨rfl, hnm⟩) f1 (Or.inl rfl) bl13 (t := (.array .byte)) (by decide +kernel) rfl (g := (mkF m 54 #[.val (.ref a), .val (.ref b), .val (.int (Int32.ofNat o)), .val (.int (Int32.ofNat len)), .val .null, .val (.ref s.heap.size)] [.ref s.heap.size, .ref a])) rfl (rest := []) rfl (hb hbytes d54)
  have c16 : Steps p.tables e below (s₁.setTop (entryFrame m #[.ref a, .ref b, .int (Int32.ofNat o), .int (Int32.ofNat len), .null] 6)) (T15.setTop (mkF m 57 #[.val (.ref a), .val (.ref b), .val (.int (Int32.ofNat o)), .val (.int (Int32.ofNat len)), .val .null, .val (.ref s.heap.size)] [])) := c14.trans (st15 _ (Steps.refl _))
  have ap := apart (Or.inr ⟨_, (wk W (.laysFinal "java/lang/String" "java/lang/String" "value" "[B"))⟩) (Or.inr ⟨_, (wk W (.laysFinal "java/lang/String" "java/lang/String" "coder" "B"))⟩) f1 f2 (t₁ := .array .byte) (t₂ := .byte) (by decide +kernel) (by decide +kernel) (by decide)
  have al := X8.warmed.alike.symm.trans X15.warmed.alike
  have n7 : T11.heap[s.heap.size]? = some N := by rw [q11]; exact n1.1
  exact ⟨T15, none, _, _, _, X15, by simp, rfl, by omega, (fun _ => rfl), ⟨rfl, _, N, bl15, ((Same.refl D _).set _ (by simp)).set _ (by simp), sl15, (Cell.slots_setSlot_ne _ ap).trans sl13, n1.keep al (p15.other hne (p13.other hne n7)), n2, by rw [al.findClass]; exact n3, n4, n5, fun y c h1 h2 => p15.other h1 (p13.other h1 (by rw [q11]; exact n6 y c h2)), by rw [p15.2.2, p13.2.2, q11]; exact z8⟩, fun fs hl => c16.trans (X15.returnOut hexec hret (hb hbytes d57) hl)⟩
end New4
namespace New1
def yN : MethodName := ⟨"java/lang/String", "<init>", "([C)V"⟩
abbrev yB : ByteArray := jdk_42_method_3_code
theorem d0 : decode yB 0 = .ok (.aload_n 0, 1) := by decide +kernel
theorem d1 : decode yB 1 = .ok (.aload_n 1, 1) := by decide +kernel
theorem d2 : decode yB 2 = .ok (.iconst 0, 1) := by decide +kernel
theorem d3 : decode yB 3 = .ok (.aload_n 1, 1) := by decide +kernel
theorem d4 : decode yB 4 = .ok (.arraylength, 1) := by decide +kernel
theorem d5 : decode yB 5 = .ok (.aconst_null, 1) := by decide +kernel
theorem d6 : decode yB 6 = .ok (.invokespecial 27, 3) := by decide +kernel
theorem d9 : decode yB 9 = .ok (.return_, 1) := by decide +kernel
def site : List Cond := [New4.tab] ++ initW "java/lang/String" 27 New4.yN
def tab : Cond := tabOf yN yB 2 none site
def P (a : Addr) (D : Cell) (fV fC : Field) (b : Addr) (A : Cell) (z : Int32) (args : Array Value) (s : State) : Prop := args = #[.ref a, .ref b] ∧ Blank "java/lang/String" a D s ∧ Found "java/lang/String" "value" "[B" fV s ∧ Found "java/lang/String" "coder" "B" fC s ∧ Ch b A s ∧ StaticIs s "java/lang/String" "COMPACT_STRINGS" "Z" (.int z) ∧ ¬ z = 0 ∧ 0 < A.slots.size ∧ A.slots.size ≤ 536870912 ∧ ∀ i, i < A.slots.size → ¬ 255 < cv A i
def E (a : Addr) (D : Cell) (fV fC : Field) (A : Cell) (r : Option Value) (s u : State) : Prop := Got a D fV fC A 0 A.slots.size r s u
/-- new String(chars), not empty, no char above 255: a Latin-1 String of their low bytes -/
theorem law (l : Launch) (a : Addr) (D : Cell) (fV fC : Field) (b : Addr) (A : Cell) (z : Int32) : Law l yN 2 1 3 52 yB 2 none site (P a D fV fC b A z) (E a D fV fC A) [⟨a, fC.slot⟩, ⟨a, fV.slot⟩] 1 A.slots.size := by
  refine Law.of_walk (plainFor_of_name (by decide +kernel)) (by decide +kernel) (by decide +kernel) (by decide) (fun _ _ h => by rw [h.1]; rfl) (fun _ U U' hal hh h => ⟨h.1, h.2.1.mv hal hh, h.2.2.1.al hal, h.2.2.2.1.al hal, h.2.2.2.2.1.mv hal hh, h.2.2.2.2.2.1.there hal hh, h.2.2.2.2.2.2⟩) (fun r U U' V V' h1 hal h2 h => Got.mv r U U' V V' h1 hal h2 h) ?_
  intro p e s m args below meth c s₁ X0 hexec hbytes hml hret hlk hnm hown hh0 W hP
  obtain ⟨rfl, hB, f1, f2, hA, s1, hz, l0, l2, hp⟩ := hP
  have c1 : Steps p.tables e below (s₁.setTop (entryFrame m #[.ref a, .ref b] 2)) (s₁.setTop (mkF m 0 #[.val (.ref a), .val (.ref b)] [])) := entry rfl
  have c2 : Steps p.tables e below (s₁.setTop (entryFrame m #[.ref a, .ref b] 2)) (s₁.setTop (mkF m 6 #[.val (.ref a), .val (.ref b)] [.null, .int (Int32.ofNat A.slots.size), .int 0, .ref b, .ref a])) := c1.trans (by
    refine XS.aloadN X0.here hexec rfl (hb hbytes d0) rfl rfl ?_
    refine XS.aloadN X0.here hexec rfl (hb hbytes d1) rfl rfl ?_
    refine iconstV X0.here hexec rfl 0 (hb hbytes d2) (by decide) ?_
    refine XS.aloadN X0.here hexec rfl (hb hbytes d3) rfl rfl ?_
    refine X0.alen hexec (hA.1.mv X0.warmed.alike hh0) rfl rfl (hb hbytes d4) ?_
    refine XS.aconstNull X0.here hexec rfl (hb hbytes d5) ?_
    exact Steps.refl _)
  obtain ⟨v3, T3, X3, E3, g3⟩ := X0.callN hexec (New4.law l a D fV fC b A z 0 A.slots.size) rfl hown (wks W (initW "java/lang/String" 27 New4.yN)) (W New4.tab (by simp only [site, List.mem_cons, List.mem_append, true_or, or_true])) (W := 0) (Nat.le_of_ble_eq_true rfl) (Nat.le_of_ble_eq_true rfl) (Nat.le_refl _) (by show 0 + A.slots.size ≤ A.slots.size; omega) (g := (mkF m 6 #[.val (.ref a), .val (.ref b)] [.null, .int (Int32.ofNat A.slots.size), .int (Int32.ofNat 0), .ref b, .ref a])) rfl (by rw [hml]; rfl) c2 (argsL := [.ref b, .int (Int32.ofNat 0), .int (Int32.ofNat A.slots.size), .null]) (rest := []) rfl rfl (by show 2 * 0 + 0 ≤ _; decide) (hb hbytes d6) (⟨rfl, hB.mv X0.warmed.alike hh0, f1.al X0.warmed.alike, f2.al X0.warmed.alike, hA.mv X0.warmed.alike hh0, s1.there X0.warmed.alike hh0, hz, l0, by omega, l2, fun i hi => by rw [Nat.zero_add]; exact hp i hi⟩)
  have e0 := Got.mv _ s₁ s _ _ hh0.symm (Vm.Alike.refl _) rfl E3
  obtain rfl := e0.1
  have c4 : Steps p.tables e below (s₁.setTop (entryFrame m #[.ref a, .ref b] 2)) (T3.setTop (mkF m 9 #[.val (.ref a), .val (.ref b)] [])) := g3
  exact ⟨T3, none, _, _, _, X3, by simp, rfl, by omega, (fun _ => rfl), e0, fun fs hl => c4.trans (X3.returnOut hexec hret (hb hbytes d9) hl)⟩
theorem pays {l : Launch} {R : Room} {p : Program} {e : Env} {below : List Frame} {s : State} {sargs : Array Value} {len W : Nat} (a : Addr) (D : Cell) (fV fC : Field) (b : Addr) (A : Cell) (z : Int32) (htab : tab.before sargs s = true) (hfr : 4 ≤ R.frames) (hlo : W + 65 ≤ R.locals) :
    Back l R p e below s sargs yN len W (fun A₁ a₁ => A₁.cells + 1 ≤ R.cells ∧ A₁.slots + A.slots.size ≤ R.slots ∧ P a D fV fC b A z a₁ A₁.U) (fun A₁ _ v₁ B₁ => E a D fV fC A v₁ A₁.U B₁.U ∧ B₁.locs = A₁.locs ++ [⟨a, fC.slot⟩, ⟨a, fV.slot⟩] ∧ B₁.cells = A₁.cells + 1 ∧ B₁.slots = A₁.slots + A.slots.size) :=
  (law l a D fV fC b A z).pays htab hfr (by omega)
end New1
/-- the byte, read back as charAt reads it, is the char -/
theorem lo8_mask {x : Int32} (h0 : ¬ x < 0) (h1 : ¬ 255 < x) : lo8 x &&& 255 = x := by
  have t : ∀ k : Fin 256, lo8 (Int32.ofNat k.val) &&& 255 = Int32.ofNat k.val := by decide +kernel
  rw [Int32.lt_iff_toInt_lt] at h0 h1
  have e0 : (0 : Int32).toInt = 0 := rfl
  have e1 : (255 : Int32).toInt = 255 := rfl
  obtain ⟨k, hk⟩ : ∃ k : Nat, x.toInt = k := ⟨x.toInt.toNat, by omega⟩
  have hx : x = Int32.ofNat k := Int32.toInt_inj.mp (by rw [hk, Int32.toInt_ofNat_small (by omega)])
  rw [hx]
  exact t ⟨k, by omega⟩
end StrChars
namespace StrChars.Road
open Jvm Sem ClassFile Op Lib Jvm.Stand Jvm.Free Jvm.Free.XT
open Jvm.Lib.Cold (StaticIs)
abbrev ST : String := "java/lang/String"
/-- every table word that New1's law asks, flat -/
abbrev words : List Jvm.Cond := [.code New1.yN New1.yB 2 none, .initialized ST, .methodLink ST 27 New4.yN, .instanceMethod New4.yN,
  .code New4.yN New4.yB 6 none, .fieldLink ST 38 ST "COMPACT_STRINGS" "Z", .laysFinal ST ST "value" "[B", .fieldLink ST 9 ST "value" "[B", .laysFinal ST ST "coder" "B", .fieldLink ST 15 ST "coder" "B",
  .methodLink ST 1 Lib.objectInit, .instanceMethod Lib.objectInit, .code Lib.objectInit ⟨#[0xb1]⟩ 1 none, .methodLink ST 177 Cmp3.yN, .static Cmp3.yN, .methodLink ST 47 CodL.yN, .static CodL.yN,
  .code Cmp3.yN Cmp3.yB 6 (some (.array .byte)), .initialized U16, .arrayClass .byte, .methodLink U16 115 Cmp5.yN, .static Cmp5.yN, .code Cmp5.yN Cmp5.yB 7 (some .int), .code CodL.yN CodL.yB 2 (some .byte)]
theorem tab_of {a : Array Value} {s : State} (h : ∀ w ∈ words, w.before a s = true) : New1.tab.before a s = true := by
  have h5 : Cmp5.tab.before a s = true := unparts (wk h (.code Cmp5.yN Cmp5.yB 7 (some .int))) (wks h (.initialized Cmp5.yN.cls :: Cmp5.site))
  have hc : CodL.tab.before a s = true := unparts (wk h (.code CodL.yN CodL.yB 2 (some .byte))) (wks h (.initialized CodL.yN.cls :: CodL.site))
  have q5 : ∀ w ∈ Cmp5.tab :: words, w.before a s = true := fun w hw => (List.mem_cons.mp hw).elim (fun e => e ▸ h5) (h w)
  have h3 : Cmp3.tab.before a s = true := unparts (wk q5 (.code Cmp3.yN Cmp3.yB 6 (some (.array .byte)))) (wks q5 (.initialized Cmp3.yN.cls :: Cmp3.site))
  have q3 : ∀ w ∈ Cmp3.tab :: CodL.tab :: words, w.before a s = true := fun w hw => (List.mem_cons.mp hw).elim (fun e => e ▸ h3) fun hw => (List.mem_cons.mp hw).elim (fun e => e ▸ hc) (h w)
  have h4 : New4.tab.before a s = true := unparts (wk q3 (.code New4.yN New4.yB 6 none)) (wks q3 (.initialized New4.yN.cls :: New4.site))
  have q4 : ∀ w ∈ New4.tab :: words, w.before a s = true := fun w hw => (List.mem_cons.mp hw).elim (fun e => e ▸ h4) (h w)
  exact unparts (wk q4 (.code New1.yN New1.yB 2 none)) (wks q4 (.initialized New1.yN.cls :: New1.site))
/-- the words ride from the start Z to the walk's own state -/
theorem moved {Z s : State} {a0 args : Array Value} (hZ : Z.Warmed39 s.vm) (hw : ∀ d ∈ words, d.before a0 Z = true) : ∀ d ∈ words, d.before args s = true := fun d hd => by
  have q := hw d hd
  have t : ∀ d ∈ words, d = .arrayClass .byte ∨ (d.onTables && d.keepsFace) = true := by decide +kernel
  rcases t d hd with rfl | t
  · exact RoadKit.mvA hZ q
  · exact RoadKit.mv hZ q t
/-- WHAT COMES BACK, over the tables of the start Z: h the heap at the call, h' behind it -/
def Q (Z : State) (x : Addr) (A : Cell) (h : Heap) (v : Option Value) (h' : Heap) (L : List Loc) : Prop := v = none ∧ (∀ y ∈ L, y.base = x) ∧ RoadKit.Keep h h' [x] ∧ h'.size = h.size + 1 ∧ RoadKit.Exa Z h' x ST ∧ RoadKit.Fld Z h' x ST "value" "[B" (.ref h.size) ∧ RoadKit.Fld Z h' x ST "coder" "B" (.int 0) ∧
  (∃ V : Cell, RoadKit.Arr Z h' h.size V .byte ∧ V.vm = .none ∧ Z.vm.findClass "[B" = some V.cls ∧ V.slots.size = A.slots.size ∧ ∀ j, j < A.slots.size → V.slots[j]? = some (.int (lo8 (cv A j)))) ∧
  ∀ (O n d : String) (w : Value), RoadKit.Fld Z h x O n d w → RoadKit.slotOf Z O n d ≠ RoadKit.slotOf Z ST "value" "[B" → RoadKit.slotOf Z O n d ≠ RoadKit.slotOf Z ST "coder" "B" → RoadKit.Fld Z h' x O n d w
/-- **new String(chars) AT A CALL, IN THE ROAD'S FORM**: for specialBack behind newO: x the fresh String, b the char[] with the cell A -/
theorem back {p : Program} {l : Launch} {e : Env} {R : Room} {s : State} {args : Array Value} {below : List Frame} {len W : Nat} {Z : State} {a0 : Array Value} {h : Heap} (hZ : Z.Warmed39 s.vm) (hw : ∀ d ∈ words, d.before a0 Z = true) {kI : Nat} (wi : (Jvm.Cond.instantiable ST kI).before a0 Z = true)
    {x b : Addr} {A : Cell} {z : Int32} {v0 c0 : Value} (E : RoadKit.Exa Z h x ST) (V : RoadKit.Fld Z h x ST "value" "[B" v0) (C : RoadKit.Fld Z h x ST "coder" "B" c0) (K : RoadKit.Arr Z h b A .char) (hty : Typed .char A) (S : RoadKit.Sta Z h ST "COMPACT_STRINGS" "Z" (.int z)) (hz : ¬ z = 0)
    (l0 : 0 < A.slots.size) (l2 : A.slots.size ≤ 536870912) (hp : ∀ i, i < A.slots.size → ¬ 255 < cv A i) (hfr : 4 ≤ R.frames) (hlo : W + 65 ≤ R.locals) :
    Back l R p e below s args New1.yN len W (fun P a => a = #[.ref x, .ref b] ∧ P.U.heap = h ∧ P.cells + 1 ≤ R.cells ∧ P.slots + A.slots.size ≤ R.slots)
      (fun P _ v B => ∃ L, Q Z x A h v B.U.heap L ∧ B.locs = P.locs ++ L ∧ B.cells = P.cells + 1 ∧ B.slots = P.slots + A.slots.size) := by
  intro m meth c P g ig mk a X hg hsize hdg hW hn hp'
  obtain ⟨rfl, rfl, r1, r2⟩ := hp'
  have al : Z.vm.Alike P.U.vm := hZ.alike.trans X.warmed.alike
  obtain ⟨D, cfV, kV, iV, fV, hD, gV, stV, knV, obV, asV, slV⟩ := id V
  obtain ⟨D', cfC, kC, iC, fC, hD', gC, stC, -, -, asC, slC⟩ := id C
  cases hD.symm.trans hD'
  obtain ⟨D2, kD, e1, e2, e3, e4, e5⟩ := id E
  cases hD.symm.trans e1
  obtain ⟨c2, k2, i1, i2, i3, -⟩ := Cond.instantiable_spec wi
  cases e2.symm.trans i1
  cases e3.symm.trans i2
  obtain ⟨kU, u1, u2⟩ := al.2.2 _ _ e3
  have hB : Blank ST x D P.U := ⟨hD, ⟨knV, fun q hq => by rw [hq] at obV; cases obV⟩, by rw [al.findClass]; exact e2, kU, u1, by rw [u2]; exact i3, by rw [u2]; exact e5 i3⟩
  have F1 : Found ST "value" "[B" fV P.U := ⟨SBG.found_only al ⟨cfV, kV, iV, gV⟩, stV⟩
  have F2 : Found ST "coder" "B" fC P.U := ⟨SBG.found_only al ⟨cfC, kC, iC, gC⟩, stC⟩
  have hA : Ch b A P.U := ⟨⟨K.1, State.isArrayOf_alike al K.2.1, K.2.2, by omega⟩, hty⟩
  have hS : StaticIs P.U ST "COMPACT_STRINGS" "Z" (.int z) := by
    obtain ⟨cfS, iS, kS, fS, st, cS, t1, t2, t3, t4, t5, t6, t7⟩ := S
    exact StaticIs.there (s := { Z with heap := P.U.heap }) ⟨cfS, iS, kS, fS, st, cS, t1, t2, t3, t4, t5, (fun q => by rw [q] at t6; cases t6), t7⟩ al rfl
  obtain ⟨v, B, X', ⟨⟨hv, E', V', q1, q2, q3, q4, q5, q6, q7, q8, q9, q10, q11⟩, hl, hc, hs⟩, st⟩ := New1.pays x D fV fC b A z (tab_of (moved hZ hw)) hfr hlo m meth c P g ig mk _ X hg hsize hdg hW hn ⟨r1, r2, rfl, hB, F1, F2, hA, hS, hz, l0, l2, hp⟩
  have al' : Z.vm.Alike B.U.vm := hZ.alike.trans X'.warmed.alike
  have hsz : E'.slots.size = D.slots.size := by
    obtain ⟨-, -, -, kB, w1, w2, w3⟩ := q1
    obtain ⟨kB', y1, y2⟩ := al'.2.2 _ _ e3
    rw [q2.2.1] at w1
    cases w1.symm.trans y1
    rw [w3, e5 i3, y2]
  refine ⟨v, B, X', ⟨_, ⟨hv, ?_, ⟨by omega, fun y cy hy hn' => q10 y cy (by simpa using hn') hy, fun y cy hy => ?_⟩, q11, ⟨E', _, q1.1, by rw [q2.2.1]; exact e2, by rw [q2.2.1]; exact e3, by rw [q2.1]; exact obV, fun _ => by rw [hsz]; exact e5 i3⟩,
    ⟨E', cfV, kV, iV, fV, q1.1, gV, stV, by rw [q2.1]; exact knV, by rw [q2.1]; exact obV, by rw [q2.2.1]; exact asV, q3⟩, ⟨E', cfC, kC, iC, fC, q1.1, gC, stC, by rw [q2.1]; exact knV, by rw [q2.1]; exact obV, by rw [q2.2.1]; exact asC, q4⟩,
    ⟨V', ⟨q5.1, State.isArrayOf_alike al'.symm q5.2.1, q5.2.2.1⟩, q6, by rw [← al'.findClass]; exact q7, q8, fun j hj => by have := q9 j hj; rwa [Nat.zero_add] at this⟩, fun O n d w F n1 n2 => ?_⟩, hl, hc, hs⟩, st⟩
  · intro y hy
    simp only [List.mem_cons, List.not_mem_nil, or_false] at hy
    rcases hy with rfl | rfl <;> rfl
  · by_cases q : y = x
    · subst q
      cases hD.symm.trans hy
      exact ⟨E', q1.1, q2.2.1, q2.1, hsz⟩
    · exact ⟨cy, q10 y cy q hy, rfl, rfl, rfl⟩
  · obtain ⟨D3, cf, k, i, f, g1, g2, g3, g4, g5, g6, g7⟩ := F
    cases hD.symm.trans g1
    simp only [RoadKit.slotOf, g2, gV, gC, Option.map_some, Option.getD_some] at n1 n2
    exact ⟨E', cf, k, i, f, q1.1, g2, g3, by rw [q2.1]; exact g4, by rw [q2.1]; exact g5, by rw [q2.2.1]; exact g6, by rw [q2.2.2 f.slot (by simp [n1, n2])]; exact g7⟩
end StrChars.Road
namespace StrChars.Road
open Jvm Sem ClassFile Op Lib Jvm.Stand Jvm.Free Jvm.Free.XT
/-- WHAT COMES BACK, the byte[] as a list of values -/
def QA (Z : State) (x : Addr) (zn : Int32) (cs : List Int32) (h : Heap) (v : Option Value) (h' : Heap) (L : List Loc) : Prop := v = none ∧ (∀ y ∈ L, y.base = x) ∧ RoadKit.Keep h h' [x] ∧ h'.size = h.size + 1 ∧ RoadKit.Exa Z h' x ST ∧ RoadKit.Fld Z h' x ST "value" "[B" (.ref h.size) ∧ RoadKit.Fld Z h' x ST "coder" "B" (.int 0) ∧
  (∃ kb, Z.vm.findClass "[B" = some kb ∧ RoadKit.Arv Z h' h.size kb .byte zn (cs.map fun c => .int (lo8 c)) (.int 0)) ∧
  ∀ (O n d : String) (w : Value), RoadKit.Fld Z h x O n d w → RoadKit.slotOf Z O n d ≠ RoadKit.slotOf Z ST "value" "[B" → RoadKit.slotOf Z O n d ≠ RoadKit.slotOf Z ST "coder" "B" → RoadKit.Fld Z h' x O n d w
/-- **new String(chars) AT A CALL, THE ARRAYS AS LISTS**: the char[] at b holds cs, not empty, no char above 255 -/
theorem backArv {p : Program} {l : Launch} {e : Env} {R : Room} {s : State} {args : Array Value} {below : List Frame} {len W : Nat} {Z : State} {a0 : Array Value} {h : Heap} (hZ : Z.Warmed39 s.vm) (hw : ∀ d ∈ words, d.before a0 Z = true) {kI : Nat} (wi : (Jvm.Cond.instantiable ST kI).before a0 Z = true)
    {x b : Addr} {k : ClassId} {zn z : Int32} {cs : List Int32} {dv v0 c0 : Value} (E : RoadKit.Exa Z h x ST) (V : RoadKit.Fld Z h x ST "value" "[B" v0) (C : RoadKit.Fld Z h x ST "coder" "B" c0) (K : RoadKit.Arv Z h b k .char zn (cs.map Value.int) dv) (S : RoadKit.Sta Z h ST "COMPACT_STRINGS" "Z" (.int z)) (hz : ¬ z = 0)
    (hlen : zn.toNatClampNeg = cs.length) (h0 : 0 < cs.length) (hbig : cs.length ≤ 536870912) (hall : ∀ c ∈ cs, ¬ 255 < c) (hfr : 4 ≤ R.frames) (hlo : W + 65 ≤ R.locals) :
    Back l R p e below s args New1.yN len W (fun P a => a = #[.ref x, .ref b] ∧ P.U.heap = h ∧ P.cells + 1 ≤ R.cells ∧ P.slots + cs.length ≤ R.slots)
      (fun P _ v B => ∃ L, QA Z x zn cs h v B.U.heap L ∧ B.locs = P.locs ++ L ∧ B.cells = P.cells + 1 ∧ B.slots = P.slots + cs.length) := by
  obtain ⟨A, K1, K2, K3, K4, K5, K6⟩ := K
  have e : A.slots.size = cs.length := K3.trans hlen
  have hat : ∀ (i : Nat) (hi : i < cs.length), A.slots[i]? = some (.int cs[i]) := fun i hi => by rw [K5 i (by omega)]; simp [List.getD_eq_getElem?_getD, hi]
  have hcv : ∀ (i : Nat) (hi : i < cs.length), cv A i = cs[i] := fun i hi => by unfold cv; rw [hat i hi]
  have hty : Typed .char A := fun i v hv => by
    have hi : i < A.slots.size := (Array.getElem?_eq_some_iff.mp hv).1
    have q := K5 i hi
    rw [hv] at q
    rw [Option.some.inj q]
    exact K6 i hi
  refine Back.mono (back hZ hw wi E V C K1 hty S hz (by omega) (by omega) (fun i hi => by rw [hcv i (by omega)]; exact hall _ (List.getElem_mem _)) hfr hlo) (fun P a hp => ⟨hp.1, hp.2.1, hp.2.2.1, by rw [e]; exact hp.2.2.2⟩) (fun P a v B hp hq => ?_)
  obtain ⟨L, ⟨q1, q2, q3, q4, q5, q6, q7, ⟨V', v1, v2, v3, v4, v5⟩, q9⟩, hl, hc, hs⟩ := hq
  refine ⟨L, ⟨q1, q2, q3, q4, q5, q6, q7, ⟨V'.cls, v3, V', v1, rfl, by rw [v4, e, hlen], K4, fun i hi => ?_, fun i hi => ?_⟩, q9⟩, hl, hc, by rw [hs, e]⟩
  · have hi' : i < cs.length := by omega
    rw [v5 i (by omega), hcv i hi']; simp [List.getD_eq_getElem?_getD, hi']
  · have hi' : i < cs.length := by omega
    simp only [List.getD_eq_getElem?_getD, List.getElem?_map, List.getElem?_eq_getElem hi', Option.map_some, Option.getD_some]
    exact fits_lo8 _
end StrChars.Road
namespace StrChars.Road
open Jvm Sem ClassFile Op Lib Jvm.Stand Jvm.Free Jvm.Free.XT
/-- WHAT COMES BACK, in the writer's own shape -/
def QV (Z : State) (x : Addr) (N : Int32) (bs : List Int32) (h : Heap) (n0 : Nat) (v : Option Value) (h' : Heap) (L : List Loc) : Prop := v = none ∧ RoadKit.Fr n0 L ∧ RoadKit.Keep h h' [x] ∧ RoadKit.Exa Z h' x ST ∧ RoadKit.Fld Z h' x ST "coder" "B" (.int 0) ∧
  ∃ (t : Addr) (kb : ClassId), n0 ≤ t ∧ h.size ≤ t ∧ ¬ t = x ∧ RoadKit.Fld Z h' x ST "value" "[B" (.ref t) ∧ RoadKit.Arv Z h' t kb .byte N (bs.map Value.int) (.int 0)
/-- **new String(chars) AT A CALL, FOR THE WRITER**: a char[] of n known ints, each 0 to 255 -/
theorem backV {p : Program} {l : Launch} {e : Env} {R : Room} {s : State} {args : Array Value} {below : List Frame} {len W : Nat} {Z : State} {a0 : Array Value} {h : Heap} (hZ : Z.Warmed39 s.vm) (hw : ∀ d ∈ words, d.before a0 Z = true) {kI : Nat} (wi : (Jvm.Cond.instantiable ST kI).before a0 Z = true)
    {x b : Addr} {kC : ClassId} {cs bs : List Int32} {d v0 c0 : Value} {z N : Int32} {n n0 : Nat} (hx0 : n0 ≤ x) (hh0 : n0 ≤ h.size) (E : RoadKit.Exa Z h x ST) (V : RoadKit.Fld Z h x ST "value" "[B" v0) (C : RoadKit.Fld Z h x ST "coder" "B" c0) (K : RoadKit.Arv Z h b kC .char N (cs.map Value.int) d) (S : RoadKit.Sta Z h ST "COMPACT_STRINGS" "Z" (.int z)) (hz : ¬ z = 0)
    (hn : cs.length = n) (hN : N = Int32.ofNat n) (l0 : 0 < n) (l2 : n ≤ 4000) (hp : ∀ c ∈ cs, ¬ c < 0 ∧ ¬ (255 : Int32) < c) (hb : bs = cs.map (fun c => c.toInt8.toInt32)) (hfr : 4 ≤ R.frames) (hlo : W + 65 ≤ R.locals) :
    Back l R p e below s args (⟨"java/lang/String", "<init>", "([C)V"⟩ : MethodName) len W (fun P a => a = #[.ref x, .ref b] ∧ P.U.heap = h ∧ P.cells + 1 ≤ R.cells ∧ P.slots + n ≤ R.slots)
      (fun P _ v B => ∃ L, QV Z x N bs h n0 v B.U.heap L ∧ B.locs = P.locs ++ L ∧ B.cells = P.cells + 1 ∧ B.slots = P.slots + n) := by
  subst hn hN hb
  refine Back.mono (backArv hZ hw wi E V C K S hz (n32 (by omega)) l0 (by omega) (fun c hc => (hp c hc).2) hfr hlo) (fun P a hp => hp) (fun P a v B hp hq => ?_)
  obtain ⟨L, ⟨q1, q2, q3, q4, q5, q6, q7, ⟨kb, v1, v2⟩, q9⟩, hl, hc, hs⟩ := hq
  exact ⟨L, ⟨q1, fun y hy => by rw [q2 y hy]; exact hx0, q3, q5, q7, h.size, kb, hh0, Nat.le_refl _, Nat.ne_of_gt E.lt, q6, by rw [List.map_map]; exact v2⟩, hl, hc, hs⟩
end StrChars.Road
namespace StrChars
open Jvm Sem ClassFile Op Lib Jvm.Stand Jvm.Free.XT Jvm.Free.ALB Jvm.Free.JM Jvm.Free
open Jvm.Lib.Cold (StaticIs)
def hi8 (x : Int32) : Int32 := lo8 (x >>> ((8 : Int32) &&& 31))
/-- what StringUTF16.getChar makes of two bytes -/
def pairCh (u v : Int32) : Int32 := (((u &&& 255) <<< ((0 : Int32) &&& 31)) ||| ((v &&& 255) <<< ((8 : Int32) &&& 31))).toUInt32.toUInt16.toUInt32.toInt32
theorem shr0 (c : Int32) : c >>> ((0 : Int32) &&& 31) = c := by
  have e : ((0 : Int32) &&& 31) = 0 := by decide
  rw [e]
  apply Int32.toBitVec_inj.mp
  rw [Int32.toBitVec_shiftRight]
  have e1 : ((0 : Int32).toBitVec.smod 32) = 0#32 := by decide
  rw [e1, BitVec.sshiftRight_eq']
  exact BitVec.sshiftRight_zero
theorem lo8_and (x : Int32) : (lo8 x &&& 255).toBitVec.toNat = x.toBitVec.toNat % 256 := by
  have h : (lo8 x).toBitVec = (x.toBitVec.signExtend 8).signExtend 32 := by rw [lo8, Int8.toBitVec_toInt32, Int32.toBitVec_toInt8]
  rw [Int32.toBitVec_and, BitVec.toNat_and, h]
  have e : ((x.toBitVec.signExtend 8).signExtend 32).toNat % 256 = x.toBitVec.toNat % 256 := by
    rw [BitVec.toNat_signExtend]
    have hlt := x.toBitVec.isLt
    simp only [BitVec.toNat_setWidth, BitVec.toNat_signExtend]
    split <;> split <;> omega
  rw [← e]
  exact Nat.and_two_pow_sub_one_eq_mod _ 8
theorem pair_says {c : Int32} (h0 : ¬ c < 0) (h1 : ¬ 65535 < c) : pairCh (lo8 c) (hi8 c) = c := by
  rw [Int32.lt_iff_toInt_lt] at h0 h1
  have e0 : (0 : Int32).toInt = 0 := rfl
  have e1 : (65535 : Int32).toInt = 65535 := rfl
  have hc : c.toInt = c.toBitVec.toNat := by
    have := c.toBitVec.isLt
    have e : c.toInt = c.toBitVec.toInt := rfl
    rw [e] at h0 h1
    rw [e]
    rw [BitVec.toInt_eq_toNat_cond] at h0 h1 ⊢
    split at h0 <;> split <;> omega
  have hn : c.toBitVec.toNat < 65536 := by omega
  have a1 := lo8_and c
  have a2 : (hi8 c &&& 255).toBitVec.toNat = c.toBitVec.toNat / 256 := by
    rw [hi8, lo8_and]
    have e : ((8 : Int32) &&& 31) = 8 := by decide
    rw [e, Int32.toBitVec_shiftRight]
    have e2 : ((8 : Int32).toBitVec.smod 32) = 8#32 := by decide
    rw [e2, BitVec.sshiftRight_eq', BitVec.toNat_sshiftRight_of_msb_false (by rw [BitVec.msb_eq_false_iff_two_mul_lt]; omega)]
    show c.toBitVec.toNat >>> 8 % 256 = _
    rw [Nat.shiftRight_eq_div_pow]
    omega
  unfold pairCh
  apply Int32.toBitVec_inj.mp
  apply BitVec.eq_of_toNat_eq
  have f0 : ((0 : Int32) &&& 31) = 0 := by decide
  have f8 : ((8 : Int32) &&& 31) = 8 := by decide
  rw [f0, f8]
  have g : (((lo8 c &&& 255) <<< (0 : Int32)) ||| ((hi8 c &&& 255) <<< (8 : Int32))).toBitVec.toNat = c.toBitVec.toNat := by
    rw [Int32.toBitVec_or, Int32.toBitVec_shiftLeft, Int32.toBitVec_shiftLeft]
    have s0 : ((0 : Int32).toBitVec.smod 32) = 0#32 := by decide
    have s8 : ((8 : Int32).toBitVec.smod 32) = 8#32 := by decide
    rw [s0, s8, BitVec.toNat_or]
    simp only [BitVec.shiftLeft_eq', BitVec.toNat_shiftLeft, a1, a2]
    show (c.toBitVec.toNat % 256) <<< 0 % 2 ^ 32 ||| (c.toBitVec.toNat / 256) <<< 8 % 2 ^ 32 = _
    rw [Nat.shiftLeft_zero, Nat.mod_eq_of_lt (show c.toBitVec.toNat % 256 < 2 ^ 32 by omega), Nat.mod_eq_of_lt (show (c.toBitVec.toNat / 256) <<< 8 < 2 ^ 32 by rw [Nat.shiftLeft_eq]; omega), Nat.or_comm, ← Nat.shiftLeft_add_eq_or_of_lt (by omega), Nat.shiftLeft_eq]
    omega
  show BitVec.toNat (((((lo8 c &&& 255) <<< (0 : Int32)) ||| ((hi8 c &&& 255) <<< (8 : Int32))).toBitVec.setWidth 16).setWidth 32) = _
  rw [BitVec.toNat_setWidth, BitVec.toNat_setWidth, g]
  omega
end StrChars
namespace StrChars
open Jvm Sem ClassFile Op Lib Jvm.Stand Jvm.Free.XT Jvm.Free.ALB Jvm.Free.JM Jvm.Free
open Jvm.Lib.Cold (StaticIs)
theorem shr1 {n : Nat} (h : 2 * n < 2 ^ 31) : Int32.ofNat (2 * n) >>> ((1 : Int32) &&& 31) = Int32.ofNat n := by
  have e : ((1 : Int32) &&& 31) = 1 := by decide
  rw [e]
  apply Int32.toBitVec_inj.mp
  rw [Int32.toBitVec_shiftRight]
  have e1 : ((1 : Int32).toBitVec.smod 32) = 1#32 := by decide
  have hm : (BitVec.ofNat 32 (2 * n)).toNat = 2 * n := by rw [BitVec.toNat_ofNat, Nat.mod_eq_of_lt (by omega)]
  rw [e1, BitVec.sshiftRight_eq']
  apply BitVec.eq_of_toNat_eq
  show ((BitVec.ofNat 32 (2 * n)).sshiftRight 1).toNat = (BitVec.ofNat 32 n).toNat
  rw [BitVec.toNat_sshiftRight_of_msb_false (by rw [BitVec.msb_eq_false_iff_two_mul_lt, hm]; omega), hm, BitVec.toNat_ofNat, Nat.shiftRight_eq_div_pow]
  omega
/-- the array's cell V codes the n chars f 0 .. f (n - 1) by the coder cd, as the JDK does: coder 1 just where some char is above 255 -/
def Cod (cd : Int32) (n : Nat) (f : Nat → Int32) (V : Cell) : Prop := (cd = 0 ∧ V.slots.size = n ∧ ∀ j, j < n → V.slots[j]? = some (.int (lo8 (f j))) ∧ ¬ 255 < f j) ∨ (cd = 1 ∧ V.slots.size = 2 * n ∧ (∀ j, j < n → V.slots[2 * j]? = some (.int (lo8 (f j))) ∧ V.slots[2 * j + 1]? = some (.int (hi8 (f j)))) ∧ ∃ j, j < n ∧ 255 < f j)
theorem Cod.cd {cd : Int32} {n : Nat} {f : Nat → Int32} {V : Cell} (h : Cod cd n f V) : cd = 0 ∨ cd = 1 := h.imp (fun q => q.1) fun q => q.1
theorem Cod.len {cd : Int32} {n : Nat} {f : Nat → Int32} {V : Cell} (h : Cod cd n f V) (hs : V.slots.size < 2 ^ 31) : Int32.ofNat V.slots.size >>> (cd &&& 31) = Int32.ofNat n := by
  rcases h with ⟨rfl, h, -⟩ | ⟨rfl, h, -⟩
  · rw [shr0, h]
  · rw [h, shr1 (by omega)]
/-- **x is a String of the n chars f 0 .. f (n - 1)**, Latin-1 or UTF-16; its array at t has the cell V -/
def Txt (x t : Addr) (V : Cell) (cd : Int32) (n : Nat) (f : Nat → Int32) (U : State) : Prop := Exact "java/lang/String" x U ∧ Has x "java/lang/String" "value" "[B" (.ref t) U ∧ Has x "java/lang/String" "coder" "B" (.int cd) U ∧ XT.Arr .byte t V U ∧ Cod cd n f V ∧ ∀ j, j < n → ¬ f j < 0 ∧ ¬ 65535 < f j
theorem Txt.mv {x t : Addr} {V : Cell} {cd : Int32} {n : Nat} {f : Nat → Int32} {U U' : State} (h : Txt x t V cd n f U) (hal : U.vm.Alike U'.vm) (hh : U'.heap = U.heap) : Txt x t V cd n f U' := ⟨h.1.mv hal hh, h.2.1.mv hal hh, h.2.2.1.mv hal hh, h.2.2.2.1.mv hal hh, h.2.2.2.2⟩
namespace Cdr
def yN : MethodName := ⟨"java/lang/String", "coder", "()B"⟩
abbrev yB : ByteArray := jdk_42_method_152_code
theorem d0 : decode yB 0 = .ok (.getstatic 38, 3) := by decide +kernel
theorem d3 : decode yB 3 = .ok (.ifCond (.eq) 10, 3) := by decide +kernel
theorem d6 : decode yB 6 = .ok (.aload_n 0, 1) := by decide +kernel
theorem d7 : decode yB 7 = .ok (.getfield 15, 3) := by decide +kernel
theorem d10 : decode yB 10 = .ok (.goto 4, 3) := by decide +kernel
theorem d14 : decode yB 14 = .ok (.ireturn, 1) := by decide +kernel
def site : List Cond := [.fieldLink "java/lang/String" 38 "java/lang/String" "COMPACT_STRINGS" "Z", .fieldLink "java/lang/String" 15 "java/lang/String" "coder" "B"]
def tab : Cond := tabOf yN yB 1 (some .byte) site
def P (x : Addr) (cd z : Int32) (args : Array Value) (s : State) : Prop := args = #[.ref x] ∧ Has x "java/lang/String" "coder" "B" (.int cd) s ∧ (cd = 0 ∨ cd = 1) ∧ StaticIs s "java/lang/String" "COMPACT_STRINGS" "Z" (.int z) ∧ ¬ z = 0
def E (cd : Int32) (r : Option Value) (s u : State) : Prop := XT.PureE (some (.int cd)) r s u
theorem law (l : Launch) (x : Addr) (cd z : Int32) : Law l yN 1 0 0 0 yB 1 (some .byte) site (P x cd z) (E cd) [] 0 0 := by
  refine Law.of_walk (plainFor_of_name (by decide +kernel)) (by decide +kernel) (by decide +kernel) (by decide) (fun _ _ h => by rw [h.1]; rfl) (fun _ U U' hal hh h => ⟨h.1, h.2.1.mv hal hh, h.2.2.1, h.2.2.2.1.there hal hh, h.2.2.2.2⟩) (fun r U U' V V' h1 hal h2 h => XT.PureE.mv r U U' V V' h1 hal h2 h) ?_
  intro p e s m args below meth c s₁ X0 hexec hbytes hml hret hlk hnm hown hh0 W hP
  obtain ⟨rfl, hx, hc, s1, hz⟩ := hP
  have c1 : Steps p.tables e below (s₁.setTop (entryFrame m #[.ref x] 1)) (s₁.setTop (mkF m 0 #[.val (.ref x)] [])) := entry rfl
  obtain ⟨T2, X2, q2, st2⟩ := X0.sget hexec hown (wk W (.fieldLink "java/lang/String" 38 "java/lang/String" "COMPACT_STRINGS" "Z")) s1 (fun _ _ h => by rw [hh0]; exact h) (g := (mkF m 0 #[.val (.ref x)] [])) rfl (hb hbytes d0)
  have hh2 := q2.trans hh0
  have c3 : Steps p.tables e below (s₁.setTop (entryFrame m #[.ref x] 1)) (T2.setTop (mkF m 7 #[.val (.ref x)] [.ref x])) := (c1.trans (st2 _ (Steps.refl _))).trans (by
    refine XS.ifNo X2.here hexec rfl (hb hbytes d3) rfl (i0_eq_f hz) ?_
    refine XS.aloadN X2.here hexec rfl (hb hbytes d6) rfl rfl ?_
    exact Steps.refl _)
  obtain ⟨T4, X4, q4, st4⟩ := X2.hget hexec hown (wk W (.fieldLink "java/lang/String" 15 "java/lang/String" "coder" "B")) (hx.mv X2.warmed.alike hh2) (g := (mkF m 7 #[.val (.ref x)] [.ref x])) rfl (rest := []) rfl (hb hbytes d7)
  have c5 : Steps p.tables e below (s₁.setTop (entryFrame m #[.ref x] 1)) (T4.setTop (mkF m 14 #[.val (.ref x)] [.int cd])) := (c3.trans (st4 _ (Steps.refl _))).trans (by
    refine XS.goto X4.here hexec rfl (pc0 := 10) rfl (hb hbytes d10) (by decide) rfl ?_
    exact Steps.refl _)
  exact ⟨T4, some (.int cd), _, _, _, X4, rfl, rfl, rfl, (fun h => by cases h), ⟨rfl, q4.trans hh2⟩, fun fs hl => c5.trans (X4.ireturnOut hexec hret (by rcases hc with rfl | rfl <;> rfl) (Or.inr (Or.inr (Or.inl rfl))) (hb hbytes d14) hl)⟩
end Cdr
namespace Len
def yN : MethodName := ⟨"java/lang/String", "length", "()I"⟩
abbrev yB : ByteArray := jdk_42_method_54_code
theorem d0 : decode yB 0 = .ok (.aload_n 0, 1) := by decide +kernel
theorem d1 : decode yB 1 = .ok (.getfield 9, 3) := by decide +kernel
theorem d4 : decode yB 4 = .ok (.arraylength, 1) := by decide +kernel
theorem d5 : decode yB 5 = .ok (.aload_n 0, 1) := by decide +kernel
theorem d6 : decode yB 6 = .ok (.invokevirtual 335, 3) := by decide +kernel
theorem d9 : decode yB 9 = .ok (.ishr, 1) := by decide +kernel
theorem d10 : decode yB 10 = .ok (.ireturn, 1) := by decide +kernel
def site : List Cond := [.fieldLink "java/lang/String" 9 "java/lang/String" "value" "[B", Cdr.tab] ++ virtW "java/lang/String" 335 "java/lang/String" Cdr.yN Cdr.yN
def tab : Cond := tabOf yN yB 1 (some .int) site
def P (x t : Addr) (V : Cell) (cd : Int32) (n : Nat) (f : Nat → Int32) (z : Int32) (args : Array Value) (s : State) : Prop := args = #[.ref x] ∧ Txt x t V cd n f s ∧ StaticIs s "java/lang/String" "COMPACT_STRINGS" "Z" (.int z) ∧ ¬ z = 0
def E (n : Nat) (r : Option Value) (s u : State) : Prop := XT.PureE (some (.int (Int32.ofNat n))) r s u
/-- length() of a String of n chars, in either coding -/
theorem law (l : Launch) (x t : Addr) (V : Cell) (cd : Int32) (n : Nat) (f : Nat → Int32) (z : Int32) : Law l yN 1 0 1 13 yB 1 (some .int) site (P x t V cd n f z) (E n) [] 0 0 := by
  refine Law.of_walk (plainFor_of_name (by decide +kernel)) (by decide +kernel) (by decide +kernel) (by decide) (fun _ _ h => by rw [h.1]; rfl) (fun _ U U' hal hh h => ⟨h.1, h.2.1.mv hal hh, h.2.2.1.there hal hh, h.2.2.2⟩) (fun r U U' V V' h1 hal h2 h => XT.PureE.mv r U U' V V' h1 hal h2 h) ?_
  intro p e s m args below meth c s₁ X0 hexec hbytes hml hret hlk hnm hown hh0 W hP
  obtain ⟨rfl, hx, s1, hz⟩ := hP
  have v31 := hx.2.2.2.1.2.2.2
  have c1 : Steps p.tables e below (s₁.setTop (entryFrame m #[.ref x] 1)) (s₁.setTop (mkF m 1 #[.val (.ref x)] [.ref x])) := Steps.trans (entry rfl) (by
    show Steps p.tables e below (s₁.setTop (mkF m 0 #[.val (.ref x)] [])) _
    refine XS.aloadN X0.here hexec rfl (hb hbytes d0) rfl rfl ?_
    exact Steps.refl _)
  obtain ⟨T2, X2, q2, st2⟩ := X0.hget hexec hown (wk W (.fieldLink "java/lang/String" 9 "java/lang/String" "value" "[B")) (hx.mv X0.warmed.alike hh0).2.1 (g := (mkF m 1 #[.val (.ref x)] [.ref x])) rfl (rest := []) rfl (hb hbytes d1)
  have hh2 := q2.trans hh0
  have hx2 := hx.mv X2.warmed.alike hh2
  have c3 : Steps p.tables e below (s₁.setTop (entryFrame m #[.ref x] 1)) (T2.setTop (mkF m 6 #[.val (.ref x)] [.ref x, .int (Int32.ofNat V.slots.size)])) := (c1.trans (st2 _ (Steps.refl _))).trans (by
    refine X2.alen hexec hx2.2.2.2.1 rfl rfl (hb hbytes d4) ?_
    refine XS.aloadN X2.here hexec rfl (hb hbytes d5) rfl rfl ?_
    exact Steps.refl _)
  obtain ⟨v4, T4, X4, E4, g4⟩ := X2.callV hexec (Cdr.law l x cd z) hown (wks W (virtW "java/lang/String" 335 "java/lang/String" Cdr.yN Cdr.yN)) rfl (by decide) (wk W Cdr.tab) (W := 1) (Nat.le_of_ble_eq_true rfl) (Nat.le_of_ble_eq_true rfl) (Nat.le_refl _) (Nat.le_refl _) (hx2.1.fc X2.warmed.alike) hx2.1.is (g := (mkF m 6 #[.val (.ref x)] [.ref x, .int (Int32.ofNat V.slots.size)])) rfl (by rw [hml]; rfl) c3 (argsL := []) (rest := [.int (Int32.ofNat V.slots.size)]) rfl rfl (by show 2 * 0 + (1 + 0) ≤ _; decide) (hb hbytes d6) (⟨rfl, hx2.2.2.1, hx.2.2.2.2.1.cd, s1.there X2.warmed.alike hh2, hz⟩)
  obtain ⟨rfl, q4⟩ := E4
  have c5 : Steps p.tables e below (s₁.setTop (entryFrame m #[.ref x] 1)) (T4.setTop (mkF m 10 #[.val (.ref x)] [.int (Int32.ofNat V.slots.size >>> (cd &&& 31))])) := Steps.trans g4 (by
    refine ishr X4.here hexec rfl (hb hbytes d9) rfl ?_
    exact Steps.refl _)
  rw [hx.2.2.2.2.1.len v31] at c5
  exact ⟨T4, some (.int (Int32.ofNat n)), _, _, _, X4, rfl, rfl, rfl, (fun h => by cases h), ⟨rfl, q4.trans hh2⟩, fun fs hl => c5.trans (X4.ireturnOut hexec hret rfl (Or.inl rfl) (hb hbytes d10) hl)⟩
theorem pays {l : Launch} {R : Room} {p : Program} {e : Env} {below : List Frame} {s : State} {sargs : Array Value} {len W : Nat} (x t : Addr) (V : Cell) (cd : Int32) (n : Nat) (f : Nat → Int32) (z : Int32) (htab : tab.before sargs s = true) (hfr : 2 ≤ R.frames) (hlo : W + 25 ≤ R.locals) :
    Back l R p e below s sargs yN len W (fun A₁ a₁ => A₁.cells + 0 ≤ R.cells ∧ A₁.slots + 0 ≤ R.slots ∧ P x t V cd n f z a₁ A₁.U) (fun A₁ _ v₁ B₁ => E n v₁ A₁.U B₁.U ∧ B₁.locs = A₁.locs ++ [] ∧ B₁.cells = A₁.cells + 0 ∧ B₁.slots = A₁.slots + 0) :=
  (law l x t V cd n f z).pays htab hfr (by omega)
end Len
end StrChars
namespace StrChars.Road
open Jvm Sem ClassFile Op Lib Jvm.Stand Jvm.Free Jvm.Free.XT
open Jvm.Lib.Cold (StaticIs)
theorem consq {a : Array Value} {s : State} {c : Jvm.Cond} {L : List Jvm.Cond} (h0 : c.before a s = true) (h : ∀ w ∈ L, w.before a s = true) : ∀ w ∈ c :: L, w.before a s = true := fun w hw => (List.mem_cons.mp hw).elim (fun e => e ▸ h0) (h w)
/-- the words of String.length(), either coding -/
abbrev wordsLen : List Jvm.Cond := [.code Len.yN Len.yB 1 (some .int), .initialized ST, .fieldLink ST 9 ST "value" "[B", .fieldLink ST 38 ST "COMPACT_STRINGS" "Z", .fieldLink ST 15 ST "coder" "B", .code Cdr.yN Cdr.yB 1 (some .byte), .methodLink ST 335 Cdr.yN, .declares Cdr.yN, .selects ST Cdr.yN Cdr.yN, .instanceMethod Cdr.yN]
theorem tabLen_of {a : Array Value} {s : State} (h : ∀ w ∈ wordsLen, w.before a s = true) : Len.tab.before a s = true := by
  have hc : Cdr.tab.before a s = true := unparts (wk h (.code Cdr.yN Cdr.yB 1 (some .byte))) (wks h (.initialized Cdr.yN.cls :: Cdr.site))
  have q := consq hc h
  exact unparts (wk q (.code Len.yN Len.yB 1 (some .int))) (wks q (.initialized Len.yN.cls :: Len.site))
theorem movedLen {Z s : State} {a0 args : Array Value} (hZ : Z.Warmed39 s.vm) (hw : ∀ d ∈ wordsLen, d.before a0 Z = true) : ∀ d ∈ wordsLen, d.before args s = true := fun d hd => by
  have q := hw d hd
  have t : ∀ d ∈ wordsLen, d = .arrayClass .byte ∨ (d.onTables && d.keepsFace) = true := by decide +kernel
  rcases t d hd with rfl | t
  · exact RoadKit.mvA hZ q
  · exact RoadKit.mv hZ q t
/-- the bytes of the chars cs, low before high -/
def wideBytes : List Int32 → List Value
  | [] => []
  | c :: cs => .int (lo8 c) :: .int (hi8 c) :: wideBytes cs
theorem wide_lo (d : Value) : ∀ (cs : List Int32) (j : Nat), j < cs.length → (wideBytes cs).getD (2 * j) d = .int (lo8 (cs.getD j 0))
  | [], j, h => absurd h (Nat.not_lt_zero j)
  | c :: cs, 0, _ => rfl
  | c :: cs, j + 1, h => by
    have q := wide_lo d cs j (by simpa using h)
    rw [show 2 * (j + 1) = 2 * j + 1 + 1 from by omega]
    simpa [wideBytes] using q
theorem wide_hi (d : Value) : ∀ (cs : List Int32) (j : Nat), j < cs.length → (wideBytes cs).getD (2 * j + 1) d = .int (hi8 (cs.getD j 0))
  | [], j, h => absurd h (Nat.not_lt_zero j)
  | c :: cs, 0, _ => rfl
  | c :: cs, j + 1, h => by
    have q := wide_hi d cs j (by simpa using h)
    rw [show 2 * (j + 1) + 1 = 2 * j + 1 + 1 + 1 from by omega]
    simpa [wideBytes] using q
theorem low_at (d : Value) (cs : List Int32) (j : Nat) (h : j < cs.length) : (cs.map fun c => Value.int (lo8 c)).getD j d = .int (lo8 (cs.getD j 0)) := by
  simp [List.getD_eq_getElem?_getD, h]
/-- an array of N2 bytes vs codes the chars cs by the coder cd -/
def CodA (cs : List Int32) (cd N2 : Int32) (vs : List Value) : Prop := (cd = 0 ∧ N2 = Int32.ofNat cs.length ∧ vs = (cs.map fun c => Value.int (lo8 c)) ∧ ∀ c ∈ cs, ¬ 255 < c) ∨ (cd = 1 ∧ N2 = Int32.ofNat (2 * cs.length) ∧ vs = wideBytes cs ∧ ∃ c ∈ cs, 255 < c)
theorem CodA.cod {cs : List Int32} {cd N2 : Int32} {vs : List Value} {V : Cell} (h : CodA cs cd N2 vs) (hn : 2 * cs.length < 2 ^ 31) (hs : V.slots.size = N2.toNatClampNeg) (hv : RoadKit.Has V vs (.int 0)) : Cod cd cs.length (fun j => cs.getD j 0) V := by
  rcases h with ⟨rfl, rfl, rfl, h⟩ | ⟨rfl, rfl, rfl, c, hc, hw⟩
  · rw [n32 (by omega)] at hs
    exact Or.inl ⟨rfl, hs, fun j hj => ⟨by rw [hv j (by omega), low_at _ _ _ hj], by
      have e : cs.getD j 0 = cs[j] := by simp [List.getD_eq_getElem?_getD, hj]
      show ¬ 255 < cs.getD j 0
      rw [e]; exact h _ (List.getElem_mem _)⟩⟩
  · rw [n32 (by omega)] at hs
    obtain ⟨j, hj, rfl⟩ := List.getElem_of_mem hc
    exact Or.inr ⟨rfl, hs, fun j hj => ⟨by rw [hv _ (by omega), wide_lo _ _ _ hj], by rw [hv _ (by omega), wide_hi _ _ _ hj]⟩, j, hj, by
      have e : cs.getD j 0 = cs[j] := by simp [List.getD_eq_getElem?_getD, hj]
      show 255 < cs.getD j 0
      rw [e]; exact hw⟩
/-- an object of exactly java/lang/String, its two fields found: as the laws ask it -/
theorem strObj {Z U : State} {a0 : Array Value} {kI : Nat} (wi : (Jvm.Cond.instantiable ST kI).before a0 Z = true) (al : Z.vm.Alike U.vm) {x : Addr} {v0 c0 : Value} (E : RoadKit.Exa Z U.heap x ST) (V : RoadKit.Fld Z U.heap x ST "value" "[B" v0) (C : RoadKit.Fld Z U.heap x ST "coder" "B" c0) :
    ∃ (D : Cell) (fV fC : Field), Blank ST x D U ∧ Found ST "value" "[B" fV U ∧ Found ST "coder" "B" fC U ∧ D.slots[fV.slot]? = some v0 ∧ D.slots[fC.slot]? = some c0 ∧ RoadKit.slotOf Z ST "value" "[B" = fV.slot ∧ RoadKit.slotOf Z ST "coder" "B" = fC.slot := by
  obtain ⟨D, cfV, kV, iV, fV, hD, gV, stV, knV, obV, asV, slV⟩ := V
  obtain ⟨D', cfC, kC, iC, fC, hD', gC, stC, -, -, asC, slC⟩ := C
  cases hD.symm.trans hD'
  obtain ⟨D2, kD, e1, e2, e3, e4, e5⟩ := E
  cases hD.symm.trans e1
  obtain ⟨c2, k2, i1, i2, i3, -⟩ := Cond.instantiable_spec wi
  cases e2.symm.trans i1
  cases e3.symm.trans i2
  obtain ⟨kU, u1, u2⟩ := al.2.2 _ _ e3
  exact ⟨D, fV, fC, ⟨hD, ⟨knV, fun q hq => by rw [hq] at obV; cases obV⟩, by rw [al.findClass]; exact e2, kU, u1, by rw [u2]; exact i3, by rw [u2]; exact e5 i3⟩, ⟨SBG.found_only al ⟨cfV, kV, iV, gV⟩, stV⟩, ⟨SBG.found_only al ⟨cfC, kC, iC, gC⟩, stC⟩, slV, slC, by simp [RoadKit.slotOf, gV], by simp [RoadKit.slotOf, gC]⟩
theorem sta_is {Z U : State} (al : Z.vm.Alike U.vm) {C n d : String} {v : Value} (S : RoadKit.Sta Z U.heap C n d v) : StaticIs U C n d v := by
  obtain ⟨cfS, iS, kS, fS, st, cS, t1, t2, t3, t4, t5, t6, t7⟩ := S
  exact StaticIs.there (s := { Z with heap := U.heap }) ⟨cfS, iS, kS, fS, st, cS, t1, t2, t3, t4, t5, (fun q => by rw [q] at t6; cases t6), t7⟩ al rfl
/-- **length() OF SUCH A STRING** -/
theorem lenW {p : Program} {l : Launch} {e : Env} {R : Room} {s : State} {args : Array Value} {below : List Frame} {len W : Nat} {Z : State} {a0 : Array Value} {h : Heap} (hZ : Z.Warmed39 s.vm) (hw : ∀ d ∈ wordsLen, d.before a0 Z = true) {kI : Nat} (wi : (Jvm.Cond.instantiable ST kI).before a0 Z = true)
    {x t : Addr} {kb : ClassId} {cs : List Int32} {cd N2 z : Int32} {vs : List Value} (E : RoadKit.Exa Z h x ST) (V : RoadKit.Fld Z h x ST "value" "[B" (.ref t)) (C : RoadKit.Fld Z h x ST "coder" "B" (.int cd)) (K : RoadKit.Arv Z h t kb .byte N2 vs (.int 0)) (hc : CodA cs cd N2 vs) (hb : ∀ c ∈ cs, ¬ c < 0 ∧ ¬ (65535 : Int32) < c)
    (S : RoadKit.Sta Z h ST "COMPACT_STRINGS" "Z" (.int z)) (hz : ¬ z = 0) (l2 : cs.length ≤ 4000) (hfr : 2 ≤ R.frames) (hlo : W + 25 ≤ R.locals) :
    Back l R p e below s args (⟨"java/lang/String", "length", "()I"⟩ : MethodName) len W (fun P a => a = #[.ref x] ∧ P.U.heap = h ∧ P.cells + 0 ≤ R.cells ∧ P.slots + 0 ≤ R.slots)
      (fun P _ v B => ∃ L, (v = some (.int (Int32.ofNat cs.length)) ∧ L = [] ∧ B.U.heap = h) ∧ B.locs = P.locs ++ L ∧ B.cells = P.cells + 0 ∧ B.slots = P.slots + 0) := by
  obtain ⟨A, K1, K2, K3, K4, K5, K6⟩ := K
  have hcod := hc.cod (by omega) K3 K5
  intro m meth c P g ig mk a X hg hsize hdg hW hn hp'
  obtain ⟨rfl, rfl, r1, r2⟩ := hp'
  have al : Z.vm.Alike P.U.vm := hZ.alike.trans X.warmed.alike
  obtain ⟨D, fV, fC, hB, F1, F2, g1, g2, -, -⟩ := strObj wi al E V C
  have hx : Txt x t A cd cs.length (fun j => cs.getD j 0) P.U := ⟨⟨_, hB.2.2.1, D, hB.1, rfl, by cases q : D.vm <;> first | rfl | exact absurd q (hB.2.1.2 _)⟩, Has.of hB F1 g1, Has.of hB F2 g2, ⟨K1.1, State.isArrayOf_alike al K1.2.1, K1.2.2, by rcases hcod with ⟨-, q, -⟩ | ⟨-, q, -⟩ <;> omega⟩, hcod, fun j hj => by
    have e : cs.getD j 0 = cs[j] := by simp [List.getD_eq_getElem?_getD, hj]
    show ¬ cs.getD j 0 < 0 ∧ ¬ 65535 < cs.getD j 0
    rw [e]; exact hb _ (List.getElem_mem _)⟩
  obtain ⟨v, B, X', ⟨⟨hv, hh⟩, hl, hk, hs⟩, st⟩ := Len.pays x t A cd cs.length (fun j => cs.getD j 0) z (tabLen_of (movedLen hZ hw)) hfr hlo m meth c P g ig mk _ X hg hsize hdg hW hn ⟨r1, r2, rfl, hx, sta_is al S, hz⟩
  exact ⟨v, B, X', ⟨[], ⟨hv, rfl, hh⟩, hl, hk, hs⟩, st⟩
end StrChars.Road
namespace StrChars
open Jvm Sem ClassFile Op Lib Jvm.Stand Jvm.Free.XT Jvm.Free.ALB Jvm.Free.JM Jvm.Free
open Jvm.Lib.Cold (StaticIs)
namespace Emp
def yN : MethodName := ⟨"java/lang/String", "isEmpty", "()Z"⟩
abbrev yB : ByteArray := jdk_42_method_55_code
theorem d0 : decode yB 0 = .ok (.aload_n 0, 1) := by decide +kernel
theorem d1 : decode yB 1 = .ok (.getfield 9, 3) := by decide +kernel
theorem d4 : decode yB 4 = .ok (.arraylength, 1) := by decide +kernel
theorem d5 : decode yB 5 = .ok (.ifCond (.ne) 7, 3) := by decide +kernel
theorem d8 : decode yB 8 = .ok (.iconst 1, 1) := by decide +kernel
theorem d9 : decode yB 9 = .ok (.goto 4, 3) := by decide +kernel
theorem d12 : decode yB 12 = .ok (.iconst 0, 1) := by decide +kernel
theorem d13 : decode yB 13 = .ok (.ireturn, 1) := by decide +kernel
def site : List Cond := [.fieldLink "java/lang/String" 9 "java/lang/String" "value" "[B"]
def tab : Cond := tabOf yN yB 1 (some .boolean) site
def P (x t : Addr) (V : Cell) (cd : Int32) (n : Nat) (f : Nat → Int32) (args : Array Value) (s : State) : Prop := args = #[.ref x] ∧ Txt x t V cd n f s
def E (n : Nat) (r : Option Value) (s u : State) : Prop := XT.PureE (some (.int (if n = 0 then 1 else 0))) r s u
/-- isEmpty() of a String of n chars -/
theorem law (l : Launch) (x t : Addr) (V : Cell) (cd : Int32) (n : Nat) (f : Nat → Int32) : Law l yN 1 0 0 0 yB 1 (some .boolean) site (P x t V cd n f) (E n) [] 0 0 := by
  refine Law.of_walk (plainFor_of_name (by decide +kernel)) (by decide +kernel) (by decide +kernel) (by decide) (fun _ _ h => by rw [h.1]; rfl) (fun _ U U' hal hh h => ⟨h.1, h.2.mv hal hh⟩) (fun r U U' V V' h1 hal h2 h => XT.PureE.mv r U U' V V' h1 hal h2 h) ?_
  intro p e s m args below meth c s₁ X0 hexec hbytes hml hret hlk hnm hown hh0 W hP
  obtain ⟨rfl, hx⟩ := hP
  have v31 := hx.2.2.2.1.2.2.2
  have c1 : Steps p.tables e below (s₁.setTop (entryFrame m #[.ref x] 1)) (s₁.setTop (mkF m 1 #[.val (.ref x)] [.ref x])) := Steps.trans (entry rfl) (by
    show Steps p.tables e below (s₁.setTop (mkF m 0 #[.val (.ref x)] [])) _
    refine XS.aloadN X0.here hexec rfl (hb hbytes d0) rfl rfl ?_
    exact Steps.refl _)
  obtain ⟨T2, X2, q2, st2⟩ := X0.hget hexec hown (wk W (.fieldLink "java/lang/String" 9 "java/lang/String" "value" "[B")) (hx.mv X0.warmed.alike hh0).2.1 (g := (mkF m 1 #[.val (.ref x)] [.ref x])) rfl (rest := []) rfl (hb hbytes d1)
  have hh2 := q2.trans hh0
  have hx2 := hx.mv X2.warmed.alike hh2
  have c3 : Steps p.tables e below (s₁.setTop (entryFrame m #[.ref x] 1)) (T2.setTop (mkF m 5 #[.val (.ref x)] [.int (Int32.ofNat V.slots.size)])) := (c1.trans (st2 _ (Steps.refl _))).trans (by
    refine X2.alen hexec hx2.2.2.2.1 rfl rfl (hb hbytes d4) ?_
    exact Steps.refl _)
  have hz : V.slots.size = 0 ↔ n = 0 := by
    rcases hx.2.2.2.2.1 with ⟨-, q, -⟩ | ⟨-, q, -⟩ <;> omega
  by_cases h0 : n = 0
  · have c4 : Steps p.tables e below (s₁.setTop (entryFrame m #[.ref x] 1)) (T2.setTop (mkF m 13 #[.val (.ref x)] [.int 1])) := c3.trans (by
      refine XS.ifNo X2.here hexec rfl (hb hbytes d5) rfl (i0_ne_f (by rw [hz.mpr h0]; rfl)) ?_
      refine iconstV X2.here hexec rfl 1 (hb hbytes d8) (by decide) ?_
      refine XS.goto X2.here hexec rfl (pc0 := 9) rfl (hb hbytes d9) (by decide) rfl ?_
      exact Steps.refl _)
    exact ⟨T2, some (.int 1), _, _, _, X2, rfl, rfl, rfl, (fun h => by cases h), ⟨by rw [if_pos h0], hh2⟩, fun fs hl => c4.trans (X2.ireturnOut hexec hret rfl (Or.inr (Or.inl rfl)) (hb hbytes d13) hl)⟩
  · have c4 : Steps p.tables e below (s₁.setTop (entryFrame m #[.ref x] 1)) (T2.setTop (mkF m 13 #[.val (.ref x)] [.int 0])) := c3.trans (by
      refine XS.ifYes X2.here hexec rfl (pc0 := 5) rfl (hb hbytes d5) rfl (i0_ne_t (nz32 v31 (by omega))) (by decide) rfl ?_
      refine iconstV X2.here hexec rfl 0 (hb hbytes d12) (by decide) ?_
      exact Steps.refl _)
    exact ⟨T2, some (.int 0), _, _, _, X2, rfl, rfl, rfl, (fun h => by cases h), ⟨by rw [if_neg h0], hh2⟩, fun fs hl => c4.trans (X2.ireturnOut hexec hret rfl (Or.inr (Or.inl rfl)) (hb hbytes d13) hl)⟩
theorem pays {l : Launch} {R : Room} {p : Program} {e : Env} {below : List Frame} {s : State} {sargs : Array Value} {len W : Nat} (x t : Addr) (V : Cell) (cd : Int32) (n : Nat) (f : Nat → Int32) (htab : tab.before sargs s = true) (hfr : 1 ≤ R.frames) (hlo : W + 12 ≤ R.locals) :
    Back l R p e below s sargs yN len W (fun A₁ a₁ => A₁.cells + 0 ≤ R.cells ∧ A₁.slots + 0 ≤ R.slots ∧ P x t V cd n f a₁ A₁.U) (fun A₁ _ v₁ B₁ => E n v₁ A₁.U B₁.U ∧ B₁.locs = A₁.locs ++ [] ∧ B₁.cells = A₁.cells + 0 ∧ B₁.slots = A₁.slots + 0) :=
  (law l x t V cd n f).pays htab hfr (by omega)
end Emp
/-- what place i of a byte[]'s cell holds -/
def yv (A : Cell) (i : Nat) : Int32 := match A.slots[i]? with | some (.int x) => x | _ => 0
theorem yv_get {a : Addr} {A : Cell} {U : State} (h : XT.Arr .byte a A U) (ht : Typed .byte A) {i : Nat} (hi : i < A.slots.size) : A.slots[i]? = some (.int (yv A i)) := by
  have e := Array.getElem?_eq_getElem hi
  have f := ht i _ e
  unfold yv; rw [e]
  generalize A.slots[i] = v at f
  cases v <;> simp [fits] at f ⊢
/-- the two arrays are equal, place for place -/
def EqC (A B : Cell) : Prop := A.slots.size = B.slots.size ∧ ∀ i, i < A.slots.size → yv A i = yv B i
/-- a boolean that says whether p -/
def Says01 (q : Prop) (r : Option Value) (s u : State) : Prop := ∃ v : Int32, r = some (.int v) ∧ u.heap = s.heap ∧ ((v = 1 ∧ q) ∨ (v = 0 ∧ ¬ q))
theorem Says01.mv {q : Prop} : ∀ r (U U' V V' : State), U'.heap = U.heap → V.vm.Alike V'.vm → V'.heap = V.heap → Says01 q r U V → Says01 q r U' V' :=
  fun r U U' V V' h1 _ h2 ⟨v, a, b, c⟩ => ⟨v, a, by rw [h1, h2]; exact b, c⟩
namespace LEq
def yN : MethodName := ⟨"java/lang/StringLatin1", "equals", "([B[B)Z"⟩
abbrev yB : ByteArray := jdk_43_method_13_code
theorem d0 : decode yB 0 = .ok (.aload_n 0, 1) := by decide +kernel
theorem d1 : decode yB 1 = .ok (.arraylength, 1) := by decide +kernel
theorem d2 : decode yB 2 = .ok (.aload_n 1, 1) := by decide +kernel
theorem d3 : decode yB 3 = .ok (.arraylength, 1) := by decide +kernel
theorem d4 : decode yB 4 = .ok (.if_icmp (.ne) 30, 3) := by decide +kernel
theorem d7 : decode yB 7 = .ok (.iconst 0, 1) := by decide +kernel
theorem d8 : decode yB 8 = .ok (.istore_n 2, 1) := by decide +kernel
theorem d9 : decode yB 9 = .ok (.iload_n 2, 1) := by decide +kernel
theorem d10 : decode yB 10 = .ok (.aload_n 0, 1) := by decide +kernel
theorem d11 : decode yB 11 = .ok (.arraylength, 1) := by decide +kernel
theorem d12 : decode yB 12 = .ok (.if_icmp (.ge) 20, 3) := by decide +kernel
theorem d15 : decode yB 15 = .ok (.aload_n 0, 1) := by decide +kernel
theorem d16 : decode yB 16 = .ok (.iload_n 2, 1) := by decide +kernel
theorem d17 : decode yB 17 = .ok (.baload, 1) := by decide +kernel
theorem d18 : decode yB 18 = .ok (.aload_n 1, 1) := by decide +kernel
theorem d19 : decode yB 19 = .ok (.iload_n 2, 1) := by decide +kernel
theorem d20 : decode yB 20 = .ok (.baload, 1) := by decide +kernel
theorem d21 : decode yB 21 = .ok (.if_icmp (.eq) 5, 3) := by decide +kernel
theorem d24 : decode yB 24 = .ok (.iconst 0, 1) := by decide +kernel
theorem d25 : decode yB 25 = .ok (.ireturn, 1) := by decide +kernel
theorem d26 : decode yB 26 = .ok (.iinc 2 1, 3) := by decide +kernel
theorem d29 : decode yB 29 = .ok (.goto (-20), 3) := by decide +kernel
theorem d32 : decode yB 32 = .ok (.iconst 1, 1) := by decide +kernel
theorem d33 : decode yB 33 = .ok (.ireturn, 1) := by decide +kernel
theorem d34 : decode yB 34 = .ok (.iconst 0, 1) := by decide +kernel
theorem d35 : decode yB 35 = .ok (.ireturn, 1) := by decide +kernel
def site : List Cond := []
def tab : Cond := tabOf yN yB 3 (some .boolean) site
def P (a : Addr) (A : Cell) (b : Addr) (B : Cell) (args : Array Value) (s : State) : Prop := args = #[.ref a, .ref b] ∧ XT.Arr .byte a A s ∧ Typed .byte A ∧ XT.Arr .byte b B s ∧ Typed .byte B
/-- whether two byte[] are equal, place for place -/
theorem law (l : Launch) (a : Addr) (A : Cell) (b : Addr) (B : Cell) : Law l yN 2 2 0 0 yB 3 (some .boolean) site (P a A b B) (Says01 (EqC A B)) [] 0 0 := by
  refine Law.of_walk (plainFor_of_name (by decide +kernel)) (by decide +kernel) (by decide +kernel) (by decide) (fun _ _ h => by rw [h.1]; rfl) (fun _ U U' hal hh h => ⟨h.1, h.2.1.mv hal hh, h.2.2.1, h.2.2.2.1.mv hal hh, h.2.2.2.2⟩) (fun r U U' V V' h1 hal h2 h => Says01.mv r U U' V V' h1 hal h2 h) ?_
  intro p e s m args below meth c s₁ X0 hexec hbytes hml hret hlk hnm hown hh0 W hP
  obtain ⟨rfl, hA, tA, hB, tB⟩ := hP
  have a31 := hA.2.2.2
  have b31 := hB.2.2.2
  have hA0 := hA.mv X0.warmed.alike hh0
  have hB0 := hB.mv X0.warmed.alike hh0
  have c1 : Steps p.tables e below (s₁.setTop (entryFrame m #[.ref a, .ref b] 3)) (s₁.setTop (mkF m 0 #[.val (.ref a), .val (.ref b), .unset] [])) := entry rfl
  have c2 : Steps p.tables e below (s₁.setTop (entryFrame m #[.ref a, .ref b] 3)) (s₁.setTop (mkF m 4 #[.val (.ref a), .val (.ref b), .unset] [.int (Int32.ofNat B.slots.size), .int (Int32.ofNat A.slots.size)])) := c1.trans (by
    refine XS.aloadN X0.here hexec rfl (hb hbytes d0) rfl rfl ?_
    refine X0.alen hexec hA0 rfl rfl (hb hbytes d1) ?_
    refine XS.aloadN X0.here hexec rfl (hb hbytes d2) rfl rfl ?_
    refine X0.alen hexec hB0 rfl rfl (hb hbytes d3) ?_
    exact Steps.refl _)
  by_cases hs : A.slots.size = B.slots.size
  · have c3 : Steps p.tables e below (s₁.setTop (entryFrame m #[.ref a, .ref b] 3)) (s₁.setTop (mkF m 9 #[.val (.ref a), .val (.ref b), .val (.int 0)] [])) := c2.trans (by
      refine XS.icmpNo X0.here hexec rfl (hb hbytes d4) rfl (ii_ne_f (by rw [hs])) ?_
      refine iconstV X0.here hexec rfl 0 (hb hbytes d7) (by decide) ?_
      refine XS.istoreN X0.here hexec rfl (hb hbytes d8) rfl rfl ?_
      exact Steps.refl _)
    have loop : ∀ (r i : Nat), i + r = A.slots.size → (∀ j, j < i → yv A j = yv B j) → Steps p.tables e below (s₁.setTop (entryFrame m #[.ref a, .ref b] 3)) (s₁.setTop (mkF m 9 #[.val (.ref a), .val (.ref b), .val (.int (Int32.ofNat i))] [])) → ∃ (pc : Nat) (Ls : Array Slot) (v : Int32), (pc = 25 ∨ pc = 33) ∧ ((v = 1 ∧ EqC A B) ∨ (v = 0 ∧ ¬ EqC A B)) ∧ Steps p.tables e below (s₁.setTop (entryFrame m #[.ref a, .ref b] 3)) (s₁.setTop (mkF m pc Ls [.int v])) := by
      intro r
      induction r with
      | zero =>
        intro i hi he cl
        exact ⟨33, _, 1, Or.inr rfl, Or.inl ⟨rfl, hs, fun j hj => he j (by omega)⟩, cl.trans (by
          refine XS.iloadN X0.here hexec rfl (hb hbytes d9) rfl ?_
          refine XS.aloadN X0.here hexec rfl (hb hbytes d10) rfl rfl ?_
          refine X0.alen hexec hA0 rfl rfl (hb hbytes d11) ?_
          refine XS.icmpYes X0.here hexec rfl (pc0 := 12) rfl (hb hbytes d12) rfl (ii_ge_t (nlt32 (by omega) (by omega))) (by decide) rfl ?_
          refine iconstV X0.here hexec rfl 1 (hb hbytes d32) (by decide) ?_
          exact Steps.refl _)⟩
      | succ r ih =>
        intro i hi he cl
        have c4 : Steps p.tables e below (s₁.setTop (entryFrame m #[.ref a, .ref b] 3)) (s₁.setTop (mkF m 21 #[.val (.ref a), .val (.ref b), .val (.int (Int32.ofNat i))] [.int (yv B i), .int (yv A i)])) := cl.trans (by
          refine XS.iloadN X0.here hexec rfl (hb hbytes d9) rfl ?_
          refine XS.aloadN X0.here hexec rfl (hb hbytes d10) rfl rfl ?_
          refine X0.alen hexec hA0 rfl rfl (hb hbytes d11) ?_
          refine XS.icmpNo X0.here hexec rfl (hb hbytes d12) rfl (ii_ge_f (lt32 (by omega) (by omega))) ?_
          refine XS.aloadN X0.here hexec rfl (hb hbytes d15) rfl rfl ?_
          refine XS.iloadN X0.here hexec rfl (hb hbytes d16) rfl ?_
          refine X0.aget hexec hA0 rfl (yv_get hA tA (i := i) (by omega)) rfl rfl (hb hbytes d17) ?_
          refine XS.aloadN X0.here hexec rfl (hb hbytes d18) rfl rfl ?_
          refine XS.iloadN X0.here hexec rfl (hb hbytes d19) rfl ?_
          refine X0.aget hexec hB0 rfl (yv_get hB tB (i := i) (by omega)) rfl rfl (hb hbytes d20) ?_
          exact Steps.refl _)
        by_cases hv : yv A i = yv B i
        · have c5 : Steps p.tables e below (s₁.setTop (entryFrame m #[.ref a, .ref b] 3)) (s₁.setTop (mkF m 9 #[.val (.ref a), .val (.ref b), .val (.int (Int32.ofNat i + 1))] [])) := c4.trans (by
            refine XS.icmpYes X0.here hexec rfl (pc0 := 21) rfl (hb hbytes d21) rfl (ii_eq_t hv) (by decide) rfl ?_
            refine iincV X0.here hexec rfl 1 (hb hbytes d26) (by decide) rfl rfl ?_
            refine XS.goto X0.here hexec rfl (pc0 := 29) rfl (hb hbytes d29) (by decide) rfl ?_
            exact Steps.refl _)
          rw [succ32] at c5
          exact ih (i + 1) (by omega) (fun j hj => by
            by_cases e : j = i
            · rw [e]; exact hv
            · exact he j (by omega)) c5
        · exact ⟨25, _, 0, Or.inl rfl, Or.inr ⟨rfl, fun q => hv (q.2 i (by omega))⟩, c4.trans (by
            refine XS.icmpNo X0.here hexec rfl (hb hbytes d21) rfl (ii_eq_f hv) ?_
            refine iconstV X0.here hexec rfl 0 (hb hbytes d24) (by decide) ?_
            exact Steps.refl _)⟩
    obtain ⟨pc, Ls, v, hpc, hv, cz⟩ := loop A.slots.size 0 (by omega) (fun j hj => absurd hj (Nat.not_lt_zero j)) c3
    have nv : narrow .boolean (.int v) = .int v := by rcases hv with ⟨rfl, -⟩ | ⟨rfl, -⟩ <;> rfl
    rcases hpc with rfl | rfl
    · exact ⟨s₁, some (.int v), _, _, _, X0, rfl, rfl, rfl, (fun h => by cases h), ⟨v, rfl, hh0, hv⟩, fun fs hl => cz.trans (X0.ireturnOut hexec hret nv (Or.inr (Or.inl rfl)) (hb hbytes d25) hl)⟩
    · exact ⟨s₁, some (.int v), _, _, _, X0, rfl, rfl, rfl, (fun h => by cases h), ⟨v, rfl, hh0, hv⟩, fun fs hl => cz.trans (X0.ireturnOut hexec hret nv (Or.inr (Or.inl rfl)) (hb hbytes d33) hl)⟩
  · have c3 : Steps p.tables e below (s₁.setTop (entryFrame m #[.ref a, .ref b] 3)) (s₁.setTop (mkF m 35 #[.val (.ref a), .val (.ref b), .unset] [.int 0])) := c2.trans (by
      refine XS.icmpYes X0.here hexec rfl (pc0 := 4) rfl (hb hbytes d4) rfl (ii_ne_t (ne32 a31 b31 hs)) (by decide) rfl ?_
      refine iconstV X0.here hexec rfl 0 (hb hbytes d34) (by decide) ?_
      exact Steps.refl _)
    exact ⟨s₁, some (.int 0), _, _, _, X0, rfl, rfl, rfl, (fun h => by cases h), ⟨0, rfl, hh0, Or.inr ⟨rfl, fun q => hs q.1⟩⟩, fun fs hl => c3.trans (X0.ireturnOut hexec hret rfl (Or.inr (Or.inl rfl)) (hb hbytes d35) hl)⟩
end LEq
theorem Cod.ty {cd : Int32} {n : Nat} {f : Nat → Int32} {V : Cell} (h : Cod cd n f V) : Typed .byte V := fun i v hv => by
  have hi : i < V.slots.size := (Array.getElem?_eq_some_iff.mp hv).1
  rcases h with ⟨-, k1, k2⟩ | ⟨-, k1, k2, -⟩
  · rw [(k2 i (by omega)).1] at hv; cases hv; exact fits_lo8 _
  · rcases Nat.mod_two_eq_zero_or_one i with e | e
    · obtain ⟨j, rfl⟩ : ∃ j, i = 2 * j := ⟨i / 2, by omega⟩
      rw [(k2 j (by omega)).1] at hv; cases hv; exact fits_lo8 _
    · obtain ⟨j, rfl⟩ : ∃ j, i = 2 * j + 1 := ⟨i / 2, by omega⟩
      rw [(k2 j (by omega)).2] at hv; cases hv; exact fits_lo8 _
/-- the same text -/
def SameT (n : Nat) (f : Nat → Int32) (k : Nat) (g : Nat → Int32) : Prop := n = k ∧ ∀ j, j < n → f j = g j
theorem lo8_inj {x y : Int32} (h0 : ¬ x < 0) (h1 : ¬ 255 < x) (k0 : ¬ y < 0) (k1 : ¬ 255 < y) (h : lo8 x = lo8 y) : x = y := by
  rw [← lo8_mask h0 h1, ← lo8_mask k0 k1, h]
/-- arrays coded by one coder are equal just where the texts are -/
theorem Cod.eqv {cd : Int32} {n k : Nat} {f g : Nat → Int32} {V V' : Cell} (h : Cod cd n f V) (h' : Cod cd k g V') (hf : ∀ j, j < n → ¬ f j < 0 ∧ ¬ 65535 < f j) (hg : ∀ j, j < k → ¬ g j < 0 ∧ ¬ 65535 < g j) : EqC V V' ↔ SameT n f k g := by
  have yvv : ∀ {W : Cell} {i : Nat} {x : Int32}, W.slots[i]? = some (.int x) → yv W i = x := fun q => by unfold yv; rw [q]
  rcases h with ⟨rfl, k1, k2⟩ | ⟨rfl, k1, k2, -⟩
  · rcases h' with ⟨-, m1, m2⟩ | ⟨e, -⟩
    · constructor
      · rintro ⟨e1, e2⟩
        refine ⟨by omega, fun j hj => ?_⟩
        have q := e2 j (by omega)
        rw [yvv (k2 j hj).1, yvv (m2 j (by omega)).1] at q
        exact lo8_inj (hf j hj).1 (k2 j hj).2 (hg j (by omega)).1 (m2 j (by omega)).2 q
      · rintro ⟨rfl, e2⟩
        refine ⟨by omega, fun j hj => ?_⟩
        rw [yvv (k2 j (by omega)).1, yvv (m2 j (by omega)).1, e2 j (by omega)]
    · exact absurd e (by decide)
  · rcases h' with ⟨e, -⟩ | ⟨-, m1, m2, -⟩
    · exact absurd e (by decide)
    · constructor
      · rintro ⟨e1, e2⟩
        refine ⟨by omega, fun j hj => ?_⟩
        have q1 := e2 (2 * j) (by omega)
        have q2 := e2 (2 * j + 1) (by omega)
        rw [yvv (k2 j hj).1, yvv (m2 j (by omega)).1] at q1
        rw [yvv (k2 j hj).2, yvv (m2 j (by omega)).2] at q2
        rw [← pair_says (hf j hj).1 (hf j hj).2, ← pair_says (hg j (by omega)).1 (hg j (by omega)).2, q1, q2]
      · rintro ⟨rfl, e2⟩
        refine ⟨by omega, fun i hi => ?_⟩
        rcases Nat.mod_two_eq_zero_or_one i with e | e
        · obtain ⟨j, rfl⟩ : ∃ j, i = 2 * j := ⟨i / 2, by omega⟩
          rw [yvv (k2 j (by omega)).1, yvv (m2 j (by omega)).1, e2 j (by omega)]
        · obtain ⟨j, rfl⟩ : ∃ j, i = 2 * j + 1 := ⟨i / 2, by omega⟩
          rw [yvv (k2 j (by omega)).2, yvv (m2 j (by omega)).2, e2 j (by omega)]
/-- two codings differ: so do the texts -/
theorem Cod.dif {cd cd' : Int32} {n k : Nat} {f g : Nat → Int32} {V V' : Cell} (h : Cod cd n f V) (h' : Cod cd' k g V') (hne : ¬ cd = cd') : ¬ SameT n f k g := by
  rintro ⟨rfl, e⟩
  rcases h with ⟨rfl, -, k2⟩ | ⟨rfl, -, -, j, hj, hw⟩
  · rcases h' with ⟨rfl, -⟩ | ⟨-, -, -, j, hj, hw⟩
    · exact hne rfl
    · exact (k2 j hj).2 (by rw [e j hj]; exact hw)
  · rcases h' with ⟨-, -, m2⟩ | ⟨rfl, -⟩
    · exact (m2 j hj).2 (by rw [← e j hj]; exact hw)
    · exact hne rfl
/-- an object of exactly C is an instance of C -/
theorem cinst {p : Program} {l : Launch} {e : Env} {R : Room} {s : State} {m : MethodId} {args : Array Value} {below : List Frame} {meth : Method} {c : Code} {T : State} {locs : List Loc} {cells slots : Nat} (X : Stand p l e R s m args below meth c T locs cells slots) (hexec : p.tables.exec = Jvm.exec) {own C : String} {index : Nat} (hown : s.vm.findClass own = some m.cls) (hlink : (Cond.classLink own index C).before args s = true) {a : Addr} (hE : Exact C a T)
    {g : JFrame} (hg : g.method = m) {rest : List Value} (hstack : g.stack = .ref a :: rest) (hdg : decode c.code g.pc = .ok (.instanceof index, 3)) :
    ∃ T', Stand p l e R s m args below meth c T' locs cells slots ∧ T'.heap = T.heap ∧ ∀ target, Steps p.tables e below (T'.setTop { g with pc := g.pc + 3, stack := .int 1 :: rest }) target → Steps p.tables e below (T.setTop g) target := by
  obtain ⟨cB, h1, D, h2, h3, h4⟩ := hE
  have h1' : s.vm.findClass C = some cB := by rw [← X.warmed.alike.findClass]; exact h1
  obtain ⟨vm', X', st⟩ := X.instanceofYes hexec hown hlink h2 h4 h1' (by rw [h3]; exact Jvm.Free.SB.assignable_self _ _) hg hstack hdg
  exact ⟨_, X', rfl, st⟩
theorem cself {p : Program} {l : Launch} {e : Env} {R : Room} {s : State} {m : MethodId} {args : Array Value} {below : List Frame} {meth : Method} {c : Code} {T : State} {locs : List Loc} {cells slots : Nat} (X : Stand p l e R s m args below meth c T locs cells slots) (hexec : p.tables.exec = Jvm.exec) {own C : String} {index : Nat} (hown : s.vm.findClass own = some m.cls) (hlink : (Cond.classLink own index C).before args s = true) {a : Addr} (hE : Exact C a T)
    {g : JFrame} (hg : g.method = m) {rest : List Value} (hstack : g.stack = .ref a :: rest) (hdg : decode c.code g.pc = .ok (.checkcast index, 3)) :
    ∃ T', Stand p l e R s m args below meth c T' locs cells slots ∧ T'.heap = T.heap ∧ ∀ target, Steps p.tables e below (T'.setTop { g with pc := g.pc + 3, stack := .ref a :: rest }) target → Steps p.tables e below (T.setTop g) target := by
  obtain ⟨cB, h1, D, h2, h3, h4⟩ := hE
  have h1' : s.vm.findClass C = some cB := by rw [← X.warmed.alike.findClass]; exact h1
  obtain ⟨vm', X', st⟩ := X.checkcastYes hexec hown hlink h2 h4 h1' (by rw [h3]; exact Jvm.Free.SB.assignable_self _ _) hg hstack hdg
  exact ⟨_, X', rfl, fun t h => st t (by rw [← hstack] at h; exact h)⟩
namespace SEq
def yN : MethodName := ⟨"java/lang/String", "equals", "(Ljava/lang/Object;)Z"⟩
abbrev yB : ByteArray := jdk_42_method_66_code
theorem d0 : decode yB 0 = .ok (.aload_n 0, 1) := by decide +kernel
theorem d1 : decode yB 1 = .ok (.aload_n 1, 1) := by decide +kernel
theorem d2 : decode yB 2 = .ok (.if_acmp (.ne) 5, 3) := by decide +kernel
theorem d5 : decode yB 5 = .ok (.iconst 1, 1) := by decide +kernel
theorem d6 : decode yB 6 = .ok (.ireturn, 1) := by decide +kernel
theorem d7 : decode yB 7 = .ok (.aload_n 1, 1) := by decide +kernel
theorem d8 : decode yB 8 = .ok (.instanceof 10, 3) := by decide +kernel
theorem d11 : decode yB 11 = .ok (.ifCond (.eq) 43, 3) := by decide +kernel
theorem d14 : decode yB 14 = .ok (.aload_n 1, 1) := by decide +kernel
theorem d15 : decode yB 15 = .ok (.checkcast 10, 3) := by decide +kernel
theorem d18 : decode yB 18 = .ok (.astore_n 2, 1) := by decide +kernel
theorem d19 : decode yB 19 = .ok (.getstatic 38, 3) := by decide +kernel
theorem d22 : decode yB 22 = .ok (.ifCond (.eq) 14, 3) := by decide +kernel
theorem d25 : decode yB 25 = .ok (.aload_n 0, 1) := by decide +kernel
theorem d26 : decode yB 26 = .ok (.getfield 15, 3) := by decide +kernel
theorem d29 : decode yB 29 = .ok (.aload_n 2, 1) := by decide +kernel
theorem d30 : decode yB 30 = .ok (.getfield 15, 3) := by decide +kernel
theorem d33 : decode yB 33 = .ok (.if_icmp (.ne) 21, 3) := by decide +kernel
theorem d36 : decode yB 36 = .ok (.aload_n 0, 1) := by decide +kernel
theorem d37 : decode yB 37 = .ok (.getfield 9, 3) := by decide +kernel
theorem d40 : decode yB 40 = .ok (.aload_n 2, 1) := by decide +kernel
theorem d41 : decode yB 41 = .ok (.getfield 9, 3) := by decide +kernel
theorem d44 : decode yB 44 = .ok (.invokestatic 541, 3) := by decide +kernel
theorem d47 : decode yB 47 = .ok (.ifCond (.eq) 7, 3) := by decide +kernel
theorem d50 : decode yB 50 = .ok (.iconst 1, 1) := by decide +kernel
theorem d51 : decode yB 51 = .ok (.goto 4, 3) := by decide +kernel
theorem d54 : decode yB 54 = .ok (.iconst 0, 1) := by decide +kernel
theorem d55 : decode yB 55 = .ok (.ireturn, 1) := by decide +kernel
def site : List Cond := [.classLink "java/lang/String" 10 "java/lang/String", .fieldLink "java/lang/String" 38 "java/lang/String" "COMPACT_STRINGS" "Z", .fieldLink "java/lang/String" 15 "java/lang/String" "coder" "B", .fieldLink "java/lang/String" 9 "java/lang/String" "value" "[B", LEq.tab] ++ staticW "java/lang/String" 541 LEq.yN
def tab : Cond := tabOf yN yB 3 (some .boolean) site
def P (x t : Addr) (V : Cell) (cd : Int32) (n : Nat) (f : Nat → Int32) (y t' : Addr) (V' : Cell) (cd' : Int32) (k : Nat) (g : Nat → Int32) (z : Int32) (args : Array Value) (s : State) : Prop := args = #[.ref x, .ref y] ∧ Txt x t V cd n f s ∧ Txt y t' V' cd' k g s ∧ StaticIs s "java/lang/String" "COMPACT_STRINGS" "Z" (.int z) ∧ ¬ z = 0
/-- equals(Object) of two Strings: whether the texts are the same -/
theorem law (l : Launch) (x t : Addr) (V : Cell) (cd : Int32) (n : Nat) (f : Nat → Int32) (y t' : Addr) (V' : Cell) (cd' : Int32) (k : Nat) (g : Nat → Int32) (z : Int32) : Law l yN 2 1 1 14 yB 3 (some .boolean) site (P x t V cd n f y t' V' cd' k g z) (Says01 (SameT n f k g)) [] 0 0 := by
  refine Law.of_walk (plainFor_of_name (by decide +kernel)) (by decide +kernel) (by decide +kernel) (by decide) (fun _ _ h => by rw [h.1]; rfl) (fun _ U U' hal hh h => ⟨h.1, h.2.1.mv hal hh, h.2.2.1.mv hal hh, h.2.2.2.1.there hal hh, h.2.2.2.2⟩) (fun r U U' V V' h1 hal h2 h => Says01.mv r U U' V V' h1 hal h2 h) ?_
  intro p e s m args below meth c s₁ X0 hexec hbytes hml hret hlk hnm hown hh0 W hP
  obtain ⟨rfl, hx, hy, s1, hz⟩ := hP
  have c1 : Steps p.tables e below (s₁.setTop (entryFrame m #[.ref x, .ref y] 3)) (s₁.setTop (mkF m 2 #[.val (.ref x), .val (.ref y), .unset] [.ref y, .ref x])) := Steps.trans (entry rfl) (by
    show Steps p.tables e below (s₁.setTop (mkF m 0 #[.val (.ref x), .val (.ref y), .unset] [])) _
    refine XS.aloadN X0.here hexec rfl (hb hbytes d0) rfl rfl ?_
    refine XS.aloadN X0.here hexec rfl (hb hbytes d1) rfl rfl ?_
    exact Steps.refl _)
  by_cases hxy : x = y
  · have c2 : Steps p.tables e below (s₁.setTop (entryFrame m #[.ref x, .ref y] 3)) (s₁.setTop (mkF m 6 #[.val (.ref x), .val (.ref y), .unset] [.int 1])) := c1.trans (by
      refine acmpNo X0.here hexec rfl (hb hbytes d2) rfl rfl rfl (by simp [acmp, hxy]) ?_
      refine iconstV X0.here hexec rfl 1 (hb hbytes d5) (by decide) ?_
      exact Steps.refl _)
    subst hxy
    have ec : cd = cd' := by
      obtain ⟨D, fd, a1, a2, a3⟩ := hx.2.2.1
      obtain ⟨D', fd', b1, b2, b3⟩ := hy.2.2.1
      cases a1.symm.trans b1
      obtain ⟨q1, q2, q3, q4⟩ := a2.1
      obtain ⟨r1, r2, r3, r4⟩ := b2.1
      cases q4.symm.trans r4
      cases a3.symm.trans b3; rfl
    have et : t = t' := by
      obtain ⟨D, fd, a1, a2, a3⟩ := hx.2.1
      obtain ⟨D', fd', b1, b2, b3⟩ := hy.2.1
      cases a1.symm.trans b1
      obtain ⟨q1, q2, q3, q4⟩ := a2.1
      obtain ⟨r1, r2, r3, r4⟩ := b2.1
      cases q4.symm.trans r4
      cases a3.symm.trans b3; rfl
    subst ec et
    have ev : V = V' := by cases hx.2.2.2.1.1.symm.trans hy.2.2.2.1.1; rfl
    subst ev
    have hs : SameT n f k g := (Cod.eqv hx.2.2.2.2.1 hy.2.2.2.2.1 hx.2.2.2.2.2 hy.2.2.2.2.2).mp ⟨rfl, fun _ _ => rfl⟩
    exact ⟨s₁, some (.int 1), _, _, _, X0, rfl, rfl, rfl, (fun h => by cases h), ⟨1, rfl, hh0, Or.inl ⟨rfl, hs⟩⟩, fun fs hl => c2.trans (X0.ireturnOut hexec hret rfl (Or.inr (Or.inl rfl)) (hb hbytes d6) hl)⟩
  · have c2 : Steps p.tables e below (s₁.setTop (entryFrame m #[.ref x, .ref y] 3)) (s₁.setTop (mkF m 8 #[.val (.ref x), .val (.ref y), .unset] [.ref y])) := c1.trans (by
      refine acmpYes X0.here hexec rfl (pc0 := 2) rfl (hb hbytes d2) rfl rfl rfl (by simp [acmp, hxy]) (by decide) rfl ?_
      refine XS.aloadN X0.here hexec rfl (hb hbytes d7) rfl rfl ?_
      exact Steps.refl _)
    obtain ⟨T3, X3, q3, st3⟩ := cinst X0 hexec hown (wk W (.classLink "java/lang/String" 10 "java/lang/String")) (hy.mv X0.warmed.alike hh0).1 (g := (mkF m 8 #[.val (.ref x), .val (.ref y), .unset] [.ref y])) rfl (rest := []) rfl (hb hbytes d8)
    have hh3 := q3.trans hh0
    have c4 : Steps p.tables e below (s₁.setTop (entryFrame m #[.ref x, .ref y] 3)) (T3.setTop (mkF m 15 #[.val (.ref x), .val (.ref y), .unset] [.ref y])) := (c2.trans (st3 _ (Steps.refl _))).trans (by
      refine XS.ifNo X3.here hexec rfl (hb hbytes d11) rfl (i0_eq_f (by decide)) ?_
      refine XS.aloadN X3.here hexec rfl (hb hbytes d14) rfl rfl ?_
      exact Steps.refl _)
    obtain ⟨T5, X5, q5, st5⟩ := cself X3 hexec hown (wk W (.classLink "java/lang/String" 10 "java/lang/String")) (hy.mv X3.warmed.alike hh3).1 (g := (mkF m 15 #[.val (.ref x), .val (.ref y), .unset] [.ref y])) rfl (rest := []) rfl (hb hbytes d15)
    have hh5 := q5.trans hh3
    have c6 : Steps p.tables e below (s₁.setTop (entryFrame m #[.ref x, .ref y] 3)) (T5.setTop (mkF m 19 #[.val (.ref x), .val (.ref y), .val (.ref y)] [])) := (c4.trans (st5 _ (Steps.refl _))).trans (by
      refine XS.astoreN X5.here hexec rfl (hb hbytes d18) rfl rfl rfl ?_
      exact Steps.refl _)
    obtain ⟨T7, X7, q7, st7⟩ := X5.sget hexec hown (wk W (.fieldLink "java/lang/String" 38 "java/lang/String" "COMPACT_STRINGS" "Z")) s1 (fun _ _ h => by rw [hh5]; exact h) (g := (mkF m 19 #[.val (.ref x), .val (.ref y), .val (.ref y)] [])) rfl (hb hbytes d19)
    have hh7 := q7.trans hh5
    have c8 : Steps p.tables e below (s₁.setTop (entryFrame m #[.ref x, .ref y] 3)) (T7.setTop (mkF m 26 #[.val (.ref x), .val (.ref y), .val (.ref y)] [.ref x])) := (c6.trans (st7 _ (Steps.refl _))).trans (by
      refine XS.ifNo X7.here hexec rfl (hb hbytes d22) rfl (i0_eq_f hz) ?_
      refine XS.aloadN X7.here hexec rfl (hb hbytes d25) rfl rfl ?_
      exact Steps.refl _)
    obtain ⟨T9, X9, q9, st9⟩ := X7.hget hexec hown (wk W (.fieldLink "java/lang/String" 15 "java/lang/String" "coder" "B")) (hx.mv X7.warmed.alike hh7).2.2.1 (g := (mkF m 26 #[.val (.ref x), .val (.ref y), .val (.ref y)] [.ref x])) rfl (rest := []) rfl (hb hbytes d26)
    have hh9 := q9.trans hh7
    have c10 : Steps p.tables e below (s₁.setTop (entryFrame m #[.ref x, .ref y] 3)) (T9.setTop (mkF m 30 #[.val (.ref x), .val (.ref y), .val (.ref y)] [.ref y, .int cd])) := (c8.trans (st9 _ (Steps.refl _))).trans (by
      refine XS.aloadN X9.here hexec rfl (hb hbytes d29) rfl rfl ?_
      exact Steps.refl _)
    obtain ⟨T11, X11, q11, st11⟩ := X9.hget hexec hown (wk W (.fieldLink "java/lang/String" 15 "java/lang/String" "coder" "B")) (hy.mv X9.warmed.alike hh9).2.2.1 (g := (mkF m 30 #[.val (.ref x), .val (.ref y), .val (.ref y)] [.ref y, .int cd])) rfl (rest := [.int cd]) rfl (hb hbytes d30)
    have hh11 := q11.trans hh9
    have c12 : Steps p.tables e below (s₁.setTop (entryFrame m #[.ref x, .ref y] 3)) (T11.setTop (mkF m 33 #[.val (.ref x), .val (.ref y), .val (.ref y)] [.int cd', .int cd])) := c10.trans (st11 _ (Steps.refl _))
    by_cases hcd : cd = cd'
    · subst hcd
      have c13 : Steps p.tables e below (s₁.setTop (entryFrame m #[.ref x, .ref y] 3)) (T11.setTop (mkF m 37 #[.val (.ref x), .val (.ref y), .val (.ref y)] [.ref x])) := c12.trans (by
        refine XS.icmpNo X11.here hexec rfl (hb hbytes d33) rfl (ii_ne_f rfl) ?_
        refine XS.aloadN X11.here hexec rfl (hb hbytes d36) rfl rfl ?_
        exact Steps.refl _)
      obtain ⟨T14, X14, q14, st14⟩ := X11.hget hexec hown (wk W (.fieldLink "java/lang/String" 9 "java/lang/String" "value" "[B")) (hx.mv X11.warmed.alike hh11).2.1 (g := (mkF m 37 #[.val (.ref x), .val (.ref y), .val (.ref y)] [.ref x])) rfl (rest := []) rfl (hb hbytes d37)
      have hh14 := q14.trans hh11
      have c15 : Steps p.tables e below (s₁.setTop (entryFrame m #[.ref x, .ref y] 3)) (T14.setTop (mkF m 41 #[.val (.ref x), .val (.ref y), .val (.ref y)] [.ref y, .ref t])) := (c13.trans (st14 _ (Steps.refl _))).trans (by
        refine XS.aloadN X14.here hexec rfl (hb hbytes d40) rfl rfl ?_
        exact Steps.refl _)
      obtain ⟨T16, X16, q16, st16⟩ := X14.hget hexec hown (wk W (.fieldLink "java/lang/String" 9 "java/lang/String" "value" "[B")) (hy.mv X14.warmed.alike hh14).2.1 (g := (mkF m 41 #[.val (.ref x), .val (.ref y), .val (.ref y)] [.ref y, .ref t])) rfl (rest := [.ref t]) rfl (hb hbytes d41)
      have hh16 := q16.trans hh14
      have c17 : Steps p.tables e below (s₁.setTop (entryFrame m #[.ref x, .ref y] 3)) (T16.setTop (mkF m 44 #[.val (.ref x), .val (.ref y), .val (.ref y)] [.ref t', .ref t])) := c15.trans (st16 _ (Steps.refl _))
      obtain ⟨v18, T18, X18, E18, g18⟩ := X16.callS hexec (LEq.law l t V t' V') hown (wks W (staticW "java/lang/String" 541 LEq.yN)) (wk W LEq.tab) (W := 0) (Nat.le_of_ble_eq_true rfl) (Nat.le_of_ble_eq_true rfl) (Nat.le_refl _) (Nat.le_refl _) (g := (mkF m 44 #[.val (.ref x), .val (.ref y), .val (.ref y)] [.ref t', .ref t])) rfl (by rw [hml]; rfl) c17 (argsL := [.ref t, .ref t']) (rest := []) rfl rfl (by show 2 * 0 + 0 ≤ _; decide) (hb hbytes d44) (⟨rfl, hx.2.2.2.1.mv X16.warmed.alike hh16, hx.2.2.2.2.1.ty, hy.2.2.2.1.mv X16.warmed.alike hh16, hy.2.2.2.2.1.ty⟩)
      obtain ⟨v, rfl, q18, hv⟩ := E18
      have iff := Cod.eqv hx.2.2.2.2.1 hy.2.2.2.2.1 hx.2.2.2.2.2 hy.2.2.2.2.2
      rcases hv with ⟨rfl, he⟩ | ⟨rfl, he⟩
      · have c19 : Steps p.tables e below (s₁.setTop (entryFrame m #[.ref x, .ref y] 3)) (T18.setTop (mkF m 55 #[.val (.ref x), .val (.ref y), .val (.ref y)] [.int 1])) := Steps.trans g18 (by
          refine XS.ifNo X18.here hexec rfl (hb hbytes d47) rfl (i0_eq_f (by decide)) ?_
          refine iconstV X18.here hexec rfl 1 (hb hbytes d50) (by decide) ?_
          refine XS.goto X18.here hexec rfl (pc0 := 51) rfl (hb hbytes d51) (by decide) rfl ?_
          exact Steps.refl _)
        exact ⟨T18, some (.int 1), _, _, _, X18, rfl, rfl, rfl, (fun h => by cases h), ⟨1, rfl, q18.trans hh16, Or.inl ⟨rfl, iff.mp he⟩⟩, fun fs hl => c19.trans (X18.ireturnOut hexec hret rfl (Or.inr (Or.inl rfl)) (hb hbytes d55) hl)⟩
      · have c19 : Steps p.tables e below (s₁.setTop (entryFrame m #[.ref x, .ref y] 3)) (T18.setTop (mkF m 55 #[.val (.ref x), .val (.ref y), .val (.ref y)] [.int 0])) := Steps.trans g18 (by
          refine XS.ifYes X18.here hexec rfl (pc0 := 47) rfl (hb hbytes d47) rfl (i0_eq_t rfl) (by decide) rfl ?_
          refine iconstV X18.here hexec rfl 0 (hb hbytes d54) (by decide) ?_
          exact Steps.refl _)
        exact ⟨T18, some (.int 0), _, _, _, X18, rfl, rfl, rfl, (fun h => by cases h), ⟨0, rfl, q18.trans hh16, Or.inr ⟨rfl, fun q => he (iff.mpr q)⟩⟩, fun fs hl => c19.trans (X18.ireturnOut hexec hret rfl (Or.inr (Or.inl rfl)) (hb hbytes d55) hl)⟩
    · have c13 : Steps p.tables e below (s₁.setTop (entryFrame m #[.ref x, .ref y] 3)) (T11.setTop (mkF m 55 #[.val (.ref x), .val (.ref y), .val (.ref y)] [.int 0])) := c12.trans (by
        refine XS.icmpYes X11.here hexec rfl (pc0 := 33) rfl (hb hbytes d33) rfl (ii_ne_t hcd) (by decide) rfl ?_
        refine iconstV X11.here hexec rfl 0 (hb hbytes d54) (by decide) ?_
        exact Steps.refl _)
      exact ⟨T11, some (.int 0), _, _, _, X11, rfl, rfl, rfl, (fun h => by cases h), ⟨0, rfl, hh11, Or.inr ⟨rfl, Cod.dif hx.2.2.2.2.1 hy.2.2.2.2.1 hcd⟩⟩, fun fs hl => c13.trans (X11.ireturnOut hexec hret rfl (Or.inr (Or.inl rfl)) (hb hbytes d55) hl)⟩
theorem pays {l : Launch} {R : Room} {p : Program} {e : Env} {below : List Frame} {s : State} {sargs : Array Value} {len W : Nat} (x t : Addr) (V : Cell) (cd : Int32) (n : Nat) (f : Nat → Int32) (y t' : Addr) (V' : Cell) (cd' : Int32) (k : Nat) (g : Nat → Int32) (z : Int32) (htab : tab.before sargs s = true) (hfr : 2 ≤ R.frames) (hlo : W + 28 ≤ R.locals) :
    Back l R p e below s sargs yN len W (fun A₁ a₁ => A₁.cells + 0 ≤ R.cells ∧ A₁.slots + 0 ≤ R.slots ∧ P x t V cd n f y t' V' cd' k g z a₁ A₁.U) (fun A₁ _ v₁ B₁ => Says01 (SameT n f k g) v₁ A₁.U B₁.U ∧ B₁.locs = A₁.locs ++ [] ∧ B₁.cells = A₁.cells + 0 ∧ B₁.slots = A₁.slots + 0) :=
  (law l x t V cd n f y t' V' cd' k g z).pays htab hfr (by omega)
end SEq
end StrChars
namespace StrChars.Road
open Jvm Sem ClassFile Op Lib Jvm.Stand Jvm.Free Jvm.Free.XT
open Jvm.Lib.Cold (StaticIs)
/-- the words of String.isEmpty() -/
abbrev wordsEmp : List Jvm.Cond := [.code Emp.yN Emp.yB 1 (some .boolean), .initialized ST, .fieldLink ST 9 ST "value" "[B"]
theorem tabEmp_of {a : Array Value} {s : State} (h : ∀ w ∈ wordsEmp, w.before a s = true) : Emp.tab.before a s = true := unparts (wk h (.code Emp.yN Emp.yB 1 (some .boolean))) (wks h (.initialized Emp.yN.cls :: Emp.site))
theorem movedEmp {Z s : State} {a0 args : Array Value} (hZ : Z.Warmed39 s.vm) (hw : ∀ d ∈ wordsEmp, d.before a0 Z = true) : ∀ d ∈ wordsEmp, d.before args s = true := fun d hd => by
  have t : ∀ d ∈ wordsEmp, (d.onTables && d.keepsFace) = true := by decide +kernel
  exact RoadKit.mv hZ (hw d hd) (t d hd)
/-- the words of String.equals(Object) -/
abbrev wordsEq : List Jvm.Cond := [.code SEq.yN SEq.yB 3 (some .boolean), .initialized ST, .classLink ST 10 ST, .fieldLink ST 38 ST "COMPACT_STRINGS" "Z", .fieldLink ST 15 ST "coder" "B", .fieldLink ST 9 ST "value" "[B", .methodLink ST 541 LEq.yN, .static LEq.yN, .code LEq.yN LEq.yB 3 (some .boolean), .initialized "java/lang/StringLatin1"]
theorem tabEq_of {a : Array Value} {s : State} (h : ∀ w ∈ wordsEq, w.before a s = true) : SEq.tab.before a s = true := by
  have hl : LEq.tab.before a s = true := unparts (wk h (.code LEq.yN LEq.yB 3 (some .boolean))) (wks h (.initialized LEq.yN.cls :: LEq.site))
  have q := consq hl h
  exact unparts (wk q (.code SEq.yN SEq.yB 3 (some .boolean))) (wks q (.initialized SEq.yN.cls :: SEq.site))
theorem movedEq {Z s : State} {a0 args : Array Value} (hZ : Z.Warmed39 s.vm) (hw : ∀ d ∈ wordsEq, d.before a0 Z = true) : ∀ d ∈ wordsEq, d.before args s = true := fun d hd => by
  have t : ∀ d ∈ wordsEq, (d.onTables && d.keepsFace) = true := by decide +kernel
  exact RoadKit.mv hZ (hw d hd) (t d hd)
/-- the road's facts of a String, as the laws ask it -/
theorem txt_of {Z U : State} {a0 : Array Value} {kI : Nat} (wi : (Jvm.Cond.instantiable ST kI).before a0 Z = true) (al : Z.vm.Alike U.vm) {x t : Addr} {kb : ClassId} {cs : List Int32} {cd N2 : Int32} {vs : List Value} (E : RoadKit.Exa Z U.heap x ST) (V : RoadKit.Fld Z U.heap x ST "value" "[B" (.ref t)) (C : RoadKit.Fld Z U.heap x ST "coder" "B" (.int cd)) (K : RoadKit.Arv Z U.heap t kb .byte N2 vs (.int 0)) (hc : CodA cs cd N2 vs) (hb : ∀ c ∈ cs, ¬ c < 0 ∧ ¬ (65535 : Int32) < c) (l2 : cs.length ≤ 4000) :
    ∃ A, Txt x t A cd cs.length (fun j => cs.getD j 0) U := by
  obtain ⟨A, K1, K2, K3, K4, K5, K6⟩ := K
  have hcod := hc.cod (by omega) K3 K5
  obtain ⟨D, fV, fC, hB, F1, F2, g1, g2, -, -⟩ := strObj wi al E V C
  exact ⟨A, ⟨_, hB.2.2.1, D, hB.1, rfl, by cases q : D.vm <;> first | rfl | exact absurd q (hB.2.1.2 _)⟩, Has.of hB F1 g1, Has.of hB F2 g2, ⟨K1.1, State.isArrayOf_alike al K1.2.1, K1.2.2, by rcases hcod with ⟨-, q, -⟩ | ⟨-, q, -⟩ <;> omega⟩, hcod, fun j hj => by
    have e : cs.getD j 0 = cs[j] := by simp [List.getD_eq_getElem?_getD, hj]
    show ¬ cs.getD j 0 < 0 ∧ ¬ 65535 < cs.getD j 0
    rw [e]; exact hb _ (List.getElem_mem _)⟩
theorem same_list (cs ds : List Int32) : SameT cs.length (fun j => cs.getD j 0) ds.length (fun j => ds.getD j 0) ↔ cs = ds := by
  constructor
  · rintro ⟨e, q⟩
    refine List.ext_getElem e fun j h1 h2 => ?_
    have := q j h1
    simpa [List.getD_eq_getElem?_getD, h1, h2] using this
  · rintro rfl
    exact ⟨rfl, fun _ _ => rfl⟩
/-- **isEmpty() OF SUCH A STRING** -/
theorem empW {p : Program} {l : Launch} {e : Env} {R : Room} {s : State} {args : Array Value} {below : List Frame} {len W : Nat} {Z : State} {a0 : Array Value} {h : Heap} (hZ : Z.Warmed39 s.vm) (hw : ∀ d ∈ wordsEmp, d.before a0 Z = true) {kI : Nat} (wi : (Jvm.Cond.instantiable ST kI).before a0 Z = true)
    {x t : Addr} {kb : ClassId} {cs : List Int32} {cd N2 : Int32} {vs : List Value} (E : RoadKit.Exa Z h x ST) (V : RoadKit.Fld Z h x ST "value" "[B" (.ref t)) (C : RoadKit.Fld Z h x ST "coder" "B" (.int cd)) (K : RoadKit.Arv Z h t kb .byte N2 vs (.int 0)) (hc : CodA cs cd N2 vs) (hb : ∀ c ∈ cs, ¬ c < 0 ∧ ¬ (65535 : Int32) < c) (l2 : cs.length ≤ 4000) (hfr : 1 ≤ R.frames) (hlo : W + 12 ≤ R.locals) :
    Back l R p e below s args (⟨"java/lang/String", "isEmpty", "()Z"⟩ : MethodName) len W (fun P a => a = #[.ref x] ∧ P.U.heap = h ∧ P.cells + 0 ≤ R.cells ∧ P.slots + 0 ≤ R.slots)
      (fun P _ v B => ∃ L, (v = some (.int (if cs.length = 0 then 1 else 0)) ∧ L = [] ∧ B.U.heap = h) ∧ B.locs = P.locs ++ L ∧ B.cells = P.cells + 0 ∧ B.slots = P.slots + 0) := by
  intro m meth c P g ig mk a X hg hsize hdg hW hn hp'
  obtain ⟨rfl, rfl, r1, r2⟩ := hp'
  have al : Z.vm.Alike P.U.vm := hZ.alike.trans X.warmed.alike
  obtain ⟨A, hx⟩ := txt_of wi al E V C K hc hb l2
  obtain ⟨v, B, X', ⟨⟨hv, hh⟩, hl, hk, hs⟩, st⟩ := Emp.pays x t A cd cs.length (fun j => cs.getD j 0) (tabEmp_of (movedEmp hZ hw)) hfr hlo m meth c P g ig mk _ X hg hsize hdg hW hn ⟨r1, r2, rfl, hx⟩
  exact ⟨v, B, X', ⟨[], ⟨hv, rfl, hh⟩, hl, hk, hs⟩, st⟩
/-- **equals(Object) OF TWO SUCH STRINGS**: 1 just where the chars are the same -/
theorem eqW {p : Program} {l : Launch} {e : Env} {R : Room} {s : State} {args : Array Value} {below : List Frame} {len W : Nat} {Z : State} {a0 : Array Value} {h : Heap} (hZ : Z.Warmed39 s.vm) (hw : ∀ d ∈ wordsEq, d.before a0 Z = true) {kI : Nat} (wi : (Jvm.Cond.instantiable ST kI).before a0 Z = true)
    {x t : Addr} {kb : ClassId} {cs : List Int32} {cd N2 : Int32} {vs : List Value} (E : RoadKit.Exa Z h x ST) (V : RoadKit.Fld Z h x ST "value" "[B" (.ref t)) (C : RoadKit.Fld Z h x ST "coder" "B" (.int cd)) (K : RoadKit.Arv Z h t kb .byte N2 vs (.int 0)) (hc : CodA cs cd N2 vs) (hb : ∀ c ∈ cs, ¬ c < 0 ∧ ¬ (65535 : Int32) < c) (l2 : cs.length ≤ 4000)
    {y t' : Addr} {kb' : ClassId} {ds : List Int32} {cd' N2' : Int32} {vs' : List Value} (E' : RoadKit.Exa Z h y ST) (V' : RoadKit.Fld Z h y ST "value" "[B" (.ref t')) (C' : RoadKit.Fld Z h y ST "coder" "B" (.int cd')) (K' : RoadKit.Arv Z h t' kb' .byte N2' vs' (.int 0)) (hc' : CodA ds cd' N2' vs') (hb' : ∀ c ∈ ds, ¬ c < 0 ∧ ¬ (65535 : Int32) < c) (l2' : ds.length ≤ 4000)
    {z : Int32} (S : RoadKit.Sta Z h ST "COMPACT_STRINGS" "Z" (.int z)) (hz : ¬ z = 0) (hfr : 2 ≤ R.frames) (hlo : W + 28 ≤ R.locals) :
    Back l R p e below s args (⟨"java/lang/String", "equals", "(Ljava/lang/Object;)Z"⟩ : MethodName) len W (fun P a => a = #[.ref x, .ref y] ∧ P.U.heap = h ∧ P.cells + 0 ≤ R.cells ∧ P.slots + 0 ≤ R.slots)
      (fun P _ v B => ∃ L, (((v = some (.int 1) ∧ cs = ds) ∨ (v = some (.int 0) ∧ ¬ cs = ds)) ∧ L = [] ∧ B.U.heap = h) ∧ B.locs = P.locs ++ L ∧ B.cells = P.cells + 0 ∧ B.slots = P.slots + 0) := by
  intro m meth c P g ig mk a X hg hsize hdg hW hn hp'
  obtain ⟨rfl, rfl, r1, r2⟩ := hp'
  have al : Z.vm.Alike P.U.vm := hZ.alike.trans X.warmed.alike
  obtain ⟨A, hx⟩ := txt_of wi al E V C K hc hb l2
  obtain ⟨A', hy⟩ := txt_of wi al E' V' C' K' hc' hb' l2'
  obtain ⟨v, B, X', ⟨⟨w, hv, hh, hq⟩, hl, hk, hs⟩, st⟩ := SEq.pays x t A cd cs.length (fun j => cs.getD j 0) y t' A' cd' ds.length (fun j => ds.getD j 0) z (tabEq_of (movedEq hZ hw)) hfr hlo m meth c P g ig mk _ X hg hsize hdg hW hn ⟨r1, r2, rfl, hx, hy, sta_is al S, hz⟩
  refine ⟨v, B, X', ⟨[], ⟨?_, rfl, hh⟩, hl, hk, hs⟩, st⟩
  rcases hq with ⟨rfl, q⟩ | ⟨rfl, q⟩
  · exact Or.inl ⟨hv, (same_list cs ds).mp q⟩
  · exact Or.inr ⟨hv, fun e => q ((same_list cs ds).mpr e)⟩
end StrChars.Road
namespace StrChars.Road
open Jvm Sem ClassFile Op Lib Jvm.Stand Jvm.Free Jvm.Free.XT
open Jvm.Lib.Cold (StaticIs)
/-- what backV says of its String, as the contracts of this text ask it: cs's low bytes, coder 0 -/
theorem codOf {cs : List Int32} {n : Nat} (hn : cs.length = n) (hb : ∀ c ∈ cs, ¬ 255 < c) : CodA cs 0 (Int32.ofNat n) ((cs.map lo8).map Value.int) := Or.inl ⟨rfl, by rw [hn], by simp [List.map_map, Function.comp_def], hb⟩
end StrChars.Road
end Jvm.Pilot.@@N@@
namespace Jvm.Pilot.@@N@@
open Jvm Jvm.ClassFile Sem Op Lib Jvm.Free Jvm.Stand Jvm.LawKit Jvm.RoadKit Bundle Jvm.Pilot.@@N@@.Jvm.D
theorem tw {Z : State} {a0 : Array Value} (hw : ∀ d ∈ tables_1, d.before a0 Z = true) (i : Nat) {d : Jvm.Cond} (h : tables_1[i]? = some d) : d.before a0 Z = true := hw _ (List.mem_of_getElem? h)
theorem leW {a b : Nat} (h : 2 * 0 + a = b) : 2 * 0 + a ≤ b := Nat.le_of_eq h
theorem leB {a b : Nat} (h : Nat.ble a b = true) : a ≤ b := Nat.le_of_ble_eq_true h
theorem own_wS : ∀ d ∈ Bundle.stringAtoms, d ∈ tables_1 := by decide +kernel
def own_Env (Z : State) : Prop := (∃ G : Int32, Sta Z Z.heap "java/lang/String" "COMPACT_STRINGS" "Z" (.int G) ∧ ¬ G = 0) ∧ ∃ G : Value, Sta Z Z.heap "jdk/internal/util/Preconditions" "SIOOBE_FORMATTER" "Ljava/util/function/BiFunction;" G ∧ G.isRef = true
def own_Str (Z : State) (h : Heap) (x t : Addr) (cs : List Int32) : Prop := Exa Z h x "java/lang/String" ∧ Fld Z h x "java/lang/String" "value" "[B" (.ref t) ∧ Fld Z h x "java/lang/String" "coder" "B" (.int 0) ∧ (∃ (kb : ClassId) (N2 : Int32) (vs : List Value), Arv Z h t kb .byte N2 vs (.int 0) ∧ StrChars.Road.CodA cs 0 N2 vs) ∧ (∀ c ∈ cs, ¬ c < 0 ∧ ¬ (255 : Int32) < c) ∧ cs.length ≤ 4000
section OwnStr
variable {Z : State} {h h' : Heap} {x t : Addr} {cs : List Int32}
theorem own_Str.ext (F : own_Str Z h x t cs) (E : Ext h h') : own_Str Z h' x t cs := by
  obtain ⟨f1, f2, f3, ⟨kb, N2, vs, f4, f5⟩, f6⟩ := F
  exact ⟨Exa.ext E f1, Fld.ext E f2, Fld.ext E f3, ⟨kb, N2, vs, f4.ext E, f5⟩, f6⟩
theorem own_Str.other {a : Addr} {sl : Nat} {v : Value} (F : own_Str Z h x t cs) (W : Wr h h' a sl v) (n1 : x ≠ a) (n2 : t ≠ a) : own_Str Z h' x t cs := by
  obtain ⟨f1, f2, f3, ⟨kb, N2, vs, f4, f5⟩, f6⟩ := F
  exact ⟨Exa.wr W f1, f2.other W (Or.inl n1), f3.other W (Or.inl n1), ⟨kb, N2, vs, f4.other W n2, f5⟩, f6⟩
theorem own_Str.keep {ws : List Addr} (F : own_Str Z h x t cs) (K : Keep h h' ws) (n1 : x ∉ ws) (n2 : t ∉ ws) : own_Str Z h' x t cs := by
  obtain ⟨f1, f2, f3, ⟨kb, N2, vs, f4, f5⟩, f6⟩ := F
  exact ⟨f1.keep K, f2.keep K n1, f3.keep K n1, ⟨kb, N2, vs, f4.keep K n2, f5⟩, f6⟩
theorem own_Str.lt1 (F : own_Str Z h x t cs) : x < h.size := F.1.lt
theorem own_Str.lt2 (F : own_Str Z h x t cs) : t < h.size := by obtain ⟨-, -, -, ⟨kb, N2, vs, f4, -⟩, -⟩ := F; exact f4.lt
theorem own_up (F : ∀ c ∈ cs, ¬ c < 0 ∧ ¬ (255 : Int32) < c) : ∀ c ∈ cs, ¬ c < 0 ∧ ¬ (65535 : Int32) < c := fun c hc => ⟨(F c hc).1, fun q => (F c hc).2 (by rw [Int32.lt_iff_toInt_lt] at q ⊢; have e1 : (65535 : Int32).toInt = 65535 := rfl; have e2 : (255 : Int32).toInt = 255 := rfl; omega)⟩
end OwnStr
theorem own_pdNew : parseMethodDescriptor "([C)V" = some ⟨[(.array .char)], none⟩ := by decide +kernel
theorem own_pdLen : parseMethodDescriptor "()I" = some ⟨[], some .int⟩ := by decide +kernel
theorem own_pdChr : parseMethodDescriptor "(I)C" = some ⟨[.int], some .char⟩ := by decide +kernel
theorem own_pdEq : parseMethodDescriptor "(Ljava/lang/Object;)Z" = some ⟨[(.object "java/lang/Object")], some .boolean⟩ := by decide +kernel
theorem own_pdEmp : parseMethodDescriptor "()Z" = some ⟨[], some .boolean⟩ := by decide +kernel
section OwnCalls
variable {p : Program} {l : Launch} {e : Env} {R : Room} {s : State} {args : Array Value} {below : List Frame} {len W : Nat} {Z : State} {a0 : Array Value} {h : Heap} {n0 : Nat}
theorem own_wNew : ∀ d ∈ StrChars.Road.words, d ∈ tables_1 := by decide +kernel
theorem own_new (hZ : Z.Warmed39 s.vm) (hw : ∀ d ∈ tables_1, d.before a0 Z = true) (SV : own_Env Z) (O : Old Z n0 h) {x b : Addr} {kC : ClassId} {cs : List Int32} {d v0 c0 : Value} {N : Int32} {n : Nat} (hx0 : n0 ≤ x) (hh0 : n0 ≤ h.size) (E : Exa Z h x "java/lang/String") (V : Fld Z h x "java/lang/String" "value" "[B" v0) (C : Fld Z h x "java/lang/String" "coder" "B" c0) (K : Arv Z h b kC .char N (cs.map Value.int) d)
    (hn : cs.length = n) (hN : N = Int32.ofNat n) (l0 : 0 < n) (l2 : n ≤ 4000) (hp : ∀ c ∈ cs, ¬ c < 0 ∧ ¬ (255 : Int32) < c) (hfr : 4 ≤ R.frames) (hlo : W + 65 ≤ R.locals) :
    Back l R p e below s args (⟨"java/lang/String", "<init>", "([C)V"⟩ : MethodName) len W (fun P a => a = #[.ref x, .ref b] ∧ P.U.heap = h ∧ P.cells + 1 ≤ R.cells ∧ P.slots + n ≤ R.slots)
      (fun P _ v B => ∃ L, (v = none ∧ Fr n0 L ∧ Keep h B.U.heap [x] ∧ ∃ t, h.size ≤ t ∧ own_Str Z B.U.heap x t cs) ∧ B.locs = P.locs ++ L ∧ B.cells = P.cells + 1 ∧ B.slots = P.slots + n) := by
  obtain ⟨⟨G1, S1, S2⟩, -⟩ := SV
  refine Back.mono (StrChars.Road.backV hZ (fun d hd => hw d (own_wNew d hd)) (kI := 4) (tw hw 6 rfl) (bs := cs.map (fun c => c.toInt8.toInt32)) hx0 hh0 E V C K (Sta.ext O.2 S1) S2 hn hN l0 l2 hp rfl hfr hlo) (fun _ _ q => q) ?_
  rintro P a v B hq ⟨L, ⟨q1, q2, q3, q4, q5, t, kb, q6, q7, q8, q9, q10⟩, r⟩
  subst hn hN
  exact ⟨L, ⟨q1, q2, q3, t, q7, q4, q9, q5, ⟨kb, _, _, q10, StrChars.Road.codOf rfl (fun c hc => (hp c hc).2)⟩, hp, l2⟩, r⟩
theorem own_wLen : ∀ d ∈ StrChars.Road.wordsLen, d ∈ tables_1 := by decide +kernel
theorem own_len (hZ : Z.Warmed39 s.vm) (hw : ∀ d ∈ tables_1, d.before a0 Z = true) (SV : own_Env Z) (O : Old Z n0 h) {x t : Addr} {cs : List Int32} (F : own_Str Z h x t cs) (hfr : 2 ≤ R.frames) (hlo : W + 25 ≤ R.locals) :
    Back l R p e below s args (⟨"java/lang/String", "length", "()I"⟩ : MethodName) len W (fun P a => a = #[.ref x] ∧ P.U.heap = h ∧ P.cells + 0 ≤ R.cells ∧ P.slots + 0 ≤ R.slots)
      (fun P _ v B => ∃ L, (v = some (.int (Int32.ofNat cs.length)) ∧ Fr n0 L ∧ B.U.heap = h) ∧ B.locs = P.locs ++ L ∧ B.cells = P.cells + 0 ∧ B.slots = P.slots + 0) := by
  obtain ⟨⟨G1, S1, S2⟩, -⟩ := SV
  obtain ⟨f1, f2, f3, ⟨kb, N2, vs, f4, f5⟩, f6, f7⟩ := F
  refine Back.mono (StrChars.Road.lenW hZ (fun d hd => hw d (own_wLen d hd)) (kI := 4) (tw hw 6 rfl) f1 f2 f3 f4 f5 (own_up f6) (Sta.ext O.2 S1) S2 f7 hfr hlo) (fun _ _ q => q) ?_
  rintro P a v B hq ⟨L, ⟨q1, rfl, q3⟩, r⟩
  exact ⟨[], ⟨q1, Fr.nil n0, q3⟩, r⟩
theorem own_wEq : ∀ d ∈ StrChars.Road.wordsEq, d ∈ tables_1 := by decide +kernel
theorem own_eqs (hZ : Z.Warmed39 s.vm) (hw : ∀ d ∈ tables_1, d.before a0 Z = true) (SV : own_Env Z) (O : Old Z n0 h) {x t y u : Addr} {cs ds : List Int32} (F : own_Str Z h x t cs) (G : own_Str Z h y u ds) (hfr : 2 ≤ R.frames) (hlo : W + 28 ≤ R.locals) :
    Back l R p e below s args (⟨"java/lang/String", "equals", "(Ljava/lang/Object;)Z"⟩ : MethodName) len W (fun P a => a = #[.ref x, .ref y] ∧ P.U.heap = h ∧ P.cells + 0 ≤ R.cells ∧ P.slots + 0 ≤ R.slots)
      (fun P _ v B => ∃ L, (v = some (.int (if cs = ds then 1 else 0)) ∧ Fr n0 L ∧ B.U.heap = h) ∧ B.locs = P.locs ++ L ∧ B.cells = P.cells + 0 ∧ B.slots = P.slots + 0) := by
  obtain ⟨⟨G1, S1, S2⟩, -⟩ := SV
  obtain ⟨f1, f2, f3, ⟨kb, N2, vs, f4, f5⟩, f6, f7⟩ := F
  obtain ⟨g1, g2, g3, ⟨kb', N2', vs', g4, g5⟩, g6, g7⟩ := G
  refine Back.mono (StrChars.Road.eqW hZ (fun d hd => hw d (own_wEq d hd)) (kI := 4) (tw hw 6 rfl) f1 f2 f3 f4 f5 (own_up f6) f7 g1 g2 g3 g4 g5 (own_up g6) g7 (Sta.ext O.2 S1) S2 hfr hlo) (fun _ _ q => q) ?_
  rintro P a v B hq ⟨L, ⟨q1, rfl, q3⟩, r⟩
  refine ⟨[], ⟨?_, Fr.nil n0, q3⟩, r⟩
  rcases q1 with ⟨q1, q2⟩ | ⟨q1, q2⟩
  · rw [q1, if_pos q2]
  · rw [q1, if_neg q2]
theorem own_wEmp : ∀ d ∈ StrChars.Road.wordsEmp, d ∈ tables_1 := by decide +kernel
theorem own_emp (hZ : Z.Warmed39 s.vm) (hw : ∀ d ∈ tables_1, d.before a0 Z = true) {x t : Addr} {cs : List Int32} (F : own_Str Z h x t cs) (hfr : 1 ≤ R.frames) (hlo : W + 12 ≤ R.locals) :
    Back l R p e below s args (⟨"java/lang/String", "isEmpty", "()Z"⟩ : MethodName) len W (fun P a => a = #[.ref x] ∧ P.U.heap = h ∧ P.cells + 0 ≤ R.cells ∧ P.slots + 0 ≤ R.slots)
      (fun P _ v B => ∃ L, (v = some (.int (if cs.length = 0 then 1 else 0)) ∧ Fr n0 L ∧ B.U.heap = h) ∧ B.locs = P.locs ++ L ∧ B.cells = P.cells + 0 ∧ B.slots = P.slots + 0) := by
  obtain ⟨f1, f2, f3, ⟨kb, N2, vs, f4, f5⟩, f6, f7⟩ := F
  refine Back.mono (StrChars.Road.empW hZ (fun d hd => hw d (own_wEmp d hd)) (kI := 4) (tw hw 6 rfl) f1 f2 f3 f4 f5 (own_up f6) f7 hfr hlo) (fun _ _ q => q) ?_
  rintro P a v B hq ⟨L, ⟨q1, rfl, q3⟩, r⟩
  exact ⟨[], ⟨q1, Fr.nil n0, q3⟩, r⟩
end OwnCalls
def own_ok (c : Int32) : Prop := (65 ≤ c.toInt ∧ c.toInt ≤ 90) ∨ (97 ≤ c.toInt ∧ c.toInt ≤ 122) ∨ (48 ≤ c.toInt ∧ c.toInt ≤ 57) ∨ c = 46 ∨ c = 95 ∨ c = 45
theorem own_ok.rng {c : Int32} (h : own_ok c) : 0 ≤ c.toInt ∧ c.toInt ≤ 255 := by
  rcases h with h | h | h | rfl | rfl | rfl <;> first | decide | omega
theorem own_ok.b {c : Int32} (h : own_ok c) : ¬ c < 0 ∧ ¬ (255 : Int32) < c := by
  have q := h.rng
  rw [Int32.lt_iff_toInt_lt, Int32.lt_iff_toInt_lt]
  have e1 : (255 : Int32).toInt = 255 := by decide
  have e2 : (0 : Int32).toInt = 0 := by decide
  omega
theorem own_i2c {y : Int32} (h : 0 ≤ y.toInt ∧ y.toInt < 65536) : y.toUInt32.toUInt16.toUInt32.toInt32 = y := by
  have q := c_i2c y
  apply Int32.toInt_inj.mp
  omega
theorem own_nar {y : Int32} (h : 0 ≤ y.toInt ∧ y.toInt < 65536) : nar .char y = y := own_i2c h
theorem own_nn {y : Int32} (h : 0 ≤ y.toInt ∧ y.toInt < 65536) : nar .char y.toUInt32.toUInt16.toUInt32.toInt32 = y := by rw [own_i2c h]; exact own_nar h
theorem own_ok.nar {c : Int32} (h : own_ok c) : nar .char c = c := own_nar (by have q := h.rng; omega)
theorem own_ltI (x y : Int32) : x < y ↔ x.toInt < y.toInt := Int32.lt_iff_toInt_lt
theorem own_Str.arv {Z : State} {h : Heap} {x t : Addr} {cs : List Int32} (F : own_Str Z h x t cs) : ∃ kb : ClassId, Arv Z h t kb .byte (Int32.ofNat cs.length) (cs.map fun c => Value.int (StrChars.lo8 c)) (.int 0) := by
  obtain ⟨-, -, -, ⟨kb, N2, vs, f4, f5⟩, -⟩ := F
  rcases f5 with ⟨-, rfl, rfl, -⟩ | ⟨q, -⟩
  · exact ⟨kb, f4⟩
  · exact absurd q (by decide)
theorem own_low {cs : List Int32} {i : Nat} (hi : i < cs.length) : (cs.map fun c => Value.int (StrChars.lo8 c)).getD i (.int 0) = .int (StrChars.lo8 (cs.getD i 0)) := by
  rw [own_getD _ (by simpa using hi), own_getD _ hi, List.getElem_map]
theorem own_lo8 {c : Int32} (h : ¬ c < 0 ∧ ¬ (255 : Int32) < c) : (StrChars.lo8 c &&& (255 : Int32)) = c := by
  apply Int32.toInt_inj.mp
  rw [c_mask _ 255 8 (by decide) (by decide)]
  have q : ((StrChars.lo8 c).toInt - c.toInt) % 256 = 0 ∧ -128 ≤ (StrChars.lo8 c).toInt ∧ (StrChars.lo8 c).toInt < 128 := c_i2b c
  rw [Int32.lt_iff_toInt_lt, Int32.lt_iff_toInt_lt] at h
  have e1 : (255 : Int32).toInt = 255 := by decide
  have e2 : (0 : Int32).toInt = 0 := by decide
  have e3 : ((2 ^ 8 : Nat) : Int) = 256 := by decide
  omega
theorem own_ofNat_toInt {n : Nat} (h : n < 2147483648) : (Int32.ofNat n).toInt = n := Int32.toInt_ofNat_small (n := n) (by omega)
theorem own_clamp {n : Nat} (h : n < 2147483648) : (Int32.ofNat n).toNatClampNeg = n := by
  show (Int32.ofNat n).toInt.toNat = n
  rw [own_ofNat_toInt h]; rfl
theorem own_ofNat_lt {i n : Nat} (hn : n < 2147483648) (hi : i < 2147483648) : Int32.ofNat i < Int32.ofNat n ↔ i < n := by
  rw [own_ltI, own_ofNat_toInt hn, own_ofNat_toInt hi]; omega
theorem own_ofNat_nn {i : Nat} (hi : i < 2147483648) : ¬ Int32.ofNat i < 0 := by
  rw [own_ltI, own_ofNat_toInt hi]
  have e2 : (0 : Int32).toInt = 0 := by decide
  omega
theorem own_mem_getD {cs : List Int32} {i : Nat} (hi : i < cs.length) : cs.getD i 0 ∈ cs := by
  rw [own_getD _ hi]; exact List.getElem_mem hi
abbrev own_EL : List (String × Nat) := [("com/example/outbox/outbox/QueueName", 13), ("com/example/outbox/outbox/QueueName", 40), ("com/example/outbox/outbox/QueueName", 46), ("com/example/outbox/outbox/QueueNameOfPinLaw", 19), ("com/example/outbox/outbox/QueueNameOfPinLaw", 25)]
theorem own_EW {Z : State} {a0 : Array Value} (hw : ∀ d ∈ tables_1, d.before a0 Z = true) : EW Z a0 own_EL := (EW.cons (tw hw 53 rfl) (by decide) (EW.cons (tw hw 73 rfl) (by decide) (EW.cons (tw hw 75 rfl) (by decide) (EW.cons (tw hw 35 rfl) (by decide) (EW.cons (tw hw 48 rfl) (by decide) EW.nil)))))
def QK (Z : State) (px : Int32) (h0 : Heap) (n0 : Nat) (v : Option Value) (h : Heap) (L : List Loc) : Prop := ∃ (pv : Int32), v = some (.int pv) ∧ Fr n0 L ∧ h = h0 ∧ own_ok pv
theorem dK_0 : decode method_2_code 0 = .ok (.iload_n 0, 1) := by decide +kernel
theorem dK_1 : decode method_2_code 1 = .ok (.ldc 7, 2) := by decide +kernel
theorem dK_3 : decode method_2_code 3 = .ok (.iand, 1) := by decide +kernel
theorem dK_4 : decode method_2_code 4 = .ok (.bipush 65, 2) := by decide +kernel
theorem dK_6 : decode method_2_code 6 = .ok (.irem, 1) := by decide +kernel
theorem dK_7 : decode method_2_code 7 = .ok (.istore_n 1, 1) := by decide +kernel
theorem dK_8 : decode method_2_code 8 = .ok (.iload_n 1, 1) := by decide +kernel
theorem dK_9 : decode method_2_code 9 = .ok (.bipush 26, 2) := by decide +kernel
theorem dK_11 : decode method_2_code 11 = .ok (.if_icmp .ge 9, 3) := by decide +kernel
theorem dK_14 : decode method_2_code 14 = .ok (.bipush 65, 2) := by decide +kernel
theorem dK_16 : decode method_2_code 16 = .ok (.iload_n 1, 1) := by decide +kernel
theorem dK_17 : decode method_2_code 17 = .ok (.iadd, 1) := by decide +kernel
theorem dK_18 : decode method_2_code 18 = .ok (.i2c, 1) := by decide +kernel
theorem dK_19 : decode method_2_code 19 = .ok (.ireturn, 1) := by decide +kernel
theorem dK_20 : decode method_2_code 20 = .ok (.iload_n 1, 1) := by decide +kernel
theorem dK_21 : decode method_2_code 21 = .ok (.bipush 52, 2) := by decide +kernel
theorem dK_23 : decode method_2_code 23 = .ok (.if_icmp .ge 12, 3) := by decide +kernel
theorem dK_26 : decode method_2_code 26 = .ok (.bipush 97, 2) := by decide +kernel
theorem dK_28 : decode method_2_code 28 = .ok (.iload_n 1, 1) := by decide +kernel
theorem dK_29 : decode method_2_code 29 = .ok (.bipush 26, 2) := by decide +kernel
theorem dK_31 : decode method_2_code 31 = .ok (.isub, 1) := by decide +kernel
theorem dK_32 : decode method_2_code 32 = .ok (.iadd, 1) := by decide +kernel
theorem dK_33 : decode method_2_code 33 = .ok (.i2c, 1) := by decide +kernel
theorem dK_34 : decode method_2_code 34 = .ok (.ireturn, 1) := by decide +kernel
theorem dK_35 : decode method_2_code 35 = .ok (.iload_n 1, 1) := by decide +kernel
theorem dK_36 : decode method_2_code 36 = .ok (.bipush 62, 2) := by decide +kernel
theorem dK_38 : decode method_2_code 38 = .ok (.if_icmp .ge 12, 3) := by decide +kernel
theorem dK_41 : decode method_2_code 41 = .ok (.bipush 48, 2) := by decide +kernel
theorem dK_43 : decode method_2_code 43 = .ok (.iload_n 1, 1) := by decide +kernel
theorem dK_44 : decode method_2_code 44 = .ok (.bipush 52, 2) := by decide +kernel
theorem dK_46 : decode method_2_code 46 = .ok (.isub, 1) := by decide +kernel
theorem dK_47 : decode method_2_code 47 = .ok (.iadd, 1) := by decide +kernel
theorem dK_48 : decode method_2_code 48 = .ok (.i2c, 1) := by decide +kernel
theorem dK_49 : decode method_2_code 49 = .ok (.ireturn, 1) := by decide +kernel
theorem dK_50 : decode method_2_code 50 = .ok (.iload_n 1, 1) := by decide +kernel
theorem dK_51 : decode method_2_code 51 = .ok (.bipush 62, 2) := by decide +kernel
theorem dK_53 : decode method_2_code 53 = .ok (.if_icmp .ne 6, 3) := by decide +kernel
theorem dK_56 : decode method_2_code 56 = .ok (.bipush 46, 2) := by decide +kernel
theorem dK_58 : decode method_2_code 58 = .ok (.ireturn, 1) := by decide +kernel
theorem dK_59 : decode method_2_code 59 = .ok (.iload_n 1, 1) := by decide +kernel
theorem dK_60 : decode method_2_code 60 = .ok (.bipush 63, 2) := by decide +kernel
theorem dK_62 : decode method_2_code 62 = .ok (.if_icmp .ne 6, 3) := by decide +kernel
theorem dK_65 : decode method_2_code 65 = .ok (.bipush 45, 2) := by decide +kernel
theorem dK_67 : decode method_2_code 67 = .ok (.ireturn, 1) := by decide +kernel
theorem dK_68 : decode method_2_code 68 = .ok (.bipush 95, 2) := by decide +kernel
theorem dK_70 : decode method_2_code 70 = .ok (.ireturn, 1) := by decide +kernel
theorem pnK : plainName "com/example/outbox/outbox/QueueNameOfPinLaw" = true := by first | (simp [plainName, overriddenIn]; done) | decide +kernel
theorem pdK : parseMethodDescriptor "(I)C" = some ⟨[.int], some .char⟩ := by decide +kernel
set_option maxRecDepth 65536 in
set_option maxHeartbeats 40000000 in
theorem rmK (l : Launch) (Z : State) (a0 : Array Value) (hw : ∀ d ∈ tables_1, d.before a0 Z = true) (ws : List Jvm.Cond) (px : Int32) (h0 : Heap) (n0 : Nat) (Z0 : n0 ≤ h0.size)  :
    MetFree l (⟨"com/example/outbox/outbox/QueueNameOfPinLaw", "pick", "(I)C"⟩ : MethodName) (head1 (Jvm.Cond.code (⟨"com/example/outbox/outbox/QueueNameOfPinLaw", "pick", "(I)C"⟩ : MethodName) method_2_code 2 (some .char) :: ws) ({ frames := 0, cells := 0, slots := 0, locals := 0 } : Room)) (fun aa U => aa = #[(.int px)] ∧ Z.Warmed39 U.vm ∧ U.heap = h0) (fun _ _ _ _ _ => True) (fun _ U oo U' => ∃ v L, oo = .returned v ∧ QK Z px h0 n0 v U'.heap L ∧ FrameEnd U oo U' L ({ frames := 0, cells := 0, slots := 0, locals := 0 } : Room).cells ({ frames := 0, cells := 0, slots := 0, locals := 0 } : Room).slots) := by
  refine MetFree.of_bodySF (plainFor_of_name pnK) hisR ?_
  intro p e s m args below meth c s₁ Bd hml0 hP hK
  obtain ⟨rfl, hZ, hh⟩ := hP
  have hx := Bd.exec
  have hby := Bd.bytes
  have hlk : meth.locks = false := BodyLoose.notSynchronized Bd
  have hml : c.maxLocals = 2 := hml0
  have hown : s.vm.findClass "com/example/outbox/outbox/QueueNameOfPinLaw" = some m.cls := findClass_of_methodNamed Bd.named
  have hnm := (name_of_methodNamed Bd.named Bd.method).1
  have X0 : Stand p l e ({ frames := 0, cells := 0, slots := 0, locals := 0 } : Room) s m #[(.int px)] below meth c s₁ [] 0 0 := Stand.of_body Bd
  have e0 : s₁.heap = h0 := by rw [← hh, Bd.state]; rfl
  have N0 := Fr.nil n0
  have ef : entryFrame m #[(.int px)] 2 = mkF m 0 #[iv px, .unset] [] := by first | (simp [entryFrame, mkF, argsToLocals, Value.category, maxLocals]; done) | rfl
  show Way p.tables e below (KQ s (QK Z px h0 n0) ({ frames := 0, cells := 0, slots := 0, locals := 0 } : Room).cells ({ frames := 0, cells := 0, slots := 0, locals := 0 } : Room).slots) (s₁.setTop (entryFrame m #[(.int px)] 2))
  rw [ef]
  refine Way.by (fun _ k => XS.iloadN X0.here hx rfl (hb hby dK_0) rfl k) ?_
  show Way _ _ _ _ (s₁.setTop (mkF m 1 #[iv px, .unset] [(.int px)]))
  refine Way.by (Stand.ldcInt X0 hx hown (mvT hZ (tw hw 4 rfl)) rfl (hb hby dK_1)) ?_
  show Way _ _ _ _ (s₁.setTop (mkF m 3 #[iv px, .unset] [(.int 2147483647), (.int px)]))
  refine Way.by (fun _ k => XS.iand X0.here hx rfl (hb hby dK_3) rfl k) ?_
  show Way _ _ _ _ (s₁.setTop (mkF m 4 #[iv px, .unset] [(.int (px &&& (2147483647 : Int32)))]))
  refine Way.by (fun _ k => XS.bipush X0.here hx rfl (hb hby dK_4) k) ?_
  show Way _ _ _ _ (s₁.setTop (mkF m 6 #[iv px, .unset] [(.int 65), (.int (px &&& (2147483647 : Int32)))]))
  refine Way.by (fun _ k => iremM X0 hx rfl (hb hby dK_6) rfl (by decide) k) ?_
  show Way _ _ _ _ (s₁.setTop (mkF m 7 #[iv px, .unset] [(.int ((px &&& (2147483647 : Int32)) % (65 : Int32)))]))
  refine Way.by (fun _ k => XS.istoreN X0.here hx rfl (hb hby dK_7) rfl (l' := #[iv px, iv ((px &&& (2147483647 : Int32)) % (65 : Int32))]) rfl k) ?_
  show Way _ _ _ _ (s₁.setTop (mkF m 8 #[iv px, iv ((px &&& (2147483647 : Int32)) % (65 : Int32))] []))
  obtain ⟨k, qk⟩ : ∃ z, z = (px &&& (2147483647 : Int32)) % (65 : Int32) := ⟨_, rfl⟩
  rw [← qk]
  have hk : 0 ≤ k.toInt ∧ k.toInt < 65 := by rw [qk]; exact remB px 65 65 rfl (by decide)
  show Way _ _ _ _ (s₁.setTop (mkF m 8 #[iv px, iv k] []))
  refine Way.by (fun _ k => XS.iloadN X0.here hx rfl (hb hby dK_8) rfl k) ?_
  show Way _ _ _ _ (s₁.setTop (mkF m 9 #[iv px, iv k] [(.int k)]))
  refine Way.by (fun _ k => XS.bipush X0.here hx rfl (hb hby dK_9) k) ?_
  show Way _ _ _ _ (s₁.setTop (mkF m 11 #[iv px, iv k] [(.int 26), (.int k)]))
  by_cases hq11 : k < (26 : Int32)
  · skip
    refine Way.by (fun _ k => XS.icmpNo X0.here hx rfl (hb hby dK_11) rfl (tlt hq11).2.1 k) ?_
    show Way _ _ _ _ (s₁.setTop (mkF m 14 #[iv px, iv k] []))
    refine Way.by (fun _ k => XS.bipush X0.here hx rfl (hb hby dK_14) k) ?_
    show Way _ _ _ _ (s₁.setTop (mkF m 16 #[iv px, iv k] [(.int 65)]))
    refine Way.by (fun _ k => XS.iloadN X0.here hx rfl (hb hby dK_16) rfl k) ?_
    show Way _ _ _ _ (s₁.setTop (mkF m 17 #[iv px, iv k] [(.int k), (.int 65)]))
    refine Way.by (fun _ k => XS.iadd X0.here hx rfl (hb hby dK_17) rfl k) ?_
    show Way _ _ _ _ (s₁.setTop (mkF m 18 #[iv px, iv k] [(.int ((65 : Int32) + k))]))
    refine Way.by (fun _ k => XT.i2c X0.here hx rfl (hb hby dK_18) rfl k) ?_
    show Way _ _ _ _ (s₁.setTop (mkF m 19 #[iv px, iv k] [(.int ((65 : Int32) + k).toUInt32.toUInt16.toUInt32.toInt32)]))
    refine Way.ret (v := (some (.int (nar .char ((65 : Int32) + k).toUInt32.toUInt16.toUInt32.toInt32)))) X0 hlk (fun h => by rw [Bd.returns] at h; cases h) (fun fs hr => retN X0 hx (t := .char) Bd.returns (by simp) (hb hby dK_19) hr) ?_ (by decide) (by decide)
    show QK Z px h0 n0 _ s₁.heap _
    rw [e0]
    have e65 : (65 : Int32).toInt = 65 := by decide
    have e97 : (97 : Int32).toInt = 97 := by decide
    have e48 : (48 : Int32).toInt = 48 := by decide
    have e26 : (26 : Int32).toInt = 26 := by decide
    have e52 : (52 : Int32).toInt = 52 := by decide
    have e62 : (62 : Int32).toInt = 62 := by decide
    simp only [own_ltI] at hq11
    have c1 := c_iadd (65 : Int32) k
    have r1 := rng32 ((65 : Int32) + k)
    have hy : 0 ≤ ((65 : Int32) + k).toInt ∧ ((65 : Int32) + k).toInt < 65536 := by omega
    exact ⟨((65 : Int32) + k), by rw [own_nn hy], N0, rfl, by unfold own_ok; omega⟩
  · skip
    refine Way.by (fun _ k => XS.icmpYes X0.here hx rfl (pc0 := 11) (pc' := 20) rfl (hb hby dK_11) rfl (flt hq11).2.1 (by decide) (by decide) k) ?_
    show Way _ _ _ _ (s₁.setTop (mkF m 20 #[iv px, iv k] []))
    refine Way.by (fun _ k => XS.iloadN X0.here hx rfl (hb hby dK_20) rfl k) ?_
    show Way _ _ _ _ (s₁.setTop (mkF m 21 #[iv px, iv k] [(.int k)]))
    refine Way.by (fun _ k => XS.bipush X0.here hx rfl (hb hby dK_21) k) ?_
    show Way _ _ _ _ (s₁.setTop (mkF m 23 #[iv px, iv k] [(.int 52), (.int k)]))
    by_cases hq23 : k < (52 : Int32)
    · skip
      refine Way.by (fun _ k => XS.icmpNo X0.here hx rfl (hb hby dK_23) rfl (tlt hq23).2.1 k) ?_
      show Way _ _ _ _ (s₁.setTop (mkF m 26 #[iv px, iv k] []))
      refine Way.by (fun _ k => XS.bipush X0.here hx rfl (hb hby dK_26) k) ?_
      show Way _ _ _ _ (s₁.setTop (mkF m 28 #[iv px, iv k] [(.int 97)]))
      refine Way.by (fun _ k => XS.iloadN X0.here hx rfl (hb hby dK_28) rfl k) ?_
      show Way _ _ _ _ (s₁.setTop (mkF m 29 #[iv px, iv k] [(.int k), (.int 97)]))
      refine Way.by (fun _ k => XS.bipush X0.here hx rfl (hb hby dK_29) k) ?_
      show Way _ _ _ _ (s₁.setTop (mkF m 31 #[iv px, iv k] [(.int 26), (.int k), (.int 97)]))
      refine Way.by (fun _ k => XS.isub X0.here hx rfl (hb hby dK_31) rfl k) ?_
      show Way _ _ _ _ (s₁.setTop (mkF m 32 #[iv px, iv k] [(.int (k - (26 : Int32))), (.int 97)]))
      refine Way.by (fun _ k => XS.iadd X0.here hx rfl (hb hby dK_32) rfl k) ?_
      show Way _ _ _ _ (s₁.setTop (mkF m 33 #[iv px, iv k] [(.int ((97 : Int32) + (k - (26 : Int32))))]))
      refine Way.by (fun _ k => XT.i2c X0.here hx rfl (hb hby dK_33) rfl k) ?_
      show Way _ _ _ _ (s₁.setTop (mkF m 34 #[iv px, iv k] [(.int ((97 : Int32) + (k - (26 : Int32))).toUInt32.toUInt16.toUInt32.toInt32)]))
      refine Way.ret (v := (some (.int (nar .char ((97 : Int32) + (k - (26 : Int32))).toUInt32.toUInt16.toUInt32.toInt32)))) X0 hlk (fun h => by rw [Bd.returns] at h; cases h) (fun fs hr => retN X0 hx (t := .char) Bd.returns (by simp) (hb hby dK_34) hr) ?_ (by decide) (by decide)
      show QK Z px h0 n0 _ s₁.heap _
      rw [e0]
      have e65 : (65 : Int32).toInt = 65 := by decide
      have e97 : (97 : Int32).toInt = 97 := by decide
      have e48 : (48 : Int32).toInt = 48 := by decide
      have e26 : (26 : Int32).toInt = 26 := by decide
      have e52 : (52 : Int32).toInt = 52 := by decide
      have e62 : (62 : Int32).toInt = 62 := by decide
      simp only [own_ltI] at hq11 hq23
      have c0 := c_isub k (26 : Int32)
      have c1 := c_iadd (97 : Int32) (k - (26 : Int32))
      have r0 := rng32 (k - (26 : Int32))
      have r1 := rng32 ((97 : Int32) + (k - (26 : Int32)))
      have hy : 0 ≤ ((97 : Int32) + (k - (26 : Int32))).toInt ∧ ((97 : Int32) + (k - (26 : Int32))).toInt < 65536 := by omega
      exact ⟨((97 : Int32) + (k - (26 : Int32))), by rw [own_nn hy], N0, rfl, by unfold own_ok; omega⟩
    · skip
      refine Way.by (fun _ k => XS.icmpYes X0.here hx rfl (pc0 := 23) (pc' := 35) rfl (hb hby dK_23) rfl (flt hq23).2.1 (by decide) (by decide) k) ?_
      show Way _ _ _ _ (s₁.setTop (mkF m 35 #[iv px, iv k] []))
      refine Way.by (fun _ k => XS.iloadN X0.here hx rfl (hb hby dK_35) rfl k) ?_
      show Way _ _ _ _ (s₁.setTop (mkF m 36 #[iv px, iv k] [(.int k)]))
      refine Way.by (fun _ k => XS.bipush X0.here hx rfl (hb hby dK_36) k) ?_
      show Way _ _ _ _ (s₁.setTop (mkF m 38 #[iv px, iv k] [(.int 62), (.int k)]))
      by_cases hq38 : k < (62 : Int32)
      · skip
        refine Way.by (fun _ k => XS.icmpNo X0.here hx rfl (hb hby dK_38) rfl (tlt hq38).2.1 k) ?_
        show Way _ _ _ _ (s₁.setTop (mkF m 41 #[iv px, iv k] []))
        refine Way.by (fun _ k => XS.bipush X0.here hx rfl (hb hby dK_41) k) ?_
        show Way _ _ _ _ (s₁.setTop (mkF m 43 #[iv px, iv k] [(.int 48)]))
        refine Way.by (fun _ k => XS.iloadN X0.here hx rfl (hb hby dK_43) rfl k) ?_
        show Way _ _ _ _ (s₁.setTop (mkF m 44 #[iv px, iv k] [(.int k), (.int 48)]))
        refine Way.by (fun _ k => XS.bipush X0.here hx rfl (hb hby dK_44) k) ?_
        show Way _ _ _ _ (s₁.setTop (mkF m 46 #[iv px, iv k] [(.int 52), (.int k), (.int 48)]))
        refine Way.by (fun _ k => XS.isub X0.here hx rfl (hb hby dK_46) rfl k) ?_
        show Way _ _ _ _ (s₁.setTop (mkF m 47 #[iv px, iv k] [(.int (k - (52 : Int32))), (.int 48)]))
        refine Way.by (fun _ k => XS.iadd X0.here hx rfl (hb hby dK_47) rfl k) ?_
        show Way _ _ _ _ (s₁.setTop (mkF m 48 #[iv px, iv k] [(.int ((48 : Int32) + (k - (52 : Int32))))]))
        refine Way.by (fun _ k => XT.i2c X0.here hx rfl (hb hby dK_48) rfl k) ?_
        show Way _ _ _ _ (s₁.setTop (mkF m 49 #[iv px, iv k] [(.int ((48 : Int32) + (k - (52 : Int32))).toUInt32.toUInt16.toUInt32.toInt32)]))
        refine Way.ret (v := (some (.int (nar .char ((48 : Int32) + (k - (52 : Int32))).toUInt32.toUInt16.toUInt32.toInt32)))) X0 hlk (fun h => by rw [Bd.returns] at h; cases h) (fun fs hr => retN X0 hx (t := .char) Bd.returns (by simp) (hb hby dK_49) hr) ?_ (by decide) (by decide)
        show QK Z px h0 n0 _ s₁.heap _
        rw [e0]
        have e65 : (65 : Int32).toInt = 65 := by decide
        have e97 : (97 : Int32).toInt = 97 := by decide
        have e48 : (48 : Int32).toInt = 48 := by decide
        have e26 : (26 : Int32).toInt = 26 := by decide
        have e52 : (52 : Int32).toInt = 52 := by decide
        have e62 : (62 : Int32).toInt = 62 := by decide
        simp only [own_ltI] at hq11 hq23 hq38
        have c0 := c_isub k (52 : Int32)
        have c1 := c_iadd (48 : Int32) (k - (52 : Int32))
        have r0 := rng32 (k - (52 : Int32))
        have r1 := rng32 ((48 : Int32) + (k - (52 : Int32)))
        have hy : 0 ≤ ((48 : Int32) + (k - (52 : Int32))).toInt ∧ ((48 : Int32) + (k - (52 : Int32))).toInt < 65536 := by omega
        exact ⟨((48 : Int32) + (k - (52 : Int32))), by rw [own_nn hy], N0, rfl, by unfold own_ok; omega⟩
      · skip
        refine Way.by (fun _ k => XS.icmpYes X0.here hx rfl (pc0 := 38) (pc' := 50) rfl (hb hby dK_38) rfl (flt hq38).2.1 (by decide) (by decide) k) ?_
        show Way _ _ _ _ (s₁.setTop (mkF m 50 #[iv px, iv k] []))
        refine Way.by (fun _ k => XS.iloadN X0.here hx rfl (hb hby dK_50) rfl k) ?_
        show Way _ _ _ _ (s₁.setTop (mkF m 51 #[iv px, iv k] [(.int k)]))
        refine Way.by (fun _ k => XS.bipush X0.here hx rfl (hb hby dK_51) k) ?_
        show Way _ _ _ _ (s₁.setTop (mkF m 53 #[iv px, iv k] [(.int 62), (.int k)]))
        by_cases hq53 : k = (62 : Int32)
        · skip
          refine Way.by (fun _ k => XS.icmpNo X0.here hx rfl (hb hby dK_53) rfl (teq hq53).2 k) ?_
          show Way _ _ _ _ (s₁.setTop (mkF m 56 #[iv px, iv k] []))
          refine Way.by (fun _ k => XS.bipush X0.here hx rfl (hb hby dK_56) k) ?_
          show Way _ _ _ _ (s₁.setTop (mkF m 58 #[iv px, iv k] [(.int 46)]))
          refine Way.ret (v := (some (.int (nar .char (46 : Int32))))) X0 hlk (fun h => by rw [Bd.returns] at h; cases h) (fun fs hr => retN X0 hx (t := .char) Bd.returns (by simp) (hb hby dK_58) hr) ?_ (by decide) (by decide)
          show QK Z px h0 n0 _ s₁.heap _
          rw [e0]
          exact ⟨(46 : Int32), rfl, N0, rfl, by unfold own_ok; decide⟩
        · skip
          refine Way.by (fun _ k => XS.icmpYes X0.here hx rfl (pc0 := 53) (pc' := 59) rfl (hb hby dK_53) rfl (feq hq53).2 (by decide) (by decide) k) ?_
          show Way _ _ _ _ (s₁.setTop (mkF m 59 #[iv px, iv k] []))
          refine Way.by (fun _ k => XS.iloadN X0.here hx rfl (hb hby dK_59) rfl k) ?_
          show Way _ _ _ _ (s₁.setTop (mkF m 60 #[iv px, iv k] [(.int k)]))
          refine Way.by (fun _ k => XS.bipush X0.here hx rfl (hb hby dK_60) k) ?_
          show Way _ _ _ _ (s₁.setTop (mkF m 62 #[iv px, iv k] [(.int 63), (.int k)]))
          by_cases hq62 : k = (63 : Int32)
          · skip
            refine Way.by (fun _ k => XS.icmpNo X0.here hx rfl (hb hby dK_62) rfl (teq hq62).2 k) ?_
            show Way _ _ _ _ (s₁.setTop (mkF m 65 #[iv px, iv k] []))
            refine Way.by (fun _ k => XS.bipush X0.here hx rfl (hb hby dK_65) k) ?_
            show Way _ _ _ _ (s₁.setTop (mkF m 67 #[iv px, iv k] [(.int 45)]))
            refine Way.ret (v := (some (.int (nar .char (45 : Int32))))) X0 hlk (fun h => by rw [Bd.returns] at h; cases h) (fun fs hr => retN X0 hx (t := .char) Bd.returns (by simp) (hb hby dK_67) hr) ?_ (by decide) (by decide)
            show QK Z px h0 n0 _ s₁.heap _
            rw [e0]
            exact ⟨(45 : Int32), rfl, N0, rfl, by unfold own_ok; decide⟩
          · skip
            refine Way.by (fun _ k => XS.icmpYes X0.here hx rfl (pc0 := 62) (pc' := 68) rfl (hb hby dK_62) rfl (feq hq62).2 (by decide) (by decide) k) ?_
            show Way _ _ _ _ (s₁.setTop (mkF m 68 #[iv px, iv k] []))
            refine Way.by (fun _ k => XS.bipush X0.here hx rfl (hb hby dK_68) k) ?_
            show Way _ _ _ _ (s₁.setTop (mkF m 70 #[iv px, iv k] [(.int 95)]))
            refine Way.ret (v := (some (.int (nar .char (95 : Int32))))) X0 hlk (fun h => by rw [Bd.returns] at h; cases h) (fun fs hr => retN X0 hx (t := .char) Bd.returns (by simp) (hb hby dK_70) hr) ?_ (by decide) (by decide)
            show QK Z px h0 n0 _ s₁.heap _
            rw [e0]
            exact ⟨(95 : Int32), rfl, N0, rfl, by unfold own_ok; decide⟩
def QR (Z : State) (pa : Addr) (pb : Addr) (h0 : Heap) (n0 : Nat) (v : Option Value) (h : Heap) (L : List Loc) : Prop := v = some (.ref pa) ∧ Fr n0 L ∧ h = h0
theorem dR_0 : decode jdk_31_method_11_code 0 = .ok (.aload_n 0, 1) := by decide +kernel
theorem dR_1 : decode jdk_31_method_11_code 1 = .ok (.ifnonnull 12, 3) := by decide +kernel
theorem dR_13 : decode jdk_31_method_11_code 13 = .ok (.aload_n 0, 1) := by decide +kernel
theorem dR_14 : decode jdk_31_method_11_code 14 = .ok (.areturn, 1) := by decide +kernel
theorem pnR : plainName "java/util/Objects" = true := by first | (simp [plainName, overriddenIn]; done) | decide +kernel
theorem pdR : parseMethodDescriptor "(Ljava/lang/Object;Ljava/lang/String;)Ljava/lang/Object;" = some ⟨[(.object "java/lang/Object"), (.object "java/lang/String")], some (.object "java/lang/Object")⟩ := by decide +kernel
set_option maxRecDepth 65536 in
set_option maxHeartbeats 40000000 in
theorem rmR (l : Launch) (Z : State) (a0 : Array Value) (hw : ∀ d ∈ tables_1, d.before a0 Z = true) (ws : List Jvm.Cond) (pa : Addr) (pb : Addr) (h0 : Heap) (n0 : Nat) (Z0 : n0 ≤ h0.size)  :
    MetFree l (⟨"java/util/Objects", "requireNonNull", "(Ljava/lang/Object;Ljava/lang/String;)Ljava/lang/Object;"⟩ : MethodName) (head1 (Jvm.Cond.code (⟨"java/util/Objects", "requireNonNull", "(Ljava/lang/Object;Ljava/lang/String;)Ljava/lang/Object;"⟩ : MethodName) jdk_31_method_11_code 2 (some (.object "java/lang/Object")) :: ws) ({ frames := 0, cells := 0, slots := 0, locals := 0 } : Room)) (fun aa U => aa = #[(.ref pa), (.ref pb)] ∧ Z.Warmed39 U.vm ∧ U.heap = h0) (fun _ _ _ _ _ => True) (fun _ U oo U' => ∃ v L, oo = .returned v ∧ QR Z pa pb h0 n0 v U'.heap L ∧ FrameEnd U oo U' L ({ frames := 0, cells := 0, slots := 0, locals := 0 } : Room).cells ({ frames := 0, cells := 0, slots := 0, locals := 0 } : Room).slots) := by
  refine MetFree.of_bodySF (plainFor_of_name pnR) hisR ?_
  intro p e s m args below meth c s₁ Bd hml0 hP hK
  obtain ⟨rfl, hZ, hh⟩ := hP
  have hx := Bd.exec
  have hby := Bd.bytes
  have hlk : meth.locks = false := BodyLoose.notSynchronized Bd
  have hml : c.maxLocals = 2 := hml0
  have hown : s.vm.findClass "java/util/Objects" = some m.cls := findClass_of_methodNamed Bd.named
  have hnm := (name_of_methodNamed Bd.named Bd.method).1
  have X0 : Stand p l e ({ frames := 0, cells := 0, slots := 0, locals := 0 } : Room) s m #[(.ref pa), (.ref pb)] below meth c s₁ [] 0 0 := Stand.of_body Bd
  have e0 : s₁.heap = h0 := by rw [← hh, Bd.state]; rfl
  have N0 := Fr.nil n0
  have ef : entryFrame m #[(.ref pa), (.ref pb)] 2 = mkF m 0 #[rv pa, rv pb] [] := by first | (simp [entryFrame, mkF, argsToLocals, Value.category, maxLocals]; done) | rfl
  show Way p.tables e below (KQ s (QR Z pa pb h0 n0) ({ frames := 0, cells := 0, slots := 0, locals := 0 } : Room).cells ({ frames := 0, cells := 0, slots := 0, locals := 0 } : Room).slots) (s₁.setTop (entryFrame m #[(.ref pa), (.ref pb)] 2))
  rw [ef]
  refine Way.by (fun _ k => XS.aloadN X0.here hx rfl (hb hby dR_0) rfl rfl k) ?_
  show Way _ _ _ _ (s₁.setTop (mkF m 1 #[rv pa, rv pb] [(.ref pa)]))
  refine Way.by (fun _ k => XT.ifnonnullYes X0.here hx rfl (pc0 := 1) (pc' := 13) rfl (hb hby dR_1) rfl (by decide) (by decide) k) ?_
  show Way _ _ _ _ (s₁.setTop (mkF m 13 #[rv pa, rv pb] []))
  refine Way.by (fun _ k => XS.aloadN X0.here hx rfl (hb hby dR_13) rfl rfl k) ?_
  show Way _ _ _ _ (s₁.setTop (mkF m 14 #[rv pa, rv pb] [(.ref pa)]))
  refine Way.ret (v := (some (.ref pa))) X0 hlk (fun h => by rw [Bd.returns] at h; cases h) (fun fs hr => retOut X0 hx Bd.returns rfl (Or.inr (Or.inr (Or.inr (Or.inr ⟨rfl, rfl, rfl⟩)))) (hb hby dR_14) hr) ?_ (by decide) (by decide)
  show QR Z pa pb h0 n0 _ s₁.heap _
  rw [e0]
  exact ⟨rfl, N0, rfl⟩
def QIL (Z : State) (pa : Addr) (h0 : Heap) (n0 : Nat) (v : Option Value) (h : Heap) (L : List Loc) : Prop := v = some (.int 1) ∧ Fr n0 L ∧ h = h0
theorem dIL_0 : decode jdk_42_method_154_code 0 = .ok (.getstatic 38, 3) := by decide +kernel
theorem dIL_3 : decode jdk_42_method_154_code 3 = .ok (.ifCond .eq 14, 3) := by decide +kernel
theorem dIL_6 : decode jdk_42_method_154_code 6 = .ok (.aload_n 0, 1) := by decide +kernel
theorem dIL_7 : decode jdk_42_method_154_code 7 = .ok (.getfield 15, 3) := by decide +kernel
theorem dIL_10 : decode jdk_42_method_154_code 10 = .ok (.ifCond .ne 7, 3) := by decide +kernel
theorem dIL_13 : decode jdk_42_method_154_code 13 = .ok (.iconst 1, 1) := by decide +kernel
theorem dIL_14 : decode jdk_42_method_154_code 14 = .ok (.goto 4, 3) := by decide +kernel
theorem dIL_18 : decode jdk_42_method_154_code 18 = .ok (.ireturn, 1) := by decide +kernel
theorem pnIL : plainName "java/lang/String" = true := by first | (simp [plainName, overriddenIn]; done) | decide +kernel
theorem pdIL : parseMethodDescriptor "()Z" = some ⟨[], some .boolean⟩ := by decide +kernel
set_option maxRecDepth 65536 in
set_option maxHeartbeats 40000000 in
theorem rmIL (l : Launch) (Z : State) (a0 : Array Value) (hw : ∀ d ∈ tables_1, d.before a0 Z = true) (ws : List Jvm.Cond) (pa : Addr) (h0 : Heap) (n0 : Nat) (Z0 : n0 ≤ h0.size) (H0 : Fld Z h0 pa "java/lang/String" "coder" "B" (.int 0)) (O0 : Old Z n0 h0) (SV : own_Env Z) :
    MetFree l (⟨"java/lang/String", "isLatin1", "()Z"⟩ : MethodName) (head1 (Jvm.Cond.code (⟨"java/lang/String", "isLatin1", "()Z"⟩ : MethodName) jdk_42_method_154_code 1 (some .boolean) :: ws) ({ frames := 0, cells := 0, slots := 0, locals := 0 } : Room)) (fun aa U => aa = #[(.ref pa)] ∧ Z.Warmed39 U.vm ∧ U.heap = h0) (fun _ _ _ _ _ => True) (fun _ U oo U' => ∃ v L, oo = .returned v ∧ QIL Z pa h0 n0 v U'.heap L ∧ FrameEnd U oo U' L ({ frames := 0, cells := 0, slots := 0, locals := 0 } : Room).cells ({ frames := 0, cells := 0, slots := 0, locals := 0 } : Room).slots) := by
  refine MetFree.of_bodySF (plainFor_of_name pnIL) hisR ?_
  intro p e s m args below meth c s₁ Bd hml0 hP hK
  obtain ⟨rfl, hZ, hh⟩ := hP
  have hx := Bd.exec
  have hby := Bd.bytes
  have hlk : meth.locks = false := BodyLoose.notSynchronized Bd
  have hml : c.maxLocals = 1 := hml0
  have hown : s.vm.findClass "java/lang/String" = some m.cls := findClass_of_methodNamed Bd.named
  have hnm := (name_of_methodNamed Bd.named Bd.method).1
  have X0 : Stand p l e ({ frames := 0, cells := 0, slots := 0, locals := 0 } : Room) s m #[(.ref pa)] below meth c s₁ [] 0 0 := Stand.of_body Bd
  have e0 : s₁.heap = h0 := by rw [← hh, Bd.state]; rfl
  have N0 := Fr.nil n0
  have ef : entryFrame m #[(.ref pa)] 1 = mkF m 0 #[rv pa] [] := by first | (simp [entryFrame, mkF, argsToLocals, Value.category, maxLocals]; done) | rfl
  show Way p.tables e below (KQ s (QIL Z pa h0 n0) ({ frames := 0, cells := 0, slots := 0, locals := 0 } : Room).cells ({ frames := 0, cells := 0, slots := 0, locals := 0 } : Room).slots) (s₁.setTop (entryFrame m #[(.ref pa)] 1))
  rw [ef]
  obtain ⟨⟨G1, SG1, hG1⟩, G3, SG3, rG3⟩ := id SV
  obtain ⟨T1, X2, e3, st4⟩ := getS X0 hx hZ hown (host := "") (tw hw 19 rfl) Via.refl e0 (Sta.ext O0.2 SG1) (g := (mkF m 0 #[rv pa] [])) rfl (hb hby dIL_0)
  refine Way.by st4 ?_
  show Way _ _ _ _ (T1.setTop (mkF m 3 #[rv pa] [(.int G1)]))
  have b5 : ¬ G1 = (0 : Int32) := hG1
  refine Way.by (fun _ k => XS.ifNo X2.here hx rfl (hb hby dIL_3) rfl ((if0 .eq _).trans (feq b5).1) k) ?_
  show Way _ _ _ _ (T1.setTop (mkF m 6 #[rv pa] []))
  refine Way.by (fun _ k => XS.aloadN X2.here hx rfl (hb hby dIL_6) rfl rfl k) ?_
  show Way _ _ _ _ (T1.setTop (mkF m 7 #[rv pa] [(.ref pa)]))
  obtain ⟨T6, X7, e8, st9⟩ := getF X2 hx hZ hown (host := "") (Or.inl (tw hw 31 rfl)) Via.refl e3 H0 (g := (mkF m 7 #[rv pa] [(.ref pa)])) rfl rfl (hb hby dIL_7)
  refine Way.by st9 ?_
  show Way _ _ _ _ (T6.setTop (mkF m 10 #[rv pa] [(.int 0)]))
  have b10 : (0 : Int32) = (0 : Int32) := by decide
  refine Way.by (fun _ k => XS.ifNo X7.here hx rfl (hb hby dIL_10) rfl ((if0 .ne _).trans (teq b10).2) k) ?_
  show Way _ _ _ _ (T6.setTop (mkF m 13 #[rv pa] []))
  refine Way.by (fun _ k => XS.iconst X7.here hx rfl (hb hby dIL_13) k) ?_
  show Way _ _ _ _ (T6.setTop (mkF m 14 #[rv pa] [(.int 1)]))
  refine Way.by (fun _ k => XS.goto X7.here hx rfl (pc0 := 14) (pc' := 18) rfl (hb hby dIL_14) (by decide) (by decide) k) ?_
  show Way _ _ _ _ (T6.setTop (mkF m 18 #[rv pa] [(.int 1)]))
  refine Way.ret (v := (some (.int (nar .boolean (1 : Int32))))) X7 hlk (fun h => by rw [Bd.returns] at h; cases h) (fun fs hr => retN X7 hx (t := .boolean) Bd.returns (by simp) (hb hby dIL_18) hr) ?_ (by decide) (by decide)
  show QIL Z pa h0 n0 _ T6.heap _
  rw [e8]
  exact ⟨rfl, N0, rfl⟩
def QPKn (Z : State) (pi : Int32) (pn : Int32) (h0 : Heap) (n0 : Nat) (v : Option Value) (h : Heap) (L : List Loc) : Prop := v = some (.int pi) ∧ Fr n0 L ∧ h = h0
theorem dPKn_0 : decode jdk_41_method_11_code 0 = .ok (.iload_n 0, 1) := by decide +kernel
theorem dPKn_1 : decode jdk_41_method_11_code 1 = .ok (.ifCond .lt 8, 3) := by decide +kernel
theorem dPKn_4 : decode jdk_41_method_11_code 4 = .ok (.iload_n 0, 1) := by decide +kernel
theorem dPKn_5 : decode jdk_41_method_11_code 5 = .ok (.iload_n 1, 1) := by decide +kernel
theorem dPKn_6 : decode jdk_41_method_11_code 6 = .ok (.if_icmp .lt 10, 3) := by decide +kernel
theorem dPKn_16 : decode jdk_41_method_11_code 16 = .ok (.iload_n 0, 1) := by decide +kernel
theorem dPKn_17 : decode jdk_41_method_11_code 17 = .ok (.ireturn, 1) := by decide +kernel
theorem pnPKn : plainName "jdk/internal/util/Preconditions" = true := by first | (simp [plainName, overriddenIn]; done) | decide +kernel
theorem pdPKn : parseMethodDescriptor "(IILjava/util/function/BiFunction;)I" = some ⟨[.int, .int, (.object "java/util/function/BiFunction")], some .int⟩ := by decide +kernel
set_option maxRecDepth 65536 in
set_option maxHeartbeats 40000000 in
theorem rmPKn (l : Launch) (Z : State) (a0 : Array Value) (hw : ∀ d ∈ tables_1, d.before a0 Z = true) (ws : List Jvm.Cond) (pi : Int32) (pn : Int32) (h0 : Heap) (n0 : Nat) (Z0 : n0 ≤ h0.size) (hk : ¬ pi < 0 ∧ pi < pn) :
    MetFree l (⟨"jdk/internal/util/Preconditions", "checkIndex", "(IILjava/util/function/BiFunction;)I"⟩ : MethodName) (head1 (Jvm.Cond.code (⟨"jdk/internal/util/Preconditions", "checkIndex", "(IILjava/util/function/BiFunction;)I"⟩ : MethodName) jdk_41_method_11_code 3 (some .int) :: ws) ({ frames := 0, cells := 0, slots := 0, locals := 0 } : Room)) (fun aa U => aa = #[(.int pi), (.int pn), .null] ∧ Z.Warmed39 U.vm ∧ U.heap = h0) (fun _ _ _ _ _ => True) (fun _ U oo U' => ∃ v L, oo = .returned v ∧ QPKn Z pi pn h0 n0 v U'.heap L ∧ FrameEnd U oo U' L ({ frames := 0, cells := 0, slots := 0, locals := 0 } : Room).cells ({ frames := 0, cells := 0, slots := 0, locals := 0 } : Room).slots) := by
  refine MetFree.of_bodySF (plainFor_of_name pnPKn) hisR ?_
  intro p e s m args below meth c s₁ Bd hml0 hP hK
  obtain ⟨rfl, hZ, hh⟩ := hP
  have hx := Bd.exec
  have hby := Bd.bytes
  have hlk : meth.locks = false := BodyLoose.notSynchronized Bd
  have hml : c.maxLocals = 3 := hml0
  have hown : s.vm.findClass "jdk/internal/util/Preconditions" = some m.cls := findClass_of_methodNamed Bd.named
  have hnm := (name_of_methodNamed Bd.named Bd.method).1
  have X0 : Stand p l e ({ frames := 0, cells := 0, slots := 0, locals := 0 } : Room) s m #[(.int pi), (.int pn), .null] below meth c s₁ [] 0 0 := Stand.of_body Bd
  have e0 : s₁.heap = h0 := by rw [← hh, Bd.state]; rfl
  have N0 := Fr.nil n0
  have ef : entryFrame m #[(.int pi), (.int pn), .null] 3 = mkF m 0 #[iv pi, iv pn, .val .null] [] := by first | (simp [entryFrame, mkF, argsToLocals, Value.category, maxLocals]; done) | rfl
  show Way p.tables e below (KQ s (QPKn Z pi pn h0 n0) ({ frames := 0, cells := 0, slots := 0, locals := 0 } : Room).cells ({ frames := 0, cells := 0, slots := 0, locals := 0 } : Room).slots) (s₁.setTop (entryFrame m #[(.int pi), (.int pn), .null] 3))
  rw [ef]
  refine Way.by (fun _ k => XS.iloadN X0.here hx rfl (hb hby dPKn_0) rfl k) ?_
  show Way _ _ _ _ (s₁.setTop (mkF m 1 #[iv pi, iv pn, .val .null] [(.int pi)]))
  have b1 : ¬ pi < (0 : Int32) := hk.1
  refine Way.by (fun _ k => XS.ifNo X0.here hx rfl (hb hby dPKn_1) rfl ((if0 .lt _).trans (flt b1).1) k) ?_
  show Way _ _ _ _ (s₁.setTop (mkF m 4 #[iv pi, iv pn, .val .null] []))
  refine Way.by (fun _ k => XS.iloadN X0.here hx rfl (hb hby dPKn_4) rfl k) ?_
  show Way _ _ _ _ (s₁.setTop (mkF m 5 #[iv pi, iv pn, .val .null] [(.int pi)]))
  refine Way.by (fun _ k => XS.iloadN X0.here hx rfl (hb hby dPKn_5) rfl k) ?_
  show Way _ _ _ _ (s₁.setTop (mkF m 6 #[iv pi, iv pn, .val .null] [(.int pn), (.int pi)]))
  have b2 : pi < pn := hk.2
  refine Way.by (fun _ k => XS.icmpYes X0.here hx rfl (pc0 := 6) (pc' := 16) rfl (hb hby dPKn_6) rfl (tlt b2).1 (by decide) (by decide) k) ?_
  show Way _ _ _ _ (s₁.setTop (mkF m 16 #[iv pi, iv pn, .val .null] []))
  refine Way.by (fun _ k => XS.iloadN X0.here hx rfl (hb hby dPKn_16) rfl k) ?_
  show Way _ _ _ _ (s₁.setTop (mkF m 17 #[iv pi, iv pn, .val .null] [(.int pi)]))
  refine Way.ret (v := (some (.int pi))) X0 hlk (fun h => by rw [Bd.returns] at h; cases h) (fun fs hr => retI X0 hx Bd.returns (hb hby dPKn_17) hr) ?_ (by decide) (by decide)
  show QPKn Z pi pn h0 n0 _ s₁.heap _
  rw [e0]
  exact ⟨rfl, N0, rfl⟩
def QPKr (Z : State) (pi : Int32) (pn : Int32) (pg : Addr) (h0 : Heap) (n0 : Nat) (v : Option Value) (h : Heap) (L : List Loc) : Prop := v = some (.int pi) ∧ Fr n0 L ∧ h = h0
set_option maxRecDepth 65536 in
set_option maxHeartbeats 40000000 in
theorem rmPKr (l : Launch) (Z : State) (a0 : Array Value) (hw : ∀ d ∈ tables_1, d.before a0 Z = true) (ws : List Jvm.Cond) (pi : Int32) (pn : Int32) (pg : Addr) (h0 : Heap) (n0 : Nat) (Z0 : n0 ≤ h0.size) (hk : ¬ pi < 0 ∧ pi < pn) :
    MetFree l (⟨"jdk/internal/util/Preconditions", "checkIndex", "(IILjava/util/function/BiFunction;)I"⟩ : MethodName) (head1 (Jvm.Cond.code (⟨"jdk/internal/util/Preconditions", "checkIndex", "(IILjava/util/function/BiFunction;)I"⟩ : MethodName) jdk_41_method_11_code 3 (some .int) :: ws) ({ frames := 0, cells := 0, slots := 0, locals := 0 } : Room)) (fun aa U => aa = #[(.int pi), (.int pn), (.ref pg)] ∧ Z.Warmed39 U.vm ∧ U.heap = h0) (fun _ _ _ _ _ => True) (fun _ U oo U' => ∃ v L, oo = .returned v ∧ QPKr Z pi pn pg h0 n0 v U'.heap L ∧ FrameEnd U oo U' L ({ frames := 0, cells := 0, slots := 0, locals := 0 } : Room).cells ({ frames := 0, cells := 0, slots := 0, locals := 0 } : Room).slots) := by
  refine MetFree.of_bodySF (plainFor_of_name pnPKn) hisR ?_
  intro p e s m args below meth c s₁ Bd hml0 hP hK
  obtain ⟨rfl, hZ, hh⟩ := hP
  have hx := Bd.exec
  have hby := Bd.bytes
  have hlk : meth.locks = false := BodyLoose.notSynchronized Bd
  have hml : c.maxLocals = 3 := hml0
  have hown : s.vm.findClass "jdk/internal/util/Preconditions" = some m.cls := findClass_of_methodNamed Bd.named
  have hnm := (name_of_methodNamed Bd.named Bd.method).1
  have X0 : Stand p l e ({ frames := 0, cells := 0, slots := 0, locals := 0 } : Room) s m #[(.int pi), (.int pn), (.ref pg)] below meth c s₁ [] 0 0 := Stand.of_body Bd
  have e0 : s₁.heap = h0 := by rw [← hh, Bd.state]; rfl
  have N0 := Fr.nil n0
  have ef : entryFrame m #[(.int pi), (.int pn), (.ref pg)] 3 = mkF m 0 #[iv pi, iv pn, rv pg] [] := by first | (simp [entryFrame, mkF, argsToLocals, Value.category, maxLocals]; done) | rfl
  show Way p.tables e below (KQ s (QPKr Z pi pn pg h0 n0) ({ frames := 0, cells := 0, slots := 0, locals := 0 } : Room).cells ({ frames := 0, cells := 0, slots := 0, locals := 0 } : Room).slots) (s₁.setTop (entryFrame m #[(.int pi), (.int pn), (.ref pg)] 3))
  rw [ef]
  refine Way.by (fun _ k => XS.iloadN X0.here hx rfl (hb hby dPKn_0) rfl k) ?_
  show Way _ _ _ _ (s₁.setTop (mkF m 1 #[iv pi, iv pn, rv pg] [(.int pi)]))
  have b1 : ¬ pi < (0 : Int32) := hk.1
  refine Way.by (fun _ k => XS.ifNo X0.here hx rfl (hb hby dPKn_1) rfl ((if0 .lt _).trans (flt b1).1) k) ?_
  show Way _ _ _ _ (s₁.setTop (mkF m 4 #[iv pi, iv pn, rv pg] []))
  refine Way.by (fun _ k => XS.iloadN X0.here hx rfl (hb hby dPKn_4) rfl k) ?_
  show Way _ _ _ _ (s₁.setTop (mkF m 5 #[iv pi, iv pn, rv pg] [(.int pi)]))
  refine Way.by (fun _ k => XS.iloadN X0.here hx rfl (hb hby dPKn_5) rfl k) ?_
  show Way _ _ _ _ (s₁.setTop (mkF m 6 #[iv pi, iv pn, rv pg] [(.int pn), (.int pi)]))
  have b2 : pi < pn := hk.2
  refine Way.by (fun _ k => XS.icmpYes X0.here hx rfl (pc0 := 6) (pc' := 16) rfl (hb hby dPKn_6) rfl (tlt b2).1 (by decide) (by decide) k) ?_
  show Way _ _ _ _ (s₁.setTop (mkF m 16 #[iv pi, iv pn, rv pg] []))
  refine Way.by (fun _ k => XS.iloadN X0.here hx rfl (hb hby dPKn_16) rfl k) ?_
  show Way _ _ _ _ (s₁.setTop (mkF m 17 #[iv pi, iv pn, rv pg] [(.int pi)]))
  refine Way.ret (v := (some (.int pi))) X0 hlk (fun h => by rw [Bd.returns] at h; cases h) (fun fs hr => retI X0 hx Bd.returns (hb hby dPKn_17) hr) ?_ (by decide) (by decide)
  show QPKr Z pi pn pg h0 n0 _ s₁.heap _
  rw [e0]
  exact ⟨rfl, N0, rfl⟩
def QSK (Z : State) (pi : Int32) (pn : Int32) (h0 : Heap) (n0 : Nat) (v : Option Value) (h : Heap) (L : List Loc) : Prop := v = none ∧ Fr n0 L ∧ h = h0
theorem dSK_0 : decode jdk_42_method_155_code 0 = .ok (.iload_n 0, 1) := by decide +kernel
theorem dSK_1 : decode jdk_42_method_155_code 1 = .ok (.iload_n 1, 1) := by decide +kernel
theorem dSK_2 : decode jdk_42_method_155_code 2 = .ok (.getstatic 1053, 3) := by decide +kernel
theorem dSK_5 : decode jdk_42_method_155_code 5 = .ok (.invokestatic 1059, 3) := by decide +kernel
theorem dSK_8 : decode jdk_42_method_155_code 8 = .ok (.pop, 1) := by decide +kernel
theorem dSK_9 : decode jdk_42_method_155_code 9 = .ok (.return_, 1) := by decide +kernel
theorem pdSK : parseMethodDescriptor "(II)V" = some ⟨[.int, .int], none⟩ := by decide +kernel
set_option maxRecDepth 65536 in
set_option maxHeartbeats 40000000 in
theorem rmSK (l : Launch) (Z : State) (a0 : Array Value) (hw : ∀ d ∈ tables_1, d.before a0 Z = true) (ws : List Jvm.Cond) (pi : Int32) (pn : Int32) (h0 : Heap) (n0 : Nat) (Z0 : n0 ≤ h0.size) (hk : ¬ pi < 0 ∧ pi < pn) (O0 : Old Z n0 h0) (SV : own_Env Z) :
    MetFree l (⟨"java/lang/String", "checkIndex", "(II)V"⟩ : MethodName) (head1 (Jvm.Cond.code (⟨"java/lang/String", "checkIndex", "(II)V"⟩ : MethodName) jdk_42_method_155_code 2 none :: ws) ({ frames := 1, cells := 0, slots := 0, locals := 14 } : Room)) (fun aa U => aa = #[(.int pi), (.int pn)] ∧ Z.Warmed39 U.vm ∧ U.heap = h0) (fun _ _ _ _ _ => True) (fun _ U oo U' => ∃ v L, oo = .returned v ∧ QSK Z pi pn h0 n0 v U'.heap L ∧ FrameEnd U oo U' L ({ frames := 1, cells := 0, slots := 0, locals := 14 } : Room).cells ({ frames := 1, cells := 0, slots := 0, locals := 14 } : Room).slots) := by
  refine MetFree.of_bodySF (plainFor_of_name pnIL) hisR ?_
  intro p e s m args below meth c s₁ Bd hml0 hP hK
  obtain ⟨rfl, hZ, hh⟩ := hP
  have hx := Bd.exec
  have hby := Bd.bytes
  have hlk : meth.locks = false := BodyLoose.notSynchronized Bd
  have hml : c.maxLocals = 2 := hml0
  have hown : s.vm.findClass "java/lang/String" = some m.cls := findClass_of_methodNamed Bd.named
  have hnm := (name_of_methodNamed Bd.named Bd.method).1
  have X0 : Stand p l e ({ frames := 1, cells := 0, slots := 0, locals := 14 } : Room) s m #[(.int pi), (.int pn)] below meth c s₁ [] 0 0 := Stand.of_body Bd
  have e0 : s₁.heap = h0 := by rw [← hh, Bd.state]; rfl
  have N0 := Fr.nil n0
  have ef : entryFrame m #[(.int pi), (.int pn)] 2 = mkF m 0 #[iv pi, iv pn] [] := by first | (simp [entryFrame, mkF, argsToLocals, Value.category, maxLocals]; done) | rfl
  show Way p.tables e below (KQ s (QSK Z pi pn h0 n0) ({ frames := 1, cells := 0, slots := 0, locals := 14 } : Room).cells ({ frames := 1, cells := 0, slots := 0, locals := 14 } : Room).slots) (s₁.setTop (entryFrame m #[(.int pi), (.int pn)] 2))
  rw [ef]
  obtain ⟨⟨G1, SG1, hG1⟩, G3, SG3, rG3⟩ := id SV
  rcases ref_cases rG3 with rfl | ⟨g3, rfl⟩
  · skip
    show Way _ _ _ _ (s₁.setTop (mkF m 0 #[iv pi, iv pn] []))
    refine Way.by (fun _ k => XS.iloadN X0.here hx rfl (hb hby dSK_0) rfl k) ?_
    show Way _ _ _ _ (s₁.setTop (mkF m 1 #[iv pi, iv pn] [(.int pi)]))
    refine Way.by (fun _ k => XS.iloadN X0.here hx rfl (hb hby dSK_1) rfl k) ?_
    show Way _ _ _ _ (s₁.setTop (mkF m 2 #[iv pi, iv pn] [(.int pn), (.int pi)]))
    obtain ⟨T1, X2, e3, st4⟩ := getS X0 hx hZ hown (host := "") (tw hw 89 rfl) Via.refl e0 (Sta.ext O0.2 SG3) (g := (mkF m 2 #[iv pi, iv pn] [(.int pn), (.int pi)])) rfl (hb hby dSK_2)
    refine Way.by st4 ?_
    show Way _ _ _ _ (T1.setTop (mkF m 5 #[iv pi, iv pn] [.null, (.int pn), (.int pi)]))
    obtain ⟨_, _, ⟨T5, L7, k8, n9⟩, -, X6, ⟨Lc10, hQ11, l12, y13, z14⟩, st15⟩ := Jvm.LawKit.callS X2 hx (y := (⟨"jdk/internal/util/Preconditions", "checkIndex", "(IILjava/util/function/BiFunction;)I"⟩ : MethodName)) hown (mvT hZ (tw hw 91 rfl)) (mvT hZ (tw hw 92 rfl)) (mvT hZ (tw hw 90 rfl)) (mvT hZ (tw hw 93 rfl)) (by decide) (backOf (W := 0) (rmPKn l Z a0 hw [] pi pn h0 n0 Z0 hk) hZ (tw hw 93 rfl) (tw hw 90 rfl) (by decide) (by decide)) (g := (mkF m 5 #[iv pi, iv pn] [.null, (.int pn), (.int pi)])) rfl (by rw [hml]; rfl) (argsL := [(.int pi), (.int pn), .null]) (rest := []) (lenOf pdPKn rfl) rfl (leW rfl) (hb hby dSK_5) (fun _ _ => ⟨rfl, e3, (leB rfl), (leB rfl)⟩)
    dsimp only [Pt.U, Pt.locs, Pt.cells, Pt.slots] at X6 l12 y13 z14 st15 hQ11
    subst l12 y13 z14
    obtain ⟨rfl, N21, e17⟩ := hQ11
    have N16 := Fr.app N0 N21
    refine Way.by st15 ?_
    show Way _ _ _ _ (T5.setTop (mkF m 8 #[iv pi, iv pn] [(.int pi)]))
    refine Way.by (fun _ k => XT.pop X6.here hx rfl (hb hby dSK_8) rfl rfl k) ?_
    show Way _ _ _ _ (T5.setTop (mkF m 9 #[iv pi, iv pn] []))
    refine Way.ret (v := none) X6 hlk (fun _ => rfl) (fun fs hr => X6.returnOut hx Bd.returns (hb hby dSK_9) hr) ?_ (by decide) (by decide)
    show QSK Z pi pn h0 n0 _ T5.heap _
    rw [e17]
    exact ⟨rfl, N16, rfl⟩
  · skip
    show Way _ _ _ _ (s₁.setTop (mkF m 0 #[iv pi, iv pn] []))
    refine Way.by (fun _ k => XS.iloadN X0.here hx rfl (hb hby dSK_0) rfl k) ?_
    show Way _ _ _ _ (s₁.setTop (mkF m 1 #[iv pi, iv pn] [(.int pi)]))
    refine Way.by (fun _ k => XS.iloadN X0.here hx rfl (hb hby dSK_1) rfl k) ?_
    show Way _ _ _ _ (s₁.setTop (mkF m 2 #[iv pi, iv pn] [(.int pn), (.int pi)]))
    obtain ⟨T23, X24, e25, st26⟩ := getS X0 hx hZ hown (host := "") (tw hw 89 rfl) Via.refl e0 (Sta.ext O0.2 SG3) (g := (mkF m 2 #[iv pi, iv pn] [(.int pn), (.int pi)])) rfl (hb hby dSK_2)
    refine Way.by st26 ?_
    show Way _ _ _ _ (T23.setTop (mkF m 5 #[iv pi, iv pn] [(.ref g3), (.int pn), (.int pi)]))
    obtain ⟨_, _, ⟨T27, L29, k30, n31⟩, -, X28, ⟨Lc32, hQ33, l34, y35, z36⟩, st37⟩ := Jvm.LawKit.callS X24 hx (y := (⟨"jdk/internal/util/Preconditions", "checkIndex", "(IILjava/util/function/BiFunction;)I"⟩ : MethodName)) hown (mvT hZ (tw hw 91 rfl)) (mvT hZ (tw hw 92 rfl)) (mvT hZ (tw hw 90 rfl)) (mvT hZ (tw hw 93 rfl)) (by decide) (backOf (W := 0) (rmPKr l Z a0 hw [] pi pn g3 h0 n0 Z0 hk) hZ (tw hw 93 rfl) (tw hw 90 rfl) (by decide) (by decide)) (g := (mkF m 5 #[iv pi, iv pn] [(.ref g3), (.int pn), (.int pi)])) rfl (by rw [hml]; rfl) (argsL := [(.int pi), (.int pn), (.ref g3)]) (rest := []) (lenOf pdPKn rfl) rfl (leW rfl) (hb hby dSK_5) (fun _ _ => ⟨rfl, e25, (leB rfl), (leB rfl)⟩)
    dsimp only [Pt.U, Pt.locs, Pt.cells, Pt.slots] at X28 l34 y35 z36 st37 hQ33
    subst l34 y35 z36
    obtain ⟨rfl, N43, e39⟩ := hQ33
    have N38 := Fr.app N0 N43
    refine Way.by st37 ?_
    show Way _ _ _ _ (T27.setTop (mkF m 8 #[iv pi, iv pn] [(.int pi)]))
    refine Way.by (fun _ k => XT.pop X28.here hx rfl (hb hby dSK_8) rfl rfl k) ?_
    show Way _ _ _ _ (T27.setTop (mkF m 9 #[iv pi, iv pn] []))
    refine Way.ret (v := none) X28 hlk (fun _ => rfl) (fun fs hr => X28.returnOut hx Bd.returns (hb hby dSK_9) hr) ?_ (by decide) (by decide)
    show QSK Z pi pn h0 n0 _ T27.heap _
    rw [e39]
    exact ⟨rfl, N38, rfl⟩
def QCP (Z : State) (px : Addr) (pt : Addr) (cs : List Int32) (i : Nat) (h0 : Heap) (n0 : Nat) (v : Option Value) (h : Heap) (L : List Loc) : Prop := v = some (.int (cs.getD i 0)) ∧ Fr n0 L ∧ h = h0
theorem dCP_0 : decode jdk_42_method_57_code 0 = .ok (.aload_n 0, 1) := by decide +kernel
theorem dCP_1 : decode jdk_42_method_57_code 1 = .ok (.invokevirtual 492, 3) := by decide +kernel
theorem dCP_4 : decode jdk_42_method_57_code 4 = .ok (.ifCond .eq 23, 3) := by decide +kernel
theorem dCP_7 : decode jdk_42_method_57_code 7 = .ok (.iload_n 1, 1) := by decide +kernel
theorem dCP_8 : decode jdk_42_method_57_code 8 = .ok (.aload_n 0, 1) := by decide +kernel
theorem dCP_9 : decode jdk_42_method_57_code 9 = .ok (.getfield 9, 3) := by decide +kernel
theorem dCP_12 : decode jdk_42_method_57_code 12 = .ok (.arraylength, 1) := by decide +kernel
theorem dCP_13 : decode jdk_42_method_57_code 13 = .ok (.invokestatic 499, 3) := by decide +kernel
theorem dCP_16 : decode jdk_42_method_57_code 16 = .ok (.aload_n 0, 1) := by decide +kernel
theorem dCP_17 : decode jdk_42_method_57_code 17 = .ok (.getfield 9, 3) := by decide +kernel
theorem dCP_20 : decode jdk_42_method_57_code 20 = .ok (.iload_n 1, 1) := by decide +kernel
theorem dCP_21 : decode jdk_42_method_57_code 21 = .ok (.baload, 1) := by decide +kernel
theorem dCP_22 : decode jdk_42_method_57_code 22 = .ok (.sipush 255, 3) := by decide +kernel
theorem dCP_25 : decode jdk_42_method_57_code 25 = .ok (.iand, 1) := by decide +kernel
theorem dCP_26 : decode jdk_42_method_57_code 26 = .ok (.ireturn, 1) := by decide +kernel
theorem pdCP : parseMethodDescriptor "(I)I" = some ⟨[.int], some .int⟩ := by decide +kernel
set_option maxRecDepth 65536 in
set_option maxHeartbeats 40000000 in
theorem rmCP (l : Launch) (Z : State) (a0 : Array Value) (hw : ∀ d ∈ tables_1, d.before a0 Z = true) (ws : List Jvm.Cond) (px : Addr) (pt : Addr) (cs : List Int32) (i : Nat) (h0 : Heap) (n0 : Nat) (Z0 : n0 ≤ h0.size) (H0 : own_Str Z h0 px pt cs) (hi : i < cs.length) (O0 : Old Z n0 h0) (SV : own_Env Z) :
    MetFree l (⟨"java/lang/String", "codePointAt", "(I)I"⟩ : MethodName) (head1 (Jvm.Cond.code (⟨"java/lang/String", "codePointAt", "(I)I"⟩ : MethodName) jdk_42_method_57_code 3 (some .int) :: ws) ({ frames := 2, cells := 0, slots := 0, locals := 27 } : Room)) (fun aa U => aa = #[(.ref px), (.int (Int32.ofNat i))] ∧ Z.Warmed39 U.vm ∧ U.heap = h0) (fun _ _ _ _ _ => True) (fun _ U oo U' => ∃ v L, oo = .returned v ∧ QCP Z px pt cs i h0 n0 v U'.heap L ∧ FrameEnd U oo U' L ({ frames := 2, cells := 0, slots := 0, locals := 27 } : Room).cells ({ frames := 2, cells := 0, slots := 0, locals := 27 } : Room).slots) := by
  refine MetFree.of_bodySF (plainFor_of_name pnIL) hisR ?_
  intro p e s m args below meth c s₁ Bd hml0 hP hK
  obtain ⟨rfl, hZ, hh⟩ := hP
  have hx := Bd.exec
  have hby := Bd.bytes
  have hlk : meth.locks = false := BodyLoose.notSynchronized Bd
  have hml : c.maxLocals = 3 := hml0
  have hown : s.vm.findClass "java/lang/String" = some m.cls := findClass_of_methodNamed Bd.named
  have hnm := (name_of_methodNamed Bd.named Bd.method).1
  have X0 : Stand p l e ({ frames := 2, cells := 0, slots := 0, locals := 27 } : Room) s m #[(.ref px), (.int (Int32.ofNat i))] below meth c s₁ [] 0 0 := Stand.of_body Bd
  have e0 : s₁.heap = h0 := by rw [← hh, Bd.state]; rfl
  have N0 := Fr.nil n0
  have ef : entryFrame m #[(.ref px), (.int (Int32.ofNat i))] 3 = mkF m 0 #[rv px, iv (Int32.ofNat i), .unset] [] := by first | (simp [entryFrame, mkF, argsToLocals, Value.category, maxLocals]; done) | rfl
  show Way p.tables e below (KQ s (QCP Z px pt cs i h0 n0) ({ frames := 2, cells := 0, slots := 0, locals := 27 } : Room).cells ({ frames := 2, cells := 0, slots := 0, locals := 27 } : Room).slots) (s₁.setTop (entryFrame m #[(.ref px), (.int (Int32.ofNat i))] 3))
  rw [ef]
  obtain ⟨H0E, H0V, H0C, -, H0B, H0Ln⟩ := id H0
  obtain ⟨H0kb, H0A0⟩ := H0.arv
  have hsz : cs.length < 2147483648 := Nat.lt_of_le_of_lt H0Ln (by decide)
  refine Way.by (fun _ k => XS.aloadN X0.here hx rfl (hb hby dCP_0) rfl rfl k) ?_
  show Way _ _ _ _ (s₁.setTop (mkF m 1 #[rv px, iv (Int32.ofNat i), .unset] [(.ref px)]))
  obtain ⟨cq17, kq18, qa19, qb20, qc21⟩ := isOf hZ e0 H0E
  obtain ⟨_, _, ⟨T1, L3, k4, n5⟩, -, X2, ⟨Lc6, hQ7, l8, y9, z10⟩, st11⟩ := X0.virtualBack hx (y := (⟨"java/lang/String", "isLatin1", "()Z"⟩ : MethodName)) (z := (⟨"java/lang/String", "isLatin1", "()Z"⟩ : MethodName)) hown (mvT hZ (tw hw 81 rfl)) (mvT hZ (tw hw 82 rfl)) (notFace_of_selects (args := #[]) (mvT hZ (tw hw 84 rfl))) (mvT hZ (tw hw 84 rfl)) (mvT hZ (tw hw 83 rfl)) (by decide) (backOf (W := 0) (rmIL l Z a0 hw [] px h0 n0 Z0 H0C O0 SV) hZ (tw hw 85 rfl) (tw hw 7 rfl) (by decide) (by decide)) qa19 qc21 (g := (mkF m 1 #[rv px, iv (Int32.ofNat i), .unset] [(.ref px)])) rfl (by rw [hml]; rfl) (Steps.refl _) (argsL := []) (rest := []) (lenOf pdIL rfl) rfl (leW rfl) (hb hby dCP_1) (fun _ _ => ⟨rfl, e0, (leB rfl), (leB rfl)⟩)
  dsimp only [Pt.U, Pt.locs, Pt.cells, Pt.slots] at X2 l8 y9 z10 st11 hQ7
  subst l8 y9 z10
  obtain ⟨rfl, N22, e13⟩ := hQ7
  have N12 := Fr.app N0 N22
  refine Way.to st11 ?_
  show Way _ _ _ _ (T1.setTop (mkF m 4 #[rv px, iv (Int32.ofNat i), .unset] [(.int 1)]))
  have b24 : ¬ (1 : Int32) = (0 : Int32) := by decide
  refine Way.by (fun _ k => XS.ifNo X2.here hx rfl (hb hby dCP_4) rfl ((if0 .eq _).trans (feq b24).1) k) ?_
  show Way _ _ _ _ (T1.setTop (mkF m 7 #[rv px, iv (Int32.ofNat i), .unset] []))
  refine Way.by (fun _ k => XS.iloadN X2.here hx rfl (hb hby dCP_7) rfl k) ?_
  show Way _ _ _ _ (T1.setTop (mkF m 8 #[rv px, iv (Int32.ofNat i), .unset] [(.int (Int32.ofNat i))]))
  refine Way.by (fun _ k => XS.aloadN X2.here hx rfl (hb hby dCP_8) rfl rfl k) ?_
  show Way _ _ _ _ (T1.setTop (mkF m 9 #[rv px, iv (Int32.ofNat i), .unset] [(.ref px), (.int (Int32.ofNat i))]))
  obtain ⟨T25, X26, e27, st28⟩ := getF X2 hx hZ hown (host := "") (Or.inl (tw hw 33 rfl)) Via.refl e13 H0V (g := (mkF m 9 #[rv px, iv (Int32.ofNat i), .unset] [(.ref px), (.int (Int32.ofNat i))])) rfl rfl (hb hby dCP_9)
  refine Way.by st28 ?_
  show Way _ _ _ _ (T25.setTop (mkF m 12 #[rv px, iv (Int32.ofNat i), .unset] [(.ref pt), (.int (Int32.ofNat i))]))
  obtain ⟨c29, A30, q31, S32, M33, H34, U35⟩ := id H0A0
  refine Way.by (fun t k => Stand.arraylength X26 hx (hpE e27 A30.1) (arrS hZ A30) (g := (mkF m 12 #[rv px, iv (Int32.ofNat i), .unset] [(.ref pt), (.int (Int32.ofNat i))])) rfl rfl (hb hby dCP_12) t k) ?_
  rw [len_of S32 M33]
  show Way _ _ _ _ (T25.setTop (mkF m 13 #[rv px, iv (Int32.ofNat i), .unset] [(.int (Int32.ofNat cs.length)), (.int (Int32.ofNat i))]))
  obtain ⟨_, _, ⟨T36, L38, k39, n40⟩, -, X37, ⟨Lc41, hQ42, l43, y44, z45⟩, st46⟩ := Jvm.LawKit.callS X26 hx (y := (⟨"java/lang/String", "checkIndex", "(II)V"⟩ : MethodName)) hown (mvT hZ (tw hw 86 rfl)) (mvT hZ (tw hw 87 rfl)) (mvT hZ (tw hw 7 rfl)) (mvT hZ (tw hw 88 rfl)) (by decide) (backOf (W := 0) (rmSK l Z a0 hw [] (Int32.ofNat i) (Int32.ofNat cs.length) h0 n0 Z0 ⟨own_ofNat_nn (by omega), (own_ofNat_lt hsz (by omega)).mpr hi⟩ O0 SV) hZ (tw hw 88 rfl) (tw hw 7 rfl) (by decide) (by decide)) (g := (mkF m 13 #[rv px, iv (Int32.ofNat i), .unset] [(.int (Int32.ofNat cs.length)), (.int (Int32.ofNat i))])) rfl (by rw [hml]; rfl) (argsL := [(.int (Int32.ofNat i)), (.int (Int32.ofNat cs.length))]) (rest := []) (lenOf pdSK rfl) rfl (leW rfl) (hb hby dCP_13) (fun _ _ => ⟨rfl, e27, (leB rfl), (leB rfl)⟩)
  dsimp only [Pt.U, Pt.locs, Pt.cells, Pt.slots] at X37 l43 y44 z45 st46 hQ42
  subst l43 y44 z45
  obtain ⟨rfl, N52, e48⟩ := hQ42
  have N47 := Fr.app N12 N52
  refine Way.by st46 ?_
  show Way _ _ _ _ (T36.setTop (mkF m 16 #[rv px, iv (Int32.ofNat i), .unset] []))
  refine Way.by (fun _ k => XS.aloadN X37.here hx rfl (hb hby dCP_16) rfl rfl k) ?_
  show Way _ _ _ _ (T36.setTop (mkF m 17 #[rv px, iv (Int32.ofNat i), .unset] [(.ref px)]))
  obtain ⟨T54, X55, e56, st57⟩ := getF X37 hx hZ hown (host := "") (Or.inl (tw hw 33 rfl)) Via.refl e48 H0V (g := (mkF m 17 #[rv px, iv (Int32.ofNat i), .unset] [(.ref px)])) rfl rfl (hb hby dCP_17)
  refine Way.by st57 ?_
  show Way _ _ _ _ (T54.setTop (mkF m 20 #[rv px, iv (Int32.ofNat i), .unset] [(.ref pt)]))
  refine Way.by (fun _ k => XS.iloadN X55.here hx rfl (hb hby dCP_20) rfl k) ?_
  show Way _ _ _ _ (T54.setTop (mkF m 21 #[rv px, iv (Int32.ofNat i), .unset] [(.int (Int32.ofNat i)), (.ref pt)]))
  obtain ⟨cB, AB, qB, SB, MB, HB, UB⟩ := id H0A0
  have inb := inb_of SB ⟨own_ofNat_nn (i := i) (by omega), (own_ofNat_lt hsz (by omega)).mpr hi⟩
  refine Way.by (fun t k => Stand.baloadBytes X55 hx (hpE e56 AB.1) (arrS hZ AB) AB.2.2 inb (Has.at HB inb (by rw [own_clamp (by omega)]; exact own_low hi)) (v := (.int (StrChars.lo8 (cs.getD i 0)))) (g := (mkF m 21 #[rv px, iv (Int32.ofNat i), .unset] [(.int (Int32.ofNat i)), (.ref pt)])) rfl rfl (hb hby dCP_21) t k) ?_
  show Way _ _ _ _ (T54.setTop (mkF m 22 #[rv px, iv (Int32.ofNat i), .unset] [(.int (StrChars.lo8 (cs.getD i 0)))]))
  refine Way.by (fun _ k => XS.sipush X55.here hx rfl (hb hby dCP_22) k) ?_
  show Way _ _ _ _ (T54.setTop (mkF m 25 #[rv px, iv (Int32.ofNat i), .unset] [(.int 255), (.int (StrChars.lo8 (cs.getD i 0)))]))
  refine Way.by (fun _ k => XS.iand X55.here hx rfl (hb hby dCP_25) rfl k) ?_
  show Way _ _ _ _ (T54.setTop (mkF m 26 #[rv px, iv (Int32.ofNat i), .unset] [(.int ((StrChars.lo8 (cs.getD i 0)) &&& (255 : Int32)))]))
  rw [own_lo8 (H0B _ (own_mem_getD hi))]
  show Way _ _ _ _ (T54.setTop (mkF m 26 #[rv px, iv (Int32.ofNat i), .unset] [(.int (cs.getD i 0))]))
  refine Way.ret (v := (some (.int (cs.getD i 0)))) X55 hlk (fun h => by rw [Bd.returns] at h; cases h) (fun fs hr => retI X55 hx Bd.returns (hb hby dCP_26) hr) ?_ (by decide) (by decide)
  show QCP Z px pt cs i h0 n0 _ T54.heap _
  rw [e56]
  exact ⟨rfl, N47, rfl⟩
def QIA (Z : State) (pc_ : Int32) (h0 : Heap) (n0 : Nat) (v : Option Value) (h : Heap) (L : List Loc) : Prop := v = some (.int 1) ∧ Fr n0 L ∧ h = h0
theorem dIA_0 : decode prog_6_method_3_code 0 = .ok (.iload_n 0, 1) := by decide +kernel
theorem dIA_1 : decode prog_6_method_3_code 1 = .ok (.bipush 65, 2) := by decide +kernel
theorem dIA_3 : decode prog_6_method_3_code 3 = .ok (.if_icmp .lt 9, 3) := by decide +kernel
theorem dIA_6 : decode prog_6_method_3_code 6 = .ok (.iload_n 0, 1) := by decide +kernel
theorem dIA_7 : decode prog_6_method_3_code 7 = .ok (.bipush 90, 2) := by decide +kernel
theorem dIA_9 : decode prog_6_method_3_code 9 = .ok (.if_icmp .le 45, 3) := by decide +kernel
theorem dIA_12 : decode prog_6_method_3_code 12 = .ok (.iload_n 0, 1) := by decide +kernel
theorem dIA_13 : decode prog_6_method_3_code 13 = .ok (.bipush 97, 2) := by decide +kernel
theorem dIA_15 : decode prog_6_method_3_code 15 = .ok (.if_icmp .lt 9, 3) := by decide +kernel
theorem dIA_18 : decode prog_6_method_3_code 18 = .ok (.iload_n 0, 1) := by decide +kernel
theorem dIA_19 : decode prog_6_method_3_code 19 = .ok (.bipush 122, 2) := by decide +kernel
theorem dIA_21 : decode prog_6_method_3_code 21 = .ok (.if_icmp .le 33, 3) := by decide +kernel
theorem dIA_24 : decode prog_6_method_3_code 24 = .ok (.iload_n 0, 1) := by decide +kernel
theorem dIA_25 : decode prog_6_method_3_code 25 = .ok (.bipush 48, 2) := by decide +kernel
theorem dIA_27 : decode prog_6_method_3_code 27 = .ok (.if_icmp .lt 9, 3) := by decide +kernel
theorem dIA_30 : decode prog_6_method_3_code 30 = .ok (.iload_n 0, 1) := by decide +kernel
theorem dIA_31 : decode prog_6_method_3_code 31 = .ok (.bipush 57, 2) := by decide +kernel
theorem dIA_33 : decode prog_6_method_3_code 33 = .ok (.if_icmp .le 21, 3) := by decide +kernel
theorem dIA_36 : decode prog_6_method_3_code 36 = .ok (.iload_n 0, 1) := by decide +kernel
theorem dIA_37 : decode prog_6_method_3_code 37 = .ok (.bipush 46, 2) := by decide +kernel
theorem dIA_39 : decode prog_6_method_3_code 39 = .ok (.if_icmp .eq 15, 3) := by decide +kernel
theorem dIA_42 : decode prog_6_method_3_code 42 = .ok (.iload_n 0, 1) := by decide +kernel
theorem dIA_43 : decode prog_6_method_3_code 43 = .ok (.bipush 45, 2) := by decide +kernel
theorem dIA_45 : decode prog_6_method_3_code 45 = .ok (.if_icmp .eq 9, 3) := by decide +kernel
theorem dIA_48 : decode prog_6_method_3_code 48 = .ok (.iload_n 0, 1) := by decide +kernel
theorem dIA_49 : decode prog_6_method_3_code 49 = .ok (.bipush 95, 2) := by decide +kernel
theorem dIA_51 : decode prog_6_method_3_code 51 = .ok (.if_icmp .ne 7, 3) := by decide +kernel
theorem dIA_54 : decode prog_6_method_3_code 54 = .ok (.iconst 1, 1) := by decide +kernel
theorem dIA_55 : decode prog_6_method_3_code 55 = .ok (.goto 4, 3) := by decide +kernel
theorem dIA_59 : decode prog_6_method_3_code 59 = .ok (.ireturn, 1) := by decide +kernel
theorem pnIA : plainName "com/example/outbox/outbox/QueueName" = true := by first | (simp [plainName, overriddenIn]; done) | decide +kernel
theorem pdIA : parseMethodDescriptor "(I)Z" = some ⟨[.int], some .boolean⟩ := by decide +kernel
set_option maxRecDepth 65536 in
set_option maxHeartbeats 40000000 in
theorem rmIA (l : Launch) (Z : State) (a0 : Array Value) (hw : ∀ d ∈ tables_1, d.before a0 Z = true) (ws : List Jvm.Cond) (pc_ : Int32) (h0 : Heap) (n0 : Nat) (Z0 : n0 ≤ h0.size) (hok : own_ok pc_) :
    MetFree l (⟨"com/example/outbox/outbox/QueueName", "isAllowed", "(I)Z"⟩ : MethodName) (head1 (Jvm.Cond.code (⟨"com/example/outbox/outbox/QueueName", "isAllowed", "(I)Z"⟩ : MethodName) prog_6_method_3_code 1 (some .boolean) :: ws) ({ frames := 0, cells := 0, slots := 0, locals := 0 } : Room)) (fun aa U => aa = #[(.int pc_)] ∧ Z.Warmed39 U.vm ∧ U.heap = h0) (fun _ _ _ _ _ => True) (fun _ U oo U' => ∃ v L, oo = .returned v ∧ QIA Z pc_ h0 n0 v U'.heap L ∧ FrameEnd U oo U' L ({ frames := 0, cells := 0, slots := 0, locals := 0 } : Room).cells ({ frames := 0, cells := 0, slots := 0, locals := 0 } : Room).slots) := by
  refine MetFree.of_bodySF (plainFor_of_name pnIA) hisR ?_
  intro p e s m args below meth c s₁ Bd hml0 hP hK
  obtain ⟨rfl, hZ, hh⟩ := hP
  have hx := Bd.exec
  have hby := Bd.bytes
  have hlk : meth.locks = false := BodyLoose.notSynchronized Bd
  have hml : c.maxLocals = 1 := hml0
  have hown : s.vm.findClass "com/example/outbox/outbox/QueueName" = some m.cls := findClass_of_methodNamed Bd.named
  have hnm := (name_of_methodNamed Bd.named Bd.method).1
  have X0 : Stand p l e ({ frames := 0, cells := 0, slots := 0, locals := 0 } : Room) s m #[(.int pc_)] below meth c s₁ [] 0 0 := Stand.of_body Bd
  have e0 : s₁.heap = h0 := by rw [← hh, Bd.state]; rfl
  have N0 := Fr.nil n0
  have ef : entryFrame m #[(.int pc_)] 1 = mkF m 0 #[iv pc_] [] := by first | (simp [entryFrame, mkF, argsToLocals, Value.category, maxLocals]; done) | rfl
  show Way p.tables e below (KQ s (QIA Z pc_ h0 n0) ({ frames := 0, cells := 0, slots := 0, locals := 0 } : Room).cells ({ frames := 0, cells := 0, slots := 0, locals := 0 } : Room).slots) (s₁.setTop (entryFrame m #[(.int pc_)] 1))
  rw [ef]
  rcases hok with hc0 | hc0 | hc0 | rfl | rfl | rfl
  · skip
    show Way _ _ _ _ (s₁.setTop (mkF m 0 #[iv pc_] []))
    refine Way.by (fun _ k => XS.iloadN X0.here hx rfl (hb hby dIA_0) rfl k) ?_
    show Way _ _ _ _ (s₁.setTop (mkF m 1 #[iv pc_] [(.int pc_)]))
    refine Way.by (fun _ k => XS.bipush X0.here hx rfl (hb hby dIA_1) k) ?_
    show Way _ _ _ _ (s₁.setTop (mkF m 3 #[iv pc_] [(.int 65), (.int pc_)]))
    have b1 : ¬ pc_ < (65 : Int32) := by rw [own_ltI]; have e := (by decide : (65 : Int32).toInt = 65); omega
    refine Way.by (fun _ k => XS.icmpNo X0.here hx rfl (hb hby dIA_3) rfl (flt b1).1 k) ?_
    show Way _ _ _ _ (s₁.setTop (mkF m 6 #[iv pc_] []))
    refine Way.by (fun _ k => XS.iloadN X0.here hx rfl (hb hby dIA_6) rfl k) ?_
    show Way _ _ _ _ (s₁.setTop (mkF m 7 #[iv pc_] [(.int pc_)]))
    refine Way.by (fun _ k => XS.bipush X0.here hx rfl (hb hby dIA_7) k) ?_
    show Way _ _ _ _ (s₁.setTop (mkF m 9 #[iv pc_] [(.int 90), (.int pc_)]))
    have b2 : ¬ (90 : Int32) < pc_ := by rw [own_ltI]; have e := (by decide : (90 : Int32).toInt = 90); omega
    refine Way.by (fun _ k => XS.icmpYes X0.here hx rfl (pc0 := 9) (pc' := 54) rfl (hb hby dIA_9) rfl (flt b2).2.2.2 (by decide) (by decide) k) ?_
    show Way _ _ _ _ (s₁.setTop (mkF m 54 #[iv pc_] []))
    refine Way.by (fun _ k => XS.iconst X0.here hx rfl (hb hby dIA_54) k) ?_
    show Way _ _ _ _ (s₁.setTop (mkF m 55 #[iv pc_] [(.int 1)]))
    refine Way.by (fun _ k => XS.goto X0.here hx rfl (pc0 := 55) (pc' := 59) rfl (hb hby dIA_55) (by decide) (by decide) k) ?_
    show Way _ _ _ _ (s₁.setTop (mkF m 59 #[iv pc_] [(.int 1)]))
    refine Way.ret (v := (some (.int (nar .boolean (1 : Int32))))) X0 hlk (fun h => by rw [Bd.returns] at h; cases h) (fun fs hr => retN X0 hx (t := .boolean) Bd.returns (by simp) (hb hby dIA_59) hr) ?_ (by decide) (by decide)
    show QIA Z _ h0 n0 _ s₁.heap _
    rw [e0]
    exact ⟨rfl, N0, rfl⟩
  · skip
    show Way _ _ _ _ (s₁.setTop (mkF m 0 #[iv pc_] []))
    refine Way.by (fun _ k => XS.iloadN X0.here hx rfl (hb hby dIA_0) rfl k) ?_
    show Way _ _ _ _ (s₁.setTop (mkF m 1 #[iv pc_] [(.int pc_)]))
    refine Way.by (fun _ k => XS.bipush X0.here hx rfl (hb hby dIA_1) k) ?_
    show Way _ _ _ _ (s₁.setTop (mkF m 3 #[iv pc_] [(.int 65), (.int pc_)]))
    have b3 : ¬ pc_ < (65 : Int32) := by rw [own_ltI]; have e := (by decide : (65 : Int32).toInt = 65); omega
    refine Way.by (fun _ k => XS.icmpNo X0.here hx rfl (hb hby dIA_3) rfl (flt b3).1 k) ?_
    show Way _ _ _ _ (s₁.setTop (mkF m 6 #[iv pc_] []))
    refine Way.by (fun _ k => XS.iloadN X0.here hx rfl (hb hby dIA_6) rfl k) ?_
    show Way _ _ _ _ (s₁.setTop (mkF m 7 #[iv pc_] [(.int pc_)]))
    refine Way.by (fun _ k => XS.bipush X0.here hx rfl (hb hby dIA_7) k) ?_
    show Way _ _ _ _ (s₁.setTop (mkF m 9 #[iv pc_] [(.int 90), (.int pc_)]))
    have b4 : (90 : Int32) < pc_ := by rw [own_ltI]; have e := (by decide : (90 : Int32).toInt = 90); omega
    refine Way.by (fun _ k => XS.icmpNo X0.here hx rfl (hb hby dIA_9) rfl (tlt b4).2.2.2 k) ?_
    show Way _ _ _ _ (s₁.setTop (mkF m 12 #[iv pc_] []))
    refine Way.by (fun _ k => XS.iloadN X0.here hx rfl (hb hby dIA_12) rfl k) ?_
    show Way _ _ _ _ (s₁.setTop (mkF m 13 #[iv pc_] [(.int pc_)]))
    refine Way.by (fun _ k => XS.bipush X0.here hx rfl (hb hby dIA_13) k) ?_
    show Way _ _ _ _ (s₁.setTop (mkF m 15 #[iv pc_] [(.int 97), (.int pc_)]))
    have b5 : ¬ pc_ < (97 : Int32) := by rw [own_ltI]; have e := (by decide : (97 : Int32).toInt = 97); omega
    refine Way.by (fun _ k => XS.icmpNo X0.here hx rfl (hb hby dIA_15) rfl (flt b5).1 k) ?_
    show Way _ _ _ _ (s₁.setTop (mkF m 18 #[iv pc_] []))
    refine Way.by (fun _ k => XS.iloadN X0.here hx rfl (hb hby dIA_18) rfl k) ?_
    show Way _ _ _ _ (s₁.setTop (mkF m 19 #[iv pc_] [(.int pc_)]))
    refine Way.by (fun _ k => XS.bipush X0.here hx rfl (hb hby dIA_19) k) ?_
    show Way _ _ _ _ (s₁.setTop (mkF m 21 #[iv pc_] [(.int 122), (.int pc_)]))
    have b6 : ¬ (122 : Int32) < pc_ := by rw [own_ltI]; have e := (by decide : (122 : Int32).toInt = 122); omega
    refine Way.by (fun _ k => XS.icmpYes X0.here hx rfl (pc0 := 21) (pc' := 54) rfl (hb hby dIA_21) rfl (flt b6).2.2.2 (by decide) (by decide) k) ?_
    show Way _ _ _ _ (s₁.setTop (mkF m 54 #[iv pc_] []))
    refine Way.by (fun _ k => XS.iconst X0.here hx rfl (hb hby dIA_54) k) ?_
    show Way _ _ _ _ (s₁.setTop (mkF m 55 #[iv pc_] [(.int 1)]))
    refine Way.by (fun _ k => XS.goto X0.here hx rfl (pc0 := 55) (pc' := 59) rfl (hb hby dIA_55) (by decide) (by decide) k) ?_
    show Way _ _ _ _ (s₁.setTop (mkF m 59 #[iv pc_] [(.int 1)]))
    refine Way.ret (v := (some (.int (nar .boolean (1 : Int32))))) X0 hlk (fun h => by rw [Bd.returns] at h; cases h) (fun fs hr => retN X0 hx (t := .boolean) Bd.returns (by simp) (hb hby dIA_59) hr) ?_ (by decide) (by decide)
    show QIA Z _ h0 n0 _ s₁.heap _
    rw [e0]
    exact ⟨rfl, N0, rfl⟩
  · skip
    show Way _ _ _ _ (s₁.setTop (mkF m 0 #[iv pc_] []))
    refine Way.by (fun _ k => XS.iloadN X0.here hx rfl (hb hby dIA_0) rfl k) ?_
    show Way _ _ _ _ (s₁.setTop (mkF m 1 #[iv pc_] [(.int pc_)]))
    refine Way.by (fun _ k => XS.bipush X0.here hx rfl (hb hby dIA_1) k) ?_
    show Way _ _ _ _ (s₁.setTop (mkF m 3 #[iv pc_] [(.int 65), (.int pc_)]))
    have b7 : pc_ < (65 : Int32) := by rw [own_ltI]; have e := (by decide : (65 : Int32).toInt = 65); omega
    refine Way.by (fun _ k => XS.icmpYes X0.here hx rfl (pc0 := 3) (pc' := 12) rfl (hb hby dIA_3) rfl (tlt b7).1 (by decide) (by decide) k) ?_
    show Way _ _ _ _ (s₁.setTop (mkF m 12 #[iv pc_] []))
    refine Way.by (fun _ k => XS.iloadN X0.here hx rfl (hb hby dIA_12) rfl k) ?_
    show Way _ _ _ _ (s₁.setTop (mkF m 13 #[iv pc_] [(.int pc_)]))
    refine Way.by (fun _ k => XS.bipush X0.here hx rfl (hb hby dIA_13) k) ?_
    show Way _ _ _ _ (s₁.setTop (mkF m 15 #[iv pc_] [(.int 97), (.int pc_)]))
    have b8 : pc_ < (97 : Int32) := by rw [own_ltI]; have e := (by decide : (97 : Int32).toInt = 97); omega
    refine Way.by (fun _ k => XS.icmpYes X0.here hx rfl (pc0 := 15) (pc' := 24) rfl (hb hby dIA_15) rfl (tlt b8).1 (by decide) (by decide) k) ?_
    show Way _ _ _ _ (s₁.setTop (mkF m 24 #[iv pc_] []))
    refine Way.by (fun _ k => XS.iloadN X0.here hx rfl (hb hby dIA_24) rfl k) ?_
    show Way _ _ _ _ (s₁.setTop (mkF m 25 #[iv pc_] [(.int pc_)]))
    refine Way.by (fun _ k => XS.bipush X0.here hx rfl (hb hby dIA_25) k) ?_
    show Way _ _ _ _ (s₁.setTop (mkF m 27 #[iv pc_] [(.int 48), (.int pc_)]))
    have b9 : ¬ pc_ < (48 : Int32) := by rw [own_ltI]; have e := (by decide : (48 : Int32).toInt = 48); omega
    refine Way.by (fun _ k => XS.icmpNo X0.here hx rfl (hb hby dIA_27) rfl (flt b9).1 k) ?_
    show Way _ _ _ _ (s₁.setTop (mkF m 30 #[iv pc_] []))
    refine Way.by (fun _ k => XS.iloadN X0.here hx rfl (hb hby dIA_30) rfl k) ?_
    show Way _ _ _ _ (s₁.setTop (mkF m 31 #[iv pc_] [(.int pc_)]))
    refine Way.by (fun _ k => XS.bipush X0.here hx rfl (hb hby dIA_31) k) ?_
    show Way _ _ _ _ (s₁.setTop (mkF m 33 #[iv pc_] [(.int 57), (.int pc_)]))
    have b10 : ¬ (57 : Int32) < pc_ := by rw [own_ltI]; have e := (by decide : (57 : Int32).toInt = 57); omega
    refine Way.by (fun _ k => XS.icmpYes X0.here hx rfl (pc0 := 33) (pc' := 54) rfl (hb hby dIA_33) rfl (flt b10).2.2.2 (by decide) (by decide) k) ?_
    show Way _ _ _ _ (s₁.setTop (mkF m 54 #[iv pc_] []))
    refine Way.by (fun _ k => XS.iconst X0.here hx rfl (hb hby dIA_54) k) ?_
    show Way _ _ _ _ (s₁.setTop (mkF m 55 #[iv pc_] [(.int 1)]))
    refine Way.by (fun _ k => XS.goto X0.here hx rfl (pc0 := 55) (pc' := 59) rfl (hb hby dIA_55) (by decide) (by decide) k) ?_
    show Way _ _ _ _ (s₁.setTop (mkF m 59 #[iv pc_] [(.int 1)]))
    refine Way.ret (v := (some (.int (nar .boolean (1 : Int32))))) X0 hlk (fun h => by rw [Bd.returns] at h; cases h) (fun fs hr => retN X0 hx (t := .boolean) Bd.returns (by simp) (hb hby dIA_59) hr) ?_ (by decide) (by decide)
    show QIA Z _ h0 n0 _ s₁.heap _
    rw [e0]
    exact ⟨rfl, N0, rfl⟩
  · skip
    show Way _ _ _ _ (s₁.setTop (mkF m 0 #[iv 46] []))
    refine Way.by (fun _ k => XS.iloadN X0.here hx rfl (hb hby dIA_0) rfl k) ?_
    show Way _ _ _ _ (s₁.setTop (mkF m 1 #[iv 46] [(.int 46)]))
    refine Way.by (fun _ k => XS.bipush X0.here hx rfl (hb hby dIA_1) k) ?_
    show Way _ _ _ _ (s₁.setTop (mkF m 3 #[iv 46] [(.int 65), (.int 46)]))
    have b11 : (46 : Int32) < (65 : Int32) := by decide
    refine Way.by (fun _ k => XS.icmpYes X0.here hx rfl (pc0 := 3) (pc' := 12) rfl (hb hby dIA_3) rfl (tlt b11).1 (by decide) (by decide) k) ?_
    show Way _ _ _ _ (s₁.setTop (mkF m 12 #[iv 46] []))
    refine Way.by (fun _ k => XS.iloadN X0.here hx rfl (hb hby dIA_12) rfl k) ?_
    show Way _ _ _ _ (s₁.setTop (mkF m 13 #[iv 46] [(.int 46)]))
    refine Way.by (fun _ k => XS.bipush X0.here hx rfl (hb hby dIA_13) k) ?_
    show Way _ _ _ _ (s₁.setTop (mkF m 15 #[iv 46] [(.int 97), (.int 46)]))
    have b12 : (46 : Int32) < (97 : Int32) := by decide
    refine Way.by (fun _ k => XS.icmpYes X0.here hx rfl (pc0 := 15) (pc' := 24) rfl (hb hby dIA_15) rfl (tlt b12).1 (by decide) (by decide) k) ?_
    show Way _ _ _ _ (s₁.setTop (mkF m 24 #[iv 46] []))
    refine Way.by (fun _ k => XS.iloadN X0.here hx rfl (hb hby dIA_24) rfl k) ?_
    show Way _ _ _ _ (s₁.setTop (mkF m 25 #[iv 46] [(.int 46)]))
    refine Way.by (fun _ k => XS.bipush X0.here hx rfl (hb hby dIA_25) k) ?_
    show Way _ _ _ _ (s₁.setTop (mkF m 27 #[iv 46] [(.int 48), (.int 46)]))
    have b13 : (46 : Int32) < (48 : Int32) := by decide
    refine Way.by (fun _ k => XS.icmpYes X0.here hx rfl (pc0 := 27) (pc' := 36) rfl (hb hby dIA_27) rfl (tlt b13).1 (by decide) (by decide) k) ?_
    show Way _ _ _ _ (s₁.setTop (mkF m 36 #[iv 46] []))
    refine Way.by (fun _ k => XS.iloadN X0.here hx rfl (hb hby dIA_36) rfl k) ?_
    show Way _ _ _ _ (s₁.setTop (mkF m 37 #[iv 46] [(.int 46)]))
    refine Way.by (fun _ k => XS.bipush X0.here hx rfl (hb hby dIA_37) k) ?_
    show Way _ _ _ _ (s₁.setTop (mkF m 39 #[iv 46] [(.int 46), (.int 46)]))
    have b14 : (46 : Int32) = (46 : Int32) := by decide
    refine Way.by (fun _ k => XS.icmpYes X0.here hx rfl (pc0 := 39) (pc' := 54) rfl (hb hby dIA_39) rfl (teq b14).1 (by decide) (by decide) k) ?_
    show Way _ _ _ _ (s₁.setTop (mkF m 54 #[iv 46] []))
    refine Way.by (fun _ k => XS.iconst X0.here hx rfl (hb hby dIA_54) k) ?_
    show Way _ _ _ _ (s₁.setTop (mkF m 55 #[iv 46] [(.int 1)]))
    refine Way.by (fun _ k => XS.goto X0.here hx rfl (pc0 := 55) (pc' := 59) rfl (hb hby dIA_55) (by decide) (by decide) k) ?_
    show Way _ _ _ _ (s₁.setTop (mkF m 59 #[iv 46] [(.int 1)]))
    refine Way.ret (v := (some (.int (nar .boolean (1 : Int32))))) X0 hlk (fun h => by rw [Bd.returns] at h; cases h) (fun fs hr => retN X0 hx (t := .boolean) Bd.returns (by simp) (hb hby dIA_59) hr) ?_ (by decide) (by decide)
    show QIA Z _ h0 n0 _ s₁.heap _
    rw [e0]
    exact ⟨rfl, N0, rfl⟩
  · skip
    show Way _ _ _ _ (s₁.setTop (mkF m 0 #[iv 95] []))
    refine Way.by (fun _ k => XS.iloadN X0.here hx rfl (hb hby dIA_0) rfl k) ?_
    show Way _ _ _ _ (s₁.setTop (mkF m 1 #[iv 95] [(.int 95)]))
    refine Way.by (fun _ k => XS.bipush X0.here hx rfl (hb hby dIA_1) k) ?_
    show Way _ _ _ _ (s₁.setTop (mkF m 3 #[iv 95] [(.int 65), (.int 95)]))
    have b15 : ¬ (95 : Int32) < (65 : Int32) := by decide
    refine Way.by (fun _ k => XS.icmpNo X0.here hx rfl (hb hby dIA_3) rfl (flt b15).1 k) ?_
    show Way _ _ _ _ (s₁.setTop (mkF m 6 #[iv 95] []))
    refine Way.by (fun _ k => XS.iloadN X0.here hx rfl (hb hby dIA_6) rfl k) ?_
    show Way _ _ _ _ (s₁.setTop (mkF m 7 #[iv 95] [(.int 95)]))
    refine Way.by (fun _ k => XS.bipush X0.here hx rfl (hb hby dIA_7) k) ?_
    show Way _ _ _ _ (s₁.setTop (mkF m 9 #[iv 95] [(.int 90), (.int 95)]))
    have b16 : (90 : Int32) < (95 : Int32) := by decide
    refine Way.by (fun _ k => XS.icmpNo X0.here hx rfl (hb hby dIA_9) rfl (tlt b16).2.2.2 k) ?_
    show Way _ _ _ _ (s₁.setTop (mkF m 12 #[iv 95] []))
    refine Way.by (fun _ k => XS.iloadN X0.here hx rfl (hb hby dIA_12) rfl k) ?_
    show Way _ _ _ _ (s₁.setTop (mkF m 13 #[iv 95] [(.int 95)]))
    refine Way.by (fun _ k => XS.bipush X0.here hx rfl (hb hby dIA_13) k) ?_
    show Way _ _ _ _ (s₁.setTop (mkF m 15 #[iv 95] [(.int 97), (.int 95)]))
    have b17 : (95 : Int32) < (97 : Int32) := by decide
    refine Way.by (fun _ k => XS.icmpYes X0.here hx rfl (pc0 := 15) (pc' := 24) rfl (hb hby dIA_15) rfl (tlt b17).1 (by decide) (by decide) k) ?_
    show Way _ _ _ _ (s₁.setTop (mkF m 24 #[iv 95] []))
    refine Way.by (fun _ k => XS.iloadN X0.here hx rfl (hb hby dIA_24) rfl k) ?_
    show Way _ _ _ _ (s₁.setTop (mkF m 25 #[iv 95] [(.int 95)]))
    refine Way.by (fun _ k => XS.bipush X0.here hx rfl (hb hby dIA_25) k) ?_
    show Way _ _ _ _ (s₁.setTop (mkF m 27 #[iv 95] [(.int 48), (.int 95)]))
    have b18 : ¬ (95 : Int32) < (48 : Int32) := by decide
    refine Way.by (fun _ k => XS.icmpNo X0.here hx rfl (hb hby dIA_27) rfl (flt b18).1 k) ?_
    show Way _ _ _ _ (s₁.setTop (mkF m 30 #[iv 95] []))
    refine Way.by (fun _ k => XS.iloadN X0.here hx rfl (hb hby dIA_30) rfl k) ?_
    show Way _ _ _ _ (s₁.setTop (mkF m 31 #[iv 95] [(.int 95)]))
    refine Way.by (fun _ k => XS.bipush X0.here hx rfl (hb hby dIA_31) k) ?_
    show Way _ _ _ _ (s₁.setTop (mkF m 33 #[iv 95] [(.int 57), (.int 95)]))
    have b19 : (57 : Int32) < (95 : Int32) := by decide
    refine Way.by (fun _ k => XS.icmpNo X0.here hx rfl (hb hby dIA_33) rfl (tlt b19).2.2.2 k) ?_
    show Way _ _ _ _ (s₁.setTop (mkF m 36 #[iv 95] []))
    refine Way.by (fun _ k => XS.iloadN X0.here hx rfl (hb hby dIA_36) rfl k) ?_
    show Way _ _ _ _ (s₁.setTop (mkF m 37 #[iv 95] [(.int 95)]))
    refine Way.by (fun _ k => XS.bipush X0.here hx rfl (hb hby dIA_37) k) ?_
    show Way _ _ _ _ (s₁.setTop (mkF m 39 #[iv 95] [(.int 46), (.int 95)]))
    have b20 : ¬ (95 : Int32) = (46 : Int32) := by decide
    refine Way.by (fun _ k => XS.icmpNo X0.here hx rfl (hb hby dIA_39) rfl (feq b20).1 k) ?_
    show Way _ _ _ _ (s₁.setTop (mkF m 42 #[iv 95] []))
    refine Way.by (fun _ k => XS.iloadN X0.here hx rfl (hb hby dIA_42) rfl k) ?_
    show Way _ _ _ _ (s₁.setTop (mkF m 43 #[iv 95] [(.int 95)]))
    refine Way.by (fun _ k => XS.bipush X0.here hx rfl (hb hby dIA_43) k) ?_
    show Way _ _ _ _ (s₁.setTop (mkF m 45 #[iv 95] [(.int 45), (.int 95)]))
    have b21 : ¬ (95 : Int32) = (45 : Int32) := by decide
    refine Way.by (fun _ k => XS.icmpNo X0.here hx rfl (hb hby dIA_45) rfl (feq b21).1 k) ?_
    show Way _ _ _ _ (s₁.setTop (mkF m 48 #[iv 95] []))
    refine Way.by (fun _ k => XS.iloadN X0.here hx rfl (hb hby dIA_48) rfl k) ?_
    show Way _ _ _ _ (s₁.setTop (mkF m 49 #[iv 95] [(.int 95)]))
    refine Way.by (fun _ k => XS.bipush X0.here hx rfl (hb hby dIA_49) k) ?_
    show Way _ _ _ _ (s₁.setTop (mkF m 51 #[iv 95] [(.int 95), (.int 95)]))
    have b22 : (95 : Int32) = (95 : Int32) := by decide
    refine Way.by (fun _ k => XS.icmpNo X0.here hx rfl (hb hby dIA_51) rfl (teq b22).2 k) ?_
    show Way _ _ _ _ (s₁.setTop (mkF m 54 #[iv 95] []))
    refine Way.by (fun _ k => XS.iconst X0.here hx rfl (hb hby dIA_54) k) ?_
    show Way _ _ _ _ (s₁.setTop (mkF m 55 #[iv 95] [(.int 1)]))
    refine Way.by (fun _ k => XS.goto X0.here hx rfl (pc0 := 55) (pc' := 59) rfl (hb hby dIA_55) (by decide) (by decide) k) ?_
    show Way _ _ _ _ (s₁.setTop (mkF m 59 #[iv 95] [(.int 1)]))
    refine Way.ret (v := (some (.int (nar .boolean (1 : Int32))))) X0 hlk (fun h => by rw [Bd.returns] at h; cases h) (fun fs hr => retN X0 hx (t := .boolean) Bd.returns (by simp) (hb hby dIA_59) hr) ?_ (by decide) (by decide)
    show QIA Z _ h0 n0 _ s₁.heap _
    rw [e0]
    exact ⟨rfl, N0, rfl⟩
  · skip
    show Way _ _ _ _ (s₁.setTop (mkF m 0 #[iv 45] []))
    refine Way.by (fun _ k => XS.iloadN X0.here hx rfl (hb hby dIA_0) rfl k) ?_
    show Way _ _ _ _ (s₁.setTop (mkF m 1 #[iv 45] [(.int 45)]))
    refine Way.by (fun _ k => XS.bipush X0.here hx rfl (hb hby dIA_1) k) ?_
    show Way _ _ _ _ (s₁.setTop (mkF m 3 #[iv 45] [(.int 65), (.int 45)]))
    have b23 : (45 : Int32) < (65 : Int32) := by decide
    refine Way.by (fun _ k => XS.icmpYes X0.here hx rfl (pc0 := 3) (pc' := 12) rfl (hb hby dIA_3) rfl (tlt b23).1 (by decide) (by decide) k) ?_
    show Way _ _ _ _ (s₁.setTop (mkF m 12 #[iv 45] []))
    refine Way.by (fun _ k => XS.iloadN X0.here hx rfl (hb hby dIA_12) rfl k) ?_
    show Way _ _ _ _ (s₁.setTop (mkF m 13 #[iv 45] [(.int 45)]))
    refine Way.by (fun _ k => XS.bipush X0.here hx rfl (hb hby dIA_13) k) ?_
    show Way _ _ _ _ (s₁.setTop (mkF m 15 #[iv 45] [(.int 97), (.int 45)]))
    have b24 : (45 : Int32) < (97 : Int32) := by decide
    refine Way.by (fun _ k => XS.icmpYes X0.here hx rfl (pc0 := 15) (pc' := 24) rfl (hb hby dIA_15) rfl (tlt b24).1 (by decide) (by decide) k) ?_
    show Way _ _ _ _ (s₁.setTop (mkF m 24 #[iv 45] []))
    refine Way.by (fun _ k => XS.iloadN X0.here hx rfl (hb hby dIA_24) rfl k) ?_
    show Way _ _ _ _ (s₁.setTop (mkF m 25 #[iv 45] [(.int 45)]))
    refine Way.by (fun _ k => XS.bipush X0.here hx rfl (hb hby dIA_25) k) ?_
    show Way _ _ _ _ (s₁.setTop (mkF m 27 #[iv 45] [(.int 48), (.int 45)]))
    have b25 : (45 : Int32) < (48 : Int32) := by decide
    refine Way.by (fun _ k => XS.icmpYes X0.here hx rfl (pc0 := 27) (pc' := 36) rfl (hb hby dIA_27) rfl (tlt b25).1 (by decide) (by decide) k) ?_
    show Way _ _ _ _ (s₁.setTop (mkF m 36 #[iv 45] []))
    refine Way.by (fun _ k => XS.iloadN X0.here hx rfl (hb hby dIA_36) rfl k) ?_
    show Way _ _ _ _ (s₁.setTop (mkF m 37 #[iv 45] [(.int 45)]))
    refine Way.by (fun _ k => XS.bipush X0.here hx rfl (hb hby dIA_37) k) ?_
    show Way _ _ _ _ (s₁.setTop (mkF m 39 #[iv 45] [(.int 46), (.int 45)]))
    have b26 : ¬ (45 : Int32) = (46 : Int32) := by decide
    refine Way.by (fun _ k => XS.icmpNo X0.here hx rfl (hb hby dIA_39) rfl (feq b26).1 k) ?_
    show Way _ _ _ _ (s₁.setTop (mkF m 42 #[iv 45] []))
    refine Way.by (fun _ k => XS.iloadN X0.here hx rfl (hb hby dIA_42) rfl k) ?_
    show Way _ _ _ _ (s₁.setTop (mkF m 43 #[iv 45] [(.int 45)]))
    refine Way.by (fun _ k => XS.bipush X0.here hx rfl (hb hby dIA_43) k) ?_
    show Way _ _ _ _ (s₁.setTop (mkF m 45 #[iv 45] [(.int 45), (.int 45)]))
    have b27 : (45 : Int32) = (45 : Int32) := by decide
    refine Way.by (fun _ k => XS.icmpYes X0.here hx rfl (pc0 := 45) (pc' := 54) rfl (hb hby dIA_45) rfl (teq b27).1 (by decide) (by decide) k) ?_
    show Way _ _ _ _ (s₁.setTop (mkF m 54 #[iv 45] []))
    refine Way.by (fun _ k => XS.iconst X0.here hx rfl (hb hby dIA_54) k) ?_
    show Way _ _ _ _ (s₁.setTop (mkF m 55 #[iv 45] [(.int 1)]))
    refine Way.by (fun _ k => XS.goto X0.here hx rfl (pc0 := 55) (pc' := 59) rfl (hb hby dIA_55) (by decide) (by decide) k) ?_
    show Way _ _ _ _ (s₁.setTop (mkF m 59 #[iv 45] [(.int 1)]))
    refine Way.ret (v := (some (.int (nar .boolean (1 : Int32))))) X0 hlk (fun h => by rw [Bd.returns] at h; cases h) (fun fs hr => retN X0 hx (t := .boolean) Bd.returns (by simp) (hb hby dIA_59) hr) ?_ (by decide) (by decide)
    show QIA Z _ h0 n0 _ s₁.heap _
    rw [e0]
    exact ⟨rfl, N0, rfl⟩
def QCC (Z : State) (pc_ : Int32) (h0 : Heap) (n0 : Nat) (v : Option Value) (h : Heap) (L : List Loc) : Prop := v = some (.int 1) ∧ Fr n0 L ∧ h = h0
theorem dCC_0 : decode jdk_89_method_18_code 0 = .ok (.iload_n 0, 1) := by decide +kernel
theorem dCC_1 : decode jdk_89_method_18_code 1 = .ok (.ldc 73, 2) := by decide +kernel
theorem dCC_3 : decode jdk_89_method_18_code 3 = .ok (.if_icmp .lt 7, 3) := by decide +kernel
theorem dCC_10 : decode jdk_89_method_18_code 10 = .ok (.iconst 1, 1) := by decide +kernel
theorem dCC_11 : decode jdk_89_method_18_code 11 = .ok (.ireturn, 1) := by decide +kernel
theorem pnCC : plainName "java/lang/Character" = true := by first | (simp [plainName, overriddenIn]; done) | decide +kernel
set_option maxRecDepth 65536 in
set_option maxHeartbeats 40000000 in
theorem rmCC (l : Launch) (Z : State) (a0 : Array Value) (hw : ∀ d ∈ tables_1, d.before a0 Z = true) (ws : List Jvm.Cond) (pc_ : Int32) (h0 : Heap) (n0 : Nat) (Z0 : n0 ≤ h0.size) (hbb : pc_ < (65536 : Int32)) :
    MetFree l (⟨"java/lang/Character", "charCount", "(I)I"⟩ : MethodName) (head1 (Jvm.Cond.code (⟨"java/lang/Character", "charCount", "(I)I"⟩ : MethodName) jdk_89_method_18_code 1 (some .int) :: ws) ({ frames := 0, cells := 0, slots := 0, locals := 0 } : Room)) (fun aa U => aa = #[(.int pc_)] ∧ Z.Warmed39 U.vm ∧ U.heap = h0) (fun _ _ _ _ _ => True) (fun _ U oo U' => ∃ v L, oo = .returned v ∧ QCC Z pc_ h0 n0 v U'.heap L ∧ FrameEnd U oo U' L ({ frames := 0, cells := 0, slots := 0, locals := 0 } : Room).cells ({ frames := 0, cells := 0, slots := 0, locals := 0 } : Room).slots) := by
  refine MetFree.of_bodySF (plainFor_of_name pnCC) hisR ?_
  intro p e s m args below meth c s₁ Bd hml0 hP hK
  obtain ⟨rfl, hZ, hh⟩ := hP
  have hx := Bd.exec
  have hby := Bd.bytes
  have hlk : meth.locks = false := BodyLoose.notSynchronized Bd
  have hml : c.maxLocals = 1 := hml0
  have hown : s.vm.findClass "java/lang/Character" = some m.cls := findClass_of_methodNamed Bd.named
  have hnm := (name_of_methodNamed Bd.named Bd.method).1
  have X0 : Stand p l e ({ frames := 0, cells := 0, slots := 0, locals := 0 } : Room) s m #[(.int pc_)] below meth c s₁ [] 0 0 := Stand.of_body Bd
  have e0 : s₁.heap = h0 := by rw [← hh, Bd.state]; rfl
  have N0 := Fr.nil n0
  have ef : entryFrame m #[(.int pc_)] 1 = mkF m 0 #[iv pc_] [] := by first | (simp [entryFrame, mkF, argsToLocals, Value.category, maxLocals]; done) | rfl
  show Way p.tables e below (KQ s (QCC Z pc_ h0 n0) ({ frames := 0, cells := 0, slots := 0, locals := 0 } : Room).cells ({ frames := 0, cells := 0, slots := 0, locals := 0 } : Room).slots) (s₁.setTop (entryFrame m #[(.int pc_)] 1))
  rw [ef]
  refine Way.by (fun _ k => XS.iloadN X0.here hx rfl (hb hby dCC_0) rfl k) ?_
  show Way _ _ _ _ (s₁.setTop (mkF m 1 #[iv pc_] [(.int pc_)]))
  refine Way.by (Stand.ldcInt X0 hx hown (mvT hZ (tw hw 101 rfl)) rfl (hb hby dCC_1)) ?_
  show Way _ _ _ _ (s₁.setTop (mkF m 3 #[iv pc_] [(.int 65536), (.int pc_)]))
  have b1 : pc_ < (65536 : Int32) := hbb
  refine Way.by (fun _ k => XS.icmpYes X0.here hx rfl (pc0 := 3) (pc' := 10) rfl (hb hby dCC_3) rfl (tlt b1).1 (by decide) (by decide) k) ?_
  show Way _ _ _ _ (s₁.setTop (mkF m 10 #[iv pc_] []))
  refine Way.by (fun _ k => XS.iconst X0.here hx rfl (hb hby dCC_10) k) ?_
  show Way _ _ _ _ (s₁.setTop (mkF m 11 #[iv pc_] [(.int 1)]))
  refine Way.ret (v := (some (.int 1))) X0 hlk (fun h => by rw [Bd.returns] at h; cases h) (fun fs hr => retI X0 hx Bd.returns (hb hby dCC_11) hr) ?_ (by decide) (by decide)
  show QCC Z pc_ h0 n0 _ s₁.heap _
  rw [e0]
  exact ⟨rfl, N0, rfl⟩
def QQI (Z : State) (pa : Addr) (px : Addr) (h0 : Heap) (n0 : Nat) (v : Option Value) (h : Heap) (L : List Loc) : Prop := v = none ∧ Fr n0 L ∧ Keep h0 h [pa] ∧ Exa Z h pa "com/example/outbox/outbox/QueueName" ∧ Fld Z h pa "com/example/outbox/outbox/QueueName" "value" "Ljava/lang/String;" (.ref px)
theorem dQI_0 : decode prog_6_method_1_code 0 = .ok (.aload_n 0, 1) := by decide +kernel
theorem dQI_1 : decode prog_6_method_1_code 1 = .ok (.invokespecial 1, 3) := by decide +kernel
theorem dQI_4 : decode prog_6_method_1_code 4 = .ok (.aload_n 0, 1) := by decide +kernel
theorem dQI_5 : decode prog_6_method_1_code 5 = .ok (.aload_n 1, 1) := by decide +kernel
theorem dQI_6 : decode prog_6_method_1_code 6 = .ok (.putfield 7, 3) := by decide +kernel
theorem dQI_9 : decode prog_6_method_1_code 9 = .ok (.return_, 1) := by decide +kernel
theorem pdQI : parseMethodDescriptor "(Ljava/lang/String;)V" = some ⟨[(.object "java/lang/String")], none⟩ := by decide +kernel
set_option maxRecDepth 65536 in
set_option maxHeartbeats 40000000 in
theorem rmQI (l : Launch) (Z : State) (a0 : Array Value) (hw : ∀ d ∈ tables_1, d.before a0 Z = true) (ws : List Jvm.Cond) (pa : Addr) (px : Addr) (h0 : Heap) (n0 : Nat) (Z0 : n0 ≤ h0.size) (H0 : Exa Z h0 pa "com/example/outbox/outbox/QueueName") (H1 : Fld Z h0 pa "com/example/outbox/outbox/QueueName" "value" "Ljava/lang/String;" .null) (nw_pa : n0 ≤ pa) :
    MetFree l (⟨"com/example/outbox/outbox/QueueName", "<init>", "(Ljava/lang/String;)V"⟩ : MethodName) (head1 (Jvm.Cond.code (⟨"com/example/outbox/outbox/QueueName", "<init>", "(Ljava/lang/String;)V"⟩ : MethodName) prog_6_method_1_code 2 none :: ws) ({ frames := 1, cells := 0, slots := 0, locals := 12 } : Room)) (fun aa U => aa = #[(.ref pa), (.ref px)] ∧ Z.Warmed39 U.vm ∧ U.heap = h0) (fun _ _ _ _ _ => True) (fun _ U oo U' => ∃ v L, oo = .returned v ∧ QQI Z pa px h0 n0 v U'.heap L ∧ FrameEnd U oo U' L ({ frames := 1, cells := 0, slots := 0, locals := 12 } : Room).cells ({ frames := 1, cells := 0, slots := 0, locals := 12 } : Room).slots) := by
  refine MetFree.of_bodySF (plainFor_of_name pnIA) hisR ?_
  intro p e s m args below meth c s₁ Bd hml0 hP hK
  obtain ⟨rfl, hZ, hh⟩ := hP
  have hx := Bd.exec
  have hby := Bd.bytes
  have hlk : meth.locks = false := BodyLoose.notSynchronized Bd
  have hml : c.maxLocals = 2 := hml0
  have hown : s.vm.findClass "com/example/outbox/outbox/QueueName" = some m.cls := findClass_of_methodNamed Bd.named
  have hnm := (name_of_methodNamed Bd.named Bd.method).1
  have X0 : Stand p l e ({ frames := 1, cells := 0, slots := 0, locals := 12 } : Room) s m #[(.ref pa), (.ref px)] below meth c s₁ [] 0 0 := Stand.of_body Bd
  have e0 : s₁.heap = h0 := by rw [← hh, Bd.state]; rfl
  have N0 := Fr.nil n0
  have ef : entryFrame m #[(.ref pa), (.ref px)] 2 = mkF m 0 #[rv pa, rv px] [] := by first | (simp [entryFrame, mkF, argsToLocals, Value.category, maxLocals]; done) | rfl
  show Way p.tables e below (KQ s (QQI Z pa px h0 n0) ({ frames := 1, cells := 0, slots := 0, locals := 12 } : Room).cells ({ frames := 1, cells := 0, slots := 0, locals := 12 } : Room).slots) (s₁.setTop (entryFrame m #[(.ref pa), (.ref px)] 2))
  rw [ef]
  refine Way.by (fun _ k => XS.aloadN X0.here hx rfl (hb hby dQI_0) rfl rfl k) ?_
  show Way _ _ _ _ (s₁.setTop (mkF m 1 #[rv pa, rv px] [(.ref pa)]))
  obtain ⟨T1, X2, e3, st4⟩ := initO X0 hx hZ hown (tw hw 107 rfl) (tw hw 17 rfl) (tw hw 18 rfl) e0 (g := (mkF m 1 #[rv pa, rv px] [(.ref pa)])) rfl (by rw [hml]; rfl) rfl (hb hby dQI_1) (by decide) (W := 0) (leW rfl) (by decide)
  refine Way.by st4 ?_
  show Way _ _ _ _ (T1.setTop (mkF m 4 #[rv pa, rv px] []))
  refine Way.by (fun _ k => XS.aloadN X2.here hx rfl (hb hby dQI_4) rfl rfl k) ?_
  show Way _ _ _ _ (T1.setTop (mkF m 5 #[rv pa, rv px] [(.ref pa)]))
  refine Way.by (fun _ k => XS.aloadN X2.here hx rfl (hb hby dQI_5) rfl rfl k) ?_
  show Way _ _ _ _ (T1.setTop (mkF m 6 #[rv pa, rv px] [(.ref px), (.ref pa)]))
  obtain ⟨T5, h6, X7, e8, W9, st10⟩ := putF X2 hx hZ hown (host := "") (Or.inl (tw hw 108 rfl)) Via.refl e3 H1 H0 (Or.inr ⟨(tw hw 109 rfl), rfl, hnm⟩) (tw hw 103 rfl) (ty := (.object "java/lang/String")) (by decide) rfl rfl (g := (mkF m 6 #[rv pa, rv px] [(.ref px), (.ref pa)])) rfl rfl (hb hby dQI_6)
  have N11 := Fr.snoc X7 N0 nw_pa
  have E12 := Exa.wr W9 H0
  have F13 : Fld Z h6 pa "com/example/outbox/outbox/QueueName" "value" "Ljava/lang/String;" (.ref px) := H1.same W9
  have Z14 : n0 ≤ h6.size := by rw [W9.size]; exact Z0
  have K15 := (Keep.refl h0 [pa]).wr W9 (Or.inl (List.mem_of_getElem? (i := 0) rfl))
  have hz16 : h0.size ≤ h6.size := by rw [W9.size]; exact (Nat.le_refl h0.size)
  refine Way.by st10 ?_
  show Way _ _ _ _ (T5.setTop (mkF m 9 #[rv pa, rv px] []))
  refine Way.ret (v := none) X7 hlk (fun _ => rfl) (fun fs hr => X7.returnOut hx Bd.returns (hb hby dQI_9) hr) ?_ (by decide) (by decide)
  show QQI Z pa px h0 n0 _ T5.heap _
  rw [e8]
  exact ⟨rfl, N11, K15, E12, F13⟩
def QQV_ (Z : State) (pa : Addr) (px : Addr) (h0 : Heap) (n0 : Nat) (v : Option Value) (h : Heap) (L : List Loc) : Prop := v = some (.ref px) ∧ Fr n0 L ∧ h = h0
theorem dQV__0 : decode prog_6_method_4_code 0 = .ok (.aload_n 0, 1) := by decide +kernel
theorem dQV__1 : decode prog_6_method_4_code 1 = .ok (.getfield 7, 3) := by decide +kernel
theorem dQV__4 : decode prog_6_method_4_code 4 = .ok (.areturn, 1) := by decide +kernel
theorem pnQV_ : plainName "com/example/outbox/outbox/QueueName" = true := by first | (simp [plainName, overriddenIn]; done) | decide +kernel
theorem pdQV_ : parseMethodDescriptor "()Ljava/lang/String;" = some ⟨[], some (.object "java/lang/String")⟩ := by decide +kernel
set_option maxRecDepth 65536 in
set_option maxHeartbeats 40000000 in
theorem rmQV_ (l : Launch) (Z : State) (a0 : Array Value) (hw : ∀ d ∈ tables_1, d.before a0 Z = true) (ws : List Jvm.Cond) (pa : Addr) (px : Addr) (h0 : Heap) (n0 : Nat) (Z0 : n0 ≤ h0.size) (H0 : Fld Z h0 pa "com/example/outbox/outbox/QueueName" "value" "Ljava/lang/String;" (.ref px)) :
    MetFree l (⟨"com/example/outbox/outbox/QueueName", "value", "()Ljava/lang/String;"⟩ : MethodName) (head1 (Jvm.Cond.code (⟨"com/example/outbox/outbox/QueueName", "value", "()Ljava/lang/String;"⟩ : MethodName) prog_6_method_4_code 1 (some (.object "java/lang/String")) :: ws) ({ frames := 0, cells := 0, slots := 0, locals := 0 } : Room)) (fun aa U => aa = #[(.ref pa)] ∧ Z.Warmed39 U.vm ∧ U.heap = h0) (fun _ _ _ _ _ => True) (fun _ U oo U' => ∃ v L, oo = .returned v ∧ QQV_ Z pa px h0 n0 v U'.heap L ∧ FrameEnd U oo U' L ({ frames := 0, cells := 0, slots := 0, locals := 0 } : Room).cells ({ frames := 0, cells := 0, slots := 0, locals := 0 } : Room).slots) := by
  refine MetFree.of_bodySF (plainFor_of_name pnQV_) hisR ?_
  intro p e s m args below meth c s₁ Bd hml0 hP hK
  obtain ⟨rfl, hZ, hh⟩ := hP
  have hx := Bd.exec
  have hby := Bd.bytes
  have hlk : meth.locks = false := BodyLoose.notSynchronized Bd
  have hml : c.maxLocals = 1 := hml0
  have hown : s.vm.findClass "com/example/outbox/outbox/QueueName" = some m.cls := findClass_of_methodNamed Bd.named
  have hnm := (name_of_methodNamed Bd.named Bd.method).1
  have X0 : Stand p l e ({ frames := 0, cells := 0, slots := 0, locals := 0 } : Room) s m #[(.ref pa)] below meth c s₁ [] 0 0 := Stand.of_body Bd
  have e0 : s₁.heap = h0 := by rw [← hh, Bd.state]; rfl
  have N0 := Fr.nil n0
  have ef : entryFrame m #[(.ref pa)] 1 = mkF m 0 #[rv pa] [] := by first | (simp [entryFrame, mkF, argsToLocals, Value.category, maxLocals]; done) | rfl
  show Way p.tables e below (KQ s (QQV_ Z pa px h0 n0) ({ frames := 0, cells := 0, slots := 0, locals := 0 } : Room).cells ({ frames := 0, cells := 0, slots := 0, locals := 0 } : Room).slots) (s₁.setTop (entryFrame m #[(.ref pa)] 1))
  rw [ef]
  refine Way.by (fun _ k => XS.aloadN X0.here hx rfl (hb hby dQV__0) rfl rfl k) ?_
  show Way _ _ _ _ (s₁.setTop (mkF m 1 #[rv pa] [(.ref pa)]))
  obtain ⟨T1, X2, e3, st4⟩ := getF X0 hx hZ hown (host := "") (Or.inl (tw hw 108 rfl)) Via.refl e0 H0 (g := (mkF m 1 #[rv pa] [(.ref pa)])) rfl rfl (hb hby dQV__1)
  refine Way.by st4 ?_
  show Way _ _ _ _ (T1.setTop (mkF m 4 #[rv pa] [(.ref px)]))
  refine Way.ret (v := (some (.ref px))) X2 hlk (fun h => by rw [Bd.returns] at h; cases h) (fun fs hr => retOut X2 hx Bd.returns rfl (Or.inr (Or.inr (Or.inr (Or.inr ⟨rfl, rfl, rfl⟩)))) (hb hby dQV__4) hr) ?_ (by decide) (by decide)
  show QQV_ Z pa px h0 n0 _ T1.heap _
  rw [e3]
  exact ⟨rfl, N0, rfl⟩
theorem own_le80 {n : Nat} (h : n ≤ 80) : ¬ (80 : Int32) < Int32.ofNat n := by
  rw [own_ltI, own_ofNat_toInt (by omega)]
  have e4 : (80 : Int32).toInt = 80 := by decide
  omega
theorem own_lt65536 {c : Int32} (h : own_ok c) : c < (65536 : Int32) := by
  have q := h.rng
  rw [own_ltI]
  have e4 : (65536 : Int32).toInt = 65536 := by decide
  omega
def QOF (Z : State) (px : Addr) (pt : Addr) (cs : List Int32) (h0 : Heap) (n0 : Nat) (v : Option Value) (h : Heap) (L : List Loc) : Prop := ∃ (pq : Addr), v = some (.ref pq) ∧ Fr n0 L ∧ Keep h0 h [] ∧ h0.size ≤ pq ∧ Exa Z h pq "com/example/outbox/outbox/QueueName" ∧ Fld Z h pq "com/example/outbox/outbox/QueueName" "value" "Ljava/lang/String;" (.ref px)
theorem dOF_0 : decode prog_6_method_2_code 0 = .ok (.aload_n 0, 1) := by decide +kernel
theorem dOF_1 : decode prog_6_method_2_code 1 = .ok (.ldc 13, 2) := by decide +kernel
theorem dOF_3 : decode prog_6_method_2_code 3 = .ok (.invokestatic 15, 3) := by decide +kernel
theorem dOF_6 : decode prog_6_method_2_code 6 = .ok (.pop, 1) := by decide +kernel
theorem dOF_7 : decode prog_6_method_2_code 7 = .ok (.aload_n 0, 1) := by decide +kernel
theorem dOF_8 : decode prog_6_method_2_code 8 = .ok (.invokevirtual 21, 3) := by decide +kernel
theorem dOF_11 : decode prog_6_method_2_code 11 = .ok (.ifCond .ne 12, 3) := by decide +kernel
theorem dOF_14 : decode prog_6_method_2_code 14 = .ok (.aload_n 0, 1) := by decide +kernel
theorem dOF_15 : decode prog_6_method_2_code 15 = .ok (.invokevirtual 27, 3) := by decide +kernel
theorem dOF_18 : decode prog_6_method_2_code 18 = .ok (.bipush 80, 2) := by decide +kernel
theorem dOF_20 : decode prog_6_method_2_code 20 = .ok (.if_icmp .le 20, 3) := by decide +kernel
theorem dOF_40 : decode prog_6_method_2_code 40 = .ok (.aload_n 0, 1) := by decide +kernel
theorem dOF_41 : decode prog_6_method_2_code 41 = .ok (.ldc 40, 2) := by decide +kernel
theorem dOF_43 : decode prog_6_method_2_code 43 = .ok (.invokevirtual 42, 3) := by decide +kernel
theorem dOF_46 : decode prog_6_method_2_code 46 = .ok (.ifCond .ne 12, 3) := by decide +kernel
theorem dOF_49 : decode prog_6_method_2_code 49 = .ok (.aload_n 0, 1) := by decide +kernel
theorem dOF_50 : decode prog_6_method_2_code 50 = .ok (.ldc 46, 2) := by decide +kernel
theorem dOF_52 : decode prog_6_method_2_code 52 = .ok (.invokevirtual 42, 3) := by decide +kernel
theorem dOF_55 : decode prog_6_method_2_code 55 = .ok (.ifCond .eq 13, 3) := by decide +kernel
theorem dOF_68 : decode prog_6_method_2_code 68 = .ok (.iconst 0, 1) := by decide +kernel
theorem dOF_69 : decode prog_6_method_2_code 69 = .ok (.istore_n 1, 1) := by decide +kernel
theorem dOF_70 : decode prog_6_method_2_code 70 = .ok (.iload_n 1, 1) := by decide +kernel
theorem dOF_71 : decode prog_6_method_2_code 71 = .ok (.aload_n 0, 1) := by decide +kernel
theorem dOF_72 : decode prog_6_method_2_code 72 = .ok (.invokevirtual 27, 3) := by decide +kernel
theorem dOF_75 : decode prog_6_method_2_code 75 = .ok (.if_icmp .ge 64, 3) := by decide +kernel
theorem dOF_78 : decode prog_6_method_2_code 78 = .ok (.aload_n 0, 1) := by decide +kernel
theorem dOF_79 : decode prog_6_method_2_code 79 = .ok (.iload_n 1, 1) := by decide +kernel
theorem dOF_80 : decode prog_6_method_2_code 80 = .ok (.invokevirtual 50, 3) := by decide +kernel
theorem dOF_83 : decode prog_6_method_2_code 83 = .ok (.istore_n 2, 1) := by decide +kernel
theorem dOF_84 : decode prog_6_method_2_code 84 = .ok (.iload_n 2, 1) := by decide +kernel
theorem dOF_85 : decode prog_6_method_2_code 85 = .ok (.invokestatic 54, 3) := by decide +kernel
theorem dOF_88 : decode prog_6_method_2_code 88 = .ok (.ifCond .ne 41, 3) := by decide +kernel
theorem dOF_129 : decode prog_6_method_2_code 129 = .ok (.iload_n 1, 1) := by decide +kernel
theorem dOF_130 : decode prog_6_method_2_code 130 = .ok (.iload_n 2, 1) := by decide +kernel
theorem dOF_131 : decode prog_6_method_2_code 131 = .ok (.invokestatic 72, 3) := by decide +kernel
theorem dOF_134 : decode prog_6_method_2_code 134 = .ok (.iadd, 1) := by decide +kernel
theorem dOF_135 : decode prog_6_method_2_code 135 = .ok (.istore_n 1, 1) := by decide +kernel
theorem dOF_136 : decode prog_6_method_2_code 136 = .ok (.goto (-66), 3) := by decide +kernel
theorem dOF_139 : decode prog_6_method_2_code 139 = .ok (.new 8, 3) := by decide +kernel
theorem dOF_142 : decode prog_6_method_2_code 142 = .ok (.dup, 1) := by decide +kernel
theorem dOF_143 : decode prog_6_method_2_code 143 = .ok (.aload_n 0, 1) := by decide +kernel
theorem dOF_144 : decode prog_6_method_2_code 144 = .ok (.invokespecial 77, 3) := by decide +kernel
theorem dOF_147 : decode prog_6_method_2_code 147 = .ok (.areturn, 1) := by decide +kernel
theorem pdOF : parseMethodDescriptor "(Ljava/lang/String;)Lcom/example/outbox/outbox/QueueName;" = some ⟨[(.object "java/lang/String")], some (.object "com/example/outbox/outbox/QueueName")⟩ := by decide +kernel
set_option maxRecDepth 65536 in
set_option maxHeartbeats 40000000 in
theorem segOF70 (l : Launch) (Z : State) (a0 : Array Value) (hw : ∀ d ∈ tables_1, d.before a0 Z = true) (ws : List Jvm.Cond) (px : Addr) (pt : Addr) (cs : List Int32) (h0 : Heap) (n0 : Nat) (Z0 : n0 ≤ h0.size) (H0 : own_Str Z h0 px pt cs) (hok : ∀ c ∈ cs, own_ok c) (hln : 0 < cs.length ∧ cs.length ≤ 80) (hd1 : ¬ cs = [46]) (hd2 : ¬ cs = [46, 46]) (O0 : Old Z n0 h0) (SV : own_Env Z)
    (p : Program) (e : Env) (s : State) (m : MethodId) (below : List Frame) (meth : Method) (c : Code) (s₁ : State) (Bd : BodyLoose p l (⟨"com/example/outbox/outbox/QueueName", "of", "(Ljava/lang/String;)Lcom/example/outbox/outbox/QueueName;"⟩ : MethodName) (head1 (Jvm.Cond.code (⟨"com/example/outbox/outbox/QueueName", "of", "(Ljava/lang/String;)Lcom/example/outbox/outbox/QueueName;"⟩ : MethodName) prog_6_method_2_code 4 (some (.object "com/example/outbox/outbox/QueueName")) :: ws) ({ frames := 3, cells := 7, slots := 49, locals := 42 } : Room)) prog_6_method_2_code 4 (some (.object "com/example/outbox/outbox/QueueName")) e s m #[(.ref px)] below meth c s₁) (hml : c.maxLocals = 4)
    (vm0 : Vm) (hZ : Z.Warmed39 (s.setVm vm0).vm) (hown : (s.setVm vm0).vm.findClass "com/example/outbox/outbox/QueueName" = some m.cls) (k0 : Nat) (hS : s.Since vm0 k0) (hh : s.heap = h0)
    (T : State) (h : Heap) (locs : List Loc) (X : Stand p l e ({ frames := 3, cells := 7, slots := 49, locals := 42 } : Room) (s.setVm vm0) m #[(.ref px)] below meth c T locs 6 48) (eT : T.heap = h) (N : Fr n0 locs) (Zh : n0 ≤ h.size) (hk : k0 ≤ h.size) (H : CHv Z own_EL vm0 h) (CH : CHr Z own_EL s.vm h0 vm0 h) (O : Old Z n0 h) (i : Nat) (q2 : Slot) (J0 : own_Str Z h px pt cs) (hsz : cs.length < 2147483648) (hi : i ≤ cs.length) (hq2 : q2 = .unset ∨ ∃ w, q2 = .val w ∧ w.category = 1) (KK : Keep h0 h []) :
    Way p.tables e below (KQH s Z own_EL (QOF Z px pt cs h0 n0) ({ frames := 3, cells := 7, slots := 49, locals := 42 } : Room).cells ({ frames := 3, cells := 7, slots := 49, locals := 42 } : Room).slots) (T.setTop (mkF m 70 #[rv px, iv (Int32.ofNat i), q2, .unset] [])) := by
  have hx := Bd.exec
  have hby := Bd.bytes
  have hlk : meth.locks = false := BodyLoose.notSynchronized Bd
  have hnm := (name_of_methodNamed Bd.named Bd.method).1
  have wS : ∀ d ∈ Bundle.stringAtoms, d.before a0 Z = true := fun d hd => hw d (own_wS d hd)
  have hEL : EW Z a0 own_EL := own_EW hw
  refine Way.by (fun _ k => XS.iloadN X.here hx rfl (hb hby dOF_70) rfl k) ?_
  show Way _ _ _ _ (T.setTop (mkF m 71 #[rv px, iv (Int32.ofNat i), q2, .unset] [(.int (Int32.ofNat i))]))
  refine Way.by (fun _ k => XS.aloadN X.here hx rfl (hb hby dOF_71) rfl rfl k) ?_
  show Way _ _ _ _ (T.setTop (mkF m 72 #[rv px, iv (Int32.ofNat i), q2, .unset] [(.ref px), (.int (Int32.ofNat i))]))
  obtain ⟨cq17, kq18, qa19, qb20, qc21⟩ := isOf hZ eT J0.1
  obtain ⟨_, _, ⟨T1, L3, k4, n5⟩, -, X2, ⟨Lc6, hQ7, l8, y9, z10⟩, st11⟩ := X.virtualBack hx (y := (⟨"java/lang/String", "length", "()I"⟩ : MethodName)) (z := (⟨"java/lang/String", "length", "()I"⟩ : MethodName)) hown (mvT hZ (tw hw 63 rfl)) (mvT hZ (tw hw 64 rfl)) (notFace_of_selects (args := #[]) (mvT hZ (tw hw 66 rfl))) (mvT hZ (tw hw 66 rfl)) (mvT hZ (tw hw 65 rfl)) (by decide) (own_len (W := 1) (n0 := n0) hZ hw SV O (cs := cs) J0 (by decide) (by decide)) qa19 qc21 (g := (mkF m 72 #[rv px, iv (Int32.ofNat i), q2, .unset] [(.ref px), (.int (Int32.ofNat i))])) rfl (by rw [hml]; rfl) (Steps.refl _) (argsL := []) (rest := [(.int (Int32.ofNat i))]) (lenOf own_pdLen rfl) rfl (leW rfl) (hb hby dOF_72) (fun _ _ => ⟨rfl, eT, (leB rfl), (leB rfl)⟩)
  dsimp only [Pt.U, Pt.locs, Pt.cells, Pt.slots] at X2 l8 y9 z10 st11 hQ7
  subst l8 y9 z10
  obtain ⟨rfl, N22, e13⟩ := hQ7
  have N12 := Fr.app N N22
  refine Way.to st11 ?_
  show Way _ _ _ _ (T1.setTop (mkF m 75 #[rv px, iv (Int32.ofNat i), q2, .unset] [(.int (Int32.ofNat cs.length)), (.int (Int32.ofNat i))]))
  by_cases hlt : (Int32.ofNat i) < (Int32.ofNat cs.length)
  · skip
    have hi2 : i < cs.length := (own_ofNat_lt hsz (by omega)).mp hlt
    refine Way.by (fun _ k => XS.icmpNo X2.here hx rfl (hb hby dOF_75) rfl (tlt hlt).2.1 k) ?_
    show Way _ _ _ _ (T1.setTop (mkF m 78 #[rv px, iv (Int32.ofNat i), q2, .unset] []))
    refine Way.by (fun _ k => XS.aloadN X2.here hx rfl (hb hby dOF_78) rfl rfl k) ?_
    show Way _ _ _ _ (T1.setTop (mkF m 79 #[rv px, iv (Int32.ofNat i), q2, .unset] [(.ref px)]))
    refine Way.by (fun _ k => XS.iloadN X2.here hx rfl (hb hby dOF_79) rfl k) ?_
    show Way _ _ _ _ (T1.setTop (mkF m 80 #[rv px, iv (Int32.ofNat i), q2, .unset] [(.int (Int32.ofNat i)), (.ref px)]))
    obtain ⟨cq40, kq41, qa42, qb43, qc44⟩ := isOf hZ e13 J0.1
    obtain ⟨_, _, ⟨T24, L26, k27, n28⟩, -, X25, ⟨Lc29, hQ30, l31, y32, z33⟩, st34⟩ := X2.virtualBack hx (y := (⟨"java/lang/String", "codePointAt", "(I)I"⟩ : MethodName)) (z := (⟨"java/lang/String", "codePointAt", "(I)I"⟩ : MethodName)) hown (mvT hZ (tw hw 76 rfl)) (mvT hZ (tw hw 77 rfl)) (notFace_of_selects (args := #[]) (mvT hZ (tw hw 79 rfl))) (mvT hZ (tw hw 79 rfl)) (mvT hZ (tw hw 78 rfl)) (by decide) (backOf (W := 0) (rmCP l Z a0 hw [] px pt cs i h n0 Zh J0 hi2 O SV) hZ (tw hw 80 rfl) (tw hw 7 rfl) (by decide) (by decide)) qa42 qc44 (g := (mkF m 80 #[rv px, iv (Int32.ofNat i), q2, .unset] [(.int (Int32.ofNat i)), (.ref px)])) rfl (by rw [hml]; rfl) (Steps.refl _) (argsL := [(.int (Int32.ofNat i))]) (rest := []) (lenOf pdCP rfl) rfl (leW rfl) (hb hby dOF_80) (fun _ _ => ⟨rfl, e13, (leB rfl), (leB rfl)⟩)
    dsimp only [Pt.U, Pt.locs, Pt.cells, Pt.slots] at X25 l31 y32 z33 st34 hQ30
    subst l31 y32 z33
    obtain ⟨rfl, N45, e36⟩ := hQ30
    have N35 := Fr.app N12 N45
    refine Way.to st34 ?_
    show Way _ _ _ _ (T24.setTop (mkF m 83 #[rv px, iv (Int32.ofNat i), q2, .unset] [(.int (cs.getD i 0))]))
    try clear X2 N12 e13 st34 cq40 kq41 qa42 qb43 qc44 N45
    try clear T1
    refine Way.by (fun _ k => XS.istoreNS X25.here hx rfl (hb hby dOF_83) rfl rfl hq2 k) ?_
    show Way _ _ _ _ (T24.setTop (mkF m 84 #[rv px, iv (Int32.ofNat i), iv (cs.getD i 0), .unset] []))
    refine Way.by (fun _ k => XS.iloadN X25.here hx rfl (hb hby dOF_84) rfl k) ?_
    show Way _ _ _ _ (T24.setTop (mkF m 85 #[rv px, iv (Int32.ofNat i), iv (cs.getD i 0), .unset] [(.int (cs.getD i 0))]))
    obtain ⟨_, _, ⟨T47, L49, k50, n51⟩, -, X48, ⟨Lc52, hQ53, l54, y55, z56⟩, st57⟩ := Jvm.LawKit.callS X25 hx (y := (⟨"com/example/outbox/outbox/QueueName", "isAllowed", "(I)Z"⟩ : MethodName)) hown (mvT hZ (tw hw 94 rfl)) (mvT hZ (tw hw 95 rfl)) (mvT hZ (tw hw 51 rfl)) (mvT hZ (tw hw 96 rfl)) (by decide) (backOf (W := 0) (rmIA l Z a0 hw [] (cs.getD i 0) h n0 Zh (hok _ (own_mem_getD hi2))) hZ (tw hw 96 rfl) (tw hw 51 rfl) (by decide) (by decide)) (g := (mkF m 85 #[rv px, iv (Int32.ofNat i), iv (cs.getD i 0), .unset] [(.int (cs.getD i 0))])) rfl (by rw [hml]; rfl) (argsL := [(.int (cs.getD i 0))]) (rest := []) (lenOf pdIA rfl) rfl (leW rfl) (hb hby dOF_85) (fun _ _ => ⟨rfl, e36, (leB rfl), (leB rfl)⟩)
    dsimp only [Pt.U, Pt.locs, Pt.cells, Pt.slots] at X48 l54 y55 z56 st57 hQ53
    subst l54 y55 z56
    obtain ⟨rfl, N63, e59⟩ := hQ53
    have N58 := Fr.app N35 N63
    refine Way.by st57 ?_
    show Way _ _ _ _ (T47.setTop (mkF m 88 #[rv px, iv (Int32.ofNat i), iv (cs.getD i 0), .unset] [(.int 1)]))
    have b65 : ¬ (1 : Int32) = (0 : Int32) := by decide
    refine Way.by (fun _ k => XS.ifYes X48.here hx rfl (pc0 := 88) (pc' := 129) rfl (hb hby dOF_88) rfl ((if0 .ne _).trans (feq b65).2) (by decide) (by decide) k) ?_
    show Way _ _ _ _ (T47.setTop (mkF m 129 #[rv px, iv (Int32.ofNat i), iv (cs.getD i 0), .unset] []))
    refine Way.by (fun _ k => XS.iloadN X48.here hx rfl (hb hby dOF_129) rfl k) ?_
    show Way _ _ _ _ (T47.setTop (mkF m 130 #[rv px, iv (Int32.ofNat i), iv (cs.getD i 0), .unset] [(.int (Int32.ofNat i))]))
    refine Way.by (fun _ k => XS.iloadN X48.here hx rfl (hb hby dOF_130) rfl k) ?_
    show Way _ _ _ _ (T47.setTop (mkF m 131 #[rv px, iv (Int32.ofNat i), iv (cs.getD i 0), .unset] [(.int (cs.getD i 0)), (.int (Int32.ofNat i))]))
    obtain ⟨_, _, ⟨T66, L68, k69, n70⟩, -, X67, ⟨Lc71, hQ72, l73, y74, z75⟩, st76⟩ := Jvm.LawKit.callS X48 hx (y := (⟨"java/lang/Character", "charCount", "(I)I"⟩ : MethodName)) hown (mvT hZ (tw hw 97 rfl)) (mvT hZ (tw hw 98 rfl)) (mvT hZ (tw hw 99 rfl)) (mvT hZ (tw hw 100 rfl)) (by decide) (backOf (W := 1) (rmCC l Z a0 hw [] (cs.getD i 0) h n0 Zh (own_lt65536 (hok _ (own_mem_getD hi2)))) hZ (tw hw 100 rfl) (tw hw 99 rfl) (by decide) (by decide)) (g := (mkF m 131 #[rv px, iv (Int32.ofNat i), iv (cs.getD i 0), .unset] [(.int (cs.getD i 0)), (.int (Int32.ofNat i))])) rfl (by rw [hml]; rfl) (argsL := [(.int (cs.getD i 0))]) (rest := [(.int (Int32.ofNat i))]) (lenOf pdCP rfl) rfl (leW rfl) (hb hby dOF_131) (fun _ _ => ⟨rfl, e59, (leB rfl), (leB rfl)⟩)
    dsimp only [Pt.U, Pt.locs, Pt.cells, Pt.slots] at X67 l73 y74 z75 st76 hQ72
    subst l73 y74 z75
    obtain ⟨rfl, N82, e78⟩ := hQ72
    have N77 := Fr.app N58 N82
    refine Way.by st76 ?_
    show Way _ _ _ _ (T66.setTop (mkF m 134 #[rv px, iv (Int32.ofNat i), iv (cs.getD i 0), .unset] [(.int 1), (.int (Int32.ofNat i))]))
    refine Way.by (fun _ k => XS.iadd X67.here hx rfl (hb hby dOF_134) rfl k) ?_
    show Way _ _ _ _ (T66.setTop (mkF m 135 #[rv px, iv (Int32.ofNat i), iv (cs.getD i 0), .unset] [(.int ((Int32.ofNat i) + (1 : Int32)))]))
    rw [← inc_ofNat i]
    show Way _ _ _ _ (T66.setTop (mkF m 135 #[rv px, iv (Int32.ofNat i), iv (cs.getD i 0), .unset] [(.int (Int32.ofNat (i + 1)))]))
    refine Way.by (fun _ k => XS.istoreN X67.here hx rfl (hb hby dOF_135) rfl (l' := #[rv px, iv (Int32.ofNat (i + 1)), iv (cs.getD i 0), .unset]) rfl k) ?_
    show Way _ _ _ _ (T66.setTop (mkF m 136 #[rv px, iv (Int32.ofNat (i + 1)), iv (cs.getD i 0), .unset] []))
    refine Way.by (fun _ k => XS.goto X67.here hx rfl (pc0 := 136) (pc' := 70) rfl (hb hby dOF_136) (by decide) (by decide) k) ?_
    show Way _ _ _ _ (T66.setTop (mkF m 70 #[rv px, iv (Int32.ofNat (i + 1)), iv (cs.getD i 0), .unset] []))
    exact segOF70 l Z a0 hw ws px pt cs h0 n0 Z0 H0 hok hln hd1 hd2 O0 SV p e s m below meth c s₁ Bd hml _ hZ hown _ hS hh T66 h _ X67 e78 N77 Zh hk H CH O (i + 1) (iv (cs.getD i 0)) J0 hsz hi2 (Or.inr ⟨_, rfl, rfl⟩) KK
  · skip
    refine Way.by (fun _ k => XS.icmpYes X2.here hx rfl (pc0 := 75) (pc' := 139) rfl (hb hby dOF_75) rfl (flt hlt).2.1 (by decide) (by decide) k) ?_
    show Way _ _ _ _ (T1.setTop (mkF m 139 #[rv px, iv (Int32.ofNat i), q2, .unset] []))
    obtain ⟨T84, h85, X86, e87, E88, A89, D90, -, st91⟩ := newO X2 hx hZ hown (tw hw 102 rfl) (tw hw 103 rfl) (tw hw 51 rfl) e13 (g := (mkF m 139 #[rv px, iv (Int32.ofNat i), q2, .unset] [])) rfl (hb hby dOF_139) (by decide) (by decide)
    obtain ⟨a92, g93⟩ : ∃ z, z = h.size := ⟨_, rfl⟩
    rw [← g93] at A89 D90 st91
    have ne94 : px ≠ a92 := Nat.ne_of_lt (Nat.lt_of_lt_of_eq J0.lt1 g93.symm)
    have ne95 : pt ≠ a92 := Nat.ne_of_lt (Nat.lt_of_lt_of_eq J0.lt2 g93.symm)
    have nw96 : n0 ≤ a92 := Nat.le_trans Zh (Nat.le_of_eq g93.symm)
    have hk97 : h0.size ≤ a92 := Nat.le_trans KK.1 (Nat.le_of_eq g93.symm)
    have hr100 := CHr.ext E88 H
    have H98 := hr100.1
    have CH99 := CH.trans hr100
    have S101 := J0.ext E88
    have Z102 := Nat.le_trans Zh E88.1
    have hk103 := Nat.le_trans hk E88.1
    have O104 := O.ext E88
    have K105 := KK.ext E88
    have hz106 := Nat.le_trans KK.1 E88.1
    have F107 : Fld Z h85 a92 "com/example/outbox/outbox/QueueName" "value" "Ljava/lang/String;" .null := D90 (Or.inr (tw hw 109 rfl)) (ty := (.object "java/lang/String")) (by decide)
    refine Way.by st91 ?_
    show Way _ _ _ _ (T84.setTop (mkF m 142 #[rv px, iv (Int32.ofNat i), q2, .unset] [(.ref a92)]))
    refine Way.by (fun _ k => XS.dup X86.here hx rfl (hb hby dOF_142) rfl rfl k) ?_
    show Way _ _ _ _ (T84.setTop (mkF m 143 #[rv px, iv (Int32.ofNat i), q2, .unset] [(.ref a92), (.ref a92)]))
    refine Way.by (fun _ k => XS.aloadN X86.here hx rfl (hb hby dOF_143) rfl rfl k) ?_
    show Way _ _ _ _ (T84.setTop (mkF m 144 #[rv px, iv (Int32.ofNat i), q2, .unset] [(.ref px), (.ref a92), (.ref a92)]))
    obtain ⟨_, _, ⟨T108, L110, k111, n112⟩, -, X109, ⟨Lc113, hQ114, l115, y116, z117⟩, st118⟩ := X86.specialBack hx (y := (⟨"com/example/outbox/outbox/QueueName", "<init>", "(Ljava/lang/String;)V"⟩ : MethodName)) rfl hown (mvT hZ (tw hw 104 rfl)) (mvT hZ (tw hw 105 rfl)) (mvT hZ (tw hw 106 rfl)) (by decide) (backOf (W := 1) (rmQI l Z a0 hw [] a92 px h85 n0 Z102 A89 F107 nw96) hZ (tw hw 106 rfl) (tw hw 51 rfl) (by decide) (by decide)) (g := (mkF m 144 #[rv px, iv (Int32.ofNat i), q2, .unset] [(.ref px), (.ref a92), (.ref a92)])) rfl (by rw [hml]; rfl) (Steps.refl _) (a := a92) (argsL := [(.ref px)]) (rest := [(.ref a92)]) (lenOf pdQI rfl) rfl (leW rfl) (hb hby dOF_144) (fun _ _ => ⟨rfl, e87, (leB rfl), (leB rfl)⟩)
    dsimp only [Pt.U, Pt.locs, Pt.cells, Pt.slots] at X109 l115 y116 z117 st118 hQ114
    subst l115 y116 z117
    obtain ⟨rfl, N124, K125, F_0126, F_1127⟩ := hQ114
    have N119 := Fr.app N12 N124
    have hr130 := CHr.keep K125 (sfS (Safe.exa hZ.alike A89 (by decide) (by decide)) sf0) H98
    have H128 := hr130.1
    have CH129 := CH99.trans hr130
    have S131 := S101.keep K125 (ninS ne94 nin0) (ninS ne95 nin0)
    have E132 := A89.keep K125
    have Z133 := Nat.le_trans Z102 K125.1
    have hk134 := Nat.le_trans hk103 K125.1
    have O135 := O104.keep K125 (allS nw96 all0)
    have K136 := K105.trans K125 (allS (Or.inr hk97) all0)
    have hz137 := Nat.le_trans hz106 K125.1
    refine Way.to st118 ?_
    show Way _ _ _ _ (T108.setTop (mkF m 147 #[rv px, iv (Int32.ofNat i), q2, .unset] [(.ref a92)]))
    try clear N12 X86 e87 A89 H98 CH99 S101 Z102 hk103 O104 K105 hz106 F107 st118 N124 K125 hr130 E132
    try clear T84 h85
    refine Way.retH (v := (some (.ref a92))) X109 hS (by exact hk134) hZ hEL hh rfl H128 CH129 hlk (fun h => by rw [Bd.returns] at h; cases h) (fun fs hr => retOut X109 hx Bd.returns rfl (Or.inr (Or.inr (Or.inr (Or.inr ⟨rfl, rfl, rfl⟩)))) (hb hby dOF_147) hr) ?_ (by decide) (by decide)
    show QOF Z px pt cs h0 n0 _ T108.heap _
    skip
    exact ⟨a92, rfl, N119, K136, hk97, F_0126, F_1127⟩
termination_by cs.length - i
decreasing_by all_goals omega
set_option maxRecDepth 65536 in
set_option maxHeartbeats 40000000 in
theorem rmOF (l : Launch) (Z : State) (a0 : Array Value) (hw : ∀ d ∈ tables_1, d.before a0 Z = true) (ws : List Jvm.Cond) (px : Addr) (pt : Addr) (cs : List Int32) (h0 : Heap) (n0 : Nat) (Z0 : n0 ≤ h0.size) (H0 : own_Str Z h0 px pt cs) (hok : ∀ c ∈ cs, own_ok c) (hln : 0 < cs.length ∧ cs.length ≤ 80) (hd1 : ¬ cs = [46]) (hd2 : ¬ cs = [46, 46]) (O0 : Old Z n0 h0) (SV : own_Env Z) :
    MetFree l (⟨"com/example/outbox/outbox/QueueName", "of", "(Ljava/lang/String;)Lcom/example/outbox/outbox/QueueName;"⟩ : MethodName) (head1 (Jvm.Cond.code (⟨"com/example/outbox/outbox/QueueName", "of", "(Ljava/lang/String;)Lcom/example/outbox/outbox/QueueName;"⟩ : MethodName) prog_6_method_2_code 4 (some (.object "com/example/outbox/outbox/QueueName")) :: ws) ({ frames := 3, cells := 7, slots := 49, locals := 42 } : Room)) (fun aa U => aa = #[(.ref px)] ∧ Z.Warmed39 U.vm ∧ U.heap = h0 ∧ CHv Z own_EL U.vm h0) (fun _ _ _ _ _ => True) (fun _ U oo U' => ∃ v L, oo = .returned v ∧ QOF Z px pt cs h0 n0 v U'.heap L ∧ CHr Z own_EL U.vm U.heap U'.vm U'.heap ∧ ReturnedEndW U oo U' L ({ frames := 3, cells := 7, slots := 49, locals := 42 } : Room).cells ({ frames := 3, cells := 7, slots := 49, locals := 42 } : Room).slots) := by
  refine MetFree.of_bodySF (plainFor_of_name pnIA) hisR ?_
  intro p e s m args below meth c s₁ Bd hml0 hP hK
  obtain ⟨rfl, hZ, hh, HV0⟩ := hP
  have hx := Bd.exec
  have hby := Bd.bytes
  have hlk : meth.locks = false := BodyLoose.notSynchronized Bd
  have hml : c.maxLocals = 4 := hml0
  have hown : s.vm.findClass "com/example/outbox/outbox/QueueName" = some m.cls := findClass_of_methodNamed Bd.named
  have hnm := (name_of_methodNamed Bd.named Bd.method).1
  have X0 : Stand p l e ({ frames := 3, cells := 7, slots := 49, locals := 42 } : Room) s m #[(.ref px)] below meth c s₁ [] 0 0 := Stand.of_body Bd
  have e0 : s₁.heap = h0 := by rw [← hh, Bd.state]; rfl
  have N0 := Fr.nil n0
  have ef : entryFrame m #[(.ref px)] 4 = mkF m 0 #[rv px, .unset, .unset, .unset] [] := by first | (simp [entryFrame, mkF, argsToLocals, Value.category, maxLocals]; done) | rfl
  have XW : Stand p l e ({ frames := 3, cells := 7, slots := 49, locals := 42 } : Room) (s.setVm s.vm) m #[(.ref px)] below meth c s₁ [] 0 0 := X0
  have hS0 : s.Since s.vm 0 := (State.WarmedH.refl s).since 0
  have hZ0 : Z.Warmed39 (s.setVm s.vm).vm := hZ
  have hown0 : (s.setVm s.vm).vm.findClass "com/example/outbox/outbox/QueueName" = some m.cls := hown
  have wS : ∀ d ∈ Bundle.stringAtoms, d.before a0 Z = true := fun d hd => hw d (own_wS d hd)
  have hEL : EW Z a0 own_EL := own_EW hw
  have CH0 : CHr Z own_EL s.vm h0 s.vm h0 := CHr.refl HV0
  show Way p.tables e below (KQH s Z own_EL (QOF Z px pt cs h0 n0) ({ frames := 3, cells := 7, slots := 49, locals := 42 } : Room).cells ({ frames := 3, cells := 7, slots := 49, locals := 42 } : Room).slots) (s₁.setTop (entryFrame m #[(.ref px)] 4))
  rw [ef]
  refine Way.by (fun _ k => XS.aloadN XW.here hx rfl (hb hby dOF_0) rfl rfl k) ?_
  show Way _ _ _ _ (s₁.setTop (mkF m 1 #[rv px, .unset, .unset, .unset] [(.ref px)]))
  obtain ⟨a1, T2, h3, k4, X5, e6, E7, hS8, hk9, hZ10, hown11, hr13, lit14, st12⟩ := ldcOH XW hx hZ0 hown0 (tw hw 53 rfl) wS e0 hS0 (Nat.zero_le _) hEL HV0 (g := (mkF m 1 #[rv px, .unset, .unset, .unset] [(.ref px)])) rfl (hb hby dOF_1) (n := 16) (by decide) (by decide) (by decide) (by decide)
  have H15 := hr13.1
  have CH16 := CH0.trans hr13
  have S18 := H0.ext E7
  have Z19 := Nat.le_trans Z0 E7.1
  have O20 := O0.ext E7
  have K21 := (Keep.refl h0 []).ext E7
  have hz22 := Nat.le_trans (Nat.le_refl h0.size) E7.1
  refine Way.by st12 ?_
  show Way _ _ _ _ (T2.setTop (mkF m 3 #[rv px, .unset, .unset, .unset] [(.ref a1), (.ref px)]))
  obtain ⟨_, _, ⟨T23, L25, k26, n27⟩, -, X24, ⟨Lc28, hQ29, l30, y31, z32⟩, st33⟩ := Jvm.LawKit.callS X5 hx (y := (⟨"java/util/Objects", "requireNonNull", "(Ljava/lang/Object;Ljava/lang/String;)Ljava/lang/Object;"⟩ : MethodName)) hown11 (mvT hZ10 (tw hw 54 rfl)) (mvT hZ10 (tw hw 55 rfl)) (mvT hZ10 (tw hw 56 rfl)) (mvT hZ10 (tw hw 57 rfl)) (by decide) (backOf (W := 0) (rmR l Z a0 hw [] px a1 h3 n0 Z19 ) hZ10 (tw hw 57 rfl) (tw hw 56 rfl) (by decide) (by decide)) (g := (mkF m 3 #[rv px, .unset, .unset, .unset] [(.ref a1), (.ref px)])) rfl (by rw [hml]; rfl) (argsL := [(.ref px), (.ref a1)]) (rest := []) (lenOf pdR rfl) rfl (leW rfl) (hb hby dOF_3) (fun _ _ => ⟨rfl, e6, (leB rfl), (leB rfl)⟩)
  dsimp only [Pt.U, Pt.locs, Pt.cells, Pt.slots] at X24 l30 y31 z32 st33 hQ29
  subst l30 y31 z32
  obtain ⟨rfl, N39, e35⟩ := hQ29
  have N34 := Fr.app N0 N39
  refine Way.by st33 ?_
  show Way _ _ _ _ (T23.setTop (mkF m 6 #[rv px, .unset, .unset, .unset] [(.ref px)]))
  refine Way.by (fun _ k => XT.pop X24.here hx rfl (hb hby dOF_6) rfl rfl k) ?_
  show Way _ _ _ _ (T23.setTop (mkF m 7 #[rv px, .unset, .unset, .unset] []))
  refine Way.by (fun _ k => XS.aloadN X24.here hx rfl (hb hby dOF_7) rfl rfl k) ?_
  show Way _ _ _ _ (T23.setTop (mkF m 8 #[rv px, .unset, .unset, .unset] [(.ref px)]))
  obtain ⟨cq57, kq58, qa59, qb60, qc61⟩ := isOf hZ10 e35 S18.1
  obtain ⟨_, _, ⟨T41, L43, k44, n45⟩, -, X42, ⟨Lc46, hQ47, l48, y49, z50⟩, st51⟩ := X24.virtualBack hx (y := (⟨"java/lang/String", "isEmpty", "()Z"⟩ : MethodName)) (z := (⟨"java/lang/String", "isEmpty", "()Z"⟩ : MethodName)) hown11 (mvT hZ10 (tw hw 58 rfl)) (mvT hZ10 (tw hw 59 rfl)) (notFace_of_selects (args := #[]) (mvT hZ10 (tw hw 61 rfl))) (mvT hZ10 (tw hw 61 rfl)) (mvT hZ10 (tw hw 60 rfl)) (by decide) (own_emp (W := 0) (n0 := n0) hZ10 hw (cs := cs) S18 (by decide) (by decide)) qa59 qc61 (g := (mkF m 8 #[rv px, .unset, .unset, .unset] [(.ref px)])) rfl (by rw [hml]; rfl) (Steps.refl _) (argsL := []) (rest := []) (lenOf own_pdEmp rfl) rfl (leW rfl) (hb hby dOF_8) (fun _ _ => ⟨rfl, e35, (leB rfl), (leB rfl)⟩)
  dsimp only [Pt.U, Pt.locs, Pt.cells, Pt.slots] at X42 l48 y49 z50 st51 hQ47
  subst l48 y49 z50
  obtain ⟨rfl, N62, e53⟩ := hQ47
  have N52 := Fr.app N34 N62
  refine Way.to st51 ?_
  show Way _ _ _ _ (T41.setTop (mkF m 11 #[rv px, .unset, .unset, .unset] [(.int (if cs.length = 0 then (1 : Int32) else 0))]))
  try clear X24 N34 e35 st51 cq57 kq58 qa59 qb60 qc61 N62
  try clear T23
  have b64 : (if cs.length = 0 then (1 : Int32) else 0) = (0 : Int32) := if_neg (by omega)
  refine Way.by (fun _ k => XS.ifNo X42.here hx rfl (hb hby dOF_11) rfl ((if0 .ne _).trans (teq b64).2) k) ?_
  show Way _ _ _ _ (T41.setTop (mkF m 14 #[rv px, .unset, .unset, .unset] []))
  refine Way.by (fun _ k => XS.aloadN X42.here hx rfl (hb hby dOF_14) rfl rfl k) ?_
  show Way _ _ _ _ (T41.setTop (mkF m 15 #[rv px, .unset, .unset, .unset] [(.ref px)]))
  obtain ⟨cq81, kq82, qa83, qb84, qc85⟩ := isOf hZ10 e53 S18.1
  obtain ⟨_, _, ⟨T65, L67, k68, n69⟩, -, X66, ⟨Lc70, hQ71, l72, y73, z74⟩, st75⟩ := X42.virtualBack hx (y := (⟨"java/lang/String", "length", "()I"⟩ : MethodName)) (z := (⟨"java/lang/String", "length", "()I"⟩ : MethodName)) hown11 (mvT hZ10 (tw hw 63 rfl)) (mvT hZ10 (tw hw 64 rfl)) (notFace_of_selects (args := #[]) (mvT hZ10 (tw hw 66 rfl))) (mvT hZ10 (tw hw 66 rfl)) (mvT hZ10 (tw hw 65 rfl)) (by decide) (own_len (W := 0) (n0 := n0) hZ10 hw SV O20 (cs := cs) S18 (by decide) (by decide)) qa83 qc85 (g := (mkF m 15 #[rv px, .unset, .unset, .unset] [(.ref px)])) rfl (by rw [hml]; rfl) (Steps.refl _) (argsL := []) (rest := []) (lenOf own_pdLen rfl) rfl (leW rfl) (hb hby dOF_15) (fun _ _ => ⟨rfl, e53, (leB rfl), (leB rfl)⟩)
  dsimp only [Pt.U, Pt.locs, Pt.cells, Pt.slots] at X66 l72 y73 z74 st75 hQ71
  subst l72 y73 z74
  obtain ⟨rfl, N86, e77⟩ := hQ71
  have N76 := Fr.app N52 N86
  refine Way.to st75 ?_
  show Way _ _ _ _ (T65.setTop (mkF m 18 #[rv px, .unset, .unset, .unset] [(.int (Int32.ofNat cs.length))]))
  try clear X42 N52 e53 st75 cq81 kq82 qa83 qb84 qc85 N86
  try clear T41
  refine Way.by (fun _ k => XS.bipush X66.here hx rfl (hb hby dOF_18) k) ?_
  show Way _ _ _ _ (T65.setTop (mkF m 20 #[rv px, .unset, .unset, .unset] [(.int 80), (.int (Int32.ofNat cs.length))]))
  have b88 : ¬ (80 : Int32) < (Int32.ofNat cs.length) := own_le80 hln.2
  refine Way.by (fun _ k => XS.icmpYes X66.here hx rfl (pc0 := 20) (pc' := 40) rfl (hb hby dOF_20) rfl (flt b88).2.2.2 (by decide) (by decide) k) ?_
  show Way _ _ _ _ (T65.setTop (mkF m 40 #[rv px, .unset, .unset, .unset] []))
  refine Way.by (fun _ k => XS.aloadN X66.here hx rfl (hb hby dOF_40) rfl rfl k) ?_
  show Way _ _ _ _ (T65.setTop (mkF m 41 #[rv px, .unset, .unset, .unset] [(.ref px)]))
  obtain ⟨a89, T90, h91, k92, bd93, kc94, X95, e96, E97, hS98, hk99, hZ100, hown101, Ex102, Co103, Va104, Ar105, la106, lb107, hr108, lit109, sfn110, st111⟩ := ldcCH X66 hx hZ10 hown11 (tw hw 73 rfl) wS e77 hS8 hk9 hEL (by decide) H15 (vs := ([46] : List Int32).map fun c => Value.int (StrChars.lo8 c)) (z := (1 : Int32)) ⟨by decide, by decide⟩ (by decide) rfl (g := (mkF m 41 #[rv px, .unset, .unset, .unset] [(.ref px)])) rfl (hb hby dOF_41) (n := 4) (by decide) (by decide) (by decide) (by decide)
  have H112 := hr108.1
  have CH113 := CH16.trans hr108
  have S115 := S18.ext E97
  have Z116 := Nat.le_trans Z19 E97.1
  have O117 := O20.ext E97
  have K118 := K21.ext E97
  have hz119 := Nat.le_trans hz22 E97.1
  have F120 : own_Str Z h91 a89 bd93 [46] := ⟨Ex102, Va104, Co103, ⟨_, _, _, Ar105, Or.inl ⟨rfl, rfl, rfl, by decide⟩⟩, by decide, by decide⟩
  refine Way.by st111 ?_
  show Way _ _ _ _ (T90.setTop (mkF m 43 #[rv px, .unset, .unset, .unset] [(.ref a89), (.ref px)]))
  try clear hS8 hk9 hZ10 hown11 H15 CH16 S18 Z19 O20 K21 hz22 X66 e77 E97 hr108 st111
  try clear T2 h3 T65
  obtain ⟨cq137, kq138, qa139, qb140, qc141⟩ := isOf hZ100 e96 S115.1
  obtain ⟨_, _, ⟨T121, L123, k124, n125⟩, -, X122, ⟨Lc126, hQ127, l128, y129, z130⟩, st131⟩ := X95.virtualBack hx (y := (⟨"java/lang/String", "equals", "(Ljava/lang/Object;)Z"⟩ : MethodName)) (z := (⟨"java/lang/String", "equals", "(Ljava/lang/Object;)Z"⟩ : MethodName)) hown101 (mvT hZ100 (tw hw 74 rfl)) (mvT hZ100 (tw hw 39 rfl)) (notFace_of_selects (args := #[]) (mvT hZ100 (tw hw 41 rfl))) (mvT hZ100 (tw hw 41 rfl)) (mvT hZ100 (tw hw 40 rfl)) (by decide) (own_eqs (W := 0) (n0 := n0) hZ100 hw SV O117 (cs := cs) (ds := [46]) S115 F120 (by decide) (by decide)) qa139 qc141 (g := (mkF m 43 #[rv px, .unset, .unset, .unset] [(.ref a89), (.ref px)])) rfl (by rw [hml]; rfl) (Steps.refl _) (argsL := [(.ref a89)]) (rest := []) (lenOf own_pdEq rfl) rfl (leW rfl) (hb hby dOF_43) (fun _ _ => ⟨rfl, e96, (leB rfl), (leB rfl)⟩)
  dsimp only [Pt.U, Pt.locs, Pt.cells, Pt.slots] at X122 l128 y129 z130 st131 hQ127
  subst l128 y129 z130
  obtain ⟨rfl, N142, e133⟩ := hQ127
  have N132 := Fr.app N76 N142
  refine Way.to st131 ?_
  show Way _ _ _ _ (T121.setTop (mkF m 46 #[rv px, .unset, .unset, .unset] [(.int (if (cs : List Int32) = [46] then (1 : Int32) else 0))]))
  try clear N76 X95 e96 st131 cq137 kq138 qa139 qb140 qc141 N142
  have b144 : (if (cs : List Int32) = [46] then (1 : Int32) else 0) = (0 : Int32) := if_neg hd1
  refine Way.by (fun _ k => XS.ifNo X122.here hx rfl (hb hby dOF_46) rfl ((if0 .ne _).trans (teq b144).2) k) ?_
  show Way _ _ _ _ (T121.setTop (mkF m 49 #[rv px, .unset, .unset, .unset] []))
  refine Way.by (fun _ k => XS.aloadN X122.here hx rfl (hb hby dOF_49) rfl rfl k) ?_
  show Way _ _ _ _ (T121.setTop (mkF m 50 #[rv px, .unset, .unset, .unset] [(.ref px)]))
  obtain ⟨a145, T146, h147, k148, bd149, kc150, X151, e152, E153, hS154, hk155, hZ156, hown157, Ex158, Co159, Va160, Ar161, la162, lb163, hr164, lit165, sfn166, st167⟩ := ldcCH X122 hx hZ100 hown101 (tw hw 75 rfl) wS e133 hS98 hk99 hEL (by decide) H112 (vs := ([46, 46] : List Int32).map fun c => Value.int (StrChars.lo8 c)) (z := (2 : Int32)) ⟨by decide, by decide⟩ (by decide) rfl (g := (mkF m 50 #[rv px, .unset, .unset, .unset] [(.ref px)])) rfl (hb hby dOF_50) (n := 8) (by decide) (by decide) (by decide) (by decide)
  have H168 := hr164.1
  have CH169 := CH113.trans hr164
  have S171 := S115.ext E153
  have S172 := F120.ext E153
  have Z173 := Nat.le_trans Z116 E153.1
  have O174 := O117.ext E153
  have K175 := K118.ext E153
  have hz176 := Nat.le_trans hz119 E153.1
  have F177 : own_Str Z h147 a145 bd149 [46, 46] := ⟨Ex158, Va160, Co159, ⟨_, _, _, Ar161, Or.inl ⟨rfl, rfl, rfl, by decide⟩⟩, by decide, by decide⟩
  refine Way.by st167 ?_
  show Way _ _ _ _ (T146.setTop (mkF m 52 #[rv px, .unset, .unset, .unset] [(.ref a145), (.ref px)]))
  try clear hS98 hk99 hZ100 hown101 H112 CH113 S115 Z116 O117 K118 hz119 F120 X122 e133 E153 hr164 st167
  try clear T90 h91 T121
  obtain ⟨cq194, kq195, qa196, qb197, qc198⟩ := isOf hZ156 e152 S171.1
  obtain ⟨_, _, ⟨T178, L180, k181, n182⟩, -, X179, ⟨Lc183, hQ184, l185, y186, z187⟩, st188⟩ := X151.virtualBack hx (y := (⟨"java/lang/String", "equals", "(Ljava/lang/Object;)Z"⟩ : MethodName)) (z := (⟨"java/lang/String", "equals", "(Ljava/lang/Object;)Z"⟩ : MethodName)) hown157 (mvT hZ156 (tw hw 74 rfl)) (mvT hZ156 (tw hw 39 rfl)) (notFace_of_selects (args := #[]) (mvT hZ156 (tw hw 41 rfl))) (mvT hZ156 (tw hw 41 rfl)) (mvT hZ156 (tw hw 40 rfl)) (by decide) (own_eqs (W := 0) (n0 := n0) hZ156 hw SV O174 (cs := cs) (ds := [46, 46]) S171 F177 (by decide) (by decide)) qa196 qc198 (g := (mkF m 52 #[rv px, .unset, .unset, .unset] [(.ref a145), (.ref px)])) rfl (by rw [hml]; rfl) (Steps.refl _) (argsL := [(.ref a145)]) (rest := []) (lenOf own_pdEq rfl) rfl (leW rfl) (hb hby dOF_52) (fun _ _ => ⟨rfl, e152, (leB rfl), (leB rfl)⟩)
  dsimp only [Pt.U, Pt.locs, Pt.cells, Pt.slots] at X179 l185 y186 z187 st188 hQ184
  subst l185 y186 z187
  obtain ⟨rfl, N199, e190⟩ := hQ184
  have N189 := Fr.app N132 N199
  refine Way.to st188 ?_
  show Way _ _ _ _ (T178.setTop (mkF m 55 #[rv px, .unset, .unset, .unset] [(.int (if (cs : List Int32) = [46, 46] then (1 : Int32) else 0))]))
  try clear N132 X151 e152 st188 cq194 kq195 qa196 qb197 qc198 N199
  have b201 : (if (cs : List Int32) = [46, 46] then (1 : Int32) else 0) = (0 : Int32) := if_neg hd2
  refine Way.by (fun _ k => XS.ifYes X179.here hx rfl (pc0 := 55) (pc' := 68) rfl (hb hby dOF_55) rfl ((if0 .eq _).trans (teq b201).1) (by decide) (by decide) k) ?_
  show Way _ _ _ _ (T178.setTop (mkF m 68 #[rv px, .unset, .unset, .unset] []))
  refine Way.by (fun _ k => XS.iconst X179.here hx rfl (hb hby dOF_68) k) ?_
  show Way _ _ _ _ (T178.setTop (mkF m 69 #[rv px, .unset, .unset, .unset] [(.int 0)]))
  refine Way.by (fun _ k => XS.istoreN X179.here hx rfl (hb hby dOF_69) rfl (l' := #[rv px, iv 0, .unset, .unset]) rfl k) ?_
  show Way _ _ _ _ (T178.setTop (mkF m 70 #[rv px, iv 0, .unset, .unset] []))
  have hsz : cs.length < 2147483648 := Nat.lt_of_le_of_lt H0.2.2.2.2.2 (by decide)
  exact segOF70 l Z a0 hw ws px pt cs h0 n0 Z0 H0 hok hln hd1 hd2 O0 SV p e s m below meth c s₁ Bd hml _ hZ156 hown157 _ hS154 hh T178 h147 _ (X179.mono (by decide) (by decide)) e190 N189 Z173 hk155 H168 CH169 O174 0 .unset S171 hsz (Nat.zero_le _) (Or.inl rfl) K175
def Q0 (n0 : Nat) (v : Option Value) (h : Heap) (L : List Loc) : Prop := v = some (.int 1) ∧ Fr n0 L
theorem own_if0 {P : Prop} [Decidable P] (h : (if P then (1 : Int32) else 0) = 0) : ¬ P := fun q => by rw [if_pos q] at h; exact absurd h (by decide)
set_option maxRecDepth 65536 in
set_option maxHeartbeats 40000000 in
theorem seg682 (l : Launch) (Z : State) (a0 : Array Value) (hw : ∀ d ∈ tables_1, d.before a0 Z = true) (ws : List Jvm.Cond) (p0 p1 p2 p3 p4 : Int32) (h0 : Heap) (n0 : Nat) (Z0 : n0 ≤ h0.size) (O0 : Old Z n0 h0) (SV : own_Env Z)
    (p : Program) (e : Env) (s : State) (m : MethodId) (below : List Frame) (meth : Method) (c : Code) (s₁ : State) (Bd : BodyLoose p l x (head1 (Jvm.Cond.code x code maxLocals ret :: ws) room_1) code maxLocals ret e s m #[(.int p0), (.int p1), (.int p2), (.int p3), (.int p4)] below meth c s₁) (hml : c.maxLocals = 12)
    (vm0 : Vm) (hZ : Z.Warmed39 (s.setVm vm0).vm) (hown : (s.setVm vm0).vm.findClass "com/example/outbox/outbox/QueueNameOfPinLaw" = some m.cls) (k0 : Nat) (hS : s.Since vm0 k0) (hh : s.heap = h0)
    (T : State) (h : Heap) (locs : List Loc) (X : Stand p l e room_1 (s.setVm vm0) m #[(.int p0), (.int p1), (.int p2), (.int p3), (.int p4)] below meth c T locs 4 170) (eT : T.heap = h) (N : Fr n0 locs) (Zh : n0 ≤ h.size) (hk : k0 ≤ h.size) (H : CHv Z own_EL vm0 h) (CH : CHr Z own_EL s.vm h0 vm0 h) (O : Old Z n0 h) (c0 : Int32) (c1 : Int32) (c2 : Int32) (c3 : Int32) (sl : Int32) (px : Addr) (pt : Addr) (cs : List Int32) (L11 : Slot) (J0 : own_Str Z h px pt cs) (hok : ∀ c ∈ cs, own_ok c) (hln : 0 < cs.length ∧ cs.length ≤ 80) (h11 : One L11) :
    Way p.tables e below (KQH s Z own_EL (Q0 n0) room_1.cells room_1.slots) (T.setTop (mkF m 682 #[iv p0, iv p1, iv p2, iv p3, iv p4, iv c0, iv c1, iv c2, iv c3, iv sl, rv px, L11] [])) := by
  have hx := Bd.exec
  have hby := Bd.bytes
  have hlk : meth.locks = false := BodyLoose.notSynchronized Bd
  have hnm := (name_of_methodNamed Bd.named Bd.method).1
  have wS : ∀ d ∈ Bundle.stringAtoms, d.before a0 Z = true := fun d hd => hw d (own_wS d hd)
  have hEL : EW Z a0 own_EL := own_EW hw
  refine Way.by (fun _ k => XS.aload X.here hx rfl (hb hby at_682) rfl rfl k) ?_
  show Way _ _ _ _ (T.setTop (mkF m 684 #[iv p0, iv p1, iv p2, iv p3, iv p4, iv c0, iv c1, iv c2, iv c3, iv sl, rv px, L11] [(.ref px)]))
  obtain ⟨a1, T2, h3, k4, bd5, kc6, X7, e8, E9, hS10, hk11, hZ12, hown13, Ex14, Co15, Va16, Ar17, la18, lb19, hr20, lit21, sfn22, st23⟩ := ldcCH X hx hZ hown (tw hw 35 rfl) wS eT hS hk hEL (by decide) H (vs := ([46] : List Int32).map fun c => Value.int (StrChars.lo8 c)) (z := (1 : Int32)) ⟨by decide, by decide⟩ (by decide) rfl (g := (mkF m 684 #[iv p0, iv p1, iv p2, iv p3, iv p4, iv c0, iv c1, iv c2, iv c3, iv sl, rv px, L11] [(.ref px)])) rfl (hb hby at_684) (n := 4) (by decide) (by decide) (by decide) (by decide)
  have H24 := hr20.1
  have CH25 := CH.trans hr20
  have S27 := J0.ext E9
  have Z28 := Nat.le_trans Zh E9.1
  have O29 := O.ext E9
  have F30 : own_Str Z h3 a1 bd5 [46] := ⟨Ex14, Va16, Co15, ⟨_, _, _, Ar17, Or.inl ⟨rfl, rfl, rfl, by decide⟩⟩, by decide, by decide⟩
  refine Way.by st23 ?_
  show Way _ _ _ _ (T2.setTop (mkF m 686 #[iv p0, iv p1, iv p2, iv p3, iv p4, iv c0, iv c1, iv c2, iv c3, iv sl, rv px, L11] [(.ref a1), (.ref px)]))
  obtain ⟨cq47, kq48, qa49, qb50, qc51⟩ := isOf hZ12 e8 S27.1
  obtain ⟨_, _, ⟨T31, L33, k34, n35⟩, -, X32, ⟨Lc36, hQ37, l38, y39, z40⟩, st41⟩ := X7.virtualBack hx (y := (⟨"java/lang/String", "equals", "(Ljava/lang/Object;)Z"⟩ : MethodName)) (z := (⟨"java/lang/String", "equals", "(Ljava/lang/Object;)Z"⟩ : MethodName)) hown13 (mvT hZ12 (tw hw 38 rfl)) (mvT hZ12 (tw hw 39 rfl)) (notFace_of_selects (args := #[]) (mvT hZ12 (tw hw 41 rfl))) (mvT hZ12 (tw hw 41 rfl)) (mvT hZ12 (tw hw 40 rfl)) (by decide) (own_eqs (W := 0) (n0 := n0) hZ12 hw SV O29 (cs := cs) (ds := [46]) S27 F30 (by decide) (by decide)) qa49 qc51 (g := (mkF m 686 #[iv p0, iv p1, iv p2, iv p3, iv p4, iv c0, iv c1, iv c2, iv c3, iv sl, rv px, L11] [(.ref a1), (.ref px)])) rfl (by rw [hml]; rfl) (Steps.refl _) (argsL := [(.ref a1)]) (rest := []) (lenOf own_pdEq rfl) rfl (leW rfl) (hb hby at_686) (fun _ _ => ⟨rfl, e8, (leB rfl), (leB rfl)⟩)
  dsimp only [Pt.U, Pt.locs, Pt.cells, Pt.slots] at X32 l38 y39 z40 st41 hQ37
  subst l38 y39 z40
  obtain ⟨rfl, N52, e43⟩ := hQ37
  have N42 := Fr.app N N52
  refine Way.to st41 ?_
  show Way _ _ _ _ (T31.setTop (mkF m 689 #[iv p0, iv p1, iv p2, iv p3, iv p4, iv c0, iv c1, iv c2, iv c3, iv sl, rv px, L11] [(.int (if (cs : List Int32) = [46] then (1 : Int32) else 0))]))
  try clear X7 e8 st41 cq47 kq48 qa49 qb50 qc51 N52
  by_cases hq1 : (if (cs : List Int32) = [46] then (1 : Int32) else 0) = (0 : Int32)
  · skip
    have hd1 : ¬ cs = [46] := own_if0 hq1
    refine Way.by (fun _ k => XS.ifNo X32.here hx rfl (hb hby at_689) rfl ((if0 .ne _).trans (teq hq1).2) k) ?_
    show Way _ _ _ _ (T31.setTop (mkF m 692 #[iv p0, iv p1, iv p2, iv p3, iv p4, iv c0, iv c1, iv c2, iv c3, iv sl, rv px, L11] []))
    refine Way.by (fun _ k => XS.aload X32.here hx rfl (hb hby at_692) rfl rfl k) ?_
    show Way _ _ _ _ (T31.setTop (mkF m 694 #[iv p0, iv p1, iv p2, iv p3, iv p4, iv c0, iv c1, iv c2, iv c3, iv sl, rv px, L11] [(.ref px)]))
    obtain ⟨a54, T55, h56, k57, bd58, kc59, X60, e61, E62, hS63, hk64, hZ65, hown66, Ex67, Co68, Va69, Ar70, la71, lb72, hr73, lit74, sfn75, st76⟩ := ldcCH X32 hx hZ12 hown13 (tw hw 48 rfl) wS e43 hS10 hk11 hEL (by decide) H24 (vs := ([46, 46] : List Int32).map fun c => Value.int (StrChars.lo8 c)) (z := (2 : Int32)) ⟨by decide, by decide⟩ (by decide) rfl (g := (mkF m 694 #[iv p0, iv p1, iv p2, iv p3, iv p4, iv c0, iv c1, iv c2, iv c3, iv sl, rv px, L11] [(.ref px)])) rfl (hb hby at_694) (n := 8) (by decide) (by decide) (by decide) (by decide)
    have H77 := hr73.1
    have CH78 := CH25.trans hr73
    have S80 := S27.ext E62
    have S81 := F30.ext E62
    have Z82 := Nat.le_trans Z28 E62.1
    have O83 := O29.ext E62
    have F84 : own_Str Z h56 a54 bd58 [46, 46] := ⟨Ex67, Va69, Co68, ⟨_, _, _, Ar70, Or.inl ⟨rfl, rfl, rfl, by decide⟩⟩, by decide, by decide⟩
    refine Way.by st76 ?_
    show Way _ _ _ _ (T55.setTop (mkF m 696 #[iv p0, iv p1, iv p2, iv p3, iv p4, iv c0, iv c1, iv c2, iv c3, iv sl, rv px, L11] [(.ref a54), (.ref px)]))
    try clear hS10 hk11 hZ12 hown13 H24 CH25 S27 Z28 O29 F30 X32 e43 E62 hr73 st76
    try clear T2 h3 T31
    obtain ⟨cq101, kq102, qa103, qb104, qc105⟩ := isOf hZ65 e61 S80.1
    obtain ⟨_, _, ⟨T85, L87, k88, n89⟩, -, X86, ⟨Lc90, hQ91, l92, y93, z94⟩, st95⟩ := X60.virtualBack hx (y := (⟨"java/lang/String", "equals", "(Ljava/lang/Object;)Z"⟩ : MethodName)) (z := (⟨"java/lang/String", "equals", "(Ljava/lang/Object;)Z"⟩ : MethodName)) hown66 (mvT hZ65 (tw hw 38 rfl)) (mvT hZ65 (tw hw 39 rfl)) (notFace_of_selects (args := #[]) (mvT hZ65 (tw hw 41 rfl))) (mvT hZ65 (tw hw 41 rfl)) (mvT hZ65 (tw hw 40 rfl)) (by decide) (own_eqs (W := 0) (n0 := n0) hZ65 hw SV O83 (cs := cs) (ds := [46, 46]) S80 F84 (by decide) (by decide)) qa103 qc105 (g := (mkF m 696 #[iv p0, iv p1, iv p2, iv p3, iv p4, iv c0, iv c1, iv c2, iv c3, iv sl, rv px, L11] [(.ref a54), (.ref px)])) rfl (by rw [hml]; rfl) (Steps.refl _) (argsL := [(.ref a54)]) (rest := []) (lenOf own_pdEq rfl) rfl (leW rfl) (hb hby at_696) (fun _ _ => ⟨rfl, e61, (leB rfl), (leB rfl)⟩)
    dsimp only [Pt.U, Pt.locs, Pt.cells, Pt.slots] at X86 l92 y93 z94 st95 hQ91
    subst l92 y93 z94
    obtain ⟨rfl, N106, e97⟩ := hQ91
    have N96 := Fr.app N42 N106
    refine Way.to st95 ?_
    show Way _ _ _ _ (T85.setTop (mkF m 699 #[iv p0, iv p1, iv p2, iv p3, iv p4, iv c0, iv c1, iv c2, iv c3, iv sl, rv px, L11] [(.int (if (cs : List Int32) = [46, 46] then (1 : Int32) else 0))]))
    try clear N42 X60 e61 st95 cq101 kq102 qa103 qb104 qc105 N106
    by_cases hq2 : (if (cs : List Int32) = [46, 46] then (1 : Int32) else 0) = (0 : Int32)
    · skip
      have hd2 : ¬ cs = [46, 46] := own_if0 hq2
      refine Way.by (fun _ k => XS.ifYes X86.here hx rfl (pc0 := 699) (pc' := 704) rfl (hb hby at_699) rfl ((if0 .eq _).trans (teq hq2).1) (by decide) (by decide) k) ?_
      show Way _ _ _ _ (T85.setTop (mkF m 704 #[iv p0, iv p1, iv p2, iv p3, iv p4, iv c0, iv c1, iv c2, iv c3, iv sl, rv px, L11] []))
      refine Way.by (fun _ k => XS.aload X86.here hx rfl (hb hby at_704) rfl rfl k) ?_
      show Way _ _ _ _ (T85.setTop (mkF m 706 #[iv p0, iv p1, iv p2, iv p3, iv p4, iv c0, iv c1, iv c2, iv c3, iv sl, rv px, L11] [(.ref px)]))
      obtain ⟨_, _, ⟨T108, L110, k111, n112⟩, -, X109, hS121, hg122, ⟨Lc113, hQ114, l115, y116, z117, hr123⟩, st118⟩ := callSS X86 hx (y := (⟨"com/example/outbox/outbox/QueueName", "of", "(Ljava/lang/String;)Lcom/example/outbox/outbox/QueueName;"⟩ : MethodName)) hown66 (mvT hZ65 (tw hw 49 rfl)) (mvT hZ65 (tw hw 50 rfl)) (mvT hZ65 (tw hw 51 rfl)) (mvT hZ65 (tw hw 52 rfl)) (by decide) (backOfSH (W := 0) (rmOF l Z a0 hw [] px pt cs h56 n0 Z82 S80 hok hln hd1 hd2 O83 SV) hZ65 (tw hw 52 rfl) (tw hw 51 rfl) (by decide) (by decide) hEL H77) (g := (mkF m 706 #[iv p0, iv p1, iv p2, iv p3, iv p4, iv c0, iv c1, iv c2, iv c3, iv sl, rv px, L11] [(.ref px)])) rfl (by rw [hml]; rfl) (argsL := [(.ref px)]) (rest := []) (lenOf pdOF rfl) rfl (leW rfl) (hb hby at_706) (fun _ _ => ⟨rfl, e97, (leB rfl), (leB rfl)⟩)
      dsimp only [Pt.U, Pt.locs, Pt.cells, Pt.slots] at X109 l115 y116 z117 st118 hQ114 hS121 hg122 hr123
      subst l115 y116 z117
      obtain ⟨X124, hS125, hZ126, hown127⟩ := rebS hS63 (by rw [e97]; exact hk64) X109 hS121 hg122 hZ65 hown66
      obtain ⟨x_pq133, rfl, N128, K129, fr_pq132, F_0130, F_1131⟩ := hQ114
      have N119 := Fr.app N96 N128
      have ne134 : px ≠ x_pq133 := Nat.ne_of_lt (Nat.lt_of_lt_of_le S80.lt1 fr_pq132)
      have ne135 : pt ≠ x_pq133 := Nat.ne_of_lt (Nat.lt_of_lt_of_le S80.lt2 fr_pq132)
      have ne136 : a1 ≠ x_pq133 := Nat.ne_of_lt (Nat.lt_of_lt_of_le S81.lt1 fr_pq132)
      have ne137 : bd5 ≠ x_pq133 := Nat.ne_of_lt (Nat.lt_of_lt_of_le S81.lt2 fr_pq132)
      have ne138 : a54 ≠ x_pq133 := Nat.ne_of_lt (Nat.lt_of_lt_of_le F84.lt1 fr_pq132)
      have ne139 : bd58 ≠ x_pq133 := Nat.ne_of_lt (Nat.lt_of_lt_of_le F84.lt2 fr_pq132)
      have nw140 : n0 ≤ x_pq133 := Nat.le_trans Z82 fr_pq132
      have H141 := hr123.1
      have CH142 := CH78.trans hr123
      have S144 := S80.keep K129 nin0 nin0
      have S145 := S81.keep K129 nin0 nin0
      have S146 := F84.keep K129 nin0 nin0
      have Z147 := Nat.le_trans Z82 K129.1
      have O148 := O83.keep K129 all0
      refine Way.to st118 ?_
      show Way _ _ _ _ (T108.setTop (mkF m 709 #[iv p0, iv p1, iv p2, iv p3, iv p4, iv c0, iv c1, iv c2, iv c3, iv sl, rv px, L11] [(.ref x_pq133)]))
      try clear hS63 hk64 hZ65 hown66 H77 CH78 S80 S81 Z82 O83 F84 X86 N96 e97 X109 st118 hS121 hg122 hr123 N128 K129
      try clear T55 h56 T85
      refine Way.by (fun _ k => XS.astoreS X124.here hx rfl (hb hby at_709) rfl rfl rfl rfl h11 k) ?_
      show Way _ _ _ _ (T108.setTop (mkF m 711 #[iv p0, iv p1, iv p2, iv p3, iv p4, iv c0, iv c1, iv c2, iv c3, iv sl, rv px, rv x_pq133] []))
      refine Way.by (fun _ k => XS.aload X124.here hx rfl (hb hby at_711) rfl rfl k) ?_
      show Way _ _ _ _ (T108.setTop (mkF m 713 #[iv p0, iv p1, iv p2, iv p3, iv p4, iv c0, iv c1, iv c2, iv c3, iv sl, rv px, rv x_pq133] [(.ref x_pq133)]))
      obtain ⟨cq165, kq166, qa167, qb168, qc169⟩ := isOf hZ126 rfl F_0130
      obtain ⟨_, _, ⟨T149, L151, k152, n153⟩, -, X150, ⟨Lc154, hQ155, l156, y157, z158⟩, st159⟩ := X124.virtualBack hx (y := (⟨"com/example/outbox/outbox/QueueName", "value", "()Ljava/lang/String;"⟩ : MethodName)) (z := (⟨"com/example/outbox/outbox/QueueName", "value", "()Ljava/lang/String;"⟩ : MethodName)) hown127 (mvT hZ126 (tw hw 110 rfl)) (mvT hZ126 (tw hw 111 rfl)) (notFace_of_selects (args := #[]) (mvT hZ126 (tw hw 113 rfl))) (mvT hZ126 (tw hw 113 rfl)) (mvT hZ126 (tw hw 112 rfl)) (by decide) (backOf (W := 0) (rmQV_ l Z a0 hw [] x_pq133 px T108.heap n0 Z147 F_1131) hZ126 (tw hw 114 rfl) (tw hw 51 rfl) (by decide) (by decide)) qa167 qc169 (g := (mkF m 713 #[iv p0, iv p1, iv p2, iv p3, iv p4, iv c0, iv c1, iv c2, iv c3, iv sl, rv px, rv x_pq133] [(.ref x_pq133)])) rfl (by rw [hml]; rfl) (Steps.refl _) (argsL := []) (rest := []) (lenOf pdQV_ rfl) rfl (leW rfl) (hb hby at_713) (fun _ _ => ⟨rfl, rfl, (leB rfl), (leB rfl)⟩)
      dsimp only [Pt.U, Pt.locs, Pt.cells, Pt.slots] at X150 l156 y157 z158 st159 hQ155
      subst l156 y157 z158
      obtain ⟨rfl, N170, e161⟩ := hQ155
      have N160 := Fr.app N119 N170
      refine Way.to st159 ?_
      show Way _ _ _ _ (T149.setTop (mkF m 716 #[iv p0, iv p1, iv p2, iv p3, iv p4, iv c0, iv c1, iv c2, iv c3, iv sl, rv px, rv x_pq133] [(.ref px)]))
      try clear N119 X124 st159 cq165 kq166 qa167 qb168 qc169 N170
      refine Way.by (fun _ k => XS.aload X150.here hx rfl (hb hby at_716) rfl rfl k) ?_
      show Way _ _ _ _ (T149.setTop (mkF m 718 #[iv p0, iv p1, iv p2, iv p3, iv p4, iv c0, iv c1, iv c2, iv c3, iv sl, rv px, rv x_pq133] [(.ref px), (.ref px)]))
      obtain ⟨cq188, kq189, qa190, qb191, qc192⟩ := isOf hZ126 e161 S144.1
      obtain ⟨_, _, ⟨T172, L174, k175, n176⟩, -, X173, ⟨Lc177, hQ178, l179, y180, z181⟩, st182⟩ := X150.virtualBack hx (y := (⟨"java/lang/String", "equals", "(Ljava/lang/Object;)Z"⟩ : MethodName)) (z := (⟨"java/lang/String", "equals", "(Ljava/lang/Object;)Z"⟩ : MethodName)) hown127 (mvT hZ126 (tw hw 38 rfl)) (mvT hZ126 (tw hw 39 rfl)) (notFace_of_selects (args := #[]) (mvT hZ126 (tw hw 41 rfl))) (mvT hZ126 (tw hw 41 rfl)) (mvT hZ126 (tw hw 40 rfl)) (by decide) (own_eqs (W := 0) (n0 := n0) hZ126 hw SV O148 (cs := cs) (ds := cs) S144 S144 (by decide) (by decide)) qa190 qc192 (g := (mkF m 718 #[iv p0, iv p1, iv p2, iv p3, iv p4, iv c0, iv c1, iv c2, iv c3, iv sl, rv px, rv x_pq133] [(.ref px), (.ref px)])) rfl (by rw [hml]; rfl) (Steps.refl _) (argsL := [(.ref px)]) (rest := []) (lenOf own_pdEq rfl) rfl (leW rfl) (hb hby at_718) (fun _ _ => ⟨rfl, e161, (leB rfl), (leB rfl)⟩)
      dsimp only [Pt.U, Pt.locs, Pt.cells, Pt.slots] at X173 l179 y180 z181 st182 hQ178
      subst l179 y180 z181
      obtain ⟨rfl, N193, e184⟩ := hQ178
      have N183 := Fr.app N160 N193
      refine Way.to st182 ?_
      show Way _ _ _ _ (T172.setTop (mkF m 721 #[iv p0, iv p1, iv p2, iv p3, iv p4, iv c0, iv c1, iv c2, iv c3, iv sl, rv px, rv x_pq133] [(.int (if (cs : List Int32) = cs then (1 : Int32) else 0))]))
      try clear X150 N160 e161 st182 cq188 kq189 qa190 qb191 qc192 N193
      try clear T149
      rw [if_pos rfl]
      show Way _ _ _ _ (T172.setTop (mkF m 721 #[iv p0, iv p1, iv p2, iv p3, iv p4, iv c0, iv c1, iv c2, iv c3, iv sl, rv px, rv x_pq133] [(.int 1)]))
      refine Way.retH (v := (some (.int (nar .boolean (1 : Int32))))) X173 hS125 (by rw [e184]; exact (Nat.le_refl _)) hZ126 hEL hh e184 H141 CH142 hlk (fun h => by rw [Bd.returns] at h; cases h) (fun fs hr => retN X173 hx (t := .boolean) Bd.returns (by simp) (hb hby at_721) hr) ?_ (by decide) (by decide)
      show Q0 n0 _ T172.heap _
      rw [e184]
      exact ⟨rfl, N183⟩
    · skip
      refine Way.by (fun _ k => XS.ifNo X86.here hx rfl (hb hby at_699) rfl ((if0 .eq _).trans (feq hq2).1) k) ?_
      show Way _ _ _ _ (T85.setTop (mkF m 702 #[iv p0, iv p1, iv p2, iv p3, iv p4, iv c0, iv c1, iv c2, iv c3, iv sl, rv px, L11] []))
      refine Way.by (fun _ k => XS.iconst X86.here hx rfl (hb hby at_702) k) ?_
      show Way _ _ _ _ (T85.setTop (mkF m 703 #[iv p0, iv p1, iv p2, iv p3, iv p4, iv c0, iv c1, iv c2, iv c3, iv sl, rv px, L11] [(.int 1)]))
      refine Way.retH (v := (some (.int (nar .boolean (1 : Int32))))) X86 hS63 (by rw [e97]; exact hk64) hZ65 hEL hh e97 H77 CH78 hlk (fun h => by rw [Bd.returns] at h; cases h) (fun fs hr => retN X86 hx (t := .boolean) Bd.returns (by simp) (hb hby at_703) hr) ?_ (by decide) (by decide)
      show Q0 n0 _ T85.heap _
      rw [e97]
      exact ⟨rfl, N96⟩
  · skip
    refine Way.by (fun _ k => XS.ifYes X32.here hx rfl (pc0 := 689) (pc' := 702) rfl (hb hby at_689) rfl ((if0 .ne _).trans (feq hq1).2) (by decide) (by decide) k) ?_
    show Way _ _ _ _ (T31.setTop (mkF m 702 #[iv p0, iv p1, iv p2, iv p3, iv p4, iv c0, iv c1, iv c2, iv c3, iv sl, rv px, L11] []))
    refine Way.by (fun _ k => XS.iconst X32.here hx rfl (hb hby at_702) k) ?_
    show Way _ _ _ _ (T31.setTop (mkF m 703 #[iv p0, iv p1, iv p2, iv p3, iv p4, iv c0, iv c1, iv c2, iv c3, iv sl, rv px, L11] [(.int 1)]))
    refine Way.retH (v := (some (.int (nar .boolean (1 : Int32))))) X32 hS10 (by rw [e43]; exact hk11) hZ12 hEL hh e43 H24 CH25 hlk (fun h => by rw [Bd.returns] at h; cases h) (fun fs hr => retN X32 hx (t := .boolean) Bd.returns (by simp) (hb hby at_703) hr) ?_ (by decide) (by decide)
    show Q0 n0 _ T31.heap _
    rw [e43]
    exact ⟨rfl, N42⟩
set_option maxRecDepth 65536 in
set_option maxHeartbeats 40000000 in
theorem segW4 (l : Launch) (Z : State) (a0 : Array Value) (hw : ∀ d ∈ tables_1, d.before a0 Z = true) (ws : List Jvm.Cond) (p0 p1 p2 p3 p4 : Int32) (h0 : Heap) (n0 : Nat) (Z0 : n0 ≤ h0.size) (O0 : Old Z n0 h0) (SV : own_Env Z)
    (p : Program) (e : Env) (s : State) (m : MethodId) (below : List Frame) (meth : Method) (c : Code) (s₁ : State) (Bd : BodyLoose p l x (head1 (Jvm.Cond.code x code maxLocals ret :: ws) room_1) code maxLocals ret e s m #[(.int p0), (.int p1), (.int p2), (.int p3), (.int p4)] below meth c s₁) (hml : c.maxLocals = 12)
    (vm0 : Vm) (hZ : Z.Warmed39 (s.setVm vm0).vm) (hown : (s.setVm vm0).vm.findClass "com/example/outbox/outbox/QueueNameOfPinLaw" = some m.cls) (k0 : Nat) (hS : s.Since vm0 k0) (hh : s.heap = h0)
    (T : State) (h : Heap) (locs : List Loc) (X : Stand p l e room_1 (s.setVm vm0) m #[(.int p0), (.int p1), (.int p2), (.int p3), (.int p4)] below meth c T locs 1 80) (eT : T.heap = h) (N : Fr n0 locs) (Zh : n0 ≤ h.size) (hk : k0 ≤ h.size) (H : CHv Z own_EL vm0 h) (CH : CHr Z own_EL s.vm h0 vm0 h) (O : Old Z n0 h) (cc0 : Int32) (cc1 : Int32) (cc2 : Int32) (cc3 : Int32) (pa : Addr) (kk : ClassId) (J0 : Arv Z h pa kk .char (80 : Int32) (List.replicate 80 (Value.int (113 : Int32))) (.int 0)) (ok0 : own_ok cc0) (ok1 : own_ok cc1) (ok2 : own_ok cc2) (ok3 : own_ok cc3) (nw_pa : n0 ≤ pa) :
    Way p.tables e below (KQH s Z own_EL (Q0 n0) room_1.cells room_1.slots) (T.setTop (mkF m 644 #[iv p0, iv p1, iv p2, iv p3, iv p4, iv cc0, iv cc1, iv cc2, iv cc3, iv 4, .unset, .unset] [(.ref pa)])) := by
  have hx := Bd.exec
  have hby := Bd.bytes
  have hlk : meth.locks = false := BodyLoose.notSynchronized Bd
  have hnm := (name_of_methodNamed Bd.named Bd.method).1
  have wS : ∀ d ∈ Bundle.stringAtoms, d.before a0 Z = true := fun d hd => hw d (own_wS d hd)
  have hEL : EW Z a0 own_EL := own_EW hw
  have hokL : ∀ c ∈ (([cc0, cc1, cc2] ++ List.replicate 76 (113 : Int32) ++ [cc3]) : List Int32), own_ok c := by
    intro c hc; have o113 : own_ok 113 := Or.inr (Or.inl (by decide)); simp only [List.mem_append, List.mem_cons, List.mem_replicate, List.not_mem_nil, or_false] at hc
    rcases hc with ((rfl | rfl | rfl) | ⟨-, rfl⟩) | rfl <;> assumption
  refine Way.by (fun _ k => XS.astore X.here hx rfl (hb hby at_644) rfl rfl (l' := #[iv p0, iv p1, iv p2, iv p3, iv p4, iv cc0, iv cc1, iv cc2, iv cc3, iv 4, .unset, rv pa]) rfl k) ?_
  show Way _ _ _ _ (T.setTop (mkF m 646 #[iv p0, iv p1, iv p2, iv p3, iv p4, iv cc0, iv cc1, iv cc2, iv cc3, iv 4, .unset, rv pa] []))
  refine Way.by (fun _ k => XS.aload X.here hx rfl (hb hby at_646) rfl rfl k) ?_
  show Way _ _ _ _ (T.setTop (mkF m 648 #[iv p0, iv p1, iv p2, iv p3, iv p4, iv cc0, iv cc1, iv cc2, iv cc3, iv 4, .unset, rv pa] [(.ref pa)]))
  refine Way.by (fun _ k => XS.iconst X.here hx rfl (hb hby at_648) k) ?_
  show Way _ _ _ _ (T.setTop (mkF m 649 #[iv p0, iv p1, iv p2, iv p3, iv p4, iv cc0, iv cc1, iv cc2, iv cc3, iv 4, .unset, rv pa] [(.int 0), (.ref pa)]))
  refine Way.by (fun _ k => XS.iload X.here hx rfl (hb hby at_649) rfl k) ?_
  show Way _ _ _ _ (T.setTop (mkF m 651 #[iv p0, iv p1, iv p2, iv p3, iv p4, iv cc0, iv cc1, iv cc2, iv cc3, iv 4, .unset, rv pa] [(.int cc0), (.int 0), (.ref pa)]))
  obtain ⟨c1, A2, q3, S4, M5, H6, U7⟩ := id J0
  obtain ⟨T8, h9, X10, e11, W12, st13⟩ := stC X hx hZ eT A2 (j := (0 : Int32)) (inb_of S4 ⟨(by decide), (by decide)⟩) (g := (mkF m 651 #[iv p0, iv p1, iv p2, iv p3, iv p4, iv cc0, iv cc1, iv cc2, iv cc3, iv 4, .unset, rv pa] [(.int cc0), (.int 0), (.ref pa)])) rfl rfl (hb hby at_651)
  have N14 := Fr.snoc X10 N nw_pa
  have V15 : Arv Z h9 pa kk .char (80 : Int32) ([(.int (nar .char cc0))] ++ List.replicate 79 (Value.int (113 : Int32))) (.int 0) := Arv.set A2 q3 S4 M5 H6 U7 (fits_nar_char _) W12 0 rfl (leB rfl)
  have nq17 : nar .char cc0 = cc0 := own_ok.nar ok0
  have V16 : Arv Z h9 pa kk .char (80 : Int32) ([(.int cc0)] ++ List.replicate 79 (Value.int (113 : Int32))) (.int 0) := by rw [nq17] at V15; exact V15
  have hr20 := CHr.wr W12 (Safe.arv hZ.alike J0 (by decide)) H
  have H18 := hr20.1
  have CH19 := CH.trans hr20
  have Z21 : n0 ≤ h9.size := by rw [W12.size]; exact Zh
  have hk22 := Nat.le_trans hk (Nat.le_of_eq W12.size.symm)
  have O23 := O.wr W12 nw_pa
  refine Way.by st13 ?_
  show Way _ _ _ _ (T8.setTop (mkF m 652 #[iv p0, iv p1, iv p2, iv p3, iv p4, iv cc0, iv cc1, iv cc2, iv cc3, iv 4, .unset, rv pa] []))
  try clear c1 A2 q3 S4 M5 H6 U7 W12 st13 V15 hr20
  refine Way.by (fun _ k => XS.aload X10.here hx rfl (hb hby at_652) rfl rfl k) ?_
  show Way _ _ _ _ (T8.setTop (mkF m 654 #[iv p0, iv p1, iv p2, iv p3, iv p4, iv cc0, iv cc1, iv cc2, iv cc3, iv 4, .unset, rv pa] [(.ref pa)]))
  refine Way.by (fun _ k => XS.iconst X10.here hx rfl (hb hby at_654) k) ?_
  show Way _ _ _ _ (T8.setTop (mkF m 655 #[iv p0, iv p1, iv p2, iv p3, iv p4, iv cc0, iv cc1, iv cc2, iv cc3, iv 4, .unset, rv pa] [(.int 1), (.ref pa)]))
  refine Way.by (fun _ k => XS.iload X10.here hx rfl (hb hby at_655) rfl k) ?_
  show Way _ _ _ _ (T8.setTop (mkF m 657 #[iv p0, iv p1, iv p2, iv p3, iv p4, iv cc0, iv cc1, iv cc2, iv cc3, iv 4, .unset, rv pa] [(.int cc1), (.int 1), (.ref pa)]))
  obtain ⟨c24, A25, q26, S27, M28, H29, U30⟩ := id V16
  obtain ⟨T31, h32, X33, e34, W35, st36⟩ := stC X10 hx hZ e11 A25 (j := (1 : Int32)) (inb_of S27 ⟨(by decide), (by decide)⟩) (g := (mkF m 657 #[iv p0, iv p1, iv p2, iv p3, iv p4, iv cc0, iv cc1, iv cc2, iv cc3, iv 4, .unset, rv pa] [(.int cc1), (.int 1), (.ref pa)])) rfl rfl (hb hby at_657)
  have N37 := Fr.snoc X33 N14 nw_pa
  have V38 : Arv Z h32 pa kk .char (80 : Int32) ([(.int cc0), (.int (nar .char cc1))] ++ List.replicate 78 (Value.int (113 : Int32))) (.int 0) := Arv.set A25 q26 S27 M28 H29 U30 (fits_nar_char _) W35 1 rfl (leB rfl)
  have nq40 : nar .char cc1 = cc1 := own_ok.nar ok1
  have V39 : Arv Z h32 pa kk .char (80 : Int32) ([(.int cc0), (.int cc1)] ++ List.replicate 78 (Value.int (113 : Int32))) (.int 0) := by rw [nq40] at V38; exact V38
  have hr43 := CHr.wr W35 (Safe.arv hZ.alike V16 (by decide)) H18
  have H41 := hr43.1
  have CH42 := CH19.trans hr43
  have Z44 : n0 ≤ h32.size := by rw [W35.size]; exact Z21
  have hk45 := Nat.le_trans hk22 (Nat.le_of_eq W35.size.symm)
  have O46 := O23.wr W35 nw_pa
  refine Way.by st36 ?_
  show Way _ _ _ _ (T31.setTop (mkF m 658 #[iv p0, iv p1, iv p2, iv p3, iv p4, iv cc0, iv cc1, iv cc2, iv cc3, iv 4, .unset, rv pa] []))
  try clear X10 e11 N14 V16 H18 CH19 Z21 hk22 O23 c24 A25 q26 S27 M28 H29 U30 W35 st36 V38 hr43
  try clear T8 h9
  refine Way.by (fun _ k => XS.aload X33.here hx rfl (hb hby at_658) rfl rfl k) ?_
  show Way _ _ _ _ (T31.setTop (mkF m 660 #[iv p0, iv p1, iv p2, iv p3, iv p4, iv cc0, iv cc1, iv cc2, iv cc3, iv 4, .unset, rv pa] [(.ref pa)]))
  refine Way.by (fun _ k => XS.iconst X33.here hx rfl (hb hby at_660) k) ?_
  show Way _ _ _ _ (T31.setTop (mkF m 661 #[iv p0, iv p1, iv p2, iv p3, iv p4, iv cc0, iv cc1, iv cc2, iv cc3, iv 4, .unset, rv pa] [(.int 2), (.ref pa)]))
  refine Way.by (fun _ k => XS.iload X33.here hx rfl (hb hby at_661) rfl k) ?_
  show Way _ _ _ _ (T31.setTop (mkF m 663 #[iv p0, iv p1, iv p2, iv p3, iv p4, iv cc0, iv cc1, iv cc2, iv cc3, iv 4, .unset, rv pa] [(.int cc2), (.int 2), (.ref pa)]))
  obtain ⟨c47, A48, q49, S50, M51, H52, U53⟩ := id V39
  obtain ⟨T54, h55, X56, e57, W58, st59⟩ := stC X33 hx hZ e34 A48 (j := (2 : Int32)) (inb_of S50 ⟨(by decide), (by decide)⟩) (g := (mkF m 663 #[iv p0, iv p1, iv p2, iv p3, iv p4, iv cc0, iv cc1, iv cc2, iv cc3, iv 4, .unset, rv pa] [(.int cc2), (.int 2), (.ref pa)])) rfl rfl (hb hby at_663)
  have N60 := Fr.snoc X56 N37 nw_pa
  have V61 : Arv Z h55 pa kk .char (80 : Int32) ([(.int cc0), (.int cc1), (.int (nar .char cc2))] ++ List.replicate 77 (Value.int (113 : Int32))) (.int 0) := Arv.set A48 q49 S50 M51 H52 U53 (fits_nar_char _) W58 2 rfl (leB rfl)
  have nq63 : nar .char cc2 = cc2 := own_ok.nar ok2
  have V62 : Arv Z h55 pa kk .char (80 : Int32) ([(.int cc0), (.int cc1), (.int cc2)] ++ List.replicate 77 (Value.int (113 : Int32))) (.int 0) := by rw [nq63] at V61; exact V61
  have hr66 := CHr.wr W58 (Safe.arv hZ.alike V39 (by decide)) H41
  have H64 := hr66.1
  have CH65 := CH42.trans hr66
  have Z67 : n0 ≤ h55.size := by rw [W58.size]; exact Z44
  have hk68 := Nat.le_trans hk45 (Nat.le_of_eq W58.size.symm)
  have O69 := O46.wr W58 nw_pa
  refine Way.by st59 ?_
  show Way _ _ _ _ (T54.setTop (mkF m 664 #[iv p0, iv p1, iv p2, iv p3, iv p4, iv cc0, iv cc1, iv cc2, iv cc3, iv 4, .unset, rv pa] []))
  try clear X33 e34 N37 V39 H41 CH42 Z44 hk45 O46 c47 A48 q49 S50 M51 H52 U53 W58 st59 V61 hr66
  try clear T31 h32
  refine Way.by (fun _ k => XS.aload X56.here hx rfl (hb hby at_664) rfl rfl k) ?_
  show Way _ _ _ _ (T54.setTop (mkF m 666 #[iv p0, iv p1, iv p2, iv p3, iv p4, iv cc0, iv cc1, iv cc2, iv cc3, iv 4, .unset, rv pa] [(.ref pa)]))
  refine Way.by (fun _ k => XS.bipush X56.here hx rfl (hb hby at_666) k) ?_
  show Way _ _ _ _ (T54.setTop (mkF m 668 #[iv p0, iv p1, iv p2, iv p3, iv p4, iv cc0, iv cc1, iv cc2, iv cc3, iv 4, .unset, rv pa] [(.int 79), (.ref pa)]))
  refine Way.by (fun _ k => XS.iload X56.here hx rfl (hb hby at_668) rfl k) ?_
  show Way _ _ _ _ (T54.setTop (mkF m 670 #[iv p0, iv p1, iv p2, iv p3, iv p4, iv cc0, iv cc1, iv cc2, iv cc3, iv 4, .unset, rv pa] [(.int cc3), (.int 79), (.ref pa)]))
  obtain ⟨c70, A71, q72, S73, M74, H75, U76⟩ := id V62
  obtain ⟨T77, h78, X79, e80, W81, st82⟩ := stC X56 hx hZ e57 A71 (j := (79 : Int32)) (inb_of S73 ⟨(by decide), (by decide)⟩) (g := (mkF m 670 #[iv p0, iv p1, iv p2, iv p3, iv p4, iv cc0, iv cc1, iv cc2, iv cc3, iv 4, .unset, rv pa] [(.int cc3), (.int 79), (.ref pa)])) rfl rfl (hb hby at_670)
  have N83 := Fr.snoc X79 N60 nw_pa
  have V84 : Arv Z h78 pa kk .char (80 : Int32) ([(.int cc0), (.int cc1), (.int cc2)] ++ List.replicate 76 (Value.int (113 : Int32)) ++ [(.int (nar .char cc3))]) (.int 0) := Arv.set A71 q72 S73 M74 H75 U76 (fits_nar_char _) W81 79 rfl (leB rfl)
  have nq86 : nar .char cc3 = cc3 := own_ok.nar ok3
  have V85 : Arv Z h78 pa kk .char (80 : Int32) ([(.int cc0), (.int cc1), (.int cc2)] ++ List.replicate 76 (Value.int (113 : Int32)) ++ [(.int cc3)]) (.int 0) := by rw [nq86] at V84; exact V84
  have hr89 := CHr.wr W81 (Safe.arv hZ.alike V62 (by decide)) H64
  have H87 := hr89.1
  have CH88 := CH65.trans hr89
  have Z90 : n0 ≤ h78.size := by rw [W81.size]; exact Z67
  have hk91 := Nat.le_trans hk68 (Nat.le_of_eq W81.size.symm)
  have O92 := O69.wr W81 nw_pa
  refine Way.by st82 ?_
  show Way _ _ _ _ (T77.setTop (mkF m 671 #[iv p0, iv p1, iv p2, iv p3, iv p4, iv cc0, iv cc1, iv cc2, iv cc3, iv 4, .unset, rv pa] []))
  try clear X56 e57 N60 V62 H64 CH65 Z67 hk68 O69 c70 A71 q72 S73 M74 H75 U76 W81 st82 V84 hr89
  try clear T54 h55
  obtain ⟨T93, h94, X95, e96, E97, A98, D99, -, st100⟩ := newO X79 hx hZ hown (tw hw 5 rfl) (tw hw 6 rfl) (tw hw 7 rfl) e80 (g := (mkF m 671 #[iv p0, iv p1, iv p2, iv p3, iv p4, iv cc0, iv cc1, iv cc2, iv cc3, iv 4, .unset, rv pa] [])) rfl (hb hby at_671) (by decide) (by decide)
  obtain ⟨a101, g102⟩ : ∃ z, z = h78.size := ⟨_, rfl⟩
  rw [← g102] at A98 D99 st100
  have ne103 : pa ≠ a101 := Nat.ne_of_lt (Nat.lt_of_lt_of_eq V85.lt g102.symm)
  have nw104 : n0 ≤ a101 := Nat.le_trans Z90 (Nat.le_of_eq g102.symm)
  have Sf105 : Safe Z own_EL vm0 h78 a101 := Safe.new (Nat.le_of_eq g102.symm)
  have hr108 := CHr.ext E97 H87
  have Sf109 := Safe.ext E97 H87 Sf105
  have H106 := hr108.1
  have CH107 := CH88.trans hr108
  have A110 := V85.ext E97
  have Z111 := Nat.le_trans Z90 E97.1
  have hk112 := Nat.le_trans hk91 E97.1
  have O113 := O92.ext E97
  have F114 : Fld Z h94 a101 "java/lang/String" "coder" "B" (.int 0) := D99 (Or.inr (tw hw 32 rfl)) (ty := .byte) (by decide)
  have F115 : Fld Z h94 a101 "java/lang/String" "value" "[B" .null := D99 (Or.inr (tw hw 34 rfl)) (ty := (.array .byte)) (by decide)
  refine Way.by st100 ?_
  show Way _ _ _ _ (T93.setTop (mkF m 674 #[iv p0, iv p1, iv p2, iv p3, iv p4, iv cc0, iv cc1, iv cc2, iv cc3, iv 4, .unset, rv pa] [(.ref a101)]))
  try clear X79 e80 V85 H87 CH88 Z90 hk91 O92 E97 D99 st100 hr108
  try clear T77 h78
  refine Way.by (fun _ k => XS.dup X95.here hx rfl (hb hby at_674) rfl rfl k) ?_
  show Way _ _ _ _ (T93.setTop (mkF m 675 #[iv p0, iv p1, iv p2, iv p3, iv p4, iv cc0, iv cc1, iv cc2, iv cc3, iv 4, .unset, rv pa] [(.ref a101), (.ref a101)]))
  refine Way.by (fun _ k => XS.aload X95.here hx rfl (hb hby at_675) rfl rfl k) ?_
  show Way _ _ _ _ (T93.setTop (mkF m 677 #[iv p0, iv p1, iv p2, iv p3, iv p4, iv cc0, iv cc1, iv cc2, iv cc3, iv 4, .unset, rv pa] [(.ref pa), (.ref a101), (.ref a101)]))
  have Vm116 : Arv Z h94 pa kk .char (80 : Int32) (List.map Value.int ([cc0, cc1, cc2] ++ List.replicate 76 (113 : Int32) ++ [cc3])) (.int 0) := by rw [show List.map Value.int (([cc0, cc1, cc2] ++ List.replicate 76 (113 : Int32) ++ [cc3]) : List Int32) = ([(.int cc0), (.int cc1), (.int cc2)] ++ List.replicate 76 (Value.int (113 : Int32)) ++ [(.int cc3)]) from by simp]; exact A110
  have hp117 : ∀ c ∈ (([cc0, cc1, cc2] ++ List.replicate 76 (113 : Int32) ++ [cc3]) : List Int32), ¬ c < 0 ∧ ¬ (255 : Int32) < c := fun c hc => (hokL c hc).b
  obtain ⟨_, _, ⟨T118, L120, k121, n122⟩, -, X119, ⟨Lc123, hQ124, l125, y126, z127⟩, st128⟩ := X95.specialBack hx (y := (⟨"java/lang/String", "<init>", "([C)V"⟩ : MethodName)) rfl hown (mvT hZ (tw hw 9 rfl)) (mvT hZ (tw hw 10 rfl)) (mvT hZ (tw hw 11 rfl)) (by decide) (own_new (W := 1) (n0 := n0) hZ hw SV O113 (cs := ([cc0, cc1, cc2] ++ List.replicate 76 (113 : Int32) ++ [cc3])) (n := 80) nw104 Z111 A98 F115 F114 Vm116 (by simp) rfl (by decide) (by decide) hp117 (by decide) (by decide)) (g := (mkF m 677 #[iv p0, iv p1, iv p2, iv p3, iv p4, iv cc0, iv cc1, iv cc2, iv cc3, iv 4, .unset, rv pa] [(.ref pa), (.ref a101), (.ref a101)])) rfl (by rw [hml]; rfl) (Steps.refl _) (a := a101) (argsL := [(.ref pa)]) (rest := [(.ref a101)]) (lenOf own_pdNew rfl) rfl (leW rfl) (hb hby at_677) (fun _ _ => ⟨rfl, e96, (leB rfl), (leB rfl)⟩)
  dsimp only [Pt.U, Pt.locs, Pt.cells, Pt.slots] at X119 l125 y126 z127 st128 hQ124
  subst l125 y126 z127
  obtain ⟨rfl, N134, K135, x_t138, fr_t137, F136⟩ := hQ124
  have N129 := Fr.app N83 N134
  have ne139 : pa ≠ x_t138 := Nat.ne_of_lt (Nat.lt_of_lt_of_le A110.lt fr_t137)
  have ne140 : a101 ≠ x_t138 := Nat.ne_of_lt (Nat.lt_of_lt_of_le A98.lt fr_t137)
  have nw141 : n0 ≤ x_t138 := Nat.le_trans Z111 fr_t137
  have Sf142 : Safe Z own_EL vm0 h94 x_t138 := Safe.new fr_t137
  have hr145 := CHr.keep K135 (sfS Sf109 sf0) H106
  have Sf146 := Safe.keep K135 (sfS Sf109 sf0) H106 Sf109
  have Sf147 := Safe.keep K135 (sfS Sf109 sf0) H106 Sf142
  have H143 := hr145.1
  have CH144 := CH107.trans hr145
  have A148 := A110.keep K135 (ninS ne103 nin0)
  have E149 := A98.keep K135
  have Z150 := Nat.le_trans Z111 K135.1
  have hk151 := Nat.le_trans hk112 K135.1
  have O152 := O113.keep K135 (allS nw104 all0)
  refine Way.to st128 ?_
  show Way _ _ _ _ (T118.setTop (mkF m 680 #[iv p0, iv p1, iv p2, iv p3, iv p4, iv cc0, iv cc1, iv cc2, iv cc3, iv 4, .unset, rv pa] [(.ref a101)]))
  try clear N83 X95 e96 A98 H106 CH107 Sf109 A110 Z111 hk112 O113 F114 F115 st128 N134 K135 hr145
  try clear T93 h94
  refine Way.by (fun _ k => XS.astore X119.here hx rfl (hb hby at_680) rfl rfl (l' := #[iv p0, iv p1, iv p2, iv p3, iv p4, iv cc0, iv cc1, iv cc2, iv cc3, iv 4, rv a101, rv pa]) rfl k) ?_
  show Way _ _ _ _ (T118.setTop (mkF m 682 #[iv p0, iv p1, iv p2, iv p3, iv p4, iv cc0, iv cc1, iv cc2, iv cc3, iv 4, rv a101, rv pa] []))
  exact seg682 l Z a0 hw ws p0 p1 p2 p3 p4 h0 n0 Z0 O0 SV p e s m below meth c s₁ Bd hml _ hZ hown _ hS hh T118 T118.heap _ (X119.mono (by decide) (by decide)) rfl N129 Z150 hk151 H143 CH144 O152 cc0 cc1 cc2 cc3 (4 : Int32) a101 x_t138 ([cc0, cc1, cc2] ++ List.replicate 76 (113 : Int32) ++ [cc3]) (.val (.ref pa)) F136 hokL ⟨by simp, by simp⟩ (One.val rfl)
set_option maxRecDepth 65536 in
set_option maxHeartbeats 40000000 in
theorem segW3 (l : Launch) (Z : State) (a0 : Array Value) (hw : ∀ d ∈ tables_1, d.before a0 Z = true) (ws : List Jvm.Cond) (p0 p1 p2 p3 p4 : Int32) (h0 : Heap) (n0 : Nat) (Z0 : n0 ≤ h0.size) (O0 : Old Z n0 h0) (SV : own_Env Z)
    (p : Program) (e : Env) (s : State) (m : MethodId) (below : List Frame) (meth : Method) (c : Code) (s₁ : State) (Bd : BodyLoose p l x (head1 (Jvm.Cond.code x code maxLocals ret :: ws) room_1) code maxLocals ret e s m #[(.int p0), (.int p1), (.int p2), (.int p3), (.int p4)] below meth c s₁) (hml : c.maxLocals = 12)
    (vm0 : Vm) (hZ : Z.Warmed39 (s.setVm vm0).vm) (hown : (s.setVm vm0).vm.findClass "com/example/outbox/outbox/QueueNameOfPinLaw" = some m.cls) (k0 : Nat) (hS : s.Since vm0 k0) (hh : s.heap = h0)
    (T : State) (h : Heap) (locs : List Loc) (X : Stand p l e room_1 (s.setVm vm0) m #[(.int p0), (.int p1), (.int p2), (.int p3), (.int p4)] below meth c T locs 1 80) (eT : T.heap = h) (N : Fr n0 locs) (Zh : n0 ≤ h.size) (hk : k0 ≤ h.size) (H : CHv Z own_EL vm0 h) (CH : CHr Z own_EL s.vm h0 vm0 h) (O : Old Z n0 h) (cc0 : Int32) (cc1 : Int32) (cc2 : Int32) (cc3 : Int32) (pa : Addr) (kk : ClassId) (J0 : Arv Z h pa kk .char (80 : Int32) (List.replicate 60 (Value.int (113 : Int32))) (.int 0)) (ok0 : own_ok cc0) (ok1 : own_ok cc1) (ok2 : own_ok cc2) (ok3 : own_ok cc3) (nw_pa : n0 ≤ pa) :
    Way p.tables e below (KQH s Z own_EL (Q0 n0) room_1.cells room_1.slots) (T.setTop (mkF m 524 #[iv p0, iv p1, iv p2, iv p3, iv p4, iv cc0, iv cc1, iv cc2, iv cc3, iv 4, .unset, .unset] [(.ref pa)])) := by
  have hx := Bd.exec
  have hby := Bd.bytes
  have hlk : meth.locks = false := BodyLoose.notSynchronized Bd
  have hnm := (name_of_methodNamed Bd.named Bd.method).1
  have wS : ∀ d ∈ Bundle.stringAtoms, d.before a0 Z = true := fun d hd => hw d (own_wS d hd)
  have hEL : EW Z a0 own_EL := own_EW hw
  refine Way.by (fun _ k => XS.dup X.here hx rfl (hb hby at_524) rfl rfl k) ?_
  show Way _ _ _ _ (T.setTop (mkF m 525 #[iv p0, iv p1, iv p2, iv p3, iv p4, iv cc0, iv cc1, iv cc2, iv cc3, iv 4, .unset, .unset] [(.ref pa), (.ref pa)]))
  refine Way.by (fun _ k => XS.bipush X.here hx rfl (hb hby at_525) k) ?_
  show Way _ _ _ _ (T.setTop (mkF m 527 #[iv p0, iv p1, iv p2, iv p3, iv p4, iv cc0, iv cc1, iv cc2, iv cc3, iv 4, .unset, .unset] [(.int 60), (.ref pa), (.ref pa)]))
  refine Way.by (fun _ k => XS.bipush X.here hx rfl (hb hby at_527) k) ?_
  show Way _ _ _ _ (T.setTop (mkF m 529 #[iv p0, iv p1, iv p2, iv p3, iv p4, iv cc0, iv cc1, iv cc2, iv cc3, iv 4, .unset, .unset] [(.int 113), (.int 60), (.ref pa), (.ref pa)]))
  have V1 : Arv Z h pa kk .char (80 : Int32) (List.replicate 60 (Value.int (113 : Int32)) ++ [(.int 0)]) (.int 0) := J0.pad (pad_rep (List.replicate 60 (Value.int (113 : Int32))) (.int 0) 1)
  obtain ⟨c2, A3, q4, S5, M6, H7, U8⟩ := id V1
  obtain ⟨T9, h10, X11, e12, W13, st14⟩ := stC X hx hZ eT A3 (j := (60 : Int32)) (inb_of S5 ⟨(by decide), (by decide)⟩) (g := (mkF m 529 #[iv p0, iv p1, iv p2, iv p3, iv p4, iv cc0, iv cc1, iv cc2, iv cc3, iv 4, .unset, .unset] [(.int 113), (.int 60), (.ref pa), (.ref pa)])) rfl rfl (hb hby at_529)
  have N15 := Fr.snoc X11 N nw_pa
  have V16 : Arv Z h10 pa kk .char (80 : Int32) (List.replicate 61 (Value.int (113 : Int32))) (.int 0) := Arv.set A3 q4 S5 M6 H7 U8 rfl W13 60 rfl (leB rfl)
  have hr19 := CHr.wr W13 (Safe.arv hZ.alike J0 (by decide)) H
  have H17 := hr19.1
  have CH18 := CH.trans hr19
  have Z20 : n0 ≤ h10.size := by rw [W13.size]; exact Zh
  have hk21 := Nat.le_trans hk (Nat.le_of_eq W13.size.symm)
  have O22 := O.wr W13 nw_pa
  refine Way.by st14 ?_
  show Way _ _ _ _ (T9.setTop (mkF m 530 #[iv p0, iv p1, iv p2, iv p3, iv p4, iv cc0, iv cc1, iv cc2, iv cc3, iv 4, .unset, .unset] [(.ref pa)]))
  try clear V1 c2 A3 q4 S5 M6 H7 U8 W13 st14 hr19
  refine Way.by (fun _ k => XS.dup X11.here hx rfl (hb hby at_530) rfl rfl k) ?_
  show Way _ _ _ _ (T9.setTop (mkF m 531 #[iv p0, iv p1, iv p2, iv p3, iv p4, iv cc0, iv cc1, iv cc2, iv cc3, iv 4, .unset, .unset] [(.ref pa), (.ref pa)]))
  refine Way.by (fun _ k => XS.bipush X11.here hx rfl (hb hby at_531) k) ?_
  show Way _ _ _ _ (T9.setTop (mkF m 533 #[iv p0, iv p1, iv p2, iv p3, iv p4, iv cc0, iv cc1, iv cc2, iv cc3, iv 4, .unset, .unset] [(.int 61), (.ref pa), (.ref pa)]))
  refine Way.by (fun _ k => XS.bipush X11.here hx rfl (hb hby at_533) k) ?_
  show Way _ _ _ _ (T9.setTop (mkF m 535 #[iv p0, iv p1, iv p2, iv p3, iv p4, iv cc0, iv cc1, iv cc2, iv cc3, iv 4, .unset, .unset] [(.int 113), (.int 61), (.ref pa), (.ref pa)]))
  have V23 : Arv Z h10 pa kk .char (80 : Int32) (List.replicate 61 (Value.int (113 : Int32)) ++ [(.int 0)]) (.int 0) := V16.pad (pad_rep (List.replicate 61 (Value.int (113 : Int32))) (.int 0) 1)
  obtain ⟨c24, A25, q26, S27, M28, H29, U30⟩ := id V23
  obtain ⟨T31, h32, X33, e34, W35, st36⟩ := stC X11 hx hZ e12 A25 (j := (61 : Int32)) (inb_of S27 ⟨(by decide), (by decide)⟩) (g := (mkF m 535 #[iv p0, iv p1, iv p2, iv p3, iv p4, iv cc0, iv cc1, iv cc2, iv cc3, iv 4, .unset, .unset] [(.int 113), (.int 61), (.ref pa), (.ref pa)])) rfl rfl (hb hby at_535)
  have N37 := Fr.snoc X33 N15 nw_pa
  have V38 : Arv Z h32 pa kk .char (80 : Int32) (List.replicate 62 (Value.int (113 : Int32))) (.int 0) := Arv.set A25 q26 S27 M28 H29 U30 rfl W35 61 rfl (leB rfl)
  have hr41 := CHr.wr W35 (Safe.arv hZ.alike V16 (by decide)) H17
  have H39 := hr41.1
  have CH40 := CH18.trans hr41
  have Z42 : n0 ≤ h32.size := by rw [W35.size]; exact Z20
  have hk43 := Nat.le_trans hk21 (Nat.le_of_eq W35.size.symm)
  have O44 := O22.wr W35 nw_pa
  refine Way.by st36 ?_
  show Way _ _ _ _ (T31.setTop (mkF m 536 #[iv p0, iv p1, iv p2, iv p3, iv p4, iv cc0, iv cc1, iv cc2, iv cc3, iv 4, .unset, .unset] [(.ref pa)]))
  try clear X11 e12 N15 V16 H17 CH18 Z20 hk21 O22 V23 c24 A25 q26 S27 M28 H29 U30 W35 st36 hr41
  try clear T9 h10
  refine Way.by (fun _ k => XS.dup X33.here hx rfl (hb hby at_536) rfl rfl k) ?_
  show Way _ _ _ _ (T31.setTop (mkF m 537 #[iv p0, iv p1, iv p2, iv p3, iv p4, iv cc0, iv cc1, iv cc2, iv cc3, iv 4, .unset, .unset] [(.ref pa), (.ref pa)]))
  refine Way.by (fun _ k => XS.bipush X33.here hx rfl (hb hby at_537) k) ?_
  show Way _ _ _ _ (T31.setTop (mkF m 539 #[iv p0, iv p1, iv p2, iv p3, iv p4, iv cc0, iv cc1, iv cc2, iv cc3, iv 4, .unset, .unset] [(.int 62), (.ref pa), (.ref pa)]))
  refine Way.by (fun _ k => XS.bipush X33.here hx rfl (hb hby at_539) k) ?_
  show Way _ _ _ _ (T31.setTop (mkF m 541 #[iv p0, iv p1, iv p2, iv p3, iv p4, iv cc0, iv cc1, iv cc2, iv cc3, iv 4, .unset, .unset] [(.int 113), (.int 62), (.ref pa), (.ref pa)]))
  have V45 : Arv Z h32 pa kk .char (80 : Int32) (List.replicate 62 (Value.int (113 : Int32)) ++ [(.int 0)]) (.int 0) := V38.pad (pad_rep (List.replicate 62 (Value.int (113 : Int32))) (.int 0) 1)
  obtain ⟨c46, A47, q48, S49, M50, H51, U52⟩ := id V45
  obtain ⟨T53, h54, X55, e56, W57, st58⟩ := stC X33 hx hZ e34 A47 (j := (62 : Int32)) (inb_of S49 ⟨(by decide), (by decide)⟩) (g := (mkF m 541 #[iv p0, iv p1, iv p2, iv p3, iv p4, iv cc0, iv cc1, iv cc2, iv cc3, iv 4, .unset, .unset] [(.int 113), (.int 62), (.ref pa), (.ref pa)])) rfl rfl (hb hby at_541)
  have N59 := Fr.snoc X55 N37 nw_pa
  have V60 : Arv Z h54 pa kk .char (80 : Int32) (List.replicate 63 (Value.int (113 : Int32))) (.int 0) := Arv.set A47 q48 S49 M50 H51 U52 rfl W57 62 rfl (leB rfl)
  have hr63 := CHr.wr W57 (Safe.arv hZ.alike V38 (by decide)) H39
  have H61 := hr63.1
  have CH62 := CH40.trans hr63
  have Z64 : n0 ≤ h54.size := by rw [W57.size]; exact Z42
  have hk65 := Nat.le_trans hk43 (Nat.le_of_eq W57.size.symm)
  have O66 := O44.wr W57 nw_pa
  refine Way.by st58 ?_
  show Way _ _ _ _ (T53.setTop (mkF m 542 #[iv p0, iv p1, iv p2, iv p3, iv p4, iv cc0, iv cc1, iv cc2, iv cc3, iv 4, .unset, .unset] [(.ref pa)]))
  try clear X33 e34 N37 V38 H39 CH40 Z42 hk43 O44 V45 c46 A47 q48 S49 M50 H51 U52 W57 st58 hr63
  try clear T31 h32
  refine Way.by (fun _ k => XS.dup X55.here hx rfl (hb hby at_542) rfl rfl k) ?_
  show Way _ _ _ _ (T53.setTop (mkF m 543 #[iv p0, iv p1, iv p2, iv p3, iv p4, iv cc0, iv cc1, iv cc2, iv cc3, iv 4, .unset, .unset] [(.ref pa), (.ref pa)]))
  refine Way.by (fun _ k => XS.bipush X55.here hx rfl (hb hby at_543) k) ?_
  show Way _ _ _ _ (T53.setTop (mkF m 545 #[iv p0, iv p1, iv p2, iv p3, iv p4, iv cc0, iv cc1, iv cc2, iv cc3, iv 4, .unset, .unset] [(.int 63), (.ref pa), (.ref pa)]))
  refine Way.by (fun _ k => XS.bipush X55.here hx rfl (hb hby at_545) k) ?_
  show Way _ _ _ _ (T53.setTop (mkF m 547 #[iv p0, iv p1, iv p2, iv p3, iv p4, iv cc0, iv cc1, iv cc2, iv cc3, iv 4, .unset, .unset] [(.int 113), (.int 63), (.ref pa), (.ref pa)]))
  have V67 : Arv Z h54 pa kk .char (80 : Int32) (List.replicate 63 (Value.int (113 : Int32)) ++ [(.int 0)]) (.int 0) := V60.pad (pad_rep (List.replicate 63 (Value.int (113 : Int32))) (.int 0) 1)
  obtain ⟨c68, A69, q70, S71, M72, H73, U74⟩ := id V67
  obtain ⟨T75, h76, X77, e78, W79, st80⟩ := stC X55 hx hZ e56 A69 (j := (63 : Int32)) (inb_of S71 ⟨(by decide), (by decide)⟩) (g := (mkF m 547 #[iv p0, iv p1, iv p2, iv p3, iv p4, iv cc0, iv cc1, iv cc2, iv cc3, iv 4, .unset, .unset] [(.int 113), (.int 63), (.ref pa), (.ref pa)])) rfl rfl (hb hby at_547)
  have N81 := Fr.snoc X77 N59 nw_pa
  have V82 : Arv Z h76 pa kk .char (80 : Int32) (List.replicate 64 (Value.int (113 : Int32))) (.int 0) := Arv.set A69 q70 S71 M72 H73 U74 rfl W79 63 rfl (leB rfl)
  have hr85 := CHr.wr W79 (Safe.arv hZ.alike V60 (by decide)) H61
  have H83 := hr85.1
  have CH84 := CH62.trans hr85
  have Z86 : n0 ≤ h76.size := by rw [W79.size]; exact Z64
  have hk87 := Nat.le_trans hk65 (Nat.le_of_eq W79.size.symm)
  have O88 := O66.wr W79 nw_pa
  refine Way.by st80 ?_
  show Way _ _ _ _ (T75.setTop (mkF m 548 #[iv p0, iv p1, iv p2, iv p3, iv p4, iv cc0, iv cc1, iv cc2, iv cc3, iv 4, .unset, .unset] [(.ref pa)]))
  try clear X55 e56 N59 V60 H61 CH62 Z64 hk65 O66 V67 c68 A69 q70 S71 M72 H73 U74 W79 st80 hr85
  try clear T53 h54
  refine Way.by (fun _ k => XS.dup X77.here hx rfl (hb hby at_548) rfl rfl k) ?_
  show Way _ _ _ _ (T75.setTop (mkF m 549 #[iv p0, iv p1, iv p2, iv p3, iv p4, iv cc0, iv cc1, iv cc2, iv cc3, iv 4, .unset, .unset] [(.ref pa), (.ref pa)]))
  refine Way.by (fun _ k => XS.bipush X77.here hx rfl (hb hby at_549) k) ?_
  show Way _ _ _ _ (T75.setTop (mkF m 551 #[iv p0, iv p1, iv p2, iv p3, iv p4, iv cc0, iv cc1, iv cc2, iv cc3, iv 4, .unset, .unset] [(.int 64), (.ref pa), (.ref pa)]))
  refine Way.by (fun _ k => XS.bipush X77.here hx rfl (hb hby at_551) k) ?_
  show Way _ _ _ _ (T75.setTop (mkF m 553 #[iv p0, iv p1, iv p2, iv p3, iv p4, iv cc0, iv cc1, iv cc2, iv cc3, iv 4, .unset, .unset] [(.int 113), (.int 64), (.ref pa), (.ref pa)]))
  have V89 : Arv Z h76 pa kk .char (80 : Int32) (List.replicate 64 (Value.int (113 : Int32)) ++ [(.int 0)]) (.int 0) := V82.pad (pad_rep (List.replicate 64 (Value.int (113 : Int32))) (.int 0) 1)
  obtain ⟨c90, A91, q92, S93, M94, H95, U96⟩ := id V89
  obtain ⟨T97, h98, X99, e100, W101, st102⟩ := stC X77 hx hZ e78 A91 (j := (64 : Int32)) (inb_of S93 ⟨(by decide), (by decide)⟩) (g := (mkF m 553 #[iv p0, iv p1, iv p2, iv p3, iv p4, iv cc0, iv cc1, iv cc2, iv cc3, iv 4, .unset, .unset] [(.int 113), (.int 64), (.ref pa), (.ref pa)])) rfl rfl (hb hby at_553)
  have N103 := Fr.snoc X99 N81 nw_pa
  have V104 : Arv Z h98 pa kk .char (80 : Int32) (List.replicate 65 (Value.int (113 : Int32))) (.int 0) := Arv.set A91 q92 S93 M94 H95 U96 rfl W101 64 rfl (leB rfl)
  have hr107 := CHr.wr W101 (Safe.arv hZ.alike V82 (by decide)) H83
  have H105 := hr107.1
  have CH106 := CH84.trans hr107
  have Z108 : n0 ≤ h98.size := by rw [W101.size]; exact Z86
  have hk109 := Nat.le_trans hk87 (Nat.le_of_eq W101.size.symm)
  have O110 := O88.wr W101 nw_pa
  refine Way.by st102 ?_
  show Way _ _ _ _ (T97.setTop (mkF m 554 #[iv p0, iv p1, iv p2, iv p3, iv p4, iv cc0, iv cc1, iv cc2, iv cc3, iv 4, .unset, .unset] [(.ref pa)]))
  try clear X77 e78 N81 V82 H83 CH84 Z86 hk87 O88 V89 c90 A91 q92 S93 M94 H95 U96 W101 st102 hr107
  try clear T75 h76
  refine Way.by (fun _ k => XS.dup X99.here hx rfl (hb hby at_554) rfl rfl k) ?_
  show Way _ _ _ _ (T97.setTop (mkF m 555 #[iv p0, iv p1, iv p2, iv p3, iv p4, iv cc0, iv cc1, iv cc2, iv cc3, iv 4, .unset, .unset] [(.ref pa), (.ref pa)]))
  refine Way.by (fun _ k => XS.bipush X99.here hx rfl (hb hby at_555) k) ?_
  show Way _ _ _ _ (T97.setTop (mkF m 557 #[iv p0, iv p1, iv p2, iv p3, iv p4, iv cc0, iv cc1, iv cc2, iv cc3, iv 4, .unset, .unset] [(.int 65), (.ref pa), (.ref pa)]))
  refine Way.by (fun _ k => XS.bipush X99.here hx rfl (hb hby at_557) k) ?_
  show Way _ _ _ _ (T97.setTop (mkF m 559 #[iv p0, iv p1, iv p2, iv p3, iv p4, iv cc0, iv cc1, iv cc2, iv cc3, iv 4, .unset, .unset] [(.int 113), (.int 65), (.ref pa), (.ref pa)]))
  have V111 : Arv Z h98 pa kk .char (80 : Int32) (List.replicate 65 (Value.int (113 : Int32)) ++ [(.int 0)]) (.int 0) := V104.pad (pad_rep (List.replicate 65 (Value.int (113 : Int32))) (.int 0) 1)
  obtain ⟨c112, A113, q114, S115, M116, H117, U118⟩ := id V111
  obtain ⟨T119, h120, X121, e122, W123, st124⟩ := stC X99 hx hZ e100 A113 (j := (65 : Int32)) (inb_of S115 ⟨(by decide), (by decide)⟩) (g := (mkF m 559 #[iv p0, iv p1, iv p2, iv p3, iv p4, iv cc0, iv cc1, iv cc2, iv cc3, iv 4, .unset, .unset] [(.int 113), (.int 65), (.ref pa), (.ref pa)])) rfl rfl (hb hby at_559)
  have N125 := Fr.snoc X121 N103 nw_pa
  have V126 : Arv Z h120 pa kk .char (80 : Int32) (List.replicate 66 (Value.int (113 : Int32))) (.int 0) := Arv.set A113 q114 S115 M116 H117 U118 rfl W123 65 rfl (leB rfl)
  have hr129 := CHr.wr W123 (Safe.arv hZ.alike V104 (by decide)) H105
  have H127 := hr129.1
  have CH128 := CH106.trans hr129
  have Z130 : n0 ≤ h120.size := by rw [W123.size]; exact Z108
  have hk131 := Nat.le_trans hk109 (Nat.le_of_eq W123.size.symm)
  have O132 := O110.wr W123 nw_pa
  refine Way.by st124 ?_
  show Way _ _ _ _ (T119.setTop (mkF m 560 #[iv p0, iv p1, iv p2, iv p3, iv p4, iv cc0, iv cc1, iv cc2, iv cc3, iv 4, .unset, .unset] [(.ref pa)]))
  try clear X99 e100 N103 V104 H105 CH106 Z108 hk109 O110 V111 c112 A113 q114 S115 M116 H117 U118 W123 st124 hr129
  try clear T97 h98
  refine Way.by (fun _ k => XS.dup X121.here hx rfl (hb hby at_560) rfl rfl k) ?_
  show Way _ _ _ _ (T119.setTop (mkF m 561 #[iv p0, iv p1, iv p2, iv p3, iv p4, iv cc0, iv cc1, iv cc2, iv cc3, iv 4, .unset, .unset] [(.ref pa), (.ref pa)]))
  refine Way.by (fun _ k => XS.bipush X121.here hx rfl (hb hby at_561) k) ?_
  show Way _ _ _ _ (T119.setTop (mkF m 563 #[iv p0, iv p1, iv p2, iv p3, iv p4, iv cc0, iv cc1, iv cc2, iv cc3, iv 4, .unset, .unset] [(.int 66), (.ref pa), (.ref pa)]))
  refine Way.by (fun _ k => XS.bipush X121.here hx rfl (hb hby at_563) k) ?_
  show Way _ _ _ _ (T119.setTop (mkF m 565 #[iv p0, iv p1, iv p2, iv p3, iv p4, iv cc0, iv cc1, iv cc2, iv cc3, iv 4, .unset, .unset] [(.int 113), (.int 66), (.ref pa), (.ref pa)]))
  have V133 : Arv Z h120 pa kk .char (80 : Int32) (List.replicate 66 (Value.int (113 : Int32)) ++ [(.int 0)]) (.int 0) := V126.pad (pad_rep (List.replicate 66 (Value.int (113 : Int32))) (.int 0) 1)
  obtain ⟨c134, A135, q136, S137, M138, H139, U140⟩ := id V133
  obtain ⟨T141, h142, X143, e144, W145, st146⟩ := stC X121 hx hZ e122 A135 (j := (66 : Int32)) (inb_of S137 ⟨(by decide), (by decide)⟩) (g := (mkF m 565 #[iv p0, iv p1, iv p2, iv p3, iv p4, iv cc0, iv cc1, iv cc2, iv cc3, iv 4, .unset, .unset] [(.int 113), (.int 66), (.ref pa), (.ref pa)])) rfl rfl (hb hby at_565)
  have N147 := Fr.snoc X143 N125 nw_pa
  have V148 : Arv Z h142 pa kk .char (80 : Int32) (List.replicate 67 (Value.int (113 : Int32))) (.int 0) := Arv.set A135 q136 S137 M138 H139 U140 rfl W145 66 rfl (leB rfl)
  have hr151 := CHr.wr W145 (Safe.arv hZ.alike V126 (by decide)) H127
  have H149 := hr151.1
  have CH150 := CH128.trans hr151
  have Z152 : n0 ≤ h142.size := by rw [W145.size]; exact Z130
  have hk153 := Nat.le_trans hk131 (Nat.le_of_eq W145.size.symm)
  have O154 := O132.wr W145 nw_pa
  refine Way.by st146 ?_
  show Way _ _ _ _ (T141.setTop (mkF m 566 #[iv p0, iv p1, iv p2, iv p3, iv p4, iv cc0, iv cc1, iv cc2, iv cc3, iv 4, .unset, .unset] [(.ref pa)]))
  try clear X121 e122 N125 V126 H127 CH128 Z130 hk131 O132 V133 c134 A135 q136 S137 M138 H139 U140 W145 st146 hr151
  try clear T119 h120
  refine Way.by (fun _ k => XS.dup X143.here hx rfl (hb hby at_566) rfl rfl k) ?_
  show Way _ _ _ _ (T141.setTop (mkF m 567 #[iv p0, iv p1, iv p2, iv p3, iv p4, iv cc0, iv cc1, iv cc2, iv cc3, iv 4, .unset, .unset] [(.ref pa), (.ref pa)]))
  refine Way.by (fun _ k => XS.bipush X143.here hx rfl (hb hby at_567) k) ?_
  show Way _ _ _ _ (T141.setTop (mkF m 569 #[iv p0, iv p1, iv p2, iv p3, iv p4, iv cc0, iv cc1, iv cc2, iv cc3, iv 4, .unset, .unset] [(.int 67), (.ref pa), (.ref pa)]))
  refine Way.by (fun _ k => XS.bipush X143.here hx rfl (hb hby at_569) k) ?_
  show Way _ _ _ _ (T141.setTop (mkF m 571 #[iv p0, iv p1, iv p2, iv p3, iv p4, iv cc0, iv cc1, iv cc2, iv cc3, iv 4, .unset, .unset] [(.int 113), (.int 67), (.ref pa), (.ref pa)]))
  have V155 : Arv Z h142 pa kk .char (80 : Int32) (List.replicate 67 (Value.int (113 : Int32)) ++ [(.int 0)]) (.int 0) := V148.pad (pad_rep (List.replicate 67 (Value.int (113 : Int32))) (.int 0) 1)
  obtain ⟨c156, A157, q158, S159, M160, H161, U162⟩ := id V155
  obtain ⟨T163, h164, X165, e166, W167, st168⟩ := stC X143 hx hZ e144 A157 (j := (67 : Int32)) (inb_of S159 ⟨(by decide), (by decide)⟩) (g := (mkF m 571 #[iv p0, iv p1, iv p2, iv p3, iv p4, iv cc0, iv cc1, iv cc2, iv cc3, iv 4, .unset, .unset] [(.int 113), (.int 67), (.ref pa), (.ref pa)])) rfl rfl (hb hby at_571)
  have N169 := Fr.snoc X165 N147 nw_pa
  have V170 : Arv Z h164 pa kk .char (80 : Int32) (List.replicate 68 (Value.int (113 : Int32))) (.int 0) := Arv.set A157 q158 S159 M160 H161 U162 rfl W167 67 rfl (leB rfl)
  have hr173 := CHr.wr W167 (Safe.arv hZ.alike V148 (by decide)) H149
  have H171 := hr173.1
  have CH172 := CH150.trans hr173
  have Z174 : n0 ≤ h164.size := by rw [W167.size]; exact Z152
  have hk175 := Nat.le_trans hk153 (Nat.le_of_eq W167.size.symm)
  have O176 := O154.wr W167 nw_pa
  refine Way.by st168 ?_
  show Way _ _ _ _ (T163.setTop (mkF m 572 #[iv p0, iv p1, iv p2, iv p3, iv p4, iv cc0, iv cc1, iv cc2, iv cc3, iv 4, .unset, .unset] [(.ref pa)]))
  try clear X143 e144 N147 V148 H149 CH150 Z152 hk153 O154 V155 c156 A157 q158 S159 M160 H161 U162 W167 st168 hr173
  try clear T141 h142
  refine Way.by (fun _ k => XS.dup X165.here hx rfl (hb hby at_572) rfl rfl k) ?_
  show Way _ _ _ _ (T163.setTop (mkF m 573 #[iv p0, iv p1, iv p2, iv p3, iv p4, iv cc0, iv cc1, iv cc2, iv cc3, iv 4, .unset, .unset] [(.ref pa), (.ref pa)]))
  refine Way.by (fun _ k => XS.bipush X165.here hx rfl (hb hby at_573) k) ?_
  show Way _ _ _ _ (T163.setTop (mkF m 575 #[iv p0, iv p1, iv p2, iv p3, iv p4, iv cc0, iv cc1, iv cc2, iv cc3, iv 4, .unset, .unset] [(.int 68), (.ref pa), (.ref pa)]))
  refine Way.by (fun _ k => XS.bipush X165.here hx rfl (hb hby at_575) k) ?_
  show Way _ _ _ _ (T163.setTop (mkF m 577 #[iv p0, iv p1, iv p2, iv p3, iv p4, iv cc0, iv cc1, iv cc2, iv cc3, iv 4, .unset, .unset] [(.int 113), (.int 68), (.ref pa), (.ref pa)]))
  have V177 : Arv Z h164 pa kk .char (80 : Int32) (List.replicate 68 (Value.int (113 : Int32)) ++ [(.int 0)]) (.int 0) := V170.pad (pad_rep (List.replicate 68 (Value.int (113 : Int32))) (.int 0) 1)
  obtain ⟨c178, A179, q180, S181, M182, H183, U184⟩ := id V177
  obtain ⟨T185, h186, X187, e188, W189, st190⟩ := stC X165 hx hZ e166 A179 (j := (68 : Int32)) (inb_of S181 ⟨(by decide), (by decide)⟩) (g := (mkF m 577 #[iv p0, iv p1, iv p2, iv p3, iv p4, iv cc0, iv cc1, iv cc2, iv cc3, iv 4, .unset, .unset] [(.int 113), (.int 68), (.ref pa), (.ref pa)])) rfl rfl (hb hby at_577)
  have N191 := Fr.snoc X187 N169 nw_pa
  have V192 : Arv Z h186 pa kk .char (80 : Int32) (List.replicate 69 (Value.int (113 : Int32))) (.int 0) := Arv.set A179 q180 S181 M182 H183 U184 rfl W189 68 rfl (leB rfl)
  have hr195 := CHr.wr W189 (Safe.arv hZ.alike V170 (by decide)) H171
  have H193 := hr195.1
  have CH194 := CH172.trans hr195
  have Z196 : n0 ≤ h186.size := by rw [W189.size]; exact Z174
  have hk197 := Nat.le_trans hk175 (Nat.le_of_eq W189.size.symm)
  have O198 := O176.wr W189 nw_pa
  refine Way.by st190 ?_
  show Way _ _ _ _ (T185.setTop (mkF m 578 #[iv p0, iv p1, iv p2, iv p3, iv p4, iv cc0, iv cc1, iv cc2, iv cc3, iv 4, .unset, .unset] [(.ref pa)]))
  try clear X165 e166 N169 V170 H171 CH172 Z174 hk175 O176 V177 c178 A179 q180 S181 M182 H183 U184 W189 st190 hr195
  try clear T163 h164
  refine Way.by (fun _ k => XS.dup X187.here hx rfl (hb hby at_578) rfl rfl k) ?_
  show Way _ _ _ _ (T185.setTop (mkF m 579 #[iv p0, iv p1, iv p2, iv p3, iv p4, iv cc0, iv cc1, iv cc2, iv cc3, iv 4, .unset, .unset] [(.ref pa), (.ref pa)]))
  refine Way.by (fun _ k => XS.bipush X187.here hx rfl (hb hby at_579) k) ?_
  show Way _ _ _ _ (T185.setTop (mkF m 581 #[iv p0, iv p1, iv p2, iv p3, iv p4, iv cc0, iv cc1, iv cc2, iv cc3, iv 4, .unset, .unset] [(.int 69), (.ref pa), (.ref pa)]))
  refine Way.by (fun _ k => XS.bipush X187.here hx rfl (hb hby at_581) k) ?_
  show Way _ _ _ _ (T185.setTop (mkF m 583 #[iv p0, iv p1, iv p2, iv p3, iv p4, iv cc0, iv cc1, iv cc2, iv cc3, iv 4, .unset, .unset] [(.int 113), (.int 69), (.ref pa), (.ref pa)]))
  have V199 : Arv Z h186 pa kk .char (80 : Int32) (List.replicate 69 (Value.int (113 : Int32)) ++ [(.int 0)]) (.int 0) := V192.pad (pad_rep (List.replicate 69 (Value.int (113 : Int32))) (.int 0) 1)
  obtain ⟨c200, A201, q202, S203, M204, H205, U206⟩ := id V199
  obtain ⟨T207, h208, X209, e210, W211, st212⟩ := stC X187 hx hZ e188 A201 (j := (69 : Int32)) (inb_of S203 ⟨(by decide), (by decide)⟩) (g := (mkF m 583 #[iv p0, iv p1, iv p2, iv p3, iv p4, iv cc0, iv cc1, iv cc2, iv cc3, iv 4, .unset, .unset] [(.int 113), (.int 69), (.ref pa), (.ref pa)])) rfl rfl (hb hby at_583)
  have N213 := Fr.snoc X209 N191 nw_pa
  have V214 : Arv Z h208 pa kk .char (80 : Int32) (List.replicate 70 (Value.int (113 : Int32))) (.int 0) := Arv.set A201 q202 S203 M204 H205 U206 rfl W211 69 rfl (leB rfl)
  have hr217 := CHr.wr W211 (Safe.arv hZ.alike V192 (by decide)) H193
  have H215 := hr217.1
  have CH216 := CH194.trans hr217
  have Z218 : n0 ≤ h208.size := by rw [W211.size]; exact Z196
  have hk219 := Nat.le_trans hk197 (Nat.le_of_eq W211.size.symm)
  have O220 := O198.wr W211 nw_pa
  refine Way.by st212 ?_
  show Way _ _ _ _ (T207.setTop (mkF m 584 #[iv p0, iv p1, iv p2, iv p3, iv p4, iv cc0, iv cc1, iv cc2, iv cc3, iv 4, .unset, .unset] [(.ref pa)]))
  try clear X187 e188 N191 V192 H193 CH194 Z196 hk197 O198 V199 c200 A201 q202 S203 M204 H205 U206 W211 st212 hr217
  try clear T185 h186
  refine Way.by (fun _ k => XS.dup X209.here hx rfl (hb hby at_584) rfl rfl k) ?_
  show Way _ _ _ _ (T207.setTop (mkF m 585 #[iv p0, iv p1, iv p2, iv p3, iv p4, iv cc0, iv cc1, iv cc2, iv cc3, iv 4, .unset, .unset] [(.ref pa), (.ref pa)]))
  refine Way.by (fun _ k => XS.bipush X209.here hx rfl (hb hby at_585) k) ?_
  show Way _ _ _ _ (T207.setTop (mkF m 587 #[iv p0, iv p1, iv p2, iv p3, iv p4, iv cc0, iv cc1, iv cc2, iv cc3, iv 4, .unset, .unset] [(.int 70), (.ref pa), (.ref pa)]))
  refine Way.by (fun _ k => XS.bipush X209.here hx rfl (hb hby at_587) k) ?_
  show Way _ _ _ _ (T207.setTop (mkF m 589 #[iv p0, iv p1, iv p2, iv p3, iv p4, iv cc0, iv cc1, iv cc2, iv cc3, iv 4, .unset, .unset] [(.int 113), (.int 70), (.ref pa), (.ref pa)]))
  have V221 : Arv Z h208 pa kk .char (80 : Int32) (List.replicate 70 (Value.int (113 : Int32)) ++ [(.int 0)]) (.int 0) := V214.pad (pad_rep (List.replicate 70 (Value.int (113 : Int32))) (.int 0) 1)
  obtain ⟨c222, A223, q224, S225, M226, H227, U228⟩ := id V221
  obtain ⟨T229, h230, X231, e232, W233, st234⟩ := stC X209 hx hZ e210 A223 (j := (70 : Int32)) (inb_of S225 ⟨(by decide), (by decide)⟩) (g := (mkF m 589 #[iv p0, iv p1, iv p2, iv p3, iv p4, iv cc0, iv cc1, iv cc2, iv cc3, iv 4, .unset, .unset] [(.int 113), (.int 70), (.ref pa), (.ref pa)])) rfl rfl (hb hby at_589)
  have N235 := Fr.snoc X231 N213 nw_pa
  have V236 : Arv Z h230 pa kk .char (80 : Int32) (List.replicate 71 (Value.int (113 : Int32))) (.int 0) := Arv.set A223 q224 S225 M226 H227 U228 rfl W233 70 rfl (leB rfl)
  have hr239 := CHr.wr W233 (Safe.arv hZ.alike V214 (by decide)) H215
  have H237 := hr239.1
  have CH238 := CH216.trans hr239
  have Z240 : n0 ≤ h230.size := by rw [W233.size]; exact Z218
  have hk241 := Nat.le_trans hk219 (Nat.le_of_eq W233.size.symm)
  have O242 := O220.wr W233 nw_pa
  refine Way.by st234 ?_
  show Way _ _ _ _ (T229.setTop (mkF m 590 #[iv p0, iv p1, iv p2, iv p3, iv p4, iv cc0, iv cc1, iv cc2, iv cc3, iv 4, .unset, .unset] [(.ref pa)]))
  try clear X209 e210 N213 V214 H215 CH216 Z218 hk219 O220 V221 c222 A223 q224 S225 M226 H227 U228 W233 st234 hr239
  try clear T207 h208
  refine Way.by (fun _ k => XS.dup X231.here hx rfl (hb hby at_590) rfl rfl k) ?_
  show Way _ _ _ _ (T229.setTop (mkF m 591 #[iv p0, iv p1, iv p2, iv p3, iv p4, iv cc0, iv cc1, iv cc2, iv cc3, iv 4, .unset, .unset] [(.ref pa), (.ref pa)]))
  refine Way.by (fun _ k => XS.bipush X231.here hx rfl (hb hby at_591) k) ?_
  show Way _ _ _ _ (T229.setTop (mkF m 593 #[iv p0, iv p1, iv p2, iv p3, iv p4, iv cc0, iv cc1, iv cc2, iv cc3, iv 4, .unset, .unset] [(.int 71), (.ref pa), (.ref pa)]))
  refine Way.by (fun _ k => XS.bipush X231.here hx rfl (hb hby at_593) k) ?_
  show Way _ _ _ _ (T229.setTop (mkF m 595 #[iv p0, iv p1, iv p2, iv p3, iv p4, iv cc0, iv cc1, iv cc2, iv cc3, iv 4, .unset, .unset] [(.int 113), (.int 71), (.ref pa), (.ref pa)]))
  have V243 : Arv Z h230 pa kk .char (80 : Int32) (List.replicate 71 (Value.int (113 : Int32)) ++ [(.int 0)]) (.int 0) := V236.pad (pad_rep (List.replicate 71 (Value.int (113 : Int32))) (.int 0) 1)
  obtain ⟨c244, A245, q246, S247, M248, H249, U250⟩ := id V243
  obtain ⟨T251, h252, X253, e254, W255, st256⟩ := stC X231 hx hZ e232 A245 (j := (71 : Int32)) (inb_of S247 ⟨(by decide), (by decide)⟩) (g := (mkF m 595 #[iv p0, iv p1, iv p2, iv p3, iv p4, iv cc0, iv cc1, iv cc2, iv cc3, iv 4, .unset, .unset] [(.int 113), (.int 71), (.ref pa), (.ref pa)])) rfl rfl (hb hby at_595)
  have N257 := Fr.snoc X253 N235 nw_pa
  have V258 : Arv Z h252 pa kk .char (80 : Int32) (List.replicate 72 (Value.int (113 : Int32))) (.int 0) := Arv.set A245 q246 S247 M248 H249 U250 rfl W255 71 rfl (leB rfl)
  have hr261 := CHr.wr W255 (Safe.arv hZ.alike V236 (by decide)) H237
  have H259 := hr261.1
  have CH260 := CH238.trans hr261
  have Z262 : n0 ≤ h252.size := by rw [W255.size]; exact Z240
  have hk263 := Nat.le_trans hk241 (Nat.le_of_eq W255.size.symm)
  have O264 := O242.wr W255 nw_pa
  refine Way.by st256 ?_
  show Way _ _ _ _ (T251.setTop (mkF m 596 #[iv p0, iv p1, iv p2, iv p3, iv p4, iv cc0, iv cc1, iv cc2, iv cc3, iv 4, .unset, .unset] [(.ref pa)]))
  try clear X231 e232 N235 V236 H237 CH238 Z240 hk241 O242 V243 c244 A245 q246 S247 M248 H249 U250 W255 st256 hr261
  try clear T229 h230
  refine Way.by (fun _ k => XS.dup X253.here hx rfl (hb hby at_596) rfl rfl k) ?_
  show Way _ _ _ _ (T251.setTop (mkF m 597 #[iv p0, iv p1, iv p2, iv p3, iv p4, iv cc0, iv cc1, iv cc2, iv cc3, iv 4, .unset, .unset] [(.ref pa), (.ref pa)]))
  refine Way.by (fun _ k => XS.bipush X253.here hx rfl (hb hby at_597) k) ?_
  show Way _ _ _ _ (T251.setTop (mkF m 599 #[iv p0, iv p1, iv p2, iv p3, iv p4, iv cc0, iv cc1, iv cc2, iv cc3, iv 4, .unset, .unset] [(.int 72), (.ref pa), (.ref pa)]))
  refine Way.by (fun _ k => XS.bipush X253.here hx rfl (hb hby at_599) k) ?_
  show Way _ _ _ _ (T251.setTop (mkF m 601 #[iv p0, iv p1, iv p2, iv p3, iv p4, iv cc0, iv cc1, iv cc2, iv cc3, iv 4, .unset, .unset] [(.int 113), (.int 72), (.ref pa), (.ref pa)]))
  have V265 : Arv Z h252 pa kk .char (80 : Int32) (List.replicate 72 (Value.int (113 : Int32)) ++ [(.int 0)]) (.int 0) := V258.pad (pad_rep (List.replicate 72 (Value.int (113 : Int32))) (.int 0) 1)
  obtain ⟨c266, A267, q268, S269, M270, H271, U272⟩ := id V265
  obtain ⟨T273, h274, X275, e276, W277, st278⟩ := stC X253 hx hZ e254 A267 (j := (72 : Int32)) (inb_of S269 ⟨(by decide), (by decide)⟩) (g := (mkF m 601 #[iv p0, iv p1, iv p2, iv p3, iv p4, iv cc0, iv cc1, iv cc2, iv cc3, iv 4, .unset, .unset] [(.int 113), (.int 72), (.ref pa), (.ref pa)])) rfl rfl (hb hby at_601)
  have N279 := Fr.snoc X275 N257 nw_pa
  have V280 : Arv Z h274 pa kk .char (80 : Int32) (List.replicate 73 (Value.int (113 : Int32))) (.int 0) := Arv.set A267 q268 S269 M270 H271 U272 rfl W277 72 rfl (leB rfl)
  have hr283 := CHr.wr W277 (Safe.arv hZ.alike V258 (by decide)) H259
  have H281 := hr283.1
  have CH282 := CH260.trans hr283
  have Z284 : n0 ≤ h274.size := by rw [W277.size]; exact Z262
  have hk285 := Nat.le_trans hk263 (Nat.le_of_eq W277.size.symm)
  have O286 := O264.wr W277 nw_pa
  refine Way.by st278 ?_
  show Way _ _ _ _ (T273.setTop (mkF m 602 #[iv p0, iv p1, iv p2, iv p3, iv p4, iv cc0, iv cc1, iv cc2, iv cc3, iv 4, .unset, .unset] [(.ref pa)]))
  try clear X253 e254 N257 V258 H259 CH260 Z262 hk263 O264 V265 c266 A267 q268 S269 M270 H271 U272 W277 st278 hr283
  try clear T251 h252
  refine Way.by (fun _ k => XS.dup X275.here hx rfl (hb hby at_602) rfl rfl k) ?_
  show Way _ _ _ _ (T273.setTop (mkF m 603 #[iv p0, iv p1, iv p2, iv p3, iv p4, iv cc0, iv cc1, iv cc2, iv cc3, iv 4, .unset, .unset] [(.ref pa), (.ref pa)]))
  refine Way.by (fun _ k => XS.bipush X275.here hx rfl (hb hby at_603) k) ?_
  show Way _ _ _ _ (T273.setTop (mkF m 605 #[iv p0, iv p1, iv p2, iv p3, iv p4, iv cc0, iv cc1, iv cc2, iv cc3, iv 4, .unset, .unset] [(.int 73), (.ref pa), (.ref pa)]))
  refine Way.by (fun _ k => XS.bipush X275.here hx rfl (hb hby at_605) k) ?_
  show Way _ _ _ _ (T273.setTop (mkF m 607 #[iv p0, iv p1, iv p2, iv p3, iv p4, iv cc0, iv cc1, iv cc2, iv cc3, iv 4, .unset, .unset] [(.int 113), (.int 73), (.ref pa), (.ref pa)]))
  have V287 : Arv Z h274 pa kk .char (80 : Int32) (List.replicate 73 (Value.int (113 : Int32)) ++ [(.int 0)]) (.int 0) := V280.pad (pad_rep (List.replicate 73 (Value.int (113 : Int32))) (.int 0) 1)
  obtain ⟨c288, A289, q290, S291, M292, H293, U294⟩ := id V287
  obtain ⟨T295, h296, X297, e298, W299, st300⟩ := stC X275 hx hZ e276 A289 (j := (73 : Int32)) (inb_of S291 ⟨(by decide), (by decide)⟩) (g := (mkF m 607 #[iv p0, iv p1, iv p2, iv p3, iv p4, iv cc0, iv cc1, iv cc2, iv cc3, iv 4, .unset, .unset] [(.int 113), (.int 73), (.ref pa), (.ref pa)])) rfl rfl (hb hby at_607)
  have N301 := Fr.snoc X297 N279 nw_pa
  have V302 : Arv Z h296 pa kk .char (80 : Int32) (List.replicate 74 (Value.int (113 : Int32))) (.int 0) := Arv.set A289 q290 S291 M292 H293 U294 rfl W299 73 rfl (leB rfl)
  have hr305 := CHr.wr W299 (Safe.arv hZ.alike V280 (by decide)) H281
  have H303 := hr305.1
  have CH304 := CH282.trans hr305
  have Z306 : n0 ≤ h296.size := by rw [W299.size]; exact Z284
  have hk307 := Nat.le_trans hk285 (Nat.le_of_eq W299.size.symm)
  have O308 := O286.wr W299 nw_pa
  refine Way.by st300 ?_
  show Way _ _ _ _ (T295.setTop (mkF m 608 #[iv p0, iv p1, iv p2, iv p3, iv p4, iv cc0, iv cc1, iv cc2, iv cc3, iv 4, .unset, .unset] [(.ref pa)]))
  try clear X275 e276 N279 V280 H281 CH282 Z284 hk285 O286 V287 c288 A289 q290 S291 M292 H293 U294 W299 st300 hr305
  try clear T273 h274
  refine Way.by (fun _ k => XS.dup X297.here hx rfl (hb hby at_608) rfl rfl k) ?_
  show Way _ _ _ _ (T295.setTop (mkF m 609 #[iv p0, iv p1, iv p2, iv p3, iv p4, iv cc0, iv cc1, iv cc2, iv cc3, iv 4, .unset, .unset] [(.ref pa), (.ref pa)]))
  refine Way.by (fun _ k => XS.bipush X297.here hx rfl (hb hby at_609) k) ?_
  show Way _ _ _ _ (T295.setTop (mkF m 611 #[iv p0, iv p1, iv p2, iv p3, iv p4, iv cc0, iv cc1, iv cc2, iv cc3, iv 4, .unset, .unset] [(.int 74), (.ref pa), (.ref pa)]))
  refine Way.by (fun _ k => XS.bipush X297.here hx rfl (hb hby at_611) k) ?_
  show Way _ _ _ _ (T295.setTop (mkF m 613 #[iv p0, iv p1, iv p2, iv p3, iv p4, iv cc0, iv cc1, iv cc2, iv cc3, iv 4, .unset, .unset] [(.int 113), (.int 74), (.ref pa), (.ref pa)]))
  have V309 : Arv Z h296 pa kk .char (80 : Int32) (List.replicate 74 (Value.int (113 : Int32)) ++ [(.int 0)]) (.int 0) := V302.pad (pad_rep (List.replicate 74 (Value.int (113 : Int32))) (.int 0) 1)
  obtain ⟨c310, A311, q312, S313, M314, H315, U316⟩ := id V309
  obtain ⟨T317, h318, X319, e320, W321, st322⟩ := stC X297 hx hZ e298 A311 (j := (74 : Int32)) (inb_of S313 ⟨(by decide), (by decide)⟩) (g := (mkF m 613 #[iv p0, iv p1, iv p2, iv p3, iv p4, iv cc0, iv cc1, iv cc2, iv cc3, iv 4, .unset, .unset] [(.int 113), (.int 74), (.ref pa), (.ref pa)])) rfl rfl (hb hby at_613)
  have N323 := Fr.snoc X319 N301 nw_pa
  have V324 : Arv Z h318 pa kk .char (80 : Int32) (List.replicate 75 (Value.int (113 : Int32))) (.int 0) := Arv.set A311 q312 S313 M314 H315 U316 rfl W321 74 rfl (leB rfl)
  have hr327 := CHr.wr W321 (Safe.arv hZ.alike V302 (by decide)) H303
  have H325 := hr327.1
  have CH326 := CH304.trans hr327
  have Z328 : n0 ≤ h318.size := by rw [W321.size]; exact Z306
  have hk329 := Nat.le_trans hk307 (Nat.le_of_eq W321.size.symm)
  have O330 := O308.wr W321 nw_pa
  refine Way.by st322 ?_
  show Way _ _ _ _ (T317.setTop (mkF m 614 #[iv p0, iv p1, iv p2, iv p3, iv p4, iv cc0, iv cc1, iv cc2, iv cc3, iv 4, .unset, .unset] [(.ref pa)]))
  try clear X297 e298 N301 V302 H303 CH304 Z306 hk307 O308 V309 c310 A311 q312 S313 M314 H315 U316 W321 st322 hr327
  try clear T295 h296
  refine Way.by (fun _ k => XS.dup X319.here hx rfl (hb hby at_614) rfl rfl k) ?_
  show Way _ _ _ _ (T317.setTop (mkF m 615 #[iv p0, iv p1, iv p2, iv p3, iv p4, iv cc0, iv cc1, iv cc2, iv cc3, iv 4, .unset, .unset] [(.ref pa), (.ref pa)]))
  refine Way.by (fun _ k => XS.bipush X319.here hx rfl (hb hby at_615) k) ?_
  show Way _ _ _ _ (T317.setTop (mkF m 617 #[iv p0, iv p1, iv p2, iv p3, iv p4, iv cc0, iv cc1, iv cc2, iv cc3, iv 4, .unset, .unset] [(.int 75), (.ref pa), (.ref pa)]))
  refine Way.by (fun _ k => XS.bipush X319.here hx rfl (hb hby at_617) k) ?_
  show Way _ _ _ _ (T317.setTop (mkF m 619 #[iv p0, iv p1, iv p2, iv p3, iv p4, iv cc0, iv cc1, iv cc2, iv cc3, iv 4, .unset, .unset] [(.int 113), (.int 75), (.ref pa), (.ref pa)]))
  have V331 : Arv Z h318 pa kk .char (80 : Int32) (List.replicate 75 (Value.int (113 : Int32)) ++ [(.int 0)]) (.int 0) := V324.pad (pad_rep (List.replicate 75 (Value.int (113 : Int32))) (.int 0) 1)
  obtain ⟨c332, A333, q334, S335, M336, H337, U338⟩ := id V331
  obtain ⟨T339, h340, X341, e342, W343, st344⟩ := stC X319 hx hZ e320 A333 (j := (75 : Int32)) (inb_of S335 ⟨(by decide), (by decide)⟩) (g := (mkF m 619 #[iv p0, iv p1, iv p2, iv p3, iv p4, iv cc0, iv cc1, iv cc2, iv cc3, iv 4, .unset, .unset] [(.int 113), (.int 75), (.ref pa), (.ref pa)])) rfl rfl (hb hby at_619)
  have N345 := Fr.snoc X341 N323 nw_pa
  have V346 : Arv Z h340 pa kk .char (80 : Int32) (List.replicate 76 (Value.int (113 : Int32))) (.int 0) := Arv.set A333 q334 S335 M336 H337 U338 rfl W343 75 rfl (leB rfl)
  have hr349 := CHr.wr W343 (Safe.arv hZ.alike V324 (by decide)) H325
  have H347 := hr349.1
  have CH348 := CH326.trans hr349
  have Z350 : n0 ≤ h340.size := by rw [W343.size]; exact Z328
  have hk351 := Nat.le_trans hk329 (Nat.le_of_eq W343.size.symm)
  have O352 := O330.wr W343 nw_pa
  refine Way.by st344 ?_
  show Way _ _ _ _ (T339.setTop (mkF m 620 #[iv p0, iv p1, iv p2, iv p3, iv p4, iv cc0, iv cc1, iv cc2, iv cc3, iv 4, .unset, .unset] [(.ref pa)]))
  try clear X319 e320 N323 V324 H325 CH326 Z328 hk329 O330 V331 c332 A333 q334 S335 M336 H337 U338 W343 st344 hr349
  try clear T317 h318
  refine Way.by (fun _ k => XS.dup X341.here hx rfl (hb hby at_620) rfl rfl k) ?_
  show Way _ _ _ _ (T339.setTop (mkF m 621 #[iv p0, iv p1, iv p2, iv p3, iv p4, iv cc0, iv cc1, iv cc2, iv cc3, iv 4, .unset, .unset] [(.ref pa), (.ref pa)]))
  refine Way.by (fun _ k => XS.bipush X341.here hx rfl (hb hby at_621) k) ?_
  show Way _ _ _ _ (T339.setTop (mkF m 623 #[iv p0, iv p1, iv p2, iv p3, iv p4, iv cc0, iv cc1, iv cc2, iv cc3, iv 4, .unset, .unset] [(.int 76), (.ref pa), (.ref pa)]))
  refine Way.by (fun _ k => XS.bipush X341.here hx rfl (hb hby at_623) k) ?_
  show Way _ _ _ _ (T339.setTop (mkF m 625 #[iv p0, iv p1, iv p2, iv p3, iv p4, iv cc0, iv cc1, iv cc2, iv cc3, iv 4, .unset, .unset] [(.int 113), (.int 76), (.ref pa), (.ref pa)]))
  have V353 : Arv Z h340 pa kk .char (80 : Int32) (List.replicate 76 (Value.int (113 : Int32)) ++ [(.int 0)]) (.int 0) := V346.pad (pad_rep (List.replicate 76 (Value.int (113 : Int32))) (.int 0) 1)
  obtain ⟨c354, A355, q356, S357, M358, H359, U360⟩ := id V353
  obtain ⟨T361, h362, X363, e364, W365, st366⟩ := stC X341 hx hZ e342 A355 (j := (76 : Int32)) (inb_of S357 ⟨(by decide), (by decide)⟩) (g := (mkF m 625 #[iv p0, iv p1, iv p2, iv p3, iv p4, iv cc0, iv cc1, iv cc2, iv cc3, iv 4, .unset, .unset] [(.int 113), (.int 76), (.ref pa), (.ref pa)])) rfl rfl (hb hby at_625)
  have N367 := Fr.snoc X363 N345 nw_pa
  have V368 : Arv Z h362 pa kk .char (80 : Int32) (List.replicate 77 (Value.int (113 : Int32))) (.int 0) := Arv.set A355 q356 S357 M358 H359 U360 rfl W365 76 rfl (leB rfl)
  have hr371 := CHr.wr W365 (Safe.arv hZ.alike V346 (by decide)) H347
  have H369 := hr371.1
  have CH370 := CH348.trans hr371
  have Z372 : n0 ≤ h362.size := by rw [W365.size]; exact Z350
  have hk373 := Nat.le_trans hk351 (Nat.le_of_eq W365.size.symm)
  have O374 := O352.wr W365 nw_pa
  refine Way.by st366 ?_
  show Way _ _ _ _ (T361.setTop (mkF m 626 #[iv p0, iv p1, iv p2, iv p3, iv p4, iv cc0, iv cc1, iv cc2, iv cc3, iv 4, .unset, .unset] [(.ref pa)]))
  try clear X341 e342 N345 V346 H347 CH348 Z350 hk351 O352 V353 c354 A355 q356 S357 M358 H359 U360 W365 st366 hr371
  try clear T339 h340
  refine Way.by (fun _ k => XS.dup X363.here hx rfl (hb hby at_626) rfl rfl k) ?_
  show Way _ _ _ _ (T361.setTop (mkF m 627 #[iv p0, iv p1, iv p2, iv p3, iv p4, iv cc0, iv cc1, iv cc2, iv cc3, iv 4, .unset, .unset] [(.ref pa), (.ref pa)]))
  refine Way.by (fun _ k => XS.bipush X363.here hx rfl (hb hby at_627) k) ?_
  show Way _ _ _ _ (T361.setTop (mkF m 629 #[iv p0, iv p1, iv p2, iv p3, iv p4, iv cc0, iv cc1, iv cc2, iv cc3, iv 4, .unset, .unset] [(.int 77), (.ref pa), (.ref pa)]))
  refine Way.by (fun _ k => XS.bipush X363.here hx rfl (hb hby at_629) k) ?_
  show Way _ _ _ _ (T361.setTop (mkF m 631 #[iv p0, iv p1, iv p2, iv p3, iv p4, iv cc0, iv cc1, iv cc2, iv cc3, iv 4, .unset, .unset] [(.int 113), (.int 77), (.ref pa), (.ref pa)]))
  have V375 : Arv Z h362 pa kk .char (80 : Int32) (List.replicate 77 (Value.int (113 : Int32)) ++ [(.int 0)]) (.int 0) := V368.pad (pad_rep (List.replicate 77 (Value.int (113 : Int32))) (.int 0) 1)
  obtain ⟨c376, A377, q378, S379, M380, H381, U382⟩ := id V375
  obtain ⟨T383, h384, X385, e386, W387, st388⟩ := stC X363 hx hZ e364 A377 (j := (77 : Int32)) (inb_of S379 ⟨(by decide), (by decide)⟩) (g := (mkF m 631 #[iv p0, iv p1, iv p2, iv p3, iv p4, iv cc0, iv cc1, iv cc2, iv cc3, iv 4, .unset, .unset] [(.int 113), (.int 77), (.ref pa), (.ref pa)])) rfl rfl (hb hby at_631)
  have N389 := Fr.snoc X385 N367 nw_pa
  have V390 : Arv Z h384 pa kk .char (80 : Int32) (List.replicate 78 (Value.int (113 : Int32))) (.int 0) := Arv.set A377 q378 S379 M380 H381 U382 rfl W387 77 rfl (leB rfl)
  have hr393 := CHr.wr W387 (Safe.arv hZ.alike V368 (by decide)) H369
  have H391 := hr393.1
  have CH392 := CH370.trans hr393
  have Z394 : n0 ≤ h384.size := by rw [W387.size]; exact Z372
  have hk395 := Nat.le_trans hk373 (Nat.le_of_eq W387.size.symm)
  have O396 := O374.wr W387 nw_pa
  refine Way.by st388 ?_
  show Way _ _ _ _ (T383.setTop (mkF m 632 #[iv p0, iv p1, iv p2, iv p3, iv p4, iv cc0, iv cc1, iv cc2, iv cc3, iv 4, .unset, .unset] [(.ref pa)]))
  try clear X363 e364 N367 V368 H369 CH370 Z372 hk373 O374 V375 c376 A377 q378 S379 M380 H381 U382 W387 st388 hr393
  try clear T361 h362
  refine Way.by (fun _ k => XS.dup X385.here hx rfl (hb hby at_632) rfl rfl k) ?_
  show Way _ _ _ _ (T383.setTop (mkF m 633 #[iv p0, iv p1, iv p2, iv p3, iv p4, iv cc0, iv cc1, iv cc2, iv cc3, iv 4, .unset, .unset] [(.ref pa), (.ref pa)]))
  refine Way.by (fun _ k => XS.bipush X385.here hx rfl (hb hby at_633) k) ?_
  show Way _ _ _ _ (T383.setTop (mkF m 635 #[iv p0, iv p1, iv p2, iv p3, iv p4, iv cc0, iv cc1, iv cc2, iv cc3, iv 4, .unset, .unset] [(.int 78), (.ref pa), (.ref pa)]))
  refine Way.by (fun _ k => XS.bipush X385.here hx rfl (hb hby at_635) k) ?_
  show Way _ _ _ _ (T383.setTop (mkF m 637 #[iv p0, iv p1, iv p2, iv p3, iv p4, iv cc0, iv cc1, iv cc2, iv cc3, iv 4, .unset, .unset] [(.int 113), (.int 78), (.ref pa), (.ref pa)]))
  have V397 : Arv Z h384 pa kk .char (80 : Int32) (List.replicate 78 (Value.int (113 : Int32)) ++ [(.int 0)]) (.int 0) := V390.pad (pad_rep (List.replicate 78 (Value.int (113 : Int32))) (.int 0) 1)
  obtain ⟨c398, A399, q400, S401, M402, H403, U404⟩ := id V397
  obtain ⟨T405, h406, X407, e408, W409, st410⟩ := stC X385 hx hZ e386 A399 (j := (78 : Int32)) (inb_of S401 ⟨(by decide), (by decide)⟩) (g := (mkF m 637 #[iv p0, iv p1, iv p2, iv p3, iv p4, iv cc0, iv cc1, iv cc2, iv cc3, iv 4, .unset, .unset] [(.int 113), (.int 78), (.ref pa), (.ref pa)])) rfl rfl (hb hby at_637)
  have N411 := Fr.snoc X407 N389 nw_pa
  have V412 : Arv Z h406 pa kk .char (80 : Int32) (List.replicate 79 (Value.int (113 : Int32))) (.int 0) := Arv.set A399 q400 S401 M402 H403 U404 rfl W409 78 rfl (leB rfl)
  have hr415 := CHr.wr W409 (Safe.arv hZ.alike V390 (by decide)) H391
  have H413 := hr415.1
  have CH414 := CH392.trans hr415
  have Z416 : n0 ≤ h406.size := by rw [W409.size]; exact Z394
  have hk417 := Nat.le_trans hk395 (Nat.le_of_eq W409.size.symm)
  have O418 := O396.wr W409 nw_pa
  refine Way.by st410 ?_
  show Way _ _ _ _ (T405.setTop (mkF m 638 #[iv p0, iv p1, iv p2, iv p3, iv p4, iv cc0, iv cc1, iv cc2, iv cc3, iv 4, .unset, .unset] [(.ref pa)]))
  try clear X385 e386 N389 V390 H391 CH392 Z394 hk395 O396 V397 c398 A399 q400 S401 M402 H403 U404 W409 st410 hr415
  try clear T383 h384
  refine Way.by (fun _ k => XS.dup X407.here hx rfl (hb hby at_638) rfl rfl k) ?_
  show Way _ _ _ _ (T405.setTop (mkF m 639 #[iv p0, iv p1, iv p2, iv p3, iv p4, iv cc0, iv cc1, iv cc2, iv cc3, iv 4, .unset, .unset] [(.ref pa), (.ref pa)]))
  refine Way.by (fun _ k => XS.bipush X407.here hx rfl (hb hby at_639) k) ?_
  show Way _ _ _ _ (T405.setTop (mkF m 641 #[iv p0, iv p1, iv p2, iv p3, iv p4, iv cc0, iv cc1, iv cc2, iv cc3, iv 4, .unset, .unset] [(.int 79), (.ref pa), (.ref pa)]))
  refine Way.by (fun _ k => XS.bipush X407.here hx rfl (hb hby at_641) k) ?_
  show Way _ _ _ _ (T405.setTop (mkF m 643 #[iv p0, iv p1, iv p2, iv p3, iv p4, iv cc0, iv cc1, iv cc2, iv cc3, iv 4, .unset, .unset] [(.int 113), (.int 79), (.ref pa), (.ref pa)]))
  have V419 : Arv Z h406 pa kk .char (80 : Int32) (List.replicate 79 (Value.int (113 : Int32)) ++ [(.int 0)]) (.int 0) := V412.pad (pad_rep (List.replicate 79 (Value.int (113 : Int32))) (.int 0) 1)
  obtain ⟨c420, A421, q422, S423, M424, H425, U426⟩ := id V419
  obtain ⟨T427, h428, X429, e430, W431, st432⟩ := stC X407 hx hZ e408 A421 (j := (79 : Int32)) (inb_of S423 ⟨(by decide), (by decide)⟩) (g := (mkF m 643 #[iv p0, iv p1, iv p2, iv p3, iv p4, iv cc0, iv cc1, iv cc2, iv cc3, iv 4, .unset, .unset] [(.int 113), (.int 79), (.ref pa), (.ref pa)])) rfl rfl (hb hby at_643)
  have N433 := Fr.snoc X429 N411 nw_pa
  have V434 : Arv Z h428 pa kk .char (80 : Int32) (List.replicate 80 (Value.int (113 : Int32))) (.int 0) := Arv.set A421 q422 S423 M424 H425 U426 rfl W431 79 rfl (leB rfl)
  have hr437 := CHr.wr W431 (Safe.arv hZ.alike V412 (by decide)) H413
  have H435 := hr437.1
  have CH436 := CH414.trans hr437
  have Z438 : n0 ≤ h428.size := by rw [W431.size]; exact Z416
  have hk439 := Nat.le_trans hk417 (Nat.le_of_eq W431.size.symm)
  have O440 := O418.wr W431 nw_pa
  refine Way.by st432 ?_
  show Way _ _ _ _ (T427.setTop (mkF m 644 #[iv p0, iv p1, iv p2, iv p3, iv p4, iv cc0, iv cc1, iv cc2, iv cc3, iv 4, .unset, .unset] [(.ref pa)]))
  try clear X407 e408 N411 V412 H413 CH414 Z416 hk417 O418 V419 c420 A421 q422 S423 M424 H425 U426 W431 st432 hr437
  try clear T405 h406
  exact segW4 l Z a0 hw ws p0 p1 p2 p3 p4 h0 n0 Z0 O0 SV p e s m below meth c s₁ Bd hml _ hZ hown _ hS hh T427 h428 _ X429 e430 N433 Z438 hk439 H435 CH436 O440 cc0 cc1 cc2 cc3 pa kk V434 ok0 ok1 ok2 ok3 nw_pa
set_option maxRecDepth 65536 in
set_option maxHeartbeats 40000000 in
theorem segW2 (l : Launch) (Z : State) (a0 : Array Value) (hw : ∀ d ∈ tables_1, d.before a0 Z = true) (ws : List Jvm.Cond) (p0 p1 p2 p3 p4 : Int32) (h0 : Heap) (n0 : Nat) (Z0 : n0 ≤ h0.size) (O0 : Old Z n0 h0) (SV : own_Env Z)
    (p : Program) (e : Env) (s : State) (m : MethodId) (below : List Frame) (meth : Method) (c : Code) (s₁ : State) (Bd : BodyLoose p l x (head1 (Jvm.Cond.code x code maxLocals ret :: ws) room_1) code maxLocals ret e s m #[(.int p0), (.int p1), (.int p2), (.int p3), (.int p4)] below meth c s₁) (hml : c.maxLocals = 12)
    (vm0 : Vm) (hZ : Z.Warmed39 (s.setVm vm0).vm) (hown : (s.setVm vm0).vm.findClass "com/example/outbox/outbox/QueueNameOfPinLaw" = some m.cls) (k0 : Nat) (hS : s.Since vm0 k0) (hh : s.heap = h0)
    (T : State) (h : Heap) (locs : List Loc) (X : Stand p l e room_1 (s.setVm vm0) m #[(.int p0), (.int p1), (.int p2), (.int p3), (.int p4)] below meth c T locs 1 80) (eT : T.heap = h) (N : Fr n0 locs) (Zh : n0 ≤ h.size) (hk : k0 ≤ h.size) (H : CHv Z own_EL vm0 h) (CH : CHr Z own_EL s.vm h0 vm0 h) (O : Old Z n0 h) (cc0 : Int32) (cc1 : Int32) (cc2 : Int32) (cc3 : Int32) (pa : Addr) (kk : ClassId) (J0 : Arv Z h pa kk .char (80 : Int32) (List.replicate 40 (Value.int (113 : Int32))) (.int 0)) (ok0 : own_ok cc0) (ok1 : own_ok cc1) (ok2 : own_ok cc2) (ok3 : own_ok cc3) (nw_pa : n0 ≤ pa) :
    Way p.tables e below (KQH s Z own_EL (Q0 n0) room_1.cells room_1.slots) (T.setTop (mkF m 404 #[iv p0, iv p1, iv p2, iv p3, iv p4, iv cc0, iv cc1, iv cc2, iv cc3, iv 4, .unset, .unset] [(.ref pa)])) := by
  have hx := Bd.exec
  have hby := Bd.bytes
  have hlk : meth.locks = false := BodyLoose.notSynchronized Bd
  have hnm := (name_of_methodNamed Bd.named Bd.method).1
  have wS : ∀ d ∈ Bundle.stringAtoms, d.before a0 Z = true := fun d hd => hw d (own_wS d hd)
  have hEL : EW Z a0 own_EL := own_EW hw
  refine Way.by (fun _ k => XS.dup X.here hx rfl (hb hby at_404) rfl rfl k) ?_
  show Way _ _ _ _ (T.setTop (mkF m 405 #[iv p0, iv p1, iv p2, iv p3, iv p4, iv cc0, iv cc1, iv cc2, iv cc3, iv 4, .unset, .unset] [(.ref pa), (.ref pa)]))
  refine Way.by (fun _ k => XS.bipush X.here hx rfl (hb hby at_405) k) ?_
  show Way _ _ _ _ (T.setTop (mkF m 407 #[iv p0, iv p1, iv p2, iv p3, iv p4, iv cc0, iv cc1, iv cc2, iv cc3, iv 4, .unset, .unset] [(.int 40), (.ref pa), (.ref pa)]))
  refine Way.by (fun _ k => XS.bipush X.here hx rfl (hb hby at_407) k) ?_
  show Way _ _ _ _ (T.setTop (mkF m 409 #[iv p0, iv p1, iv p2, iv p3, iv p4, iv cc0, iv cc1, iv cc2, iv cc3, iv 4, .unset, .unset] [(.int 113), (.int 40), (.ref pa), (.ref pa)]))
  have V1 : Arv Z h pa kk .char (80 : Int32) (List.replicate 40 (Value.int (113 : Int32)) ++ [(.int 0)]) (.int 0) := J0.pad (pad_rep (List.replicate 40 (Value.int (113 : Int32))) (.int 0) 1)
  obtain ⟨c2, A3, q4, S5, M6, H7, U8⟩ := id V1
  obtain ⟨T9, h10, X11, e12, W13, st14⟩ := stC X hx hZ eT A3 (j := (40 : Int32)) (inb_of S5 ⟨(by decide), (by decide)⟩) (g := (mkF m 409 #[iv p0, iv p1, iv p2, iv p3, iv p4, iv cc0, iv cc1, iv cc2, iv cc3, iv 4, .unset, .unset] [(.int 113), (.int 40), (.ref pa), (.ref pa)])) rfl rfl (hb hby at_409)
  have N15 := Fr.snoc X11 N nw_pa
  have V16 : Arv Z h10 pa kk .char (80 : Int32) (List.replicate 41 (Value.int (113 : Int32))) (.int 0) := Arv.set A3 q4 S5 M6 H7 U8 rfl W13 40 rfl (leB rfl)
  have hr19 := CHr.wr W13 (Safe.arv hZ.alike J0 (by decide)) H
  have H17 := hr19.1
  have CH18 := CH.trans hr19
  have Z20 : n0 ≤ h10.size := by rw [W13.size]; exact Zh
  have hk21 := Nat.le_trans hk (Nat.le_of_eq W13.size.symm)
  have O22 := O.wr W13 nw_pa
  refine Way.by st14 ?_
  show Way _ _ _ _ (T9.setTop (mkF m 410 #[iv p0, iv p1, iv p2, iv p3, iv p4, iv cc0, iv cc1, iv cc2, iv cc3, iv 4, .unset, .unset] [(.ref pa)]))
  try clear V1 c2 A3 q4 S5 M6 H7 U8 W13 st14 hr19
  refine Way.by (fun _ k => XS.dup X11.here hx rfl (hb hby at_410) rfl rfl k) ?_
  show Way _ _ _ _ (T9.setTop (mkF m 411 #[iv p0, iv p1, iv p2, iv p3, iv p4, iv cc0, iv cc1, iv cc2, iv cc3, iv 4, .unset, .unset] [(.ref pa), (.ref pa)]))
  refine Way.by (fun _ k => XS.bipush X11.here hx rfl (hb hby at_411) k) ?_
  show Way _ _ _ _ (T9.setTop (mkF m 413 #[iv p0, iv p1, iv p2, iv p3, iv p4, iv cc0, iv cc1, iv cc2, iv cc3, iv 4, .unset, .unset] [(.int 41), (.ref pa), (.ref pa)]))
  refine Way.by (fun _ k => XS.bipush X11.here hx rfl (hb hby at_413) k) ?_
  show Way _ _ _ _ (T9.setTop (mkF m 415 #[iv p0, iv p1, iv p2, iv p3, iv p4, iv cc0, iv cc1, iv cc2, iv cc3, iv 4, .unset, .unset] [(.int 113), (.int 41), (.ref pa), (.ref pa)]))
  have V23 : Arv Z h10 pa kk .char (80 : Int32) (List.replicate 41 (Value.int (113 : Int32)) ++ [(.int 0)]) (.int 0) := V16.pad (pad_rep (List.replicate 41 (Value.int (113 : Int32))) (.int 0) 1)
  obtain ⟨c24, A25, q26, S27, M28, H29, U30⟩ := id V23
  obtain ⟨T31, h32, X33, e34, W35, st36⟩ := stC X11 hx hZ e12 A25 (j := (41 : Int32)) (inb_of S27 ⟨(by decide), (by decide)⟩) (g := (mkF m 415 #[iv p0, iv p1, iv p2, iv p3, iv p4, iv cc0, iv cc1, iv cc2, iv cc3, iv 4, .unset, .unset] [(.int 113), (.int 41), (.ref pa), (.ref pa)])) rfl rfl (hb hby at_415)
  have N37 := Fr.snoc X33 N15 nw_pa
  have V38 : Arv Z h32 pa kk .char (80 : Int32) (List.replicate 42 (Value.int (113 : Int32))) (.int 0) := Arv.set A25 q26 S27 M28 H29 U30 rfl W35 41 rfl (leB rfl)
  have hr41 := CHr.wr W35 (Safe.arv hZ.alike V16 (by decide)) H17
  have H39 := hr41.1
  have CH40 := CH18.trans hr41
  have Z42 : n0 ≤ h32.size := by rw [W35.size]; exact Z20
  have hk43 := Nat.le_trans hk21 (Nat.le_of_eq W35.size.symm)
  have O44 := O22.wr W35 nw_pa
  refine Way.by st36 ?_
  show Way _ _ _ _ (T31.setTop (mkF m 416 #[iv p0, iv p1, iv p2, iv p3, iv p4, iv cc0, iv cc1, iv cc2, iv cc3, iv 4, .unset, .unset] [(.ref pa)]))
  try clear X11 e12 N15 V16 H17 CH18 Z20 hk21 O22 V23 c24 A25 q26 S27 M28 H29 U30 W35 st36 hr41
  try clear T9 h10
  refine Way.by (fun _ k => XS.dup X33.here hx rfl (hb hby at_416) rfl rfl k) ?_
  show Way _ _ _ _ (T31.setTop (mkF m 417 #[iv p0, iv p1, iv p2, iv p3, iv p4, iv cc0, iv cc1, iv cc2, iv cc3, iv 4, .unset, .unset] [(.ref pa), (.ref pa)]))
  refine Way.by (fun _ k => XS.bipush X33.here hx rfl (hb hby at_417) k) ?_
  show Way _ _ _ _ (T31.setTop (mkF m 419 #[iv p0, iv p1, iv p2, iv p3, iv p4, iv cc0, iv cc1, iv cc2, iv cc3, iv 4, .unset, .unset] [(.int 42), (.ref pa), (.ref pa)]))
  refine Way.by (fun _ k => XS.bipush X33.here hx rfl (hb hby at_419) k) ?_
  show Way _ _ _ _ (T31.setTop (mkF m 421 #[iv p0, iv p1, iv p2, iv p3, iv p4, iv cc0, iv cc1, iv cc2, iv cc3, iv 4, .unset, .unset] [(.int 113), (.int 42), (.ref pa), (.ref pa)]))
  have V45 : Arv Z h32 pa kk .char (80 : Int32) (List.replicate 42 (Value.int (113 : Int32)) ++ [(.int 0)]) (.int 0) := V38.pad (pad_rep (List.replicate 42 (Value.int (113 : Int32))) (.int 0) 1)
  obtain ⟨c46, A47, q48, S49, M50, H51, U52⟩ := id V45
  obtain ⟨T53, h54, X55, e56, W57, st58⟩ := stC X33 hx hZ e34 A47 (j := (42 : Int32)) (inb_of S49 ⟨(by decide), (by decide)⟩) (g := (mkF m 421 #[iv p0, iv p1, iv p2, iv p3, iv p4, iv cc0, iv cc1, iv cc2, iv cc3, iv 4, .unset, .unset] [(.int 113), (.int 42), (.ref pa), (.ref pa)])) rfl rfl (hb hby at_421)
  have N59 := Fr.snoc X55 N37 nw_pa
  have V60 : Arv Z h54 pa kk .char (80 : Int32) (List.replicate 43 (Value.int (113 : Int32))) (.int 0) := Arv.set A47 q48 S49 M50 H51 U52 rfl W57 42 rfl (leB rfl)
  have hr63 := CHr.wr W57 (Safe.arv hZ.alike V38 (by decide)) H39
  have H61 := hr63.1
  have CH62 := CH40.trans hr63
  have Z64 : n0 ≤ h54.size := by rw [W57.size]; exact Z42
  have hk65 := Nat.le_trans hk43 (Nat.le_of_eq W57.size.symm)
  have O66 := O44.wr W57 nw_pa
  refine Way.by st58 ?_
  show Way _ _ _ _ (T53.setTop (mkF m 422 #[iv p0, iv p1, iv p2, iv p3, iv p4, iv cc0, iv cc1, iv cc2, iv cc3, iv 4, .unset, .unset] [(.ref pa)]))
  try clear X33 e34 N37 V38 H39 CH40 Z42 hk43 O44 V45 c46 A47 q48 S49 M50 H51 U52 W57 st58 hr63
  try clear T31 h32
  refine Way.by (fun _ k => XS.dup X55.here hx rfl (hb hby at_422) rfl rfl k) ?_
  show Way _ _ _ _ (T53.setTop (mkF m 423 #[iv p0, iv p1, iv p2, iv p3, iv p4, iv cc0, iv cc1, iv cc2, iv cc3, iv 4, .unset, .unset] [(.ref pa), (.ref pa)]))
  refine Way.by (fun _ k => XS.bipush X55.here hx rfl (hb hby at_423) k) ?_
  show Way _ _ _ _ (T53.setTop (mkF m 425 #[iv p0, iv p1, iv p2, iv p3, iv p4, iv cc0, iv cc1, iv cc2, iv cc3, iv 4, .unset, .unset] [(.int 43), (.ref pa), (.ref pa)]))
  refine Way.by (fun _ k => XS.bipush X55.here hx rfl (hb hby at_425) k) ?_
  show Way _ _ _ _ (T53.setTop (mkF m 427 #[iv p0, iv p1, iv p2, iv p3, iv p4, iv cc0, iv cc1, iv cc2, iv cc3, iv 4, .unset, .unset] [(.int 113), (.int 43), (.ref pa), (.ref pa)]))
  have V67 : Arv Z h54 pa kk .char (80 : Int32) (List.replicate 43 (Value.int (113 : Int32)) ++ [(.int 0)]) (.int 0) := V60.pad (pad_rep (List.replicate 43 (Value.int (113 : Int32))) (.int 0) 1)
  obtain ⟨c68, A69, q70, S71, M72, H73, U74⟩ := id V67
  obtain ⟨T75, h76, X77, e78, W79, st80⟩ := stC X55 hx hZ e56 A69 (j := (43 : Int32)) (inb_of S71 ⟨(by decide), (by decide)⟩) (g := (mkF m 427 #[iv p0, iv p1, iv p2, iv p3, iv p4, iv cc0, iv cc1, iv cc2, iv cc3, iv 4, .unset, .unset] [(.int 113), (.int 43), (.ref pa), (.ref pa)])) rfl rfl (hb hby at_427)
  have N81 := Fr.snoc X77 N59 nw_pa
  have V82 : Arv Z h76 pa kk .char (80 : Int32) (List.replicate 44 (Value.int (113 : Int32))) (.int 0) := Arv.set A69 q70 S71 M72 H73 U74 rfl W79 43 rfl (leB rfl)
  have hr85 := CHr.wr W79 (Safe.arv hZ.alike V60 (by decide)) H61
  have H83 := hr85.1
  have CH84 := CH62.trans hr85
  have Z86 : n0 ≤ h76.size := by rw [W79.size]; exact Z64
  have hk87 := Nat.le_trans hk65 (Nat.le_of_eq W79.size.symm)
  have O88 := O66.wr W79 nw_pa
  refine Way.by st80 ?_
  show Way _ _ _ _ (T75.setTop (mkF m 428 #[iv p0, iv p1, iv p2, iv p3, iv p4, iv cc0, iv cc1, iv cc2, iv cc3, iv 4, .unset, .unset] [(.ref pa)]))
  try clear X55 e56 N59 V60 H61 CH62 Z64 hk65 O66 V67 c68 A69 q70 S71 M72 H73 U74 W79 st80 hr85
  try clear T53 h54
  refine Way.by (fun _ k => XS.dup X77.here hx rfl (hb hby at_428) rfl rfl k) ?_
  show Way _ _ _ _ (T75.setTop (mkF m 429 #[iv p0, iv p1, iv p2, iv p3, iv p4, iv cc0, iv cc1, iv cc2, iv cc3, iv 4, .unset, .unset] [(.ref pa), (.ref pa)]))
  refine Way.by (fun _ k => XS.bipush X77.here hx rfl (hb hby at_429) k) ?_
  show Way _ _ _ _ (T75.setTop (mkF m 431 #[iv p0, iv p1, iv p2, iv p3, iv p4, iv cc0, iv cc1, iv cc2, iv cc3, iv 4, .unset, .unset] [(.int 44), (.ref pa), (.ref pa)]))
  refine Way.by (fun _ k => XS.bipush X77.here hx rfl (hb hby at_431) k) ?_
  show Way _ _ _ _ (T75.setTop (mkF m 433 #[iv p0, iv p1, iv p2, iv p3, iv p4, iv cc0, iv cc1, iv cc2, iv cc3, iv 4, .unset, .unset] [(.int 113), (.int 44), (.ref pa), (.ref pa)]))
  have V89 : Arv Z h76 pa kk .char (80 : Int32) (List.replicate 44 (Value.int (113 : Int32)) ++ [(.int 0)]) (.int 0) := V82.pad (pad_rep (List.replicate 44 (Value.int (113 : Int32))) (.int 0) 1)
  obtain ⟨c90, A91, q92, S93, M94, H95, U96⟩ := id V89
  obtain ⟨T97, h98, X99, e100, W101, st102⟩ := stC X77 hx hZ e78 A91 (j := (44 : Int32)) (inb_of S93 ⟨(by decide), (by decide)⟩) (g := (mkF m 433 #[iv p0, iv p1, iv p2, iv p3, iv p4, iv cc0, iv cc1, iv cc2, iv cc3, iv 4, .unset, .unset] [(.int 113), (.int 44), (.ref pa), (.ref pa)])) rfl rfl (hb hby at_433)
  have N103 := Fr.snoc X99 N81 nw_pa
  have V104 : Arv Z h98 pa kk .char (80 : Int32) (List.replicate 45 (Value.int (113 : Int32))) (.int 0) := Arv.set A91 q92 S93 M94 H95 U96 rfl W101 44 rfl (leB rfl)
  have hr107 := CHr.wr W101 (Safe.arv hZ.alike V82 (by decide)) H83
  have H105 := hr107.1
  have CH106 := CH84.trans hr107
  have Z108 : n0 ≤ h98.size := by rw [W101.size]; exact Z86
  have hk109 := Nat.le_trans hk87 (Nat.le_of_eq W101.size.symm)
  have O110 := O88.wr W101 nw_pa
  refine Way.by st102 ?_
  show Way _ _ _ _ (T97.setTop (mkF m 434 #[iv p0, iv p1, iv p2, iv p3, iv p4, iv cc0, iv cc1, iv cc2, iv cc3, iv 4, .unset, .unset] [(.ref pa)]))
  try clear X77 e78 N81 V82 H83 CH84 Z86 hk87 O88 V89 c90 A91 q92 S93 M94 H95 U96 W101 st102 hr107
  try clear T75 h76
  refine Way.by (fun _ k => XS.dup X99.here hx rfl (hb hby at_434) rfl rfl k) ?_
  show Way _ _ _ _ (T97.setTop (mkF m 435 #[iv p0, iv p1, iv p2, iv p3, iv p4, iv cc0, iv cc1, iv cc2, iv cc3, iv 4, .unset, .unset] [(.ref pa), (.ref pa)]))
  refine Way.by (fun _ k => XS.bipush X99.here hx rfl (hb hby at_435) k) ?_
  show Way _ _ _ _ (T97.setTop (mkF m 437 #[iv p0, iv p1, iv p2, iv p3, iv p4, iv cc0, iv cc1, iv cc2, iv cc3, iv 4, .unset, .unset] [(.int 45), (.ref pa), (.ref pa)]))
  refine Way.by (fun _ k => XS.bipush X99.here hx rfl (hb hby at_437) k) ?_
  show Way _ _ _ _ (T97.setTop (mkF m 439 #[iv p0, iv p1, iv p2, iv p3, iv p4, iv cc0, iv cc1, iv cc2, iv cc3, iv 4, .unset, .unset] [(.int 113), (.int 45), (.ref pa), (.ref pa)]))
  have V111 : Arv Z h98 pa kk .char (80 : Int32) (List.replicate 45 (Value.int (113 : Int32)) ++ [(.int 0)]) (.int 0) := V104.pad (pad_rep (List.replicate 45 (Value.int (113 : Int32))) (.int 0) 1)
  obtain ⟨c112, A113, q114, S115, M116, H117, U118⟩ := id V111
  obtain ⟨T119, h120, X121, e122, W123, st124⟩ := stC X99 hx hZ e100 A113 (j := (45 : Int32)) (inb_of S115 ⟨(by decide), (by decide)⟩) (g := (mkF m 439 #[iv p0, iv p1, iv p2, iv p3, iv p4, iv cc0, iv cc1, iv cc2, iv cc3, iv 4, .unset, .unset] [(.int 113), (.int 45), (.ref pa), (.ref pa)])) rfl rfl (hb hby at_439)
  have N125 := Fr.snoc X121 N103 nw_pa
  have V126 : Arv Z h120 pa kk .char (80 : Int32) (List.replicate 46 (Value.int (113 : Int32))) (.int 0) := Arv.set A113 q114 S115 M116 H117 U118 rfl W123 45 rfl (leB rfl)
  have hr129 := CHr.wr W123 (Safe.arv hZ.alike V104 (by decide)) H105
  have H127 := hr129.1
  have CH128 := CH106.trans hr129
  have Z130 : n0 ≤ h120.size := by rw [W123.size]; exact Z108
  have hk131 := Nat.le_trans hk109 (Nat.le_of_eq W123.size.symm)
  have O132 := O110.wr W123 nw_pa
  refine Way.by st124 ?_
  show Way _ _ _ _ (T119.setTop (mkF m 440 #[iv p0, iv p1, iv p2, iv p3, iv p4, iv cc0, iv cc1, iv cc2, iv cc3, iv 4, .unset, .unset] [(.ref pa)]))
  try clear X99 e100 N103 V104 H105 CH106 Z108 hk109 O110 V111 c112 A113 q114 S115 M116 H117 U118 W123 st124 hr129
  try clear T97 h98
  refine Way.by (fun _ k => XS.dup X121.here hx rfl (hb hby at_440) rfl rfl k) ?_
  show Way _ _ _ _ (T119.setTop (mkF m 441 #[iv p0, iv p1, iv p2, iv p3, iv p4, iv cc0, iv cc1, iv cc2, iv cc3, iv 4, .unset, .unset] [(.ref pa), (.ref pa)]))
  refine Way.by (fun _ k => XS.bipush X121.here hx rfl (hb hby at_441) k) ?_
  show Way _ _ _ _ (T119.setTop (mkF m 443 #[iv p0, iv p1, iv p2, iv p3, iv p4, iv cc0, iv cc1, iv cc2, iv cc3, iv 4, .unset, .unset] [(.int 46), (.ref pa), (.ref pa)]))
  refine Way.by (fun _ k => XS.bipush X121.here hx rfl (hb hby at_443) k) ?_
  show Way _ _ _ _ (T119.setTop (mkF m 445 #[iv p0, iv p1, iv p2, iv p3, iv p4, iv cc0, iv cc1, iv cc2, iv cc3, iv 4, .unset, .unset] [(.int 113), (.int 46), (.ref pa), (.ref pa)]))
  have V133 : Arv Z h120 pa kk .char (80 : Int32) (List.replicate 46 (Value.int (113 : Int32)) ++ [(.int 0)]) (.int 0) := V126.pad (pad_rep (List.replicate 46 (Value.int (113 : Int32))) (.int 0) 1)
  obtain ⟨c134, A135, q136, S137, M138, H139, U140⟩ := id V133
  obtain ⟨T141, h142, X143, e144, W145, st146⟩ := stC X121 hx hZ e122 A135 (j := (46 : Int32)) (inb_of S137 ⟨(by decide), (by decide)⟩) (g := (mkF m 445 #[iv p0, iv p1, iv p2, iv p3, iv p4, iv cc0, iv cc1, iv cc2, iv cc3, iv 4, .unset, .unset] [(.int 113), (.int 46), (.ref pa), (.ref pa)])) rfl rfl (hb hby at_445)
  have N147 := Fr.snoc X143 N125 nw_pa
  have V148 : Arv Z h142 pa kk .char (80 : Int32) (List.replicate 47 (Value.int (113 : Int32))) (.int 0) := Arv.set A135 q136 S137 M138 H139 U140 rfl W145 46 rfl (leB rfl)
  have hr151 := CHr.wr W145 (Safe.arv hZ.alike V126 (by decide)) H127
  have H149 := hr151.1
  have CH150 := CH128.trans hr151
  have Z152 : n0 ≤ h142.size := by rw [W145.size]; exact Z130
  have hk153 := Nat.le_trans hk131 (Nat.le_of_eq W145.size.symm)
  have O154 := O132.wr W145 nw_pa
  refine Way.by st146 ?_
  show Way _ _ _ _ (T141.setTop (mkF m 446 #[iv p0, iv p1, iv p2, iv p3, iv p4, iv cc0, iv cc1, iv cc2, iv cc3, iv 4, .unset, .unset] [(.ref pa)]))
  try clear X121 e122 N125 V126 H127 CH128 Z130 hk131 O132 V133 c134 A135 q136 S137 M138 H139 U140 W145 st146 hr151
  try clear T119 h120
  refine Way.by (fun _ k => XS.dup X143.here hx rfl (hb hby at_446) rfl rfl k) ?_
  show Way _ _ _ _ (T141.setTop (mkF m 447 #[iv p0, iv p1, iv p2, iv p3, iv p4, iv cc0, iv cc1, iv cc2, iv cc3, iv 4, .unset, .unset] [(.ref pa), (.ref pa)]))
  refine Way.by (fun _ k => XS.bipush X143.here hx rfl (hb hby at_447) k) ?_
  show Way _ _ _ _ (T141.setTop (mkF m 449 #[iv p0, iv p1, iv p2, iv p3, iv p4, iv cc0, iv cc1, iv cc2, iv cc3, iv 4, .unset, .unset] [(.int 47), (.ref pa), (.ref pa)]))
  refine Way.by (fun _ k => XS.bipush X143.here hx rfl (hb hby at_449) k) ?_
  show Way _ _ _ _ (T141.setTop (mkF m 451 #[iv p0, iv p1, iv p2, iv p3, iv p4, iv cc0, iv cc1, iv cc2, iv cc3, iv 4, .unset, .unset] [(.int 113), (.int 47), (.ref pa), (.ref pa)]))
  have V155 : Arv Z h142 pa kk .char (80 : Int32) (List.replicate 47 (Value.int (113 : Int32)) ++ [(.int 0)]) (.int 0) := V148.pad (pad_rep (List.replicate 47 (Value.int (113 : Int32))) (.int 0) 1)
  obtain ⟨c156, A157, q158, S159, M160, H161, U162⟩ := id V155
  obtain ⟨T163, h164, X165, e166, W167, st168⟩ := stC X143 hx hZ e144 A157 (j := (47 : Int32)) (inb_of S159 ⟨(by decide), (by decide)⟩) (g := (mkF m 451 #[iv p0, iv p1, iv p2, iv p3, iv p4, iv cc0, iv cc1, iv cc2, iv cc3, iv 4, .unset, .unset] [(.int 113), (.int 47), (.ref pa), (.ref pa)])) rfl rfl (hb hby at_451)
  have N169 := Fr.snoc X165 N147 nw_pa
  have V170 : Arv Z h164 pa kk .char (80 : Int32) (List.replicate 48 (Value.int (113 : Int32))) (.int 0) := Arv.set A157 q158 S159 M160 H161 U162 rfl W167 47 rfl (leB rfl)
  have hr173 := CHr.wr W167 (Safe.arv hZ.alike V148 (by decide)) H149
  have H171 := hr173.1
  have CH172 := CH150.trans hr173
  have Z174 : n0 ≤ h164.size := by rw [W167.size]; exact Z152
  have hk175 := Nat.le_trans hk153 (Nat.le_of_eq W167.size.symm)
  have O176 := O154.wr W167 nw_pa
  refine Way.by st168 ?_
  show Way _ _ _ _ (T163.setTop (mkF m 452 #[iv p0, iv p1, iv p2, iv p3, iv p4, iv cc0, iv cc1, iv cc2, iv cc3, iv 4, .unset, .unset] [(.ref pa)]))
  try clear X143 e144 N147 V148 H149 CH150 Z152 hk153 O154 V155 c156 A157 q158 S159 M160 H161 U162 W167 st168 hr173
  try clear T141 h142
  refine Way.by (fun _ k => XS.dup X165.here hx rfl (hb hby at_452) rfl rfl k) ?_
  show Way _ _ _ _ (T163.setTop (mkF m 453 #[iv p0, iv p1, iv p2, iv p3, iv p4, iv cc0, iv cc1, iv cc2, iv cc3, iv 4, .unset, .unset] [(.ref pa), (.ref pa)]))
  refine Way.by (fun _ k => XS.bipush X165.here hx rfl (hb hby at_453) k) ?_
  show Way _ _ _ _ (T163.setTop (mkF m 455 #[iv p0, iv p1, iv p2, iv p3, iv p4, iv cc0, iv cc1, iv cc2, iv cc3, iv 4, .unset, .unset] [(.int 48), (.ref pa), (.ref pa)]))
  refine Way.by (fun _ k => XS.bipush X165.here hx rfl (hb hby at_455) k) ?_
  show Way _ _ _ _ (T163.setTop (mkF m 457 #[iv p0, iv p1, iv p2, iv p3, iv p4, iv cc0, iv cc1, iv cc2, iv cc3, iv 4, .unset, .unset] [(.int 113), (.int 48), (.ref pa), (.ref pa)]))
  have V177 : Arv Z h164 pa kk .char (80 : Int32) (List.replicate 48 (Value.int (113 : Int32)) ++ [(.int 0)]) (.int 0) := V170.pad (pad_rep (List.replicate 48 (Value.int (113 : Int32))) (.int 0) 1)
  obtain ⟨c178, A179, q180, S181, M182, H183, U184⟩ := id V177
  obtain ⟨T185, h186, X187, e188, W189, st190⟩ := stC X165 hx hZ e166 A179 (j := (48 : Int32)) (inb_of S181 ⟨(by decide), (by decide)⟩) (g := (mkF m 457 #[iv p0, iv p1, iv p2, iv p3, iv p4, iv cc0, iv cc1, iv cc2, iv cc3, iv 4, .unset, .unset] [(.int 113), (.int 48), (.ref pa), (.ref pa)])) rfl rfl (hb hby at_457)
  have N191 := Fr.snoc X187 N169 nw_pa
  have V192 : Arv Z h186 pa kk .char (80 : Int32) (List.replicate 49 (Value.int (113 : Int32))) (.int 0) := Arv.set A179 q180 S181 M182 H183 U184 rfl W189 48 rfl (leB rfl)
  have hr195 := CHr.wr W189 (Safe.arv hZ.alike V170 (by decide)) H171
  have H193 := hr195.1
  have CH194 := CH172.trans hr195
  have Z196 : n0 ≤ h186.size := by rw [W189.size]; exact Z174
  have hk197 := Nat.le_trans hk175 (Nat.le_of_eq W189.size.symm)
  have O198 := O176.wr W189 nw_pa
  refine Way.by st190 ?_
  show Way _ _ _ _ (T185.setTop (mkF m 458 #[iv p0, iv p1, iv p2, iv p3, iv p4, iv cc0, iv cc1, iv cc2, iv cc3, iv 4, .unset, .unset] [(.ref pa)]))
  try clear X165 e166 N169 V170 H171 CH172 Z174 hk175 O176 V177 c178 A179 q180 S181 M182 H183 U184 W189 st190 hr195
  try clear T163 h164
  refine Way.by (fun _ k => XS.dup X187.here hx rfl (hb hby at_458) rfl rfl k) ?_
  show Way _ _ _ _ (T185.setTop (mkF m 459 #[iv p0, iv p1, iv p2, iv p3, iv p4, iv cc0, iv cc1, iv cc2, iv cc3, iv 4, .unset, .unset] [(.ref pa), (.ref pa)]))
  refine Way.by (fun _ k => XS.bipush X187.here hx rfl (hb hby at_459) k) ?_
  show Way _ _ _ _ (T185.setTop (mkF m 461 #[iv p0, iv p1, iv p2, iv p3, iv p4, iv cc0, iv cc1, iv cc2, iv cc3, iv 4, .unset, .unset] [(.int 49), (.ref pa), (.ref pa)]))
  refine Way.by (fun _ k => XS.bipush X187.here hx rfl (hb hby at_461) k) ?_
  show Way _ _ _ _ (T185.setTop (mkF m 463 #[iv p0, iv p1, iv p2, iv p3, iv p4, iv cc0, iv cc1, iv cc2, iv cc3, iv 4, .unset, .unset] [(.int 113), (.int 49), (.ref pa), (.ref pa)]))
  have V199 : Arv Z h186 pa kk .char (80 : Int32) (List.replicate 49 (Value.int (113 : Int32)) ++ [(.int 0)]) (.int 0) := V192.pad (pad_rep (List.replicate 49 (Value.int (113 : Int32))) (.int 0) 1)
  obtain ⟨c200, A201, q202, S203, M204, H205, U206⟩ := id V199
  obtain ⟨T207, h208, X209, e210, W211, st212⟩ := stC X187 hx hZ e188 A201 (j := (49 : Int32)) (inb_of S203 ⟨(by decide), (by decide)⟩) (g := (mkF m 463 #[iv p0, iv p1, iv p2, iv p3, iv p4, iv cc0, iv cc1, iv cc2, iv cc3, iv 4, .unset, .unset] [(.int 113), (.int 49), (.ref pa), (.ref pa)])) rfl rfl (hb hby at_463)
  have N213 := Fr.snoc X209 N191 nw_pa
  have V214 : Arv Z h208 pa kk .char (80 : Int32) (List.replicate 50 (Value.int (113 : Int32))) (.int 0) := Arv.set A201 q202 S203 M204 H205 U206 rfl W211 49 rfl (leB rfl)
  have hr217 := CHr.wr W211 (Safe.arv hZ.alike V192 (by decide)) H193
  have H215 := hr217.1
  have CH216 := CH194.trans hr217
  have Z218 : n0 ≤ h208.size := by rw [W211.size]; exact Z196
  have hk219 := Nat.le_trans hk197 (Nat.le_of_eq W211.size.symm)
  have O220 := O198.wr W211 nw_pa
  refine Way.by st212 ?_
  show Way _ _ _ _ (T207.setTop (mkF m 464 #[iv p0, iv p1, iv p2, iv p3, iv p4, iv cc0, iv cc1, iv cc2, iv cc3, iv 4, .unset, .unset] [(.ref pa)]))
  try clear X187 e188 N191 V192 H193 CH194 Z196 hk197 O198 V199 c200 A201 q202 S203 M204 H205 U206 W211 st212 hr217
  try clear T185 h186
  refine Way.by (fun _ k => XS.dup X209.here hx rfl (hb hby at_464) rfl rfl k) ?_
  show Way _ _ _ _ (T207.setTop (mkF m 465 #[iv p0, iv p1, iv p2, iv p3, iv p4, iv cc0, iv cc1, iv cc2, iv cc3, iv 4, .unset, .unset] [(.ref pa), (.ref pa)]))
  refine Way.by (fun _ k => XS.bipush X209.here hx rfl (hb hby at_465) k) ?_
  show Way _ _ _ _ (T207.setTop (mkF m 467 #[iv p0, iv p1, iv p2, iv p3, iv p4, iv cc0, iv cc1, iv cc2, iv cc3, iv 4, .unset, .unset] [(.int 50), (.ref pa), (.ref pa)]))
  refine Way.by (fun _ k => XS.bipush X209.here hx rfl (hb hby at_467) k) ?_
  show Way _ _ _ _ (T207.setTop (mkF m 469 #[iv p0, iv p1, iv p2, iv p3, iv p4, iv cc0, iv cc1, iv cc2, iv cc3, iv 4, .unset, .unset] [(.int 113), (.int 50), (.ref pa), (.ref pa)]))
  have V221 : Arv Z h208 pa kk .char (80 : Int32) (List.replicate 50 (Value.int (113 : Int32)) ++ [(.int 0)]) (.int 0) := V214.pad (pad_rep (List.replicate 50 (Value.int (113 : Int32))) (.int 0) 1)
  obtain ⟨c222, A223, q224, S225, M226, H227, U228⟩ := id V221
  obtain ⟨T229, h230, X231, e232, W233, st234⟩ := stC X209 hx hZ e210 A223 (j := (50 : Int32)) (inb_of S225 ⟨(by decide), (by decide)⟩) (g := (mkF m 469 #[iv p0, iv p1, iv p2, iv p3, iv p4, iv cc0, iv cc1, iv cc2, iv cc3, iv 4, .unset, .unset] [(.int 113), (.int 50), (.ref pa), (.ref pa)])) rfl rfl (hb hby at_469)
  have N235 := Fr.snoc X231 N213 nw_pa
  have V236 : Arv Z h230 pa kk .char (80 : Int32) (List.replicate 51 (Value.int (113 : Int32))) (.int 0) := Arv.set A223 q224 S225 M226 H227 U228 rfl W233 50 rfl (leB rfl)
  have hr239 := CHr.wr W233 (Safe.arv hZ.alike V214 (by decide)) H215
  have H237 := hr239.1
  have CH238 := CH216.trans hr239
  have Z240 : n0 ≤ h230.size := by rw [W233.size]; exact Z218
  have hk241 := Nat.le_trans hk219 (Nat.le_of_eq W233.size.symm)
  have O242 := O220.wr W233 nw_pa
  refine Way.by st234 ?_
  show Way _ _ _ _ (T229.setTop (mkF m 470 #[iv p0, iv p1, iv p2, iv p3, iv p4, iv cc0, iv cc1, iv cc2, iv cc3, iv 4, .unset, .unset] [(.ref pa)]))
  try clear X209 e210 N213 V214 H215 CH216 Z218 hk219 O220 V221 c222 A223 q224 S225 M226 H227 U228 W233 st234 hr239
  try clear T207 h208
  refine Way.by (fun _ k => XS.dup X231.here hx rfl (hb hby at_470) rfl rfl k) ?_
  show Way _ _ _ _ (T229.setTop (mkF m 471 #[iv p0, iv p1, iv p2, iv p3, iv p4, iv cc0, iv cc1, iv cc2, iv cc3, iv 4, .unset, .unset] [(.ref pa), (.ref pa)]))
  refine Way.by (fun _ k => XS.bipush X231.here hx rfl (hb hby at_471) k) ?_
  show Way _ _ _ _ (T229.setTop (mkF m 473 #[iv p0, iv p1, iv p2, iv p3, iv p4, iv cc0, iv cc1, iv cc2, iv cc3, iv 4, .unset, .unset] [(.int 51), (.ref pa), (.ref pa)]))
  refine Way.by (fun _ k => XS.bipush X231.here hx rfl (hb hby at_473) k) ?_
  show Way _ _ _ _ (T229.setTop (mkF m 475 #[iv p0, iv p1, iv p2, iv p3, iv p4, iv cc0, iv cc1, iv cc2, iv cc3, iv 4, .unset, .unset] [(.int 113), (.int 51), (.ref pa), (.ref pa)]))
  have V243 : Arv Z h230 pa kk .char (80 : Int32) (List.replicate 51 (Value.int (113 : Int32)) ++ [(.int 0)]) (.int 0) := V236.pad (pad_rep (List.replicate 51 (Value.int (113 : Int32))) (.int 0) 1)
  obtain ⟨c244, A245, q246, S247, M248, H249, U250⟩ := id V243
  obtain ⟨T251, h252, X253, e254, W255, st256⟩ := stC X231 hx hZ e232 A245 (j := (51 : Int32)) (inb_of S247 ⟨(by decide), (by decide)⟩) (g := (mkF m 475 #[iv p0, iv p1, iv p2, iv p3, iv p4, iv cc0, iv cc1, iv cc2, iv cc3, iv 4, .unset, .unset] [(.int 113), (.int 51), (.ref pa), (.ref pa)])) rfl rfl (hb hby at_475)
  have N257 := Fr.snoc X253 N235 nw_pa
  have V258 : Arv Z h252 pa kk .char (80 : Int32) (List.replicate 52 (Value.int (113 : Int32))) (.int 0) := Arv.set A245 q246 S247 M248 H249 U250 rfl W255 51 rfl (leB rfl)
  have hr261 := CHr.wr W255 (Safe.arv hZ.alike V236 (by decide)) H237
  have H259 := hr261.1
  have CH260 := CH238.trans hr261
  have Z262 : n0 ≤ h252.size := by rw [W255.size]; exact Z240
  have hk263 := Nat.le_trans hk241 (Nat.le_of_eq W255.size.symm)
  have O264 := O242.wr W255 nw_pa
  refine Way.by st256 ?_
  show Way _ _ _ _ (T251.setTop (mkF m 476 #[iv p0, iv p1, iv p2, iv p3, iv p4, iv cc0, iv cc1, iv cc2, iv cc3, iv 4, .unset, .unset] [(.ref pa)]))
  try clear X231 e232 N235 V236 H237 CH238 Z240 hk241 O242 V243 c244 A245 q246 S247 M248 H249 U250 W255 st256 hr261
  try clear T229 h230
  refine Way.by (fun _ k => XS.dup X253.here hx rfl (hb hby at_476) rfl rfl k) ?_
  show Way _ _ _ _ (T251.setTop (mkF m 477 #[iv p0, iv p1, iv p2, iv p3, iv p4, iv cc0, iv cc1, iv cc2, iv cc3, iv 4, .unset, .unset] [(.ref pa), (.ref pa)]))
  refine Way.by (fun _ k => XS.bipush X253.here hx rfl (hb hby at_477) k) ?_
  show Way _ _ _ _ (T251.setTop (mkF m 479 #[iv p0, iv p1, iv p2, iv p3, iv p4, iv cc0, iv cc1, iv cc2, iv cc3, iv 4, .unset, .unset] [(.int 52), (.ref pa), (.ref pa)]))
  refine Way.by (fun _ k => XS.bipush X253.here hx rfl (hb hby at_479) k) ?_
  show Way _ _ _ _ (T251.setTop (mkF m 481 #[iv p0, iv p1, iv p2, iv p3, iv p4, iv cc0, iv cc1, iv cc2, iv cc3, iv 4, .unset, .unset] [(.int 113), (.int 52), (.ref pa), (.ref pa)]))
  have V265 : Arv Z h252 pa kk .char (80 : Int32) (List.replicate 52 (Value.int (113 : Int32)) ++ [(.int 0)]) (.int 0) := V258.pad (pad_rep (List.replicate 52 (Value.int (113 : Int32))) (.int 0) 1)
  obtain ⟨c266, A267, q268, S269, M270, H271, U272⟩ := id V265
  obtain ⟨T273, h274, X275, e276, W277, st278⟩ := stC X253 hx hZ e254 A267 (j := (52 : Int32)) (inb_of S269 ⟨(by decide), (by decide)⟩) (g := (mkF m 481 #[iv p0, iv p1, iv p2, iv p3, iv p4, iv cc0, iv cc1, iv cc2, iv cc3, iv 4, .unset, .unset] [(.int 113), (.int 52), (.ref pa), (.ref pa)])) rfl rfl (hb hby at_481)
  have N279 := Fr.snoc X275 N257 nw_pa
  have V280 : Arv Z h274 pa kk .char (80 : Int32) (List.replicate 53 (Value.int (113 : Int32))) (.int 0) := Arv.set A267 q268 S269 M270 H271 U272 rfl W277 52 rfl (leB rfl)
  have hr283 := CHr.wr W277 (Safe.arv hZ.alike V258 (by decide)) H259
  have H281 := hr283.1
  have CH282 := CH260.trans hr283
  have Z284 : n0 ≤ h274.size := by rw [W277.size]; exact Z262
  have hk285 := Nat.le_trans hk263 (Nat.le_of_eq W277.size.symm)
  have O286 := O264.wr W277 nw_pa
  refine Way.by st278 ?_
  show Way _ _ _ _ (T273.setTop (mkF m 482 #[iv p0, iv p1, iv p2, iv p3, iv p4, iv cc0, iv cc1, iv cc2, iv cc3, iv 4, .unset, .unset] [(.ref pa)]))
  try clear X253 e254 N257 V258 H259 CH260 Z262 hk263 O264 V265 c266 A267 q268 S269 M270 H271 U272 W277 st278 hr283
  try clear T251 h252
  refine Way.by (fun _ k => XS.dup X275.here hx rfl (hb hby at_482) rfl rfl k) ?_
  show Way _ _ _ _ (T273.setTop (mkF m 483 #[iv p0, iv p1, iv p2, iv p3, iv p4, iv cc0, iv cc1, iv cc2, iv cc3, iv 4, .unset, .unset] [(.ref pa), (.ref pa)]))
  refine Way.by (fun _ k => XS.bipush X275.here hx rfl (hb hby at_483) k) ?_
  show Way _ _ _ _ (T273.setTop (mkF m 485 #[iv p0, iv p1, iv p2, iv p3, iv p4, iv cc0, iv cc1, iv cc2, iv cc3, iv 4, .unset, .unset] [(.int 53), (.ref pa), (.ref pa)]))
  refine Way.by (fun _ k => XS.bipush X275.here hx rfl (hb hby at_485) k) ?_
  show Way _ _ _ _ (T273.setTop (mkF m 487 #[iv p0, iv p1, iv p2, iv p3, iv p4, iv cc0, iv cc1, iv cc2, iv cc3, iv 4, .unset, .unset] [(.int 113), (.int 53), (.ref pa), (.ref pa)]))
  have V287 : Arv Z h274 pa kk .char (80 : Int32) (List.replicate 53 (Value.int (113 : Int32)) ++ [(.int 0)]) (.int 0) := V280.pad (pad_rep (List.replicate 53 (Value.int (113 : Int32))) (.int 0) 1)
  obtain ⟨c288, A289, q290, S291, M292, H293, U294⟩ := id V287
  obtain ⟨T295, h296, X297, e298, W299, st300⟩ := stC X275 hx hZ e276 A289 (j := (53 : Int32)) (inb_of S291 ⟨(by decide), (by decide)⟩) (g := (mkF m 487 #[iv p0, iv p1, iv p2, iv p3, iv p4, iv cc0, iv cc1, iv cc2, iv cc3, iv 4, .unset, .unset] [(.int 113), (.int 53), (.ref pa), (.ref pa)])) rfl rfl (hb hby at_487)
  have N301 := Fr.snoc X297 N279 nw_pa
  have V302 : Arv Z h296 pa kk .char (80 : Int32) (List.replicate 54 (Value.int (113 : Int32))) (.int 0) := Arv.set A289 q290 S291 M292 H293 U294 rfl W299 53 rfl (leB rfl)
  have hr305 := CHr.wr W299 (Safe.arv hZ.alike V280 (by decide)) H281
  have H303 := hr305.1
  have CH304 := CH282.trans hr305
  have Z306 : n0 ≤ h296.size := by rw [W299.size]; exact Z284
  have hk307 := Nat.le_trans hk285 (Nat.le_of_eq W299.size.symm)
  have O308 := O286.wr W299 nw_pa
  refine Way.by st300 ?_
  show Way _ _ _ _ (T295.setTop (mkF m 488 #[iv p0, iv p1, iv p2, iv p3, iv p4, iv cc0, iv cc1, iv cc2, iv cc3, iv 4, .unset, .unset] [(.ref pa)]))
  try clear X275 e276 N279 V280 H281 CH282 Z284 hk285 O286 V287 c288 A289 q290 S291 M292 H293 U294 W299 st300 hr305
  try clear T273 h274
  refine Way.by (fun _ k => XS.dup X297.here hx rfl (hb hby at_488) rfl rfl k) ?_
  show Way _ _ _ _ (T295.setTop (mkF m 489 #[iv p0, iv p1, iv p2, iv p3, iv p4, iv cc0, iv cc1, iv cc2, iv cc3, iv 4, .unset, .unset] [(.ref pa), (.ref pa)]))
  refine Way.by (fun _ k => XS.bipush X297.here hx rfl (hb hby at_489) k) ?_
  show Way _ _ _ _ (T295.setTop (mkF m 491 #[iv p0, iv p1, iv p2, iv p3, iv p4, iv cc0, iv cc1, iv cc2, iv cc3, iv 4, .unset, .unset] [(.int 54), (.ref pa), (.ref pa)]))
  refine Way.by (fun _ k => XS.bipush X297.here hx rfl (hb hby at_491) k) ?_
  show Way _ _ _ _ (T295.setTop (mkF m 493 #[iv p0, iv p1, iv p2, iv p3, iv p4, iv cc0, iv cc1, iv cc2, iv cc3, iv 4, .unset, .unset] [(.int 113), (.int 54), (.ref pa), (.ref pa)]))
  have V309 : Arv Z h296 pa kk .char (80 : Int32) (List.replicate 54 (Value.int (113 : Int32)) ++ [(.int 0)]) (.int 0) := V302.pad (pad_rep (List.replicate 54 (Value.int (113 : Int32))) (.int 0) 1)
  obtain ⟨c310, A311, q312, S313, M314, H315, U316⟩ := id V309
  obtain ⟨T317, h318, X319, e320, W321, st322⟩ := stC X297 hx hZ e298 A311 (j := (54 : Int32)) (inb_of S313 ⟨(by decide), (by decide)⟩) (g := (mkF m 493 #[iv p0, iv p1, iv p2, iv p3, iv p4, iv cc0, iv cc1, iv cc2, iv cc3, iv 4, .unset, .unset] [(.int 113), (.int 54), (.ref pa), (.ref pa)])) rfl rfl (hb hby at_493)
  have N323 := Fr.snoc X319 N301 nw_pa
  have V324 : Arv Z h318 pa kk .char (80 : Int32) (List.replicate 55 (Value.int (113 : Int32))) (.int 0) := Arv.set A311 q312 S313 M314 H315 U316 rfl W321 54 rfl (leB rfl)
  have hr327 := CHr.wr W321 (Safe.arv hZ.alike V302 (by decide)) H303
  have H325 := hr327.1
  have CH326 := CH304.trans hr327
  have Z328 : n0 ≤ h318.size := by rw [W321.size]; exact Z306
  have hk329 := Nat.le_trans hk307 (Nat.le_of_eq W321.size.symm)
  have O330 := O308.wr W321 nw_pa
  refine Way.by st322 ?_
  show Way _ _ _ _ (T317.setTop (mkF m 494 #[iv p0, iv p1, iv p2, iv p3, iv p4, iv cc0, iv cc1, iv cc2, iv cc3, iv 4, .unset, .unset] [(.ref pa)]))
  try clear X297 e298 N301 V302 H303 CH304 Z306 hk307 O308 V309 c310 A311 q312 S313 M314 H315 U316 W321 st322 hr327
  try clear T295 h296
  refine Way.by (fun _ k => XS.dup X319.here hx rfl (hb hby at_494) rfl rfl k) ?_
  show Way _ _ _ _ (T317.setTop (mkF m 495 #[iv p0, iv p1, iv p2, iv p3, iv p4, iv cc0, iv cc1, iv cc2, iv cc3, iv 4, .unset, .unset] [(.ref pa), (.ref pa)]))
  refine Way.by (fun _ k => XS.bipush X319.here hx rfl (hb hby at_495) k) ?_
  show Way _ _ _ _ (T317.setTop (mkF m 497 #[iv p0, iv p1, iv p2, iv p3, iv p4, iv cc0, iv cc1, iv cc2, iv cc3, iv 4, .unset, .unset] [(.int 55), (.ref pa), (.ref pa)]))
  refine Way.by (fun _ k => XS.bipush X319.here hx rfl (hb hby at_497) k) ?_
  show Way _ _ _ _ (T317.setTop (mkF m 499 #[iv p0, iv p1, iv p2, iv p3, iv p4, iv cc0, iv cc1, iv cc2, iv cc3, iv 4, .unset, .unset] [(.int 113), (.int 55), (.ref pa), (.ref pa)]))
  have V331 : Arv Z h318 pa kk .char (80 : Int32) (List.replicate 55 (Value.int (113 : Int32)) ++ [(.int 0)]) (.int 0) := V324.pad (pad_rep (List.replicate 55 (Value.int (113 : Int32))) (.int 0) 1)
  obtain ⟨c332, A333, q334, S335, M336, H337, U338⟩ := id V331
  obtain ⟨T339, h340, X341, e342, W343, st344⟩ := stC X319 hx hZ e320 A333 (j := (55 : Int32)) (inb_of S335 ⟨(by decide), (by decide)⟩) (g := (mkF m 499 #[iv p0, iv p1, iv p2, iv p3, iv p4, iv cc0, iv cc1, iv cc2, iv cc3, iv 4, .unset, .unset] [(.int 113), (.int 55), (.ref pa), (.ref pa)])) rfl rfl (hb hby at_499)
  have N345 := Fr.snoc X341 N323 nw_pa
  have V346 : Arv Z h340 pa kk .char (80 : Int32) (List.replicate 56 (Value.int (113 : Int32))) (.int 0) := Arv.set A333 q334 S335 M336 H337 U338 rfl W343 55 rfl (leB rfl)
  have hr349 := CHr.wr W343 (Safe.arv hZ.alike V324 (by decide)) H325
  have H347 := hr349.1
  have CH348 := CH326.trans hr349
  have Z350 : n0 ≤ h340.size := by rw [W343.size]; exact Z328
  have hk351 := Nat.le_trans hk329 (Nat.le_of_eq W343.size.symm)
  have O352 := O330.wr W343 nw_pa
  refine Way.by st344 ?_
  show Way _ _ _ _ (T339.setTop (mkF m 500 #[iv p0, iv p1, iv p2, iv p3, iv p4, iv cc0, iv cc1, iv cc2, iv cc3, iv 4, .unset, .unset] [(.ref pa)]))
  try clear X319 e320 N323 V324 H325 CH326 Z328 hk329 O330 V331 c332 A333 q334 S335 M336 H337 U338 W343 st344 hr349
  try clear T317 h318
  refine Way.by (fun _ k => XS.dup X341.here hx rfl (hb hby at_500) rfl rfl k) ?_
  show Way _ _ _ _ (T339.setTop (mkF m 501 #[iv p0, iv p1, iv p2, iv p3, iv p4, iv cc0, iv cc1, iv cc2, iv cc3, iv 4, .unset, .unset] [(.ref pa), (.ref pa)]))
  refine Way.by (fun _ k => XS.bipush X341.here hx rfl (hb hby at_501) k) ?_
  show Way _ _ _ _ (T339.setTop (mkF m 503 #[iv p0, iv p1, iv p2, iv p3, iv p4, iv cc0, iv cc1, iv cc2, iv cc3, iv 4, .unset, .unset] [(.int 56), (.ref pa), (.ref pa)]))
  refine Way.by (fun _ k => XS.bipush X341.here hx rfl (hb hby at_503) k) ?_
  show Way _ _ _ _ (T339.setTop (mkF m 505 #[iv p0, iv p1, iv p2, iv p3, iv p4, iv cc0, iv cc1, iv cc2, iv cc3, iv 4, .unset, .unset] [(.int 113), (.int 56), (.ref pa), (.ref pa)]))
  have V353 : Arv Z h340 pa kk .char (80 : Int32) (List.replicate 56 (Value.int (113 : Int32)) ++ [(.int 0)]) (.int 0) := V346.pad (pad_rep (List.replicate 56 (Value.int (113 : Int32))) (.int 0) 1)
  obtain ⟨c354, A355, q356, S357, M358, H359, U360⟩ := id V353
  obtain ⟨T361, h362, X363, e364, W365, st366⟩ := stC X341 hx hZ e342 A355 (j := (56 : Int32)) (inb_of S357 ⟨(by decide), (by decide)⟩) (g := (mkF m 505 #[iv p0, iv p1, iv p2, iv p3, iv p4, iv cc0, iv cc1, iv cc2, iv cc3, iv 4, .unset, .unset] [(.int 113), (.int 56), (.ref pa), (.ref pa)])) rfl rfl (hb hby at_505)
  have N367 := Fr.snoc X363 N345 nw_pa
  have V368 : Arv Z h362 pa kk .char (80 : Int32) (List.replicate 57 (Value.int (113 : Int32))) (.int 0) := Arv.set A355 q356 S357 M358 H359 U360 rfl W365 56 rfl (leB rfl)
  have hr371 := CHr.wr W365 (Safe.arv hZ.alike V346 (by decide)) H347
  have H369 := hr371.1
  have CH370 := CH348.trans hr371
  have Z372 : n0 ≤ h362.size := by rw [W365.size]; exact Z350
  have hk373 := Nat.le_trans hk351 (Nat.le_of_eq W365.size.symm)
  have O374 := O352.wr W365 nw_pa
  refine Way.by st366 ?_
  show Way _ _ _ _ (T361.setTop (mkF m 506 #[iv p0, iv p1, iv p2, iv p3, iv p4, iv cc0, iv cc1, iv cc2, iv cc3, iv 4, .unset, .unset] [(.ref pa)]))
  try clear X341 e342 N345 V346 H347 CH348 Z350 hk351 O352 V353 c354 A355 q356 S357 M358 H359 U360 W365 st366 hr371
  try clear T339 h340
  refine Way.by (fun _ k => XS.dup X363.here hx rfl (hb hby at_506) rfl rfl k) ?_
  show Way _ _ _ _ (T361.setTop (mkF m 507 #[iv p0, iv p1, iv p2, iv p3, iv p4, iv cc0, iv cc1, iv cc2, iv cc3, iv 4, .unset, .unset] [(.ref pa), (.ref pa)]))
  refine Way.by (fun _ k => XS.bipush X363.here hx rfl (hb hby at_507) k) ?_
  show Way _ _ _ _ (T361.setTop (mkF m 509 #[iv p0, iv p1, iv p2, iv p3, iv p4, iv cc0, iv cc1, iv cc2, iv cc3, iv 4, .unset, .unset] [(.int 57), (.ref pa), (.ref pa)]))
  refine Way.by (fun _ k => XS.bipush X363.here hx rfl (hb hby at_509) k) ?_
  show Way _ _ _ _ (T361.setTop (mkF m 511 #[iv p0, iv p1, iv p2, iv p3, iv p4, iv cc0, iv cc1, iv cc2, iv cc3, iv 4, .unset, .unset] [(.int 113), (.int 57), (.ref pa), (.ref pa)]))
  have V375 : Arv Z h362 pa kk .char (80 : Int32) (List.replicate 57 (Value.int (113 : Int32)) ++ [(.int 0)]) (.int 0) := V368.pad (pad_rep (List.replicate 57 (Value.int (113 : Int32))) (.int 0) 1)
  obtain ⟨c376, A377, q378, S379, M380, H381, U382⟩ := id V375
  obtain ⟨T383, h384, X385, e386, W387, st388⟩ := stC X363 hx hZ e364 A377 (j := (57 : Int32)) (inb_of S379 ⟨(by decide), (by decide)⟩) (g := (mkF m 511 #[iv p0, iv p1, iv p2, iv p3, iv p4, iv cc0, iv cc1, iv cc2, iv cc3, iv 4, .unset, .unset] [(.int 113), (.int 57), (.ref pa), (.ref pa)])) rfl rfl (hb hby at_511)
  have N389 := Fr.snoc X385 N367 nw_pa
  have V390 : Arv Z h384 pa kk .char (80 : Int32) (List.replicate 58 (Value.int (113 : Int32))) (.int 0) := Arv.set A377 q378 S379 M380 H381 U382 rfl W387 57 rfl (leB rfl)
  have hr393 := CHr.wr W387 (Safe.arv hZ.alike V368 (by decide)) H369
  have H391 := hr393.1
  have CH392 := CH370.trans hr393
  have Z394 : n0 ≤ h384.size := by rw [W387.size]; exact Z372
  have hk395 := Nat.le_trans hk373 (Nat.le_of_eq W387.size.symm)
  have O396 := O374.wr W387 nw_pa
  refine Way.by st388 ?_
  show Way _ _ _ _ (T383.setTop (mkF m 512 #[iv p0, iv p1, iv p2, iv p3, iv p4, iv cc0, iv cc1, iv cc2, iv cc3, iv 4, .unset, .unset] [(.ref pa)]))
  try clear X363 e364 N367 V368 H369 CH370 Z372 hk373 O374 V375 c376 A377 q378 S379 M380 H381 U382 W387 st388 hr393
  try clear T361 h362
  refine Way.by (fun _ k => XS.dup X385.here hx rfl (hb hby at_512) rfl rfl k) ?_
  show Way _ _ _ _ (T383.setTop (mkF m 513 #[iv p0, iv p1, iv p2, iv p3, iv p4, iv cc0, iv cc1, iv cc2, iv cc3, iv 4, .unset, .unset] [(.ref pa), (.ref pa)]))
  refine Way.by (fun _ k => XS.bipush X385.here hx rfl (hb hby at_513) k) ?_
  show Way _ _ _ _ (T383.setTop (mkF m 515 #[iv p0, iv p1, iv p2, iv p3, iv p4, iv cc0, iv cc1, iv cc2, iv cc3, iv 4, .unset, .unset] [(.int 58), (.ref pa), (.ref pa)]))
  refine Way.by (fun _ k => XS.bipush X385.here hx rfl (hb hby at_515) k) ?_
  show Way _ _ _ _ (T383.setTop (mkF m 517 #[iv p0, iv p1, iv p2, iv p3, iv p4, iv cc0, iv cc1, iv cc2, iv cc3, iv 4, .unset, .unset] [(.int 113), (.int 58), (.ref pa), (.ref pa)]))
  have V397 : Arv Z h384 pa kk .char (80 : Int32) (List.replicate 58 (Value.int (113 : Int32)) ++ [(.int 0)]) (.int 0) := V390.pad (pad_rep (List.replicate 58 (Value.int (113 : Int32))) (.int 0) 1)
  obtain ⟨c398, A399, q400, S401, M402, H403, U404⟩ := id V397
  obtain ⟨T405, h406, X407, e408, W409, st410⟩ := stC X385 hx hZ e386 A399 (j := (58 : Int32)) (inb_of S401 ⟨(by decide), (by decide)⟩) (g := (mkF m 517 #[iv p0, iv p1, iv p2, iv p3, iv p4, iv cc0, iv cc1, iv cc2, iv cc3, iv 4, .unset, .unset] [(.int 113), (.int 58), (.ref pa), (.ref pa)])) rfl rfl (hb hby at_517)
  have N411 := Fr.snoc X407 N389 nw_pa
  have V412 : Arv Z h406 pa kk .char (80 : Int32) (List.replicate 59 (Value.int (113 : Int32))) (.int 0) := Arv.set A399 q400 S401 M402 H403 U404 rfl W409 58 rfl (leB rfl)
  have hr415 := CHr.wr W409 (Safe.arv hZ.alike V390 (by decide)) H391
  have H413 := hr415.1
  have CH414 := CH392.trans hr415
  have Z416 : n0 ≤ h406.size := by rw [W409.size]; exact Z394
  have hk417 := Nat.le_trans hk395 (Nat.le_of_eq W409.size.symm)
  have O418 := O396.wr W409 nw_pa
  refine Way.by st410 ?_
  show Way _ _ _ _ (T405.setTop (mkF m 518 #[iv p0, iv p1, iv p2, iv p3, iv p4, iv cc0, iv cc1, iv cc2, iv cc3, iv 4, .unset, .unset] [(.ref pa)]))
  try clear X385 e386 N389 V390 H391 CH392 Z394 hk395 O396 V397 c398 A399 q400 S401 M402 H403 U404 W409 st410 hr415
  try clear T383 h384
  refine Way.by (fun _ k => XS.dup X407.here hx rfl (hb hby at_518) rfl rfl k) ?_
  show Way _ _ _ _ (T405.setTop (mkF m 519 #[iv p0, iv p1, iv p2, iv p3, iv p4, iv cc0, iv cc1, iv cc2, iv cc3, iv 4, .unset, .unset] [(.ref pa), (.ref pa)]))
  refine Way.by (fun _ k => XS.bipush X407.here hx rfl (hb hby at_519) k) ?_
  show Way _ _ _ _ (T405.setTop (mkF m 521 #[iv p0, iv p1, iv p2, iv p3, iv p4, iv cc0, iv cc1, iv cc2, iv cc3, iv 4, .unset, .unset] [(.int 59), (.ref pa), (.ref pa)]))
  refine Way.by (fun _ k => XS.bipush X407.here hx rfl (hb hby at_521) k) ?_
  show Way _ _ _ _ (T405.setTop (mkF m 523 #[iv p0, iv p1, iv p2, iv p3, iv p4, iv cc0, iv cc1, iv cc2, iv cc3, iv 4, .unset, .unset] [(.int 113), (.int 59), (.ref pa), (.ref pa)]))
  have V419 : Arv Z h406 pa kk .char (80 : Int32) (List.replicate 59 (Value.int (113 : Int32)) ++ [(.int 0)]) (.int 0) := V412.pad (pad_rep (List.replicate 59 (Value.int (113 : Int32))) (.int 0) 1)
  obtain ⟨c420, A421, q422, S423, M424, H425, U426⟩ := id V419
  obtain ⟨T427, h428, X429, e430, W431, st432⟩ := stC X407 hx hZ e408 A421 (j := (59 : Int32)) (inb_of S423 ⟨(by decide), (by decide)⟩) (g := (mkF m 523 #[iv p0, iv p1, iv p2, iv p3, iv p4, iv cc0, iv cc1, iv cc2, iv cc3, iv 4, .unset, .unset] [(.int 113), (.int 59), (.ref pa), (.ref pa)])) rfl rfl (hb hby at_523)
  have N433 := Fr.snoc X429 N411 nw_pa
  have V434 : Arv Z h428 pa kk .char (80 : Int32) (List.replicate 60 (Value.int (113 : Int32))) (.int 0) := Arv.set A421 q422 S423 M424 H425 U426 rfl W431 59 rfl (leB rfl)
  have hr437 := CHr.wr W431 (Safe.arv hZ.alike V412 (by decide)) H413
  have H435 := hr437.1
  have CH436 := CH414.trans hr437
  have Z438 : n0 ≤ h428.size := by rw [W431.size]; exact Z416
  have hk439 := Nat.le_trans hk417 (Nat.le_of_eq W431.size.symm)
  have O440 := O418.wr W431 nw_pa
  refine Way.by st432 ?_
  show Way _ _ _ _ (T427.setTop (mkF m 524 #[iv p0, iv p1, iv p2, iv p3, iv p4, iv cc0, iv cc1, iv cc2, iv cc3, iv 4, .unset, .unset] [(.ref pa)]))
  try clear X407 e408 N411 V412 H413 CH414 Z416 hk417 O418 V419 c420 A421 q422 S423 M424 H425 U426 W431 st432 hr437
  try clear T405 h406
  exact segW3 l Z a0 hw ws p0 p1 p2 p3 p4 h0 n0 Z0 O0 SV p e s m below meth c s₁ Bd hml _ hZ hown _ hS hh T427 h428 _ X429 e430 N433 Z438 hk439 H435 CH436 O440 cc0 cc1 cc2 cc3 pa kk V434 ok0 ok1 ok2 ok3 nw_pa
set_option maxRecDepth 65536 in
set_option maxHeartbeats 40000000 in
theorem segW1 (l : Launch) (Z : State) (a0 : Array Value) (hw : ∀ d ∈ tables_1, d.before a0 Z = true) (ws : List Jvm.Cond) (p0 p1 p2 p3 p4 : Int32) (h0 : Heap) (n0 : Nat) (Z0 : n0 ≤ h0.size) (O0 : Old Z n0 h0) (SV : own_Env Z)
    (p : Program) (e : Env) (s : State) (m : MethodId) (below : List Frame) (meth : Method) (c : Code) (s₁ : State) (Bd : BodyLoose p l x (head1 (Jvm.Cond.code x code maxLocals ret :: ws) room_1) code maxLocals ret e s m #[(.int p0), (.int p1), (.int p2), (.int p3), (.int p4)] below meth c s₁) (hml : c.maxLocals = 12)
    (vm0 : Vm) (hZ : Z.Warmed39 (s.setVm vm0).vm) (hown : (s.setVm vm0).vm.findClass "com/example/outbox/outbox/QueueNameOfPinLaw" = some m.cls) (k0 : Nat) (hS : s.Since vm0 k0) (hh : s.heap = h0)
    (T : State) (h : Heap) (locs : List Loc) (X : Stand p l e room_1 (s.setVm vm0) m #[(.int p0), (.int p1), (.int p2), (.int p3), (.int p4)] below meth c T locs 1 80) (eT : T.heap = h) (N : Fr n0 locs) (Zh : n0 ≤ h.size) (hk : k0 ≤ h.size) (H : CHv Z own_EL vm0 h) (CH : CHr Z own_EL s.vm h0 vm0 h) (O : Old Z n0 h) (cc0 : Int32) (cc1 : Int32) (cc2 : Int32) (cc3 : Int32) (pa : Addr) (kk : ClassId) (J0 : Arv Z h pa kk .char (80 : Int32) (List.replicate 20 (Value.int (113 : Int32))) (.int 0)) (ok0 : own_ok cc0) (ok1 : own_ok cc1) (ok2 : own_ok cc2) (ok3 : own_ok cc3) (nw_pa : n0 ≤ pa) :
    Way p.tables e below (KQH s Z own_EL (Q0 n0) room_1.cells room_1.slots) (T.setTop (mkF m 284 #[iv p0, iv p1, iv p2, iv p3, iv p4, iv cc0, iv cc1, iv cc2, iv cc3, iv 4, .unset, .unset] [(.ref pa)])) := by
  have hx := Bd.exec
  have hby := Bd.bytes
  have hlk : meth.locks = false := BodyLoose.notSynchronized Bd
  have hnm := (name_of_methodNamed Bd.named Bd.method).1
  have wS : ∀ d ∈ Bundle.stringAtoms, d.before a0 Z = true := fun d hd => hw d (own_wS d hd)
  have hEL : EW Z a0 own_EL := own_EW hw
  refine Way.by (fun _ k => XS.dup X.here hx rfl (hb hby at_284) rfl rfl k) ?_
  show Way _ _ _ _ (T.setTop (mkF m 285 #[iv p0, iv p1, iv p2, iv p3, iv p4, iv cc0, iv cc1, iv cc2, iv cc3, iv 4, .unset, .unset] [(.ref pa), (.ref pa)]))
  refine Way.by (fun _ k => XS.bipush X.here hx rfl (hb hby at_285) k) ?_
  show Way _ _ _ _ (T.setTop (mkF m 287 #[iv p0, iv p1, iv p2, iv p3, iv p4, iv cc0, iv cc1, iv cc2, iv cc3, iv 4, .unset, .unset] [(.int 20), (.ref pa), (.ref pa)]))
  refine Way.by (fun _ k => XS.bipush X.here hx rfl (hb hby at_287) k) ?_
  show Way _ _ _ _ (T.setTop (mkF m 289 #[iv p0, iv p1, iv p2, iv p3, iv p4, iv cc0, iv cc1, iv cc2, iv cc3, iv 4, .unset, .unset] [(.int 113), (.int 20), (.ref pa), (.ref pa)]))
  have V1 : Arv Z h pa kk .char (80 : Int32) (List.replicate 20 (Value.int (113 : Int32)) ++ [(.int 0)]) (.int 0) := J0.pad (pad_rep (List.replicate 20 (Value.int (113 : Int32))) (.int 0) 1)
  obtain ⟨c2, A3, q4, S5, M6, H7, U8⟩ := id V1
  obtain ⟨T9, h10, X11, e12, W13, st14⟩ := stC X hx hZ eT A3 (j := (20 : Int32)) (inb_of S5 ⟨(by decide), (by decide)⟩) (g := (mkF m 289 #[iv p0, iv p1, iv p2, iv p3, iv p4, iv cc0, iv cc1, iv cc2, iv cc3, iv 4, .unset, .unset] [(.int 113), (.int 20), (.ref pa), (.ref pa)])) rfl rfl (hb hby at_289)
  have N15 := Fr.snoc X11 N nw_pa
  have V16 : Arv Z h10 pa kk .char (80 : Int32) (List.replicate 21 (Value.int (113 : Int32))) (.int 0) := Arv.set A3 q4 S5 M6 H7 U8 rfl W13 20 rfl (leB rfl)
  have hr19 := CHr.wr W13 (Safe.arv hZ.alike J0 (by decide)) H
  have H17 := hr19.1
  have CH18 := CH.trans hr19
  have Z20 : n0 ≤ h10.size := by rw [W13.size]; exact Zh
  have hk21 := Nat.le_trans hk (Nat.le_of_eq W13.size.symm)
  have O22 := O.wr W13 nw_pa
  refine Way.by st14 ?_
  show Way _ _ _ _ (T9.setTop (mkF m 290 #[iv p0, iv p1, iv p2, iv p3, iv p4, iv cc0, iv cc1, iv cc2, iv cc3, iv 4, .unset, .unset] [(.ref pa)]))
  try clear V1 c2 A3 q4 S5 M6 H7 U8 W13 st14 hr19
  refine Way.by (fun _ k => XS.dup X11.here hx rfl (hb hby at_290) rfl rfl k) ?_
  show Way _ _ _ _ (T9.setTop (mkF m 291 #[iv p0, iv p1, iv p2, iv p3, iv p4, iv cc0, iv cc1, iv cc2, iv cc3, iv 4, .unset, .unset] [(.ref pa), (.ref pa)]))
  refine Way.by (fun _ k => XS.bipush X11.here hx rfl (hb hby at_291) k) ?_
  show Way _ _ _ _ (T9.setTop (mkF m 293 #[iv p0, iv p1, iv p2, iv p3, iv p4, iv cc0, iv cc1, iv cc2, iv cc3, iv 4, .unset, .unset] [(.int 21), (.ref pa), (.ref pa)]))
  refine Way.by (fun _ k => XS.bipush X11.here hx rfl (hb hby at_293) k) ?_
  show Way _ _ _ _ (T9.setTop (mkF m 295 #[iv p0, iv p1, iv p2, iv p3, iv p4, iv cc0, iv cc1, iv cc2, iv cc3, iv 4, .unset, .unset] [(.int 113), (.int 21), (.ref pa), (.ref pa)]))
  have V23 : Arv Z h10 pa kk .char (80 : Int32) (List.replicate 21 (Value.int (113 : Int32)) ++ [(.int 0)]) (.int 0) := V16.pad (pad_rep (List.replicate 21 (Value.int (113 : Int32))) (.int 0) 1)
  obtain ⟨c24, A25, q26, S27, M28, H29, U30⟩ := id V23
  obtain ⟨T31, h32, X33, e34, W35, st36⟩ := stC X11 hx hZ e12 A25 (j := (21 : Int32)) (inb_of S27 ⟨(by decide), (by decide)⟩) (g := (mkF m 295 #[iv p0, iv p1, iv p2, iv p3, iv p4, iv cc0, iv cc1, iv cc2, iv cc3, iv 4, .unset, .unset] [(.int 113), (.int 21), (.ref pa), (.ref pa)])) rfl rfl (hb hby at_295)
  have N37 := Fr.snoc X33 N15 nw_pa
  have V38 : Arv Z h32 pa kk .char (80 : Int32) (List.replicate 22 (Value.int (113 : Int32))) (.int 0) := Arv.set A25 q26 S27 M28 H29 U30 rfl W35 21 rfl (leB rfl)
  have hr41 := CHr.wr W35 (Safe.arv hZ.alike V16 (by decide)) H17
  have H39 := hr41.1
  have CH40 := CH18.trans hr41
  have Z42 : n0 ≤ h32.size := by rw [W35.size]; exact Z20
  have hk43 := Nat.le_trans hk21 (Nat.le_of_eq W35.size.symm)
  have O44 := O22.wr W35 nw_pa
  refine Way.by st36 ?_
  show Way _ _ _ _ (T31.setTop (mkF m 296 #[iv p0, iv p1, iv p2, iv p3, iv p4, iv cc0, iv cc1, iv cc2, iv cc3, iv 4, .unset, .unset] [(.ref pa)]))
  try clear X11 e12 N15 V16 H17 CH18 Z20 hk21 O22 V23 c24 A25 q26 S27 M28 H29 U30 W35 st36 hr41
  try clear T9 h10
  refine Way.by (fun _ k => XS.dup X33.here hx rfl (hb hby at_296) rfl rfl k) ?_
  show Way _ _ _ _ (T31.setTop (mkF m 297 #[iv p0, iv p1, iv p2, iv p3, iv p4, iv cc0, iv cc1, iv cc2, iv cc3, iv 4, .unset, .unset] [(.ref pa), (.ref pa)]))
  refine Way.by (fun _ k => XS.bipush X33.here hx rfl (hb hby at_297) k) ?_
  show Way _ _ _ _ (T31.setTop (mkF m 299 #[iv p0, iv p1, iv p2, iv p3, iv p4, iv cc0, iv cc1, iv cc2, iv cc3, iv 4, .unset, .unset] [(.int 22), (.ref pa), (.ref pa)]))
  refine Way.by (fun _ k => XS.bipush X33.here hx rfl (hb hby at_299) k) ?_
  show Way _ _ _ _ (T31.setTop (mkF m 301 #[iv p0, iv p1, iv p2, iv p3, iv p4, iv cc0, iv cc1, iv cc2, iv cc3, iv 4, .unset, .unset] [(.int 113), (.int 22), (.ref pa), (.ref pa)]))
  have V45 : Arv Z h32 pa kk .char (80 : Int32) (List.replicate 22 (Value.int (113 : Int32)) ++ [(.int 0)]) (.int 0) := V38.pad (pad_rep (List.replicate 22 (Value.int (113 : Int32))) (.int 0) 1)
  obtain ⟨c46, A47, q48, S49, M50, H51, U52⟩ := id V45
  obtain ⟨T53, h54, X55, e56, W57, st58⟩ := stC X33 hx hZ e34 A47 (j := (22 : Int32)) (inb_of S49 ⟨(by decide), (by decide)⟩) (g := (mkF m 301 #[iv p0, iv p1, iv p2, iv p3, iv p4, iv cc0, iv cc1, iv cc2, iv cc3, iv 4, .unset, .unset] [(.int 113), (.int 22), (.ref pa), (.ref pa)])) rfl rfl (hb hby at_301)
  have N59 := Fr.snoc X55 N37 nw_pa
  have V60 : Arv Z h54 pa kk .char (80 : Int32) (List.replicate 23 (Value.int (113 : Int32))) (.int 0) := Arv.set A47 q48 S49 M50 H51 U52 rfl W57 22 rfl (leB rfl)
  have hr63 := CHr.wr W57 (Safe.arv hZ.alike V38 (by decide)) H39
  have H61 := hr63.1
  have CH62 := CH40.trans hr63
  have Z64 : n0 ≤ h54.size := by rw [W57.size]; exact Z42
  have hk65 := Nat.le_trans hk43 (Nat.le_of_eq W57.size.symm)
  have O66 := O44.wr W57 nw_pa
  refine Way.by st58 ?_
  show Way _ _ _ _ (T53.setTop (mkF m 302 #[iv p0, iv p1, iv p2, iv p3, iv p4, iv cc0, iv cc1, iv cc2, iv cc3, iv 4, .unset, .unset] [(.ref pa)]))
  try clear X33 e34 N37 V38 H39 CH40 Z42 hk43 O44 V45 c46 A47 q48 S49 M50 H51 U52 W57 st58 hr63
  try clear T31 h32
  refine Way.by (fun _ k => XS.dup X55.here hx rfl (hb hby at_302) rfl rfl k) ?_
  show Way _ _ _ _ (T53.setTop (mkF m 303 #[iv p0, iv p1, iv p2, iv p3, iv p4, iv cc0, iv cc1, iv cc2, iv cc3, iv 4, .unset, .unset] [(.ref pa), (.ref pa)]))
  refine Way.by (fun _ k => XS.bipush X55.here hx rfl (hb hby at_303) k) ?_
  show Way _ _ _ _ (T53.setTop (mkF m 305 #[iv p0, iv p1, iv p2, iv p3, iv p4, iv cc0, iv cc1, iv cc2, iv cc3, iv 4, .unset, .unset] [(.int 23), (.ref pa), (.ref pa)]))
  refine Way.by (fun _ k => XS.bipush X55.here hx rfl (hb hby at_305) k) ?_
  show Way _ _ _ _ (T53.setTop (mkF m 307 #[iv p0, iv p1, iv p2, iv p3, iv p4, iv cc0, iv cc1, iv cc2, iv cc3, iv 4, .unset, .unset] [(.int 113), (.int 23), (.ref pa), (.ref pa)]))
  have V67 : Arv Z h54 pa kk .char (80 : Int32) (List.replicate 23 (Value.int (113 : Int32)) ++ [(.int 0)]) (.int 0) := V60.pad (pad_rep (List.replicate 23 (Value.int (113 : Int32))) (.int 0) 1)
  obtain ⟨c68, A69, q70, S71, M72, H73, U74⟩ := id V67
  obtain ⟨T75, h76, X77, e78, W79, st80⟩ := stC X55 hx hZ e56 A69 (j := (23 : Int32)) (inb_of S71 ⟨(by decide), (by decide)⟩) (g := (mkF m 307 #[iv p0, iv p1, iv p2, iv p3, iv p4, iv cc0, iv cc1, iv cc2, iv cc3, iv 4, .unset, .unset] [(.int 113), (.int 23), (.ref pa), (.ref pa)])) rfl rfl (hb hby at_307)
  have N81 := Fr.snoc X77 N59 nw_pa
  have V82 : Arv Z h76 pa kk .char (80 : Int32) (List.replicate 24 (Value.int (113 : Int32))) (.int 0) := Arv.set A69 q70 S71 M72 H73 U74 rfl W79 23 rfl (leB rfl)
  have hr85 := CHr.wr W79 (Safe.arv hZ.alike V60 (by decide)) H61
  have H83 := hr85.1
  have CH84 := CH62.trans hr85
  have Z86 : n0 ≤ h76.size := by rw [W79.size]; exact Z64
  have hk87 := Nat.le_trans hk65 (Nat.le_of_eq W79.size.symm)
  have O88 := O66.wr W79 nw_pa
  refine Way.by st80 ?_
  show Way _ _ _ _ (T75.setTop (mkF m 308 #[iv p0, iv p1, iv p2, iv p3, iv p4, iv cc0, iv cc1, iv cc2, iv cc3, iv 4, .unset, .unset] [(.ref pa)]))
  try clear X55 e56 N59 V60 H61 CH62 Z64 hk65 O66 V67 c68 A69 q70 S71 M72 H73 U74 W79 st80 hr85
  try clear T53 h54
  refine Way.by (fun _ k => XS.dup X77.here hx rfl (hb hby at_308) rfl rfl k) ?_
  show Way _ _ _ _ (T75.setTop (mkF m 309 #[iv p0, iv p1, iv p2, iv p3, iv p4, iv cc0, iv cc1, iv cc2, iv cc3, iv 4, .unset, .unset] [(.ref pa), (.ref pa)]))
  refine Way.by (fun _ k => XS.bipush X77.here hx rfl (hb hby at_309) k) ?_
  show Way _ _ _ _ (T75.setTop (mkF m 311 #[iv p0, iv p1, iv p2, iv p3, iv p4, iv cc0, iv cc1, iv cc2, iv cc3, iv 4, .unset, .unset] [(.int 24), (.ref pa), (.ref pa)]))
  refine Way.by (fun _ k => XS.bipush X77.here hx rfl (hb hby at_311) k) ?_
  show Way _ _ _ _ (T75.setTop (mkF m 313 #[iv p0, iv p1, iv p2, iv p3, iv p4, iv cc0, iv cc1, iv cc2, iv cc3, iv 4, .unset, .unset] [(.int 113), (.int 24), (.ref pa), (.ref pa)]))
  have V89 : Arv Z h76 pa kk .char (80 : Int32) (List.replicate 24 (Value.int (113 : Int32)) ++ [(.int 0)]) (.int 0) := V82.pad (pad_rep (List.replicate 24 (Value.int (113 : Int32))) (.int 0) 1)
  obtain ⟨c90, A91, q92, S93, M94, H95, U96⟩ := id V89
  obtain ⟨T97, h98, X99, e100, W101, st102⟩ := stC X77 hx hZ e78 A91 (j := (24 : Int32)) (inb_of S93 ⟨(by decide), (by decide)⟩) (g := (mkF m 313 #[iv p0, iv p1, iv p2, iv p3, iv p4, iv cc0, iv cc1, iv cc2, iv cc3, iv 4, .unset, .unset] [(.int 113), (.int 24), (.ref pa), (.ref pa)])) rfl rfl (hb hby at_313)
  have N103 := Fr.snoc X99 N81 nw_pa
  have V104 : Arv Z h98 pa kk .char (80 : Int32) (List.replicate 25 (Value.int (113 : Int32))) (.int 0) := Arv.set A91 q92 S93 M94 H95 U96 rfl W101 24 rfl (leB rfl)
  have hr107 := CHr.wr W101 (Safe.arv hZ.alike V82 (by decide)) H83
  have H105 := hr107.1
  have CH106 := CH84.trans hr107
  have Z108 : n0 ≤ h98.size := by rw [W101.size]; exact Z86
  have hk109 := Nat.le_trans hk87 (Nat.le_of_eq W101.size.symm)
  have O110 := O88.wr W101 nw_pa
  refine Way.by st102 ?_
  show Way _ _ _ _ (T97.setTop (mkF m 314 #[iv p0, iv p1, iv p2, iv p3, iv p4, iv cc0, iv cc1, iv cc2, iv cc3, iv 4, .unset, .unset] [(.ref pa)]))
  try clear X77 e78 N81 V82 H83 CH84 Z86 hk87 O88 V89 c90 A91 q92 S93 M94 H95 U96 W101 st102 hr107
  try clear T75 h76
  refine Way.by (fun _ k => XS.dup X99.here hx rfl (hb hby at_314) rfl rfl k) ?_
  show Way _ _ _ _ (T97.setTop (mkF m 315 #[iv p0, iv p1, iv p2, iv p3, iv p4, iv cc0, iv cc1, iv cc2, iv cc3, iv 4, .unset, .unset] [(.ref pa), (.ref pa)]))
  refine Way.by (fun _ k => XS.bipush X99.here hx rfl (hb hby at_315) k) ?_
  show Way _ _ _ _ (T97.setTop (mkF m 317 #[iv p0, iv p1, iv p2, iv p3, iv p4, iv cc0, iv cc1, iv cc2, iv cc3, iv 4, .unset, .unset] [(.int 25), (.ref pa), (.ref pa)]))
  refine Way.by (fun _ k => XS.bipush X99.here hx rfl (hb hby at_317) k) ?_
  show Way _ _ _ _ (T97.setTop (mkF m 319 #[iv p0, iv p1, iv p2, iv p3, iv p4, iv cc0, iv cc1, iv cc2, iv cc3, iv 4, .unset, .unset] [(.int 113), (.int 25), (.ref pa), (.ref pa)]))
  have V111 : Arv Z h98 pa kk .char (80 : Int32) (List.replicate 25 (Value.int (113 : Int32)) ++ [(.int 0)]) (.int 0) := V104.pad (pad_rep (List.replicate 25 (Value.int (113 : Int32))) (.int 0) 1)
  obtain ⟨c112, A113, q114, S115, M116, H117, U118⟩ := id V111
  obtain ⟨T119, h120, X121, e122, W123, st124⟩ := stC X99 hx hZ e100 A113 (j := (25 : Int32)) (inb_of S115 ⟨(by decide), (by decide)⟩) (g := (mkF m 319 #[iv p0, iv p1, iv p2, iv p3, iv p4, iv cc0, iv cc1, iv cc2, iv cc3, iv 4, .unset, .unset] [(.int 113), (.int 25), (.ref pa), (.ref pa)])) rfl rfl (hb hby at_319)
  have N125 := Fr.snoc X121 N103 nw_pa
  have V126 : Arv Z h120 pa kk .char (80 : Int32) (List.replicate 26 (Value.int (113 : Int32))) (.int 0) := Arv.set A113 q114 S115 M116 H117 U118 rfl W123 25 rfl (leB rfl)
  have hr129 := CHr.wr W123 (Safe.arv hZ.alike V104 (by decide)) H105
  have H127 := hr129.1
  have CH128 := CH106.trans hr129
  have Z130 : n0 ≤ h120.size := by rw [W123.size]; exact Z108
  have hk131 := Nat.le_trans hk109 (Nat.le_of_eq W123.size.symm)
  have O132 := O110.wr W123 nw_pa
  refine Way.by st124 ?_
  show Way _ _ _ _ (T119.setTop (mkF m 320 #[iv p0, iv p1, iv p2, iv p3, iv p4, iv cc0, iv cc1, iv cc2, iv cc3, iv 4, .unset, .unset] [(.ref pa)]))
  try clear X99 e100 N103 V104 H105 CH106 Z108 hk109 O110 V111 c112 A113 q114 S115 M116 H117 U118 W123 st124 hr129
  try clear T97 h98
  refine Way.by (fun _ k => XS.dup X121.here hx rfl (hb hby at_320) rfl rfl k) ?_
  show Way _ _ _ _ (T119.setTop (mkF m 321 #[iv p0, iv p1, iv p2, iv p3, iv p4, iv cc0, iv cc1, iv cc2, iv cc3, iv 4, .unset, .unset] [(.ref pa), (.ref pa)]))
  refine Way.by (fun _ k => XS.bipush X121.here hx rfl (hb hby at_321) k) ?_
  show Way _ _ _ _ (T119.setTop (mkF m 323 #[iv p0, iv p1, iv p2, iv p3, iv p4, iv cc0, iv cc1, iv cc2, iv cc3, iv 4, .unset, .unset] [(.int 26), (.ref pa), (.ref pa)]))
  refine Way.by (fun _ k => XS.bipush X121.here hx rfl (hb hby at_323) k) ?_
  show Way _ _ _ _ (T119.setTop (mkF m 325 #[iv p0, iv p1, iv p2, iv p3, iv p4, iv cc0, iv cc1, iv cc2, iv cc3, iv 4, .unset, .unset] [(.int 113), (.int 26), (.ref pa), (.ref pa)]))
  have V133 : Arv Z h120 pa kk .char (80 : Int32) (List.replicate 26 (Value.int (113 : Int32)) ++ [(.int 0)]) (.int 0) := V126.pad (pad_rep (List.replicate 26 (Value.int (113 : Int32))) (.int 0) 1)
  obtain ⟨c134, A135, q136, S137, M138, H139, U140⟩ := id V133
  obtain ⟨T141, h142, X143, e144, W145, st146⟩ := stC X121 hx hZ e122 A135 (j := (26 : Int32)) (inb_of S137 ⟨(by decide), (by decide)⟩) (g := (mkF m 325 #[iv p0, iv p1, iv p2, iv p3, iv p4, iv cc0, iv cc1, iv cc2, iv cc3, iv 4, .unset, .unset] [(.int 113), (.int 26), (.ref pa), (.ref pa)])) rfl rfl (hb hby at_325)
  have N147 := Fr.snoc X143 N125 nw_pa
  have V148 : Arv Z h142 pa kk .char (80 : Int32) (List.replicate 27 (Value.int (113 : Int32))) (.int 0) := Arv.set A135 q136 S137 M138 H139 U140 rfl W145 26 rfl (leB rfl)
  have hr151 := CHr.wr W145 (Safe.arv hZ.alike V126 (by decide)) H127
  have H149 := hr151.1
  have CH150 := CH128.trans hr151
  have Z152 : n0 ≤ h142.size := by rw [W145.size]; exact Z130
  have hk153 := Nat.le_trans hk131 (Nat.le_of_eq W145.size.symm)
  have O154 := O132.wr W145 nw_pa
  refine Way.by st146 ?_
  show Way _ _ _ _ (T141.setTop (mkF m 326 #[iv p0, iv p1, iv p2, iv p3, iv p4, iv cc0, iv cc1, iv cc2, iv cc3, iv 4, .unset, .unset] [(.ref pa)]))
  try clear X121 e122 N125 V126 H127 CH128 Z130 hk131 O132 V133 c134 A135 q136 S137 M138 H139 U140 W145 st146 hr151
  try clear T119 h120
  refine Way.by (fun _ k => XS.dup X143.here hx rfl (hb hby at_326) rfl rfl k) ?_
  show Way _ _ _ _ (T141.setTop (mkF m 327 #[iv p0, iv p1, iv p2, iv p3, iv p4, iv cc0, iv cc1, iv cc2, iv cc3, iv 4, .unset, .unset] [(.ref pa), (.ref pa)]))
  refine Way.by (fun _ k => XS.bipush X143.here hx rfl (hb hby at_327) k) ?_
  show Way _ _ _ _ (T141.setTop (mkF m 329 #[iv p0, iv p1, iv p2, iv p3, iv p4, iv cc0, iv cc1, iv cc2, iv cc3, iv 4, .unset, .unset] [(.int 27), (.ref pa), (.ref pa)]))
  refine Way.by (fun _ k => XS.bipush X143.here hx rfl (hb hby at_329) k) ?_
  show Way _ _ _ _ (T141.setTop (mkF m 331 #[iv p0, iv p1, iv p2, iv p3, iv p4, iv cc0, iv cc1, iv cc2, iv cc3, iv 4, .unset, .unset] [(.int 113), (.int 27), (.ref pa), (.ref pa)]))
  have V155 : Arv Z h142 pa kk .char (80 : Int32) (List.replicate 27 (Value.int (113 : Int32)) ++ [(.int 0)]) (.int 0) := V148.pad (pad_rep (List.replicate 27 (Value.int (113 : Int32))) (.int 0) 1)
  obtain ⟨c156, A157, q158, S159, M160, H161, U162⟩ := id V155
  obtain ⟨T163, h164, X165, e166, W167, st168⟩ := stC X143 hx hZ e144 A157 (j := (27 : Int32)) (inb_of S159 ⟨(by decide), (by decide)⟩) (g := (mkF m 331 #[iv p0, iv p1, iv p2, iv p3, iv p4, iv cc0, iv cc1, iv cc2, iv cc3, iv 4, .unset, .unset] [(.int 113), (.int 27), (.ref pa), (.ref pa)])) rfl rfl (hb hby at_331)
  have N169 := Fr.snoc X165 N147 nw_pa
  have V170 : Arv Z h164 pa kk .char (80 : Int32) (List.replicate 28 (Value.int (113 : Int32))) (.int 0) := Arv.set A157 q158 S159 M160 H161 U162 rfl W167 27 rfl (leB rfl)
  have hr173 := CHr.wr W167 (Safe.arv hZ.alike V148 (by decide)) H149
  have H171 := hr173.1
  have CH172 := CH150.trans hr173
  have Z174 : n0 ≤ h164.size := by rw [W167.size]; exact Z152
  have hk175 := Nat.le_trans hk153 (Nat.le_of_eq W167.size.symm)
  have O176 := O154.wr W167 nw_pa
  refine Way.by st168 ?_
  show Way _ _ _ _ (T163.setTop (mkF m 332 #[iv p0, iv p1, iv p2, iv p3, iv p4, iv cc0, iv cc1, iv cc2, iv cc3, iv 4, .unset, .unset] [(.ref pa)]))
  try clear X143 e144 N147 V148 H149 CH150 Z152 hk153 O154 V155 c156 A157 q158 S159 M160 H161 U162 W167 st168 hr173
  try clear T141 h142
  refine Way.by (fun _ k => XS.dup X165.here hx rfl (hb hby at_332) rfl rfl k) ?_
  show Way _ _ _ _ (T163.setTop (mkF m 333 #[iv p0, iv p1, iv p2, iv p3, iv p4, iv cc0, iv cc1, iv cc2, iv cc3, iv 4, .unset, .unset] [(.ref pa), (.ref pa)]))
  refine Way.by (fun _ k => XS.bipush X165.here hx rfl (hb hby at_333) k) ?_
  show Way _ _ _ _ (T163.setTop (mkF m 335 #[iv p0, iv p1, iv p2, iv p3, iv p4, iv cc0, iv cc1, iv cc2, iv cc3, iv 4, .unset, .unset] [(.int 28), (.ref pa), (.ref pa)]))
  refine Way.by (fun _ k => XS.bipush X165.here hx rfl (hb hby at_335) k) ?_
  show Way _ _ _ _ (T163.setTop (mkF m 337 #[iv p0, iv p1, iv p2, iv p3, iv p4, iv cc0, iv cc1, iv cc2, iv cc3, iv 4, .unset, .unset] [(.int 113), (.int 28), (.ref pa), (.ref pa)]))
  have V177 : Arv Z h164 pa kk .char (80 : Int32) (List.replicate 28 (Value.int (113 : Int32)) ++ [(.int 0)]) (.int 0) := V170.pad (pad_rep (List.replicate 28 (Value.int (113 : Int32))) (.int 0) 1)
  obtain ⟨c178, A179, q180, S181, M182, H183, U184⟩ := id V177
  obtain ⟨T185, h186, X187, e188, W189, st190⟩ := stC X165 hx hZ e166 A179 (j := (28 : Int32)) (inb_of S181 ⟨(by decide), (by decide)⟩) (g := (mkF m 337 #[iv p0, iv p1, iv p2, iv p3, iv p4, iv cc0, iv cc1, iv cc2, iv cc3, iv 4, .unset, .unset] [(.int 113), (.int 28), (.ref pa), (.ref pa)])) rfl rfl (hb hby at_337)
  have N191 := Fr.snoc X187 N169 nw_pa
  have V192 : Arv Z h186 pa kk .char (80 : Int32) (List.replicate 29 (Value.int (113 : Int32))) (.int 0) := Arv.set A179 q180 S181 M182 H183 U184 rfl W189 28 rfl (leB rfl)
  have hr195 := CHr.wr W189 (Safe.arv hZ.alike V170 (by decide)) H171
  have H193 := hr195.1
  have CH194 := CH172.trans hr195
  have Z196 : n0 ≤ h186.size := by rw [W189.size]; exact Z174
  have hk197 := Nat.le_trans hk175 (Nat.le_of_eq W189.size.symm)
  have O198 := O176.wr W189 nw_pa
  refine Way.by st190 ?_
  show Way _ _ _ _ (T185.setTop (mkF m 338 #[iv p0, iv p1, iv p2, iv p3, iv p4, iv cc0, iv cc1, iv cc2, iv cc3, iv 4, .unset, .unset] [(.ref pa)]))
  try clear X165 e166 N169 V170 H171 CH172 Z174 hk175 O176 V177 c178 A179 q180 S181 M182 H183 U184 W189 st190 hr195
  try clear T163 h164
  refine Way.by (fun _ k => XS.dup X187.here hx rfl (hb hby at_338) rfl rfl k) ?_
  show Way _ _ _ _ (T185.setTop (mkF m 339 #[iv p0, iv p1, iv p2, iv p3, iv p4, iv cc0, iv cc1, iv cc2, iv cc3, iv 4, .unset, .unset] [(.ref pa), (.ref pa)]))
  refine Way.by (fun _ k => XS.bipush X187.here hx rfl (hb hby at_339) k) ?_
  show Way _ _ _ _ (T185.setTop (mkF m 341 #[iv p0, iv p1, iv p2, iv p3, iv p4, iv cc0, iv cc1, iv cc2, iv cc3, iv 4, .unset, .unset] [(.int 29), (.ref pa), (.ref pa)]))
  refine Way.by (fun _ k => XS.bipush X187.here hx rfl (hb hby at_341) k) ?_
  show Way _ _ _ _ (T185.setTop (mkF m 343 #[iv p0, iv p1, iv p2, iv p3, iv p4, iv cc0, iv cc1, iv cc2, iv cc3, iv 4, .unset, .unset] [(.int 113), (.int 29), (.ref pa), (.ref pa)]))
  have V199 : Arv Z h186 pa kk .char (80 : Int32) (List.replicate 29 (Value.int (113 : Int32)) ++ [(.int 0)]) (.int 0) := V192.pad (pad_rep (List.replicate 29 (Value.int (113 : Int32))) (.int 0) 1)
  obtain ⟨c200, A201, q202, S203, M204, H205, U206⟩ := id V199
  obtain ⟨T207, h208, X209, e210, W211, st212⟩ := stC X187 hx hZ e188 A201 (j := (29 : Int32)) (inb_of S203 ⟨(by decide), (by decide)⟩) (g := (mkF m 343 #[iv p0, iv p1, iv p2, iv p3, iv p4, iv cc0, iv cc1, iv cc2, iv cc3, iv 4, .unset, .unset] [(.int 113), (.int 29), (.ref pa), (.ref pa)])) rfl rfl (hb hby at_343)
  have N213 := Fr.snoc X209 N191 nw_pa
  have V214 : Arv Z h208 pa kk .char (80 : Int32) (List.replicate 30 (Value.int (113 : Int32))) (.int 0) := Arv.set A201 q202 S203 M204 H205 U206 rfl W211 29 rfl (leB rfl)
  have hr217 := CHr.wr W211 (Safe.arv hZ.alike V192 (by decide)) H193
  have H215 := hr217.1
  have CH216 := CH194.trans hr217
  have Z218 : n0 ≤ h208.size := by rw [W211.size]; exact Z196
  have hk219 := Nat.le_trans hk197 (Nat.le_of_eq W211.size.symm)
  have O220 := O198.wr W211 nw_pa
  refine Way.by st212 ?_
  show Way _ _ _ _ (T207.setTop (mkF m 344 #[iv p0, iv p1, iv p2, iv p3, iv p4, iv cc0, iv cc1, iv cc2, iv cc3, iv 4, .unset, .unset] [(.ref pa)]))
  try clear X187 e188 N191 V192 H193 CH194 Z196 hk197 O198 V199 c200 A201 q202 S203 M204 H205 U206 W211 st212 hr217
  try clear T185 h186
  refine Way.by (fun _ k => XS.dup X209.here hx rfl (hb hby at_344) rfl rfl k) ?_
  show Way _ _ _ _ (T207.setTop (mkF m 345 #[iv p0, iv p1, iv p2, iv p3, iv p4, iv cc0, iv cc1, iv cc2, iv cc3, iv 4, .unset, .unset] [(.ref pa), (.ref pa)]))
  refine Way.by (fun _ k => XS.bipush X209.here hx rfl (hb hby at_345) k) ?_
  show Way _ _ _ _ (T207.setTop (mkF m 347 #[iv p0, iv p1, iv p2, iv p3, iv p4, iv cc0, iv cc1, iv cc2, iv cc3, iv 4, .unset, .unset] [(.int 30), (.ref pa), (.ref pa)]))
  refine Way.by (fun _ k => XS.bipush X209.here hx rfl (hb hby at_347) k) ?_
  show Way _ _ _ _ (T207.setTop (mkF m 349 #[iv p0, iv p1, iv p2, iv p3, iv p4, iv cc0, iv cc1, iv cc2, iv cc3, iv 4, .unset, .unset] [(.int 113), (.int 30), (.ref pa), (.ref pa)]))
  have V221 : Arv Z h208 pa kk .char (80 : Int32) (List.replicate 30 (Value.int (113 : Int32)) ++ [(.int 0)]) (.int 0) := V214.pad (pad_rep (List.replicate 30 (Value.int (113 : Int32))) (.int 0) 1)
  obtain ⟨c222, A223, q224, S225, M226, H227, U228⟩ := id V221
  obtain ⟨T229, h230, X231, e232, W233, st234⟩ := stC X209 hx hZ e210 A223 (j := (30 : Int32)) (inb_of S225 ⟨(by decide), (by decide)⟩) (g := (mkF m 349 #[iv p0, iv p1, iv p2, iv p3, iv p4, iv cc0, iv cc1, iv cc2, iv cc3, iv 4, .unset, .unset] [(.int 113), (.int 30), (.ref pa), (.ref pa)])) rfl rfl (hb hby at_349)
  have N235 := Fr.snoc X231 N213 nw_pa
  have V236 : Arv Z h230 pa kk .char (80 : Int32) (List.replicate 31 (Value.int (113 : Int32))) (.int 0) := Arv.set A223 q224 S225 M226 H227 U228 rfl W233 30 rfl (leB rfl)
  have hr239 := CHr.wr W233 (Safe.arv hZ.alike V214 (by decide)) H215
  have H237 := hr239.1
  have CH238 := CH216.trans hr239
  have Z240 : n0 ≤ h230.size := by rw [W233.size]; exact Z218
  have hk241 := Nat.le_trans hk219 (Nat.le_of_eq W233.size.symm)
  have O242 := O220.wr W233 nw_pa
  refine Way.by st234 ?_
  show Way _ _ _ _ (T229.setTop (mkF m 350 #[iv p0, iv p1, iv p2, iv p3, iv p4, iv cc0, iv cc1, iv cc2, iv cc3, iv 4, .unset, .unset] [(.ref pa)]))
  try clear X209 e210 N213 V214 H215 CH216 Z218 hk219 O220 V221 c222 A223 q224 S225 M226 H227 U228 W233 st234 hr239
  try clear T207 h208
  refine Way.by (fun _ k => XS.dup X231.here hx rfl (hb hby at_350) rfl rfl k) ?_
  show Way _ _ _ _ (T229.setTop (mkF m 351 #[iv p0, iv p1, iv p2, iv p3, iv p4, iv cc0, iv cc1, iv cc2, iv cc3, iv 4, .unset, .unset] [(.ref pa), (.ref pa)]))
  refine Way.by (fun _ k => XS.bipush X231.here hx rfl (hb hby at_351) k) ?_
  show Way _ _ _ _ (T229.setTop (mkF m 353 #[iv p0, iv p1, iv p2, iv p3, iv p4, iv cc0, iv cc1, iv cc2, iv cc3, iv 4, .unset, .unset] [(.int 31), (.ref pa), (.ref pa)]))
  refine Way.by (fun _ k => XS.bipush X231.here hx rfl (hb hby at_353) k) ?_
  show Way _ _ _ _ (T229.setTop (mkF m 355 #[iv p0, iv p1, iv p2, iv p3, iv p4, iv cc0, iv cc1, iv cc2, iv cc3, iv 4, .unset, .unset] [(.int 113), (.int 31), (.ref pa), (.ref pa)]))
  have V243 : Arv Z h230 pa kk .char (80 : Int32) (List.replicate 31 (Value.int (113 : Int32)) ++ [(.int 0)]) (.int 0) := V236.pad (pad_rep (List.replicate 31 (Value.int (113 : Int32))) (.int 0) 1)
  obtain ⟨c244, A245, q246, S247, M248, H249, U250⟩ := id V243
  obtain ⟨T251, h252, X253, e254, W255, st256⟩ := stC X231 hx hZ e232 A245 (j := (31 : Int32)) (inb_of S247 ⟨(by decide), (by decide)⟩) (g := (mkF m 355 #[iv p0, iv p1, iv p2, iv p3, iv p4, iv cc0, iv cc1, iv cc2, iv cc3, iv 4, .unset, .unset] [(.int 113), (.int 31), (.ref pa), (.ref pa)])) rfl rfl (hb hby at_355)
  have N257 := Fr.snoc X253 N235 nw_pa
  have V258 : Arv Z h252 pa kk .char (80 : Int32) (List.replicate 32 (Value.int (113 : Int32))) (.int 0) := Arv.set A245 q246 S247 M248 H249 U250 rfl W255 31 rfl (leB rfl)
  have hr261 := CHr.wr W255 (Safe.arv hZ.alike V236 (by decide)) H237
  have H259 := hr261.1
  have CH260 := CH238.trans hr261
  have Z262 : n0 ≤ h252.size := by rw [W255.size]; exact Z240
  have hk263 := Nat.le_trans hk241 (Nat.le_of_eq W255.size.symm)
  have O264 := O242.wr W255 nw_pa
  refine Way.by st256 ?_
  show Way _ _ _ _ (T251.setTop (mkF m 356 #[iv p0, iv p1, iv p2, iv p3, iv p4, iv cc0, iv cc1, iv cc2, iv cc3, iv 4, .unset, .unset] [(.ref pa)]))
  try clear X231 e232 N235 V236 H237 CH238 Z240 hk241 O242 V243 c244 A245 q246 S247 M248 H249 U250 W255 st256 hr261
  try clear T229 h230
  refine Way.by (fun _ k => XS.dup X253.here hx rfl (hb hby at_356) rfl rfl k) ?_
  show Way _ _ _ _ (T251.setTop (mkF m 357 #[iv p0, iv p1, iv p2, iv p3, iv p4, iv cc0, iv cc1, iv cc2, iv cc3, iv 4, .unset, .unset] [(.ref pa), (.ref pa)]))
  refine Way.by (fun _ k => XS.bipush X253.here hx rfl (hb hby at_357) k) ?_
  show Way _ _ _ _ (T251.setTop (mkF m 359 #[iv p0, iv p1, iv p2, iv p3, iv p4, iv cc0, iv cc1, iv cc2, iv cc3, iv 4, .unset, .unset] [(.int 32), (.ref pa), (.ref pa)]))
  refine Way.by (fun _ k => XS.bipush X253.here hx rfl (hb hby at_359) k) ?_
  show Way _ _ _ _ (T251.setTop (mkF m 361 #[iv p0, iv p1, iv p2, iv p3, iv p4, iv cc0, iv cc1, iv cc2, iv cc3, iv 4, .unset, .unset] [(.int 113), (.int 32), (.ref pa), (.ref pa)]))
  have V265 : Arv Z h252 pa kk .char (80 : Int32) (List.replicate 32 (Value.int (113 : Int32)) ++ [(.int 0)]) (.int 0) := V258.pad (pad_rep (List.replicate 32 (Value.int (113 : Int32))) (.int 0) 1)
  obtain ⟨c266, A267, q268, S269, M270, H271, U272⟩ := id V265
  obtain ⟨T273, h274, X275, e276, W277, st278⟩ := stC X253 hx hZ e254 A267 (j := (32 : Int32)) (inb_of S269 ⟨(by decide), (by decide)⟩) (g := (mkF m 361 #[iv p0, iv p1, iv p2, iv p3, iv p4, iv cc0, iv cc1, iv cc2, iv cc3, iv 4, .unset, .unset] [(.int 113), (.int 32), (.ref pa), (.ref pa)])) rfl rfl (hb hby at_361)
  have N279 := Fr.snoc X275 N257 nw_pa
  have V280 : Arv Z h274 pa kk .char (80 : Int32) (List.replicate 33 (Value.int (113 : Int32))) (.int 0) := Arv.set A267 q268 S269 M270 H271 U272 rfl W277 32 rfl (leB rfl)
  have hr283 := CHr.wr W277 (Safe.arv hZ.alike V258 (by decide)) H259
  have H281 := hr283.1
  have CH282 := CH260.trans hr283
  have Z284 : n0 ≤ h274.size := by rw [W277.size]; exact Z262
  have hk285 := Nat.le_trans hk263 (Nat.le_of_eq W277.size.symm)
  have O286 := O264.wr W277 nw_pa
  refine Way.by st278 ?_
  show Way _ _ _ _ (T273.setTop (mkF m 362 #[iv p0, iv p1, iv p2, iv p3, iv p4, iv cc0, iv cc1, iv cc2, iv cc3, iv 4, .unset, .unset] [(.ref pa)]))
  try clear X253 e254 N257 V258 H259 CH260 Z262 hk263 O264 V265 c266 A267 q268 S269 M270 H271 U272 W277 st278 hr283
  try clear T251 h252
  refine Way.by (fun _ k => XS.dup X275.here hx rfl (hb hby at_362) rfl rfl k) ?_
  show Way _ _ _ _ (T273.setTop (mkF m 363 #[iv p0, iv p1, iv p2, iv p3, iv p4, iv cc0, iv cc1, iv cc2, iv cc3, iv 4, .unset, .unset] [(.ref pa), (.ref pa)]))
  refine Way.by (fun _ k => XS.bipush X275.here hx rfl (hb hby at_363) k) ?_
  show Way _ _ _ _ (T273.setTop (mkF m 365 #[iv p0, iv p1, iv p2, iv p3, iv p4, iv cc0, iv cc1, iv cc2, iv cc3, iv 4, .unset, .unset] [(.int 33), (.ref pa), (.ref pa)]))
  refine Way.by (fun _ k => XS.bipush X275.here hx rfl (hb hby at_365) k) ?_
  show Way _ _ _ _ (T273.setTop (mkF m 367 #[iv p0, iv p1, iv p2, iv p3, iv p4, iv cc0, iv cc1, iv cc2, iv cc3, iv 4, .unset, .unset] [(.int 113), (.int 33), (.ref pa), (.ref pa)]))
  have V287 : Arv Z h274 pa kk .char (80 : Int32) (List.replicate 33 (Value.int (113 : Int32)) ++ [(.int 0)]) (.int 0) := V280.pad (pad_rep (List.replicate 33 (Value.int (113 : Int32))) (.int 0) 1)
  obtain ⟨c288, A289, q290, S291, M292, H293, U294⟩ := id V287
  obtain ⟨T295, h296, X297, e298, W299, st300⟩ := stC X275 hx hZ e276 A289 (j := (33 : Int32)) (inb_of S291 ⟨(by decide), (by decide)⟩) (g := (mkF m 367 #[iv p0, iv p1, iv p2, iv p3, iv p4, iv cc0, iv cc1, iv cc2, iv cc3, iv 4, .unset, .unset] [(.int 113), (.int 33), (.ref pa), (.ref pa)])) rfl rfl (hb hby at_367)
  have N301 := Fr.snoc X297 N279 nw_pa
  have V302 : Arv Z h296 pa kk .char (80 : Int32) (List.replicate 34 (Value.int (113 : Int32))) (.int 0) := Arv.set A289 q290 S291 M292 H293 U294 rfl W299 33 rfl (leB rfl)
  have hr305 := CHr.wr W299 (Safe.arv hZ.alike V280 (by decide)) H281
  have H303 := hr305.1
  have CH304 := CH282.trans hr305
  have Z306 : n0 ≤ h296.size := by rw [W299.size]; exact Z284
  have hk307 := Nat.le_trans hk285 (Nat.le_of_eq W299.size.symm)
  have O308 := O286.wr W299 nw_pa
  refine Way.by st300 ?_
  show Way _ _ _ _ (T295.setTop (mkF m 368 #[iv p0, iv p1, iv p2, iv p3, iv p4, iv cc0, iv cc1, iv cc2, iv cc3, iv 4, .unset, .unset] [(.ref pa)]))
  try clear X275 e276 N279 V280 H281 CH282 Z284 hk285 O286 V287 c288 A289 q290 S291 M292 H293 U294 W299 st300 hr305
  try clear T273 h274
  refine Way.by (fun _ k => XS.dup X297.here hx rfl (hb hby at_368) rfl rfl k) ?_
  show Way _ _ _ _ (T295.setTop (mkF m 369 #[iv p0, iv p1, iv p2, iv p3, iv p4, iv cc0, iv cc1, iv cc2, iv cc3, iv 4, .unset, .unset] [(.ref pa), (.ref pa)]))
  refine Way.by (fun _ k => XS.bipush X297.here hx rfl (hb hby at_369) k) ?_
  show Way _ _ _ _ (T295.setTop (mkF m 371 #[iv p0, iv p1, iv p2, iv p3, iv p4, iv cc0, iv cc1, iv cc2, iv cc3, iv 4, .unset, .unset] [(.int 34), (.ref pa), (.ref pa)]))
  refine Way.by (fun _ k => XS.bipush X297.here hx rfl (hb hby at_371) k) ?_
  show Way _ _ _ _ (T295.setTop (mkF m 373 #[iv p0, iv p1, iv p2, iv p3, iv p4, iv cc0, iv cc1, iv cc2, iv cc3, iv 4, .unset, .unset] [(.int 113), (.int 34), (.ref pa), (.ref pa)]))
  have V309 : Arv Z h296 pa kk .char (80 : Int32) (List.replicate 34 (Value.int (113 : Int32)) ++ [(.int 0)]) (.int 0) := V302.pad (pad_rep (List.replicate 34 (Value.int (113 : Int32))) (.int 0) 1)
  obtain ⟨c310, A311, q312, S313, M314, H315, U316⟩ := id V309
  obtain ⟨T317, h318, X319, e320, W321, st322⟩ := stC X297 hx hZ e298 A311 (j := (34 : Int32)) (inb_of S313 ⟨(by decide), (by decide)⟩) (g := (mkF m 373 #[iv p0, iv p1, iv p2, iv p3, iv p4, iv cc0, iv cc1, iv cc2, iv cc3, iv 4, .unset, .unset] [(.int 113), (.int 34), (.ref pa), (.ref pa)])) rfl rfl (hb hby at_373)
  have N323 := Fr.snoc X319 N301 nw_pa
  have V324 : Arv Z h318 pa kk .char (80 : Int32) (List.replicate 35 (Value.int (113 : Int32))) (.int 0) := Arv.set A311 q312 S313 M314 H315 U316 rfl W321 34 rfl (leB rfl)
  have hr327 := CHr.wr W321 (Safe.arv hZ.alike V302 (by decide)) H303
  have H325 := hr327.1
  have CH326 := CH304.trans hr327
  have Z328 : n0 ≤ h318.size := by rw [W321.size]; exact Z306
  have hk329 := Nat.le_trans hk307 (Nat.le_of_eq W321.size.symm)
  have O330 := O308.wr W321 nw_pa
  refine Way.by st322 ?_
  show Way _ _ _ _ (T317.setTop (mkF m 374 #[iv p0, iv p1, iv p2, iv p3, iv p4, iv cc0, iv cc1, iv cc2, iv cc3, iv 4, .unset, .unset] [(.ref pa)]))
  try clear X297 e298 N301 V302 H303 CH304 Z306 hk307 O308 V309 c310 A311 q312 S313 M314 H315 U316 W321 st322 hr327
  try clear T295 h296
  refine Way.by (fun _ k => XS.dup X319.here hx rfl (hb hby at_374) rfl rfl k) ?_
  show Way _ _ _ _ (T317.setTop (mkF m 375 #[iv p0, iv p1, iv p2, iv p3, iv p4, iv cc0, iv cc1, iv cc2, iv cc3, iv 4, .unset, .unset] [(.ref pa), (.ref pa)]))
  refine Way.by (fun _ k => XS.bipush X319.here hx rfl (hb hby at_375) k) ?_
  show Way _ _ _ _ (T317.setTop (mkF m 377 #[iv p0, iv p1, iv p2, iv p3, iv p4, iv cc0, iv cc1, iv cc2, iv cc3, iv 4, .unset, .unset] [(.int 35), (.ref pa), (.ref pa)]))
  refine Way.by (fun _ k => XS.bipush X319.here hx rfl (hb hby at_377) k) ?_
  show Way _ _ _ _ (T317.setTop (mkF m 379 #[iv p0, iv p1, iv p2, iv p3, iv p4, iv cc0, iv cc1, iv cc2, iv cc3, iv 4, .unset, .unset] [(.int 113), (.int 35), (.ref pa), (.ref pa)]))
  have V331 : Arv Z h318 pa kk .char (80 : Int32) (List.replicate 35 (Value.int (113 : Int32)) ++ [(.int 0)]) (.int 0) := V324.pad (pad_rep (List.replicate 35 (Value.int (113 : Int32))) (.int 0) 1)
  obtain ⟨c332, A333, q334, S335, M336, H337, U338⟩ := id V331
  obtain ⟨T339, h340, X341, e342, W343, st344⟩ := stC X319 hx hZ e320 A333 (j := (35 : Int32)) (inb_of S335 ⟨(by decide), (by decide)⟩) (g := (mkF m 379 #[iv p0, iv p1, iv p2, iv p3, iv p4, iv cc0, iv cc1, iv cc2, iv cc3, iv 4, .unset, .unset] [(.int 113), (.int 35), (.ref pa), (.ref pa)])) rfl rfl (hb hby at_379)
  have N345 := Fr.snoc X341 N323 nw_pa
  have V346 : Arv Z h340 pa kk .char (80 : Int32) (List.replicate 36 (Value.int (113 : Int32))) (.int 0) := Arv.set A333 q334 S335 M336 H337 U338 rfl W343 35 rfl (leB rfl)
  have hr349 := CHr.wr W343 (Safe.arv hZ.alike V324 (by decide)) H325
  have H347 := hr349.1
  have CH348 := CH326.trans hr349
  have Z350 : n0 ≤ h340.size := by rw [W343.size]; exact Z328
  have hk351 := Nat.le_trans hk329 (Nat.le_of_eq W343.size.symm)
  have O352 := O330.wr W343 nw_pa
  refine Way.by st344 ?_
  show Way _ _ _ _ (T339.setTop (mkF m 380 #[iv p0, iv p1, iv p2, iv p3, iv p4, iv cc0, iv cc1, iv cc2, iv cc3, iv 4, .unset, .unset] [(.ref pa)]))
  try clear X319 e320 N323 V324 H325 CH326 Z328 hk329 O330 V331 c332 A333 q334 S335 M336 H337 U338 W343 st344 hr349
  try clear T317 h318
  refine Way.by (fun _ k => XS.dup X341.here hx rfl (hb hby at_380) rfl rfl k) ?_
  show Way _ _ _ _ (T339.setTop (mkF m 381 #[iv p0, iv p1, iv p2, iv p3, iv p4, iv cc0, iv cc1, iv cc2, iv cc3, iv 4, .unset, .unset] [(.ref pa), (.ref pa)]))
  refine Way.by (fun _ k => XS.bipush X341.here hx rfl (hb hby at_381) k) ?_
  show Way _ _ _ _ (T339.setTop (mkF m 383 #[iv p0, iv p1, iv p2, iv p3, iv p4, iv cc0, iv cc1, iv cc2, iv cc3, iv 4, .unset, .unset] [(.int 36), (.ref pa), (.ref pa)]))
  refine Way.by (fun _ k => XS.bipush X341.here hx rfl (hb hby at_383) k) ?_
  show Way _ _ _ _ (T339.setTop (mkF m 385 #[iv p0, iv p1, iv p2, iv p3, iv p4, iv cc0, iv cc1, iv cc2, iv cc3, iv 4, .unset, .unset] [(.int 113), (.int 36), (.ref pa), (.ref pa)]))
  have V353 : Arv Z h340 pa kk .char (80 : Int32) (List.replicate 36 (Value.int (113 : Int32)) ++ [(.int 0)]) (.int 0) := V346.pad (pad_rep (List.replicate 36 (Value.int (113 : Int32))) (.int 0) 1)
  obtain ⟨c354, A355, q356, S357, M358, H359, U360⟩ := id V353
  obtain ⟨T361, h362, X363, e364, W365, st366⟩ := stC X341 hx hZ e342 A355 (j := (36 : Int32)) (inb_of S357 ⟨(by decide), (by decide)⟩) (g := (mkF m 385 #[iv p0, iv p1, iv p2, iv p3, iv p4, iv cc0, iv cc1, iv cc2, iv cc3, iv 4, .unset, .unset] [(.int 113), (.int 36), (.ref pa), (.ref pa)])) rfl rfl (hb hby at_385)
  have N367 := Fr.snoc X363 N345 nw_pa
  have V368 : Arv Z h362 pa kk .char (80 : Int32) (List.replicate 37 (Value.int (113 : Int32))) (.int 0) := Arv.set A355 q356 S357 M358 H359 U360 rfl W365 36 rfl (leB rfl)
  have hr371 := CHr.wr W365 (Safe.arv hZ.alike V346 (by decide)) H347
  have H369 := hr371.1
  have CH370 := CH348.trans hr371
  have Z372 : n0 ≤ h362.size := by rw [W365.size]; exact Z350
  have hk373 := Nat.le_trans hk351 (Nat.le_of_eq W365.size.symm)
  have O374 := O352.wr W365 nw_pa
  refine Way.by st366 ?_
  show Way _ _ _ _ (T361.setTop (mkF m 386 #[iv p0, iv p1, iv p2, iv p3, iv p4, iv cc0, iv cc1, iv cc2, iv cc3, iv 4, .unset, .unset] [(.ref pa)]))
  try clear X341 e342 N345 V346 H347 CH348 Z350 hk351 O352 V353 c354 A355 q356 S357 M358 H359 U360 W365 st366 hr371
  try clear T339 h340
  refine Way.by (fun _ k => XS.dup X363.here hx rfl (hb hby at_386) rfl rfl k) ?_
  show Way _ _ _ _ (T361.setTop (mkF m 387 #[iv p0, iv p1, iv p2, iv p3, iv p4, iv cc0, iv cc1, iv cc2, iv cc3, iv 4, .unset, .unset] [(.ref pa), (.ref pa)]))
  refine Way.by (fun _ k => XS.bipush X363.here hx rfl (hb hby at_387) k) ?_
  show Way _ _ _ _ (T361.setTop (mkF m 389 #[iv p0, iv p1, iv p2, iv p3, iv p4, iv cc0, iv cc1, iv cc2, iv cc3, iv 4, .unset, .unset] [(.int 37), (.ref pa), (.ref pa)]))
  refine Way.by (fun _ k => XS.bipush X363.here hx rfl (hb hby at_389) k) ?_
  show Way _ _ _ _ (T361.setTop (mkF m 391 #[iv p0, iv p1, iv p2, iv p3, iv p4, iv cc0, iv cc1, iv cc2, iv cc3, iv 4, .unset, .unset] [(.int 113), (.int 37), (.ref pa), (.ref pa)]))
  have V375 : Arv Z h362 pa kk .char (80 : Int32) (List.replicate 37 (Value.int (113 : Int32)) ++ [(.int 0)]) (.int 0) := V368.pad (pad_rep (List.replicate 37 (Value.int (113 : Int32))) (.int 0) 1)
  obtain ⟨c376, A377, q378, S379, M380, H381, U382⟩ := id V375
  obtain ⟨T383, h384, X385, e386, W387, st388⟩ := stC X363 hx hZ e364 A377 (j := (37 : Int32)) (inb_of S379 ⟨(by decide), (by decide)⟩) (g := (mkF m 391 #[iv p0, iv p1, iv p2, iv p3, iv p4, iv cc0, iv cc1, iv cc2, iv cc3, iv 4, .unset, .unset] [(.int 113), (.int 37), (.ref pa), (.ref pa)])) rfl rfl (hb hby at_391)
  have N389 := Fr.snoc X385 N367 nw_pa
  have V390 : Arv Z h384 pa kk .char (80 : Int32) (List.replicate 38 (Value.int (113 : Int32))) (.int 0) := Arv.set A377 q378 S379 M380 H381 U382 rfl W387 37 rfl (leB rfl)
  have hr393 := CHr.wr W387 (Safe.arv hZ.alike V368 (by decide)) H369
  have H391 := hr393.1
  have CH392 := CH370.trans hr393
  have Z394 : n0 ≤ h384.size := by rw [W387.size]; exact Z372
  have hk395 := Nat.le_trans hk373 (Nat.le_of_eq W387.size.symm)
  have O396 := O374.wr W387 nw_pa
  refine Way.by st388 ?_
  show Way _ _ _ _ (T383.setTop (mkF m 392 #[iv p0, iv p1, iv p2, iv p3, iv p4, iv cc0, iv cc1, iv cc2, iv cc3, iv 4, .unset, .unset] [(.ref pa)]))
  try clear X363 e364 N367 V368 H369 CH370 Z372 hk373 O374 V375 c376 A377 q378 S379 M380 H381 U382 W387 st388 hr393
  try clear T361 h362
  refine Way.by (fun _ k => XS.dup X385.here hx rfl (hb hby at_392) rfl rfl k) ?_
  show Way _ _ _ _ (T383.setTop (mkF m 393 #[iv p0, iv p1, iv p2, iv p3, iv p4, iv cc0, iv cc1, iv cc2, iv cc3, iv 4, .unset, .unset] [(.ref pa), (.ref pa)]))
  refine Way.by (fun _ k => XS.bipush X385.here hx rfl (hb hby at_393) k) ?_
  show Way _ _ _ _ (T383.setTop (mkF m 395 #[iv p0, iv p1, iv p2, iv p3, iv p4, iv cc0, iv cc1, iv cc2, iv cc3, iv 4, .unset, .unset] [(.int 38), (.ref pa), (.ref pa)]))
  refine Way.by (fun _ k => XS.bipush X385.here hx rfl (hb hby at_395) k) ?_
  show Way _ _ _ _ (T383.setTop (mkF m 397 #[iv p0, iv p1, iv p2, iv p3, iv p4, iv cc0, iv cc1, iv cc2, iv cc3, iv 4, .unset, .unset] [(.int 113), (.int 38), (.ref pa), (.ref pa)]))
  have V397 : Arv Z h384 pa kk .char (80 : Int32) (List.replicate 38 (Value.int (113 : Int32)) ++ [(.int 0)]) (.int 0) := V390.pad (pad_rep (List.replicate 38 (Value.int (113 : Int32))) (.int 0) 1)
  obtain ⟨c398, A399, q400, S401, M402, H403, U404⟩ := id V397
  obtain ⟨T405, h406, X407, e408, W409, st410⟩ := stC X385 hx hZ e386 A399 (j := (38 : Int32)) (inb_of S401 ⟨(by decide), (by decide)⟩) (g := (mkF m 397 #[iv p0, iv p1, iv p2, iv p3, iv p4, iv cc0, iv cc1, iv cc2, iv cc3, iv 4, .unset, .unset] [(.int 113), (.int 38), (.ref pa), (.ref pa)])) rfl rfl (hb hby at_397)
  have N411 := Fr.snoc X407 N389 nw_pa
  have V412 : Arv Z h406 pa kk .char (80 : Int32) (List.replicate 39 (Value.int (113 : Int32))) (.int 0) := Arv.set A399 q400 S401 M402 H403 U404 rfl W409 38 rfl (leB rfl)
  have hr415 := CHr.wr W409 (Safe.arv hZ.alike V390 (by decide)) H391
  have H413 := hr415.1
  have CH414 := CH392.trans hr415
  have Z416 : n0 ≤ h406.size := by rw [W409.size]; exact Z394
  have hk417 := Nat.le_trans hk395 (Nat.le_of_eq W409.size.symm)
  have O418 := O396.wr W409 nw_pa
  refine Way.by st410 ?_
  show Way _ _ _ _ (T405.setTop (mkF m 398 #[iv p0, iv p1, iv p2, iv p3, iv p4, iv cc0, iv cc1, iv cc2, iv cc3, iv 4, .unset, .unset] [(.ref pa)]))
  try clear X385 e386 N389 V390 H391 CH392 Z394 hk395 O396 V397 c398 A399 q400 S401 M402 H403 U404 W409 st410 hr415
  try clear T383 h384
  refine Way.by (fun _ k => XS.dup X407.here hx rfl (hb hby at_398) rfl rfl k) ?_
  show Way _ _ _ _ (T405.setTop (mkF m 399 #[iv p0, iv p1, iv p2, iv p3, iv p4, iv cc0, iv cc1, iv cc2, iv cc3, iv 4, .unset, .unset] [(.ref pa), (.ref pa)]))
  refine Way.by (fun _ k => XS.bipush X407.here hx rfl (hb hby at_399) k) ?_
  show Way _ _ _ _ (T405.setTop (mkF m 401 #[iv p0, iv p1, iv p2, iv p3, iv p4, iv cc0, iv cc1, iv cc2, iv cc3, iv 4, .unset, .unset] [(.int 39), (.ref pa), (.ref pa)]))
  refine Way.by (fun _ k => XS.bipush X407.here hx rfl (hb hby at_401) k) ?_
  show Way _ _ _ _ (T405.setTop (mkF m 403 #[iv p0, iv p1, iv p2, iv p3, iv p4, iv cc0, iv cc1, iv cc2, iv cc3, iv 4, .unset, .unset] [(.int 113), (.int 39), (.ref pa), (.ref pa)]))
  have V419 : Arv Z h406 pa kk .char (80 : Int32) (List.replicate 39 (Value.int (113 : Int32)) ++ [(.int 0)]) (.int 0) := V412.pad (pad_rep (List.replicate 39 (Value.int (113 : Int32))) (.int 0) 1)
  obtain ⟨c420, A421, q422, S423, M424, H425, U426⟩ := id V419
  obtain ⟨T427, h428, X429, e430, W431, st432⟩ := stC X407 hx hZ e408 A421 (j := (39 : Int32)) (inb_of S423 ⟨(by decide), (by decide)⟩) (g := (mkF m 403 #[iv p0, iv p1, iv p2, iv p3, iv p4, iv cc0, iv cc1, iv cc2, iv cc3, iv 4, .unset, .unset] [(.int 113), (.int 39), (.ref pa), (.ref pa)])) rfl rfl (hb hby at_403)
  have N433 := Fr.snoc X429 N411 nw_pa
  have V434 : Arv Z h428 pa kk .char (80 : Int32) (List.replicate 40 (Value.int (113 : Int32))) (.int 0) := Arv.set A421 q422 S423 M424 H425 U426 rfl W431 39 rfl (leB rfl)
  have hr437 := CHr.wr W431 (Safe.arv hZ.alike V412 (by decide)) H413
  have H435 := hr437.1
  have CH436 := CH414.trans hr437
  have Z438 : n0 ≤ h428.size := by rw [W431.size]; exact Z416
  have hk439 := Nat.le_trans hk417 (Nat.le_of_eq W431.size.symm)
  have O440 := O418.wr W431 nw_pa
  refine Way.by st432 ?_
  show Way _ _ _ _ (T427.setTop (mkF m 404 #[iv p0, iv p1, iv p2, iv p3, iv p4, iv cc0, iv cc1, iv cc2, iv cc3, iv 4, .unset, .unset] [(.ref pa)]))
  try clear X407 e408 N411 V412 H413 CH414 Z416 hk417 O418 V419 c420 A421 q422 S423 M424 H425 U426 W431 st432 hr437
  try clear T405 h406
  exact segW2 l Z a0 hw ws p0 p1 p2 p3 p4 h0 n0 Z0 O0 SV p e s m below meth c s₁ Bd hml _ hZ hown _ hS hh T427 h428 _ X429 e430 N433 Z438 hk439 H435 CH436 O440 cc0 cc1 cc2 cc3 pa kk V434 ok0 ok1 ok2 ok3 nw_pa
set_option maxRecDepth 65536 in
set_option maxHeartbeats 40000000 in
theorem segW0 (l : Launch) (Z : State) (a0 : Array Value) (hw : ∀ d ∈ tables_1, d.before a0 Z = true) (ws : List Jvm.Cond) (p0 p1 p2 p3 p4 : Int32) (h0 : Heap) (n0 : Nat) (Z0 : n0 ≤ h0.size) (O0 : Old Z n0 h0) (SV : own_Env Z)
    (p : Program) (e : Env) (s : State) (m : MethodId) (below : List Frame) (meth : Method) (c : Code) (s₁ : State) (Bd : BodyLoose p l x (head1 (Jvm.Cond.code x code maxLocals ret :: ws) room_1) code maxLocals ret e s m #[(.int p0), (.int p1), (.int p2), (.int p3), (.int p4)] below meth c s₁) (hml : c.maxLocals = 12)
    (vm0 : Vm) (hZ : Z.Warmed39 (s.setVm vm0).vm) (hown : (s.setVm vm0).vm.findClass "com/example/outbox/outbox/QueueNameOfPinLaw" = some m.cls) (k0 : Nat) (hS : s.Since vm0 k0) (hh : s.heap = h0)
    (T : State) (h : Heap) (locs : List Loc) (X : Stand p l e room_1 (s.setVm vm0) m #[(.int p0), (.int p1), (.int p2), (.int p3), (.int p4)] below meth c T locs 1 80) (eT : T.heap = h) (N : Fr n0 locs) (Zh : n0 ≤ h.size) (hk : k0 ≤ h.size) (H : CHv Z own_EL vm0 h) (CH : CHr Z own_EL s.vm h0 vm0 h) (O : Old Z n0 h) (cc0 : Int32) (cc1 : Int32) (cc2 : Int32) (cc3 : Int32) (pa : Addr) (kk : ClassId) (J0 : Arv Z h pa kk .char (80 : Int32) [] (.int 0)) (ok0 : own_ok cc0) (ok1 : own_ok cc1) (ok2 : own_ok cc2) (ok3 : own_ok cc3) (nw_pa : n0 ≤ pa) :
    Way p.tables e below (KQH s Z own_EL (Q0 n0) room_1.cells room_1.slots) (T.setTop (mkF m 170 #[iv p0, iv p1, iv p2, iv p3, iv p4, iv cc0, iv cc1, iv cc2, iv cc3, iv 4, .unset, .unset] [(.ref pa)])) := by
  have hx := Bd.exec
  have hby := Bd.bytes
  have hlk : meth.locks = false := BodyLoose.notSynchronized Bd
  have hnm := (name_of_methodNamed Bd.named Bd.method).1
  have wS : ∀ d ∈ Bundle.stringAtoms, d.before a0 Z = true := fun d hd => hw d (own_wS d hd)
  have hEL : EW Z a0 own_EL := own_EW hw
  refine Way.by (fun _ k => XS.dup X.here hx rfl (hb hby at_170) rfl rfl k) ?_
  show Way _ _ _ _ (T.setTop (mkF m 171 #[iv p0, iv p1, iv p2, iv p3, iv p4, iv cc0, iv cc1, iv cc2, iv cc3, iv 4, .unset, .unset] [(.ref pa), (.ref pa)]))
  refine Way.by (fun _ k => XS.iconst X.here hx rfl (hb hby at_171) k) ?_
  show Way _ _ _ _ (T.setTop (mkF m 172 #[iv p0, iv p1, iv p2, iv p3, iv p4, iv cc0, iv cc1, iv cc2, iv cc3, iv 4, .unset, .unset] [(.int 0), (.ref pa), (.ref pa)]))
  refine Way.by (fun _ k => XS.bipush X.here hx rfl (hb hby at_172) k) ?_
  show Way _ _ _ _ (T.setTop (mkF m 174 #[iv p0, iv p1, iv p2, iv p3, iv p4, iv cc0, iv cc1, iv cc2, iv cc3, iv 4, .unset, .unset] [(.int 113), (.int 0), (.ref pa), (.ref pa)]))
  have V1 : Arv Z h pa kk .char (80 : Int32) [(.int 0)] (.int 0) := J0.pad (pad_rep [] (.int 0) 1)
  obtain ⟨c2, A3, q4, S5, M6, H7, U8⟩ := id V1
  obtain ⟨T9, h10, X11, e12, W13, st14⟩ := stC X hx hZ eT A3 (j := (0 : Int32)) (inb_of S5 ⟨(by decide), (by decide)⟩) (g := (mkF m 174 #[iv p0, iv p1, iv p2, iv p3, iv p4, iv cc0, iv cc1, iv cc2, iv cc3, iv 4, .unset, .unset] [(.int 113), (.int 0), (.ref pa), (.ref pa)])) rfl rfl (hb hby at_174)
  have N15 := Fr.snoc X11 N nw_pa
  have V16 : Arv Z h10 pa kk .char (80 : Int32) [(.int 113)] (.int 0) := Arv.set A3 q4 S5 M6 H7 U8 rfl W13 0 rfl (leB rfl)
  have hr19 := CHr.wr W13 (Safe.arv hZ.alike J0 (by decide)) H
  have H17 := hr19.1
  have CH18 := CH.trans hr19
  have Z20 : n0 ≤ h10.size := by rw [W13.size]; exact Zh
  have hk21 := Nat.le_trans hk (Nat.le_of_eq W13.size.symm)
  have O22 := O.wr W13 nw_pa
  refine Way.by st14 ?_
  show Way _ _ _ _ (T9.setTop (mkF m 175 #[iv p0, iv p1, iv p2, iv p3, iv p4, iv cc0, iv cc1, iv cc2, iv cc3, iv 4, .unset, .unset] [(.ref pa)]))
  try clear V1 c2 A3 q4 S5 M6 H7 U8 W13 st14 hr19
  refine Way.by (fun _ k => XS.dup X11.here hx rfl (hb hby at_175) rfl rfl k) ?_
  show Way _ _ _ _ (T9.setTop (mkF m 176 #[iv p0, iv p1, iv p2, iv p3, iv p4, iv cc0, iv cc1, iv cc2, iv cc3, iv 4, .unset, .unset] [(.ref pa), (.ref pa)]))
  refine Way.by (fun _ k => XS.iconst X11.here hx rfl (hb hby at_176) k) ?_
  show Way _ _ _ _ (T9.setTop (mkF m 177 #[iv p0, iv p1, iv p2, iv p3, iv p4, iv cc0, iv cc1, iv cc2, iv cc3, iv 4, .unset, .unset] [(.int 1), (.ref pa), (.ref pa)]))
  refine Way.by (fun _ k => XS.bipush X11.here hx rfl (hb hby at_177) k) ?_
  show Way _ _ _ _ (T9.setTop (mkF m 179 #[iv p0, iv p1, iv p2, iv p3, iv p4, iv cc0, iv cc1, iv cc2, iv cc3, iv 4, .unset, .unset] [(.int 113), (.int 1), (.ref pa), (.ref pa)]))
  have V23 : Arv Z h10 pa kk .char (80 : Int32) [(.int 113), (.int 0)] (.int 0) := V16.pad (pad_rep [(.int 113)] (.int 0) 1)
  obtain ⟨c24, A25, q26, S27, M28, H29, U30⟩ := id V23
  obtain ⟨T31, h32, X33, e34, W35, st36⟩ := stC X11 hx hZ e12 A25 (j := (1 : Int32)) (inb_of S27 ⟨(by decide), (by decide)⟩) (g := (mkF m 179 #[iv p0, iv p1, iv p2, iv p3, iv p4, iv cc0, iv cc1, iv cc2, iv cc3, iv 4, .unset, .unset] [(.int 113), (.int 1), (.ref pa), (.ref pa)])) rfl rfl (hb hby at_179)
  have N37 := Fr.snoc X33 N15 nw_pa
  have V38 : Arv Z h32 pa kk .char (80 : Int32) [(.int 113), (.int 113)] (.int 0) := Arv.set A25 q26 S27 M28 H29 U30 rfl W35 1 rfl (leB rfl)
  have hr41 := CHr.wr W35 (Safe.arv hZ.alike V16 (by decide)) H17
  have H39 := hr41.1
  have CH40 := CH18.trans hr41
  have Z42 : n0 ≤ h32.size := by rw [W35.size]; exact Z20
  have hk43 := Nat.le_trans hk21 (Nat.le_of_eq W35.size.symm)
  have O44 := O22.wr W35 nw_pa
  refine Way.by st36 ?_
  show Way _ _ _ _ (T31.setTop (mkF m 180 #[iv p0, iv p1, iv p2, iv p3, iv p4, iv cc0, iv cc1, iv cc2, iv cc3, iv 4, .unset, .unset] [(.ref pa)]))
  try clear X11 e12 N15 V16 H17 CH18 Z20 hk21 O22 V23 c24 A25 q26 S27 M28 H29 U30 W35 st36 hr41
  try clear T9 h10
  refine Way.by (fun _ k => XS.dup X33.here hx rfl (hb hby at_180) rfl rfl k) ?_
  show Way _ _ _ _ (T31.setTop (mkF m 181 #[iv p0, iv p1, iv p2, iv p3, iv p4, iv cc0, iv cc1, iv cc2, iv cc3, iv 4, .unset, .unset] [(.ref pa), (.ref pa)]))
  refine Way.by (fun _ k => XS.iconst X33.here hx rfl (hb hby at_181) k) ?_
  show Way _ _ _ _ (T31.setTop (mkF m 182 #[iv p0, iv p1, iv p2, iv p3, iv p4, iv cc0, iv cc1, iv cc2, iv cc3, iv 4, .unset, .unset] [(.int 2), (.ref pa), (.ref pa)]))
  refine Way.by (fun _ k => XS.bipush X33.here hx rfl (hb hby at_182) k) ?_
  show Way _ _ _ _ (T31.setTop (mkF m 184 #[iv p0, iv p1, iv p2, iv p3, iv p4, iv cc0, iv cc1, iv cc2, iv cc3, iv 4, .unset, .unset] [(.int 113), (.int 2), (.ref pa), (.ref pa)]))
  have V45 : Arv Z h32 pa kk .char (80 : Int32) [(.int 113), (.int 113), (.int 0)] (.int 0) := V38.pad (pad_rep [(.int 113), (.int 113)] (.int 0) 1)
  obtain ⟨c46, A47, q48, S49, M50, H51, U52⟩ := id V45
  obtain ⟨T53, h54, X55, e56, W57, st58⟩ := stC X33 hx hZ e34 A47 (j := (2 : Int32)) (inb_of S49 ⟨(by decide), (by decide)⟩) (g := (mkF m 184 #[iv p0, iv p1, iv p2, iv p3, iv p4, iv cc0, iv cc1, iv cc2, iv cc3, iv 4, .unset, .unset] [(.int 113), (.int 2), (.ref pa), (.ref pa)])) rfl rfl (hb hby at_184)
  have N59 := Fr.snoc X55 N37 nw_pa
  have V60 : Arv Z h54 pa kk .char (80 : Int32) [(.int 113), (.int 113), (.int 113)] (.int 0) := Arv.set A47 q48 S49 M50 H51 U52 rfl W57 2 rfl (leB rfl)
  have hr63 := CHr.wr W57 (Safe.arv hZ.alike V38 (by decide)) H39
  have H61 := hr63.1
  have CH62 := CH40.trans hr63
  have Z64 : n0 ≤ h54.size := by rw [W57.size]; exact Z42
  have hk65 := Nat.le_trans hk43 (Nat.le_of_eq W57.size.symm)
  have O66 := O44.wr W57 nw_pa
  refine Way.by st58 ?_
  show Way _ _ _ _ (T53.setTop (mkF m 185 #[iv p0, iv p1, iv p2, iv p3, iv p4, iv cc0, iv cc1, iv cc2, iv cc3, iv 4, .unset, .unset] [(.ref pa)]))
  try clear X33 e34 N37 V38 H39 CH40 Z42 hk43 O44 V45 c46 A47 q48 S49 M50 H51 U52 W57 st58 hr63
  try clear T31 h32
  refine Way.by (fun _ k => XS.dup X55.here hx rfl (hb hby at_185) rfl rfl k) ?_
  show Way _ _ _ _ (T53.setTop (mkF m 186 #[iv p0, iv p1, iv p2, iv p3, iv p4, iv cc0, iv cc1, iv cc2, iv cc3, iv 4, .unset, .unset] [(.ref pa), (.ref pa)]))
  refine Way.by (fun _ k => XS.iconst X55.here hx rfl (hb hby at_186) k) ?_
  show Way _ _ _ _ (T53.setTop (mkF m 187 #[iv p0, iv p1, iv p2, iv p3, iv p4, iv cc0, iv cc1, iv cc2, iv cc3, iv 4, .unset, .unset] [(.int 3), (.ref pa), (.ref pa)]))
  refine Way.by (fun _ k => XS.bipush X55.here hx rfl (hb hby at_187) k) ?_
  show Way _ _ _ _ (T53.setTop (mkF m 189 #[iv p0, iv p1, iv p2, iv p3, iv p4, iv cc0, iv cc1, iv cc2, iv cc3, iv 4, .unset, .unset] [(.int 113), (.int 3), (.ref pa), (.ref pa)]))
  have V67 : Arv Z h54 pa kk .char (80 : Int32) [(.int 113), (.int 113), (.int 113), (.int 0)] (.int 0) := V60.pad (pad_rep [(.int 113), (.int 113), (.int 113)] (.int 0) 1)
  obtain ⟨c68, A69, q70, S71, M72, H73, U74⟩ := id V67
  obtain ⟨T75, h76, X77, e78, W79, st80⟩ := stC X55 hx hZ e56 A69 (j := (3 : Int32)) (inb_of S71 ⟨(by decide), (by decide)⟩) (g := (mkF m 189 #[iv p0, iv p1, iv p2, iv p3, iv p4, iv cc0, iv cc1, iv cc2, iv cc3, iv 4, .unset, .unset] [(.int 113), (.int 3), (.ref pa), (.ref pa)])) rfl rfl (hb hby at_189)
  have N81 := Fr.snoc X77 N59 nw_pa
  have V82 : Arv Z h76 pa kk .char (80 : Int32) [(.int 113), (.int 113), (.int 113), (.int 113)] (.int 0) := Arv.set A69 q70 S71 M72 H73 U74 rfl W79 3 rfl (leB rfl)
  have hr85 := CHr.wr W79 (Safe.arv hZ.alike V60 (by decide)) H61
  have H83 := hr85.1
  have CH84 := CH62.trans hr85
  have Z86 : n0 ≤ h76.size := by rw [W79.size]; exact Z64
  have hk87 := Nat.le_trans hk65 (Nat.le_of_eq W79.size.symm)
  have O88 := O66.wr W79 nw_pa
  refine Way.by st80 ?_
  show Way _ _ _ _ (T75.setTop (mkF m 190 #[iv p0, iv p1, iv p2, iv p3, iv p4, iv cc0, iv cc1, iv cc2, iv cc3, iv 4, .unset, .unset] [(.ref pa)]))
  try clear X55 e56 N59 V60 H61 CH62 Z64 hk65 O66 V67 c68 A69 q70 S71 M72 H73 U74 W79 st80 hr85
  try clear T53 h54
  refine Way.by (fun _ k => XS.dup X77.here hx rfl (hb hby at_190) rfl rfl k) ?_
  show Way _ _ _ _ (T75.setTop (mkF m 191 #[iv p0, iv p1, iv p2, iv p3, iv p4, iv cc0, iv cc1, iv cc2, iv cc3, iv 4, .unset, .unset] [(.ref pa), (.ref pa)]))
  refine Way.by (fun _ k => XS.iconst X77.here hx rfl (hb hby at_191) k) ?_
  show Way _ _ _ _ (T75.setTop (mkF m 192 #[iv p0, iv p1, iv p2, iv p3, iv p4, iv cc0, iv cc1, iv cc2, iv cc3, iv 4, .unset, .unset] [(.int 4), (.ref pa), (.ref pa)]))
  refine Way.by (fun _ k => XS.bipush X77.here hx rfl (hb hby at_192) k) ?_
  show Way _ _ _ _ (T75.setTop (mkF m 194 #[iv p0, iv p1, iv p2, iv p3, iv p4, iv cc0, iv cc1, iv cc2, iv cc3, iv 4, .unset, .unset] [(.int 113), (.int 4), (.ref pa), (.ref pa)]))
  have V89 : Arv Z h76 pa kk .char (80 : Int32) [(.int 113), (.int 113), (.int 113), (.int 113), (.int 0)] (.int 0) := V82.pad (pad_rep [(.int 113), (.int 113), (.int 113), (.int 113)] (.int 0) 1)
  obtain ⟨c90, A91, q92, S93, M94, H95, U96⟩ := id V89
  obtain ⟨T97, h98, X99, e100, W101, st102⟩ := stC X77 hx hZ e78 A91 (j := (4 : Int32)) (inb_of S93 ⟨(by decide), (by decide)⟩) (g := (mkF m 194 #[iv p0, iv p1, iv p2, iv p3, iv p4, iv cc0, iv cc1, iv cc2, iv cc3, iv 4, .unset, .unset] [(.int 113), (.int 4), (.ref pa), (.ref pa)])) rfl rfl (hb hby at_194)
  have N103 := Fr.snoc X99 N81 nw_pa
  have V104 : Arv Z h98 pa kk .char (80 : Int32) [(.int 113), (.int 113), (.int 113), (.int 113), (.int 113)] (.int 0) := Arv.set A91 q92 S93 M94 H95 U96 rfl W101 4 rfl (leB rfl)
  have hr107 := CHr.wr W101 (Safe.arv hZ.alike V82 (by decide)) H83
  have H105 := hr107.1
  have CH106 := CH84.trans hr107
  have Z108 : n0 ≤ h98.size := by rw [W101.size]; exact Z86
  have hk109 := Nat.le_trans hk87 (Nat.le_of_eq W101.size.symm)
  have O110 := O88.wr W101 nw_pa
  refine Way.by st102 ?_
  show Way _ _ _ _ (T97.setTop (mkF m 195 #[iv p0, iv p1, iv p2, iv p3, iv p4, iv cc0, iv cc1, iv cc2, iv cc3, iv 4, .unset, .unset] [(.ref pa)]))
  try clear X77 e78 N81 V82 H83 CH84 Z86 hk87 O88 V89 c90 A91 q92 S93 M94 H95 U96 W101 st102 hr107
  try clear T75 h76
  refine Way.by (fun _ k => XS.dup X99.here hx rfl (hb hby at_195) rfl rfl k) ?_
  show Way _ _ _ _ (T97.setTop (mkF m 196 #[iv p0, iv p1, iv p2, iv p3, iv p4, iv cc0, iv cc1, iv cc2, iv cc3, iv 4, .unset, .unset] [(.ref pa), (.ref pa)]))
  refine Way.by (fun _ k => XS.iconst X99.here hx rfl (hb hby at_196) k) ?_
  show Way _ _ _ _ (T97.setTop (mkF m 197 #[iv p0, iv p1, iv p2, iv p3, iv p4, iv cc0, iv cc1, iv cc2, iv cc3, iv 4, .unset, .unset] [(.int 5), (.ref pa), (.ref pa)]))
  refine Way.by (fun _ k => XS.bipush X99.here hx rfl (hb hby at_197) k) ?_
  show Way _ _ _ _ (T97.setTop (mkF m 199 #[iv p0, iv p1, iv p2, iv p3, iv p4, iv cc0, iv cc1, iv cc2, iv cc3, iv 4, .unset, .unset] [(.int 113), (.int 5), (.ref pa), (.ref pa)]))
  have V111 : Arv Z h98 pa kk .char (80 : Int32) (List.replicate 5 (Value.int (113 : Int32)) ++ [(.int 0)]) (.int 0) := V104.pad (pad_rep [(.int 113), (.int 113), (.int 113), (.int 113), (.int 113)] (.int 0) 1)
  obtain ⟨c112, A113, q114, S115, M116, H117, U118⟩ := id V111
  obtain ⟨T119, h120, X121, e122, W123, st124⟩ := stC X99 hx hZ e100 A113 (j := (5 : Int32)) (inb_of S115 ⟨(by decide), (by decide)⟩) (g := (mkF m 199 #[iv p0, iv p1, iv p2, iv p3, iv p4, iv cc0, iv cc1, iv cc2, iv cc3, iv 4, .unset, .unset] [(.int 113), (.int 5), (.ref pa), (.ref pa)])) rfl rfl (hb hby at_199)
  have N125 := Fr.snoc X121 N103 nw_pa
  have V126 : Arv Z h120 pa kk .char (80 : Int32) (List.replicate 6 (Value.int (113 : Int32))) (.int 0) := Arv.set A113 q114 S115 M116 H117 U118 rfl W123 5 rfl (leB rfl)
  have hr129 := CHr.wr W123 (Safe.arv hZ.alike V104 (by decide)) H105
  have H127 := hr129.1
  have CH128 := CH106.trans hr129
  have Z130 : n0 ≤ h120.size := by rw [W123.size]; exact Z108
  have hk131 := Nat.le_trans hk109 (Nat.le_of_eq W123.size.symm)
  have O132 := O110.wr W123 nw_pa
  refine Way.by st124 ?_
  show Way _ _ _ _ (T119.setTop (mkF m 200 #[iv p0, iv p1, iv p2, iv p3, iv p4, iv cc0, iv cc1, iv cc2, iv cc3, iv 4, .unset, .unset] [(.ref pa)]))
  try clear X99 e100 N103 V104 H105 CH106 Z108 hk109 O110 V111 c112 A113 q114 S115 M116 H117 U118 W123 st124 hr129
  try clear T97 h98
  refine Way.by (fun _ k => XS.dup X121.here hx rfl (hb hby at_200) rfl rfl k) ?_
  show Way _ _ _ _ (T119.setTop (mkF m 201 #[iv p0, iv p1, iv p2, iv p3, iv p4, iv cc0, iv cc1, iv cc2, iv cc3, iv 4, .unset, .unset] [(.ref pa), (.ref pa)]))
  refine Way.by (fun _ k => XS.bipush X121.here hx rfl (hb hby at_201) k) ?_
  show Way _ _ _ _ (T119.setTop (mkF m 203 #[iv p0, iv p1, iv p2, iv p3, iv p4, iv cc0, iv cc1, iv cc2, iv cc3, iv 4, .unset, .unset] [(.int 6), (.ref pa), (.ref pa)]))
  refine Way.by (fun _ k => XS.bipush X121.here hx rfl (hb hby at_203) k) ?_
  show Way _ _ _ _ (T119.setTop (mkF m 205 #[iv p0, iv p1, iv p2, iv p3, iv p4, iv cc0, iv cc1, iv cc2, iv cc3, iv 4, .unset, .unset] [(.int 113), (.int 6), (.ref pa), (.ref pa)]))
  have V133 : Arv Z h120 pa kk .char (80 : Int32) (List.replicate 6 (Value.int (113 : Int32)) ++ [(.int 0)]) (.int 0) := V126.pad (pad_rep (List.replicate 6 (Value.int (113 : Int32))) (.int 0) 1)
  obtain ⟨c134, A135, q136, S137, M138, H139, U140⟩ := id V133
  obtain ⟨T141, h142, X143, e144, W145, st146⟩ := stC X121 hx hZ e122 A135 (j := (6 : Int32)) (inb_of S137 ⟨(by decide), (by decide)⟩) (g := (mkF m 205 #[iv p0, iv p1, iv p2, iv p3, iv p4, iv cc0, iv cc1, iv cc2, iv cc3, iv 4, .unset, .unset] [(.int 113), (.int 6), (.ref pa), (.ref pa)])) rfl rfl (hb hby at_205)
  have N147 := Fr.snoc X143 N125 nw_pa
  have V148 : Arv Z h142 pa kk .char (80 : Int32) (List.replicate 7 (Value.int (113 : Int32))) (.int 0) := Arv.set A135 q136 S137 M138 H139 U140 rfl W145 6 rfl (leB rfl)
  have hr151 := CHr.wr W145 (Safe.arv hZ.alike V126 (by decide)) H127
  have H149 := hr151.1
  have CH150 := CH128.trans hr151
  have Z152 : n0 ≤ h142.size := by rw [W145.size]; exact Z130
  have hk153 := Nat.le_trans hk131 (Nat.le_of_eq W145.size.symm)
  have O154 := O132.wr W145 nw_pa
  refine Way.by st146 ?_
  show Way _ _ _ _ (T141.setTop (mkF m 206 #[iv p0, iv p1, iv p2, iv p3, iv p4, iv cc0, iv cc1, iv cc2, iv cc3, iv 4, .unset, .unset] [(.ref pa)]))
  try clear X121 e122 N125 V126 H127 CH128 Z130 hk131 O132 V133 c134 A135 q136 S137 M138 H139 U140 W145 st146 hr151
  try clear T119 h120
  refine Way.by (fun _ k => XS.dup X143.here hx rfl (hb hby at_206) rfl rfl k) ?_
  show Way _ _ _ _ (T141.setTop (mkF m 207 #[iv p0, iv p1, iv p2, iv p3, iv p4, iv cc0, iv cc1, iv cc2, iv cc3, iv 4, .unset, .unset] [(.ref pa), (.ref pa)]))
  refine Way.by (fun _ k => XS.bipush X143.here hx rfl (hb hby at_207) k) ?_
  show Way _ _ _ _ (T141.setTop (mkF m 209 #[iv p0, iv p1, iv p2, iv p3, iv p4, iv cc0, iv cc1, iv cc2, iv cc3, iv 4, .unset, .unset] [(.int 7), (.ref pa), (.ref pa)]))
  refine Way.by (fun _ k => XS.bipush X143.here hx rfl (hb hby at_209) k) ?_
  show Way _ _ _ _ (T141.setTop (mkF m 211 #[iv p0, iv p1, iv p2, iv p3, iv p4, iv cc0, iv cc1, iv cc2, iv cc3, iv 4, .unset, .unset] [(.int 113), (.int 7), (.ref pa), (.ref pa)]))
  have V155 : Arv Z h142 pa kk .char (80 : Int32) (List.replicate 7 (Value.int (113 : Int32)) ++ [(.int 0)]) (.int 0) := V148.pad (pad_rep (List.replicate 7 (Value.int (113 : Int32))) (.int 0) 1)
  obtain ⟨c156, A157, q158, S159, M160, H161, U162⟩ := id V155
  obtain ⟨T163, h164, X165, e166, W167, st168⟩ := stC X143 hx hZ e144 A157 (j := (7 : Int32)) (inb_of S159 ⟨(by decide), (by decide)⟩) (g := (mkF m 211 #[iv p0, iv p1, iv p2, iv p3, iv p4, iv cc0, iv cc1, iv cc2, iv cc3, iv 4, .unset, .unset] [(.int 113), (.int 7), (.ref pa), (.ref pa)])) rfl rfl (hb hby at_211)
  have N169 := Fr.snoc X165 N147 nw_pa
  have V170 : Arv Z h164 pa kk .char (80 : Int32) (List.replicate 8 (Value.int (113 : Int32))) (.int 0) := Arv.set A157 q158 S159 M160 H161 U162 rfl W167 7 rfl (leB rfl)
  have hr173 := CHr.wr W167 (Safe.arv hZ.alike V148 (by decide)) H149
  have H171 := hr173.1
  have CH172 := CH150.trans hr173
  have Z174 : n0 ≤ h164.size := by rw [W167.size]; exact Z152
  have hk175 := Nat.le_trans hk153 (Nat.le_of_eq W167.size.symm)
  have O176 := O154.wr W167 nw_pa
  refine Way.by st168 ?_
  show Way _ _ _ _ (T163.setTop (mkF m 212 #[iv p0, iv p1, iv p2, iv p3, iv p4, iv cc0, iv cc1, iv cc2, iv cc3, iv 4, .unset, .unset] [(.ref pa)]))
  try clear X143 e144 N147 V148 H149 CH150 Z152 hk153 O154 V155 c156 A157 q158 S159 M160 H161 U162 W167 st168 hr173
  try clear T141 h142
  refine Way.by (fun _ k => XS.dup X165.here hx rfl (hb hby at_212) rfl rfl k) ?_
  show Way _ _ _ _ (T163.setTop (mkF m 213 #[iv p0, iv p1, iv p2, iv p3, iv p4, iv cc0, iv cc1, iv cc2, iv cc3, iv 4, .unset, .unset] [(.ref pa), (.ref pa)]))
  refine Way.by (fun _ k => XS.bipush X165.here hx rfl (hb hby at_213) k) ?_
  show Way _ _ _ _ (T163.setTop (mkF m 215 #[iv p0, iv p1, iv p2, iv p3, iv p4, iv cc0, iv cc1, iv cc2, iv cc3, iv 4, .unset, .unset] [(.int 8), (.ref pa), (.ref pa)]))
  refine Way.by (fun _ k => XS.bipush X165.here hx rfl (hb hby at_215) k) ?_
  show Way _ _ _ _ (T163.setTop (mkF m 217 #[iv p0, iv p1, iv p2, iv p3, iv p4, iv cc0, iv cc1, iv cc2, iv cc3, iv 4, .unset, .unset] [(.int 113), (.int 8), (.ref pa), (.ref pa)]))
  have V177 : Arv Z h164 pa kk .char (80 : Int32) (List.replicate 8 (Value.int (113 : Int32)) ++ [(.int 0)]) (.int 0) := V170.pad (pad_rep (List.replicate 8 (Value.int (113 : Int32))) (.int 0) 1)
  obtain ⟨c178, A179, q180, S181, M182, H183, U184⟩ := id V177
  obtain ⟨T185, h186, X187, e188, W189, st190⟩ := stC X165 hx hZ e166 A179 (j := (8 : Int32)) (inb_of S181 ⟨(by decide), (by decide)⟩) (g := (mkF m 217 #[iv p0, iv p1, iv p2, iv p3, iv p4, iv cc0, iv cc1, iv cc2, iv cc3, iv 4, .unset, .unset] [(.int 113), (.int 8), (.ref pa), (.ref pa)])) rfl rfl (hb hby at_217)
  have N191 := Fr.snoc X187 N169 nw_pa
  have V192 : Arv Z h186 pa kk .char (80 : Int32) (List.replicate 9 (Value.int (113 : Int32))) (.int 0) := Arv.set A179 q180 S181 M182 H183 U184 rfl W189 8 rfl (leB rfl)
  have hr195 := CHr.wr W189 (Safe.arv hZ.alike V170 (by decide)) H171
  have H193 := hr195.1
  have CH194 := CH172.trans hr195
  have Z196 : n0 ≤ h186.size := by rw [W189.size]; exact Z174
  have hk197 := Nat.le_trans hk175 (Nat.le_of_eq W189.size.symm)
  have O198 := O176.wr W189 nw_pa
  refine Way.by st190 ?_
  show Way _ _ _ _ (T185.setTop (mkF m 218 #[iv p0, iv p1, iv p2, iv p3, iv p4, iv cc0, iv cc1, iv cc2, iv cc3, iv 4, .unset, .unset] [(.ref pa)]))
  try clear X165 e166 N169 V170 H171 CH172 Z174 hk175 O176 V177 c178 A179 q180 S181 M182 H183 U184 W189 st190 hr195
  try clear T163 h164
  refine Way.by (fun _ k => XS.dup X187.here hx rfl (hb hby at_218) rfl rfl k) ?_
  show Way _ _ _ _ (T185.setTop (mkF m 219 #[iv p0, iv p1, iv p2, iv p3, iv p4, iv cc0, iv cc1, iv cc2, iv cc3, iv 4, .unset, .unset] [(.ref pa), (.ref pa)]))
  refine Way.by (fun _ k => XS.bipush X187.here hx rfl (hb hby at_219) k) ?_
  show Way _ _ _ _ (T185.setTop (mkF m 221 #[iv p0, iv p1, iv p2, iv p3, iv p4, iv cc0, iv cc1, iv cc2, iv cc3, iv 4, .unset, .unset] [(.int 9), (.ref pa), (.ref pa)]))
  refine Way.by (fun _ k => XS.bipush X187.here hx rfl (hb hby at_221) k) ?_
  show Way _ _ _ _ (T185.setTop (mkF m 223 #[iv p0, iv p1, iv p2, iv p3, iv p4, iv cc0, iv cc1, iv cc2, iv cc3, iv 4, .unset, .unset] [(.int 113), (.int 9), (.ref pa), (.ref pa)]))
  have V199 : Arv Z h186 pa kk .char (80 : Int32) (List.replicate 9 (Value.int (113 : Int32)) ++ [(.int 0)]) (.int 0) := V192.pad (pad_rep (List.replicate 9 (Value.int (113 : Int32))) (.int 0) 1)
  obtain ⟨c200, A201, q202, S203, M204, H205, U206⟩ := id V199
  obtain ⟨T207, h208, X209, e210, W211, st212⟩ := stC X187 hx hZ e188 A201 (j := (9 : Int32)) (inb_of S203 ⟨(by decide), (by decide)⟩) (g := (mkF m 223 #[iv p0, iv p1, iv p2, iv p3, iv p4, iv cc0, iv cc1, iv cc2, iv cc3, iv 4, .unset, .unset] [(.int 113), (.int 9), (.ref pa), (.ref pa)])) rfl rfl (hb hby at_223)
  have N213 := Fr.snoc X209 N191 nw_pa
  have V214 : Arv Z h208 pa kk .char (80 : Int32) (List.replicate 10 (Value.int (113 : Int32))) (.int 0) := Arv.set A201 q202 S203 M204 H205 U206 rfl W211 9 rfl (leB rfl)
  have hr217 := CHr.wr W211 (Safe.arv hZ.alike V192 (by decide)) H193
  have H215 := hr217.1
  have CH216 := CH194.trans hr217
  have Z218 : n0 ≤ h208.size := by rw [W211.size]; exact Z196
  have hk219 := Nat.le_trans hk197 (Nat.le_of_eq W211.size.symm)
  have O220 := O198.wr W211 nw_pa
  refine Way.by st212 ?_
  show Way _ _ _ _ (T207.setTop (mkF m 224 #[iv p0, iv p1, iv p2, iv p3, iv p4, iv cc0, iv cc1, iv cc2, iv cc3, iv 4, .unset, .unset] [(.ref pa)]))
  try clear X187 e188 N191 V192 H193 CH194 Z196 hk197 O198 V199 c200 A201 q202 S203 M204 H205 U206 W211 st212 hr217
  try clear T185 h186
  refine Way.by (fun _ k => XS.dup X209.here hx rfl (hb hby at_224) rfl rfl k) ?_
  show Way _ _ _ _ (T207.setTop (mkF m 225 #[iv p0, iv p1, iv p2, iv p3, iv p4, iv cc0, iv cc1, iv cc2, iv cc3, iv 4, .unset, .unset] [(.ref pa), (.ref pa)]))
  refine Way.by (fun _ k => XS.bipush X209.here hx rfl (hb hby at_225) k) ?_
  show Way _ _ _ _ (T207.setTop (mkF m 227 #[iv p0, iv p1, iv p2, iv p3, iv p4, iv cc0, iv cc1, iv cc2, iv cc3, iv 4, .unset, .unset] [(.int 10), (.ref pa), (.ref pa)]))
  refine Way.by (fun _ k => XS.bipush X209.here hx rfl (hb hby at_227) k) ?_
  show Way _ _ _ _ (T207.setTop (mkF m 229 #[iv p0, iv p1, iv p2, iv p3, iv p4, iv cc0, iv cc1, iv cc2, iv cc3, iv 4, .unset, .unset] [(.int 113), (.int 10), (.ref pa), (.ref pa)]))
  have V221 : Arv Z h208 pa kk .char (80 : Int32) (List.replicate 10 (Value.int (113 : Int32)) ++ [(.int 0)]) (.int 0) := V214.pad (pad_rep (List.replicate 10 (Value.int (113 : Int32))) (.int 0) 1)
  obtain ⟨c222, A223, q224, S225, M226, H227, U228⟩ := id V221
  obtain ⟨T229, h230, X231, e232, W233, st234⟩ := stC X209 hx hZ e210 A223 (j := (10 : Int32)) (inb_of S225 ⟨(by decide), (by decide)⟩) (g := (mkF m 229 #[iv p0, iv p1, iv p2, iv p3, iv p4, iv cc0, iv cc1, iv cc2, iv cc3, iv 4, .unset, .unset] [(.int 113), (.int 10), (.ref pa), (.ref pa)])) rfl rfl (hb hby at_229)
  have N235 := Fr.snoc X231 N213 nw_pa
  have V236 : Arv Z h230 pa kk .char (80 : Int32) (List.replicate 11 (Value.int (113 : Int32))) (.int 0) := Arv.set A223 q224 S225 M226 H227 U228 rfl W233 10 rfl (leB rfl)
  have hr239 := CHr.wr W233 (Safe.arv hZ.alike V214 (by decide)) H215
  have H237 := hr239.1
  have CH238 := CH216.trans hr239
  have Z240 : n0 ≤ h230.size := by rw [W233.size]; exact Z218
  have hk241 := Nat.le_trans hk219 (Nat.le_of_eq W233.size.symm)
  have O242 := O220.wr W233 nw_pa
  refine Way.by st234 ?_
  show Way _ _ _ _ (T229.setTop (mkF m 230 #[iv p0, iv p1, iv p2, iv p3, iv p4, iv cc0, iv cc1, iv cc2, iv cc3, iv 4, .unset, .unset] [(.ref pa)]))
  try clear X209 e210 N213 V214 H215 CH216 Z218 hk219 O220 V221 c222 A223 q224 S225 M226 H227 U228 W233 st234 hr239
  try clear T207 h208
  refine Way.by (fun _ k => XS.dup X231.here hx rfl (hb hby at_230) rfl rfl k) ?_
  show Way _ _ _ _ (T229.setTop (mkF m 231 #[iv p0, iv p1, iv p2, iv p3, iv p4, iv cc0, iv cc1, iv cc2, iv cc3, iv 4, .unset, .unset] [(.ref pa), (.ref pa)]))
  refine Way.by (fun _ k => XS.bipush X231.here hx rfl (hb hby at_231) k) ?_
  show Way _ _ _ _ (T229.setTop (mkF m 233 #[iv p0, iv p1, iv p2, iv p3, iv p4, iv cc0, iv cc1, iv cc2, iv cc3, iv 4, .unset, .unset] [(.int 11), (.ref pa), (.ref pa)]))
  refine Way.by (fun _ k => XS.bipush X231.here hx rfl (hb hby at_233) k) ?_
  show Way _ _ _ _ (T229.setTop (mkF m 235 #[iv p0, iv p1, iv p2, iv p3, iv p4, iv cc0, iv cc1, iv cc2, iv cc3, iv 4, .unset, .unset] [(.int 113), (.int 11), (.ref pa), (.ref pa)]))
  have V243 : Arv Z h230 pa kk .char (80 : Int32) (List.replicate 11 (Value.int (113 : Int32)) ++ [(.int 0)]) (.int 0) := V236.pad (pad_rep (List.replicate 11 (Value.int (113 : Int32))) (.int 0) 1)
  obtain ⟨c244, A245, q246, S247, M248, H249, U250⟩ := id V243
  obtain ⟨T251, h252, X253, e254, W255, st256⟩ := stC X231 hx hZ e232 A245 (j := (11 : Int32)) (inb_of S247 ⟨(by decide), (by decide)⟩) (g := (mkF m 235 #[iv p0, iv p1, iv p2, iv p3, iv p4, iv cc0, iv cc1, iv cc2, iv cc3, iv 4, .unset, .unset] [(.int 113), (.int 11), (.ref pa), (.ref pa)])) rfl rfl (hb hby at_235)
  have N257 := Fr.snoc X253 N235 nw_pa
  have V258 : Arv Z h252 pa kk .char (80 : Int32) (List.replicate 12 (Value.int (113 : Int32))) (.int 0) := Arv.set A245 q246 S247 M248 H249 U250 rfl W255 11 rfl (leB rfl)
  have hr261 := CHr.wr W255 (Safe.arv hZ.alike V236 (by decide)) H237
  have H259 := hr261.1
  have CH260 := CH238.trans hr261
  have Z262 : n0 ≤ h252.size := by rw [W255.size]; exact Z240
  have hk263 := Nat.le_trans hk241 (Nat.le_of_eq W255.size.symm)
  have O264 := O242.wr W255 nw_pa
  refine Way.by st256 ?_
  show Way _ _ _ _ (T251.setTop (mkF m 236 #[iv p0, iv p1, iv p2, iv p3, iv p4, iv cc0, iv cc1, iv cc2, iv cc3, iv 4, .unset, .unset] [(.ref pa)]))
  try clear X231 e232 N235 V236 H237 CH238 Z240 hk241 O242 V243 c244 A245 q246 S247 M248 H249 U250 W255 st256 hr261
  try clear T229 h230
  refine Way.by (fun _ k => XS.dup X253.here hx rfl (hb hby at_236) rfl rfl k) ?_
  show Way _ _ _ _ (T251.setTop (mkF m 237 #[iv p0, iv p1, iv p2, iv p3, iv p4, iv cc0, iv cc1, iv cc2, iv cc3, iv 4, .unset, .unset] [(.ref pa), (.ref pa)]))
  refine Way.by (fun _ k => XS.bipush X253.here hx rfl (hb hby at_237) k) ?_
  show Way _ _ _ _ (T251.setTop (mkF m 239 #[iv p0, iv p1, iv p2, iv p3, iv p4, iv cc0, iv cc1, iv cc2, iv cc3, iv 4, .unset, .unset] [(.int 12), (.ref pa), (.ref pa)]))
  refine Way.by (fun _ k => XS.bipush X253.here hx rfl (hb hby at_239) k) ?_
  show Way _ _ _ _ (T251.setTop (mkF m 241 #[iv p0, iv p1, iv p2, iv p3, iv p4, iv cc0, iv cc1, iv cc2, iv cc3, iv 4, .unset, .unset] [(.int 113), (.int 12), (.ref pa), (.ref pa)]))
  have V265 : Arv Z h252 pa kk .char (80 : Int32) (List.replicate 12 (Value.int (113 : Int32)) ++ [(.int 0)]) (.int 0) := V258.pad (pad_rep (List.replicate 12 (Value.int (113 : Int32))) (.int 0) 1)
  obtain ⟨c266, A267, q268, S269, M270, H271, U272⟩ := id V265
  obtain ⟨T273, h274, X275, e276, W277, st278⟩ := stC X253 hx hZ e254 A267 (j := (12 : Int32)) (inb_of S269 ⟨(by decide), (by decide)⟩) (g := (mkF m 241 #[iv p0, iv p1, iv p2, iv p3, iv p4, iv cc0, iv cc1, iv cc2, iv cc3, iv 4, .unset, .unset] [(.int 113), (.int 12), (.ref pa), (.ref pa)])) rfl rfl (hb hby at_241)
  have N279 := Fr.snoc X275 N257 nw_pa
  have V280 : Arv Z h274 pa kk .char (80 : Int32) (List.replicate 13 (Value.int (113 : Int32))) (.int 0) := Arv.set A267 q268 S269 M270 H271 U272 rfl W277 12 rfl (leB rfl)
  have hr283 := CHr.wr W277 (Safe.arv hZ.alike V258 (by decide)) H259
  have H281 := hr283.1
  have CH282 := CH260.trans hr283
  have Z284 : n0 ≤ h274.size := by rw [W277.size]; exact Z262
  have hk285 := Nat.le_trans hk263 (Nat.le_of_eq W277.size.symm)
  have O286 := O264.wr W277 nw_pa
  refine Way.by st278 ?_
  show Way _ _ _ _ (T273.setTop (mkF m 242 #[iv p0, iv p1, iv p2, iv p3, iv p4, iv cc0, iv cc1, iv cc2, iv cc3, iv 4, .unset, .unset] [(.ref pa)]))
  try clear X253 e254 N257 V258 H259 CH260 Z262 hk263 O264 V265 c266 A267 q268 S269 M270 H271 U272 W277 st278 hr283
  try clear T251 h252
  refine Way.by (fun _ k => XS.dup X275.here hx rfl (hb hby at_242) rfl rfl k) ?_
  show Way _ _ _ _ (T273.setTop (mkF m 243 #[iv p0, iv p1, iv p2, iv p3, iv p4, iv cc0, iv cc1, iv cc2, iv cc3, iv 4, .unset, .unset] [(.ref pa), (.ref pa)]))
  refine Way.by (fun _ k => XS.bipush X275.here hx rfl (hb hby at_243) k) ?_
  show Way _ _ _ _ (T273.setTop (mkF m 245 #[iv p0, iv p1, iv p2, iv p3, iv p4, iv cc0, iv cc1, iv cc2, iv cc3, iv 4, .unset, .unset] [(.int 13), (.ref pa), (.ref pa)]))
  refine Way.by (fun _ k => XS.bipush X275.here hx rfl (hb hby at_245) k) ?_
  show Way _ _ _ _ (T273.setTop (mkF m 247 #[iv p0, iv p1, iv p2, iv p3, iv p4, iv cc0, iv cc1, iv cc2, iv cc3, iv 4, .unset, .unset] [(.int 113), (.int 13), (.ref pa), (.ref pa)]))
  have V287 : Arv Z h274 pa kk .char (80 : Int32) (List.replicate 13 (Value.int (113 : Int32)) ++ [(.int 0)]) (.int 0) := V280.pad (pad_rep (List.replicate 13 (Value.int (113 : Int32))) (.int 0) 1)
  obtain ⟨c288, A289, q290, S291, M292, H293, U294⟩ := id V287
  obtain ⟨T295, h296, X297, e298, W299, st300⟩ := stC X275 hx hZ e276 A289 (j := (13 : Int32)) (inb_of S291 ⟨(by decide), (by decide)⟩) (g := (mkF m 247 #[iv p0, iv p1, iv p2, iv p3, iv p4, iv cc0, iv cc1, iv cc2, iv cc3, iv 4, .unset, .unset] [(.int 113), (.int 13), (.ref pa), (.ref pa)])) rfl rfl (hb hby at_247)
  have N301 := Fr.snoc X297 N279 nw_pa
  have V302 : Arv Z h296 pa kk .char (80 : Int32) (List.replicate 14 (Value.int (113 : Int32))) (.int 0) := Arv.set A289 q290 S291 M292 H293 U294 rfl W299 13 rfl (leB rfl)
  have hr305 := CHr.wr W299 (Safe.arv hZ.alike V280 (by decide)) H281
  have H303 := hr305.1
  have CH304 := CH282.trans hr305
  have Z306 : n0 ≤ h296.size := by rw [W299.size]; exact Z284
  have hk307 := Nat.le_trans hk285 (Nat.le_of_eq W299.size.symm)
  have O308 := O286.wr W299 nw_pa
  refine Way.by st300 ?_
  show Way _ _ _ _ (T295.setTop (mkF m 248 #[iv p0, iv p1, iv p2, iv p3, iv p4, iv cc0, iv cc1, iv cc2, iv cc3, iv 4, .unset, .unset] [(.ref pa)]))
  try clear X275 e276 N279 V280 H281 CH282 Z284 hk285 O286 V287 c288 A289 q290 S291 M292 H293 U294 W299 st300 hr305
  try clear T273 h274
  refine Way.by (fun _ k => XS.dup X297.here hx rfl (hb hby at_248) rfl rfl k) ?_
  show Way _ _ _ _ (T295.setTop (mkF m 249 #[iv p0, iv p1, iv p2, iv p3, iv p4, iv cc0, iv cc1, iv cc2, iv cc3, iv 4, .unset, .unset] [(.ref pa), (.ref pa)]))
  refine Way.by (fun _ k => XS.bipush X297.here hx rfl (hb hby at_249) k) ?_
  show Way _ _ _ _ (T295.setTop (mkF m 251 #[iv p0, iv p1, iv p2, iv p3, iv p4, iv cc0, iv cc1, iv cc2, iv cc3, iv 4, .unset, .unset] [(.int 14), (.ref pa), (.ref pa)]))
  refine Way.by (fun _ k => XS.bipush X297.here hx rfl (hb hby at_251) k) ?_
  show Way _ _ _ _ (T295.setTop (mkF m 253 #[iv p0, iv p1, iv p2, iv p3, iv p4, iv cc0, iv cc1, iv cc2, iv cc3, iv 4, .unset, .unset] [(.int 113), (.int 14), (.ref pa), (.ref pa)]))
  have V309 : Arv Z h296 pa kk .char (80 : Int32) (List.replicate 14 (Value.int (113 : Int32)) ++ [(.int 0)]) (.int 0) := V302.pad (pad_rep (List.replicate 14 (Value.int (113 : Int32))) (.int 0) 1)
  obtain ⟨c310, A311, q312, S313, M314, H315, U316⟩ := id V309
  obtain ⟨T317, h318, X319, e320, W321, st322⟩ := stC X297 hx hZ e298 A311 (j := (14 : Int32)) (inb_of S313 ⟨(by decide), (by decide)⟩) (g := (mkF m 253 #[iv p0, iv p1, iv p2, iv p3, iv p4, iv cc0, iv cc1, iv cc2, iv cc3, iv 4, .unset, .unset] [(.int 113), (.int 14), (.ref pa), (.ref pa)])) rfl rfl (hb hby at_253)
  have N323 := Fr.snoc X319 N301 nw_pa
  have V324 : Arv Z h318 pa kk .char (80 : Int32) (List.replicate 15 (Value.int (113 : Int32))) (.int 0) := Arv.set A311 q312 S313 M314 H315 U316 rfl W321 14 rfl (leB rfl)
  have hr327 := CHr.wr W321 (Safe.arv hZ.alike V302 (by decide)) H303
  have H325 := hr327.1
  have CH326 := CH304.trans hr327
  have Z328 : n0 ≤ h318.size := by rw [W321.size]; exact Z306
  have hk329 := Nat.le_trans hk307 (Nat.le_of_eq W321.size.symm)
  have O330 := O308.wr W321 nw_pa
  refine Way.by st322 ?_
  show Way _ _ _ _ (T317.setTop (mkF m 254 #[iv p0, iv p1, iv p2, iv p3, iv p4, iv cc0, iv cc1, iv cc2, iv cc3, iv 4, .unset, .unset] [(.ref pa)]))
  try clear X297 e298 N301 V302 H303 CH304 Z306 hk307 O308 V309 c310 A311 q312 S313 M314 H315 U316 W321 st322 hr327
  try clear T295 h296
  refine Way.by (fun _ k => XS.dup X319.here hx rfl (hb hby at_254) rfl rfl k) ?_
  show Way _ _ _ _ (T317.setTop (mkF m 255 #[iv p0, iv p1, iv p2, iv p3, iv p4, iv cc0, iv cc1, iv cc2, iv cc3, iv 4, .unset, .unset] [(.ref pa), (.ref pa)]))
  refine Way.by (fun _ k => XS.bipush X319.here hx rfl (hb hby at_255) k) ?_
  show Way _ _ _ _ (T317.setTop (mkF m 257 #[iv p0, iv p1, iv p2, iv p3, iv p4, iv cc0, iv cc1, iv cc2, iv cc3, iv 4, .unset, .unset] [(.int 15), (.ref pa), (.ref pa)]))
  refine Way.by (fun _ k => XS.bipush X319.here hx rfl (hb hby at_257) k) ?_
  show Way _ _ _ _ (T317.setTop (mkF m 259 #[iv p0, iv p1, iv p2, iv p3, iv p4, iv cc0, iv cc1, iv cc2, iv cc3, iv 4, .unset, .unset] [(.int 113), (.int 15), (.ref pa), (.ref pa)]))
  have V331 : Arv Z h318 pa kk .char (80 : Int32) (List.replicate 15 (Value.int (113 : Int32)) ++ [(.int 0)]) (.int 0) := V324.pad (pad_rep (List.replicate 15 (Value.int (113 : Int32))) (.int 0) 1)
  obtain ⟨c332, A333, q334, S335, M336, H337, U338⟩ := id V331
  obtain ⟨T339, h340, X341, e342, W343, st344⟩ := stC X319 hx hZ e320 A333 (j := (15 : Int32)) (inb_of S335 ⟨(by decide), (by decide)⟩) (g := (mkF m 259 #[iv p0, iv p1, iv p2, iv p3, iv p4, iv cc0, iv cc1, iv cc2, iv cc3, iv 4, .unset, .unset] [(.int 113), (.int 15), (.ref pa), (.ref pa)])) rfl rfl (hb hby at_259)
  have N345 := Fr.snoc X341 N323 nw_pa
  have V346 : Arv Z h340 pa kk .char (80 : Int32) (List.replicate 16 (Value.int (113 : Int32))) (.int 0) := Arv.set A333 q334 S335 M336 H337 U338 rfl W343 15 rfl (leB rfl)
  have hr349 := CHr.wr W343 (Safe.arv hZ.alike V324 (by decide)) H325
  have H347 := hr349.1
  have CH348 := CH326.trans hr349
  have Z350 : n0 ≤ h340.size := by rw [W343.size]; exact Z328
  have hk351 := Nat.le_trans hk329 (Nat.le_of_eq W343.size.symm)
  have O352 := O330.wr W343 nw_pa
  refine Way.by st344 ?_
  show Way _ _ _ _ (T339.setTop (mkF m 260 #[iv p0, iv p1, iv p2, iv p3, iv p4, iv cc0, iv cc1, iv cc2, iv cc3, iv 4, .unset, .unset] [(.ref pa)]))
  try clear X319 e320 N323 V324 H325 CH326 Z328 hk329 O330 V331 c332 A333 q334 S335 M336 H337 U338 W343 st344 hr349
  try clear T317 h318
  refine Way.by (fun _ k => XS.dup X341.here hx rfl (hb hby at_260) rfl rfl k) ?_
  show Way _ _ _ _ (T339.setTop (mkF m 261 #[iv p0, iv p1, iv p2, iv p3, iv p4, iv cc0, iv cc1, iv cc2, iv cc3, iv 4, .unset, .unset] [(.ref pa), (.ref pa)]))
  refine Way.by (fun _ k => XS.bipush X341.here hx rfl (hb hby at_261) k) ?_
  show Way _ _ _ _ (T339.setTop (mkF m 263 #[iv p0, iv p1, iv p2, iv p3, iv p4, iv cc0, iv cc1, iv cc2, iv cc3, iv 4, .unset, .unset] [(.int 16), (.ref pa), (.ref pa)]))
  refine Way.by (fun _ k => XS.bipush X341.here hx rfl (hb hby at_263) k) ?_
  show Way _ _ _ _ (T339.setTop (mkF m 265 #[iv p0, iv p1, iv p2, iv p3, iv p4, iv cc0, iv cc1, iv cc2, iv cc3, iv 4, .unset, .unset] [(.int 113), (.int 16), (.ref pa), (.ref pa)]))
  have V353 : Arv Z h340 pa kk .char (80 : Int32) (List.replicate 16 (Value.int (113 : Int32)) ++ [(.int 0)]) (.int 0) := V346.pad (pad_rep (List.replicate 16 (Value.int (113 : Int32))) (.int 0) 1)
  obtain ⟨c354, A355, q356, S357, M358, H359, U360⟩ := id V353
  obtain ⟨T361, h362, X363, e364, W365, st366⟩ := stC X341 hx hZ e342 A355 (j := (16 : Int32)) (inb_of S357 ⟨(by decide), (by decide)⟩) (g := (mkF m 265 #[iv p0, iv p1, iv p2, iv p3, iv p4, iv cc0, iv cc1, iv cc2, iv cc3, iv 4, .unset, .unset] [(.int 113), (.int 16), (.ref pa), (.ref pa)])) rfl rfl (hb hby at_265)
  have N367 := Fr.snoc X363 N345 nw_pa
  have V368 : Arv Z h362 pa kk .char (80 : Int32) (List.replicate 17 (Value.int (113 : Int32))) (.int 0) := Arv.set A355 q356 S357 M358 H359 U360 rfl W365 16 rfl (leB rfl)
  have hr371 := CHr.wr W365 (Safe.arv hZ.alike V346 (by decide)) H347
  have H369 := hr371.1
  have CH370 := CH348.trans hr371
  have Z372 : n0 ≤ h362.size := by rw [W365.size]; exact Z350
  have hk373 := Nat.le_trans hk351 (Nat.le_of_eq W365.size.symm)
  have O374 := O352.wr W365 nw_pa
  refine Way.by st366 ?_
  show Way _ _ _ _ (T361.setTop (mkF m 266 #[iv p0, iv p1, iv p2, iv p3, iv p4, iv cc0, iv cc1, iv cc2, iv cc3, iv 4, .unset, .unset] [(.ref pa)]))
  try clear X341 e342 N345 V346 H347 CH348 Z350 hk351 O352 V353 c354 A355 q356 S357 M358 H359 U360 W365 st366 hr371
  try clear T339 h340
  refine Way.by (fun _ k => XS.dup X363.here hx rfl (hb hby at_266) rfl rfl k) ?_
  show Way _ _ _ _ (T361.setTop (mkF m 267 #[iv p0, iv p1, iv p2, iv p3, iv p4, iv cc0, iv cc1, iv cc2, iv cc3, iv 4, .unset, .unset] [(.ref pa), (.ref pa)]))
  refine Way.by (fun _ k => XS.bipush X363.here hx rfl (hb hby at_267) k) ?_
  show Way _ _ _ _ (T361.setTop (mkF m 269 #[iv p0, iv p1, iv p2, iv p3, iv p4, iv cc0, iv cc1, iv cc2, iv cc3, iv 4, .unset, .unset] [(.int 17), (.ref pa), (.ref pa)]))
  refine Way.by (fun _ k => XS.bipush X363.here hx rfl (hb hby at_269) k) ?_
  show Way _ _ _ _ (T361.setTop (mkF m 271 #[iv p0, iv p1, iv p2, iv p3, iv p4, iv cc0, iv cc1, iv cc2, iv cc3, iv 4, .unset, .unset] [(.int 113), (.int 17), (.ref pa), (.ref pa)]))
  have V375 : Arv Z h362 pa kk .char (80 : Int32) (List.replicate 17 (Value.int (113 : Int32)) ++ [(.int 0)]) (.int 0) := V368.pad (pad_rep (List.replicate 17 (Value.int (113 : Int32))) (.int 0) 1)
  obtain ⟨c376, A377, q378, S379, M380, H381, U382⟩ := id V375
  obtain ⟨T383, h384, X385, e386, W387, st388⟩ := stC X363 hx hZ e364 A377 (j := (17 : Int32)) (inb_of S379 ⟨(by decide), (by decide)⟩) (g := (mkF m 271 #[iv p0, iv p1, iv p2, iv p3, iv p4, iv cc0, iv cc1, iv cc2, iv cc3, iv 4, .unset, .unset] [(.int 113), (.int 17), (.ref pa), (.ref pa)])) rfl rfl (hb hby at_271)
  have N389 := Fr.snoc X385 N367 nw_pa
  have V390 : Arv Z h384 pa kk .char (80 : Int32) (List.replicate 18 (Value.int (113 : Int32))) (.int 0) := Arv.set A377 q378 S379 M380 H381 U382 rfl W387 17 rfl (leB rfl)
  have hr393 := CHr.wr W387 (Safe.arv hZ.alike V368 (by decide)) H369
  have H391 := hr393.1
  have CH392 := CH370.trans hr393
  have Z394 : n0 ≤ h384.size := by rw [W387.size]; exact Z372
  have hk395 := Nat.le_trans hk373 (Nat.le_of_eq W387.size.symm)
  have O396 := O374.wr W387 nw_pa
  refine Way.by st388 ?_
  show Way _ _ _ _ (T383.setTop (mkF m 272 #[iv p0, iv p1, iv p2, iv p3, iv p4, iv cc0, iv cc1, iv cc2, iv cc3, iv 4, .unset, .unset] [(.ref pa)]))
  try clear X363 e364 N367 V368 H369 CH370 Z372 hk373 O374 V375 c376 A377 q378 S379 M380 H381 U382 W387 st388 hr393
  try clear T361 h362
  refine Way.by (fun _ k => XS.dup X385.here hx rfl (hb hby at_272) rfl rfl k) ?_
  show Way _ _ _ _ (T383.setTop (mkF m 273 #[iv p0, iv p1, iv p2, iv p3, iv p4, iv cc0, iv cc1, iv cc2, iv cc3, iv 4, .unset, .unset] [(.ref pa), (.ref pa)]))
  refine Way.by (fun _ k => XS.bipush X385.here hx rfl (hb hby at_273) k) ?_
  show Way _ _ _ _ (T383.setTop (mkF m 275 #[iv p0, iv p1, iv p2, iv p3, iv p4, iv cc0, iv cc1, iv cc2, iv cc3, iv 4, .unset, .unset] [(.int 18), (.ref pa), (.ref pa)]))
  refine Way.by (fun _ k => XS.bipush X385.here hx rfl (hb hby at_275) k) ?_
  show Way _ _ _ _ (T383.setTop (mkF m 277 #[iv p0, iv p1, iv p2, iv p3, iv p4, iv cc0, iv cc1, iv cc2, iv cc3, iv 4, .unset, .unset] [(.int 113), (.int 18), (.ref pa), (.ref pa)]))
  have V397 : Arv Z h384 pa kk .char (80 : Int32) (List.replicate 18 (Value.int (113 : Int32)) ++ [(.int 0)]) (.int 0) := V390.pad (pad_rep (List.replicate 18 (Value.int (113 : Int32))) (.int 0) 1)
  obtain ⟨c398, A399, q400, S401, M402, H403, U404⟩ := id V397
  obtain ⟨T405, h406, X407, e408, W409, st410⟩ := stC X385 hx hZ e386 A399 (j := (18 : Int32)) (inb_of S401 ⟨(by decide), (by decide)⟩) (g := (mkF m 277 #[iv p0, iv p1, iv p2, iv p3, iv p4, iv cc0, iv cc1, iv cc2, iv cc3, iv 4, .unset, .unset] [(.int 113), (.int 18), (.ref pa), (.ref pa)])) rfl rfl (hb hby at_277)
  have N411 := Fr.snoc X407 N389 nw_pa
  have V412 : Arv Z h406 pa kk .char (80 : Int32) (List.replicate 19 (Value.int (113 : Int32))) (.int 0) := Arv.set A399 q400 S401 M402 H403 U404 rfl W409 18 rfl (leB rfl)
  have hr415 := CHr.wr W409 (Safe.arv hZ.alike V390 (by decide)) H391
  have H413 := hr415.1
  have CH414 := CH392.trans hr415
  have Z416 : n0 ≤ h406.size := by rw [W409.size]; exact Z394
  have hk417 := Nat.le_trans hk395 (Nat.le_of_eq W409.size.symm)
  have O418 := O396.wr W409 nw_pa
  refine Way.by st410 ?_
  show Way _ _ _ _ (T405.setTop (mkF m 278 #[iv p0, iv p1, iv p2, iv p3, iv p4, iv cc0, iv cc1, iv cc2, iv cc3, iv 4, .unset, .unset] [(.ref pa)]))
  try clear X385 e386 N389 V390 H391 CH392 Z394 hk395 O396 V397 c398 A399 q400 S401 M402 H403 U404 W409 st410 hr415
  try clear T383 h384
  refine Way.by (fun _ k => XS.dup X407.here hx rfl (hb hby at_278) rfl rfl k) ?_
  show Way _ _ _ _ (T405.setTop (mkF m 279 #[iv p0, iv p1, iv p2, iv p3, iv p4, iv cc0, iv cc1, iv cc2, iv cc3, iv 4, .unset, .unset] [(.ref pa), (.ref pa)]))
  refine Way.by (fun _ k => XS.bipush X407.here hx rfl (hb hby at_279) k) ?_
  show Way _ _ _ _ (T405.setTop (mkF m 281 #[iv p0, iv p1, iv p2, iv p3, iv p4, iv cc0, iv cc1, iv cc2, iv cc3, iv 4, .unset, .unset] [(.int 19), (.ref pa), (.ref pa)]))
  refine Way.by (fun _ k => XS.bipush X407.here hx rfl (hb hby at_281) k) ?_
  show Way _ _ _ _ (T405.setTop (mkF m 283 #[iv p0, iv p1, iv p2, iv p3, iv p4, iv cc0, iv cc1, iv cc2, iv cc3, iv 4, .unset, .unset] [(.int 113), (.int 19), (.ref pa), (.ref pa)]))
  have V419 : Arv Z h406 pa kk .char (80 : Int32) (List.replicate 19 (Value.int (113 : Int32)) ++ [(.int 0)]) (.int 0) := V412.pad (pad_rep (List.replicate 19 (Value.int (113 : Int32))) (.int 0) 1)
  obtain ⟨c420, A421, q422, S423, M424, H425, U426⟩ := id V419
  obtain ⟨T427, h428, X429, e430, W431, st432⟩ := stC X407 hx hZ e408 A421 (j := (19 : Int32)) (inb_of S423 ⟨(by decide), (by decide)⟩) (g := (mkF m 283 #[iv p0, iv p1, iv p2, iv p3, iv p4, iv cc0, iv cc1, iv cc2, iv cc3, iv 4, .unset, .unset] [(.int 113), (.int 19), (.ref pa), (.ref pa)])) rfl rfl (hb hby at_283)
  have N433 := Fr.snoc X429 N411 nw_pa
  have V434 : Arv Z h428 pa kk .char (80 : Int32) (List.replicate 20 (Value.int (113 : Int32))) (.int 0) := Arv.set A421 q422 S423 M424 H425 U426 rfl W431 19 rfl (leB rfl)
  have hr437 := CHr.wr W431 (Safe.arv hZ.alike V412 (by decide)) H413
  have H435 := hr437.1
  have CH436 := CH414.trans hr437
  have Z438 : n0 ≤ h428.size := by rw [W431.size]; exact Z416
  have hk439 := Nat.le_trans hk417 (Nat.le_of_eq W431.size.symm)
  have O440 := O418.wr W431 nw_pa
  refine Way.by st432 ?_
  show Way _ _ _ _ (T427.setTop (mkF m 284 #[iv p0, iv p1, iv p2, iv p3, iv p4, iv cc0, iv cc1, iv cc2, iv cc3, iv 4, .unset, .unset] [(.ref pa)]))
  try clear X407 e408 N411 V412 H413 CH414 Z416 hk417 O418 V419 c420 A421 q422 S423 M424 H425 U426 W431 st432 hr437
  try clear T405 h406
  exact segW1 l Z a0 hw ws p0 p1 p2 p3 p4 h0 n0 Z0 O0 SV p e s m below meth c s₁ Bd hml _ hZ hown _ hS hh T427 h428 _ X429 e430 N433 Z438 hk439 H435 CH436 O440 cc0 cc1 cc2 cc3 pa kk V434 ok0 ok1 ok2 ok3 nw_pa
theorem pd0 : parseMethodDescriptor "(IIIII)Z" = some ⟨[.int, .int, .int, .int, .int], some .boolean⟩ := by decide +kernel
set_option maxRecDepth 65536 in
set_option maxHeartbeats 40000000 in
theorem rm0 (l : Launch) (Z : State) (a0 : Array Value) (hw : ∀ d ∈ tables_1, d.before a0 Z = true) (ws : List Jvm.Cond) (p0 p1 p2 p3 p4 : Int32) (h0 : Heap) (n0 : Nat) (Z0 : n0 ≤ h0.size) (O0 : Old Z n0 h0) (SV : own_Env Z) :
    MetFree l x (head1 (Jvm.Cond.code x code maxLocals ret :: ws) room_1) (fun aa U => aa = #[(.int p0), (.int p1), (.int p2), (.int p3), (.int p4)] ∧ Z.Warmed39 U.vm ∧ U.heap = h0 ∧ CHv Z own_EL U.vm h0) (fun _ _ _ _ _ => True) (fun _ U oo U' => ∃ v L, oo = .returned v ∧ Q0 n0 v U'.heap L ∧ CHr Z own_EL U.vm U.heap U'.vm U'.heap ∧ ReturnedEndW U oo U' L room_1.cells room_1.slots) := by
  refine MetFree.of_bodySF (plainFor_of_name pnK) hisR ?_
  intro p e s m args below meth c s₁ Bd hml0 hP hK
  obtain ⟨rfl, hZ, hh, HV0⟩ := hP
  have hx := Bd.exec
  have hby := Bd.bytes
  have hlk : meth.locks = false := BodyLoose.notSynchronized Bd
  have hml : c.maxLocals = 12 := hml0
  have hown : s.vm.findClass "com/example/outbox/outbox/QueueNameOfPinLaw" = some m.cls := findClass_of_methodNamed Bd.named
  have hnm := (name_of_methodNamed Bd.named Bd.method).1
  have X0 : Stand p l e room_1 s m #[(.int p0), (.int p1), (.int p2), (.int p3), (.int p4)] below meth c s₁ [] 0 0 := Stand.of_body Bd
  have e0 : s₁.heap = h0 := by rw [← hh, Bd.state]; rfl
  have N0 := Fr.nil n0
  have ef : entryFrame m #[(.int p0), (.int p1), (.int p2), (.int p3), (.int p4)] maxLocals = mkF m 0 #[iv p0, iv p1, iv p2, iv p3, iv p4, .unset, .unset, .unset, .unset, .unset, .unset, .unset] [] := by first | (simp [entryFrame, mkF, argsToLocals, Value.category, maxLocals]; done) | rfl
  have XW : Stand p l e room_1 (s.setVm s.vm) m #[(.int p0), (.int p1), (.int p2), (.int p3), (.int p4)] below meth c s₁ [] 0 0 := X0
  have hS0 : s.Since s.vm 0 := (State.WarmedH.refl s).since 0
  have hZ0 : Z.Warmed39 (s.setVm s.vm).vm := hZ
  have hown0 : (s.setVm s.vm).vm.findClass "com/example/outbox/outbox/QueueNameOfPinLaw" = some m.cls := hown
  have wS : ∀ d ∈ Bundle.stringAtoms, d.before a0 Z = true := fun d hd => hw d (own_wS d hd)
  have hEL : EW Z a0 own_EL := own_EW hw
  have CH0 : CHr Z own_EL s.vm h0 s.vm h0 := CHr.refl HV0
  show Way p.tables e below (KQH s Z own_EL (Q0 n0) room_1.cells room_1.slots) (s₁.setTop (entryFrame m #[(.int p0), (.int p1), (.int p2), (.int p3), (.int p4)] maxLocals))
  rw [ef]
  refine Way.by (fun _ k => XS.iloadN XW.here hx rfl (hb hby at_0) rfl k) ?_
  show Way _ _ _ _ (s₁.setTop (mkF m 1 #[iv p0, iv p1, iv p2, iv p3, iv p4, .unset, .unset, .unset, .unset, .unset, .unset, .unset] [(.int p1)]))
  obtain ⟨_, _, ⟨T1, L3, k4, n5⟩, -, X2, ⟨Lc6, hQ7, l8, y9, z10⟩, st11⟩ := Jvm.LawKit.callS XW hx (y := (⟨"com/example/outbox/outbox/QueueNameOfPinLaw", "pick", "(I)C"⟩ : MethodName)) hown0 (mvT hZ0 (tw hw 0 rfl)) (mvT hZ0 (tw hw 1 rfl)) (mvT hZ0 (tw hw 2 rfl)) (mvT hZ0 (tw hw 3 rfl)) (by decide) (backOf (W := 0) (rmK l Z a0 hw [] p1 h0 n0 Z0 ) hZ0 (tw hw 3 rfl) (tw hw 2 rfl) (by decide) (by decide)) (g := (mkF m 1 #[iv p0, iv p1, iv p2, iv p3, iv p4, .unset, .unset, .unset, .unset, .unset, .unset, .unset] [(.int p1)])) rfl (by rw [hml]; rfl) (argsL := [(.int p1)]) (rest := []) (lenOf pdK rfl) rfl (leW rfl) (hb hby at_1) (fun _ _ => ⟨rfl, e0, (leB rfl), (leB rfl)⟩)
  dsimp only [Pt.U, Pt.locs, Pt.cells, Pt.slots] at X2 l8 y9 z10 st11 hQ7
  subst l8 y9 z10
  obtain ⟨x_pv20, rfl, N17, e13, pu_OK19⟩ := hQ7
  have N12 := Fr.app N0 N17
  refine Way.by st11 ?_
  show Way _ _ _ _ (T1.setTop (mkF m 4 #[iv p0, iv p1, iv p2, iv p3, iv p4, .unset, .unset, .unset, .unset, .unset, .unset, .unset] [(.int x_pv20)]))
  refine Way.by (fun _ k => XS.istore X2.here hx rfl (hb hby at_4) rfl (l' := #[iv p0, iv p1, iv p2, iv p3, iv p4, iv x_pv20, .unset, .unset, .unset, .unset, .unset, .unset]) rfl k) ?_
  show Way _ _ _ _ (T1.setTop (mkF m 6 #[iv p0, iv p1, iv p2, iv p3, iv p4, iv x_pv20, .unset, .unset, .unset, .unset, .unset, .unset] []))
  refine Way.by (fun _ k => XS.iloadN X2.here hx rfl (hb hby at_6) rfl k) ?_
  show Way _ _ _ _ (T1.setTop (mkF m 7 #[iv p0, iv p1, iv p2, iv p3, iv p4, iv x_pv20, .unset, .unset, .unset, .unset, .unset, .unset] [(.int p2)]))
  obtain ⟨_, _, ⟨T21, L23, k24, n25⟩, -, X22, ⟨Lc26, hQ27, l28, y29, z30⟩, st31⟩ := Jvm.LawKit.callS X2 hx (y := (⟨"com/example/outbox/outbox/QueueNameOfPinLaw", "pick", "(I)C"⟩ : MethodName)) hown0 (mvT hZ0 (tw hw 0 rfl)) (mvT hZ0 (tw hw 1 rfl)) (mvT hZ0 (tw hw 2 rfl)) (mvT hZ0 (tw hw 3 rfl)) (by decide) (backOf (W := 0) (rmK l Z a0 hw [] p2 h0 n0 Z0 ) hZ0 (tw hw 3 rfl) (tw hw 2 rfl) (by decide) (by decide)) (g := (mkF m 7 #[iv p0, iv p1, iv p2, iv p3, iv p4, iv x_pv20, .unset, .unset, .unset, .unset, .unset, .unset] [(.int p2)])) rfl (by rw [hml]; rfl) (argsL := [(.int p2)]) (rest := []) (lenOf pdK rfl) rfl (leW rfl) (hb hby at_7) (fun _ _ => ⟨rfl, e13, (leB rfl), (leB rfl)⟩)
  dsimp only [Pt.U, Pt.locs, Pt.cells, Pt.slots] at X22 l28 y29 z30 st31 hQ27
  subst l28 y29 z30
  obtain ⟨x_pv40, rfl, N37, e33, pu_OK39⟩ := hQ27
  have N32 := Fr.app N12 N37
  refine Way.by st31 ?_
  show Way _ _ _ _ (T21.setTop (mkF m 10 #[iv p0, iv p1, iv p2, iv p3, iv p4, iv x_pv20, .unset, .unset, .unset, .unset, .unset, .unset] [(.int x_pv40)]))
  refine Way.by (fun _ k => XS.istore X22.here hx rfl (hb hby at_10) rfl (l' := #[iv p0, iv p1, iv p2, iv p3, iv p4, iv x_pv20, iv x_pv40, .unset, .unset, .unset, .unset, .unset]) rfl k) ?_
  show Way _ _ _ _ (T21.setTop (mkF m 12 #[iv p0, iv p1, iv p2, iv p3, iv p4, iv x_pv20, iv x_pv40, .unset, .unset, .unset, .unset, .unset] []))
  refine Way.by (fun _ k => XS.iloadN X22.here hx rfl (hb hby at_12) rfl k) ?_
  show Way _ _ _ _ (T21.setTop (mkF m 13 #[iv p0, iv p1, iv p2, iv p3, iv p4, iv x_pv20, iv x_pv40, .unset, .unset, .unset, .unset, .unset] [(.int p3)]))
  obtain ⟨_, _, ⟨T41, L43, k44, n45⟩, -, X42, ⟨Lc46, hQ47, l48, y49, z50⟩, st51⟩ := Jvm.LawKit.callS X22 hx (y := (⟨"com/example/outbox/outbox/QueueNameOfPinLaw", "pick", "(I)C"⟩ : MethodName)) hown0 (mvT hZ0 (tw hw 0 rfl)) (mvT hZ0 (tw hw 1 rfl)) (mvT hZ0 (tw hw 2 rfl)) (mvT hZ0 (tw hw 3 rfl)) (by decide) (backOf (W := 0) (rmK l Z a0 hw [] p3 h0 n0 Z0 ) hZ0 (tw hw 3 rfl) (tw hw 2 rfl) (by decide) (by decide)) (g := (mkF m 13 #[iv p0, iv p1, iv p2, iv p3, iv p4, iv x_pv20, iv x_pv40, .unset, .unset, .unset, .unset, .unset] [(.int p3)])) rfl (by rw [hml]; rfl) (argsL := [(.int p3)]) (rest := []) (lenOf pdK rfl) rfl (leW rfl) (hb hby at_13) (fun _ _ => ⟨rfl, e33, (leB rfl), (leB rfl)⟩)
  dsimp only [Pt.U, Pt.locs, Pt.cells, Pt.slots] at X42 l48 y49 z50 st51 hQ47
  subst l48 y49 z50
  obtain ⟨x_pv60, rfl, N57, e53, pu_OK59⟩ := hQ47
  have N52 := Fr.app N32 N57
  refine Way.by st51 ?_
  show Way _ _ _ _ (T41.setTop (mkF m 16 #[iv p0, iv p1, iv p2, iv p3, iv p4, iv x_pv20, iv x_pv40, .unset, .unset, .unset, .unset, .unset] [(.int x_pv60)]))
  refine Way.by (fun _ k => XS.istore X42.here hx rfl (hb hby at_16) rfl (l' := #[iv p0, iv p1, iv p2, iv p3, iv p4, iv x_pv20, iv x_pv40, iv x_pv60, .unset, .unset, .unset, .unset]) rfl k) ?_
  show Way _ _ _ _ (T41.setTop (mkF m 18 #[iv p0, iv p1, iv p2, iv p3, iv p4, iv x_pv20, iv x_pv40, iv x_pv60, .unset, .unset, .unset, .unset] []))
  refine Way.by (fun _ k => XS.iload X42.here hx rfl (hb hby at_18) rfl k) ?_
  show Way _ _ _ _ (T41.setTop (mkF m 20 #[iv p0, iv p1, iv p2, iv p3, iv p4, iv x_pv20, iv x_pv40, iv x_pv60, .unset, .unset, .unset, .unset] [(.int p4)]))
  obtain ⟨_, _, ⟨T61, L63, k64, n65⟩, -, X62, ⟨Lc66, hQ67, l68, y69, z70⟩, st71⟩ := Jvm.LawKit.callS X42 hx (y := (⟨"com/example/outbox/outbox/QueueNameOfPinLaw", "pick", "(I)C"⟩ : MethodName)) hown0 (mvT hZ0 (tw hw 0 rfl)) (mvT hZ0 (tw hw 1 rfl)) (mvT hZ0 (tw hw 2 rfl)) (mvT hZ0 (tw hw 3 rfl)) (by decide) (backOf (W := 0) (rmK l Z a0 hw [] p4 h0 n0 Z0 ) hZ0 (tw hw 3 rfl) (tw hw 2 rfl) (by decide) (by decide)) (g := (mkF m 20 #[iv p0, iv p1, iv p2, iv p3, iv p4, iv x_pv20, iv x_pv40, iv x_pv60, .unset, .unset, .unset, .unset] [(.int p4)])) rfl (by rw [hml]; rfl) (argsL := [(.int p4)]) (rest := []) (lenOf pdK rfl) rfl (leW rfl) (hb hby at_20) (fun _ _ => ⟨rfl, e53, (leB rfl), (leB rfl)⟩)
  dsimp only [Pt.U, Pt.locs, Pt.cells, Pt.slots] at X62 l68 y69 z70 st71 hQ67
  subst l68 y69 z70
  obtain ⟨x_pv80, rfl, N77, e73, pu_OK79⟩ := hQ67
  have N72 := Fr.app N52 N77
  refine Way.by st71 ?_
  show Way _ _ _ _ (T61.setTop (mkF m 23 #[iv p0, iv p1, iv p2, iv p3, iv p4, iv x_pv20, iv x_pv40, iv x_pv60, .unset, .unset, .unset, .unset] [(.int x_pv80)]))
  refine Way.by (fun _ k => XS.istore X62.here hx rfl (hb hby at_23) rfl (l' := #[iv p0, iv p1, iv p2, iv p3, iv p4, iv x_pv20, iv x_pv40, iv x_pv60, iv x_pv80, .unset, .unset, .unset]) rfl k) ?_
  show Way _ _ _ _ (T61.setTop (mkF m 25 #[iv p0, iv p1, iv p2, iv p3, iv p4, iv x_pv20, iv x_pv40, iv x_pv60, iv x_pv80, .unset, .unset, .unset] []))
  refine Way.by (fun _ k => XS.iloadN X62.here hx rfl (hb hby at_25) rfl k) ?_
  show Way _ _ _ _ (T61.setTop (mkF m 26 #[iv p0, iv p1, iv p2, iv p3, iv p4, iv x_pv20, iv x_pv40, iv x_pv60, iv x_pv80, .unset, .unset, .unset] [(.int p0)]))
  refine Way.by (Stand.ldcInt X62 hx hown0 (mvT hZ0 (tw hw 4 rfl)) rfl (hb hby at_26)) ?_
  show Way _ _ _ _ (T61.setTop (mkF m 28 #[iv p0, iv p1, iv p2, iv p3, iv p4, iv x_pv20, iv x_pv40, iv x_pv60, iv x_pv80, .unset, .unset, .unset] [(.int 2147483647), (.int p0)]))
  refine Way.by (fun _ k => XS.iand X62.here hx rfl (hb hby at_28) rfl k) ?_
  show Way _ _ _ _ (T61.setTop (mkF m 29 #[iv p0, iv p1, iv p2, iv p3, iv p4, iv x_pv20, iv x_pv40, iv x_pv60, iv x_pv80, .unset, .unset, .unset] [(.int (p0 &&& (2147483647 : Int32)))]))
  refine Way.by (fun _ k => XS.iconst X62.here hx rfl (hb hby at_29) k) ?_
  show Way _ _ _ _ (T61.setTop (mkF m 30 #[iv p0, iv p1, iv p2, iv p3, iv p4, iv x_pv20, iv x_pv40, iv x_pv60, iv x_pv80, .unset, .unset, .unset] [(.int 5), (.int (p0 &&& (2147483647 : Int32)))]))
  refine Way.by (fun _ k => iremM X62 hx rfl (hb hby at_30) rfl (by decide) k) ?_
  show Way _ _ _ _ (T61.setTop (mkF m 31 #[iv p0, iv p1, iv p2, iv p3, iv p4, iv x_pv20, iv x_pv40, iv x_pv60, iv x_pv80, .unset, .unset, .unset] [(.int ((p0 &&& (2147483647 : Int32)) % (5 : Int32)))]))
  refine Way.by (fun _ k => XS.istore X62.here hx rfl (hb hby at_31) rfl (l' := #[iv p0, iv p1, iv p2, iv p3, iv p4, iv x_pv20, iv x_pv40, iv x_pv60, iv x_pv80, iv ((p0 &&& (2147483647 : Int32)) % (5 : Int32)), .unset, .unset]) rfl k) ?_
  show Way _ _ _ _ (T61.setTop (mkF m 33 #[iv p0, iv p1, iv p2, iv p3, iv p4, iv x_pv20, iv x_pv40, iv x_pv60, iv x_pv80, iv ((p0 &&& (2147483647 : Int32)) % (5 : Int32)), .unset, .unset] []))
  obtain ⟨k, qk⟩ : ∃ z, z = (p0 &&& (2147483647 : Int32)) % (5 : Int32) := ⟨_, rfl⟩
  rw [← qk]
  have hk : 0 ≤ k.toInt ∧ k.toInt < 5 := by rw [qk]; exact remB p0 5 5 rfl (by decide)
  rcases cases5 hk with rfl | rfl | rfl | rfl | rfl
  · skip
    have hokL : ∀ c ∈ ([x_pv20] : List Int32), own_ok c := by
      intro c hc; have o113 : own_ok 113 := Or.inr (Or.inl (by decide)); simp only [List.mem_append, List.mem_cons, List.mem_replicate, List.not_mem_nil, or_false] at hc
      rcases hc with rfl <;> assumption
    show Way _ _ _ _ (T61.setTop (mkF m 33 #[iv p0, iv p1, iv p2, iv p3, iv p4, iv x_pv20, iv x_pv40, iv x_pv60, iv x_pv80, iv 0, .unset, .unset] []))
    refine Way.by (fun _ k => XS.iload X62.here hx rfl (hb hby at_33) rfl k) ?_
    show Way _ _ _ _ (T61.setTop (mkF m 35 #[iv p0, iv p1, iv p2, iv p3, iv p4, iv x_pv20, iv x_pv40, iv x_pv60, iv x_pv80, iv 0, .unset, .unset] [(.int 0)]))
    have b81 : (0 : Int32) = (0 : Int32) := by decide
    refine Way.by (fun _ k => XS.ifNo X62.here hx rfl (hb hby at_35) rfl ((if0 .ne _).trans (teq b81).2) k) ?_
    show Way _ _ _ _ (T61.setTop (mkF m 38 #[iv p0, iv p1, iv p2, iv p3, iv p4, iv x_pv20, iv x_pv40, iv x_pv60, iv x_pv80, iv 0, .unset, .unset] []))
    obtain ⟨T82, h83, X84, e85, E86, A87, D88, -, st89⟩ := newO X62 hx hZ0 hown0 (tw hw 5 rfl) (tw hw 6 rfl) (tw hw 7 rfl) e73 (g := (mkF m 38 #[iv p0, iv p1, iv p2, iv p3, iv p4, iv x_pv20, iv x_pv40, iv x_pv60, iv x_pv80, iv 0, .unset, .unset] [])) rfl (hb hby at_38) (by decide) (by decide)
    obtain ⟨a90, g91⟩ : ∃ z, z = h0.size := ⟨_, rfl⟩
    rw [← g91] at A87 D88 st89
    have nw92 : n0 ≤ a90 := Nat.le_trans Z0 (Nat.le_of_eq g91.symm)
    have Sf93 : Safe Z own_EL s.vm h0 a90 := Safe.new (Nat.le_of_eq g91.symm)
    have hr96 := CHr.ext E86 HV0
    have Sf97 := Safe.ext E86 HV0 Sf93
    have H94 := hr96.1
    have CH95 := CH0.trans hr96
    have Z98 := Nat.le_trans Z0 E86.1
    have hk99 := Nat.le_trans (Nat.zero_le _) E86.1
    have O100 := O0.ext E86
    have F101 : Fld Z h83 a90 "java/lang/String" "coder" "B" (.int 0) := D88 (Or.inr (tw hw 32 rfl)) (ty := .byte) (by decide)
    have F102 : Fld Z h83 a90 "java/lang/String" "value" "[B" .null := D88 (Or.inr (tw hw 34 rfl)) (ty := (.array .byte)) (by decide)
    refine Way.by st89 ?_
    show Way _ _ _ _ (T82.setTop (mkF m 41 #[iv p0, iv p1, iv p2, iv p3, iv p4, iv x_pv20, iv x_pv40, iv x_pv60, iv x_pv80, iv 0, .unset, .unset] [(.ref a90)]))
    refine Way.by (fun _ k => XS.dup X84.here hx rfl (hb hby at_41) rfl rfl k) ?_
    show Way _ _ _ _ (T82.setTop (mkF m 42 #[iv p0, iv p1, iv p2, iv p3, iv p4, iv x_pv20, iv x_pv40, iv x_pv60, iv x_pv80, iv 0, .unset, .unset] [(.ref a90), (.ref a90)]))
    refine Way.by (fun _ k => XS.iconst X84.here hx rfl (hb hby at_42) k) ?_
    show Way _ _ _ _ (T82.setTop (mkF m 43 #[iv p0, iv p1, iv p2, iv p3, iv p4, iv x_pv20, iv x_pv40, iv x_pv60, iv x_pv80, iv 0, .unset, .unset] [(.int 1), (.ref a90), (.ref a90)]))
    obtain ⟨T103, h104, kc105, X106, e107, E108, A109, st110⟩ := newP X84 hx hZ0 (tw hw 8 rfl) e85 (g := (mkF m 43 #[iv p0, iv p1, iv p2, iv p3, iv p4, iv x_pv20, iv x_pv40, iv x_pv60, iv x_pv80, iv 0, .unset, .unset] [(.int 1), (.ref a90), (.ref a90)])) rfl (hb hby at_43) rfl (by decide) (cap := 1) (by decide) (by decide) (by decide) (by decide)
    obtain ⟨a111, g112⟩ : ∃ z, z = h83.size := ⟨_, rfl⟩
    rw [← g112] at A109 st110
    have ne114 : a90 ≠ a111 := Nat.ne_of_lt (Nat.lt_of_lt_of_eq A87.lt g112.symm)
    have nw115 : n0 ≤ a111 := Nat.le_trans Z98 (Nat.le_of_eq g112.symm)
    have hr118 := CHr.ext E108 H94
    have Sf119 := Safe.ext E108 H94 Sf97
    have H116 := hr118.1
    have CH117 := CH95.trans hr118
    have E120 := Exa.ext E108 A87
    have F121 := Fld.ext E108 F101
    have F122 := Fld.ext E108 F102
    have Z123 := Nat.le_trans Z98 E108.1
    have hk124 := Nat.le_trans hk99 E108.1
    have O125 := O100.ext E108
    have V113 : Arv Z h104 a111 kc105 .char (1 : Int32) [] (.int 0) := Arv.new A109 (by decide)
    refine Way.by st110 ?_
    show Way _ _ _ _ (T103.setTop (mkF m 45 #[iv p0, iv p1, iv p2, iv p3, iv p4, iv x_pv20, iv x_pv40, iv x_pv60, iv x_pv80, iv 0, .unset, .unset] [(.ref a111), (.ref a90), (.ref a90)]))
    try clear X84 e85 A87 H94 CH95 Sf97 Z98 hk99 O100 F101 F102 E108 A109 st110 hr118
    try clear T82 h83
    refine Way.by (fun _ k => XS.dup X106.here hx rfl (hb hby at_45) rfl rfl k) ?_
    show Way _ _ _ _ (T103.setTop (mkF m 46 #[iv p0, iv p1, iv p2, iv p3, iv p4, iv x_pv20, iv x_pv40, iv x_pv60, iv x_pv80, iv 0, .unset, .unset] [(.ref a111), (.ref a111), (.ref a90), (.ref a90)]))
    refine Way.by (fun _ k => XS.iconst X106.here hx rfl (hb hby at_46) k) ?_
    show Way _ _ _ _ (T103.setTop (mkF m 47 #[iv p0, iv p1, iv p2, iv p3, iv p4, iv x_pv20, iv x_pv40, iv x_pv60, iv x_pv80, iv 0, .unset, .unset] [(.int 0), (.ref a111), (.ref a111), (.ref a90), (.ref a90)]))
    refine Way.by (fun _ k => XS.iload X106.here hx rfl (hb hby at_47) rfl k) ?_
    show Way _ _ _ _ (T103.setTop (mkF m 49 #[iv p0, iv p1, iv p2, iv p3, iv p4, iv x_pv20, iv x_pv40, iv x_pv60, iv x_pv80, iv 0, .unset, .unset] [(.int x_pv20), (.int 0), (.ref a111), (.ref a111), (.ref a90), (.ref a90)]))
    have V126 : Arv Z h104 a111 kc105 .char (1 : Int32) [(.int 0)] (.int 0) := V113.pad (pad_rep [] (.int 0) 1)
    obtain ⟨c127, A128, q129, S130, M131, H132, U133⟩ := id V126
    obtain ⟨T134, h135, X136, e137, W138, st139⟩ := stC X106 hx hZ0 e107 A128 (j := (0 : Int32)) (inb_of S130 ⟨(by decide), (by decide)⟩) (g := (mkF m 49 #[iv p0, iv p1, iv p2, iv p3, iv p4, iv x_pv20, iv x_pv40, iv x_pv60, iv x_pv80, iv 0, .unset, .unset] [(.int x_pv20), (.int 0), (.ref a111), (.ref a111), (.ref a90), (.ref a90)])) rfl rfl (hb hby at_49)
    have N140 := Fr.snoc X136 N72 nw115
    have V141 : Arv Z h135 a111 kc105 .char (1 : Int32) [(.int (nar .char x_pv20))] (.int 0) := Arv.set A128 q129 S130 M131 H132 U133 (fits_nar_char _) W138 0 rfl (leB rfl)
    have nq143 : nar .char x_pv20 = x_pv20 := own_ok.nar pu_OK19
    have V142 : Arv Z h135 a111 kc105 .char (1 : Int32) [(.int x_pv20)] (.int 0) := by rw [nq143] at V141; exact V141
    have hr146 := CHr.wr W138 (Safe.arv hZ0.alike V113 (by decide)) H116
    have Sf147 := Safe.wr W138 (Safe.arv hZ0.alike V113 (by decide)) H116 Sf119
    have H144 := hr146.1
    have CH145 := CH117.trans hr146
    have E148 := Exa.wr W138 E120
    have F149 := F121.other W138 (Or.inl ne114)
    have F150 := F122.other W138 (Or.inl ne114)
    have Z151 : n0 ≤ h135.size := by rw [W138.size]; exact Z123
    have hk152 := Nat.le_trans hk124 (Nat.le_of_eq W138.size.symm)
    have O153 := O125.wr W138 nw115
    refine Way.by st139 ?_
    show Way _ _ _ _ (T134.setTop (mkF m 50 #[iv p0, iv p1, iv p2, iv p3, iv p4, iv x_pv20, iv x_pv40, iv x_pv60, iv x_pv80, iv 0, .unset, .unset] [(.ref a111), (.ref a90), (.ref a90)]))
    try clear N72 X106 e107 V113 H116 CH117 Sf119 E120 F121 F122 Z123 hk124 O125 V126 c127 A128 q129 S130 M131 H132 U133 W138 st139 V141 hr146
    try clear T103 h104
    have hp154 : ∀ c ∈ ([x_pv20] : List Int32), ¬ c < 0 ∧ ¬ (255 : Int32) < c := fun c hc => (hokL c hc).b
    obtain ⟨_, _, ⟨T155, L157, k158, n159⟩, -, X156, ⟨Lc160, hQ161, l162, y163, z164⟩, st165⟩ := X136.specialBack hx (y := (⟨"java/lang/String", "<init>", "([C)V"⟩ : MethodName)) rfl hown0 (mvT hZ0 (tw hw 9 rfl)) (mvT hZ0 (tw hw 10 rfl)) (mvT hZ0 (tw hw 11 rfl)) (by decide) (own_new (W := 1) (n0 := n0) hZ0 hw SV O153 (cs := [x_pv20]) (n := 1) nw92 Z151 E148 F150 F149 V142 rfl rfl (by decide) (by decide) hp154 (by decide) (by decide)) (g := (mkF m 50 #[iv p0, iv p1, iv p2, iv p3, iv p4, iv x_pv20, iv x_pv40, iv x_pv60, iv x_pv80, iv 0, .unset, .unset] [(.ref a111), (.ref a90), (.ref a90)])) rfl (by rw [hml]; rfl) (Steps.refl _) (a := a90) (argsL := [(.ref a111)]) (rest := [(.ref a90)]) (lenOf own_pdNew rfl) rfl (leW rfl) (hb hby at_50) (fun _ _ => ⟨rfl, e137, (leB rfl), (leB rfl)⟩)
    dsimp only [Pt.U, Pt.locs, Pt.cells, Pt.slots] at X156 l162 y163 z164 st165 hQ161
    subst l162 y163 z164
    obtain ⟨rfl, N171, K172, x_t175, fr_t174, F173⟩ := hQ161
    have N166 := Fr.app N140 N171
    have ne176 : a90 ≠ x_t175 := Nat.ne_of_lt (Nat.lt_of_lt_of_le E148.lt fr_t174)
    have ne177 : a111 ≠ x_t175 := Nat.ne_of_lt (Nat.lt_of_lt_of_le V142.lt fr_t174)
    have nw178 : n0 ≤ x_t175 := Nat.le_trans Z151 fr_t174
    have Sf179 : Safe Z own_EL s.vm h135 x_t175 := Safe.new fr_t174
    have hr182 := CHr.keep K172 (sfS Sf147 sf0) H144
    have Sf183 := Safe.keep K172 (sfS Sf147 sf0) H144 Sf147
    have Sf184 := Safe.keep K172 (sfS Sf147 sf0) H144 Sf179
    have H180 := hr182.1
    have CH181 := CH145.trans hr182
    have E185 := E148.keep K172
    have A186 := V142.keep K172 (ninS ne114.symm nin0)
    have Z187 := Nat.le_trans Z151 K172.1
    have hk188 := Nat.le_trans hk152 K172.1
    have O189 := O153.keep K172 (allS nw92 all0)
    refine Way.to st165 ?_
    show Way _ _ _ _ (T155.setTop (mkF m 53 #[iv p0, iv p1, iv p2, iv p3, iv p4, iv x_pv20, iv x_pv40, iv x_pv60, iv x_pv80, iv 0, .unset, .unset] [(.ref a90)]))
    try clear X136 e137 N140 V142 H144 CH145 Sf147 E148 F149 F150 Z151 hk152 O153 st165 N171 K172 hr182
    try clear T134 h135
    refine Way.by (fun _ k => XS.astore X156.here hx rfl (hb hby at_53) rfl rfl (l' := #[iv p0, iv p1, iv p2, iv p3, iv p4, iv x_pv20, iv x_pv40, iv x_pv60, iv x_pv80, iv 0, rv a90, .unset]) rfl k) ?_
    show Way _ _ _ _ (T155.setTop (mkF m 55 #[iv p0, iv p1, iv p2, iv p3, iv p4, iv x_pv20, iv x_pv40, iv x_pv60, iv x_pv80, iv 0, rv a90, .unset] []))
    refine Way.by (fun _ k => XS.goto X156.here hx rfl (pc0 := 55) (pc' := 682) rfl (hb hby at_55) (by decide) (by decide) k) ?_
    show Way _ _ _ _ (T155.setTop (mkF m 682 #[iv p0, iv p1, iv p2, iv p3, iv p4, iv x_pv20, iv x_pv40, iv x_pv60, iv x_pv80, iv 0, rv a90, .unset] []))
    exact seg682 l Z a0 hw ws p0 p1 p2 p3 p4 h0 n0 Z0 O0 SV p e s m below meth c s₁ Bd hml _ hZ0 hown0 _ hS0 hh T155 T155.heap _ (X156.mono (by decide) (by decide)) rfl N166 Z187 hk188 H180 CH181 O189 x_pv20 x_pv40 x_pv60 x_pv80 (0 : Int32) a90 x_t175 [x_pv20] .unset F173 hokL ⟨by simp, by simp⟩ One.u
  · skip
    have hokL : ∀ c ∈ ([x_pv20, x_pv40] : List Int32), own_ok c := by
      intro c hc; have o113 : own_ok 113 := Or.inr (Or.inl (by decide)); simp only [List.mem_append, List.mem_cons, List.mem_replicate, List.not_mem_nil, or_false] at hc
      rcases hc with rfl | rfl <;> assumption
    show Way _ _ _ _ (T61.setTop (mkF m 33 #[iv p0, iv p1, iv p2, iv p3, iv p4, iv x_pv20, iv x_pv40, iv x_pv60, iv x_pv80, iv 1, .unset, .unset] []))
    refine Way.by (fun _ k => XS.iload X62.here hx rfl (hb hby at_33) rfl k) ?_
    show Way _ _ _ _ (T61.setTop (mkF m 35 #[iv p0, iv p1, iv p2, iv p3, iv p4, iv x_pv20, iv x_pv40, iv x_pv60, iv x_pv80, iv 1, .unset, .unset] [(.int 1)]))
    have b190 : ¬ (1 : Int32) = (0 : Int32) := by decide
    refine Way.by (fun _ k => XS.ifYes X62.here hx rfl (pc0 := 35) (pc' := 58) rfl (hb hby at_35) rfl ((if0 .ne _).trans (feq b190).2) (by decide) (by decide) k) ?_
    show Way _ _ _ _ (T61.setTop (mkF m 58 #[iv p0, iv p1, iv p2, iv p3, iv p4, iv x_pv20, iv x_pv40, iv x_pv60, iv x_pv80, iv 1, .unset, .unset] []))
    refine Way.by (fun _ k => XS.iload X62.here hx rfl (hb hby at_58) rfl k) ?_
    show Way _ _ _ _ (T61.setTop (mkF m 60 #[iv p0, iv p1, iv p2, iv p3, iv p4, iv x_pv20, iv x_pv40, iv x_pv60, iv x_pv80, iv 1, .unset, .unset] [(.int 1)]))
    refine Way.by (fun _ k => XS.iconst X62.here hx rfl (hb hby at_60) k) ?_
    show Way _ _ _ _ (T61.setTop (mkF m 61 #[iv p0, iv p1, iv p2, iv p3, iv p4, iv x_pv20, iv x_pv40, iv x_pv60, iv x_pv80, iv 1, .unset, .unset] [(.int 1), (.int 1)]))
    have b191 : (1 : Int32) = (1 : Int32) := by decide
    refine Way.by (fun _ k => XS.icmpNo X62.here hx rfl (hb hby at_61) rfl (teq b191).2 k) ?_
    show Way _ _ _ _ (T61.setTop (mkF m 64 #[iv p0, iv p1, iv p2, iv p3, iv p4, iv x_pv20, iv x_pv40, iv x_pv60, iv x_pv80, iv 1, .unset, .unset] []))
    obtain ⟨T192, h193, X194, e195, E196, A197, D198, -, st199⟩ := newO X62 hx hZ0 hown0 (tw hw 5 rfl) (tw hw 6 rfl) (tw hw 7 rfl) e73 (g := (mkF m 64 #[iv p0, iv p1, iv p2, iv p3, iv p4, iv x_pv20, iv x_pv40, iv x_pv60, iv x_pv80, iv 1, .unset, .unset] [])) rfl (hb hby at_64) (by decide) (by decide)
    obtain ⟨a200, g201⟩ : ∃ z, z = h0.size := ⟨_, rfl⟩
    rw [← g201] at A197 D198 st199
    have nw202 : n0 ≤ a200 := Nat.le_trans Z0 (Nat.le_of_eq g201.symm)
    have Sf203 : Safe Z own_EL s.vm h0 a200 := Safe.new (Nat.le_of_eq g201.symm)
    have hr206 := CHr.ext E196 HV0
    have Sf207 := Safe.ext E196 HV0 Sf203
    have H204 := hr206.1
    have CH205 := CH0.trans hr206
    have Z208 := Nat.le_trans Z0 E196.1
    have hk209 := Nat.le_trans (Nat.zero_le _) E196.1
    have O210 := O0.ext E196
    have F211 : Fld Z h193 a200 "java/lang/String" "coder" "B" (.int 0) := D198 (Or.inr (tw hw 32 rfl)) (ty := .byte) (by decide)
    have F212 : Fld Z h193 a200 "java/lang/String" "value" "[B" .null := D198 (Or.inr (tw hw 34 rfl)) (ty := (.array .byte)) (by decide)
    refine Way.by st199 ?_
    show Way _ _ _ _ (T192.setTop (mkF m 67 #[iv p0, iv p1, iv p2, iv p3, iv p4, iv x_pv20, iv x_pv40, iv x_pv60, iv x_pv80, iv 1, .unset, .unset] [(.ref a200)]))
    refine Way.by (fun _ k => XS.dup X194.here hx rfl (hb hby at_67) rfl rfl k) ?_
    show Way _ _ _ _ (T192.setTop (mkF m 68 #[iv p0, iv p1, iv p2, iv p3, iv p4, iv x_pv20, iv x_pv40, iv x_pv60, iv x_pv80, iv 1, .unset, .unset] [(.ref a200), (.ref a200)]))
    refine Way.by (fun _ k => XS.iconst X194.here hx rfl (hb hby at_68) k) ?_
    show Way _ _ _ _ (T192.setTop (mkF m 69 #[iv p0, iv p1, iv p2, iv p3, iv p4, iv x_pv20, iv x_pv40, iv x_pv60, iv x_pv80, iv 1, .unset, .unset] [(.int 2), (.ref a200), (.ref a200)]))
    obtain ⟨T213, h214, kc215, X216, e217, E218, A219, st220⟩ := newP X194 hx hZ0 (tw hw 8 rfl) e195 (g := (mkF m 69 #[iv p0, iv p1, iv p2, iv p3, iv p4, iv x_pv20, iv x_pv40, iv x_pv60, iv x_pv80, iv 1, .unset, .unset] [(.int 2), (.ref a200), (.ref a200)])) rfl (hb hby at_69) rfl (by decide) (cap := 2) (by decide) (by decide) (by decide) (by decide)
    obtain ⟨a221, g222⟩ : ∃ z, z = h193.size := ⟨_, rfl⟩
    rw [← g222] at A219 st220
    have ne224 : a200 ≠ a221 := Nat.ne_of_lt (Nat.lt_of_lt_of_eq A197.lt g222.symm)
    have nw225 : n0 ≤ a221 := Nat.le_trans Z208 (Nat.le_of_eq g222.symm)
    have hr228 := CHr.ext E218 H204
    have Sf229 := Safe.ext E218 H204 Sf207
    have H226 := hr228.1
    have CH227 := CH205.trans hr228
    have E230 := Exa.ext E218 A197
    have F231 := Fld.ext E218 F211
    have F232 := Fld.ext E218 F212
    have Z233 := Nat.le_trans Z208 E218.1
    have hk234 := Nat.le_trans hk209 E218.1
    have O235 := O210.ext E218
    have V223 : Arv Z h214 a221 kc215 .char (2 : Int32) [] (.int 0) := Arv.new A219 (by decide)
    refine Way.by st220 ?_
    show Way _ _ _ _ (T213.setTop (mkF m 71 #[iv p0, iv p1, iv p2, iv p3, iv p4, iv x_pv20, iv x_pv40, iv x_pv60, iv x_pv80, iv 1, .unset, .unset] [(.ref a221), (.ref a200), (.ref a200)]))
    try clear X194 e195 A197 H204 CH205 Sf207 Z208 hk209 O210 F211 F212 E218 A219 st220 hr228
    try clear T192 h193
    refine Way.by (fun _ k => XS.dup X216.here hx rfl (hb hby at_71) rfl rfl k) ?_
    show Way _ _ _ _ (T213.setTop (mkF m 72 #[iv p0, iv p1, iv p2, iv p3, iv p4, iv x_pv20, iv x_pv40, iv x_pv60, iv x_pv80, iv 1, .unset, .unset] [(.ref a221), (.ref a221), (.ref a200), (.ref a200)]))
    refine Way.by (fun _ k => XS.iconst X216.here hx rfl (hb hby at_72) k) ?_
    show Way _ _ _ _ (T213.setTop (mkF m 73 #[iv p0, iv p1, iv p2, iv p3, iv p4, iv x_pv20, iv x_pv40, iv x_pv60, iv x_pv80, iv 1, .unset, .unset] [(.int 0), (.ref a221), (.ref a221), (.ref a200), (.ref a200)]))
    refine Way.by (fun _ k => XS.iload X216.here hx rfl (hb hby at_73) rfl k) ?_
    show Way _ _ _ _ (T213.setTop (mkF m 75 #[iv p0, iv p1, iv p2, iv p3, iv p4, iv x_pv20, iv x_pv40, iv x_pv60, iv x_pv80, iv 1, .unset, .unset] [(.int x_pv20), (.int 0), (.ref a221), (.ref a221), (.ref a200), (.ref a200)]))
    have V236 : Arv Z h214 a221 kc215 .char (2 : Int32) [(.int 0)] (.int 0) := V223.pad (pad_rep [] (.int 0) 1)
    obtain ⟨c237, A238, q239, S240, M241, H242, U243⟩ := id V236
    obtain ⟨T244, h245, X246, e247, W248, st249⟩ := stC X216 hx hZ0 e217 A238 (j := (0 : Int32)) (inb_of S240 ⟨(by decide), (by decide)⟩) (g := (mkF m 75 #[iv p0, iv p1, iv p2, iv p3, iv p4, iv x_pv20, iv x_pv40, iv x_pv60, iv x_pv80, iv 1, .unset, .unset] [(.int x_pv20), (.int 0), (.ref a221), (.ref a221), (.ref a200), (.ref a200)])) rfl rfl (hb hby at_75)
    have N250 := Fr.snoc X246 N72 nw225
    have V251 : Arv Z h245 a221 kc215 .char (2 : Int32) [(.int (nar .char x_pv20))] (.int 0) := Arv.set A238 q239 S240 M241 H242 U243 (fits_nar_char _) W248 0 rfl (leB rfl)
    have nq253 : nar .char x_pv20 = x_pv20 := own_ok.nar pu_OK19
    have V252 : Arv Z h245 a221 kc215 .char (2 : Int32) [(.int x_pv20)] (.int 0) := by rw [nq253] at V251; exact V251
    have hr256 := CHr.wr W248 (Safe.arv hZ0.alike V223 (by decide)) H226
    have Sf257 := Safe.wr W248 (Safe.arv hZ0.alike V223 (by decide)) H226 Sf229
    have H254 := hr256.1
    have CH255 := CH227.trans hr256
    have E258 := Exa.wr W248 E230
    have F259 := F231.other W248 (Or.inl ne224)
    have F260 := F232.other W248 (Or.inl ne224)
    have Z261 : n0 ≤ h245.size := by rw [W248.size]; exact Z233
    have hk262 := Nat.le_trans hk234 (Nat.le_of_eq W248.size.symm)
    have O263 := O235.wr W248 nw225
    refine Way.by st249 ?_
    show Way _ _ _ _ (T244.setTop (mkF m 76 #[iv p0, iv p1, iv p2, iv p3, iv p4, iv x_pv20, iv x_pv40, iv x_pv60, iv x_pv80, iv 1, .unset, .unset] [(.ref a221), (.ref a200), (.ref a200)]))
    try clear N72 X216 e217 V223 H226 CH227 Sf229 E230 F231 F232 Z233 hk234 O235 V236 c237 A238 q239 S240 M241 H242 U243 W248 st249 V251 hr256
    try clear T213 h214
    refine Way.by (fun _ k => XS.dup X246.here hx rfl (hb hby at_76) rfl rfl k) ?_
    show Way _ _ _ _ (T244.setTop (mkF m 77 #[iv p0, iv p1, iv p2, iv p3, iv p4, iv x_pv20, iv x_pv40, iv x_pv60, iv x_pv80, iv 1, .unset, .unset] [(.ref a221), (.ref a221), (.ref a200), (.ref a200)]))
    refine Way.by (fun _ k => XS.iconst X246.here hx rfl (hb hby at_77) k) ?_
    show Way _ _ _ _ (T244.setTop (mkF m 78 #[iv p0, iv p1, iv p2, iv p3, iv p4, iv x_pv20, iv x_pv40, iv x_pv60, iv x_pv80, iv 1, .unset, .unset] [(.int 1), (.ref a221), (.ref a221), (.ref a200), (.ref a200)]))
    refine Way.by (fun _ k => XS.iload X246.here hx rfl (hb hby at_78) rfl k) ?_
    show Way _ _ _ _ (T244.setTop (mkF m 80 #[iv p0, iv p1, iv p2, iv p3, iv p4, iv x_pv20, iv x_pv40, iv x_pv60, iv x_pv80, iv 1, .unset, .unset] [(.int x_pv40), (.int 1), (.ref a221), (.ref a221), (.ref a200), (.ref a200)]))
    have V264 : Arv Z h245 a221 kc215 .char (2 : Int32) [(.int x_pv20), (.int 0)] (.int 0) := V252.pad (pad_rep [(.int x_pv20)] (.int 0) 1)
    obtain ⟨c265, A266, q267, S268, M269, H270, U271⟩ := id V264
    obtain ⟨T272, h273, X274, e275, W276, st277⟩ := stC X246 hx hZ0 e247 A266 (j := (1 : Int32)) (inb_of S268 ⟨(by decide), (by decide)⟩) (g := (mkF m 80 #[iv p0, iv p1, iv p2, iv p3, iv p4, iv x_pv20, iv x_pv40, iv x_pv60, iv x_pv80, iv 1, .unset, .unset] [(.int x_pv40), (.int 1), (.ref a221), (.ref a221), (.ref a200), (.ref a200)])) rfl rfl (hb hby at_80)
    have N278 := Fr.snoc X274 N250 nw225
    have V279 : Arv Z h273 a221 kc215 .char (2 : Int32) [(.int x_pv20), (.int (nar .char x_pv40))] (.int 0) := Arv.set A266 q267 S268 M269 H270 U271 (fits_nar_char _) W276 1 rfl (leB rfl)
    have nq281 : nar .char x_pv40 = x_pv40 := own_ok.nar pu_OK39
    have V280 : Arv Z h273 a221 kc215 .char (2 : Int32) [(.int x_pv20), (.int x_pv40)] (.int 0) := by rw [nq281] at V279; exact V279
    have hr284 := CHr.wr W276 (Safe.arv hZ0.alike V252 (by decide)) H254
    have Sf285 := Safe.wr W276 (Safe.arv hZ0.alike V252 (by decide)) H254 Sf257
    have H282 := hr284.1
    have CH283 := CH255.trans hr284
    have E286 := Exa.wr W276 E258
    have F287 := F259.other W276 (Or.inl ne224)
    have F288 := F260.other W276 (Or.inl ne224)
    have Z289 : n0 ≤ h273.size := by rw [W276.size]; exact Z261
    have hk290 := Nat.le_trans hk262 (Nat.le_of_eq W276.size.symm)
    have O291 := O263.wr W276 nw225
    refine Way.by st277 ?_
    show Way _ _ _ _ (T272.setTop (mkF m 81 #[iv p0, iv p1, iv p2, iv p3, iv p4, iv x_pv20, iv x_pv40, iv x_pv60, iv x_pv80, iv 1, .unset, .unset] [(.ref a221), (.ref a200), (.ref a200)]))
    try clear X246 e247 N250 V252 H254 CH255 Sf257 E258 F259 F260 Z261 hk262 O263 V264 c265 A266 q267 S268 M269 H270 U271 W276 st277 V279 hr284
    try clear T244 h245
    have hp292 : ∀ c ∈ ([x_pv20, x_pv40] : List Int32), ¬ c < 0 ∧ ¬ (255 : Int32) < c := fun c hc => (hokL c hc).b
    obtain ⟨_, _, ⟨T293, L295, k296, n297⟩, -, X294, ⟨Lc298, hQ299, l300, y301, z302⟩, st303⟩ := X274.specialBack hx (y := (⟨"java/lang/String", "<init>", "([C)V"⟩ : MethodName)) rfl hown0 (mvT hZ0 (tw hw 9 rfl)) (mvT hZ0 (tw hw 10 rfl)) (mvT hZ0 (tw hw 11 rfl)) (by decide) (own_new (W := 1) (n0 := n0) hZ0 hw SV O291 (cs := [x_pv20, x_pv40]) (n := 2) nw202 Z289 E286 F288 F287 V280 rfl rfl (by decide) (by decide) hp292 (by decide) (by decide)) (g := (mkF m 81 #[iv p0, iv p1, iv p2, iv p3, iv p4, iv x_pv20, iv x_pv40, iv x_pv60, iv x_pv80, iv 1, .unset, .unset] [(.ref a221), (.ref a200), (.ref a200)])) rfl (by rw [hml]; rfl) (Steps.refl _) (a := a200) (argsL := [(.ref a221)]) (rest := [(.ref a200)]) (lenOf own_pdNew rfl) rfl (leW rfl) (hb hby at_81) (fun _ _ => ⟨rfl, e275, (leB rfl), (leB rfl)⟩)
    dsimp only [Pt.U, Pt.locs, Pt.cells, Pt.slots] at X294 l300 y301 z302 st303 hQ299
    subst l300 y301 z302
    obtain ⟨rfl, N309, K310, x_t313, fr_t312, F311⟩ := hQ299
    have N304 := Fr.app N278 N309
    have ne314 : a200 ≠ x_t313 := Nat.ne_of_lt (Nat.lt_of_lt_of_le E286.lt fr_t312)
    have ne315 : a221 ≠ x_t313 := Nat.ne_of_lt (Nat.lt_of_lt_of_le V280.lt fr_t312)
    have nw316 : n0 ≤ x_t313 := Nat.le_trans Z289 fr_t312
    have Sf317 : Safe Z own_EL s.vm h273 x_t313 := Safe.new fr_t312
    have hr320 := CHr.keep K310 (sfS Sf285 sf0) H282
    have Sf321 := Safe.keep K310 (sfS Sf285 sf0) H282 Sf285
    have Sf322 := Safe.keep K310 (sfS Sf285 sf0) H282 Sf317
    have H318 := hr320.1
    have CH319 := CH283.trans hr320
    have E323 := E286.keep K310
    have A324 := V280.keep K310 (ninS ne224.symm nin0)
    have Z325 := Nat.le_trans Z289 K310.1
    have hk326 := Nat.le_trans hk290 K310.1
    have O327 := O291.keep K310 (allS nw202 all0)
    refine Way.to st303 ?_
    show Way _ _ _ _ (T293.setTop (mkF m 84 #[iv p0, iv p1, iv p2, iv p3, iv p4, iv x_pv20, iv x_pv40, iv x_pv60, iv x_pv80, iv 1, .unset, .unset] [(.ref a200)]))
    try clear X274 e275 N278 V280 H282 CH283 Sf285 E286 F287 F288 Z289 hk290 O291 st303 N309 K310 hr320
    try clear T272 h273
    refine Way.by (fun _ k => XS.astore X294.here hx rfl (hb hby at_84) rfl rfl (l' := #[iv p0, iv p1, iv p2, iv p3, iv p4, iv x_pv20, iv x_pv40, iv x_pv60, iv x_pv80, iv 1, rv a200, .unset]) rfl k) ?_
    show Way _ _ _ _ (T293.setTop (mkF m 86 #[iv p0, iv p1, iv p2, iv p3, iv p4, iv x_pv20, iv x_pv40, iv x_pv60, iv x_pv80, iv 1, rv a200, .unset] []))
    refine Way.by (fun _ k => XS.goto X294.here hx rfl (pc0 := 86) (pc' := 682) rfl (hb hby at_86) (by decide) (by decide) k) ?_
    show Way _ _ _ _ (T293.setTop (mkF m 682 #[iv p0, iv p1, iv p2, iv p3, iv p4, iv x_pv20, iv x_pv40, iv x_pv60, iv x_pv80, iv 1, rv a200, .unset] []))
    exact seg682 l Z a0 hw ws p0 p1 p2 p3 p4 h0 n0 Z0 O0 SV p e s m below meth c s₁ Bd hml _ hZ0 hown0 _ hS0 hh T293 T293.heap _ (X294.mono (by decide) (by decide)) rfl N304 Z325 hk326 H318 CH319 O327 x_pv20 x_pv40 x_pv60 x_pv80 (1 : Int32) a200 x_t313 [x_pv20, x_pv40] .unset F311 hokL ⟨by simp, by simp⟩ One.u
  · skip
    have hokL : ∀ c ∈ ([x_pv20, x_pv40, x_pv60] : List Int32), own_ok c := by
      intro c hc; have o113 : own_ok 113 := Or.inr (Or.inl (by decide)); simp only [List.mem_append, List.mem_cons, List.mem_replicate, List.not_mem_nil, or_false] at hc
      rcases hc with rfl | rfl | rfl <;> assumption
    show Way _ _ _ _ (T61.setTop (mkF m 33 #[iv p0, iv p1, iv p2, iv p3, iv p4, iv x_pv20, iv x_pv40, iv x_pv60, iv x_pv80, iv 2, .unset, .unset] []))
    refine Way.by (fun _ k => XS.iload X62.here hx rfl (hb hby at_33) rfl k) ?_
    show Way _ _ _ _ (T61.setTop (mkF m 35 #[iv p0, iv p1, iv p2, iv p3, iv p4, iv x_pv20, iv x_pv40, iv x_pv60, iv x_pv80, iv 2, .unset, .unset] [(.int 2)]))
    have b328 : ¬ (2 : Int32) = (0 : Int32) := by decide
    refine Way.by (fun _ k => XS.ifYes X62.here hx rfl (pc0 := 35) (pc' := 58) rfl (hb hby at_35) rfl ((if0 .ne _).trans (feq b328).2) (by decide) (by decide) k) ?_
    show Way _ _ _ _ (T61.setTop (mkF m 58 #[iv p0, iv p1, iv p2, iv p3, iv p4, iv x_pv20, iv x_pv40, iv x_pv60, iv x_pv80, iv 2, .unset, .unset] []))
    refine Way.by (fun _ k => XS.iload X62.here hx rfl (hb hby at_58) rfl k) ?_
    show Way _ _ _ _ (T61.setTop (mkF m 60 #[iv p0, iv p1, iv p2, iv p3, iv p4, iv x_pv20, iv x_pv40, iv x_pv60, iv x_pv80, iv 2, .unset, .unset] [(.int 2)]))
    refine Way.by (fun _ k => XS.iconst X62.here hx rfl (hb hby at_60) k) ?_
    show Way _ _ _ _ (T61.setTop (mkF m 61 #[iv p0, iv p1, iv p2, iv p3, iv p4, iv x_pv20, iv x_pv40, iv x_pv60, iv x_pv80, iv 2, .unset, .unset] [(.int 1), (.int 2)]))
    have b329 : ¬ (2 : Int32) = (1 : Int32) := by decide
    refine Way.by (fun _ k => XS.icmpYes X62.here hx rfl (pc0 := 61) (pc' := 89) rfl (hb hby at_61) rfl (feq b329).2 (by decide) (by decide) k) ?_
    show Way _ _ _ _ (T61.setTop (mkF m 89 #[iv p0, iv p1, iv p2, iv p3, iv p4, iv x_pv20, iv x_pv40, iv x_pv60, iv x_pv80, iv 2, .unset, .unset] []))
    refine Way.by (fun _ k => XS.iload X62.here hx rfl (hb hby at_89) rfl k) ?_
    show Way _ _ _ _ (T61.setTop (mkF m 91 #[iv p0, iv p1, iv p2, iv p3, iv p4, iv x_pv20, iv x_pv40, iv x_pv60, iv x_pv80, iv 2, .unset, .unset] [(.int 2)]))
    refine Way.by (fun _ k => XS.iconst X62.here hx rfl (hb hby at_91) k) ?_
    show Way _ _ _ _ (T61.setTop (mkF m 92 #[iv p0, iv p1, iv p2, iv p3, iv p4, iv x_pv20, iv x_pv40, iv x_pv60, iv x_pv80, iv 2, .unset, .unset] [(.int 2), (.int 2)]))
    have b330 : (2 : Int32) = (2 : Int32) := by decide
    refine Way.by (fun _ k => XS.icmpNo X62.here hx rfl (hb hby at_92) rfl (teq b330).2 k) ?_
    show Way _ _ _ _ (T61.setTop (mkF m 95 #[iv p0, iv p1, iv p2, iv p3, iv p4, iv x_pv20, iv x_pv40, iv x_pv60, iv x_pv80, iv 2, .unset, .unset] []))
    obtain ⟨T331, h332, X333, e334, E335, A336, D337, -, st338⟩ := newO X62 hx hZ0 hown0 (tw hw 5 rfl) (tw hw 6 rfl) (tw hw 7 rfl) e73 (g := (mkF m 95 #[iv p0, iv p1, iv p2, iv p3, iv p4, iv x_pv20, iv x_pv40, iv x_pv60, iv x_pv80, iv 2, .unset, .unset] [])) rfl (hb hby at_95) (by decide) (by decide)
    obtain ⟨a339, g340⟩ : ∃ z, z = h0.size := ⟨_, rfl⟩
    rw [← g340] at A336 D337 st338
    have nw341 : n0 ≤ a339 := Nat.le_trans Z0 (Nat.le_of_eq g340.symm)
    have Sf342 : Safe Z own_EL s.vm h0 a339 := Safe.new (Nat.le_of_eq g340.symm)
    have hr345 := CHr.ext E335 HV0
    have Sf346 := Safe.ext E335 HV0 Sf342
    have H343 := hr345.1
    have CH344 := CH0.trans hr345
    have Z347 := Nat.le_trans Z0 E335.1
    have hk348 := Nat.le_trans (Nat.zero_le _) E335.1
    have O349 := O0.ext E335
    have F350 : Fld Z h332 a339 "java/lang/String" "coder" "B" (.int 0) := D337 (Or.inr (tw hw 32 rfl)) (ty := .byte) (by decide)
    have F351 : Fld Z h332 a339 "java/lang/String" "value" "[B" .null := D337 (Or.inr (tw hw 34 rfl)) (ty := (.array .byte)) (by decide)
    refine Way.by st338 ?_
    show Way _ _ _ _ (T331.setTop (mkF m 98 #[iv p0, iv p1, iv p2, iv p3, iv p4, iv x_pv20, iv x_pv40, iv x_pv60, iv x_pv80, iv 2, .unset, .unset] [(.ref a339)]))
    refine Way.by (fun _ k => XS.dup X333.here hx rfl (hb hby at_98) rfl rfl k) ?_
    show Way _ _ _ _ (T331.setTop (mkF m 99 #[iv p0, iv p1, iv p2, iv p3, iv p4, iv x_pv20, iv x_pv40, iv x_pv60, iv x_pv80, iv 2, .unset, .unset] [(.ref a339), (.ref a339)]))
    refine Way.by (fun _ k => XS.iconst X333.here hx rfl (hb hby at_99) k) ?_
    show Way _ _ _ _ (T331.setTop (mkF m 100 #[iv p0, iv p1, iv p2, iv p3, iv p4, iv x_pv20, iv x_pv40, iv x_pv60, iv x_pv80, iv 2, .unset, .unset] [(.int 3), (.ref a339), (.ref a339)]))
    obtain ⟨T352, h353, kc354, X355, e356, E357, A358, st359⟩ := newP X333 hx hZ0 (tw hw 8 rfl) e334 (g := (mkF m 100 #[iv p0, iv p1, iv p2, iv p3, iv p4, iv x_pv20, iv x_pv40, iv x_pv60, iv x_pv80, iv 2, .unset, .unset] [(.int 3), (.ref a339), (.ref a339)])) rfl (hb hby at_100) rfl (by decide) (cap := 3) (by decide) (by decide) (by decide) (by decide)
    obtain ⟨a360, g361⟩ : ∃ z, z = h332.size := ⟨_, rfl⟩
    rw [← g361] at A358 st359
    have ne363 : a339 ≠ a360 := Nat.ne_of_lt (Nat.lt_of_lt_of_eq A336.lt g361.symm)
    have nw364 : n0 ≤ a360 := Nat.le_trans Z347 (Nat.le_of_eq g361.symm)
    have hr367 := CHr.ext E357 H343
    have Sf368 := Safe.ext E357 H343 Sf346
    have H365 := hr367.1
    have CH366 := CH344.trans hr367
    have E369 := Exa.ext E357 A336
    have F370 := Fld.ext E357 F350
    have F371 := Fld.ext E357 F351
    have Z372 := Nat.le_trans Z347 E357.1
    have hk373 := Nat.le_trans hk348 E357.1
    have O374 := O349.ext E357
    have V362 : Arv Z h353 a360 kc354 .char (3 : Int32) [] (.int 0) := Arv.new A358 (by decide)
    refine Way.by st359 ?_
    show Way _ _ _ _ (T352.setTop (mkF m 102 #[iv p0, iv p1, iv p2, iv p3, iv p4, iv x_pv20, iv x_pv40, iv x_pv60, iv x_pv80, iv 2, .unset, .unset] [(.ref a360), (.ref a339), (.ref a339)]))
    try clear X333 e334 A336 H343 CH344 Sf346 Z347 hk348 O349 F350 F351 E357 A358 st359 hr367
    try clear T331 h332
    refine Way.by (fun _ k => XS.dup X355.here hx rfl (hb hby at_102) rfl rfl k) ?_
    show Way _ _ _ _ (T352.setTop (mkF m 103 #[iv p0, iv p1, iv p2, iv p3, iv p4, iv x_pv20, iv x_pv40, iv x_pv60, iv x_pv80, iv 2, .unset, .unset] [(.ref a360), (.ref a360), (.ref a339), (.ref a339)]))
    refine Way.by (fun _ k => XS.iconst X355.here hx rfl (hb hby at_103) k) ?_
    show Way _ _ _ _ (T352.setTop (mkF m 104 #[iv p0, iv p1, iv p2, iv p3, iv p4, iv x_pv20, iv x_pv40, iv x_pv60, iv x_pv80, iv 2, .unset, .unset] [(.int 0), (.ref a360), (.ref a360), (.ref a339), (.ref a339)]))
    refine Way.by (fun _ k => XS.iload X355.here hx rfl (hb hby at_104) rfl k) ?_
    show Way _ _ _ _ (T352.setTop (mkF m 106 #[iv p0, iv p1, iv p2, iv p3, iv p4, iv x_pv20, iv x_pv40, iv x_pv60, iv x_pv80, iv 2, .unset, .unset] [(.int x_pv20), (.int 0), (.ref a360), (.ref a360), (.ref a339), (.ref a339)]))
    have V375 : Arv Z h353 a360 kc354 .char (3 : Int32) [(.int 0)] (.int 0) := V362.pad (pad_rep [] (.int 0) 1)
    obtain ⟨c376, A377, q378, S379, M380, H381, U382⟩ := id V375
    obtain ⟨T383, h384, X385, e386, W387, st388⟩ := stC X355 hx hZ0 e356 A377 (j := (0 : Int32)) (inb_of S379 ⟨(by decide), (by decide)⟩) (g := (mkF m 106 #[iv p0, iv p1, iv p2, iv p3, iv p4, iv x_pv20, iv x_pv40, iv x_pv60, iv x_pv80, iv 2, .unset, .unset] [(.int x_pv20), (.int 0), (.ref a360), (.ref a360), (.ref a339), (.ref a339)])) rfl rfl (hb hby at_106)
    have N389 := Fr.snoc X385 N72 nw364
    have V390 : Arv Z h384 a360 kc354 .char (3 : Int32) [(.int (nar .char x_pv20))] (.int 0) := Arv.set A377 q378 S379 M380 H381 U382 (fits_nar_char _) W387 0 rfl (leB rfl)
    have nq392 : nar .char x_pv20 = x_pv20 := own_ok.nar pu_OK19
    have V391 : Arv Z h384 a360 kc354 .char (3 : Int32) [(.int x_pv20)] (.int 0) := by rw [nq392] at V390; exact V390
    have hr395 := CHr.wr W387 (Safe.arv hZ0.alike V362 (by decide)) H365
    have Sf396 := Safe.wr W387 (Safe.arv hZ0.alike V362 (by decide)) H365 Sf368
    have H393 := hr395.1
    have CH394 := CH366.trans hr395
    have E397 := Exa.wr W387 E369
    have F398 := F370.other W387 (Or.inl ne363)
    have F399 := F371.other W387 (Or.inl ne363)
    have Z400 : n0 ≤ h384.size := by rw [W387.size]; exact Z372
    have hk401 := Nat.le_trans hk373 (Nat.le_of_eq W387.size.symm)
    have O402 := O374.wr W387 nw364
    refine Way.by st388 ?_
    show Way _ _ _ _ (T383.setTop (mkF m 107 #[iv p0, iv p1, iv p2, iv p3, iv p4, iv x_pv20, iv x_pv40, iv x_pv60, iv x_pv80, iv 2, .unset, .unset] [(.ref a360), (.ref a339), (.ref a339)]))
    try clear N72 X355 e356 V362 H365 CH366 Sf368 E369 F370 F371 Z372 hk373 O374 V375 c376 A377 q378 S379 M380 H381 U382 W387 st388 V390 hr395
    try clear T352 h353
    refine Way.by (fun _ k => XS.dup X385.here hx rfl (hb hby at_107) rfl rfl k) ?_
    show Way _ _ _ _ (T383.setTop (mkF m 108 #[iv p0, iv p1, iv p2, iv p3, iv p4, iv x_pv20, iv x_pv40, iv x_pv60, iv x_pv80, iv 2, .unset, .unset] [(.ref a360), (.ref a360), (.ref a339), (.ref a339)]))
    refine Way.by (fun _ k => XS.iconst X385.here hx rfl (hb hby at_108) k) ?_
    show Way _ _ _ _ (T383.setTop (mkF m 109 #[iv p0, iv p1, iv p2, iv p3, iv p4, iv x_pv20, iv x_pv40, iv x_pv60, iv x_pv80, iv 2, .unset, .unset] [(.int 1), (.ref a360), (.ref a360), (.ref a339), (.ref a339)]))
    refine Way.by (fun _ k => XS.iload X385.here hx rfl (hb hby at_109) rfl k) ?_
    show Way _ _ _ _ (T383.setTop (mkF m 111 #[iv p0, iv p1, iv p2, iv p3, iv p4, iv x_pv20, iv x_pv40, iv x_pv60, iv x_pv80, iv 2, .unset, .unset] [(.int x_pv40), (.int 1), (.ref a360), (.ref a360), (.ref a339), (.ref a339)]))
    have V403 : Arv Z h384 a360 kc354 .char (3 : Int32) [(.int x_pv20), (.int 0)] (.int 0) := V391.pad (pad_rep [(.int x_pv20)] (.int 0) 1)
    obtain ⟨c404, A405, q406, S407, M408, H409, U410⟩ := id V403
    obtain ⟨T411, h412, X413, e414, W415, st416⟩ := stC X385 hx hZ0 e386 A405 (j := (1 : Int32)) (inb_of S407 ⟨(by decide), (by decide)⟩) (g := (mkF m 111 #[iv p0, iv p1, iv p2, iv p3, iv p4, iv x_pv20, iv x_pv40, iv x_pv60, iv x_pv80, iv 2, .unset, .unset] [(.int x_pv40), (.int 1), (.ref a360), (.ref a360), (.ref a339), (.ref a339)])) rfl rfl (hb hby at_111)
    have N417 := Fr.snoc X413 N389 nw364
    have V418 : Arv Z h412 a360 kc354 .char (3 : Int32) [(.int x_pv20), (.int (nar .char x_pv40))] (.int 0) := Arv.set A405 q406 S407 M408 H409 U410 (fits_nar_char _) W415 1 rfl (leB rfl)
    have nq420 : nar .char x_pv40 = x_pv40 := own_ok.nar pu_OK39
    have V419 : Arv Z h412 a360 kc354 .char (3 : Int32) [(.int x_pv20), (.int x_pv40)] (.int 0) := by rw [nq420] at V418; exact V418
    have hr423 := CHr.wr W415 (Safe.arv hZ0.alike V391 (by decide)) H393
    have Sf424 := Safe.wr W415 (Safe.arv hZ0.alike V391 (by decide)) H393 Sf396
    have H421 := hr423.1
    have CH422 := CH394.trans hr423
    have E425 := Exa.wr W415 E397
    have F426 := F398.other W415 (Or.inl ne363)
    have F427 := F399.other W415 (Or.inl ne363)
    have Z428 : n0 ≤ h412.size := by rw [W415.size]; exact Z400
    have hk429 := Nat.le_trans hk401 (Nat.le_of_eq W415.size.symm)
    have O430 := O402.wr W415 nw364
    refine Way.by st416 ?_
    show Way _ _ _ _ (T411.setTop (mkF m 112 #[iv p0, iv p1, iv p2, iv p3, iv p4, iv x_pv20, iv x_pv40, iv x_pv60, iv x_pv80, iv 2, .unset, .unset] [(.ref a360), (.ref a339), (.ref a339)]))
    try clear X385 e386 N389 V391 H393 CH394 Sf396 E397 F398 F399 Z400 hk401 O402 V403 c404 A405 q406 S407 M408 H409 U410 W415 st416 V418 hr423
    try clear T383 h384
    refine Way.by (fun _ k => XS.dup X413.here hx rfl (hb hby at_112) rfl rfl k) ?_
    show Way _ _ _ _ (T411.setTop (mkF m 113 #[iv p0, iv p1, iv p2, iv p3, iv p4, iv x_pv20, iv x_pv40, iv x_pv60, iv x_pv80, iv 2, .unset, .unset] [(.ref a360), (.ref a360), (.ref a339), (.ref a339)]))
    refine Way.by (fun _ k => XS.iconst X413.here hx rfl (hb hby at_113) k) ?_
    show Way _ _ _ _ (T411.setTop (mkF m 114 #[iv p0, iv p1, iv p2, iv p3, iv p4, iv x_pv20, iv x_pv40, iv x_pv60, iv x_pv80, iv 2, .unset, .unset] [(.int 2), (.ref a360), (.ref a360), (.ref a339), (.ref a339)]))
    refine Way.by (fun _ k => XS.iload X413.here hx rfl (hb hby at_114) rfl k) ?_
    show Way _ _ _ _ (T411.setTop (mkF m 116 #[iv p0, iv p1, iv p2, iv p3, iv p4, iv x_pv20, iv x_pv40, iv x_pv60, iv x_pv80, iv 2, .unset, .unset] [(.int x_pv60), (.int 2), (.ref a360), (.ref a360), (.ref a339), (.ref a339)]))
    have V431 : Arv Z h412 a360 kc354 .char (3 : Int32) [(.int x_pv20), (.int x_pv40), (.int 0)] (.int 0) := V419.pad (pad_rep [(.int x_pv20), (.int x_pv40)] (.int 0) 1)
    obtain ⟨c432, A433, q434, S435, M436, H437, U438⟩ := id V431
    obtain ⟨T439, h440, X441, e442, W443, st444⟩ := stC X413 hx hZ0 e414 A433 (j := (2 : Int32)) (inb_of S435 ⟨(by decide), (by decide)⟩) (g := (mkF m 116 #[iv p0, iv p1, iv p2, iv p3, iv p4, iv x_pv20, iv x_pv40, iv x_pv60, iv x_pv80, iv 2, .unset, .unset] [(.int x_pv60), (.int 2), (.ref a360), (.ref a360), (.ref a339), (.ref a339)])) rfl rfl (hb hby at_116)
    have N445 := Fr.snoc X441 N417 nw364
    have V446 : Arv Z h440 a360 kc354 .char (3 : Int32) [(.int x_pv20), (.int x_pv40), (.int (nar .char x_pv60))] (.int 0) := Arv.set A433 q434 S435 M436 H437 U438 (fits_nar_char _) W443 2 rfl (leB rfl)
    have nq448 : nar .char x_pv60 = x_pv60 := own_ok.nar pu_OK59
    have V447 : Arv Z h440 a360 kc354 .char (3 : Int32) [(.int x_pv20), (.int x_pv40), (.int x_pv60)] (.int 0) := by rw [nq448] at V446; exact V446
    have hr451 := CHr.wr W443 (Safe.arv hZ0.alike V419 (by decide)) H421
    have Sf452 := Safe.wr W443 (Safe.arv hZ0.alike V419 (by decide)) H421 Sf424
    have H449 := hr451.1
    have CH450 := CH422.trans hr451
    have E453 := Exa.wr W443 E425
    have F454 := F426.other W443 (Or.inl ne363)
    have F455 := F427.other W443 (Or.inl ne363)
    have Z456 : n0 ≤ h440.size := by rw [W443.size]; exact Z428
    have hk457 := Nat.le_trans hk429 (Nat.le_of_eq W443.size.symm)
    have O458 := O430.wr W443 nw364
    refine Way.by st444 ?_
    show Way _ _ _ _ (T439.setTop (mkF m 117 #[iv p0, iv p1, iv p2, iv p3, iv p4, iv x_pv20, iv x_pv40, iv x_pv60, iv x_pv80, iv 2, .unset, .unset] [(.ref a360), (.ref a339), (.ref a339)]))
    try clear X413 e414 N417 V419 H421 CH422 Sf424 E425 F426 F427 Z428 hk429 O430 V431 c432 A433 q434 S435 M436 H437 U438 W443 st444 V446 hr451
    try clear T411 h412
    have hp459 : ∀ c ∈ ([x_pv20, x_pv40, x_pv60] : List Int32), ¬ c < 0 ∧ ¬ (255 : Int32) < c := fun c hc => (hokL c hc).b
    obtain ⟨_, _, ⟨T460, L462, k463, n464⟩, -, X461, ⟨Lc465, hQ466, l467, y468, z469⟩, st470⟩ := X441.specialBack hx (y := (⟨"java/lang/String", "<init>", "([C)V"⟩ : MethodName)) rfl hown0 (mvT hZ0 (tw hw 9 rfl)) (mvT hZ0 (tw hw 10 rfl)) (mvT hZ0 (tw hw 11 rfl)) (by decide) (own_new (W := 1) (n0 := n0) hZ0 hw SV O458 (cs := [x_pv20, x_pv40, x_pv60]) (n := 3) nw341 Z456 E453 F455 F454 V447 rfl rfl (by decide) (by decide) hp459 (by decide) (by decide)) (g := (mkF m 117 #[iv p0, iv p1, iv p2, iv p3, iv p4, iv x_pv20, iv x_pv40, iv x_pv60, iv x_pv80, iv 2, .unset, .unset] [(.ref a360), (.ref a339), (.ref a339)])) rfl (by rw [hml]; rfl) (Steps.refl _) (a := a339) (argsL := [(.ref a360)]) (rest := [(.ref a339)]) (lenOf own_pdNew rfl) rfl (leW rfl) (hb hby at_117) (fun _ _ => ⟨rfl, e442, (leB rfl), (leB rfl)⟩)
    dsimp only [Pt.U, Pt.locs, Pt.cells, Pt.slots] at X461 l467 y468 z469 st470 hQ466
    subst l467 y468 z469
    obtain ⟨rfl, N476, K477, x_t480, fr_t479, F478⟩ := hQ466
    have N471 := Fr.app N445 N476
    have ne481 : a339 ≠ x_t480 := Nat.ne_of_lt (Nat.lt_of_lt_of_le E453.lt fr_t479)
    have ne482 : a360 ≠ x_t480 := Nat.ne_of_lt (Nat.lt_of_lt_of_le V447.lt fr_t479)
    have nw483 : n0 ≤ x_t480 := Nat.le_trans Z456 fr_t479
    have Sf484 : Safe Z own_EL s.vm h440 x_t480 := Safe.new fr_t479
    have hr487 := CHr.keep K477 (sfS Sf452 sf0) H449
    have Sf488 := Safe.keep K477 (sfS Sf452 sf0) H449 Sf452
    have Sf489 := Safe.keep K477 (sfS Sf452 sf0) H449 Sf484
    have H485 := hr487.1
    have CH486 := CH450.trans hr487
    have E490 := E453.keep K477
    have A491 := V447.keep K477 (ninS ne363.symm nin0)
    have Z492 := Nat.le_trans Z456 K477.1
    have hk493 := Nat.le_trans hk457 K477.1
    have O494 := O458.keep K477 (allS nw341 all0)
    refine Way.to st470 ?_
    show Way _ _ _ _ (T460.setTop (mkF m 120 #[iv p0, iv p1, iv p2, iv p3, iv p4, iv x_pv20, iv x_pv40, iv x_pv60, iv x_pv80, iv 2, .unset, .unset] [(.ref a339)]))
    try clear X441 e442 N445 V447 H449 CH450 Sf452 E453 F454 F455 Z456 hk457 O458 st470 N476 K477 hr487
    try clear T439 h440
    refine Way.by (fun _ k => XS.astore X461.here hx rfl (hb hby at_120) rfl rfl (l' := #[iv p0, iv p1, iv p2, iv p3, iv p4, iv x_pv20, iv x_pv40, iv x_pv60, iv x_pv80, iv 2, rv a339, .unset]) rfl k) ?_
    show Way _ _ _ _ (T460.setTop (mkF m 122 #[iv p0, iv p1, iv p2, iv p3, iv p4, iv x_pv20, iv x_pv40, iv x_pv60, iv x_pv80, iv 2, rv a339, .unset] []))
    refine Way.by (fun _ k => XS.goto X461.here hx rfl (pc0 := 122) (pc' := 682) rfl (hb hby at_122) (by decide) (by decide) k) ?_
    show Way _ _ _ _ (T460.setTop (mkF m 682 #[iv p0, iv p1, iv p2, iv p3, iv p4, iv x_pv20, iv x_pv40, iv x_pv60, iv x_pv80, iv 2, rv a339, .unset] []))
    exact seg682 l Z a0 hw ws p0 p1 p2 p3 p4 h0 n0 Z0 O0 SV p e s m below meth c s₁ Bd hml _ hZ0 hown0 _ hS0 hh T460 T460.heap _ (X461.mono (by decide) (by decide)) rfl N471 Z492 hk493 H485 CH486 O494 x_pv20 x_pv40 x_pv60 x_pv80 (2 : Int32) a339 x_t480 [x_pv20, x_pv40, x_pv60] .unset F478 hokL ⟨by simp, by simp⟩ One.u
  · skip
    have hokL : ∀ c ∈ ([x_pv20, x_pv40, x_pv60, x_pv80] : List Int32), own_ok c := by
      intro c hc; have o113 : own_ok 113 := Or.inr (Or.inl (by decide)); simp only [List.mem_append, List.mem_cons, List.mem_replicate, List.not_mem_nil, or_false] at hc
      rcases hc with rfl | rfl | rfl | rfl <;> assumption
    show Way _ _ _ _ (T61.setTop (mkF m 33 #[iv p0, iv p1, iv p2, iv p3, iv p4, iv x_pv20, iv x_pv40, iv x_pv60, iv x_pv80, iv 3, .unset, .unset] []))
    refine Way.by (fun _ k => XS.iload X62.here hx rfl (hb hby at_33) rfl k) ?_
    show Way _ _ _ _ (T61.setTop (mkF m 35 #[iv p0, iv p1, iv p2, iv p3, iv p4, iv x_pv20, iv x_pv40, iv x_pv60, iv x_pv80, iv 3, .unset, .unset] [(.int 3)]))
    have b495 : ¬ (3 : Int32) = (0 : Int32) := by decide
    refine Way.by (fun _ k => XS.ifYes X62.here hx rfl (pc0 := 35) (pc' := 58) rfl (hb hby at_35) rfl ((if0 .ne _).trans (feq b495).2) (by decide) (by decide) k) ?_
    show Way _ _ _ _ (T61.setTop (mkF m 58 #[iv p0, iv p1, iv p2, iv p3, iv p4, iv x_pv20, iv x_pv40, iv x_pv60, iv x_pv80, iv 3, .unset, .unset] []))
    refine Way.by (fun _ k => XS.iload X62.here hx rfl (hb hby at_58) rfl k) ?_
    show Way _ _ _ _ (T61.setTop (mkF m 60 #[iv p0, iv p1, iv p2, iv p3, iv p4, iv x_pv20, iv x_pv40, iv x_pv60, iv x_pv80, iv 3, .unset, .unset] [(.int 3)]))
    refine Way.by (fun _ k => XS.iconst X62.here hx rfl (hb hby at_60) k) ?_
    show Way _ _ _ _ (T61.setTop (mkF m 61 #[iv p0, iv p1, iv p2, iv p3, iv p4, iv x_pv20, iv x_pv40, iv x_pv60, iv x_pv80, iv 3, .unset, .unset] [(.int 1), (.int 3)]))
    have b496 : ¬ (3 : Int32) = (1 : Int32) := by decide
    refine Way.by (fun _ k => XS.icmpYes X62.here hx rfl (pc0 := 61) (pc' := 89) rfl (hb hby at_61) rfl (feq b496).2 (by decide) (by decide) k) ?_
    show Way _ _ _ _ (T61.setTop (mkF m 89 #[iv p0, iv p1, iv p2, iv p3, iv p4, iv x_pv20, iv x_pv40, iv x_pv60, iv x_pv80, iv 3, .unset, .unset] []))
    refine Way.by (fun _ k => XS.iload X62.here hx rfl (hb hby at_89) rfl k) ?_
    show Way _ _ _ _ (T61.setTop (mkF m 91 #[iv p0, iv p1, iv p2, iv p3, iv p4, iv x_pv20, iv x_pv40, iv x_pv60, iv x_pv80, iv 3, .unset, .unset] [(.int 3)]))
    refine Way.by (fun _ k => XS.iconst X62.here hx rfl (hb hby at_91) k) ?_
    show Way _ _ _ _ (T61.setTop (mkF m 92 #[iv p0, iv p1, iv p2, iv p3, iv p4, iv x_pv20, iv x_pv40, iv x_pv60, iv x_pv80, iv 3, .unset, .unset] [(.int 2), (.int 3)]))
    have b497 : ¬ (3 : Int32) = (2 : Int32) := by decide
    refine Way.by (fun _ k => XS.icmpYes X62.here hx rfl (pc0 := 92) (pc' := 125) rfl (hb hby at_92) rfl (feq b497).2 (by decide) (by decide) k) ?_
    show Way _ _ _ _ (T61.setTop (mkF m 125 #[iv p0, iv p1, iv p2, iv p3, iv p4, iv x_pv20, iv x_pv40, iv x_pv60, iv x_pv80, iv 3, .unset, .unset] []))
    refine Way.by (fun _ k => XS.iload X62.here hx rfl (hb hby at_125) rfl k) ?_
    show Way _ _ _ _ (T61.setTop (mkF m 127 #[iv p0, iv p1, iv p2, iv p3, iv p4, iv x_pv20, iv x_pv40, iv x_pv60, iv x_pv80, iv 3, .unset, .unset] [(.int 3)]))
    refine Way.by (fun _ k => XS.iconst X62.here hx rfl (hb hby at_127) k) ?_
    show Way _ _ _ _ (T61.setTop (mkF m 128 #[iv p0, iv p1, iv p2, iv p3, iv p4, iv x_pv20, iv x_pv40, iv x_pv60, iv x_pv80, iv 3, .unset, .unset] [(.int 3), (.int 3)]))
    have b498 : (3 : Int32) = (3 : Int32) := by decide
    refine Way.by (fun _ k => XS.icmpNo X62.here hx rfl (hb hby at_128) rfl (teq b498).2 k) ?_
    show Way _ _ _ _ (T61.setTop (mkF m 131 #[iv p0, iv p1, iv p2, iv p3, iv p4, iv x_pv20, iv x_pv40, iv x_pv60, iv x_pv80, iv 3, .unset, .unset] []))
    obtain ⟨T499, h500, X501, e502, E503, A504, D505, -, st506⟩ := newO X62 hx hZ0 hown0 (tw hw 5 rfl) (tw hw 6 rfl) (tw hw 7 rfl) e73 (g := (mkF m 131 #[iv p0, iv p1, iv p2, iv p3, iv p4, iv x_pv20, iv x_pv40, iv x_pv60, iv x_pv80, iv 3, .unset, .unset] [])) rfl (hb hby at_131) (by decide) (by decide)
    obtain ⟨a507, g508⟩ : ∃ z, z = h0.size := ⟨_, rfl⟩
    rw [← g508] at A504 D505 st506
    have nw509 : n0 ≤ a507 := Nat.le_trans Z0 (Nat.le_of_eq g508.symm)
    have Sf510 : Safe Z own_EL s.vm h0 a507 := Safe.new (Nat.le_of_eq g508.symm)
    have hr513 := CHr.ext E503 HV0
    have Sf514 := Safe.ext E503 HV0 Sf510
    have H511 := hr513.1
    have CH512 := CH0.trans hr513
    have Z515 := Nat.le_trans Z0 E503.1
    have hk516 := Nat.le_trans (Nat.zero_le _) E503.1
    have O517 := O0.ext E503
    have F518 : Fld Z h500 a507 "java/lang/String" "coder" "B" (.int 0) := D505 (Or.inr (tw hw 32 rfl)) (ty := .byte) (by decide)
    have F519 : Fld Z h500 a507 "java/lang/String" "value" "[B" .null := D505 (Or.inr (tw hw 34 rfl)) (ty := (.array .byte)) (by decide)
    refine Way.by st506 ?_
    show Way _ _ _ _ (T499.setTop (mkF m 134 #[iv p0, iv p1, iv p2, iv p3, iv p4, iv x_pv20, iv x_pv40, iv x_pv60, iv x_pv80, iv 3, .unset, .unset] [(.ref a507)]))
    refine Way.by (fun _ k => XS.dup X501.here hx rfl (hb hby at_134) rfl rfl k) ?_
    show Way _ _ _ _ (T499.setTop (mkF m 135 #[iv p0, iv p1, iv p2, iv p3, iv p4, iv x_pv20, iv x_pv40, iv x_pv60, iv x_pv80, iv 3, .unset, .unset] [(.ref a507), (.ref a507)]))
    refine Way.by (fun _ k => XS.iconst X501.here hx rfl (hb hby at_135) k) ?_
    show Way _ _ _ _ (T499.setTop (mkF m 136 #[iv p0, iv p1, iv p2, iv p3, iv p4, iv x_pv20, iv x_pv40, iv x_pv60, iv x_pv80, iv 3, .unset, .unset] [(.int 4), (.ref a507), (.ref a507)]))
    obtain ⟨T520, h521, kc522, X523, e524, E525, A526, st527⟩ := newP X501 hx hZ0 (tw hw 8 rfl) e502 (g := (mkF m 136 #[iv p0, iv p1, iv p2, iv p3, iv p4, iv x_pv20, iv x_pv40, iv x_pv60, iv x_pv80, iv 3, .unset, .unset] [(.int 4), (.ref a507), (.ref a507)])) rfl (hb hby at_136) rfl (by decide) (cap := 4) (by decide) (by decide) (by decide) (by decide)
    obtain ⟨a528, g529⟩ : ∃ z, z = h500.size := ⟨_, rfl⟩
    rw [← g529] at A526 st527
    have ne531 : a507 ≠ a528 := Nat.ne_of_lt (Nat.lt_of_lt_of_eq A504.lt g529.symm)
    have nw532 : n0 ≤ a528 := Nat.le_trans Z515 (Nat.le_of_eq g529.symm)
    have hr535 := CHr.ext E525 H511
    have Sf536 := Safe.ext E525 H511 Sf514
    have H533 := hr535.1
    have CH534 := CH512.trans hr535
    have E537 := Exa.ext E525 A504
    have F538 := Fld.ext E525 F518
    have F539 := Fld.ext E525 F519
    have Z540 := Nat.le_trans Z515 E525.1
    have hk541 := Nat.le_trans hk516 E525.1
    have O542 := O517.ext E525
    have V530 : Arv Z h521 a528 kc522 .char (4 : Int32) [] (.int 0) := Arv.new A526 (by decide)
    refine Way.by st527 ?_
    show Way _ _ _ _ (T520.setTop (mkF m 138 #[iv p0, iv p1, iv p2, iv p3, iv p4, iv x_pv20, iv x_pv40, iv x_pv60, iv x_pv80, iv 3, .unset, .unset] [(.ref a528), (.ref a507), (.ref a507)]))
    try clear X501 e502 A504 H511 CH512 Sf514 Z515 hk516 O517 F518 F519 E525 A526 st527 hr535
    try clear T499 h500
    refine Way.by (fun _ k => XS.dup X523.here hx rfl (hb hby at_138) rfl rfl k) ?_
    show Way _ _ _ _ (T520.setTop (mkF m 139 #[iv p0, iv p1, iv p2, iv p3, iv p4, iv x_pv20, iv x_pv40, iv x_pv60, iv x_pv80, iv 3, .unset, .unset] [(.ref a528), (.ref a528), (.ref a507), (.ref a507)]))
    refine Way.by (fun _ k => XS.iconst X523.here hx rfl (hb hby at_139) k) ?_
    show Way _ _ _ _ (T520.setTop (mkF m 140 #[iv p0, iv p1, iv p2, iv p3, iv p4, iv x_pv20, iv x_pv40, iv x_pv60, iv x_pv80, iv 3, .unset, .unset] [(.int 0), (.ref a528), (.ref a528), (.ref a507), (.ref a507)]))
    refine Way.by (fun _ k => XS.iload X523.here hx rfl (hb hby at_140) rfl k) ?_
    show Way _ _ _ _ (T520.setTop (mkF m 142 #[iv p0, iv p1, iv p2, iv p3, iv p4, iv x_pv20, iv x_pv40, iv x_pv60, iv x_pv80, iv 3, .unset, .unset] [(.int x_pv20), (.int 0), (.ref a528), (.ref a528), (.ref a507), (.ref a507)]))
    have V543 : Arv Z h521 a528 kc522 .char (4 : Int32) [(.int 0)] (.int 0) := V530.pad (pad_rep [] (.int 0) 1)
    obtain ⟨c544, A545, q546, S547, M548, H549, U550⟩ := id V543
    obtain ⟨T551, h552, X553, e554, W555, st556⟩ := stC X523 hx hZ0 e524 A545 (j := (0 : Int32)) (inb_of S547 ⟨(by decide), (by decide)⟩) (g := (mkF m 142 #[iv p0, iv p1, iv p2, iv p3, iv p4, iv x_pv20, iv x_pv40, iv x_pv60, iv x_pv80, iv 3, .unset, .unset] [(.int x_pv20), (.int 0), (.ref a528), (.ref a528), (.ref a507), (.ref a507)])) rfl rfl (hb hby at_142)
    have N557 := Fr.snoc X553 N72 nw532
    have V558 : Arv Z h552 a528 kc522 .char (4 : Int32) [(.int (nar .char x_pv20))] (.int 0) := Arv.set A545 q546 S547 M548 H549 U550 (fits_nar_char _) W555 0 rfl (leB rfl)
    have nq560 : nar .char x_pv20 = x_pv20 := own_ok.nar pu_OK19
    have V559 : Arv Z h552 a528 kc522 .char (4 : Int32) [(.int x_pv20)] (.int 0) := by rw [nq560] at V558; exact V558
    have hr563 := CHr.wr W555 (Safe.arv hZ0.alike V530 (by decide)) H533
    have Sf564 := Safe.wr W555 (Safe.arv hZ0.alike V530 (by decide)) H533 Sf536
    have H561 := hr563.1
    have CH562 := CH534.trans hr563
    have E565 := Exa.wr W555 E537
    have F566 := F538.other W555 (Or.inl ne531)
    have F567 := F539.other W555 (Or.inl ne531)
    have Z568 : n0 ≤ h552.size := by rw [W555.size]; exact Z540
    have hk569 := Nat.le_trans hk541 (Nat.le_of_eq W555.size.symm)
    have O570 := O542.wr W555 nw532
    refine Way.by st556 ?_
    show Way _ _ _ _ (T551.setTop (mkF m 143 #[iv p0, iv p1, iv p2, iv p3, iv p4, iv x_pv20, iv x_pv40, iv x_pv60, iv x_pv80, iv 3, .unset, .unset] [(.ref a528), (.ref a507), (.ref a507)]))
    try clear N72 X523 e524 V530 H533 CH534 Sf536 E537 F538 F539 Z540 hk541 O542 V543 c544 A545 q546 S547 M548 H549 U550 W555 st556 V558 hr563
    try clear T520 h521
    refine Way.by (fun _ k => XS.dup X553.here hx rfl (hb hby at_143) rfl rfl k) ?_
    show Way _ _ _ _ (T551.setTop (mkF m 144 #[iv p0, iv p1, iv p2, iv p3, iv p4, iv x_pv20, iv x_pv40, iv x_pv60, iv x_pv80, iv 3, .unset, .unset] [(.ref a528), (.ref a528), (.ref a507), (.ref a507)]))
    refine Way.by (fun _ k => XS.iconst X553.here hx rfl (hb hby at_144) k) ?_
    show Way _ _ _ _ (T551.setTop (mkF m 145 #[iv p0, iv p1, iv p2, iv p3, iv p4, iv x_pv20, iv x_pv40, iv x_pv60, iv x_pv80, iv 3, .unset, .unset] [(.int 1), (.ref a528), (.ref a528), (.ref a507), (.ref a507)]))
    refine Way.by (fun _ k => XS.iload X553.here hx rfl (hb hby at_145) rfl k) ?_
    show Way _ _ _ _ (T551.setTop (mkF m 147 #[iv p0, iv p1, iv p2, iv p3, iv p4, iv x_pv20, iv x_pv40, iv x_pv60, iv x_pv80, iv 3, .unset, .unset] [(.int x_pv40), (.int 1), (.ref a528), (.ref a528), (.ref a507), (.ref a507)]))
    have V571 : Arv Z h552 a528 kc522 .char (4 : Int32) [(.int x_pv20), (.int 0)] (.int 0) := V559.pad (pad_rep [(.int x_pv20)] (.int 0) 1)
    obtain ⟨c572, A573, q574, S575, M576, H577, U578⟩ := id V571
    obtain ⟨T579, h580, X581, e582, W583, st584⟩ := stC X553 hx hZ0 e554 A573 (j := (1 : Int32)) (inb_of S575 ⟨(by decide), (by decide)⟩) (g := (mkF m 147 #[iv p0, iv p1, iv p2, iv p3, iv p4, iv x_pv20, iv x_pv40, iv x_pv60, iv x_pv80, iv 3, .unset, .unset] [(.int x_pv40), (.int 1), (.ref a528), (.ref a528), (.ref a507), (.ref a507)])) rfl rfl (hb hby at_147)
    have N585 := Fr.snoc X581 N557 nw532
    have V586 : Arv Z h580 a528 kc522 .char (4 : Int32) [(.int x_pv20), (.int (nar .char x_pv40))] (.int 0) := Arv.set A573 q574 S575 M576 H577 U578 (fits_nar_char _) W583 1 rfl (leB rfl)
    have nq588 : nar .char x_pv40 = x_pv40 := own_ok.nar pu_OK39
    have V587 : Arv Z h580 a528 kc522 .char (4 : Int32) [(.int x_pv20), (.int x_pv40)] (.int 0) := by rw [nq588] at V586; exact V586
    have hr591 := CHr.wr W583 (Safe.arv hZ0.alike V559 (by decide)) H561
    have Sf592 := Safe.wr W583 (Safe.arv hZ0.alike V559 (by decide)) H561 Sf564
    have H589 := hr591.1
    have CH590 := CH562.trans hr591
    have E593 := Exa.wr W583 E565
    have F594 := F566.other W583 (Or.inl ne531)
    have F595 := F567.other W583 (Or.inl ne531)
    have Z596 : n0 ≤ h580.size := by rw [W583.size]; exact Z568
    have hk597 := Nat.le_trans hk569 (Nat.le_of_eq W583.size.symm)
    have O598 := O570.wr W583 nw532
    refine Way.by st584 ?_
    show Way _ _ _ _ (T579.setTop (mkF m 148 #[iv p0, iv p1, iv p2, iv p3, iv p4, iv x_pv20, iv x_pv40, iv x_pv60, iv x_pv80, iv 3, .unset, .unset] [(.ref a528), (.ref a507), (.ref a507)]))
    try clear X553 e554 N557 V559 H561 CH562 Sf564 E565 F566 F567 Z568 hk569 O570 V571 c572 A573 q574 S575 M576 H577 U578 W583 st584 V586 hr591
    try clear T551 h552
    refine Way.by (fun _ k => XS.dup X581.here hx rfl (hb hby at_148) rfl rfl k) ?_
    show Way _ _ _ _ (T579.setTop (mkF m 149 #[iv p0, iv p1, iv p2, iv p3, iv p4, iv x_pv20, iv x_pv40, iv x_pv60, iv x_pv80, iv 3, .unset, .unset] [(.ref a528), (.ref a528), (.ref a507), (.ref a507)]))
    refine Way.by (fun _ k => XS.iconst X581.here hx rfl (hb hby at_149) k) ?_
    show Way _ _ _ _ (T579.setTop (mkF m 150 #[iv p0, iv p1, iv p2, iv p3, iv p4, iv x_pv20, iv x_pv40, iv x_pv60, iv x_pv80, iv 3, .unset, .unset] [(.int 2), (.ref a528), (.ref a528), (.ref a507), (.ref a507)]))
    refine Way.by (fun _ k => XS.iload X581.here hx rfl (hb hby at_150) rfl k) ?_
    show Way _ _ _ _ (T579.setTop (mkF m 152 #[iv p0, iv p1, iv p2, iv p3, iv p4, iv x_pv20, iv x_pv40, iv x_pv60, iv x_pv80, iv 3, .unset, .unset] [(.int x_pv60), (.int 2), (.ref a528), (.ref a528), (.ref a507), (.ref a507)]))
    have V599 : Arv Z h580 a528 kc522 .char (4 : Int32) [(.int x_pv20), (.int x_pv40), (.int 0)] (.int 0) := V587.pad (pad_rep [(.int x_pv20), (.int x_pv40)] (.int 0) 1)
    obtain ⟨c600, A601, q602, S603, M604, H605, U606⟩ := id V599
    obtain ⟨T607, h608, X609, e610, W611, st612⟩ := stC X581 hx hZ0 e582 A601 (j := (2 : Int32)) (inb_of S603 ⟨(by decide), (by decide)⟩) (g := (mkF m 152 #[iv p0, iv p1, iv p2, iv p3, iv p4, iv x_pv20, iv x_pv40, iv x_pv60, iv x_pv80, iv 3, .unset, .unset] [(.int x_pv60), (.int 2), (.ref a528), (.ref a528), (.ref a507), (.ref a507)])) rfl rfl (hb hby at_152)
    have N613 := Fr.snoc X609 N585 nw532
    have V614 : Arv Z h608 a528 kc522 .char (4 : Int32) [(.int x_pv20), (.int x_pv40), (.int (nar .char x_pv60))] (.int 0) := Arv.set A601 q602 S603 M604 H605 U606 (fits_nar_char _) W611 2 rfl (leB rfl)
    have nq616 : nar .char x_pv60 = x_pv60 := own_ok.nar pu_OK59
    have V615 : Arv Z h608 a528 kc522 .char (4 : Int32) [(.int x_pv20), (.int x_pv40), (.int x_pv60)] (.int 0) := by rw [nq616] at V614; exact V614
    have hr619 := CHr.wr W611 (Safe.arv hZ0.alike V587 (by decide)) H589
    have Sf620 := Safe.wr W611 (Safe.arv hZ0.alike V587 (by decide)) H589 Sf592
    have H617 := hr619.1
    have CH618 := CH590.trans hr619
    have E621 := Exa.wr W611 E593
    have F622 := F594.other W611 (Or.inl ne531)
    have F623 := F595.other W611 (Or.inl ne531)
    have Z624 : n0 ≤ h608.size := by rw [W611.size]; exact Z596
    have hk625 := Nat.le_trans hk597 (Nat.le_of_eq W611.size.symm)
    have O626 := O598.wr W611 nw532
    refine Way.by st612 ?_
    show Way _ _ _ _ (T607.setTop (mkF m 153 #[iv p0, iv p1, iv p2, iv p3, iv p4, iv x_pv20, iv x_pv40, iv x_pv60, iv x_pv80, iv 3, .unset, .unset] [(.ref a528), (.ref a507), (.ref a507)]))
    try clear X581 e582 N585 V587 H589 CH590 Sf592 E593 F594 F595 Z596 hk597 O598 V599 c600 A601 q602 S603 M604 H605 U606 W611 st612 V614 hr619
    try clear T579 h580
    refine Way.by (fun _ k => XS.dup X609.here hx rfl (hb hby at_153) rfl rfl k) ?_
    show Way _ _ _ _ (T607.setTop (mkF m 154 #[iv p0, iv p1, iv p2, iv p3, iv p4, iv x_pv20, iv x_pv40, iv x_pv60, iv x_pv80, iv 3, .unset, .unset] [(.ref a528), (.ref a528), (.ref a507), (.ref a507)]))
    refine Way.by (fun _ k => XS.iconst X609.here hx rfl (hb hby at_154) k) ?_
    show Way _ _ _ _ (T607.setTop (mkF m 155 #[iv p0, iv p1, iv p2, iv p3, iv p4, iv x_pv20, iv x_pv40, iv x_pv60, iv x_pv80, iv 3, .unset, .unset] [(.int 3), (.ref a528), (.ref a528), (.ref a507), (.ref a507)]))
    refine Way.by (fun _ k => XS.iload X609.here hx rfl (hb hby at_155) rfl k) ?_
    show Way _ _ _ _ (T607.setTop (mkF m 157 #[iv p0, iv p1, iv p2, iv p3, iv p4, iv x_pv20, iv x_pv40, iv x_pv60, iv x_pv80, iv 3, .unset, .unset] [(.int x_pv80), (.int 3), (.ref a528), (.ref a528), (.ref a507), (.ref a507)]))
    have V627 : Arv Z h608 a528 kc522 .char (4 : Int32) [(.int x_pv20), (.int x_pv40), (.int x_pv60), (.int 0)] (.int 0) := V615.pad (pad_rep [(.int x_pv20), (.int x_pv40), (.int x_pv60)] (.int 0) 1)
    obtain ⟨c628, A629, q630, S631, M632, H633, U634⟩ := id V627
    obtain ⟨T635, h636, X637, e638, W639, st640⟩ := stC X609 hx hZ0 e610 A629 (j := (3 : Int32)) (inb_of S631 ⟨(by decide), (by decide)⟩) (g := (mkF m 157 #[iv p0, iv p1, iv p2, iv p3, iv p4, iv x_pv20, iv x_pv40, iv x_pv60, iv x_pv80, iv 3, .unset, .unset] [(.int x_pv80), (.int 3), (.ref a528), (.ref a528), (.ref a507), (.ref a507)])) rfl rfl (hb hby at_157)
    have N641 := Fr.snoc X637 N613 nw532
    have V642 : Arv Z h636 a528 kc522 .char (4 : Int32) [(.int x_pv20), (.int x_pv40), (.int x_pv60), (.int (nar .char x_pv80))] (.int 0) := Arv.set A629 q630 S631 M632 H633 U634 (fits_nar_char _) W639 3 rfl (leB rfl)
    have nq644 : nar .char x_pv80 = x_pv80 := own_ok.nar pu_OK79
    have V643 : Arv Z h636 a528 kc522 .char (4 : Int32) [(.int x_pv20), (.int x_pv40), (.int x_pv60), (.int x_pv80)] (.int 0) := by rw [nq644] at V642; exact V642
    have hr647 := CHr.wr W639 (Safe.arv hZ0.alike V615 (by decide)) H617
    have Sf648 := Safe.wr W639 (Safe.arv hZ0.alike V615 (by decide)) H617 Sf620
    have H645 := hr647.1
    have CH646 := CH618.trans hr647
    have E649 := Exa.wr W639 E621
    have F650 := F622.other W639 (Or.inl ne531)
    have F651 := F623.other W639 (Or.inl ne531)
    have Z652 : n0 ≤ h636.size := by rw [W639.size]; exact Z624
    have hk653 := Nat.le_trans hk625 (Nat.le_of_eq W639.size.symm)
    have O654 := O626.wr W639 nw532
    refine Way.by st640 ?_
    show Way _ _ _ _ (T635.setTop (mkF m 158 #[iv p0, iv p1, iv p2, iv p3, iv p4, iv x_pv20, iv x_pv40, iv x_pv60, iv x_pv80, iv 3, .unset, .unset] [(.ref a528), (.ref a507), (.ref a507)]))
    try clear X609 e610 N613 V615 H617 CH618 Sf620 E621 F622 F623 Z624 hk625 O626 V627 c628 A629 q630 S631 M632 H633 U634 W639 st640 V642 hr647
    try clear T607 h608
    have hp655 : ∀ c ∈ ([x_pv20, x_pv40, x_pv60, x_pv80] : List Int32), ¬ c < 0 ∧ ¬ (255 : Int32) < c := fun c hc => (hokL c hc).b
    obtain ⟨_, _, ⟨T656, L658, k659, n660⟩, -, X657, ⟨Lc661, hQ662, l663, y664, z665⟩, st666⟩ := X637.specialBack hx (y := (⟨"java/lang/String", "<init>", "([C)V"⟩ : MethodName)) rfl hown0 (mvT hZ0 (tw hw 9 rfl)) (mvT hZ0 (tw hw 10 rfl)) (mvT hZ0 (tw hw 11 rfl)) (by decide) (own_new (W := 1) (n0 := n0) hZ0 hw SV O654 (cs := [x_pv20, x_pv40, x_pv60, x_pv80]) (n := 4) nw509 Z652 E649 F651 F650 V643 rfl rfl (by decide) (by decide) hp655 (by decide) (by decide)) (g := (mkF m 158 #[iv p0, iv p1, iv p2, iv p3, iv p4, iv x_pv20, iv x_pv40, iv x_pv60, iv x_pv80, iv 3, .unset, .unset] [(.ref a528), (.ref a507), (.ref a507)])) rfl (by rw [hml]; rfl) (Steps.refl _) (a := a507) (argsL := [(.ref a528)]) (rest := [(.ref a507)]) (lenOf own_pdNew rfl) rfl (leW rfl) (hb hby at_158) (fun _ _ => ⟨rfl, e638, (leB rfl), (leB rfl)⟩)
    dsimp only [Pt.U, Pt.locs, Pt.cells, Pt.slots] at X657 l663 y664 z665 st666 hQ662
    subst l663 y664 z665
    obtain ⟨rfl, N672, K673, x_t676, fr_t675, F674⟩ := hQ662
    have N667 := Fr.app N641 N672
    have ne677 : a507 ≠ x_t676 := Nat.ne_of_lt (Nat.lt_of_lt_of_le E649.lt fr_t675)
    have ne678 : a528 ≠ x_t676 := Nat.ne_of_lt (Nat.lt_of_lt_of_le V643.lt fr_t675)
    have nw679 : n0 ≤ x_t676 := Nat.le_trans Z652 fr_t675
    have Sf680 : Safe Z own_EL s.vm h636 x_t676 := Safe.new fr_t675
    have hr683 := CHr.keep K673 (sfS Sf648 sf0) H645
    have Sf684 := Safe.keep K673 (sfS Sf648 sf0) H645 Sf648
    have Sf685 := Safe.keep K673 (sfS Sf648 sf0) H645 Sf680
    have H681 := hr683.1
    have CH682 := CH646.trans hr683
    have E686 := E649.keep K673
    have A687 := V643.keep K673 (ninS ne531.symm nin0)
    have Z688 := Nat.le_trans Z652 K673.1
    have hk689 := Nat.le_trans hk653 K673.1
    have O690 := O654.keep K673 (allS nw509 all0)
    refine Way.to st666 ?_
    show Way _ _ _ _ (T656.setTop (mkF m 161 #[iv p0, iv p1, iv p2, iv p3, iv p4, iv x_pv20, iv x_pv40, iv x_pv60, iv x_pv80, iv 3, .unset, .unset] [(.ref a507)]))
    try clear X637 e638 N641 V643 H645 CH646 Sf648 E649 F650 F651 Z652 hk653 O654 st666 N672 K673 hr683
    try clear T635 h636
    refine Way.by (fun _ k => XS.astore X657.here hx rfl (hb hby at_161) rfl rfl (l' := #[iv p0, iv p1, iv p2, iv p3, iv p4, iv x_pv20, iv x_pv40, iv x_pv60, iv x_pv80, iv 3, rv a507, .unset]) rfl k) ?_
    show Way _ _ _ _ (T656.setTop (mkF m 163 #[iv p0, iv p1, iv p2, iv p3, iv p4, iv x_pv20, iv x_pv40, iv x_pv60, iv x_pv80, iv 3, rv a507, .unset] []))
    refine Way.by (fun _ k => XS.goto X657.here hx rfl (pc0 := 163) (pc' := 682) rfl (hb hby at_163) (by decide) (by decide) k) ?_
    show Way _ _ _ _ (T656.setTop (mkF m 682 #[iv p0, iv p1, iv p2, iv p3, iv p4, iv x_pv20, iv x_pv40, iv x_pv60, iv x_pv80, iv 3, rv a507, .unset] []))
    exact seg682 l Z a0 hw ws p0 p1 p2 p3 p4 h0 n0 Z0 O0 SV p e s m below meth c s₁ Bd hml _ hZ0 hown0 _ hS0 hh T656 T656.heap _ (X657.mono (by decide) (by decide)) rfl N667 Z688 hk689 H681 CH682 O690 x_pv20 x_pv40 x_pv60 x_pv80 (3 : Int32) a507 x_t676 [x_pv20, x_pv40, x_pv60, x_pv80] .unset F674 hokL ⟨by simp, by simp⟩ One.u
  · skip
    have hokL : ∀ c ∈ (([x_pv20, x_pv40, x_pv60] ++ List.replicate 76 (113 : Int32) ++ [x_pv80]) : List Int32), own_ok c := by
      intro c hc; have o113 : own_ok 113 := Or.inr (Or.inl (by decide)); simp only [List.mem_append, List.mem_cons, List.mem_replicate, List.not_mem_nil, or_false] at hc
      rcases hc with ((rfl | rfl | rfl) | ⟨-, rfl⟩) | rfl <;> assumption
    show Way _ _ _ _ (T61.setTop (mkF m 33 #[iv p0, iv p1, iv p2, iv p3, iv p4, iv x_pv20, iv x_pv40, iv x_pv60, iv x_pv80, iv 4, .unset, .unset] []))
    refine Way.by (fun _ k => XS.iload X62.here hx rfl (hb hby at_33) rfl k) ?_
    show Way _ _ _ _ (T61.setTop (mkF m 35 #[iv p0, iv p1, iv p2, iv p3, iv p4, iv x_pv20, iv x_pv40, iv x_pv60, iv x_pv80, iv 4, .unset, .unset] [(.int 4)]))
    have b691 : ¬ (4 : Int32) = (0 : Int32) := by decide
    refine Way.by (fun _ k => XS.ifYes X62.here hx rfl (pc0 := 35) (pc' := 58) rfl (hb hby at_35) rfl ((if0 .ne _).trans (feq b691).2) (by decide) (by decide) k) ?_
    show Way _ _ _ _ (T61.setTop (mkF m 58 #[iv p0, iv p1, iv p2, iv p3, iv p4, iv x_pv20, iv x_pv40, iv x_pv60, iv x_pv80, iv 4, .unset, .unset] []))
    refine Way.by (fun _ k => XS.iload X62.here hx rfl (hb hby at_58) rfl k) ?_
    show Way _ _ _ _ (T61.setTop (mkF m 60 #[iv p0, iv p1, iv p2, iv p3, iv p4, iv x_pv20, iv x_pv40, iv x_pv60, iv x_pv80, iv 4, .unset, .unset] [(.int 4)]))
    refine Way.by (fun _ k => XS.iconst X62.here hx rfl (hb hby at_60) k) ?_
    show Way _ _ _ _ (T61.setTop (mkF m 61 #[iv p0, iv p1, iv p2, iv p3, iv p4, iv x_pv20, iv x_pv40, iv x_pv60, iv x_pv80, iv 4, .unset, .unset] [(.int 1), (.int 4)]))
    have b692 : ¬ (4 : Int32) = (1 : Int32) := by decide
    refine Way.by (fun _ k => XS.icmpYes X62.here hx rfl (pc0 := 61) (pc' := 89) rfl (hb hby at_61) rfl (feq b692).2 (by decide) (by decide) k) ?_
    show Way _ _ _ _ (T61.setTop (mkF m 89 #[iv p0, iv p1, iv p2, iv p3, iv p4, iv x_pv20, iv x_pv40, iv x_pv60, iv x_pv80, iv 4, .unset, .unset] []))
    refine Way.by (fun _ k => XS.iload X62.here hx rfl (hb hby at_89) rfl k) ?_
    show Way _ _ _ _ (T61.setTop (mkF m 91 #[iv p0, iv p1, iv p2, iv p3, iv p4, iv x_pv20, iv x_pv40, iv x_pv60, iv x_pv80, iv 4, .unset, .unset] [(.int 4)]))
    refine Way.by (fun _ k => XS.iconst X62.here hx rfl (hb hby at_91) k) ?_
    show Way _ _ _ _ (T61.setTop (mkF m 92 #[iv p0, iv p1, iv p2, iv p3, iv p4, iv x_pv20, iv x_pv40, iv x_pv60, iv x_pv80, iv 4, .unset, .unset] [(.int 2), (.int 4)]))
    have b693 : ¬ (4 : Int32) = (2 : Int32) := by decide
    refine Way.by (fun _ k => XS.icmpYes X62.here hx rfl (pc0 := 92) (pc' := 125) rfl (hb hby at_92) rfl (feq b693).2 (by decide) (by decide) k) ?_
    show Way _ _ _ _ (T61.setTop (mkF m 125 #[iv p0, iv p1, iv p2, iv p3, iv p4, iv x_pv20, iv x_pv40, iv x_pv60, iv x_pv80, iv 4, .unset, .unset] []))
    refine Way.by (fun _ k => XS.iload X62.here hx rfl (hb hby at_125) rfl k) ?_
    show Way _ _ _ _ (T61.setTop (mkF m 127 #[iv p0, iv p1, iv p2, iv p3, iv p4, iv x_pv20, iv x_pv40, iv x_pv60, iv x_pv80, iv 4, .unset, .unset] [(.int 4)]))
    refine Way.by (fun _ k => XS.iconst X62.here hx rfl (hb hby at_127) k) ?_
    show Way _ _ _ _ (T61.setTop (mkF m 128 #[iv p0, iv p1, iv p2, iv p3, iv p4, iv x_pv20, iv x_pv40, iv x_pv60, iv x_pv80, iv 4, .unset, .unset] [(.int 3), (.int 4)]))
    have b694 : ¬ (4 : Int32) = (3 : Int32) := by decide
    refine Way.by (fun _ k => XS.icmpYes X62.here hx rfl (pc0 := 128) (pc' := 166) rfl (hb hby at_128) rfl (feq b694).2 (by decide) (by decide) k) ?_
    show Way _ _ _ _ (T61.setTop (mkF m 166 #[iv p0, iv p1, iv p2, iv p3, iv p4, iv x_pv20, iv x_pv40, iv x_pv60, iv x_pv80, iv 4, .unset, .unset] []))
    refine Way.by (fun _ k => XS.bipush X62.here hx rfl (hb hby at_166) k) ?_
    show Way _ _ _ _ (T61.setTop (mkF m 168 #[iv p0, iv p1, iv p2, iv p3, iv p4, iv x_pv20, iv x_pv40, iv x_pv60, iv x_pv80, iv 4, .unset, .unset] [(.int 80)]))
    obtain ⟨T695, h696, kc697, X698, e699, E700, A701, st702⟩ := newP X62 hx hZ0 (tw hw 8 rfl) e73 (g := (mkF m 168 #[iv p0, iv p1, iv p2, iv p3, iv p4, iv x_pv20, iv x_pv40, iv x_pv60, iv x_pv80, iv 4, .unset, .unset] [(.int 80)])) rfl (hb hby at_168) rfl (by decide) (cap := 80) (by decide) (by decide) (by decide) (by decide)
    obtain ⟨a703, g704⟩ : ∃ z, z = h0.size := ⟨_, rfl⟩
    rw [← g704] at A701 st702
    have nw706 : n0 ≤ a703 := Nat.le_trans Z0 (Nat.le_of_eq g704.symm)
    have hr709 := CHr.ext E700 HV0
    have H707 := hr709.1
    have CH708 := CH0.trans hr709
    have Z710 := Nat.le_trans Z0 E700.1
    have hk711 := Nat.le_trans (Nat.zero_le _) E700.1
    have O712 := O0.ext E700
    have V705 : Arv Z h696 a703 kc697 .char (80 : Int32) [] (.int 0) := Arv.new A701 (by decide)
    refine Way.by st702 ?_
    show Way _ _ _ _ (T695.setTop (mkF m 170 #[iv p0, iv p1, iv p2, iv p3, iv p4, iv x_pv20, iv x_pv40, iv x_pv60, iv x_pv80, iv 4, .unset, .unset] [(.ref a703)]))
    exact segW0 l Z a0 hw ws p0 p1 p2 p3 p4 h0 n0 Z0 O0 SV p e s m below meth c s₁ Bd hml _ hZ0 hown0 _ hS0 hh T695 h696 _ X698 e699 N72 Z710 hk711 H707 CH708 O712 x_pv20 x_pv40 x_pv60 x_pv80 a703 kc697 V705 pu_OK19 pu_OK39 pu_OK59 pu_OK79 nw706
set_option maxRecDepth 65536 in
set_option maxHeartbeats 40000000 in
theorem comes_1 {Post : Tables → Env → Array Value → State → Outcome → State → Prop} (hpost : ∀ tb e args s v u, (limb_1_1.after args s (.returned v) u = true ∧ limb_1_2.after args s (.returned v) u = true ∧ True) → ReturnedEndW s (.returned v) u (Jvm.fieldLocs frame_1_writes args s ++ Jvm.arrayLocs frame_1_arrays args s ++ Jvm.staticLocs frame_1_statics s) 32 5568 → Post tb e args s (.returned v) u) :
    ArmFor flags0 classFile x code maxLocals ret World_1 tables_1 room_1 Calls_1 rest_1 Pre_1 Post := by
  intro l hfl _ _ p e ha hc hk s m args below hf hA hF happ hP
  obtain ⟨hcalls, hrest, hpre⟩ := hP
  obtain ⟨-, -, -, hnamed, -, -, -, hat⟩ := (Spec.applies_iff hf).mp happ
  obtain ⟨hg, hn⟩ := and_e (Cond.before_iff.mp (show (Jvm.Cond.and given_1 narrow_1).before args s = true from hpre))
  obtain ⟨hg0, hgr0⟩ := and_e hg
  obtain ⟨hg1, hgr1⟩ := and_e hgr0
  obtain ⟨hg2, hgr2⟩ := and_e hgr1
  obtain ⟨hg3, hgr3⟩ := and_e hgr2
  obtain ⟨hg4, hgr4⟩ := and_e hgr3
  obtain ⟨w0, w1, w2, w3, w4, rfl⟩ : ∃ w0 w1 w2 w3 w4 : Value, args = #[w0, w1, w2, w3, w4] := by
    have hs : args.size = 5 := by simpa [Cond.value, given_1] using hg0
    obtain ⟨L⟩ := args
    match L, hs with
    | [w0, w1, w2, w3, w4], _ => exact ⟨w0, w1, w2, w3, w4, rfl⟩
  have hw := fun d (hd : d ∈ tables_1) => atoms_spec (ws := Jvm.Cond.code x code maxLocals ret :: tables_1) hat d (List.mem_cons_of_mem _ hd)
  have hfit : Fit s := fun {y c} hc i hi => by
    obtain ⟨ha, rfl⟩ := Array.getElem?_eq_some_iff.mp hc
    have q := List.all_eq_true.mp ((Array.all_eq_true_iff_forall_mem.mp hF) _ (Array.getElem_mem ha)) i (List.mem_range.mpr hi)
    simpa [Array.getElem?_eq_getElem hi] using q
  obtain ⟨i0, ei0⟩ := is_v hg1
  obtain rfl : w0 = (.int i0) := Option.some.inj ei0
  obtain ⟨i1, ei1⟩ := is_v hg2
  obtain rfl : w1 = (.int i1) := Option.some.inj ei1
  obtain ⟨i2, ei2⟩ := is_v hg3
  obtain rfl : w2 = (.int i2) := Option.some.inj ei2
  obtain ⟨i3, ei3⟩ := is_v hg4
  obtain rfl : w3 = (.int i3) := Option.some.inj ei3
  obtain ⟨i4, ei4⟩ := is_v hgr4
  obtain rfl : w4 = (.int i4) := Option.some.inj ei4
  have hs := atoms_of jdkStatics_1 (show (jdkStatics_1.foldr Jvm.Cond.and restOwn_1).before _ s = true from hrest)
  have SV : own_Env s := by
    refine ⟨?_, ?_⟩
    · obtain ⟨G1, ev⟩ := is_v (Cond.before_iff.mp (hs.1 _ (List.mem_of_getElem? (i := 1) rfl)))
      exact ⟨G1, Sta.start ev (Or.inl (hs.1 _ (List.mem_of_getElem? (i := 0) rfl))), envNe ev (hs.1 _ (List.mem_of_getElem? (i := 2) rfl))⟩
    · obtain ⟨G3, ev, rG⟩ := envRef (hs.1 _ (List.mem_of_getElem? (i := 8) rfl))
      exact ⟨G3, Sta.start ev (Or.inl (hs.1 _ (List.mem_of_getElem? (i := 7) rfl))), rG⟩

  have HC : CHv s own_EL s.vm s.heap := CHv.start (own_EW hw) (fun q hq => hcalls.1 q hq) (hs.1 _ (List.mem_of_getElem? (i := 2) rfl)) (tw hw 24 rfl) (tw hw 6 rfl)
  obtain ⟨n, o, h1, h2, h3, _, L, rfl, ⟨rfl, N⟩, -, hq⟩ := rm0 l s _ hw tables_1 i0 i1 i2 i3 i4  s.heap s.heap.size (Nat.le_refl _) (Old.start s) SV p e ha hc hk s m _ below hf ((Spec.applies_iff_loose hf).mp happ).1 ⟨rfl, State.Warmed39.refl s, rfl, HC⟩ trivial
  refine ⟨n, _, h1, h2, h3, hpost _ _ _ _ _ _ ⟨Cond.after_iff.mpr rfl, Cond.after_iff.mpr (eq_i res_at (Term.int_eval (1)) rfl), trivial⟩ ⟨hq.1, hq.2.1, hq.2.2.1, (hq.2.2.2.sift fun y hy => Or.inr (N y hy)).mono (by decide) (by decide)⟩⟩
theorem main_1_1 : Claimed_1_1 := comes_1 fun _ _ _ _ _ _ h hF => ⟨h.1, hF⟩
theorem main_1_2 : Claimed_1_2 := comes_1 fun _ _ _ _ _ _ h hF => ⟨h.2.1, hF⟩
end Jvm.Pilot.@@N@@
namespace Jvm.Pilot.@@N@@
open Jvm Jvm.ClassFile Sem Op Lib Jvm.Free Jvm.Stand Jvm.Pilot.@@N@@.Jvm.D
/-! MADE BY PROGRAM (witnessworld.py) out of the Statement's table words and the real class files: 22 classes; the members and pool entries that the words name. The judged class is class 1, her method 2. -/
namespace start1
open Jvm.ClassFile
def u (s : String) : CpInfo := .utf8 (stringToUtf16 s)
/-- a pool by its gaps: so many unusable entries, then the entry; so many at the end -/
def gap : Nat → List CpInfo → List CpInfo
  | 0, r => r
  | n + 1, r => .unusable :: gap n r
def poolList (es : List (Nat × CpInfo)) (last : Nat) : List CpInfo := es.foldr (fun e r => gap e.1 (e.2 :: r)) (gap last [])
def pool (es : List (Nat × CpInfo)) (last : Nat) : Array CpInfo := ⟨poolList es last⟩
def fileOf (pool : Array CpInfo) (this : Nat) (attrs : Array Attribute := #[]) (ms : Array MethodInfo := #[]) (fl : Nat := 33) (sup : Nat := 0) (ifs : Array Nat := #[]) (fds : Array FieldInfo := #[]) : ClassFile where
  minorVersion := 0
  majorVersion := 65
  constantPool := pool
  accessFlags := fl
  thisClass := this
  superClass := sup
  interfaces := ifs
  fields := fds
  methods := ms
  attributes := attrs
def plain (name : String) (sup : Option ClassId) : Class where
  name := name
  kind := .ordinary
  loader := none
  accessFlags := 33
  super := sup
  interfaces := #[]
  cf := none
  fields := #[]
  methods := #[]
  instanceTypes := #[]
  staticTypes := #[]
  resolved := #[]
  callSites := []
  init := .initialized
  statics := none
  mirror := none

def pool0 : Array CpInfo := pool [(5, u "<init>"), (0, u "()V"), (1, .class_ 10), (1, u "java/lang/Object")] 113

def k0c0 : Code := { maxStack := 0, maxLocals := 1, code := object_method_1_code, exceptionTable := #[], attributes := #[] }
def k0m0 : Method := { name := "<init>", desc := "()V", sig := { parameters := [], returnType := none }, accessFlags := 1, code := some k0c0 }
/-- java/lang/Object -/
def k0 : Class := { plain "java/lang/Object" none with
  accessFlags := 33
  interfaces := #[]
  cf := some (fileOf pool0 8 #[] #[{ accessFlags := 1, nameIndex := 5, descriptorIndex := 6, attributes := #[] }] 33 0 #[] #[])
  fields := #[]
  methods := #[k0m0]
  instanceTypes := #[]
  staticTypes := #[]
  resolved := Array.replicate 124 none
  statics := none }

def pool1 : Array CpInfo := pool [(2, .class_ 4), (1, u "java/lang/Object"), (0, u "<init>"), (0, u "()V"), (0, .integer 2147483647), (0, .methodref 9 10), (0, .class_ 11), (0, .nameAndType 12 13), (0, u "com/example/outbox/outbox/QueueNameOfPinLaw"), (0, u "pick"), (0, u "(I)C"), (0, .class_ 15), (0, u "java/lang/String"), (0, .methodref 14 17), (0, .nameAndType 5 18), (0, u "([C)V"), (0, .string 20), (0, u "."), (0, .methodref 14 22), (0, .nameAndType 23 24), (0, u "equals"), (0, u "(Ljava/lang/Object;)Z"), (0, .string 26), (0, u ".."), (0, .methodref 28 29), (0, .class_ 30), (0, .nameAndType 31 32), (0, u "com/example/outbox/outbox/QueueName"), (0, u "of"), (0, u "(Ljava/lang/String;)Lcom/example/outbox/outbox/QueueName;"), (0, .methodref 28 34), (0, .nameAndType 35 36), (0, u "value"), (0, u "()Ljava/lang/String;"), (3, u "law"), (0, u "(IIIII)Z")] 2

def k1m0 : Method := { name := "<init>", desc := "()V", sig := { parameters := [], returnType := none }, accessFlags := 1, code := none }
def k1c1 : Code := { maxStack := 3, maxLocals := 2, code := method_2_code, exceptionTable := #[], attributes := #[] }
def k1m1 : Method := { name := "pick", desc := "(I)C", sig := { parameters := [.int], returnType := some .char }, accessFlags := 10, code := some k1c1 }
def k1c2 : Code := { maxStack := 6, maxLocals := 12, code := code, exceptionTable := #[], attributes := #[] }
def k1m2 : Method := { name := "law", desc := "(IIIII)Z", sig := { parameters := [.int, .int, .int, .int, .int], returnType := some .boolean }, accessFlags := 9, code := some k1c2 }
/-- com/example/outbox/outbox/QueueNameOfPinLaw -/
def k1 : Class := { plain "com/example/outbox/outbox/QueueNameOfPinLaw" (some 0) with
  accessFlags := 49
  interfaces := #[]
  cf := some (fileOf pool1 9 #[] #[{ accessFlags := 1, nameIndex := 5, descriptorIndex := 6, attributes := #[] }, { accessFlags := 10, nameIndex := 12, descriptorIndex := 13, attributes := #[] }, { accessFlags := 9, nameIndex := 40, descriptorIndex := 41, attributes := #[] }] 49 2 #[] #[])
  fields := #[]
  methods := #[k1m0, k1m1, k1m2]
  instanceTypes := #[]
  staticTypes := #[]
  resolved := Array.replicate 44 none
  statics := none }

def pool2 : Array CpInfo := pool [(1, .class_ 2), (0, u "java/io/Serializable"), (0, .class_ 4), (0, u "java/lang/Object")] 2

/-- java/io/Serializable -/
def k2 : Class := { plain "java/io/Serializable" (some 0) with
  accessFlags := 1537
  interfaces := #[]
  cf := some (fileOf pool2 1 #[] #[] 1537 3 #[] #[])
  fields := #[]
  methods := #[]
  instanceTypes := #[]
  staticTypes := #[]
  resolved := Array.replicate 7 none
  statics := none }

def pool3 : Array CpInfo := pool [(1, .class_ 2), (0, u "java/lang/Comparable"), (0, .class_ 4), (0, u "java/lang/Object")] 7

/-- java/lang/Comparable -/
def k3 : Class := { plain "java/lang/Comparable" (some 0) with
  accessFlags := 1537
  interfaces := #[]
  cf := some (fileOf pool3 1 #[] #[] 1537 3 #[] #[])
  fields := #[]
  methods := #[]
  instanceTypes := #[]
  staticTypes := #[]
  resolved := Array.replicate 12 none
  statics := none }

def pool4 : Array CpInfo := pool [(2, .class_ 4), (1, u "java/lang/CharSequence"), (42, .class_ 48), (0, u "java/lang/CharSequence$1CodePointIterator"), (10, .class_ 60), (0, u "java/lang/CharSequence$1CharIterator"), (5, .class_ 67), (0, u "java/lang/Object")] 63

/-- java/lang/CharSequence -/
def k4 : Class := { plain "java/lang/CharSequence" (some 0) with
  accessFlags := 1537
  interfaces := #[]
  cf := some (fileOf pool4 2 #[.nestMembers #[47, 59]] #[] 1537 66 #[] #[])
  fields := #[]
  methods := #[]
  instanceTypes := #[]
  staticTypes := #[]
  resolved := Array.replicate 131 none
  statics := none }

def pool5 : Array CpInfo := pool [(1, .class_ 2), (0, u "java/lang/constant/Constable"), (0, .class_ 4), (0, u "java/lang/Object")] 6

/-- java/lang/constant/Constable -/
def k5 : Class := { plain "java/lang/constant/Constable" (some 0) with
  accessFlags := 1537
  interfaces := #[]
  cf := some (fileOf pool5 1 #[] #[] 1537 3 #[] #[])
  fields := #[]
  methods := #[]
  instanceTypes := #[]
  staticTypes := #[]
  resolved := Array.replicate 11 none
  statics := none }

def pool6 : Array CpInfo := pool [(1, .class_ 2), (0, u "java/lang/constant/ConstantDesc"), (0, .class_ 4), (0, u "java/lang/Object")] 32

/-- java/lang/constant/ConstantDesc -/
def k6 : Class := { plain "java/lang/constant/ConstantDesc" (some 0) with
  accessFlags := 1537
  interfaces := #[]
  cf := some (fileOf pool6 1 #[] #[] 1537 3 #[] #[])
  fields := #[]
  methods := #[]
  instanceTypes := #[]
  staticTypes := #[]
  resolved := Array.replicate 37 none
  statics := none }

def pool7 : Array CpInfo := pool [(1, .methodref 2 3), (0, .class_ 4), (0, .nameAndType 5 6), (0, u "java/lang/Object"), (0, u "<init>"), (0, u "()V"), (2, .fieldref 10 11), (0, .class_ 12), (0, .nameAndType 13 14), (0, u "java/lang/String"), (0, u "value"), (0, u "[B"), (0, .fieldref 10 16), (0, .nameAndType 17 18), (0, u "coder"), (0, u "B"), (2, u "hash"), (0, u "I"), (2, u "hashIsZero"), (0, u "Z"), (0, .methodref 10 28), (0, .nameAndType 5 29), (0, u "([CIILjava/lang/Void;)V"), (8, .fieldref 10 39), (0, .nameAndType 40 26), (0, u "COMPACT_STRINGS"), (1, .class_ 44), (1, u "java/lang/StringUTF16"), (0, u "compress"), (1, .methodref 42 48), (0, .nameAndType 49 50), (0, u "coderFromArrayLen"), (0, u "([BI)B"), (56, .class_ 109), (1, u "java/lang/StringLatin1"), (32, u "()Z"), (34, .methodref 42 178), (0, .nameAndType 45 179), (0, u "([CII)[B"), (154, u "()I"), (0, .methodref 10 336), (0, .nameAndType 17 337), (0, u "()B"), (53, u "(II)V"), (100, .methodref 10 493), (0, .nameAndType 494 142), (0, u "isLatin1"), (4, .methodref 10 500), (0, .nameAndType 501 391), (0, u "checkIndex"), (2, u "codePointAt"), (2, u "length"), (33, .methodref 107 542), (0, .nameAndType 543 544), (0, u "equals"), (0, u "([B[B)Z"), (28, u "(Ljava/lang/Object;)Z"), (1, .class_ 576), (0, u "java/lang/CharSequence"), (22, u "CASE_INSENSITIVE_ORDER"), (0, u "Ljava/util/Comparator;"), (91, u "isEmpty"), (72, u "(I)I"), (244, u "([C)V"), (42, .fieldref 1054 1055), (0, .class_ 1056), (0, .nameAndType 1057 1058), (0, u "jdk/internal/util/Preconditions"), (0, u "SIOOBE_FORMATTER"), (0, u "Ljava/util/function/BiFunction;"), (0, .methodref 1054 1060), (0, .nameAndType 501 1061), (0, u "(IILjava/util/function/BiFunction;)I"), (39, u "serialPersistentFields"), (0, u "[Ljava/io/ObjectStreamField;"), (0, .class_ 1104), (0, u "java/lang/String$CaseInsensitiveComparator"), (1, .class_ 1107), (0, u "java/io/Serializable"), (0, .class_ 1109), (0, u "java/lang/Comparable"), (0, .class_ 1111), (0, u "java/lang/constant/Constable"), (0, .class_ 1113), (0, u "java/lang/constant/ConstantDesc"), (2, u "serialVersionUID"), (0, u "J"), (3, u "REPL"), (0, u "C"), (2, u "LATIN1"), (1, u "UTF16")] 323

def k7m0 : Method := { name := "<init>", desc := "()V", sig := { parameters := [], returnType := none }, accessFlags := 1, code := none }
def k7c1 : Code := { maxStack := 5, maxLocals := 2, code := jdk_42_method_3_code, exceptionTable := #[], attributes := #[] }
def k7m1 : Method := { name := "<init>", desc := "([C)V", sig := { parameters := [(.array .char)], returnType := none }, accessFlags := 1, code := some k7c1 }
def k7c2 : Code := { maxStack := 2, maxLocals := 1, code := jdk_42_method_54_code, exceptionTable := #[], attributes := #[] }
def k7m2 : Method := { name := "length", desc := "()I", sig := { parameters := [], returnType := some .int }, accessFlags := 1, code := some k7c2 }
def k7c3 : Code := { maxStack := 1, maxLocals := 1, code := jdk_42_method_55_code, exceptionTable := #[], attributes := #[] }
def k7m3 : Method := { name := "isEmpty", desc := "()Z", sig := { parameters := [], returnType := some .boolean }, accessFlags := 1, code := some k7c3 }
def k7c4 : Code := { maxStack := 3, maxLocals := 3, code := jdk_42_method_57_code, exceptionTable := #[], attributes := #[] }
def k7m4 : Method := { name := "codePointAt", desc := "(I)I", sig := { parameters := [.int], returnType := some .int }, accessFlags := 1, code := some k7c4 }
def k7c5 : Code := { maxStack := 2, maxLocals := 3, code := jdk_42_method_66_code, exceptionTable := #[], attributes := #[] }
def k7m5 : Method := { name := "equals", desc := "(Ljava/lang/Object;)Z", sig := { parameters := [(.object "java/lang/Object")], returnType := some .boolean }, accessFlags := 1, code := some k7c5 }
def k7c6 : Code := { maxStack := 4, maxLocals := 6, code := jdk_42_method_149_code, exceptionTable := #[], attributes := #[] }
def k7m6 : Method := { name := "<init>", desc := "([CIILjava/lang/Void;)V", sig := { parameters := [(.array .char), .int, .int, (.object "java/lang/Void")], returnType := none }, accessFlags := 2, code := some k7c6 }
def k7c7 : Code := { maxStack := 1, maxLocals := 1, code := jdk_42_method_152_code, exceptionTable := #[], attributes := #[] }
def k7m7 : Method := { name := "coder", desc := "()B", sig := { parameters := [], returnType := some .byte }, accessFlags := 0, code := some k7c7 }
def k7c8 : Code := { maxStack := 1, maxLocals := 1, code := jdk_42_method_154_code, exceptionTable := #[], attributes := #[] }
def k7m8 : Method := { name := "isLatin1", desc := "()Z", sig := { parameters := [], returnType := some .boolean }, accessFlags := 0, code := some k7c8 }
def k7c9 : Code := { maxStack := 3, maxLocals := 2, code := jdk_42_method_155_code, exceptionTable := #[], attributes := #[] }
def k7m9 : Method := { name := "checkIndex", desc := "(II)V", sig := { parameters := [.int, .int], returnType := none }, accessFlags := 8, code := some k7c9 }
/-- java/lang/String -/
def k7 : Class := { plain "java/lang/String" (some 0) with
  accessFlags := 49
  interfaces := #[2, 3, 4, 5, 6]
  cf := some (fileOf pool7 10 #[.nestMembers #[1103]] #[{ accessFlags := 1, nameIndex := 5, descriptorIndex := 6, attributes := #[] }, { accessFlags := 1, nameIndex := 5, descriptorIndex := 1010, attributes := #[] }, { accessFlags := 1, nameIndex := 507, descriptorIndex := 334, attributes := #[] }, { accessFlags := 1, nameIndex := 692, descriptorIndex := 142, attributes := #[] }, { accessFlags := 1, nameIndex := 504, descriptorIndex := 765, attributes := #[] }, { accessFlags := 1, nameIndex := 543, descriptorIndex := 573, attributes := #[] }, { accessFlags := 2, nameIndex := 5, descriptorIndex := 29, attributes := #[] }, { accessFlags := 0, nameIndex := 17, descriptorIndex := 337, attributes := #[] }, { accessFlags := 0, nameIndex := 494, descriptorIndex := 142, attributes := #[] }, { accessFlags := 8, nameIndex := 501, descriptorIndex := 391, attributes := #[] }] 49 2 #[1106, 1108, 575, 1110, 1112] #[{ accessFlags := 18, nameIndex := 13, descriptorIndex := 14, attributes := #[] }, { accessFlags := 18, nameIndex := 17, descriptorIndex := 18, attributes := #[] }, { accessFlags := 2, nameIndex := 21, descriptorIndex := 22, attributes := #[] }, { accessFlags := 2, nameIndex := 25, descriptorIndex := 26, attributes := #[] }, { accessFlags := 26, nameIndex := 1116, descriptorIndex := 1117, attributes := #[] }, { accessFlags := 24, nameIndex := 40, descriptorIndex := 26, attributes := #[] }, { accessFlags := 26, nameIndex := 1101, descriptorIndex := 1102, attributes := #[] }, { accessFlags := 26, nameIndex := 1121, descriptorIndex := 1122, attributes := #[] }, { accessFlags := 25, nameIndex := 599, descriptorIndex := 600, attributes := #[] }, { accessFlags := 24, nameIndex := 1125, descriptorIndex := 18, attributes := #[] }, { accessFlags := 24, nameIndex := 1127, descriptorIndex := 18, attributes := #[] }])
  fields := #[{ name := "value", type := (.array .byte), accessFlags := 18, slot := 0, constantValue := 0 }, { name := "coder", type := .byte, accessFlags := 18, slot := 1, constantValue := 0 }, { name := "hash", type := .int, accessFlags := 2, slot := 2, constantValue := 0 }, { name := "hashIsZero", type := .boolean, accessFlags := 2, slot := 3, constantValue := 0 }, { name := "serialVersionUID", type := .long, accessFlags := 26, slot := 0, constantValue := 0 }, { name := "COMPACT_STRINGS", type := .boolean, accessFlags := 24, slot := 1, constantValue := 0 }, { name := "serialPersistentFields", type := (.array (.object "java/io/ObjectStreamField")), accessFlags := 26, slot := 2, constantValue := 0 }, { name := "REPL", type := .char, accessFlags := 26, slot := 3, constantValue := 0 }, { name := "CASE_INSENSITIVE_ORDER", type := (.object "java/util/Comparator"), accessFlags := 25, slot := 4, constantValue := 0 }, { name := "LATIN1", type := .byte, accessFlags := 24, slot := 5, constantValue := 0 }, { name := "UTF16", type := .byte, accessFlags := 24, slot := 6, constantValue := 0 }]
  methods := #[k7m0, k7m1, k7m2, k7m3, k7m4, k7m5, k7m6, k7m7, k7m8, k7m9]
  instanceTypes := #[(.array .byte), .byte, .int, .boolean]
  staticTypes := #[.long, .boolean, (.array (.object "java/io/ObjectStreamField")), .char, (.object "java/util/Comparator"), .byte, .byte]
  resolved := Array.replicate 1451 none
  statics := some 0 }

def pool8 : Array CpInfo := pool [(6, .class_ 8), (1, u "java/lang/Object"), (0, u "<init>"), (0, u "()V"), (1, .class_ 14), (1, u "java/lang/StringUTF16"), (31, u "$assertionsDisabled"), (0, u "Z"), (13, u "HI_BYTE_SHIFT"), (0, u "I"), (2, u "LO_BYTE_SHIFT"), (49, .methodref 12 116), (0, .nameAndType 117 118), (0, u "compress"), (0, u "([CI[BII)I"), (3, u "([CII)[B"), (138, u "coderFromArrayLen"), (0, u "([BI)B"), (106, .class_ 371), (1, u "java/lang/StringUTF16$LinesSpliterator"), (58, u "MAX_LENGTH"), (196, .class_ 628), (0, u "java/lang/StringUTF16$CodePointsSpliterator"), (0, .class_ 630), (0, u "java/lang/StringUTF16$CharsSpliterator")] 4

def k8m0 : Method := { name := "<init>", desc := "()V", sig := { parameters := [], returnType := none }, accessFlags := 0, code := none }
def k8c1 : Code := { maxStack := 2, maxLocals := 2, code := jdk_52_method_15_code, exceptionTable := #[], attributes := #[] }
def k8m1 : Method := { name := "coderFromArrayLen", desc := "([BI)B", sig := { parameters := [(.array .byte), .int], returnType := some .byte }, accessFlags := 8, code := some k8c1 }
def k8c2 : Code := { maxStack := 5, maxLocals := 6, code := jdk_52_method_16_code, exceptionTable := #[], attributes := #[] }
def k8m2 : Method := { name := "compress", desc := "([CII)[B", sig := { parameters := [(.array .char), .int, .int], returnType := some (.array .byte) }, accessFlags := 9, code := some k8c2 }
def k8c3 : Code := { maxStack := 3, maxLocals := 7, code := jdk_52_method_21_code, exceptionTable := #[], attributes := #[] }
def k8m3 : Method := { name := "compress", desc := "([CI[BII)I", sig := { parameters := [(.array .char), .int, (.array .byte), .int, .int], returnType := some .int }, accessFlags := 9, code := some k8c3 }
/-- java/lang/StringUTF16 -/
def k8 : Class := { plain "java/lang/StringUTF16" (some 0) with
  accessFlags := 48
  interfaces := #[]
  cf := some (fileOf pool8 12 #[.nestMembers #[627, 629, 369]] #[{ accessFlags := 0, nameIndex := 9, descriptorIndex := 10, attributes := #[] }, { accessFlags := 8, nameIndex := 261, descriptorIndex := 262, attributes := #[] }, { accessFlags := 9, nameIndex := 117, descriptorIndex := 122, attributes := #[] }, { accessFlags := 9, nameIndex := 117, descriptorIndex := 118, attributes := #[] }] 48 6 #[] #[{ accessFlags := 26, nameIndex := 61, descriptorIndex := 62, attributes := #[] }, { accessFlags := 26, nameIndex := 65, descriptorIndex := 62, attributes := #[] }, { accessFlags := 24, nameIndex := 430, descriptorIndex := 62, attributes := #[] }, { accessFlags := 4120, nameIndex := 46, descriptorIndex := 47, attributes := #[] }])
  fields := #[{ name := "HI_BYTE_SHIFT", type := .int, accessFlags := 26, slot := 0, constantValue := 0 }, { name := "LO_BYTE_SHIFT", type := .int, accessFlags := 26, slot := 1, constantValue := 0 }, { name := "MAX_LENGTH", type := .int, accessFlags := 24, slot := 2, constantValue := 0 }, { name := "$assertionsDisabled", type := .boolean, accessFlags := 4120, slot := 3, constantValue := 0 }]
  methods := #[k8m0, k8m1, k8m2, k8m3]
  instanceTypes := #[]
  staticTypes := #[.int, .int, .int, .boolean]
  resolved := Array.replicate 635 none
  statics := none }

def pool9 : Array CpInfo := pool [(4, .class_ 6), (1, u "java/lang/Object"), (0, u "<init>"), (0, u "()V"), (5, .class_ 16), (1, u "java/lang/StringLatin1"), (104, u "$assertionsDisabled"), (0, u "Z"), (98, .class_ 223), (1, u "java/lang/StringLatin1$LinesSpliterator"), (57, u "equals"), (0, u "([B[B)Z"), (107, .class_ 391), (0, u "java/lang/StringLatin1$CharsSpliterator")] 3

def k9m0 : Method := { name := "<init>", desc := "()V", sig := { parameters := [], returnType := none }, accessFlags := 0, code := none }
def k9c1 : Code := { maxStack := 3, maxLocals := 3, code := jdk_43_method_13_code, exceptionTable := #[], attributes := #[] }
def k9m1 : Method := { name := "equals", desc := "([B[B)Z", sig := { parameters := [(.array .byte), (.array .byte)], returnType := some .boolean }, accessFlags := 9, code := some k9c1 }
/-- java/lang/StringLatin1 -/
def k9 : Class := { plain "java/lang/StringLatin1" (some 0) with
  accessFlags := 48
  interfaces := #[]
  cf := some (fileOf pool9 14 #[.nestMembers #[390, 221]] #[{ accessFlags := 0, nameIndex := 7, descriptorIndex := 8, attributes := #[] }, { accessFlags := 9, nameIndex := 281, descriptorIndex := 282, attributes := #[] }] 48 4 #[] #[{ accessFlags := 4120, nameIndex := 121, descriptorIndex := 122, attributes := #[] }])
  fields := #[{ name := "$assertionsDisabled", type := .boolean, accessFlags := 4120, slot := 0, constantValue := 0 }]
  methods := #[k9m0, k9m1]
  instanceTypes := #[]
  staticTypes := #[.boolean]
  resolved := Array.replicate 395 none
  statics := none }

def pool10 : Array CpInfo := pool [(1, .methodref 2 3), (0, .class_ 4), (0, .nameAndType 5 6), (0, u "java/lang/Object"), (0, u "<init>"), (0, u "()V"), (0, .fieldref 8 9), (0, .class_ 10), (0, .nameAndType 11 12), (0, u "com/example/outbox/outbox/QueueName"), (0, u "value"), (0, u "Ljava/lang/String;"), (0, .string 14), (0, u "name"), (0, .methodref 16 17), (0, .class_ 18), (0, .nameAndType 19 20), (0, u "java/util/Objects"), (0, u "requireNonNull"), (0, u "(Ljava/lang/Object;Ljava/lang/String;)Ljava/lang/Object;"), (0, .methodref 22 23), (0, .class_ 24), (0, .nameAndType 25 26), (0, u "java/lang/String"), (0, u "isEmpty"), (0, u "()Z"), (0, .methodref 22 28), (0, .nameAndType 29 30), (0, u "length"), (0, u "()I"), (7, .nameAndType 5 39), (0, u "(Ljava/lang/String;)V"), (0, .string 41), (0, u "."), (0, .methodref 22 43), (0, .nameAndType 44 45), (0, u "equals"), (0, u "(Ljava/lang/Object;)Z"), (0, .string 47), (0, u ".."), (2, .methodref 22 51), (0, .nameAndType 52 53), (0, u "codePointAt"), (0, u "(I)I"), (0, .methodref 8 55), (0, .nameAndType 56 57), (0, u "isAllowed"), (0, u "(I)Z"), (14, .methodref 73 74), (0, .class_ 75), (0, .nameAndType 76 53), (0, u "java/lang/Character"), (0, u "charCount"), (0, .methodref 8 38), (10, .class_ 89), (0, u "java/lang/Comparable"), (0, u "MAX_LENGTH"), (0, u "I"), (4, u "of"), (0, u "(Ljava/lang/String;)Lcom/example/outbox/outbox/QueueName;"), (1, u "()Ljava/lang/String;")] 22

def k10c0 : Code := { maxStack := 2, maxLocals := 2, code := prog_6_method_1_code, exceptionTable := #[], attributes := #[] }
def k10m0 : Method := { name := "<init>", desc := "(Ljava/lang/String;)V", sig := { parameters := [(.object "java/lang/String")], returnType := none }, accessFlags := 2, code := some k10c0 }
def k10c1 : Code := { maxStack := 7, maxLocals := 4, code := prog_6_method_2_code, exceptionTable := #[], attributes := #[] }
def k10m1 : Method := { name := "of", desc := "(Ljava/lang/String;)Lcom/example/outbox/outbox/QueueName;", sig := { parameters := [(.object "java/lang/String")], returnType := some (.object "com/example/outbox/outbox/QueueName") }, accessFlags := 9, code := some k10c1 }
def k10c2 : Code := { maxStack := 2, maxLocals := 1, code := prog_6_method_3_code, exceptionTable := #[], attributes := #[] }
def k10m2 : Method := { name := "isAllowed", desc := "(I)Z", sig := { parameters := [.int], returnType := some .boolean }, accessFlags := 10, code := some k10c2 }
def k10c3 : Code := { maxStack := 1, maxLocals := 1, code := prog_6_method_4_code, exceptionTable := #[], attributes := #[] }
def k10m3 : Method := { name := "value", desc := "()Ljava/lang/String;", sig := { parameters := [], returnType := some (.object "java/lang/String") }, accessFlags := 1, code := some k10c3 }
/-- com/example/outbox/outbox/QueueName -/
def k10 : Class := { plain "com/example/outbox/outbox/QueueName" (some 0) with
  accessFlags := 49
  interfaces := #[3]
  cf := some (fileOf pool10 8 #[] #[{ accessFlags := 2, nameIndex := 5, descriptorIndex := 39, attributes := #[] }, { accessFlags := 9, nameIndex := 96, descriptorIndex := 97, attributes := #[] }, { accessFlags := 10, nameIndex := 56, descriptorIndex := 57, attributes := #[] }, { accessFlags := 1, nameIndex := 11, descriptorIndex := 99, attributes := #[] }] 49 2 #[88] #[{ accessFlags := 25, nameIndex := 90, descriptorIndex := 91, attributes := #[] }, { accessFlags := 18, nameIndex := 11, descriptorIndex := 12, attributes := #[] }])
  fields := #[{ name := "MAX_LENGTH", type := .int, accessFlags := 25, slot := 0, constantValue := 0 }, { name := "value", type := (.object "java/lang/String"), accessFlags := 18, slot := 0, constantValue := 0 }]
  methods := #[k10m0, k10m1, k10m2, k10m3]
  instanceTypes := #[(.object "java/lang/String")]
  staticTypes := #[.int]
  resolved := Array.replicate 122 none
  statics := none }

def pool11 : Array CpInfo := pool [(2, .class_ 4), (1, u "java/lang/Object"), (0, u "<init>"), (0, u "()V"), (35, .class_ 44), (1, u "java/util/Objects"), (0, u "requireNonNull"), (48, u "(Ljava/lang/Object;Ljava/lang/String;)Ljava/lang/Object;")] 89

def k11m0 : Method := { name := "<init>", desc := "()V", sig := { parameters := [], returnType := none }, accessFlags := 2, code := none }
def k11c1 : Code := { maxStack := 3, maxLocals := 2, code := jdk_31_method_11_code, exceptionTable := #[], attributes := #[] }
def k11m1 : Method := { name := "requireNonNull", desc := "(Ljava/lang/Object;Ljava/lang/String;)Ljava/lang/Object;", sig := { parameters := [(.object "java/lang/Object"), (.object "java/lang/String")], returnType := some (.object "java/lang/Object") }, accessFlags := 9, code := some k11c1 }
/-- java/util/Objects -/
def k11 : Class := { plain "java/util/Objects" (some 0) with
  accessFlags := 49
  interfaces := #[]
  cf := some (fileOf pool11 42 #[] #[{ accessFlags := 2, nameIndex := 5, descriptorIndex := 6, attributes := #[] }, { accessFlags := 9, nameIndex := 45, descriptorIndex := 94, attributes := #[] }] 49 2 #[] #[])
  fields := #[]
  methods := #[k11m0, k11m1]
  instanceTypes := #[]
  staticTypes := #[]
  resolved := Array.replicate 184 none
  statics := none }

def pool12 : Array CpInfo := pool [(2, .class_ 4), (1, u "java/lang/Object"), (0, u "<init>"), (0, u "()V"), (17, .class_ 26), (1, u "jdk/internal/util/Preconditions"), (6, u "checkIndex"), (21, .class_ 56), (0, u "jdk/internal/util/Preconditions$4"), (57, .class_ 115), (0, u "jdk/internal/util/Preconditions$1"), (7, u "SIOOBE_FORMATTER"), (0, u "Ljava/util/function/BiFunction;"), (0, .class_ 126), (0, u "jdk/internal/util/Preconditions$2"), (3, u "AIOOBE_FORMATTER"), (0, .class_ 132), (0, u "jdk/internal/util/Preconditions$3"), (3, u "IOOBE_FORMATTER"), (41, u "(IILjava/util/function/BiFunction;)I")] 15

def k12m0 : Method := { name := "<init>", desc := "()V", sig := { parameters := [], returnType := none }, accessFlags := 1, code := none }
def k12c1 : Code := { maxStack := 3, maxLocals := 3, code := jdk_41_method_11_code, exceptionTable := #[], attributes := #[] }
def k12m1 : Method := { name := "checkIndex", desc := "(IILjava/util/function/BiFunction;)I", sig := { parameters := [.int, .int, (.object "java/util/function/BiFunction")], returnType := some .int }, accessFlags := 9, code := some k12c1 }
/-- jdk/internal/util/Preconditions -/
def k12 : Class := { plain "jdk/internal/util/Preconditions" (some 0) with
  accessFlags := 33
  interfaces := #[]
  cf := some (fileOf pool12 24 #[.nestMembers #[55, 131, 125, 114]] #[{ accessFlags := 1, nameIndex := 5, descriptorIndex := 6, attributes := #[] }, { accessFlags := 9, nameIndex := 33, descriptorIndex := 178, attributes := #[] }] 33 2 #[] #[{ accessFlags := 25, nameIndex := 123, descriptorIndex := 124, attributes := #[] }, { accessFlags := 25, nameIndex := 130, descriptorIndex := 124, attributes := #[] }, { accessFlags := 25, nameIndex := 136, descriptorIndex := 124, attributes := #[] }])
  fields := #[{ name := "SIOOBE_FORMATTER", type := (.object "java/util/function/BiFunction"), accessFlags := 25, slot := 0, constantValue := 0 }, { name := "AIOOBE_FORMATTER", type := (.object "java/util/function/BiFunction"), accessFlags := 25, slot := 1, constantValue := 0 }, { name := "IOOBE_FORMATTER", type := (.object "java/util/function/BiFunction"), accessFlags := 25, slot := 2, constantValue := 0 }]
  methods := #[k12m0, k12m1]
  instanceTypes := #[]
  staticTypes := #[(.object "java/util/function/BiFunction"), (.object "java/util/function/BiFunction"), (.object "java/util/function/BiFunction")]
  resolved := Array.replicate 194 none
  statics := some 1 }

def pool13 : Array CpInfo := pool [(1, .class_ 2), (0, u "java/lang/Character"), (18, u "value"), (0, u "C"), (19, .class_ 44), (1, u "java/lang/Object"), (3, .class_ 50), (1, u "java/lang/Character$CharacterCache"), (22, .integer 65536), (100, u "(I)I"), (109, u "$assertionsDisabled"), (0, u "Z"), (21, .class_ 309), (1, u "java/lang/Character$UnicodeBlock"), (73, u "TYPE"), (0, u "Ljava/lang/Class;"), (0, .class_ 386), (0, u "java/io/Serializable"), (0, .class_ 388), (0, u "java/lang/Comparable"), (0, .class_ 390), (0, u "java/lang/constant/Constable"), (0, u "MIN_RADIX"), (0, u "I"), (2, u "MAX_RADIX"), (1, u "MIN_VALUE"), (1, u "MAX_VALUE"), (3, u "UNASSIGNED"), (0, u "B"), (0, u "UPPERCASE_LETTER"), (1, u "LOWERCASE_LETTER"), (0, u "TITLECASE_LETTER"), (1, u "MODIFIER_LETTER"), (1, u "OTHER_LETTER"), (1, u "NON_SPACING_MARK"), (1, u "ENCLOSING_MARK"), (1, u "COMBINING_SPACING_MARK"), (1, u "DECIMAL_DIGIT_NUMBER"), (1, u "LETTER_NUMBER"), (1, u "OTHER_NUMBER"), (1, u "SPACE_SEPARATOR"), (1, u "LINE_SEPARATOR"), (1, u "PARAGRAPH_SEPARATOR"), (1, u "CONTROL"), (1, u "FORMAT"), (1, u "PRIVATE_USE"), (1, u "SURROGATE"), (1, u "DASH_PUNCTUATION"), (1, u "START_PUNCTUATION"), (1, u "END_PUNCTUATION"), (1, u "CONNECTOR_PUNCTUATION"), (1, u "OTHER_PUNCTUATION"), (1, u "MATH_SYMBOL"), (1, u "CURRENCY_SYMBOL"), (1, u "MODIFIER_SYMBOL"), (1, u "OTHER_SYMBOL"), (1, u "INITIAL_QUOTE_PUNCTUATION"), (1, u "FINAL_QUOTE_PUNCTUATION"), (1, u "ERROR"), (1, u "DIRECTIONALITY_UNDEFINED"), (0, u "DIRECTIONALITY_LEFT_TO_RIGHT"), (0, u "DIRECTIONALITY_RIGHT_TO_LEFT"), (0, u "DIRECTIONALITY_RIGHT_TO_LEFT_ARABIC"), (0, u "DIRECTIONALITY_EUROPEAN_NUMBER"), (0, u "DIRECTIONALITY_EUROPEAN_NUMBER_SEPARATOR"), (0, u "DIRECTIONALITY_EUROPEAN_NUMBER_TERMINATOR"), (0, u "DIRECTIONALITY_ARABIC_NUMBER"), (0, u "DIRECTIONALITY_COMMON_NUMBER_SEPARATOR"), (0, u "DIRECTIONALITY_NONSPACING_MARK"), (0, u "DIRECTIONALITY_BOUNDARY_NEUTRAL"), (0, u "DIRECTIONALITY_PARAGRAPH_SEPARATOR"), (0, u "DIRECTIONALITY_SEGMENT_SEPARATOR"), (0, u "DIRECTIONALITY_WHITESPACE"), (0, u "DIRECTIONALITY_OTHER_NEUTRALS"), (0, u "DIRECTIONALITY_LEFT_TO_RIGHT_EMBEDDING"), (0, u "DIRECTIONALITY_LEFT_TO_RIGHT_OVERRIDE"), (0, u "DIRECTIONALITY_RIGHT_TO_LEFT_EMBEDDING"), (0, u "DIRECTIONALITY_RIGHT_TO_LEFT_OVERRIDE"), (1, u "DIRECTIONALITY_POP_DIRECTIONAL_FORMAT"), (0, u "DIRECTIONALITY_LEFT_TO_RIGHT_ISOLATE"), (0, u "DIRECTIONALITY_RIGHT_TO_LEFT_ISOLATE"), (0, u "DIRECTIONALITY_FIRST_STRONG_ISOLATE"), (0, u "DIRECTIONALITY_POP_DIRECTIONAL_ISOLATE"), (0, u "MIN_HIGH_SURROGATE"), (0, u "MAX_HIGH_SURROGATE"), (1, u "MIN_LOW_SURROGATE"), (0, u "MAX_LOW_SURROGATE"), (1, u "MIN_SURROGATE"), (0, u "MAX_SURROGATE"), (0, u "MIN_SUPPLEMENTARY_CODE_POINT"), (0, u "MIN_CODE_POINT"), (0, u "MAX_CODE_POINT"), (1, u "serialVersionUID"), (0, u "J"), (2, u "SIZE"), (0, u "BYTES"), (29, u "charCount"), (58, .class_ 596), (0, u "java/lang/Character$UnicodeScript"), (0, .class_ 598), (0, u "java/lang/Character$Subset")] 5

def k13c0 : Code := { maxStack := 2, maxLocals := 1, code := jdk_89_method_18_code, exceptionTable := #[], attributes := #[] }
def k13m0 : Method := { name := "charCount", desc := "(I)I", sig := { parameters := [.int], returnType := some .int }, accessFlags := 9, code := some k13c0 }
/-- java/lang/Character -/
def k13 : Class := { plain "java/lang/Character" (some 0) with
  accessFlags := 49
  interfaces := #[2, 3, 5]
  cf := some (fileOf pool13 1 #[.nestMembers #[48, 595, 307, 597]] #[{ accessFlags := 9, nameIndex := 536, descriptorIndex := 174, attributes := #[] }] 49 42 #[385, 387, 389] #[{ accessFlags := 25, nameIndex := 391, descriptorIndex := 392, attributes := #[] }, { accessFlags := 25, nameIndex := 395, descriptorIndex := 392, attributes := #[] }, { accessFlags := 25, nameIndex := 397, descriptorIndex := 22, attributes := #[] }, { accessFlags := 25, nameIndex := 399, descriptorIndex := 22, attributes := #[] }, { accessFlags := 25, nameIndex := 383, descriptorIndex := 384, attributes := #[] }, { accessFlags := 25, nameIndex := 403, descriptorIndex := 404, attributes := #[] }, { accessFlags := 25, nameIndex := 405, descriptorIndex := 404, attributes := #[] }, { accessFlags := 25, nameIndex := 407, descriptorIndex := 404, attributes := #[] }, { accessFlags := 25, nameIndex := 408, descriptorIndex := 404, attributes := #[] }, { accessFlags := 25, nameIndex := 410, descriptorIndex := 404, attributes := #[] }, { accessFlags := 25, nameIndex := 412, descriptorIndex := 404, attributes := #[] }, { accessFlags := 25, nameIndex := 414, descriptorIndex := 404, attributes := #[] }, { accessFlags := 25, nameIndex := 416, descriptorIndex := 404, attributes := #[] }, { accessFlags := 25, nameIndex := 418, descriptorIndex := 404, attributes := #[] }, { accessFlags := 25, nameIndex := 420, descriptorIndex := 404, attributes := #[] }, { accessFlags := 25, nameIndex := 422, descriptorIndex := 404, attributes := #[] }, { accessFlags := 25, nameIndex := 424, descriptorIndex := 404, attributes := #[] }, { accessFlags := 25, nameIndex := 426, descriptorIndex := 404, attributes := #[] }, { accessFlags := 25, nameIndex := 428, descriptorIndex := 404, attributes := #[] }, { accessFlags := 25, nameIndex := 430, descriptorIndex := 404, attributes := #[] }, { accessFlags := 25, nameIndex := 432, descriptorIndex := 404, attributes := #[] }, { accessFlags := 25, nameIndex := 434, descriptorIndex := 404, attributes := #[] }, { accessFlags := 25, nameIndex := 436, descriptorIndex := 404, attributes := #[] }, { accessFlags := 25, nameIndex := 438, descriptorIndex := 404, attributes := #[] }, { accessFlags := 25, nameIndex := 440, descriptorIndex := 404, attributes := #[] }, { accessFlags := 25, nameIndex := 442, descriptorIndex := 404, attributes := #[] }, { accessFlags := 25, nameIndex := 444, descriptorIndex := 404, attributes := #[] }, { accessFlags := 25, nameIndex := 446, descriptorIndex := 404, attributes := #[] }, { accessFlags := 25, nameIndex := 448, descriptorIndex := 404, attributes := #[] }, { accessFlags := 25, nameIndex := 450, descriptorIndex := 404, attributes := #[] }, { accessFlags := 25, nameIndex := 452, descriptorIndex := 404, attributes := #[] }, { accessFlags := 25, nameIndex := 454, descriptorIndex := 404, attributes := #[] }, { accessFlags := 25, nameIndex := 456, descriptorIndex := 404, attributes := #[] }, { accessFlags := 25, nameIndex := 458, descriptorIndex := 404, attributes := #[] }, { accessFlags := 25, nameIndex := 460, descriptorIndex := 404, attributes := #[] }, { accessFlags := 24, nameIndex := 462, descriptorIndex := 392, attributes := #[] }, { accessFlags := 25, nameIndex := 464, descriptorIndex := 404, attributes := #[] }, { accessFlags := 25, nameIndex := 465, descriptorIndex := 404, attributes := #[] }, { accessFlags := 25, nameIndex := 466, descriptorIndex := 404, attributes := #[] }, { accessFlags := 25, nameIndex := 467, descriptorIndex := 404, attributes := #[] }, { accessFlags := 25, nameIndex := 468, descriptorIndex := 404, attributes := #[] }, { accessFlags := 25, nameIndex := 469, descriptorIndex := 404, attributes := #[] }, { accessFlags := 25, nameIndex := 470, descriptorIndex := 404, attributes := #[] }, { accessFlags := 25, nameIndex := 471, descriptorIndex := 404, attributes := #[] }, { accessFlags := 25, nameIndex := 472, descriptorIndex := 404, attributes := #[] }, { accessFlags := 25, nameIndex := 473, descriptorIndex := 404, attributes := #[] }, { accessFlags := 25, nameIndex := 474, descriptorIndex := 404, attributes := #[] }, { accessFlags := 25, nameIndex := 475, descriptorIndex := 404, attributes := #[] }, { accessFlags := 25, nameIndex := 476, descriptorIndex := 404, attributes := #[] }, { accessFlags := 25, nameIndex := 477, descriptorIndex := 404, attributes := #[] }, { accessFlags := 25, nameIndex := 478, descriptorIndex := 404, attributes := #[] }, { accessFlags := 25, nameIndex := 479, descriptorIndex := 404, attributes := #[] }, { accessFlags := 25, nameIndex := 480, descriptorIndex := 404, attributes := #[] }, { accessFlags := 25, nameIndex := 481, descriptorIndex := 404, attributes := #[] }, { accessFlags := 25, nameIndex := 482, descriptorIndex := 404, attributes := #[] }, { accessFlags := 25, nameIndex := 484, descriptorIndex := 404, attributes := #[] }, { accessFlags := 25, nameIndex := 485, descriptorIndex := 404, attributes := #[] }, { accessFlags := 25, nameIndex := 486, descriptorIndex := 404, attributes := #[] }, { accessFlags := 25, nameIndex := 487, descriptorIndex := 404, attributes := #[] }, { accessFlags := 25, nameIndex := 488, descriptorIndex := 404, attributes := #[] }, { accessFlags := 25, nameIndex := 489, descriptorIndex := 22, attributes := #[] }, { accessFlags := 25, nameIndex := 490, descriptorIndex := 22, attributes := #[] }, { accessFlags := 25, nameIndex := 492, descriptorIndex := 22, attributes := #[] }, { accessFlags := 25, nameIndex := 493, descriptorIndex := 22, attributes := #[] }, { accessFlags := 25, nameIndex := 495, descriptorIndex := 22, attributes := #[] }, { accessFlags := 25, nameIndex := 496, descriptorIndex := 22, attributes := #[] }, { accessFlags := 25, nameIndex := 497, descriptorIndex := 392, attributes := #[] }, { accessFlags := 25, nameIndex := 498, descriptorIndex := 392, attributes := #[] }, { accessFlags := 25, nameIndex := 499, descriptorIndex := 392, attributes := #[] }, { accessFlags := 18, nameIndex := 21, descriptorIndex := 22, attributes := #[] }, { accessFlags := 26, nameIndex := 501, descriptorIndex := 502, attributes := #[] }, { accessFlags := 25, nameIndex := 505, descriptorIndex := 392, attributes := #[] }, { accessFlags := 25, nameIndex := 506, descriptorIndex := 392, attributes := #[] }, { accessFlags := 4120, nameIndex := 284, descriptorIndex := 285, attributes := #[] }])
  fields := #[{ name := "MIN_RADIX", type := .int, accessFlags := 25, slot := 0, constantValue := 0 }, { name := "MAX_RADIX", type := .int, accessFlags := 25, slot := 1, constantValue := 0 }, { name := "MIN_VALUE", type := .char, accessFlags := 25, slot := 2, constantValue := 0 }, { name := "MAX_VALUE", type := .char, accessFlags := 25, slot := 3, constantValue := 0 }, { name := "TYPE", type := (.object "java/lang/Class"), accessFlags := 25, slot := 4, constantValue := 0 }, { name := "UNASSIGNED", type := .byte, accessFlags := 25, slot := 5, constantValue := 0 }, { name := "UPPERCASE_LETTER", type := .byte, accessFlags := 25, slot := 6, constantValue := 0 }, { name := "LOWERCASE_LETTER", type := .byte, accessFlags := 25, slot := 7, constantValue := 0 }, { name := "TITLECASE_LETTER", type := .byte, accessFlags := 25, slot := 8, constantValue := 0 }, { name := "MODIFIER_LETTER", type := .byte, accessFlags := 25, slot := 9, constantValue := 0 }, { name := "OTHER_LETTER", type := .byte, accessFlags := 25, slot := 10, constantValue := 0 }, { name := "NON_SPACING_MARK", type := .byte, accessFlags := 25, slot := 11, constantValue := 0 }, { name := "ENCLOSING_MARK", type := .byte, accessFlags := 25, slot := 12, constantValue := 0 }, { name := "COMBINING_SPACING_MARK", type := .byte, accessFlags := 25, slot := 13, constantValue := 0 }, { name := "DECIMAL_DIGIT_NUMBER", type := .byte, accessFlags := 25, slot := 14, constantValue := 0 }, { name := "LETTER_NUMBER", type := .byte, accessFlags := 25, slot := 15, constantValue := 0 }, { name := "OTHER_NUMBER", type := .byte, accessFlags := 25, slot := 16, constantValue := 0 }, { name := "SPACE_SEPARATOR", type := .byte, accessFlags := 25, slot := 17, constantValue := 0 }, { name := "LINE_SEPARATOR", type := .byte, accessFlags := 25, slot := 18, constantValue := 0 }, { name := "PARAGRAPH_SEPARATOR", type := .byte, accessFlags := 25, slot := 19, constantValue := 0 }, { name := "CONTROL", type := .byte, accessFlags := 25, slot := 20, constantValue := 0 }, { name := "FORMAT", type := .byte, accessFlags := 25, slot := 21, constantValue := 0 }, { name := "PRIVATE_USE", type := .byte, accessFlags := 25, slot := 22, constantValue := 0 }, { name := "SURROGATE", type := .byte, accessFlags := 25, slot := 23, constantValue := 0 }, { name := "DASH_PUNCTUATION", type := .byte, accessFlags := 25, slot := 24, constantValue := 0 }, { name := "START_PUNCTUATION", type := .byte, accessFlags := 25, slot := 25, constantValue := 0 }, { name := "END_PUNCTUATION", type := .byte, accessFlags := 25, slot := 26, constantValue := 0 }, { name := "CONNECTOR_PUNCTUATION", type := .byte, accessFlags := 25, slot := 27, constantValue := 0 }, { name := "OTHER_PUNCTUATION", type := .byte, accessFlags := 25, slot := 28, constantValue := 0 }, { name := "MATH_SYMBOL", type := .byte, accessFlags := 25, slot := 29, constantValue := 0 }, { name := "CURRENCY_SYMBOL", type := .byte, accessFlags := 25, slot := 30, constantValue := 0 }, { name := "MODIFIER_SYMBOL", type := .byte, accessFlags := 25, slot := 31, constantValue := 0 }, { name := "OTHER_SYMBOL", type := .byte, accessFlags := 25, slot := 32, constantValue := 0 }, { name := "INITIAL_QUOTE_PUNCTUATION", type := .byte, accessFlags := 25, slot := 33, constantValue := 0 }, { name := "FINAL_QUOTE_PUNCTUATION", type := .byte, accessFlags := 25, slot := 34, constantValue := 0 }, { name := "ERROR", type := .int, accessFlags := 24, slot := 35, constantValue := 0 }, { name := "DIRECTIONALITY_UNDEFINED", type := .byte, accessFlags := 25, slot := 36, constantValue := 0 }, { name := "DIRECTIONALITY_LEFT_TO_RIGHT", type := .byte, accessFlags := 25, slot := 37, constantValue := 0 }, { name := "DIRECTIONALITY_RIGHT_TO_LEFT", type := .byte, accessFlags := 25, slot := 38, constantValue := 0 }, { name := "DIRECTIONALITY_RIGHT_TO_LEFT_ARABIC", type := .byte, accessFlags := 25, slot := 39, constantValue := 0 }, { name := "DIRECTIONALITY_EUROPEAN_NUMBER", type := .byte, accessFlags := 25, slot := 40, constantValue := 0 }, { name := "DIRECTIONALITY_EUROPEAN_NUMBER_SEPARATOR", type := .byte, accessFlags := 25, slot := 41, constantValue := 0 }, { name := "DIRECTIONALITY_EUROPEAN_NUMBER_TERMINATOR", type := .byte, accessFlags := 25, slot := 42, constantValue := 0 }, { name := "DIRECTIONALITY_ARABIC_NUMBER", type := .byte, accessFlags := 25, slot := 43, constantValue := 0 }, { name := "DIRECTIONALITY_COMMON_NUMBER_SEPARATOR", type := .byte, accessFlags := 25, slot := 44, constantValue := 0 }, { name := "DIRECTIONALITY_NONSPACING_MARK", type := .byte, accessFlags := 25, slot := 45, constantValue := 0 }, { name := "DIRECTIONALITY_BOUNDARY_NEUTRAL", type := .byte, accessFlags := 25, slot := 46, constantValue := 0 }, { name := "DIRECTIONALITY_PARAGRAPH_SEPARATOR", type := .byte, accessFlags := 25, slot := 47, constantValue := 0 }, { name := "DIRECTIONALITY_SEGMENT_SEPARATOR", type := .byte, accessFlags := 25, slot := 48, constantValue := 0 }, { name := "DIRECTIONALITY_WHITESPACE", type := .byte, accessFlags := 25, slot := 49, constantValue := 0 }, { name := "DIRECTIONALITY_OTHER_NEUTRALS", type := .byte, accessFlags := 25, slot := 50, constantValue := 0 }, { name := "DIRECTIONALITY_LEFT_TO_RIGHT_EMBEDDING", type := .byte, accessFlags := 25, slot := 51, constantValue := 0 }, { name := "DIRECTIONALITY_LEFT_TO_RIGHT_OVERRIDE", type := .byte, accessFlags := 25, slot := 52, constantValue := 0 }, { name := "DIRECTIONALITY_RIGHT_TO_LEFT_EMBEDDING", type := .byte, accessFlags := 25, slot := 53, constantValue := 0 }, { name := "DIRECTIONALITY_RIGHT_TO_LEFT_OVERRIDE", type := .byte, accessFlags := 25, slot := 54, constantValue := 0 }, { name := "DIRECTIONALITY_POP_DIRECTIONAL_FORMAT", type := .byte, accessFlags := 25, slot := 55, constantValue := 0 }, { name := "DIRECTIONALITY_LEFT_TO_RIGHT_ISOLATE", type := .byte, accessFlags := 25, slot := 56, constantValue := 0 }, { name := "DIRECTIONALITY_RIGHT_TO_LEFT_ISOLATE", type := .byte, accessFlags := 25, slot := 57, constantValue := 0 }, { name := "DIRECTIONALITY_FIRST_STRONG_ISOLATE", type := .byte, accessFlags := 25, slot := 58, constantValue := 0 }, { name := "DIRECTIONALITY_POP_DIRECTIONAL_ISOLATE", type := .byte, accessFlags := 25, slot := 59, constantValue := 0 }, { name := "MIN_HIGH_SURROGATE", type := .char, accessFlags := 25, slot := 60, constantValue := 0 }, { name := "MAX_HIGH_SURROGATE", type := .char, accessFlags := 25, slot := 61, constantValue := 0 }, { name := "MIN_LOW_SURROGATE", type := .char, accessFlags := 25, slot := 62, constantValue := 0 }, { name := "MAX_LOW_SURROGATE", type := .char, accessFlags := 25, slot := 63, constantValue := 0 }, { name := "MIN_SURROGATE", type := .char, accessFlags := 25, slot := 64, constantValue := 0 }, { name := "MAX_SURROGATE", type := .char, accessFlags := 25, slot := 65, constantValue := 0 }, { name := "MIN_SUPPLEMENTARY_CODE_POINT", type := .int, accessFlags := 25, slot := 66, constantValue := 0 }, { name := "MIN_CODE_POINT", type := .int, accessFlags := 25, slot := 67, constantValue := 0 }, { name := "MAX_CODE_POINT", type := .int, accessFlags := 25, slot := 68, constantValue := 0 }, { name := "value", type := .char, accessFlags := 18, slot := 0, constantValue := 0 }, { name := "serialVersionUID", type := .long, accessFlags := 26, slot := 69, constantValue := 0 }, { name := "SIZE", type := .int, accessFlags := 25, slot := 70, constantValue := 0 }, { name := "BYTES", type := .int, accessFlags := 25, slot := 71, constantValue := 0 }, { name := "$assertionsDisabled", type := .boolean, accessFlags := 4120, slot := 72, constantValue := 0 }]
  methods := #[k13m0]
  instanceTypes := #[.char]
  staticTypes := #[.int, .int, .char, .char, (.object "java/lang/Class"), .byte, .byte, .byte, .byte, .byte, .byte, .byte, .byte, .byte, .byte, .byte, .byte, .byte, .byte, .byte, .byte, .byte, .byte, .byte, .byte, .byte, .byte, .byte, .byte, .byte, .byte, .byte, .byte, .byte, .byte, .int, .byte, .byte, .byte, .byte, .byte, .byte, .byte, .byte, .byte, .byte, .byte, .byte, .byte, .byte, .byte, .byte, .byte, .byte, .byte, .byte, .byte, .byte, .byte, .byte, .char, .char, .char, .char, .char, .char, .int, .int, .int, .long, .int, .int, .boolean]
  resolved := Array.replicate 604 none
  statics := none }

def pool14 : Array CpInfo := pool [(9, u "<init>"), (6, .class_ 18), (1, u "java/lang/Object"), (0, u "()V"), (1, .class_ 23), (1, u "jdk/internal/util/ArraysSupport"), (0, u "LOG2_ARRAY_LONG_INDEX_SCALE"), (0, u "I"), (2, u "U"), (0, u "Ljdk/internal/misc/Unsafe;"), (8, u "BIG_ENDIAN"), (0, u "Z"), (8, u "LOG2_BYTE_BIT_SIZE"), (4, u "LOG2_ARRAY_INT_INDEX_SCALE"), (54, u "JLA"), (0, u "Ljdk/internal/access/JavaLangAccess;"), (11, u "LOG2_ARRAY_BOOLEAN_INDEX_SCALE"), (9, u "LOG2_ARRAY_BYTE_INDEX_SCALE"), (5, u "LOG2_ARRAY_CHAR_INDEX_SCALE"), (5, u "LOG2_ARRAY_SHORT_INDEX_SCALE"), (18, u "LOG2_ARRAY_FLOAT_INDEX_SCALE"), (24, u "LOG2_ARRAY_DOUBLE_INDEX_SCALE"), (89, u "T_BOOLEAN"), (2, u "T_CHAR"), (1, u "T_FLOAT"), (1, u "T_DOUBLE"), (1, u "T_BYTE"), (1, u "T_SHORT"), (1, u "T_INT"), (1, u "T_LONG"), (1, u "SOFT_MAX_ARRAY_LENGTH")] 83

def k14m0 : Method := { name := "<init>", desc := "()V", sig := { parameters := [], returnType := none }, accessFlags := 2, code := none }
/-- jdk/internal/util/ArraysSupport -/
def k14 : Class := { plain "jdk/internal/util/ArraysSupport" (some 0) with
  accessFlags := 33
  interfaces := #[]
  cf := some (fileOf pool14 21 #[] #[{ accessFlags := 2, nameIndex := 9, descriptorIndex := 19, attributes := #[] }] 33 16 #[] #[{ accessFlags := 24, nameIndex := 28, descriptorIndex := 29, attributes := #[] }, { accessFlags := 26, nameIndex := 38, descriptorIndex := 39, attributes := #[] }, { accessFlags := 25, nameIndex := 121, descriptorIndex := 25, attributes := #[] }, { accessFlags := 25, nameIndex := 131, descriptorIndex := 25, attributes := #[] }, { accessFlags := 25, nameIndex := 137, descriptorIndex := 25, attributes := #[] }, { accessFlags := 25, nameIndex := 143, descriptorIndex := 25, attributes := #[] }, { accessFlags := 25, nameIndex := 53, descriptorIndex := 25, attributes := #[] }, { accessFlags := 25, nameIndex := 24, descriptorIndex := 25, attributes := #[] }, { accessFlags := 25, nameIndex := 162, descriptorIndex := 25, attributes := #[] }, { accessFlags := 25, nameIndex := 187, descriptorIndex := 25, attributes := #[] }, { accessFlags := 26, nameIndex := 48, descriptorIndex := 25, attributes := #[] }, { accessFlags := 25, nameIndex := 277, descriptorIndex := 25, attributes := #[] }, { accessFlags := 25, nameIndex := 280, descriptorIndex := 25, attributes := #[] }, { accessFlags := 25, nameIndex := 282, descriptorIndex := 25, attributes := #[] }, { accessFlags := 25, nameIndex := 284, descriptorIndex := 25, attributes := #[] }, { accessFlags := 25, nameIndex := 286, descriptorIndex := 25, attributes := #[] }, { accessFlags := 25, nameIndex := 288, descriptorIndex := 25, attributes := #[] }, { accessFlags := 25, nameIndex := 290, descriptorIndex := 25, attributes := #[] }, { accessFlags := 25, nameIndex := 292, descriptorIndex := 25, attributes := #[] }, { accessFlags := 26, nameIndex := 108, descriptorIndex := 109, attributes := #[] }, { accessFlags := 25, nameIndex := 294, descriptorIndex := 25, attributes := #[] }])
  fields := #[{ name := "U", type := (.object "jdk/internal/misc/Unsafe"), accessFlags := 24, slot := 0, constantValue := 0 }, { name := "BIG_ENDIAN", type := .boolean, accessFlags := 26, slot := 1, constantValue := 0 }, { name := "LOG2_ARRAY_BOOLEAN_INDEX_SCALE", type := .int, accessFlags := 25, slot := 2, constantValue := 0 }, { name := "LOG2_ARRAY_BYTE_INDEX_SCALE", type := .int, accessFlags := 25, slot := 3, constantValue := 0 }, { name := "LOG2_ARRAY_CHAR_INDEX_SCALE", type := .int, accessFlags := 25, slot := 4, constantValue := 0 }, { name := "LOG2_ARRAY_SHORT_INDEX_SCALE", type := .int, accessFlags := 25, slot := 5, constantValue := 0 }, { name := "LOG2_ARRAY_INT_INDEX_SCALE", type := .int, accessFlags := 25, slot := 6, constantValue := 0 }, { name := "LOG2_ARRAY_LONG_INDEX_SCALE", type := .int, accessFlags := 25, slot := 7, constantValue := 0 }, { name := "LOG2_ARRAY_FLOAT_INDEX_SCALE", type := .int, accessFlags := 25, slot := 8, constantValue := 0 }, { name := "LOG2_ARRAY_DOUBLE_INDEX_SCALE", type := .int, accessFlags := 25, slot := 9, constantValue := 0 }, { name := "LOG2_BYTE_BIT_SIZE", type := .int, accessFlags := 26, slot := 10, constantValue := 0 }, { name := "T_BOOLEAN", type := .int, accessFlags := 25, slot := 11, constantValue := 0 }, { name := "T_CHAR", type := .int, accessFlags := 25, slot := 12, constantValue := 0 }, { name := "T_FLOAT", type := .int, accessFlags := 25, slot := 13, constantValue := 0 }, { name := "T_DOUBLE", type := .int, accessFlags := 25, slot := 14, constantValue := 0 }, { name := "T_BYTE", type := .int, accessFlags := 25, slot := 15, constantValue := 0 }, { name := "T_SHORT", type := .int, accessFlags := 25, slot := 16, constantValue := 0 }, { name := "T_INT", type := .int, accessFlags := 25, slot := 17, constantValue := 0 }, { name := "T_LONG", type := .int, accessFlags := 25, slot := 18, constantValue := 0 }, { name := "JLA", type := (.object "jdk/internal/access/JavaLangAccess"), accessFlags := 26, slot := 19, constantValue := 0 }, { name := "SOFT_MAX_ARRAY_LENGTH", type := .int, accessFlags := 25, slot := 20, constantValue := 0 }]
  methods := #[k14m0]
  instanceTypes := #[]
  staticTypes := #[(.object "jdk/internal/misc/Unsafe"), .boolean, .int, .int, .int, .int, .int, .int, .int, .int, .int, .int, .int, .int, .int, .int, .int, .int, .int, (.object "jdk/internal/access/JavaLangAccess"), .int]
  resolved := Array.replicate 378 none
  statics := none }

def pool15 : Array CpInfo := pool [(1, u "java/lang/Cloneable"), (0, .class_ 1), (0, u "java/lang/Object"), (0, .class_ 3)] 3

/-- java/lang/Cloneable -/
def k15 : Class := { plain "java/lang/Cloneable" (some 0) with
  accessFlags := 1537
  interfaces := #[]
  cf := some (fileOf pool15 2 #[] #[] 1537 4 #[] #[])
  fields := #[]
  methods := #[]
  instanceTypes := #[]
  staticTypes := #[]
  resolved := Array.replicate 8 none
  statics := none }

/-- the primitive byte -/
def k16 : Class := { plain "byte" none with kind := .primitive 'B', accessFlags := 0x411 }
/-- [B -/
def k17 : Class := { plain "[B" (some 0) with kind := .array 16 .byte, interfaces := #[15, 2], accessFlags := 1041 }

/-- the primitive char -/
def k18 : Class := { plain "char" none with kind := .primitive 'C', accessFlags := 0x411 }
/-- [C -/
def k19 : Class := { plain "[C" (some 0) with kind := .array 18 .char, interfaces := #[15, 2], accessFlags := 1041 }

/-- the primitive int -/
def k20 : Class := { plain "int" none with kind := .primitive 'I', accessFlags := 0x411 }
/-- [I -/
def k21 : Class := { plain "[I" (some 0) with kind := .array 20 .int, interfaces := #[15, 2], accessFlags := 1041 }

def heap : Heap := #[{ cls := 7, slots := #[.long 0, .int 1, .null, .int 0, .null, .int 0, .int 0], vm := .statics 7 },
  { cls := 12, slots := #[.null, .null, .null], vm := .statics 12 }]
def classes : Array Class := #[k0, k1, k2, k3, k4, k5, k6, k7, k8, k9, k10, k11, k12, k13, k14, k15, k16, k17, k18, k19, k20, k21]
def interned : List (Array UInt16 × Addr) := []
def slotsUsed : Nat := 10
def theMethod : MethodId := ⟨1, 2⟩
def args0 : Array Value := #[.int 4, .int 7, .int 8, .int 9, .int 0]
def aboutOver (below : List Frame) : State where
  vm := { classes := classes, interned := interned.toArray }
  heap := heap
  slotsUsed := slotsUsed
  threads := #[{ frames := .invoking theMethod args0 :: below }]
def below0 : List Frame := [.native { method := ⟨0, 0⟩, args := #[] }]
def about1 : State := aboutOver below0
def p0 : Program := .bare "" "" ""
def e0 : Env := launch0.env 0 0 0
theorem w_frames : about1.frames = Frame.invoking theMethod args0 :: below0 := rfl
set_option maxRecDepth 65536 in
theorem w_args : argsFit about1.vm theMethod args0 = true := by decide +kernel
set_option maxRecDepth 65536 in
theorem w_heap : heapFits about1 = true := by decide +kernel
set_option maxRecDepth 65536 in
theorem w_runnable : about1.curStatus? = some .runnable := by decide +kernel
set_option maxRecDepth 65536 in
theorem w_alone : about1.alone = true := by decide +kernel
set_option maxRecDepth 65536 in
theorem w_named : about1.methodNamed? x = some theMethod := by decide +kernel
set_option maxRecDepth 65536 in
theorem w_hears : about1.hears theMethod below0 = true := by decide +kernel
set_option maxRecDepth 65536 in
theorem w_ripe : about1.ripe theMethod args0 below0 = true := by decide +kernel
theorem w_running : about1.status = .running := rfl
set_option maxRecDepth 65536 in
theorem w_room : about1.hasRoom e0.platform room_1 = true :=
  launch0.hasRoom_least _ room_1 (by decide +kernel) (by decide +kernel) (by decide +kernel) (by decide +kernel) (by decide +kernel) (by decide +kernel)
theorem allAtoms_all (ts : List Jvm.Cond) (a : Array Jvm.Value) (st : Jvm.State) : (allAtoms ts).before a st = ts.all (fun c => c.before a st) := by
  induction ts with
  | nil => rfl
  | cons c t ih =>
    show (Jvm.Cond.and c (allAtoms t)).before a st = _
    rw [Jvm.Cond.before_and, ih, List.all_cons]
def words1 : List Jvm.Cond := Jvm.Cond.code x code maxLocals ret :: tables_1
/-- a 'code' word, met by the world's own term for the bytes: nothing is compared byte by byte -/
theorem code_word {y : MethodName} {bytes : ByteArray} {mx : Nat} {rt : Option FieldType} {a : Array Value} {s : State} {m : MethodId} {meth : Method} {c : Code} (h1 : s.methodNamed? y = some m) (h2 : s.vm.method? m = some meth) (h3 : meth.code = some c) (h4 : c.code = bytes)
    (h5 : (c.maxLocals == mx && c.exceptionTable.isEmpty && decide (c.maxStack ≤ mostOperands) && decide (meth.sig.returnType = rt) && !meth.locks && decide (parseMethodDescriptor y.desc = some meth.sig)) = true) : (Jvm.Cond.code y bytes mx rt).before a s = true := by
  simp only [Bool.and_eq_true, beq_iff_eq, Bool.not_eq_true', decide_eq_true_eq] at h5
  obtain ⟨⟨⟨⟨⟨g1, g2⟩, g3⟩, g4⟩, g5⟩, g6⟩ := h5
  simp [Cond.before, Cond.holds, Cond.value, h1, h2, h3, h4, g1, g2, g3, g4, g5, g6]
def isCode : Jvm.Cond → Bool
  | .code _ _ _ _ => true
  | _ => false
theorem all_split {L : List Jvm.Cond} {P : Jvm.Cond → Bool} (h1 : L.all (fun c => isCode c || P c) = true) (h2 : ∀ c ∈ L.filter isCode, P c = true) : L.all P = true := by
  refine List.all_eq_true.mpr fun c hc => ?_
  have h := List.all_eq_true.mp h1 c hc
  rcases Bool.eq_false_or_eq_true (isCode c) with hi | hi
  · exact h2 c (List.mem_filter.mpr ⟨hc, hi⟩)
  · simpa [hi] using h
set_option maxRecDepth 65536 in
theorem w_c0 : (Jvm.Cond.code x code maxLocals ret).before args0 about1 = true := code_word (m := ⟨1, 2⟩) (meth := k1m2) (c := k1c2) (by decide +kernel) rfl rfl rfl (by decide +kernel)
set_option maxRecDepth 65536 in
theorem w_c1 : (Jvm.Cond.code ({ cls := "com/example/outbox/outbox/QueueNameOfPinLaw", name := "pick", desc := "(I)C" } : Jvm.MethodName) method_2_code (2 : Nat) (Option.some Jvm.ClassFile.FieldType.char)).before args0 about1 = true := code_word (m := ⟨1, 1⟩) (meth := k1m1) (c := k1c1) (by decide +kernel) rfl rfl rfl (by decide +kernel)
set_option maxRecDepth 65536 in
theorem w_c2 : (Jvm.Cond.code ({ cls := "java/lang/String", name := "<init>", desc := "([C)V" } : Jvm.MethodName) jdk_42_method_3_code (2 : Nat) (Option.none : Option Jvm.ClassFile.FieldType)).before args0 about1 = true := code_word (m := ⟨7, 1⟩) (meth := k7m1) (c := k7c1) (by decide +kernel) rfl rfl rfl (by decide +kernel)
set_option maxRecDepth 65536 in
theorem w_c3 : (Jvm.Cond.code ({ cls := "java/lang/String", name := "<init>", desc := "([CIILjava/lang/Void;)V" } : Jvm.MethodName) jdk_42_method_149_code (6 : Nat) (Option.none : Option Jvm.ClassFile.FieldType)).before args0 about1 = true := code_word (m := ⟨7, 6⟩) (meth := k7m6) (c := k7c6) (by decide +kernel) rfl rfl rfl (by decide +kernel)
set_option maxRecDepth 65536 in
theorem w_c4 : (Jvm.Cond.code ({ cls := "java/lang/Object", name := "<init>", desc := "()V" } : Jvm.MethodName) object_method_1_code (1 : Nat) (Option.none : Option Jvm.ClassFile.FieldType)).before args0 about1 = true := code_word (m := ⟨0, 0⟩) (meth := k0m0) (c := k0c0) (by decide +kernel) rfl rfl rfl (by decide +kernel)
set_option maxRecDepth 65536 in
theorem w_c5 : (Jvm.Cond.code ({ cls := "java/lang/StringUTF16", name := "compress", desc := "([CII)[B" } : Jvm.MethodName) jdk_52_method_16_code (6 : Nat) (Option.some (Jvm.ClassFile.FieldType.array Jvm.ClassFile.FieldType.byte))).before args0 about1 = true := code_word (m := ⟨8, 2⟩) (meth := k8m2) (c := k8c2) (by decide +kernel) rfl rfl rfl (by decide +kernel)
set_option maxRecDepth 65536 in
theorem w_c6 : (Jvm.Cond.code ({ cls := "java/lang/StringUTF16", name := "compress", desc := "([CI[BII)I" } : Jvm.MethodName) jdk_52_method_21_code (7 : Nat) (Option.some Jvm.ClassFile.FieldType.int)).before args0 about1 = true := code_word (m := ⟨8, 3⟩) (meth := k8m3) (c := k8c3) (by decide +kernel) rfl rfl rfl (by decide +kernel)
set_option maxRecDepth 65536 in
theorem w_c7 : (Jvm.Cond.code ({ cls := "java/lang/StringUTF16", name := "coderFromArrayLen", desc := "([BI)B" } : Jvm.MethodName) jdk_52_method_15_code (2 : Nat) (Option.some Jvm.ClassFile.FieldType.byte)).before args0 about1 = true := code_word (m := ⟨8, 1⟩) (meth := k8m1) (c := k8c1) (by decide +kernel) rfl rfl rfl (by decide +kernel)
set_option maxRecDepth 65536 in
theorem w_c8 : (Jvm.Cond.code ({ cls := "java/lang/String", name := "equals", desc := "(Ljava/lang/Object;)Z" } : Jvm.MethodName) jdk_42_method_66_code (3 : Nat) (Option.some Jvm.ClassFile.FieldType.boolean)).before args0 about1 = true := code_word (m := ⟨7, 5⟩) (meth := k7m5) (c := k7c5) (by decide +kernel) rfl rfl rfl (by decide +kernel)
set_option maxRecDepth 65536 in
theorem w_c9 : (Jvm.Cond.code ({ cls := "java/lang/StringLatin1", name := "equals", desc := "([B[B)Z" } : Jvm.MethodName) jdk_43_method_13_code (3 : Nat) (Option.some Jvm.ClassFile.FieldType.boolean)).before args0 about1 = true := code_word (m := ⟨9, 1⟩) (meth := k9m1) (c := k9c1) (by decide +kernel) rfl rfl rfl (by decide +kernel)
set_option maxRecDepth 65536 in
theorem w_c10 : (Jvm.Cond.code ({ cls := "com/example/outbox/outbox/QueueName", name := "of", desc := "(Ljava/lang/String;)Lcom/example/outbox/outbox/QueueName;" } : Jvm.MethodName) prog_6_method_2_code (4 : Nat) (Option.some (Jvm.ClassFile.FieldType.object "com/example/outbox/outbox/QueueName"))).before args0 about1 = true := code_word (m := ⟨10, 1⟩) (meth := k10m1) (c := k10c1) (by decide +kernel) rfl rfl rfl (by decide +kernel)
set_option maxRecDepth 65536 in
theorem w_c11 : (Jvm.Cond.code ({ cls := "java/util/Objects", name := "requireNonNull", desc := "(Ljava/lang/Object;Ljava/lang/String;)Ljava/lang/Object;" } : Jvm.MethodName) jdk_31_method_11_code (2 : Nat) (Option.some (Jvm.ClassFile.FieldType.object "java/lang/Object"))).before args0 about1 = true := code_word (m := ⟨11, 1⟩) (meth := k11m1) (c := k11c1) (by decide +kernel) rfl rfl rfl (by decide +kernel)
set_option maxRecDepth 65536 in
theorem w_c12 : (Jvm.Cond.code ({ cls := "java/lang/String", name := "isEmpty", desc := "()Z" } : Jvm.MethodName) jdk_42_method_55_code (1 : Nat) (Option.some Jvm.ClassFile.FieldType.boolean)).before args0 about1 = true := code_word (m := ⟨7, 3⟩) (meth := k7m3) (c := k7c3) (by decide +kernel) rfl rfl rfl (by decide +kernel)
set_option maxRecDepth 65536 in
theorem w_c13 : (Jvm.Cond.code ({ cls := "java/lang/String", name := "length", desc := "()I" } : Jvm.MethodName) jdk_42_method_54_code (1 : Nat) (Option.some Jvm.ClassFile.FieldType.int)).before args0 about1 = true := code_word (m := ⟨7, 2⟩) (meth := k7m2) (c := k7c2) (by decide +kernel) rfl rfl rfl (by decide +kernel)
set_option maxRecDepth 65536 in
theorem w_c14 : (Jvm.Cond.code ({ cls := "java/lang/String", name := "coder", desc := "()B" } : Jvm.MethodName) jdk_42_method_152_code (1 : Nat) (Option.some Jvm.ClassFile.FieldType.byte)).before args0 about1 = true := code_word (m := ⟨7, 7⟩) (meth := k7m7) (c := k7c7) (by decide +kernel) rfl rfl rfl (by decide +kernel)
set_option maxRecDepth 65536 in
theorem w_c15 : (Jvm.Cond.code ({ cls := "java/lang/String", name := "codePointAt", desc := "(I)I" } : Jvm.MethodName) jdk_42_method_57_code (3 : Nat) (Option.some Jvm.ClassFile.FieldType.int)).before args0 about1 = true := code_word (m := ⟨7, 4⟩) (meth := k7m4) (c := k7c4) (by decide +kernel) rfl rfl rfl (by decide +kernel)
set_option maxRecDepth 65536 in
theorem w_c16 : (Jvm.Cond.code ({ cls := "java/lang/String", name := "isLatin1", desc := "()Z" } : Jvm.MethodName) jdk_42_method_154_code (1 : Nat) (Option.some Jvm.ClassFile.FieldType.boolean)).before args0 about1 = true := code_word (m := ⟨7, 8⟩) (meth := k7m8) (c := k7c8) (by decide +kernel) rfl rfl rfl (by decide +kernel)
set_option maxRecDepth 65536 in
theorem w_c17 : (Jvm.Cond.code ({ cls := "java/lang/String", name := "checkIndex", desc := "(II)V" } : Jvm.MethodName) jdk_42_method_155_code (2 : Nat) (Option.none : Option Jvm.ClassFile.FieldType)).before args0 about1 = true := code_word (m := ⟨7, 9⟩) (meth := k7m9) (c := k7c9) (by decide +kernel) rfl rfl rfl (by decide +kernel)
set_option maxRecDepth 65536 in
theorem w_c18 : (Jvm.Cond.code ({ cls := "jdk/internal/util/Preconditions", name := "checkIndex", desc := "(IILjava/util/function/BiFunction;)I" } : Jvm.MethodName) jdk_41_method_11_code (3 : Nat) (Option.some Jvm.ClassFile.FieldType.int)).before args0 about1 = true := code_word (m := ⟨12, 1⟩) (meth := k12m1) (c := k12c1) (by decide +kernel) rfl rfl rfl (by decide +kernel)
set_option maxRecDepth 65536 in
theorem w_c19 : (Jvm.Cond.code ({ cls := "com/example/outbox/outbox/QueueName", name := "isAllowed", desc := "(I)Z" } : Jvm.MethodName) prog_6_method_3_code (1 : Nat) (Option.some Jvm.ClassFile.FieldType.boolean)).before args0 about1 = true := code_word (m := ⟨10, 2⟩) (meth := k10m2) (c := k10c2) (by decide +kernel) rfl rfl rfl (by decide +kernel)
set_option maxRecDepth 65536 in
theorem w_c20 : (Jvm.Cond.code ({ cls := "java/lang/Character", name := "charCount", desc := "(I)I" } : Jvm.MethodName) jdk_89_method_18_code (1 : Nat) (Option.some Jvm.ClassFile.FieldType.int)).before args0 about1 = true := code_word (m := ⟨13, 0⟩) (meth := k13m0) (c := k13c0) (by decide +kernel) rfl rfl rfl (by decide +kernel)
set_option maxRecDepth 65536 in
theorem w_c21 : (Jvm.Cond.code ({ cls := "com/example/outbox/outbox/QueueName", name := "<init>", desc := "(Ljava/lang/String;)V" } : Jvm.MethodName) prog_6_method_1_code (2 : Nat) (Option.none : Option Jvm.ClassFile.FieldType)).before args0 about1 = true := code_word (m := ⟨10, 0⟩) (meth := k10m0) (c := k10c0) (by decide +kernel) rfl rfl rfl (by decide +kernel)
set_option maxRecDepth 65536 in
theorem w_c22 : (Jvm.Cond.code ({ cls := "com/example/outbox/outbox/QueueName", name := "value", desc := "()Ljava/lang/String;" } : Jvm.MethodName) prog_6_method_4_code (1 : Nat) (Option.some (Jvm.ClassFile.FieldType.object "java/lang/String"))).before args0 about1 = true := code_word (m := ⟨10, 3⟩) (meth := k10m3) (c := k10c3) (by decide +kernel) rfl rfl rfl (by decide +kernel)
def codes1 : List Jvm.Cond := [Jvm.Cond.code x code maxLocals ret, Jvm.Cond.code ({ cls := "com/example/outbox/outbox/QueueNameOfPinLaw", name := "pick", desc := "(I)C" } : Jvm.MethodName) method_2_code (2 : Nat) (Option.some Jvm.ClassFile.FieldType.char), Jvm.Cond.code ({ cls := "java/lang/String", name := "<init>", desc := "([C)V" } : Jvm.MethodName) jdk_42_method_3_code (2 : Nat) (Option.none : Option Jvm.ClassFile.FieldType), Jvm.Cond.code ({ cls := "java/lang/String", name := "<init>", desc := "([CIILjava/lang/Void;)V" } : Jvm.MethodName) jdk_42_method_149_code (6 : Nat) (Option.none : Option Jvm.ClassFile.FieldType), Jvm.Cond.code ({ cls := "java/lang/Object", name := "<init>", desc := "()V" } : Jvm.MethodName) object_method_1_code (1 : Nat) (Option.none : Option Jvm.ClassFile.FieldType), Jvm.Cond.code ({ cls := "java/lang/StringUTF16", name := "compress", desc := "([CII)[B" } : Jvm.MethodName) jdk_52_method_16_code (6 : Nat) (Option.some (Jvm.ClassFile.FieldType.array Jvm.ClassFile.FieldType.byte)), Jvm.Cond.code ({ cls := "java/lang/StringUTF16", name := "compress", desc := "([CI[BII)I" } : Jvm.MethodName) jdk_52_method_21_code (7 : Nat) (Option.some Jvm.ClassFile.FieldType.int), Jvm.Cond.code ({ cls := "java/lang/StringUTF16", name := "coderFromArrayLen", desc := "([BI)B" } : Jvm.MethodName) jdk_52_method_15_code (2 : Nat) (Option.some Jvm.ClassFile.FieldType.byte), Jvm.Cond.code ({ cls := "java/lang/String", name := "equals", desc := "(Ljava/lang/Object;)Z" } : Jvm.MethodName) jdk_42_method_66_code (3 : Nat) (Option.some Jvm.ClassFile.FieldType.boolean), Jvm.Cond.code ({ cls := "java/lang/StringLatin1", name := "equals", desc := "([B[B)Z" } : Jvm.MethodName) jdk_43_method_13_code (3 : Nat) (Option.some Jvm.ClassFile.FieldType.boolean), Jvm.Cond.code ({ cls := "com/example/outbox/outbox/QueueName", name := "of", desc := "(Ljava/lang/String;)Lcom/example/outbox/outbox/QueueName;" } : Jvm.MethodName) prog_6_method_2_code (4 : Nat) (Option.some (Jvm.ClassFile.FieldType.object "com/example/outbox/outbox/QueueName")), Jvm.Cond.code ({ cls := "java/util/Objects", name := "requireNonNull", desc := "(Ljava/lang/Object;Ljava/lang/String;)Ljava/lang/Object;" } : Jvm.MethodName) jdk_31_method_11_code (2 : Nat) (Option.some (Jvm.ClassFile.FieldType.object "java/lang/Object")), Jvm.Cond.code ({ cls := "java/lang/String", name := "isEmpty", desc := "()Z" } : Jvm.MethodName) jdk_42_method_55_code (1 : Nat) (Option.some Jvm.ClassFile.FieldType.boolean), Jvm.Cond.code ({ cls := "java/lang/String", name := "length", desc := "()I" } : Jvm.MethodName) jdk_42_method_54_code (1 : Nat) (Option.some Jvm.ClassFile.FieldType.int), Jvm.Cond.code ({ cls := "java/lang/String", name := "coder", desc := "()B" } : Jvm.MethodName) jdk_42_method_152_code (1 : Nat) (Option.some Jvm.ClassFile.FieldType.byte), Jvm.Cond.code ({ cls := "java/lang/String", name := "codePointAt", desc := "(I)I" } : Jvm.MethodName) jdk_42_method_57_code (3 : Nat) (Option.some Jvm.ClassFile.FieldType.int), Jvm.Cond.code ({ cls := "java/lang/String", name := "isLatin1", desc := "()Z" } : Jvm.MethodName) jdk_42_method_154_code (1 : Nat) (Option.some Jvm.ClassFile.FieldType.boolean), Jvm.Cond.code ({ cls := "java/lang/String", name := "checkIndex", desc := "(II)V" } : Jvm.MethodName) jdk_42_method_155_code (2 : Nat) (Option.none : Option Jvm.ClassFile.FieldType), Jvm.Cond.code ({ cls := "jdk/internal/util/Preconditions", name := "checkIndex", desc := "(IILjava/util/function/BiFunction;)I" } : Jvm.MethodName) jdk_41_method_11_code (3 : Nat) (Option.some Jvm.ClassFile.FieldType.int), Jvm.Cond.code ({ cls := "com/example/outbox/outbox/QueueName", name := "isAllowed", desc := "(I)Z" } : Jvm.MethodName) prog_6_method_3_code (1 : Nat) (Option.some Jvm.ClassFile.FieldType.boolean), Jvm.Cond.code ({ cls := "java/lang/Character", name := "charCount", desc := "(I)I" } : Jvm.MethodName) jdk_89_method_18_code (1 : Nat) (Option.some Jvm.ClassFile.FieldType.int), Jvm.Cond.code ({ cls := "com/example/outbox/outbox/QueueName", name := "<init>", desc := "(Ljava/lang/String;)V" } : Jvm.MethodName) prog_6_method_1_code (2 : Nat) (Option.none : Option Jvm.ClassFile.FieldType), Jvm.Cond.code ({ cls := "com/example/outbox/outbox/QueueName", name := "value", desc := "()Ljava/lang/String;" } : Jvm.MethodName) prog_6_method_4_code (1 : Nat) (Option.some (Jvm.ClassFile.FieldType.object "java/lang/String"))]
set_option maxRecDepth 65536 in
theorem codes_eq : words1.filter isCode = codes1 := rfl
theorem w_codes : ∀ c ∈ words1.filter isCode, c.before args0 about1 = true := by
  rw [codes_eq]
  intro c hc
  simp only [codes1, List.mem_cons, List.not_mem_nil, or_false] at hc
  rcases hc with rfl | rfl | rfl | rfl | rfl | rfl | rfl | rfl | rfl | rfl | rfl | rfl | rfl | rfl | rfl | rfl | rfl | rfl | rfl | rfl | rfl | rfl | rfl
  · exact w_c0
  · exact w_c1
  · exact w_c2
  · exact w_c3
  · exact w_c4
  · exact w_c5
  · exact w_c6
  · exact w_c7
  · exact w_c8
  · exact w_c9
  · exact w_c10
  · exact w_c11
  · exact w_c12
  · exact w_c13
  · exact w_c14
  · exact w_c15
  · exact w_c16
  · exact w_c17
  · exact w_c18
  · exact w_c19
  · exact w_c20
  · exact w_c21
  · exact w_c22
set_option maxRecDepth 65536 in
theorem w_t1 : (words1.take 24).all (fun c => isCode c || c.before args0 about1) = true := by decide +kernel
set_option maxRecDepth 65536 in
theorem w_t2 : ((words1.drop 24).take 24).all (fun c => isCode c || c.before args0 about1) = true := by decide +kernel
set_option maxRecDepth 65536 in
theorem w_t3 : (((words1.drop 24).drop 24).take 24).all (fun c => isCode c || c.before args0 about1) = true := by decide +kernel
set_option maxRecDepth 65536 in
theorem w_t4 : ((((words1.drop 24).drop 24).drop 24).take 24).all (fun c => isCode c || c.before args0 about1) = true := by decide +kernel
set_option maxRecDepth 65536 in
theorem w_t5 : ((((words1.drop 24).drop 24).drop 24).drop 24).all (fun c => isCode c || c.before args0 about1) = true := by decide +kernel
theorem w_tables : (allAtoms (Jvm.Cond.code x code maxLocals ret :: tables_1)).before args0 about1 = true := by
  rw [allAtoms_all]
  show words1.all (fun c => c.before args0 about1) = true
  refine all_split ?_ w_codes
  rw [← List.take_append_drop 24 words1, List.all_append, w_t1, ← List.take_append_drop 24 (words1.drop 24), List.all_append, w_t2, ← List.take_append_drop 24 ((words1.drop 24).drop 24), List.all_append, w_t3, ← List.take_append_drop 24 (((words1.drop 24).drop 24).drop 24), List.all_append, w_t4, w_t5]
  rfl
set_option maxRecDepth 65536 in
theorem w_rest : rest_1_c.before args0 about1 = true := by decide +kernel
set_option maxRecDepth 65536 in
theorem w_case : (Jvm.Cond.and given_1 narrow_1).before args0 about1 = true := by decide +kernel
set_option maxRecDepth 65536 in
theorem w_consts : constsHeld consts_1 about1 := Jvm.Lit.constsHeldB_iff.mp (by decide +kernel)
theorem w_applies : (headSpec (Jvm.Cond.code x code maxLocals ret :: tables_1) room_1).applies x e0.platform about1 = true :=
  (Spec.applies_iff w_frames).mpr ⟨w_running, w_runnable, w_alone, w_named, w_hears, w_ripe, w_room, w_tables⟩
theorem atStart : AtStart classFile x code maxLocals ret World_1 tables_1 room_1 Calls_1 rest_1 Pre_1 launch0 p0 e0 about1 theMethod args0 below0 :=
  ⟨lists_1, trivial, launch0.admits_env _ _ _, launch0.least_env, fairChoices_fair.cas, fairChoices_fair.clock, w_frames, w_args, w_heap, w_applies, ⟨w_consts, trivial⟩, w_rest, w_case⟩
end start1
theorem witness_1 : WitnessClaimed_1 := ⟨start1.p0, start1.e0, start1.about1, start1.theMethod, start1.args0, start1.below0, start1.atStart⟩
end Jvm.Pilot.@@N@@
