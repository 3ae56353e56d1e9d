import JvmDerived
import JvmDerived.Pilot.@@N@@Statement
import JvmDerived.Pilot.@@N@@Code
set_option linter.unusedVariables false
set_option linter.unusedSimpArgs false
namespace Jvm.RoadKit
open Sem ClassFile Op Lib Jvm.Stand Jvm.Free Jvm.LawKit
section Own
variable {p : Program} {l : Launch} {e : Env} {R : Room} {s : State} {m : MethodId} {args : Array Value} {below : List Frame} {meth : Method} {c : Code} {T : State} {locs : List Loc} {cells slots : Nat}
theorem retI (X : Stand p l e R s m args below meth c T locs cells slots) (hx : p.tables.exec = Jvm.exec) {pc : Nat} {Ls : Array Slot} {z : Int32} {rest : List Value} (hret : meth.sig.returnType = some .int) (hd : decode c.code pc = .ok (.ireturn, 1)) {fs : List Frame}
    (hl : ∀ (f : JFrame) (acts : List Action), f.method = m → f.locked = none → f.entered = [] → (doReturn e (T.setTop f) acts (some (.int z))).1 = T.setFrames fs) : Steps p.tables e below (T.setTop (mkF m pc Ls (.int z :: rest))) (T.setFrames fs) := by
  have hm' : T.vm.method? m = some meth := X.method'
  have hn : narrow .int (.int z) = .int z := rfl
  show Steps p.tables e below (T.setTop { method := m, pc := pc, locals := Ls, stack := _ :: rest, locked := none }) _
  jvm_step X.here [X.here.top, hx, hd, hm', hret, hn]
  first | (intro acts; rw [hl _ acts rfl rfl rfl]) | rw [hl _ _ rfl rfl rfl]
  exact Steps.refl _
/-- the walk from S ends as K says -/
def Way (tb : Tables) (e : Env) (below : List Frame) (K : Outcome → State → Prop) (S : State) : Prop := ∃ s₂ o, Steps tb e below S s₂ ∧ s₂.status = .running ∧ Ended s₂ below o ∧ K o s₂
theorem Way.by {tb : Tables} {K : Outcome → State → Prop} {A B : State} (st : ∀ t, Steps tb e below B t → Steps tb e below A t) (h : Way tb e below K B) : Way tb e below K A := by
  obtain ⟨s₂, o, h1, h2⟩ := h; exact ⟨s₂, o, st _ h1, h2⟩
theorem Way.to {tb : Tables} {K : Outcome → State → Prop} {A B : State} (st : Steps tb e below A B) (h : Way tb e below K B) : Way tb e below K A := by
  obtain ⟨s₂, o, h1, h2⟩ := h; exact ⟨s₂, o, st.trans h1, h2⟩
abbrev KQ (s : State) (Q : Option Value → Heap → List Loc → Prop) (C S : Nat) : Outcome → State → Prop := fun o s₂ => ∃ v L, o = .returned v ∧ Q v s₂.heap L ∧ FrameEnd s o s₂ L C S
theorem Way.ret {Q : Option Value → Heap → List Loc → Prop} {C S : Nat} {A : State} {v : Option Value} (X : Stand p l e R s m args below meth c T locs cells slots) (hlk : meth.locks = false) (hv : meth.sig.returnType = none → v = none)
    (hret : ∀ fs, (∀ (f : JFrame) (acts : List Action), f.method = m → f.locked = none → f.entered = [] → (doReturn e (T.setTop f) acts v).1 = T.setFrames fs) → Steps p.tables e below A (T.setFrames fs))
    (hQ : Q v T.heap locs) (hc : cells ≤ C) (hs : slots ≤ S) : Way p.tables e below (KQ s Q C S) A := by
  obtain ⟨fs, hr, hrun, hended, hW, hsame⟩ := X.leave hv hlk
  exact ⟨_, _, hret fs hr, hrun, hended, _, _, rfl, hQ, ⟨_, rfl⟩, hW, hsame.mono hc hs⟩
abbrev KQW (s : State) (Q : Option Value → Heap → List Loc → Prop) (C S : Nat) : Outcome → State → Prop := fun o s₂ => ∃ v L, o = .returned v ∧ Q v s₂.heap L ∧ ReturnedEndW s o s₂ L C S
theorem Way.retW {Q : Option Value → Heap → List Loc → Prop} {C S : Nat} {A : State} {v : Option Value} {vm1 : Vm} {n : Nat} (X : Stand p l e R (s.setVm vm1) m args below meth c T locs cells slots) (hS : s.Since vm1 n) (hn : n ≤ T.heap.size) (hlk : meth.locks = false) (hv : meth.sig.returnType = none → v = none)
    (hret : ∀ fs, (∀ (f : JFrame) (acts : List Action), f.method = m → f.locked = none → f.entered = [] → (doReturn e (T.setTop f) acts v).1 = T.setFrames fs) → Steps p.tables e below A (T.setFrames fs))
    (hQ : Q v T.heap locs) (hc : cells ≤ C) (hs : slots ≤ S) : Way p.tables e below (KQW s Q C S) A := by
  obtain ⟨fs, hr, hrun, hended, h1, h2, h3, h4⟩ := X.leaveW hS hn hv hlk
  exact ⟨_, _, hret fs hr, hrun, hended, _, _, rfl, hQ, h1, h2, h3, h4.mono hc hs⟩
abbrev KQH (s Z : State) (EL : List (String × Nat)) (Q : Option Value → Heap → List Loc → Prop) (C S : Nat) : Outcome → State → Prop := fun o s₂ => ∃ v L, o = .returned v ∧ Q v s₂.heap L ∧ CHr Z EL s.vm s.heap s₂.vm s₂.heap ∧ ReturnedEndW s o s₂ L C S
theorem Way.retH {Z : State} {a0 : Array Value} {EL : List (String × Nat)} {Q : Option Value → Heap → List Loc → Prop} {C S : Nat} {A : State} {v : Option Value} {vm1 : Vm} {n : Nat} {h h0 : Heap} (X : Stand p l e R (s.setVm vm1) m args below meth c T locs cells slots) (hS : s.Since vm1 n) (hn : n ≤ T.heap.size) (hZ : Z.Warmed39 vm1) (hEL : EW Z a0 EL) (hh : s.heap = h0) (eT : T.heap = h) (H : CHv Z EL vm1 h) (CH : CHr Z EL s.vm h0 vm1 h) (hlk : meth.locks = false) (hv : meth.sig.returnType = none → v = none)
    (hret : ∀ fs, (∀ (f : JFrame) (acts : List Action), f.method = m → f.locked = none → f.entered = [] → (doReturn e (T.setTop f) acts v).1 = T.setFrames fs) → Steps p.tables e below A (T.setFrames fs))
    (hQ : Q v T.heap locs) (hc : cells ≤ C) (hs : slots ≤ S) : Way p.tables e below (KQH s Z EL Q C S) A := by
  obtain ⟨fs, hr, hrun, hended, h1, h2, h3, h4⟩ := X.leaveW hS hn hv hlk
  refine ⟨_, _, hret fs hr, hrun, hended, _, _, rfl, hQ, ?_, h1, h2, h3, h4.mono hc hs⟩
  have B := CHv.at X hZ hEL H
  show CHr Z EL s.vm s.heap T.vm T.heap
  rw [hh, eT]; exact CH.trans B
theorem fldStart {Z : State} {args : Array Value} {t : Term} {a : Addr} {C n d : String} {k : Int32} (ev : t.eval args Z none [] Z = some (.ref a)) (h : (Cond.eq (.field t C n d) (.int k)).value args Z none Z [] = some true) : Fld Z Z.heap a C n d (.int k) := by
  refine Fld.start ?_
  have e1 : (Term.field t C n d).eval args Z none [] Z = Z.fieldOf? a C n d := fld_at ev
  simp only [Cond.value] at h
  rw [e1, show (Term.int k).eval args Z none [] Z = some (.int k) from rfl] at h
  cases hf : Z.fieldOf? a C n d with
  | none => simp [hf] at h
  | some w => cases w <;> simp [hf] at h ⊢; exact h
theorem envNe {Z : State} {args : Array Value} {t : Term} {v : Int32} (ev : t.eval args Z none [] Z = some (.int v)) (h : (Cond.not (.eq t (.int 0))).before args Z = true) : v ≠ 0 := by
  have h2 := Cond.before_iff.mp h
  intro q; subst q
  simp only [Cond.value] at h2
  rw [ev] at h2
  simp [Term.eval] at h2
theorem envRef {Z : State} {args : Array Value} {t : Term} (h : (Cond.isRef t).before args Z = true) : ∃ G, t.eval args Z none [] Z = some G ∧ G.isRef = true := by
  have h2 := Cond.before_iff.mp h
  cases ht : t.eval args Z none [] Z with
  | none => simp [Cond.value, ht] at h2
  | some w => exact ⟨w, rfl, by cases w <;> simp [Cond.value, ht] at h2 <;> rfl⟩
theorem own_getD {α : Type} {u : List α} {i : Nat} (d : α) (h : i < u.length) : u.getD i d = u[i] := by rw [List.getD_eq_getElem?_getD, List.getElem?_eq_getElem h]; rfl
theorem hpE {T : State} {h : Heap} {a : Addr} {c : Cell} (e : T.heap = h) (A : h[a]? = some c) : T.heap[a]? = some c := by rw [e]; exact A
theorem remB (x d : Int32) (D : Int) (hd : d.toInt = D) (h0 : 0 < D) : 0 ≤ ((x &&& 2147483647) % d).toInt ∧ ((x &&& 2147483647) % d).toInt < D := by
  have h1 := c_and x 2147483647 (by decide)
  rw [(c_irem (x &&& 2147483647) d D hd).1 h1.1]
  exact ⟨Int.emod_nonneg _ (by omega), Int.emod_lt_of_pos _ h0⟩
theorem cases3 {k : Int32} (h : 0 ≤ k.toInt ∧ k.toInt < 3) : k = 0 ∨ k = 1 ∨ k = 2 := by
  have q : k.toInt = 0 ∨ k.toInt = 1 ∨ k.toInt = 2 := by omega
  rcases q with q | q | q
  · exact Or.inl (Int32.toInt_inj.mp q)
  · exact Or.inr (Or.inl (Int32.toInt_inj.mp q))
  · exact Or.inr (Or.inr (Int32.toInt_inj.mp q))
theorem cases5 {k : Int32} (h : 0 ≤ k.toInt ∧ k.toInt < 5) : k = 0 ∨ k = 1 ∨ k = 2 ∨ k = 3 ∨ k = 4 := by
  have q : k.toInt = 0 ∨ k.toInt = 1 ∨ k.toInt = 2 ∨ k.toInt = 3 ∨ k.toInt = 4 := by omega
  rcases q with q | q | q | q | q
  · exact Or.inl (Int32.toInt_inj.mp q)
  · exact Or.inr (Or.inl (Int32.toInt_inj.mp q))
  · exact Or.inr (Or.inr (Or.inl (Int32.toInt_inj.mp q)))
  · exact Or.inr (Or.inr (Or.inr (Or.inl (Int32.toInt_inj.mp q))))
  · exact Or.inr (Or.inr (Or.inr (Or.inr (Int32.toInt_inj.mp q))))
theorem nfSel {s : State} {args : Array Value} {C : String} {y z : MethodName} (hyz : z.cls = y.cls) (hsel : (Cond.selects C z z).before args s = true) : NotFace s y := fun r0 h0 => by
  obtain ⟨c, r, m, -, -, hn, -, mk, hk, hni⟩ := Cond.selects_spec hsel
  have e1 := findClass_of_methodNamed h0
  have e2 := findClass_of_methodNamed hn
  rw [hyz, e1] at e2
  refine ⟨mk, ?_, hni⟩
  first | (rw [Option.some.inj e2]; exact hk) | (rw [← Option.some.inj e2]; exact hk)
theorem sameOwn {s : State} {args : Array Value} {C : String} {y z : MethodName} (hyz : z.cls = y.cls) (hsel : (Cond.selects C z z).before args s = true) (hinst : (Cond.instanceMethod y).before args s = true) (hy : y.cls ≠ "java/lang/invoke/MethodHandle" ∧ y.cls ≠ "java/lang/invoke/VarHandle") : (Cond.sameMethod y.cls y.cls y.name y.desc).before args s = true := by
  obtain ⟨mk, methM, hnamed, -⟩ := Cond.instanceMethod_spec hinst
  obtain ⟨kr, hk, hni⟩ := nfSel hyz hsel mk hnamed
  have hf := State.methodFound?_of_named hnamed hy
  have hc := findClass_of_methodNamed hnamed
  have hn2 : s.methodNamed? ⟨y.cls, y.name, y.desc⟩ = some mk := hnamed
  simp [Cond.before, Cond.holds, Cond.value, hc, hf, hn2, hk, hni]
theorem selPriv {s : State} {args : Array Value} {C : String} {y z : MethodName} (hyz : z.cls = y.cls) (hsel : (Cond.selects C z z).before args s = true) (hpriv : s.PrivateAt y) (hinst : (Cond.instanceMethod y).before args s = true) (hy : y.cls ≠ "java/lang/invoke/MethodHandle" ∧ y.cls ≠ "java/lang/invoke/VarHandle") : (Cond.selects y.cls y y).before args s = true := by
  obtain ⟨c, r, m, -, -, hn, -, mk, hk, hni⟩ := Cond.selects_spec hsel
  exact selects_self_of_private (by rw [← hyz]; exact findClass_of_methodNamed hn) hk hni hpriv hinst hy
theorem arrS {Z s : State} {h : Heap} {a : Addr} {cl : Cell} {ty : FieldType} (hZ : Z.Warmed39 s.vm) (A : Arr Z h a cl ty) : s.isArrayOf cl ty := State.isArrayOf_alike hZ.alike A.2.1
end Own
end Jvm.RoadKit
/- laws to paste: Road.backV, Road.lenW, Road.codOf, Road.wide_lo, Road.wide_hi, StrChars.lo8_inj, StrChars.shr0, StrChars.shr1, StrChars.pair_says (cut by pick.py; bodies as the Statement names them) -/
namespace Jvm.Pilot.@@N@@
namespace StrChars
open Jvm Sem ClassFile Op Lib Jvm.Stand Jvm.Free.XT Jvm.Free.ALB Jvm.Free.JM Jvm.Free
open Jvm.Lib.Cold (StaticIs)
/-- a char array whose places are chars -/
def Ch (a : Addr) (A : Cell) (U : State) : Prop := Arr .char a A U ∧ Typed .char A
theorem Ch.mv {a : Addr} {A : Cell} {U U' : State} (h : Ch a A U) (hal : U.vm.Alike U'.vm) (hh : U'.heap = U.heap) : Ch a A U' := ⟨h.1.mv hal hh, h.2⟩
theorem Ch.keep {a : Addr} {A : Cell} {U U' : State} (h : Ch a A U) (hal : U.vm.Alike U'.vm) (hk : U'.heap[a]? = some A) : Ch a A U' := ⟨h.1.keep hal hk, h.2⟩
/-- what place i of a char[]'s cell holds -/
def cv (A : Cell) (i : Nat) : Int32 := match A.slots[i]? with | some (.int x) => x | _ => 0
theorem Ch.get {a : Addr} {A : Cell} {U : State} (h : Ch a A U) {i : Nat} (hi : i < A.slots.size) : A.slots[i]? = some (.int (cv A i)) := by
  have e := Array.getElem?_eq_getElem hi
  have f := h.2 i _ e
  unfold cv; rw [e]
  generalize A.slots[i] = v at f
  cases v <;> simp [fits] at f ⊢
/-- the byte that i2b leaves of a char -/
def lo8 (x : Int32) : Int32 := x.toInt8.toInt32
theorem fits_lo8 (y : Int32) : fits .byte (.int (lo8 y)) = true := by
  have h1 := y.toInt8.le_toInt
  have h2 := y.toInt8.toInt_lt
  simp only [lo8, fits, Bool.and_eq_true, decide_eq_true_eq, Int32.le_iff_toInt_le, Int8.toInt_toInt32, show (-128 : Int32).toInt = -128 from by decide, show (127 : Int32).toInt = 127 from by decide]
  omega
/-- A' is A but that each place j of lo .. hi - 1 holds f j -/
def Laid (A A' : Cell) (lo hi : Nat) (f : Nat → Value) : Prop := A'.cls = A.cls ∧ A'.vm = A.vm ∧ A'.slots.size = A.slots.size ∧ ∀ i, A'.slots[i]? = if lo ≤ i ∧ i < hi then some (f i) else A.slots[i]?
theorem Laid.zero (A : Cell) (lo : Nat) (f : Nat → Value) : Laid A A lo (lo + 0) f := ⟨rfl, rfl, rfl, fun i => by rw [if_neg (by omega)]⟩
theorem Laid.step {A Ak : Cell} {lo k : Nat} {f : Nat → Value} {v : Value} (h : Laid A Ak lo k f) (hlo : lo ≤ k) (hk : k < Ak.slots.size) (hv : v = f k) : Laid A (Ak.setSlot k v) lo (k + 1) f := by
  refine ⟨h.1, h.2.1, by simpa [Cell.setSlot] using h.2.2.1, fun i => ?_⟩
  by_cases e : k = i
  · subst e; rw [Cell.slots_setSlot_self v hk, if_pos (by omega), hv]
  · rw [Cell.slots_setSlot_ne v e, h.2.2.2 i]
    by_cases q : lo ≤ i ∧ i < k
    · rw [if_pos q, if_pos (by omega)]
    · rw [if_neg q, if_neg (by omega)]
def U16 : String := "java/lang/StringUTF16"
namespace Cmp5
def yN : MethodName := ⟨"java/lang/StringUTF16", "compress", "([CI[BII)I"⟩
abbrev yB : ByteArray := jdk_52_method_21_code
theorem d0 : decode yB 0 = .ok (.iconst 0, 1) := by decide +kernel
theorem d1 : decode yB 1 = .ok (.istore 5, 2) := by decide +kernel
theorem d3 : decode yB 3 = .ok (.iload 5, 2) := by decide +kernel
theorem d5 : decode yB 5 = .ok (.iload 4, 2) := by decide +kernel
theorem d7 : decode yB 7 = .ok (.if_icmp (.ge) 37, 3) := by decide +kernel
theorem d10 : decode yB 10 = .ok (.aload_n 0, 1) := by decide +kernel
theorem d11 : decode yB 11 = .ok (.iload_n 1, 1) := by decide +kernel
theorem d12 : decode yB 12 = .ok (.caload, 1) := by decide +kernel
theorem d13 : decode yB 13 = .ok (.istore 6, 2) := by decide +kernel
theorem d15 : decode yB 15 = .ok (.iload 6, 2) := by decide +kernel
theorem d17 : decode yB 17 = .ok (.sipush 255, 3) := by decide +kernel
theorem d20 : decode yB 20 = .ok (.if_icmp (.le) 6, 3) := by decide +kernel
theorem d26 : decode yB 26 = .ok (.aload_n 2, 1) := by decide +kernel
theorem d27 : decode yB 27 = .ok (.iload_n 3, 1) := by decide +kernel
theorem d28 : decode yB 28 = .ok (.iload 6, 2) := by decide +kernel
theorem d30 : decode yB 30 = .ok (.i2b, 1) := by decide +kernel
theorem d31 : decode yB 31 = .ok (.bastore, 1) := by decide +kernel
theorem d32 : decode yB 32 = .ok (.iinc 1 1, 3) := by decide +kernel
theorem d35 : decode yB 35 = .ok (.iinc 3 1, 3) := by decide +kernel
theorem d38 : decode yB 38 = .ok (.iinc 5 1, 3) := by decide +kernel
theorem d41 : decode yB 41 = .ok (.goto (-38), 3) := by decide +kernel
theorem d44 : decode yB 44 = .ok (.iload 4, 2) := by decide +kernel
theorem d46 : decode yB 46 = .ok (.ireturn, 1) := by decide +kernel
def site : List Cond := []
def tab : Cond := tabOf yN yB 7 (some .int) site
def P (b : Addr) (A : Cell) (d : Addr) (B : Cell) (o q len : Nat) (args : Array Value) (s : State) : Prop := args = #[.ref b, .int (Int32.ofNat o), .ref d, .int (Int32.ofNat q), .int (Int32.ofNat len)] ∧ Ch b A s ∧ Arr .byte d B s ∧ b ≠ d ∧ o + len ≤ A.slots.size ∧ q + len ≤ B.slots.size ∧ ∀ i, i < len → ¬ 255 < cv A (o + i)
def E (b : Addr) (A : Cell) (d : Addr) (B : Cell) (o q len : Nat) (r : Option Value) (s u : State) : Prop := r = some (.int (Int32.ofNat len)) ∧ ∃ B', Put d B' s u ∧ Laid B B' q (q + len) (fun j => Value.int (lo8 (cv A (o + (j - q)))))
/-- no char of the range above 255: len; the places written hold each char's low byte -/
theorem law (l : Launch) (b : Addr) (A : Cell) (d : Addr) (B : Cell) (o q len : Nat) : Law l yN 5 5 0 0 yB 7 (some .int) site (P b A d B o q len) (E b A d B o q len) (copyLocs d q len) 0 0 := by
  refine Law.of_walk (plainFor_of_name (by decide +kernel)) (by decide +kernel) (by decide +kernel) (by decide) (fun _ _ h => by rw [h.1]; rfl) (fun _ U U' hal hh h => ⟨h.1, h.2.1.mv hal hh, h.2.2.1.mv hal hh, h.2.2.2⟩) (fun r U U' V V' h1 hal h2 h => ⟨h.1, h.2.elim fun B' q => ⟨B', q.1.mv h1 h2, q.2⟩⟩) ?_
  intro p e s m args below meth c s₁ X0 hexec hbytes hml hret hlk hnm hown hh0 W hP
  obtain ⟨rfl, hA, hB, hne, l1, l2, hp⟩ := hP
  have c1 : Steps p.tables e below (s₁.setTop (entryFrame m #[.ref b, .int (Int32.ofNat o), .ref d, .int (Int32.ofNat q), .int (Int32.ofNat len)] 7)) (s₁.setTop (mkF m 0 #[.val (.ref b), .val (.int (Int32.ofNat o)), .val (.ref d), .val (.int (Int32.ofNat q)), .val (.int (Int32.ofNat len)), .unset, .unset] [])) := entry rfl
  have hA0 := hA.1.mv X0.warmed.alike hh0
  have hB0 := hB.mv X0.warmed.alike hh0
  have a31 := hA.1.2.2.2
  have c2 : Steps p.tables e below (s₁.setTop (entryFrame m #[.ref b, .int (Int32.ofNat o), .ref d, .int (Int32.ofNat q), .int (Int32.ofNat len)] 7)) (s₁.setTop (mkF m 3 #[.val (.ref b), .val (.int (Int32.ofNat o)), .val (.ref d), .val (.int (Int32.ofNat q)), .val (.int (Int32.ofNat len)), .val (.int 0), .unset] [])) := c1.trans (by
    refine iconstV X0.here hexec rfl 0 (hb hbytes d0) (by decide) ?_
    refine XS.istore X0.here hexec rfl (hb hbytes d1) rfl rfl ?_
    exact Steps.refl _)
  have loop : ∀ (r i : Nat), i + r = len → ∀ (z : Slot), (z = .unset ∨ ∃ w, z = .val w ∧ w.category = 1) → ∀ (Tl : State) (Bk : Cell), Stand p l e { frames := 0, locals := 0, cells := 0, slots := 0 } s m #[.ref b, .int (Int32.ofNat o), .ref d, .int (Int32.ofNat q), .int (Int32.ofNat len)] below meth c Tl ([] ++ copyLocs d q i) 0 0 → Put d Bk s₁ Tl → Laid B Bk q (q + i) (fun j => Value.int (lo8 (cv A (o + (j - q))))) →
      Steps p.tables e below (s₁.setTop (entryFrame m #[.ref b, .int (Int32.ofNat o), .ref d, .int (Int32.ofNat q), .int (Int32.ofNat len)] 7)) (Tl.setTop (mkF m 3 #[.val (.ref b), .val (.int (Int32.ofNat (o + i))), .val (.ref d), .val (.int (Int32.ofNat (q + i))), .val (.int (Int32.ofNat len)), .val (.int (Int32.ofNat i)), z] [])) → ∃ (T' : State) (B' : Cell) (z' : Slot), Stand p l e { frames := 0, locals := 0, cells := 0, slots := 0 } s m #[.ref b, .int (Int32.ofNat o), .ref d, .int (Int32.ofNat q), .int (Int32.ofNat len)] below meth c T' ([] ++ copyLocs d q len) 0 0 ∧ Put d B' s₁ T' ∧ Laid B B' q (q + len) (fun j => Value.int (lo8 (cv A (o + (j - q))))) ∧
      Steps p.tables e below (s₁.setTop (entryFrame m #[.ref b, .int (Int32.ofNat o), .ref d, .int (Int32.ofNat q), .int (Int32.ofNat len)] 7)) (T'.setTop (mkF m 3 #[.val (.ref b), .val (.int (Int32.ofNat (o + len))), .val (.ref d), .val (.int (Int32.ofNat (q + len))), .val (.int (Int32.ofNat len)), .val (.int (Int32.ofNat len)), z'] [])) := by
    intro r
    induction r with
    | zero =>
      intro i hi z hz Tl Bk Xl pl fl cl
      have hil : i = len := by omega
      rw [hil] at Xl fl cl
      exact ⟨Tl, Bk, z, Xl, pl, fl, cl⟩
    | succ r ih =>
      intro i hi z hz Tl Bk Xl pl fl cl
      have all := X0.warmed.alike.symm.trans Xl.warmed.alike
      have hAl := hA0.keep all (pl.other hne hA0.1)
      have hBk := hB0.like all pl.1 fl.1 fl.2.1 fl.2.2.1
      have hlt : q + i < Bk.slots.size := by rw [fl.2.2.1]; omega
      have c3 : Steps p.tables e below (s₁.setTop (entryFrame m #[.ref b, .int (Int32.ofNat o), .ref d, .int (Int32.ofNat q), .int (Int32.ofNat len)] 7)) (Tl.setTop (mkF m 12 #[.val (.ref b), .val (.int (Int32.ofNat (o + i))), .val (.ref d), .val (.int (Int32.ofNat (q + i))), .val (.int (Int32.ofNat len)), .val (.int (Int32.ofNat i)), z] [.int (Int32.ofNat (o + i)), .ref b])) := cl.trans (by
        refine XS.iload Xl.here hexec rfl (hb hbytes d3) rfl ?_
        refine XS.iload Xl.here hexec rfl (hb hbytes d5) rfl ?_
        refine XS.icmpNo Xl.here hexec rfl (hb hbytes d7) rfl (ii_ge_f (lt32 (by omega) (by omega))) ?_
        refine XS.aloadN Xl.here hexec rfl (hb hbytes d10) rfl rfl ?_
        refine XS.iloadN Xl.here hexec rfl (hb hbytes d11) rfl ?_
        exact Steps.refl _)
      have c4 : Steps p.tables e below (s₁.setTop (entryFrame m #[.ref b, .int (Int32.ofNat o), .ref d, .int (Int32.ofNat q), .int (Int32.ofNat len)] 7)) (Tl.setTop (mkF m 13 #[.val (.ref b), .val (.int (Int32.ofNat (o + i))), .val (.ref d), .val (.int (Int32.ofNat (q + i))), .val (.int (Int32.ofNat len)), .val (.int (Int32.ofNat i)), z] [.int (cv A (o + i))])) := c3.trans (by
        refine Xl.aget hexec hAl rfl (hA.get (i := o + i) (by omega)) rfl rfl (hb hbytes d12) ?_
        exact Steps.refl _)
      have c5 : Steps p.tables e below (s₁.setTop (entryFrame m #[.ref b, .int (Int32.ofNat o), .ref d, .int (Int32.ofNat q), .int (Int32.ofNat len)] 7)) (Tl.setTop (mkF m 15 #[.val (.ref b), .val (.int (Int32.ofNat (o + i))), .val (.ref d), .val (.int (Int32.ofNat (q + i))), .val (.int (Int32.ofNat len)), .val (.int (Int32.ofNat i)), .val (.int (cv A (o + i)))] [])) := c4.trans (by
        refine XS.istoreS Xl.here hexec rfl (hb hbytes d13) rfl rfl hz ?_
        exact Steps.refl _)
      have c6 : Steps p.tables e below (s₁.setTop (entryFrame m #[.ref b, .int (Int32.ofNat o), .ref d, .int (Int32.ofNat q), .int (Int32.ofNat len)] 7)) (Tl.setTop (mkF m 31 #[.val (.ref b), .val (.int (Int32.ofNat (o + i))), .val (.ref d), .val (.int (Int32.ofNat (q + i))), .val (.int (Int32.ofNat len)), .val (.int (Int32.ofNat i)), .val (.int (cv A (o + i)))] [.int (lo8 (cv A (o + i))), .int (Int32.ofNat (q + i)), .ref d])) := c5.trans (by
        refine XS.iload Xl.here hexec rfl (hb hbytes d15) rfl ?_
        refine sipushV Xl.here hexec rfl 255 (hb hbytes d17) (by decide) ?_
        refine XS.icmpYes Xl.here hexec rfl (pc0 := 20) rfl (hb hbytes d20) rfl (ii_le_t (hp i (by omega))) (by decide) rfl ?_
        refine XS.aloadN Xl.here hexec rfl (hb hbytes d26) rfl rfl ?_
        refine XS.iloadN Xl.here hexec rfl (hb hbytes d27) rfl ?_
        refine XS.iload Xl.here hexec rfl (hb hbytes d28) rfl ?_
        refine i2b Xl.here hexec rfl (hb hbytes d30) rfl ?_
        exact Steps.refl _)
      obtain ⟨T7, X7, p7, st7⟩ := Xl.aput hexec hBk rfl hlt rfl (fits_lo8 (cv A (o + i))) (g := (mkF m 31 #[.val (.ref b), .val (.int (Int32.ofNat (o + i))), .val (.ref d), .val (.int (Int32.ofNat (q + i))), .val (.int (Int32.ofNat len)), .val (.int (Int32.ofNat i)), .val (.int (cv A (o + i)))] [.int (lo8 (cv A (o + i))), .int (Int32.ofNat (q + i)), .ref d])) rfl (rest := []) rfl (hb hbytes d31)
      have c8 : Steps p.tables e below (s₁.setTop (entryFrame m #[.ref b, .int (Int32.ofNat o), .ref d, .int (Int32.ofNat q), .int (Int32.ofNat len)] 7)) (T7.setTop (mkF m 32 #[.val (.ref b), .val (.int (Int32.ofNat (o + i))), .val (.ref d), .val (.int (Int32.ofNat (q + i))), .val (.int (Int32.ofNat len)), .val (.int (Int32.ofNat i)), .val (.int (cv A (o + i)))] [])) := c6.trans (st7 _ (Steps.refl _))
      have c9 : Steps p.tables e below (s₁.setTop (entryFrame m #[.ref b, .int (Int32.ofNat o), .ref d, .int (Int32.ofNat q), .int (Int32.ofNat len)] 7)) (T7.setTop (mkF m 3 #[.val (.ref b), .val (.int (Int32.ofNat (o + i) + 1)), .val (.ref d), .val (.int (Int32.ofNat (q + i) + 1)), .val (.int (Int32.ofNat len)), .val (.int (Int32.ofNat i + 1)), .val (.int (cv A (o + i)))] [])) := c8.trans (by
        refine iincV X7.here hexec rfl 1 (hb hbytes d32) (by decide) rfl rfl ?_
        refine iincV X7.here hexec rfl 1 (hb hbytes d35) (by decide) rfl rfl ?_
        refine iincV X7.here hexec rfl 1 (hb hbytes d38) (by decide) rfl rfl ?_
        refine XS.goto X7.here hexec rfl (pc0 := 41) rfl (hb hbytes d41) (by decide) rfl ?_
        exact Steps.refl _)
      have c10 : Steps p.tables e below (s₁.setTop (entryFrame m #[.ref b, .int (Int32.ofNat o), .ref d, .int (Int32.ofNat q), .int (Int32.ofNat len)] 7)) (T7.setTop (mkF m 3 #[.val (.ref b), .val (.int (Int32.ofNat (o + (i + 1)))), .val (.ref d), .val (.int (Int32.ofNat (q + (i + 1)))), .val (.int (Int32.ofNat len)), .val (.int (Int32.ofNat (i + 1))), .val (.int (cv A (o + i)))] [])) := by
        have := c9
        rw [succ32, succ32, succ32] at this
        exact this
      exact ih (i + 1) (by omega) _ (Or.inr ⟨_, rfl, rfl⟩) T7 _ (by rw [copyLocs_step, ← List.append_assoc]; exact X7) (pl.trans p7) (fl.step (by omega) hlt (by simp)) c10
  obtain ⟨T9, B9, z9, X9, p9, f9, g9⟩ := loop len 0 (by omega) .unset (Or.inl rfl) s₁ B (by simpa [copyLocs] using X0) ⟨hB0.1, fun _ _ => rfl, rfl⟩ (Laid.zero _ _ _) c2
  have c11 : Steps p.tables e below (s₁.setTop (entryFrame m #[.ref b, .int (Int32.ofNat o), .ref d, .int (Int32.ofNat q), .int (Int32.ofNat len)] 7)) (T9.setTop (mkF m 46 #[.val (.ref b), .val (.int (Int32.ofNat (o + len))), .val (.ref d), .val (.int (Int32.ofNat (q + len))), .val (.int (Int32.ofNat len)), .val (.int (Int32.ofNat len)), z9] [.int (Int32.ofNat len)])) := g9.trans (by
    refine XS.iload X9.here hexec rfl (hb hbytes d3) rfl ?_
    refine XS.iload X9.here hexec rfl (hb hbytes d5) rfl ?_
    refine XS.icmpYes X9.here hexec rfl (pc0 := 7) rfl (hb hbytes d7) rfl (ii_ge_t (nlt32 (by omega) (Nat.le_refl _))) (by decide) rfl ?_
    refine XS.iload X9.here hexec rfl (hb hbytes d44) rfl ?_
    exact Steps.refl _)
  exact ⟨T9, some (.int (Int32.ofNat len)), _, _, _, X9, by simp, rfl, rfl, (fun h => by cases h), ⟨rfl, B9, p9.from hh0, f9⟩, fun fs hl => c11.trans (X9.ireturnOut hexec hret rfl (Or.inl rfl) (hb hbytes d46) hl)⟩
end Cmp5
namespace Cmp3
def yN : MethodName := ⟨"java/lang/StringUTF16", "compress", "([CII)[B"⟩
abbrev yB : ByteArray := jdk_52_method_16_code
theorem d0 : decode yB 0 = .ok (.iload_n 2, 1) := by decide +kernel
theorem d1 : decode yB 1 = .ok (.newarray .byte, 2) := by decide +kernel
theorem d3 : decode yB 3 = .ok (.astore_n 3, 1) := by decide +kernel
theorem d4 : decode yB 4 = .ok (.aload_n 0, 1) := by decide +kernel
theorem d5 : decode yB 5 = .ok (.iload_n 1, 1) := by decide +kernel
theorem d6 : decode yB 6 = .ok (.aload_n 3, 1) := by decide +kernel
theorem d7 : decode yB 7 = .ok (.iconst 0, 1) := by decide +kernel
theorem d8 : decode yB 8 = .ok (.iload_n 2, 1) := by decide +kernel
theorem d9 : decode yB 9 = .ok (.invokestatic 115, 3) := by decide +kernel
theorem d12 : decode yB 12 = .ok (.istore 4, 2) := by decide +kernel
theorem d14 : decode yB 14 = .ok (.iload 4, 2) := by decide +kernel
theorem d16 : decode yB 16 = .ok (.iload_n 2, 1) := by decide +kernel
theorem d17 : decode yB 17 = .ok (.if_icmp (.eq) 40, 3) := by decide +kernel
theorem d57 : decode yB 57 = .ok (.aload_n 3, 1) := by decide +kernel
theorem d58 : decode yB 58 = .ok (.areturn, 1) := by decide +kernel
def site : List Cond := [.arrayClass .byte, Cmp5.tab] ++ staticW U16 115 Cmp5.yN
def tab : Cond := tabOf yN yB 6 (some (.array .byte)) site
def P (b : Addr) (A : Cell) (o len : Nat) (args : Array Value) (s : State) : Prop := args = #[.ref b, .int (Int32.ofNat o), .int (Int32.ofNat len)] ∧ Ch b A s ∧ o + len ≤ A.slots.size ∧ len ≤ 536870912 ∧ ∀ i, i < len → ¬ 255 < cv A (o + i)
def E (b : Addr) (A : Cell) (o len : Nat) (r : Option Value) (s u : State) : Prop := NewArr .byte "[B" len (fun j => .int (lo8 (cv A (o + j)))) r s u ∧ u.heap.size = s.heap.size + 1
/-- no char of the range above 255: a new byte[] of their low bytes -/
theorem law (l : Launch) (b : Addr) (A : Cell) (o len : Nat) : Law l yN 3 3 1 18 yB 6 (some (.array .byte)) site (P b A o len) (E b A o len) [] 1 len := by
  refine Law.of_walk (plainFor_of_name (by decide +kernel)) (by decide +kernel) (by decide +kernel) (by decide) (fun _ _ h => by rw [h.1]; rfl) (fun _ U U' hal hh h => ⟨h.1, h.2.1.mv hal hh, h.2.2⟩) (fun r U U' V V' h1 hal h2 h => ⟨NewArr.mv r U U' V V' h1 hal h2 h.1, by rw [h1, h2]; exact h.2⟩) ?_
  intro p e s m args below meth c s₁ X0 hexec hbytes hml hret hlk hnm hown hh0 W hP
  obtain ⟨rfl, hA, l1, l2, hp⟩ := hP
  have a31 := hA.1.2.2.2
  have c1 : Steps p.tables e below (s₁.setTop (entryFrame m #[.ref b, .int (Int32.ofNat o), .int (Int32.ofNat len)] 6)) (s₁.setTop (mkF m 0 #[.val (.ref b), .val (.int (Int32.ofNat o)), .val (.int (Int32.ofNat len)), .unset, .unset, .unset] [])) := entry rfl
  have c2 : Steps p.tables e below (s₁.setTop (entryFrame m #[.ref b, .int (Int32.ofNat o), .int (Int32.ofNat len)] 6)) (s₁.setTop (mkF m 1 #[.val (.ref b), .val (.int (Int32.ofNat o)), .val (.int (Int32.ofNat len)), .unset, .unset, .unset] [.int (Int32.ofNat len)])) := c1.trans (by
    refine XS.iloadN X0.here hexec rfl (hb hbytes d0) rfl ?_
    exact Steps.refl _)
  obtain ⟨T3, B3, X3, ba3, bs3, bv3, bh3, bf3, st3⟩ := X0.anew hexec (atype := .byte) (wk W (.arrayClass .byte)) rfl (by show len * 1 ≤ _; omega) (by omega) (g := (mkF m 1 #[.val (.ref b), .val (.int (Int32.ofNat o)), .val (.int (Int32.ofNat len)), .unset, .unset, .unset] [.int (Int32.ofNat len)])) rfl (hb hbytes d1) (rest := []) rfl (Nat.le_refl _) (by show 0 + len ≤ len; omega)
  rw [hh0] at ba3 st3
  have kp3 : XT.Kept s T3 := (XT.Kept.of_eq hh0).push bh3
  have hA3 := hA.keep X3.warmed.alike (kp3 _ _ hA.1.1)
  have hne : b ≠ s.heap.size := hA.1.ne
  have c4 : Steps p.tables e below (s₁.setTop (entryFrame m #[.ref b, .int (Int32.ofNat o), .int (Int32.ofNat len)] 6)) (T3.setTop (mkF m 3 #[.val (.ref b), .val (.int (Int32.ofNat o)), .val (.int (Int32.ofNat len)), .unset, .unset, .unset] [.ref s.heap.size])) := c2.trans (st3 _ (Steps.refl _))
  have c5 : Steps p.tables e below (s₁.setTop (entryFrame m #[.ref b, .int (Int32.ofNat o), .int (Int32.ofNat len)] 6)) (T3.setTop (mkF m 9 #[.val (.ref b), .val (.int (Int32.ofNat o)), .val (.int (Int32.ofNat len)), .val (.ref s.heap.size), .unset, .unset] [.int (Int32.ofNat len), .int 0, .ref s.heap.size, .int (Int32.ofNat o), .ref b])) := c4.trans (by
    refine XS.astoreN X3.here hexec rfl (hb hbytes d3) rfl rfl rfl ?_
    refine XS.aloadN X3.here hexec rfl (hb hbytes d4) rfl rfl ?_
    refine XS.iloadN X3.here hexec rfl (hb hbytes d5) rfl ?_
    refine XS.aloadN X3.here hexec rfl (hb hbytes d6) rfl rfl ?_
    refine iconstV X3.here hexec rfl 0 (hb hbytes d7) (by decide) ?_
    refine XS.iloadN X3.here hexec rfl (hb hbytes d8) rfl ?_
    exact Steps.refl _)
  obtain ⟨v6, T6, X6, E6, g6⟩ := X3.callS hexec (Cmp5.law l b A s.heap.size B3 o 0 len) hown (wks W (staticW U16 115 Cmp5.yN)) (wk W Cmp5.tab) (W := 0) (Nat.le_of_ble_eq_true rfl) (Nat.le_of_ble_eq_true rfl) (Nat.le_refl _) (by show 0 + len + 0 ≤ len; omega) (g := (mkF m 9 #[.val (.ref b), .val (.int (Int32.ofNat o)), .val (.int (Int32.ofNat len)), .val (.ref s.heap.size), .unset, .unset] [.int (Int32.ofNat len), .int (Int32.ofNat 0), .ref s.heap.size, .int (Int32.ofNat o), .ref b])) rfl (by rw [hml]; rfl) c5 (argsL := [.ref b, .int (Int32.ofNat o), .ref s.heap.size, .int (Int32.ofNat 0), .int (Int32.ofNat len)]) (rest := []) rfl rfl (by show 2 * 0 + 0 ≤ _; decide) (hb hbytes d9) (⟨rfl, hA3, ba3, hne, l1, by rw [bs3]; simp, hp⟩)
  obtain ⟨rfl, B6, p6, f6⟩ := E6
  have c7 : Steps p.tables e below (s₁.setTop (entryFrame m #[.ref b, .int (Int32.ofNat o), .int (Int32.ofNat len)] 6)) (T6.setTop (mkF m 12 #[.val (.ref b), .val (.int (Int32.ofNat o)), .val (.int (Int32.ofNat len)), .val (.ref s.heap.size), .unset, .unset] [.int (Int32.ofNat len)])) := g6
  have c8 : Steps p.tables e below (s₁.setTop (entryFrame m #[.ref b, .int (Int32.ofNat o), .int (Int32.ofNat len)] 6)) (T6.setTop (mkF m 58 #[.val (.ref b), .val (.int (Int32.ofNat o)), .val (.int (Int32.ofNat len)), .val (.ref s.heap.size), .val (.int (Int32.ofNat len)), .unset] [.ref s.heap.size])) := c7.trans (by
    refine XS.istore X6.here hexec rfl (hb hbytes d12) rfl rfl ?_
    refine XS.iload X6.here hexec rfl (hb hbytes d14) rfl ?_
    refine XS.iloadN X6.here hexec rfl (hb hbytes d16) rfl ?_
    refine XS.icmpYes X6.here hexec rfl (pc0 := 17) rfl (hb hbytes d17) rfl (ii_eq_t rfl) (by decide) rfl ?_
    refine XS.aloadN X6.here hexec rfl (hb hbytes d57) rfl rfl ?_
    exact Steps.refl _)
  have X8 := X6.wide (L' := []) (cells' := 1) (slots' := len) (fun x hx hlt => by
    simp only [List.nil_append, copyLocs, List.mem_map, List.mem_range] at hx
    obtain ⟨i, -, rfl⟩ := hx
    exact absurd hlt (Nat.lt_irrefl _)) (Nat.le_refl _) (by omega)
  exact ⟨T6, some (.ref s.heap.size), _, _, _, X8, rfl, rfl, rfl, (fun h => by cases h), ⟨⟨rfl, B6, ba3.like (X3.warmed.alike.symm.trans X6.warmed.alike) p6.1 f6.1 f6.2.1 f6.2.2.1, f6.2.1.trans bv3, by rw [X6.warmed.alike.findClass, f6.1]; exact bf3, by rw [f6.2.2.1, bs3]; simp, fun j hj => by rw [f6.2.2.2 j, if_pos (by omega)]; rfl, kp3.put p6 (Nat.le_refl _)⟩, by rw [p6.2.2, bh3, hh0]; simp⟩, fun fs hl => c8.trans (X8.areturnOut hexec rfl hret rfl (hb hbytes d58) hl)⟩
end Cmp3
namespace CodL
def yN : MethodName := ⟨"java/lang/StringUTF16", "coderFromArrayLen", "([BI)B"⟩
abbrev yB : ByteArray := jdk_52_method_15_code
theorem d0 : decode yB 0 = .ok (.iload_n 1, 1) := by decide +kernel
theorem d1 : decode yB 1 = .ok (.aload_n 0, 1) := by decide +kernel
theorem d2 : decode yB 2 = .ok (.arraylength, 1) := by decide +kernel
theorem d3 : decode yB 3 = .ok (.isub, 1) := by decide +kernel
theorem d4 : decode yB 4 = .ok (.bipush 31, 2) := by decide +kernel
theorem d6 : decode yB 6 = .ok (.iushr, 1) := by decide +kernel
theorem d7 : decode yB 7 = .ok (.i2b, 1) := by decide +kernel
theorem d8 : decode yB 8 = .ok (.ireturn, 1) := by decide +kernel
def site : List Cond := []
def tab : Cond := tabOf yN yB 2 (some .byte) site
def P (d : Addr) (B : Cell) (args : Array Value) (s : State) : Prop := args = #[.ref d, .int (Int32.ofNat B.slots.size)] ∧ Arr .byte d B s
def E (r : Option Value) (s u : State) : Prop := XT.PureE (some (.int 0)) r s u
/-- an array as long as the number of chars: LATIN1 -/
theorem law (l : Launch) (d : Addr) (B : Cell) : Law l yN 2 2 0 0 yB 2 (some .byte) site (P d B) E [] 0 0 := by
  refine Law.of_walk (plainFor_of_name (by decide +kernel)) (by decide +kernel) (by decide +kernel) (by decide) (fun _ _ h => by rw [h.1]; rfl) (fun _ U U' hal hh h => ⟨h.1, h.2.mv hal hh⟩) (fun r U U' V V' h1 hal h2 h => XT.PureE.mv r U U' V V' h1 hal h2 h) ?_
  intro p e s m args below meth c s₁ X0 hexec hbytes hml hret hlk hnm hown hh0 W hP
  obtain ⟨rfl, hB⟩ := hP
  have hB0 := hB.mv X0.warmed.alike hh0
  have c1 : Steps p.tables e below (s₁.setTop (entryFrame m #[.ref d, .int (Int32.ofNat B.slots.size)] 2)) (s₁.setTop (mkF m 0 #[.val (.ref d), .val (.int (Int32.ofNat B.slots.size))] [])) := entry rfl
  have c2 : Steps p.tables e below (s₁.setTop (entryFrame m #[.ref d, .int (Int32.ofNat B.slots.size)] 2)) (s₁.setTop (mkF m 2 #[.val (.ref d), .val (.int (Int32.ofNat B.slots.size))] [.ref d, .int (Int32.ofNat B.slots.size)])) := c1.trans (by
    refine XS.iloadN X0.here hexec rfl (hb hbytes d0) rfl ?_
    refine XS.aloadN X0.here hexec rfl (hb hbytes d1) rfl rfl ?_
    exact Steps.refl _)
  have c3 : Steps p.tables e below (s₁.setTop (entryFrame m #[.ref d, .int (Int32.ofNat B.slots.size)] 2)) (s₁.setTop (mkF m 8 #[.val (.ref d), .val (.int (Int32.ofNat B.slots.size))] [.int (lo8 (ushr (Int32.ofNat B.slots.size - Int32.ofNat B.slots.size) 31))])) := c2.trans (by
    refine X0.alen hexec hB0 rfl rfl (hb hbytes d2) ?_
    refine XS.isub X0.here hexec rfl (hb hbytes d3) rfl ?_
    refine bipushV X0.here hexec rfl 31 (hb hbytes d4) (by decide) ?_
    refine iushr X0.here hexec rfl (hb hbytes d6) rfl ?_
    refine i2b X0.here hexec rfl (hb hbytes d7) rfl ?_
    exact Steps.refl _)
  have e0 : lo8 (ushr (Int32.ofNat B.slots.size - Int32.ofNat B.slots.size) 31) = 0 := by rw [Int32.sub_self]; decide
  rw [e0] at c3
  exact ⟨s₁, some (.int 0), _, _, _, X0, rfl, rfl, rfl, (fun h => by cases h), ⟨rfl, hh0⟩, fun fs hl => c3.trans (X0.ireturnOut hexec hret rfl (Or.inr (Or.inr (Or.inl rfl))) (hb hbytes d8) hl)⟩
end CodL
/-- the String at a is Latin-1 over a new byte[] (the heap's one new cell): the low bytes of the len chars of A from o on; every cell but a is kept -/
def Got (a : Addr) (D : Cell) (fV fC : Field) (A : Cell) (o len : Nat) (r : Option Value) (s u : State) : Prop := r = none ∧ ∃ D' V : Cell, Blank "java/lang/String" a D' u ∧ Same D D' [fV.slot, fC.slot] ∧ D'.slots[fV.slot]? = some (.ref s.heap.size) ∧ D'.slots[fC.slot]? = some (.int 0) ∧ Arr .byte s.heap.size V u ∧ V.vm = .none ∧ u.vm.findClass "[B" = some V.cls ∧ V.slots.size = len ∧ (∀ j, j < len → V.slots[j]? = some (.int (lo8 (cv A (o + j))))) ∧ (∀ (y : Addr) (c : Cell), y ≠ a → s.heap[y]? = some c → u.heap[y]? = some c) ∧ u.heap.size = s.heap.size + 1
theorem Got.mv {a : Addr} {D A : Cell} {fV fC : Field} {o len : Nat} : ∀ r (U U' V V' : State), U'.heap = U.heap → V.vm.Alike V'.vm → V'.heap = V.heap → Got a D fV fC A o len r U V → Got a D fV fC A o len r U' V' :=
  fun r U U' V V' h1 hal h2 ⟨e0, D', X, a1, a2, a3, a4, a5, a6, a7, a8, a9, a10, a11⟩ => ⟨e0, D', X, a1.mv hal h2, a2, by rw [h1]; exact a3, a4, by rw [h1]; exact a5.mv hal h2, a6, by rw [hal.findClass]; exact a7, a8, a9, by rw [h1, h2]; exact a10, by rw [h1, h2]; exact a11⟩
namespace New4
def yN : MethodName := ⟨"java/lang/String", "<init>", "([CIILjava/lang/Void;)V"⟩
abbrev yB : ByteArray := jdk_42_method_149_code
theorem d0 : decode yB 0 = .ok (.aload_n 0, 1) := by decide +kernel
theorem d1 : decode yB 1 = .ok (.invokespecial 1, 3) := by decide +kernel
theorem d4 : decode yB 4 = .ok (.iload_n 3, 1) := by decide +kernel
theorem d5 : decode yB 5 = .ok (.ifCond (.ne) 22, 3) := by decide +kernel
theorem d27 : decode yB 27 = .ok (.getstatic 38, 3) := by decide +kernel
theorem d30 : decode yB 30 = .ok (.ifCond (.eq) 28, 3) := by decide +kernel
theorem d33 : decode yB 33 = .ok (.aload_n 1, 1) := by decide +kernel
theorem d34 : decode yB 34 = .ok (.iload_n 2, 1) := by decide +kernel
theorem d35 : decode yB 35 = .ok (.iload_n 3, 1) := by decide +kernel
theorem d36 : decode yB 36 = .ok (.invokestatic 177, 3) := by decide +kernel
theorem d39 : decode yB 39 = .ok (.astore 5, 2) := by decide +kernel
theorem d41 : decode yB 41 = .ok (.aload_n 0, 1) := by decide +kernel
theorem d42 : decode yB 42 = .ok (.aload 5, 2) := by decide +kernel
theorem d44 : decode yB 44 = .ok (.iload_n 3, 1) := by decide +kernel
theorem d45 : decode yB 45 = .ok (.invokestatic 47, 3) := by decide +kernel
theorem d48 : decode yB 48 = .ok (.putfield 15, 3) := by decide +kernel
theorem d51 : decode yB 51 = .ok (.aload_n 0, 1) := by decide +kernel
theorem d52 : decode yB 52 = .ok (.aload 5, 2) := by decide +kernel
theorem d54 : decode yB 54 = .ok (.putfield 9, 3) := by decide +kernel
theorem d57 : decode yB 57 = .ok (.return_, 1) := by decide +kernel
def site : List Cond := [.fieldLink "java/lang/String" 38 "java/lang/String" "COMPACT_STRINGS" "Z", Cmp3.tab, CodL.tab, .laysFinal "java/lang/String" "java/lang/String" "value" "[B", .fieldLink "java/lang/String" 9 "java/lang/String" "value" "[B", .laysFinal "java/lang/String" "java/lang/String" "coder" "B", .fieldLink "java/lang/String" 15 "java/lang/String" "coder" "B"] ++ objW "java/lang/String" 1 ++ staticW "java/lang/String" 177 Cmp3.yN ++ staticW "java/lang/String" 47 CodL.yN
def tab : Cond := tabOf yN yB 6 none site
def P (a : Addr) (D : Cell) (fV fC : Field) (b : Addr) (A : Cell) (z : Int32) (o len : Nat) (args : Array Value) (s : State) : Prop := args = #[.ref a, .ref b, .int (Int32.ofNat o), .int (Int32.ofNat len), .null] ∧ Blank "java/lang/String" a D s ∧ Found "java/lang/String" "value" "[B" fV s ∧ Found "java/lang/String" "coder" "B" fC s ∧ Ch b A s ∧ StaticIs s "java/lang/String" "COMPACT_STRINGS" "Z" (.int z) ∧ ¬ z = 0 ∧ 0 < len ∧ o + len ≤ A.slots.size ∧ len ≤ 536870912 ∧ ∀ i, i < len → ¬ 255 < cv A (o + i)
def E (a : Addr) (D : Cell) (fV fC : Field) (A : Cell) (o len : Nat) (r : Option Value) (s u : State) : Prop := Got a D fV fC A o len r s u
/-- len > 0, no char of the range above 255: a Latin-1 String of their low bytes -/
theorem law (l : Launch) (a : Addr) (D : Cell) (fV fC : Field) (b : Addr) (A : Cell) (z : Int32) (o len : Nat) : Law l yN 5 4 2 35 yB 6 none site (P a D fV fC b A z o len) (E a D fV fC A o len) [⟨a, fC.slot⟩, ⟨a, fV.slot⟩] 1 len := by
  refine Law.of_walk (plainFor_of_name (by decide +kernel)) (by decide +kernel) (by decide +kernel) (by decide) (fun _ _ h => by rw [h.1]; rfl) (fun _ U U' hal hh h => ⟨h.1, h.2.1.mv hal hh, h.2.2.1.al hal, h.2.2.2.1.al hal, h.2.2.2.2.1.mv hal hh, h.2.2.2.2.2.1.there hal hh, h.2.2.2.2.2.2⟩) (fun r U U' V V' h1 hal h2 h => Got.mv r U U' V V' h1 hal h2 h) ?_
  intro p e s m args below meth c s₁ X0 hexec hbytes hml hret hlk hnm hown hh0 W hP
  obtain ⟨rfl, hB, f1, f2, hA, s1, hz, l0, l1, l2, hp⟩ := hP
  have a31 := hA.1.2.2.2
  have c1 : Steps p.tables e below (s₁.setTop (entryFrame m #[.ref a, .ref b, .int (Int32.ofNat o), .int (Int32.ofNat len), .null] 6)) (s₁.setTop (mkF m 0 #[.val (.ref a), .val (.ref b), .val (.int (Int32.ofNat o)), .val (.int (Int32.ofNat len)), .val .null, .unset] [])) := entry rfl
  have c2 : Steps p.tables e below (s₁.setTop (entryFrame m #[.ref a, .ref b, .int (Int32.ofNat o), .int (Int32.ofNat len), .null] 6)) (s₁.setTop (mkF m 1 #[.val (.ref a), .val (.ref b), .val (.int (Int32.ofNat o)), .val (.int (Int32.ofNat len)), .val .null, .unset] [.ref a])) := c1.trans (by
    refine XS.aloadN X0.here hexec rfl (hb hbytes d0) rfl rfl ?_
    exact Steps.refl _)
  obtain ⟨T3, X3, q3, st3⟩ := X0.oinit hexec hown (wks W (objW "java/lang/String" 1)) (g := (mkF m 1 #[.val (.ref a), .val (.ref b), .val (.int (Int32.ofNat o)), .val (.int (Int32.ofNat len)), .val .null, .unset] [.ref a])) rfl (by rw [hml]; rfl) (rest := []) rfl (hb hbytes d1) (W := 0) (by show 2 * 0 + 0 ≤ _; decide) (Nat.le_of_ble_eq_true rfl) (Nat.le_of_ble_eq_true rfl)
  have hh3 := q3.trans hh0
  have c4 : Steps p.tables e below (s₁.setTop (entryFrame m #[.ref a, .ref b, .int (Int32.ofNat o), .int (Int32.ofNat len), .null] 6)) (T3.setTop (mkF m 27 #[.val (.ref a), .val (.ref b), .val (.int (Int32.ofNat o)), .val (.int (Int32.ofNat len)), .val .null, .unset] [])) := (c2.trans (st3 _ (Steps.refl _))).trans (by
    refine XS.iloadN X3.here hexec rfl (hb hbytes d4) rfl ?_
    refine XS.ifYes X3.here hexec rfl (pc0 := 5) rfl (hb hbytes d5) rfl (i0_ne_t (nz32 (by omega) l0)) (by decide) rfl ?_
    exact Steps.refl _)
  obtain ⟨T5, X5, q5, st5⟩ := X3.sget hexec hown (wk W (.fieldLink "java/lang/String" 38 "java/lang/String" "COMPACT_STRINGS" "Z")) s1 (fun _ _ h => by rw [hh3]; exact h) (g := (mkF m 27 #[.val (.ref a), .val (.ref b), .val (.int (Int32.ofNat o)), .val (.int (Int32.ofNat len)), .val .null, .unset] [])) rfl (hb hbytes d27)
  have hh5 := q5.trans hh3
  have c6 : Steps p.tables e below (s₁.setTop (entryFrame m #[.ref a, .ref b, .int (Int32.ofNat o), .int (Int32.ofNat len), .null] 6)) (T5.setTop (mkF m 30 #[.val (.ref a), .val (.ref b), .val (.int (Int32.ofNat o)), .val (.int (Int32.ofNat len)), .val .null, .unset] [.int z])) := c4.trans (st5 _ (Steps.refl _))
  have c7 : Steps p.tables e below (s₁.setTop (entryFrame m #[.ref a, .ref b, .int (Int32.ofNat o), .int (Int32.ofNat len), .null] 6)) (T5.setTop (mkF m 36 #[.val (.ref a), .val (.ref b), .val (.int (Int32.ofNat o)), .val (.int (Int32.ofNat len)), .val .null, .unset] [.int (Int32.ofNat len), .int (Int32.ofNat o), .ref b])) := c6.trans (by
    refine XS.ifNo X5.here hexec rfl (hb hbytes d30) rfl (i0_eq_f hz) ?_
    refine XS.aloadN X5.here hexec rfl (hb hbytes d33) rfl rfl ?_
    refine XS.iloadN X5.here hexec rfl (hb hbytes d34) rfl ?_
    refine XS.iloadN X5.here hexec rfl (hb hbytes d35) rfl ?_
    exact Steps.refl _)
  obtain ⟨v8, T8, X8, E8, g8⟩ := X5.callS hexec (Cmp3.law l b A o len) hown (wks W (staticW "java/lang/String" 177 Cmp3.yN)) (wk W Cmp3.tab) (W := 0) (Nat.le_of_ble_eq_true rfl) (Nat.le_of_ble_eq_true rfl) (Nat.le_refl _) (by show 0 + len ≤ len; omega) (g := (mkF m 36 #[.val (.ref a), .val (.ref b), .val (.int (Int32.ofNat o)), .val (.int (Int32.ofNat len)), .val .null, .unset] [.int (Int32.ofNat len), .int (Int32.ofNat o), .ref b])) rfl (by rw [hml]; rfl) c7 (argsL := [.ref b, .int (Int32.ofNat o), .int (Int32.ofNat len)]) (rest := []) rfl rfl (by show 2 * 0 + 0 ≤ _; decide) (hb hbytes d36) (⟨rfl, hA.mv X5.warmed.alike hh5, l1, l2, hp⟩)
  obtain ⟨e8, z8⟩ := E8
  obtain ⟨rfl, N, n1, n2, n3, n4, n5, n6⟩ := NewArr.mv _ T5 s _ _ hh5.symm (Vm.Alike.refl _) rfl e8
  rw [hh5] at z8
  have hB1 := hB.keep X8.warmed.alike (n6 _ _ hB.1)
  have hne : s.heap.size ≠ a := (Nat.ne_of_lt (Array.getElem?_eq_some_iff.mp hB.1).1).symm
  have c9 : Steps p.tables e below (s₁.setTop (entryFrame m #[.ref a, .ref b, .int (Int32.ofNat o), .int (Int32.ofNat len), .null] 6)) (T8.setTop (mkF m 39 #[.val (.ref a), .val (.ref b), .val (.int (Int32.ofNat o)), .val (.int (Int32.ofNat len)), .val .null, .unset] [.ref s.heap.size])) := g8
  have c10 : Steps p.tables e below (s₁.setTop (entryFrame m #[.ref a, .ref b, .int (Int32.ofNat o), .int (Int32.ofNat len), .null] 6)) (T8.setTop (mkF m 45 #[.val (.ref a), .val (.ref b), .val (.int (Int32.ofNat o)), .val (.int (Int32.ofNat len)), .val .null, .val (.ref s.heap.size)] [.int (Int32.ofNat N.slots.size), .ref s.heap.size, .ref a])) := by
    have hc : Steps p.tables e below (s₁.setTop (entryFrame m #[.ref a, .ref b, .int (Int32.ofNat o), .int (Int32.ofNat len), .null] 6)) (T8.setTop (mkF m 45 #[.val (.ref a), .val (.ref b), .val (.int (Int32.ofNat o)), .val (.int (Int32.ofNat len)), .val .null, .val (.ref s.heap.size)] [.int (Int32.ofNat len), .ref s.heap.size, .ref a])) := c9.trans (by
      refine XS.astore X8.here hexec rfl (hb hbytes d39) rfl rfl rfl ?_
      refine XS.aloadN X8.here hexec rfl (hb hbytes d41) rfl rfl ?_
      refine XS.aload X8.here hexec rfl (hb hbytes d42) rfl rfl ?_
      refine XS.iloadN X8.here hexec rfl (hb hbytes d44) rfl ?_
      exact Steps.refl _)
    rw [n4]; exact hc
  obtain ⟨v11, T11, X11, E11, g11⟩ := X8.callS hexec (CodL.law l s.heap.size N) hown (wks W (staticW "java/lang/String" 47 CodL.yN)) (wk W CodL.tab) (W := 1) (Nat.le_of_ble_eq_true rfl) (Nat.le_of_ble_eq_true rfl) (Nat.le_refl _) (by show 0 + len + 0 ≤ len; omega) (g := (mkF m 45 #[.val (.ref a), .val (.ref b), .val (.int (Int32.ofNat o)), .val (.int (Int32.ofNat len)), .val .null, .val (.ref s.heap.size)] [.int (Int32.ofNat N.slots.size), .ref s.heap.size, .ref a])) rfl (by rw [hml]; rfl) c10 (argsL := [.ref s.heap.size, .int (Int32.ofNat N.slots.size)]) (rest := [.ref a]) rfl rfl (by show 2 * 0 + (1 + 0) ≤ _; decide) (hb hbytes d45) (⟨rfl, n1⟩)
  obtain ⟨rfl, q11⟩ := E11
  have hB11 := hB1.mv (X8.warmed.alike.symm.trans X11.warmed.alike) q11
  have c12 : Steps p.tables e below (s₁.setTop (entryFrame m #[.ref a, .ref b, .int (Int32.ofNat o), .int (Int32.ofNat len), .null] 6)) (T11.setTop (mkF m 48 #[.val (.ref a), .val (.ref b), .val (.int (Int32.ofNat o)), .val (.int (Int32.ofNat len)), .val .null, .val (.ref s.heap.size)] [.int 0, .ref a])) := g11
  obtain ⟨T13, X13, p13, bl13, sl13, st13⟩ := X11.finit hexec hown (wk W (.fieldLink "java/lang/String" 15 "java/lang/String" "coder" "B")) (Or.inr ⟨_, (wk W (.laysFinal "java/lang/String" "java/lang/String" "coder" "B"))⟩) (Or.inl ⟨rfl, hnm⟩) f2 (Or.inl rfl) hB11 (t := .byte) (by decide +kernel) rfl (g := (mkF m 48 #[.val (.ref a), .val (.ref b), .val (.int (Int32.ofNat o)), .val (.int (Int32.ofNat len)), .val .null, .val (.ref s.heap.size)] [.int 0, .ref a])) rfl (rest := []) rfl (hb hbytes d48)
  have c14 : Steps p.tables e below (s₁.setTop (entryFrame m #[.ref a, .ref b, .int (Int32.ofNat o), .int (Int32.ofNat len), .null] 6)) (T13.setTop (mkF m 54 #[.val (.ref a), .val (.ref b), .val (.int (Int32.ofNat o)), .val (.int (Int32.ofNat len)), .val .null, .val (.ref s.heap.size)] [.ref s.heap.size, .ref a])) := (c12.trans (st13 _ (Steps.refl _))).trans (by
    refine XS.aloadN X13.here hexec rfl (hb hbytes d51) rfl rfl ?_
    refine XS.aload X13.here hexec rfl (hb hbytes d52) rfl rfl ?_
    exact Steps.refl _)
  obtain ⟨T15, X15, p15, bl15, sl15, st15⟩ := X13.finit hexec hown (wk W (.fieldLink "java/lang/String" 9 "java/lang/String" "value" "[B")) (Or.inr ⟨_, (wk W (.laysFinal "java/lang/String" "java/lang/String" "value" "[B"))⟩) (Or.inl ⟨rfl, hnm⟩) f1 (Or.inl rfl) bl13 (t := (.array .byte)) (by decide +kernel) rfl (g := (mkF m 54 #[.val (.ref a), .val (.ref b), .val (.int (Int32.ofNat o)), .val (.int (Int32.ofNat len)), .val .null, .val (.ref s.heap.size)] [.ref s.heap.size, .ref a])) rfl (rest := []) rfl (hb hbytes d54)
  have c16 : Steps p.tables e below (s₁.setTop (entryFrame m #[.ref a, .ref b, .int (Int32.ofNat o), .int (Int32.ofNat len), .null] 6)) (T15.setTop (mkF m 57 #[.val (.ref a), .val (.ref b), .val (.int (Int32.ofNat o)), .val (.int (Int32.ofNat len)), .val .null, .val (.ref s.heap.size)] [])) := c14.trans (st15 _ (Steps.refl _))
  have ap := apart (Or.inr ⟨_, (wk W (.laysFinal "java/lang/String" "java/lang/String" "value" "[B"))⟩) (Or.inr ⟨_, (wk W (.laysFinal "java/lang/String" "java/lang/String" "coder" "B"))⟩) f1 f2 (t₁ := .array .byte) (t₂ := .byte) (by decide +kernel) (by decide +kernel) (by decide)
  have al := X8.warmed.alike.symm.trans X15.warmed.alike
  have n7 : T11.heap[s.heap.size]? = some N := by rw [q11]; exact n1.1
  exact ⟨T15, none, _, _, _, X15, by simp, rfl, by omega, (fun _ => rfl), ⟨rfl, _, N, bl15, ((Same.refl D _).set _ (by simp)).set _ (by simp), sl15, (Cell.slots_setSlot_ne _ ap).trans sl13, n1.keep al (p15.other hne (p13.other hne n7)), n2, by rw [al.findClass]; exact n3, n4, n5, fun y c h1 h2 => p15.other h1 (p13.other h1 (by rw [q11]; exact n6 y c h2)), by rw [p15.2.2, p13.2.2, q11]; exact z8⟩, fun fs hl => c16.trans (X15.returnOut hexec hret (hb hbytes d57) hl)⟩
end New4
namespace New1
def yN : MethodName := ⟨"java/lang/String", "<init>", "([C)V"⟩
abbrev yB : ByteArray := jdk_42_method_3_code
theorem d0 : decode yB 0 = .ok (.aload_n 0, 1) := by decide +kernel
theorem d1 : decode yB 1 = .ok (.aload_n 1, 1) := by decide +kernel
theorem d2 : decode yB 2 = .ok (.iconst 0, 1) := by decide +kernel
theorem d3 : decode yB 3 = .ok (.aload_n 1, 1) := by decide +kernel
theorem d4 : decode yB 4 = .ok (.arraylength, 1) := by decide +kernel
theorem d5 : decode yB 5 = .ok (.aconst_null, 1) := by decide +kernel
theorem d6 : decode yB 6 = .ok (.invokespecial 27, 3) := by decide +kernel
theorem d9 : decode yB 9 = .ok (.return_, 1) := by decide +kernel
def site : List Cond := [New4.tab] ++ initW "java/lang/String" 27 New4.yN
def tab : Cond := tabOf yN yB 2 none site
def P (a : Addr) (D : Cell) (fV fC : Field) (b : Addr) (A : Cell) (z : Int32) (args : Array Value) (s : State) : Prop := args = #[.ref a, .ref b] ∧ Blank "java/lang/String" a D s ∧ Found "java/lang/String" "value" "[B" fV s ∧ Found "java/lang/String" "coder" "B" fC s ∧ Ch b A s ∧ StaticIs s "java/lang/String" "COMPACT_STRINGS" "Z" (.int z) ∧ ¬ z = 0 ∧ 0 < A.slots.size ∧ A.slots.size ≤ 536870912 ∧ ∀ i, i < A.slots.size → ¬ 255 < cv A i
def E (a : Addr) (D : Cell) (fV fC : Field) (A : Cell) (r : Option Value) (s u : State) : Prop := Got a D fV fC A 0 A.slots.size r s u
/-- new String(chars), not empty, no char above 255: a Latin-1 String of their low bytes -/
theorem law (l : Launch) (a : Addr) (D : Cell) (fV fC : Field) (b : Addr) (A : Cell) (z : Int32) : Law l yN 2 1 3 52 yB 2 none site (P a D fV fC b A z) (E a D fV fC A) [⟨a, fC.slot⟩, ⟨a, fV.slot⟩] 1 A.slots.size := by
  refine Law.of_walk (plainFor_of_name (by decide +kernel)) (by decide +kernel) (by decide +kernel) (by decide) (fun _ _ h => by rw [h.1]; rfl) (fun _ U U' hal hh h => ⟨h.1, h.2.1.mv hal hh, h.2.2.1.al hal, h.2.2.2.1.al hal, h.2.2.2.2.1.mv hal hh, h.2.2.2.2.2.1.there hal hh, h.2.2.2.2.2.2⟩) (fun r U U' V V' h1 hal h2 h => Got.mv r U U' V V' h1 hal h2 h) ?_
  intro p e s m args below meth c s₁ X0 hexec hbytes hml hret hlk hnm hown hh0 W hP
  obtain ⟨rfl, hB, f1, f2, hA, s1, hz, l0, l2, hp⟩ := hP
  have c1 : Steps p.tables e below (s₁.setTop (entryFrame m #[.ref a, .ref b] 2)) (s₁.setTop (mkF m 0 #[.val (.ref a), .val (.ref b)] [])) := entry rfl
  have c2 : Steps p.tables e below (s₁.setTop (entryFrame m #[.ref a, .ref b] 2)) (s₁.setTop (mkF m 6 #[.val (.ref a), .val (.ref b)] [.null, .int (Int32.ofNat A.slots.size), .int 0, .ref b, .ref a])) := c1.trans (by
    refine XS.aloadN X0.here hexec rfl (hb hbytes d0) rfl rfl ?_
    refine XS.aloadN X0.here hexec rfl (hb hbytes d1) rfl rfl ?_
    refine iconstV X0.here hexec rfl 0 (hb hbytes d2) (by decide) ?_
    refine XS.aloadN X0.here hexec rfl (hb hbytes d3) rfl rfl ?_
    refine X0.alen hexec (hA.1.mv X0.warmed.alike hh0) rfl rfl (hb hbytes d4) ?_
    refine XS.aconstNull X0.here hexec rfl (hb hbytes d5) ?_
    exact Steps.refl _)
  obtain ⟨v3, T3, X3, E3, g3⟩ := X0.callN hexec (New4.law l a D fV fC b A z 0 A.slots.size) rfl hown (wks W (initW "java/lang/String" 27 New4.yN)) (W New4.tab (by simp only [site, List.mem_cons, List.mem_append, true_or, or_true])) (W := 0) (Nat.le_of_ble_eq_true rfl) (Nat.le_of_ble_eq_true rfl) (Nat.le_refl _) (by show 0 + A.slots.size ≤ A.slots.size; omega) (g := (mkF m 6 #[.val (.ref a), .val (.ref b)] [.null, .int (Int32.ofNat A.slots.size), .int (Int32.ofNat 0), .ref b, .ref a])) rfl (by rw [hml]; rfl) c2 (argsL := [.ref b, .int (Int32.ofNat 0), .int (Int32.ofNat A.slots.size), .null]) (rest := []) rfl rfl (by show 2 * 0 + 0 ≤ _; decide) (hb hbytes d6) (⟨rfl, hB.mv X0.warmed.alike hh0, f1.al X0.warmed.alike, f2.al X0.warmed.alike, hA.mv X0.warmed.alike hh0, s1.there X0.warmed.alike hh0, hz, l0, by omega, l2, fun i hi => by rw [Nat.zero_add]; exact hp i hi⟩)
  have e0 := Got.mv _ s₁ s _ _ hh0.symm (Vm.Alike.refl _) rfl E3
  obtain rfl := e0.1
  have c4 : Steps p.tables e below (s₁.setTop (entryFrame m #[.ref a, .ref b] 2)) (T3.setTop (mkF m 9 #[.val (.ref a), .val (.ref b)] [])) := g3
  exact ⟨T3, none, _, _, _, X3, by simp, rfl, by omega, (fun _ => rfl), e0, fun fs hl => c4.trans (X3.returnOut hexec hret (hb hbytes d9) hl)⟩
theorem pays {l : Launch} {R : Room} {p : Program} {e : Env} {below : List Frame} {s : State} {sargs : Array Value} {len W : Nat} (a : Addr) (D : Cell) (fV fC : Field) (b : Addr) (A : Cell) (z : Int32) (htab : tab.before sargs s = true) (hfr : 4 ≤ R.frames) (hlo : W + 65 ≤ R.locals) :
    Back l R p e below s sargs yN len W (fun A₁ a₁ => A₁.cells + 1 ≤ R.cells ∧ A₁.slots + A.slots.size ≤ R.slots ∧ P a D fV fC b A z a₁ A₁.U) (fun A₁ _ v₁ B₁ => E a D fV fC A v₁ A₁.U B₁.U ∧ B₁.locs = A₁.locs ++ [⟨a, fC.slot⟩, ⟨a, fV.slot⟩] ∧ B₁.cells = A₁.cells + 1 ∧ B₁.slots = A₁.slots + A.slots.size) :=
  (law l a D fV fC b A z).pays htab hfr (by omega)
end New1
/-- the byte, read back as charAt reads it, is the char -/
theorem lo8_mask {x : Int32} (h0 : ¬ x < 0) (h1 : ¬ 255 < x) : lo8 x &&& 255 = x := by
  have t : ∀ k : Fin 256, lo8 (Int32.ofNat k.val) &&& 255 = Int32.ofNat k.val := by decide +kernel
  rw [Int32.lt_iff_toInt_lt] at h0 h1
  have e0 : (0 : Int32).toInt = 0 := rfl
  have e1 : (255 : Int32).toInt = 255 := rfl
  obtain ⟨k, hk⟩ : ∃ k : Nat, x.toInt = k := ⟨x.toInt.toNat, by omega⟩
  have hx : x = Int32.ofNat k := Int32.toInt_inj.mp (by rw [hk, Int32.toInt_ofNat_small (by omega)])
  rw [hx]
  exact t ⟨k, by omega⟩
end StrChars
namespace StrChars.Road
open Jvm Sem ClassFile Op Lib Jvm.Stand Jvm.Free Jvm.Free.XT
open Jvm.Lib.Cold (StaticIs)
abbrev ST : String := "java/lang/String"
/-- every table word that New1's law asks, flat -/
abbrev words : List Jvm.Cond := [.code New1.yN New1.yB 2 none, .initialized ST, .methodLink ST 27 New4.yN, .instanceMethod New4.yN,
  .code New4.yN New4.yB 6 none, .fieldLink ST 38 ST "COMPACT_STRINGS" "Z", .laysFinal ST ST "value" "[B", .fieldLink ST 9 ST "value" "[B", .laysFinal ST ST "coder" "B", .fieldLink ST 15 ST "coder" "B",
  .methodLink ST 1 Lib.objectInit, .instanceMethod Lib.objectInit, .code Lib.objectInit ⟨#[0xb1]⟩ 1 none, .methodLink ST 177 Cmp3.yN, .static Cmp3.yN, .methodLink ST 47 CodL.yN, .static CodL.yN,
  .code Cmp3.yN Cmp3.yB 6 (some (.array .byte)), .initialized U16, .arrayClass .byte, .methodLink U16 115 Cmp5.yN, .static Cmp5.yN, .code Cmp5.yN Cmp5.yB 7 (some .int), .code CodL.yN CodL.yB 2 (some .byte)]
theorem tab_of {a : Array Value} {s : State} (h : ∀ w ∈ words, w.before a s = true) : New1.tab.before a s = true := by
  have h5 : Cmp5.tab.before a s = true := unparts (wk h (.code Cmp5.yN Cmp5.yB 7 (some .int))) (wks h (.initialized Cmp5.yN.cls :: Cmp5.site))
  have hc : CodL.tab.before a s = true := unparts (wk h (.code CodL.yN CodL.yB 2 (some .byte))) (wks h (.initialized CodL.yN.cls :: CodL.site))
  have q5 : ∀ w ∈ Cmp5.tab :: words, w.before a s = true := fun w hw => (List.mem_cons.mp hw).elim (fun e => e ▸ h5) (h w)
  have h3 : Cmp3.tab.before a s = true := unparts (wk q5 (.code Cmp3.yN Cmp3.yB 6 (some (.array .byte)))) (wks q5 (.initialized Cmp3.yN.cls :: Cmp3.site))
  have q3 : ∀ w ∈ Cmp3.tab :: CodL.tab :: words, w.before a s = true := fun w hw => (List.mem_cons.mp hw).elim (fun e => e ▸ h3) fun hw => (List.mem_cons.mp hw).elim (fun e => e ▸ hc) (h w)
  have h4 : New4.tab.before a s = true := unparts (wk q3 (.code New4.yN New4.yB 6 none)) (wks q3 (.initialized New4.yN.cls :: New4.site))
  have q4 : ∀ w ∈ New4.tab :: words, w.before a s = true := fun w hw => (List.mem_cons.mp hw).elim (fun e => e ▸ h4) (h w)
  exact unparts (wk q4 (.code New1.yN New1.yB 2 none)) (wks q4 (.initialized New1.yN.cls :: New1.site))
/-- the words ride from the start Z to the walk's own state -/
theorem moved {Z s : State} {a0 args : Array Value} (hZ : Z.Warmed39 s.vm) (hw : ∀ d ∈ words, d.before a0 Z = true) : ∀ d ∈ words, d.before args s = true := fun d hd => by
  have q := hw d hd
  have t : ∀ d ∈ words, d = .arrayClass .byte ∨ (d.onTables && d.keepsFace) = true := by decide +kernel
  rcases t d hd with rfl | t
  · exact RoadKit.mvA hZ q
  · exact RoadKit.mv hZ q t
/-- WHAT COMES BACK, over the tables of the start Z: h the heap at the call, h' behind it -/
def Q (Z : State) (x : Addr) (A : Cell) (h : Heap) (v : Option Value) (h' : Heap) (L : List Loc) : Prop := v = none ∧ (∀ y ∈ L, y.base = x) ∧ RoadKit.Keep h h' [x] ∧ h'.size = h.size + 1 ∧ RoadKit.Exa Z h' x ST ∧ RoadKit.Fld Z h' x ST "value" "[B" (.ref h.size) ∧ RoadKit.Fld Z h' x ST "coder" "B" (.int 0) ∧
  (∃ V : Cell, RoadKit.Arr Z h' h.size V .byte ∧ V.vm = .none ∧ Z.vm.findClass "[B" = some V.cls ∧ V.slots.size = A.slots.size ∧ ∀ j, j < A.slots.size → V.slots[j]? = some (.int (lo8 (cv A j)))) ∧
  ∀ (O n d : String) (w : Value), RoadKit.Fld Z h x O n d w → RoadKit.slotOf Z O n d ≠ RoadKit.slotOf Z ST "value" "[B" → RoadKit.slotOf Z O n d ≠ RoadKit.slotOf Z ST "coder" "B" → RoadKit.Fld Z h' x O n d w
/-- **new String(chars) AT A CALL, IN THE ROAD'S FORM**: for specialBack behind newO: x the fresh String, b the char[] with the cell A -/
theorem back {p : Program} {l : Launch} {e : Env} {R : Room} {s : State} {args : Array Value} {below : List Frame} {len W : Nat} {Z : State} {a0 : Array Value} {h : Heap} (hZ : Z.Warmed39 s.vm) (hw : ∀ d ∈ words, d.before a0 Z = true) {kI : Nat} (wi : (Jvm.Cond.instantiable ST kI).before a0 Z = true)
    {x b : Addr} {A : Cell} {z : Int32} {v0 c0 : Value} (E : RoadKit.Exa Z h x ST) (V : RoadKit.Fld Z h x ST "value" "[B" v0) (C : RoadKit.Fld Z h x ST "coder" "B" c0) (K : RoadKit.Arr Z h b A .char) (hty : Typed .char A) (S : RoadKit.Sta Z h ST "COMPACT_STRINGS" "Z" (.int z)) (hz : ¬ z = 0)
    (l0 : 0 < A.slots.size) (l2 : A.slots.size ≤ 536870912) (hp : ∀ i, i < A.slots.size → ¬ 255 < cv A i) (hfr : 4 ≤ R.frames) (hlo : W + 65 ≤ R.locals) :
    Back l R p e below s args New1.yN len W (fun P a => a = #[.ref x, .ref b] ∧ P.U.heap = h ∧ P.cells + 1 ≤ R.cells ∧ P.slots + A.slots.size ≤ R.slots)
      (fun P _ v B => ∃ L, Q Z x A h v B.U.heap L ∧ B.locs = P.locs ++ L ∧ B.cells = P.cells + 1 ∧ B.slots = P.slots + A.slots.size) := by
  intro m meth c P g ig mk a X hg hsize hdg hW hn hp'
  obtain ⟨rfl, rfl, r1, r2⟩ := hp'
  have al : Z.vm.Alike P.U.vm := hZ.alike.trans X.warmed.alike
  obtain ⟨D, cfV, kV, iV, fV, hD, gV, stV, knV, obV, asV, slV⟩ := id V
  obtain ⟨D', cfC, kC, iC, fC, hD', gC, stC, -, -, asC, slC⟩ := id C
  cases hD.symm.trans hD'
  obtain ⟨D2, kD, e1, e2, e3, e4, e5⟩ := id E
  cases hD.symm.trans e1
  obtain ⟨c2, k2, i1, i2, i3, -⟩ := Cond.instantiable_spec wi
  cases e2.symm.trans i1
  cases e3.symm.trans i2
  obtain ⟨kU, u1, u2⟩ := al.2.2 _ _ e3
  have hB : Blank ST x D P.U := ⟨hD, ⟨knV, fun q hq => by rw [hq] at obV; cases obV⟩, by rw [al.findClass]; exact e2, kU, u1, by rw [u2]; exact i3, by rw [u2]; exact e5 i3⟩
  have F1 : Found ST "value" "[B" fV P.U := ⟨SBG.found_only al ⟨cfV, kV, iV, gV⟩, stV⟩
  have F2 : Found ST "coder" "B" fC P.U := ⟨SBG.found_only al ⟨cfC, kC, iC, gC⟩, stC⟩
  have hA : Ch b A P.U := ⟨⟨K.1, State.isArrayOf_alike al K.2.1, K.2.2, by omega⟩, hty⟩
  have hS : StaticIs P.U ST "COMPACT_STRINGS" "Z" (.int z) := by
    obtain ⟨cfS, iS, kS, fS, st, cS, t1, t2, t3, t4, t5, t6, t7⟩ := S
    exact StaticIs.there (s := { Z with heap := P.U.heap }) ⟨cfS, iS, kS, fS, st, cS, t1, t2, t3, t4, t5, (fun q => by rw [q] at t6; cases t6), t7⟩ al rfl
  obtain ⟨v, B, X', ⟨⟨hv, E', V', q1, q2, q3, q4, q5, q6, q7, q8, q9, q10, q11⟩, hl, hc, hs⟩, st⟩ := New1.pays x D fV fC b A z (tab_of (moved hZ hw)) hfr hlo m meth c P g ig mk _ X hg hsize hdg hW hn ⟨r1, r2, rfl, hB, F1, F2, hA, hS, hz, l0, l2, hp⟩
  have al' : Z.vm.Alike B.U.vm := hZ.alike.trans X'.warmed.alike
  have hsz : E'.slots.size = D.slots.size := by
    obtain ⟨-, -, -, kB, w1, w2, w3⟩ := q1
    obtain ⟨kB', y1, y2⟩ := al'.2.2 _ _ e3
    rw [q2.2.1] at w1
    cases w1.symm.trans y1
    rw [w3, e5 i3, y2]
  refine ⟨v, B, X', ⟨_, ⟨hv, ?_, ⟨by omega, fun y cy hy hn' => q10 y cy (by simpa using hn') hy, fun y cy hy => ?_⟩, q11, ⟨E', _, q1.1, by rw [q2.2.1]; exact e2, by rw [q2.2.1]; exact e3, by rw [q2.1]; exact obV, fun _ => by rw [hsz]; exact e5 i3⟩,
    ⟨E', cfV, kV, iV, fV, q1.1, gV, stV, by rw [q2.1]; exact knV, by rw [q2.1]; exact obV, by rw [q2.2.1]; exact asV, q3⟩, ⟨E', cfC, kC, iC, fC, q1.1, gC, stC, by rw [q2.1]; exact knV, by rw [q2.1]; exact obV, by rw [q2.2.1]; exact asC, q4⟩,
    ⟨V', ⟨q5.1, State.isArrayOf_alike al'.symm q5.2.1, q5.2.2.1⟩, q6, by rw [← al'.findClass]; exact q7, q8, fun j hj => by have := q9 j hj; rwa [Nat.zero_add] at this⟩, fun O n d w F n1 n2 => ?_⟩, hl, hc, hs⟩, st⟩
  · intro y hy
    simp only [List.mem_cons, List.not_mem_nil, or_false] at hy
    rcases hy with rfl | rfl <;> rfl
  · by_cases q : y = x
    · subst q
      cases hD.symm.trans hy
      exact ⟨E', q1.1, q2.2.1, q2.1, hsz⟩
    · exact ⟨cy, q10 y cy q hy, rfl, rfl, rfl⟩
  · obtain ⟨D3, cf, k, i, f, g1, g2, g3, g4, g5, g6, g7⟩ := F
    cases hD.symm.trans g1
    simp only [RoadKit.slotOf, g2, gV, gC, Option.map_some, Option.getD_some] at n1 n2
    exact ⟨E', cf, k, i, f, q1.1, g2, g3, by rw [q2.1]; exact g4, by rw [q2.1]; exact g5, by rw [q2.2.1]; exact g6, by rw [q2.2.2 f.slot (by simp [n1, n2])]; exact g7⟩
end StrChars.Road
namespace StrChars.Road
open Jvm Sem ClassFile Op Lib Jvm.Stand Jvm.Free Jvm.Free.XT
/-- WHAT COMES BACK, the byte[] as a list of values -/
def QA (Z : State) (x : Addr) (zn : Int32) (cs : List Int32) (h : Heap) (v : Option Value) (h' : Heap) (L : List Loc) : Prop := v = none ∧ (∀ y ∈ L, y.base = x) ∧ RoadKit.Keep h h' [x] ∧ h'.size = h.size + 1 ∧ RoadKit.Exa Z h' x ST ∧ RoadKit.Fld Z h' x ST "value" "[B" (.ref h.size) ∧ RoadKit.Fld Z h' x ST "coder" "B" (.int 0) ∧
  (∃ kb, Z.vm.findClass "[B" = some kb ∧ RoadKit.Arv Z h' h.size kb .byte zn (cs.map fun c => .int (lo8 c)) (.int 0)) ∧
  ∀ (O n d : String) (w : Value), RoadKit.Fld Z h x O n d w → RoadKit.slotOf Z O n d ≠ RoadKit.slotOf Z ST "value" "[B" → RoadKit.slotOf Z O n d ≠ RoadKit.slotOf Z ST "coder" "B" → RoadKit.Fld Z h' x O n d w
/-- **new String(chars) AT A CALL, THE ARRAYS AS LISTS**: the char[] at b holds cs, not empty, no char above 255 -/
theorem backArv {p : Program} {l : Launch} {e : Env} {R : Room} {s : State} {args : Array Value} {below : List Frame} {len W : Nat} {Z : State} {a0 : Array Value} {h : Heap} (hZ : Z.Warmed39 s.vm) (hw : ∀ d ∈ words, d.before a0 Z = true) {kI : Nat} (wi : (Jvm.Cond.instantiable ST kI).before a0 Z = true)
    {x b : Addr} {k : ClassId} {zn z : Int32} {cs : List Int32} {dv v0 c0 : Value} (E : RoadKit.Exa Z h x ST) (V : RoadKit.Fld Z h x ST "value" "[B" v0) (C : RoadKit.Fld Z h x ST "coder" "B" c0) (K : RoadKit.Arv Z h b k .char zn (cs.map Value.int) dv) (S : RoadKit.Sta Z h ST "COMPACT_STRINGS" "Z" (.int z)) (hz : ¬ z = 0)
    (hlen : zn.toNatClampNeg = cs.length) (h0 : 0 < cs.length) (hbig : cs.length ≤ 536870912) (hall : ∀ c ∈ cs, ¬ 255 < c) (hfr : 4 ≤ R.frames) (hlo : W + 65 ≤ R.locals) :
    Back l R p e below s args New1.yN len W (fun P a => a = #[.ref x, .ref b] ∧ P.U.heap = h ∧ P.cells + 1 ≤ R.cells ∧ P.slots + cs.length ≤ R.slots)
      (fun P _ v B => ∃ L, QA Z x zn cs h v B.U.heap L ∧ B.locs = P.locs ++ L ∧ B.cells = P.cells + 1 ∧ B.slots = P.slots + cs.length) := by
  obtain ⟨A, K1, K2, K3, K4, K5, K6⟩ := K
  have e : A.slots.size = cs.length := K3.trans hlen
  have hat : ∀ (i : Nat) (hi : i < cs.length), A.slots[i]? = some (.int cs[i]) := fun i hi => by rw [K5 i (by omega)]; simp [List.getD_eq_getElem?_getD, hi]
  have hcv : ∀ (i : Nat) (hi : i < cs.length), cv A i = cs[i] := fun i hi => by unfold cv; rw [hat i hi]
  have hty : Typed .char A := fun i v hv => by
    have hi : i < A.slots.size := (Array.getElem?_eq_some_iff.mp hv).1
    have q := K5 i hi
    rw [hv] at q
    rw [Option.some.inj q]
    exact K6 i hi
  refine Back.mono (back hZ hw wi E V C K1 hty S hz (by omega) (by omega) (fun i hi => by rw [hcv i (by omega)]; exact hall _ (List.getElem_mem _)) hfr hlo) (fun P a hp => ⟨hp.1, hp.2.1, hp.2.2.1, by rw [e]; exact hp.2.2.2⟩) (fun P a v B hp hq => ?_)
  obtain ⟨L, ⟨q1, q2, q3, q4, q5, q6, q7, ⟨V', v1, v2, v3, v4, v5⟩, q9⟩, hl, hc, hs⟩ := hq
  refine ⟨L, ⟨q1, q2, q3, q4, q5, q6, q7, ⟨V'.cls, v3, V', v1, rfl, by rw [v4, e, hlen], K4, fun i hi => ?_, fun i hi => ?_⟩, q9⟩, hl, hc, by rw [hs, e]⟩
  · have hi' : i < cs.length := by omega
    rw [v5 i (by omega), hcv i hi']; simp [List.getD_eq_getElem?_getD, hi']
  · have hi' : i < cs.length := by omega
    simp only [List.getD_eq_getElem?_getD, List.getElem?_map, List.getElem?_eq_getElem hi', Option.map_some, Option.getD_some]
    exact fits_lo8 _
end StrChars.Road
namespace StrChars.Road
open Jvm Sem ClassFile Op Lib Jvm.Stand Jvm.Free Jvm.Free.XT
/-- WHAT COMES BACK, in the writer's own shape -/
def QV (Z : State) (x : Addr) (N : Int32) (bs : List Int32) (h : Heap) (n0 : Nat) (v : Option Value) (h' : Heap) (L : List Loc) : Prop := v = none ∧ RoadKit.Fr n0 L ∧ RoadKit.Keep h h' [x] ∧ RoadKit.Exa Z h' x ST ∧ RoadKit.Fld Z h' x ST "coder" "B" (.int 0) ∧
  ∃ (t : Addr) (kb : ClassId), n0 ≤ t ∧ h.size ≤ t ∧ ¬ t = x ∧ RoadKit.Fld Z h' x ST "value" "[B" (.ref t) ∧ RoadKit.Arv Z h' t kb .byte N (bs.map Value.int) (.int 0)
/-- **new String(chars) AT A CALL, FOR THE WRITER**: a char[] of n known ints, each 0 to 255 -/
theorem backV {p : Program} {l : Launch} {e : Env} {R : Room} {s : State} {args : Array Value} {below : List Frame} {len W : Nat} {Z : State} {a0 : Array Value} {h : Heap} (hZ : Z.Warmed39 s.vm) (hw : ∀ d ∈ words, d.before a0 Z = true) {kI : Nat} (wi : (Jvm.Cond.instantiable ST kI).before a0 Z = true)
    {x b : Addr} {kC : ClassId} {cs bs : List Int32} {d v0 c0 : Value} {z N : Int32} {n n0 : Nat} (hx0 : n0 ≤ x) (hh0 : n0 ≤ h.size) (E : RoadKit.Exa Z h x ST) (V : RoadKit.Fld Z h x ST "value" "[B" v0) (C : RoadKit.Fld Z h x ST "coder" "B" c0) (K : RoadKit.Arv Z h b kC .char N (cs.map Value.int) d) (S : RoadKit.Sta Z h ST "COMPACT_STRINGS" "Z" (.int z)) (hz : ¬ z = 0)
    (hn : cs.length = n) (hN : N = Int32.ofNat n) (l0 : 0 < n) (l2 : n ≤ 4000) (hp : ∀ c ∈ cs, ¬ c < 0 ∧ ¬ (255 : Int32) < c) (hb : bs = cs.map (fun c => c.toInt8.toInt32)) (hfr : 4 ≤ R.frames) (hlo : W + 65 ≤ R.locals) :
    Back l R p e below s args (⟨"java/lang/String", "<init>", "([C)V"⟩ : MethodName) len W (fun P a => a = #[.ref x, .ref b] ∧ P.U.heap = h ∧ P.cells + 1 ≤ R.cells ∧ P.slots + n ≤ R.slots)
      (fun P _ v B => ∃ L, QV Z x N bs h n0 v B.U.heap L ∧ B.locs = P.locs ++ L ∧ B.cells = P.cells + 1 ∧ B.slots = P.slots + n) := by
  subst hn hN hb
  refine Back.mono (backArv hZ hw wi E V C K S hz (n32 (by omega)) l0 (by omega) (fun c hc => (hp c hc).2) hfr hlo) (fun P a hp => hp) (fun P a v B hp hq => ?_)
  obtain ⟨L, ⟨q1, q2, q3, q4, q5, q6, q7, ⟨kb, v1, v2⟩, q9⟩, hl, hc, hs⟩ := hq
  exact ⟨L, ⟨q1, fun y hy => by rw [q2 y hy]; exact hx0, q3, q5, q7, h.size, kb, hh0, Nat.le_refl _, Nat.ne_of_gt E.lt, q6, by rw [List.map_map]; exact v2⟩, hl, hc, hs⟩
end StrChars.Road
namespace StrChars
open Jvm Sem ClassFile Op Lib Jvm.Stand Jvm.Free.XT Jvm.Free.ALB Jvm.Free.JM Jvm.Free
open Jvm.Lib.Cold (StaticIs)
def hi8 (x : Int32) : Int32 := lo8 (x >>> ((8 : Int32) &&& 31))
/-- what StringUTF16.getChar makes of two bytes -/
def pairCh (u v : Int32) : Int32 := (((u &&& 255) <<< ((0 : Int32) &&& 31)) ||| ((v &&& 255) <<< ((8 : Int32) &&& 31))).toUInt32.toUInt16.toUInt32.toInt32
theorem shr0 (c : Int32) : c >>> ((0 : Int32) &&& 31) = c := by
  have e : ((0 : Int32) &&& 31) = 0 := by decide
  rw [e]
  apply Int32.toBitVec_inj.mp
  rw [Int32.toBitVec_shiftRight]
  have e1 : ((0 : Int32).toBitVec.smod 32) = 0#32 := by decide
  rw [e1, BitVec.sshiftRight_eq']
  exact BitVec.sshiftRight_zero
theorem lo8_and (x : Int32) : (lo8 x &&& 255).toBitVec.toNat = x.toBitVec.toNat % 256 := by
  have h : (lo8 x).toBitVec = (x.toBitVec.signExtend 8).signExtend 32 := by rw [lo8, Int8.toBitVec_toInt32, Int32.toBitVec_toInt8]
  rw [Int32.toBitVec_and, BitVec.toNat_and, h]
  have e : ((x.toBitVec.signExtend 8).signExtend 32).toNat % 256 = x.toBitVec.toNat % 256 := by
    rw [BitVec.toNat_signExtend]
    have hlt := x.toBitVec.isLt
    simp only [BitVec.toNat_setWidth, BitVec.toNat_signExtend]
    split <;> split <;> omega
  rw [← e]
  exact Nat.and_two_pow_sub_one_eq_mod _ 8
theorem pair_says {c : Int32} (h0 : ¬ c < 0) (h1 : ¬ 65535 < c) : pairCh (lo8 c) (hi8 c) = c := by
  rw [Int32.lt_iff_toInt_lt] at h0 h1
  have e0 : (0 : Int32).toInt = 0 := rfl
  have e1 : (65535 : Int32).toInt = 65535 := rfl
  have hc : c.toInt = c.toBitVec.toNat := by
    have := c.toBitVec.isLt
    have e : c.toInt = c.toBitVec.toInt := rfl
    rw [e] at h0 h1
    rw [e]
    rw [BitVec.toInt_eq_toNat_cond] at h0 h1 ⊢
    split at h0 <;> split <;> omega
  have hn : c.toBitVec.toNat < 65536 := by omega
  have a1 := lo8_and c
  have a2 : (hi8 c &&& 255).toBitVec.toNat = c.toBitVec.toNat / 256 := by
    rw [hi8, lo8_and]
    have e : ((8 : Int32) &&& 31) = 8 := by decide
    rw [e, Int32.toBitVec_shiftRight]
    have e2 : ((8 : Int32).toBitVec.smod 32) = 8#32 := by decide
    rw [e2, BitVec.sshiftRight_eq', BitVec.toNat_sshiftRight_of_msb_false (by rw [BitVec.msb_eq_false_iff_two_mul_lt]; omega)]
    show c.toBitVec.toNat >>> 8 % 256 = _
    rw [Nat.shiftRight_eq_div_pow]
    omega
  unfold pairCh
  apply Int32.toBitVec_inj.mp
  apply BitVec.eq_of_toNat_eq
  have f0 : ((0 : Int32) &&& 31) = 0 := by decide
  have f8 : ((8 : Int32) &&& 31) = 8 := by decide
  rw [f0, f8]
  have g : (((lo8 c &&& 255) <<< (0 : Int32)) ||| ((hi8 c &&& 255) <<< (8 : Int32))).toBitVec.toNat = c.toBitVec.toNat := by
    rw [Int32.toBitVec_or, Int32.toBitVec_shiftLeft, Int32.toBitVec_shiftLeft]
    have s0 : ((0 : Int32).toBitVec.smod 32) = 0#32 := by decide
    have s8 : ((8 : Int32).toBitVec.smod 32) = 8#32 := by decide
    rw [s0, s8, BitVec.toNat_or]
    simp only [BitVec.shiftLeft_eq', BitVec.toNat_shiftLeft, a1, a2]
    show (c.toBitVec.toNat % 256) <<< 0 % 2 ^ 32 ||| (c.toBitVec.toNat / 256) <<< 8 % 2 ^ 32 = _
    rw [Nat.shiftLeft_zero, Nat.mod_eq_of_lt (show c.toBitVec.toNat % 256 < 2 ^ 32 by omega), Nat.mod_eq_of_lt (show (c.toBitVec.toNat / 256) <<< 8 < 2 ^ 32 by rw [Nat.shiftLeft_eq]; omega), Nat.or_comm, ← Nat.shiftLeft_add_eq_or_of_lt (by omega), Nat.shiftLeft_eq]
    omega
  show BitVec.toNat (((((lo8 c &&& 255) <<< (0 : Int32)) ||| ((hi8 c &&& 255) <<< (8 : Int32))).toBitVec.setWidth 16).setWidth 32) = _
  rw [BitVec.toNat_setWidth, BitVec.toNat_setWidth, g]
  omega
end StrChars
namespace StrChars
open Jvm Sem ClassFile Op Lib Jvm.Stand Jvm.Free.XT Jvm.Free.ALB Jvm.Free.JM Jvm.Free
open Jvm.Lib.Cold (StaticIs)
theorem shr1 {n : Nat} (h : 2 * n < 2 ^ 31) : Int32.ofNat (2 * n) >>> ((1 : Int32) &&& 31) = Int32.ofNat n := by
  have e : ((1 : Int32) &&& 31) = 1 := by decide
  rw [e]
  apply Int32.toBitVec_inj.mp
  rw [Int32.toBitVec_shiftRight]
  have e1 : ((1 : Int32).toBitVec.smod 32) = 1#32 := by decide
  have hm : (BitVec.ofNat 32 (2 * n)).toNat = 2 * n := by rw [BitVec.toNat_ofNat, Nat.mod_eq_of_lt (by omega)]
  rw [e1, BitVec.sshiftRight_eq']
  apply BitVec.eq_of_toNat_eq
  show ((BitVec.ofNat 32 (2 * n)).sshiftRight 1).toNat = (BitVec.ofNat 32 n).toNat
  rw [BitVec.toNat_sshiftRight_of_msb_false (by rw [BitVec.msb_eq_false_iff_two_mul_lt, hm]; omega), hm, BitVec.toNat_ofNat, Nat.shiftRight_eq_div_pow]
  omega
/-- the array's cell V codes the n chars f 0 .. f (n - 1) by the coder cd, as the JDK does: coder 1 just where some char is above 255 -/
def Cod (cd : Int32) (n : Nat) (f : Nat → Int32) (V : Cell) : Prop := (cd = 0 ∧ V.slots.size = n ∧ ∀ j, j < n → V.slots[j]? = some (.int (lo8 (f j))) ∧ ¬ 255 < f j) ∨ (cd = 1 ∧ V.slots.size = 2 * n ∧ (∀ j, j < n → V.slots[2 * j]? = some (.int (lo8 (f j))) ∧ V.slots[2 * j + 1]? = some (.int (hi8 (f j)))) ∧ ∃ j, j < n ∧ 255 < f j)
theorem Cod.cd {cd : Int32} {n : Nat} {f : Nat → Int32} {V : Cell} (h : Cod cd n f V) : cd = 0 ∨ cd = 1 := h.imp (fun q => q.1) fun q => q.1
theorem Cod.len {cd : Int32} {n : Nat} {f : Nat → Int32} {V : Cell} (h : Cod cd n f V) (hs : V.slots.size < 2 ^ 31) : Int32.ofNat V.slots.size >>> (cd &&& 31) = Int32.ofNat n := by
  rcases h with ⟨rfl, h, -⟩ | ⟨rfl, h, -⟩
  · rw [shr0, h]
  · rw [h, shr1 (by omega)]
/-- **x is a String of the n chars f 0 .. f (n - 1)**, Latin-1 or UTF-16; its array at t has the cell V -/
def Txt (x t : Addr) (V : Cell) (cd : Int32) (n : Nat) (f : Nat → Int32) (U : State) : Prop := Exact "java/lang/String" x U ∧ Has x "java/lang/String" "value" "[B" (.ref t) U ∧ Has x "java/lang/String" "coder" "B" (.int cd) U ∧ XT.Arr .byte t V U ∧ Cod cd n f V ∧ ∀ j, j < n → ¬ f j < 0 ∧ ¬ 65535 < f j
theorem Txt.mv {x t : Addr} {V : Cell} {cd : Int32} {n : Nat} {f : Nat → Int32} {U U' : State} (h : Txt x t V cd n f U) (hal : U.vm.Alike U'.vm) (hh : U'.heap = U.heap) : Txt x t V cd n f U' := ⟨h.1.mv hal hh, h.2.1.mv hal hh, h.2.2.1.mv hal hh, h.2.2.2.1.mv hal hh, h.2.2.2.2⟩
namespace Cdr
def yN : MethodName := ⟨"java/lang/String", "coder", "()B"⟩
abbrev yB : ByteArray := jdk_42_method_152_code
theorem d0 : decode yB 0 = .ok (.getstatic 38, 3) := by decide +kernel
theorem d3 : decode yB 3 = .ok (.ifCond (.eq) 10, 3) := by decide +kernel
theorem d6 : decode yB 6 = .ok (.aload_n 0, 1) := by decide +kernel
theorem d7 : decode yB 7 = .ok (.getfield 15, 3) := by decide +kernel
theorem d10 : decode yB 10 = .ok (.goto 4, 3) := by decide +kernel
theorem d14 : decode yB 14 = .ok (.ireturn, 1) := by decide +kernel
def site : List Cond := [.fieldLink "java/lang/String" 38 "java/lang/String" "COMPACT_STRINGS" "Z", .fieldLink "java/lang/String" 15 "java/lang/String" "coder" "B"]
def tab : Cond := tabOf yN yB 1 (some .byte) site
def P (x : Addr) (cd z : Int32) (args : Array Value) (s : State) : Prop := args = #[.ref x] ∧ Has x "java/lang/String" "coder" "B" (.int cd) s ∧ (cd = 0 ∨ cd = 1) ∧ StaticIs s "java/lang/String" "COMPACT_STRINGS" "Z" (.int z) ∧ ¬ z = 0
def E (cd : Int32) (r : Option Value) (s u : State) : Prop := XT.PureE (some (.int cd)) r s u
theorem law (l : Launch) (x : Addr) (cd z : Int32) : Law l yN 1 0 0 0 yB 1 (some .byte) site (P x cd z) (E cd) [] 0 0 := by
  refine Law.of_walk (plainFor_of_name (by decide +kernel)) (by decide +kernel) (by decide +kernel) (by decide) (fun _ _ h => by rw [h.1]; rfl) (fun _ U U' hal hh h => ⟨h.1, h.2.1.mv hal hh, h.2.2.1, h.2.2.2.1.there hal hh, h.2.2.2.2⟩) (fun r U U' V V' h1 hal h2 h => XT.PureE.mv r U U' V V' h1 hal h2 h) ?_
  intro p e s m args below meth c s₁ X0 hexec hbytes hml hret hlk hnm hown hh0 W hP
  obtain ⟨rfl, hx, hc, s1, hz⟩ := hP
  have c1 : Steps p.tables e below (s₁.setTop (entryFrame m #[.ref x] 1)) (s₁.setTop (mkF m 0 #[.val (.ref x)] [])) := entry rfl
  obtain ⟨T2, X2, q2, st2⟩ := X0.sget hexec hown (wk W (.fieldLink "java/lang/String" 38 "java/lang/String" "COMPACT_STRINGS" "Z")) s1 (fun _ _ h => by rw [hh0]; exact h) (g := (mkF m 0 #[.val (.ref x)] [])) rfl (hb hbytes d0)
  have hh2 := q2.trans hh0
  have c3 : Steps p.tables e below (s₁.setTop (entryFrame m #[.ref x] 1)) (T2.setTop (mkF m 7 #[.val (.ref x)] [.ref x])) := (c1.trans (st2 _ (Steps.refl _))).trans (by
    refine XS.ifNo X2.here hexec rfl (hb hbytes d3) rfl (i0_eq_f hz) ?_
    refine XS.aloadN X2.here hexec rfl (hb hbytes d6) rfl rfl ?_
    exact Steps.refl _)
  obtain ⟨T4, X4, q4, st4⟩ := X2.hget hexec hown (wk W (.fieldLink "java/lang/String" 15 "java/lang/String" "coder" "B")) (hx.mv X2.warmed.alike hh2) (g := (mkF m 7 #[.val (.ref x)] [.ref x])) rfl (rest := []) rfl (hb hbytes d7)
  have c5 : Steps p.tables e below (s₁.setTop (entryFrame m #[.ref x] 1)) (T4.setTop (mkF m 14 #[.val (.ref x)] [.int cd])) := (c3.trans (st4 _ (Steps.refl _))).trans (by
    refine XS.goto X4.here hexec rfl (pc0 := 10) rfl (hb hbytes d10) (by decide) rfl ?_
    exact Steps.refl _)
  exact ⟨T4, some (.int cd), _, _, _, X4, rfl, rfl, rfl, (fun h => by cases h), ⟨rfl, q4.trans hh2⟩, fun fs hl => c5.trans (X4.ireturnOut hexec hret (by rcases hc with rfl | rfl <;> rfl) (Or.inr (Or.inr (Or.inl rfl))) (hb hbytes d14) hl)⟩
end Cdr
namespace Len
def yN : MethodName := ⟨"java/lang/String", "length", "()I"⟩
abbrev yB : ByteArray := jdk_42_method_54_code
theorem d0 : decode yB 0 = .ok (.aload_n 0, 1) := by decide +kernel
theorem d1 : decode yB 1 = .ok (.getfield 9, 3) := by decide +kernel
theorem d4 : decode yB 4 = .ok (.arraylength, 1) := by decide +kernel
theorem d5 : decode yB 5 = .ok (.aload_n 0, 1) := by decide +kernel
theorem d6 : decode yB 6 = .ok (.invokevirtual 335, 3) := by decide +kernel
theorem d9 : decode yB 9 = .ok (.ishr, 1) := by decide +kernel
theorem d10 : decode yB 10 = .ok (.ireturn, 1) := by decide +kernel
def site : List Cond := [.fieldLink "java/lang/String" 9 "java/lang/String" "value" "[B", Cdr.tab] ++ virtW "java/lang/String" 335 "java/lang/String" Cdr.yN Cdr.yN
def tab : Cond := tabOf yN yB 1 (some .int) site
def P (x t : Addr) (V : Cell) (cd : Int32) (n : Nat) (f : Nat → Int32) (z : Int32) (args : Array Value) (s : State) : Prop := args = #[.ref x] ∧ Txt x t V cd n f s ∧ StaticIs s "java/lang/String" "COMPACT_STRINGS" "Z" (.int z) ∧ ¬ z = 0
def E (n : Nat) (r : Option Value) (s u : State) : Prop := XT.PureE (some (.int (Int32.ofNat n))) r s u
/-- length() of a String of n chars, in either coding -/
theorem law (l : Launch) (x t : Addr) (V : Cell) (cd : Int32) (n : Nat) (f : Nat → Int32) (z : Int32) : Law l yN 1 0 1 13 yB 1 (some .int) site (P x t V cd n f z) (E n) [] 0 0 := by
  refine Law.of_walk (plainFor_of_name (by decide +kernel)) (by decide +kernel) (by decide +kernel) (by decide) (fun _ _ h => by rw [h.1]; rfl) (fun _ U U' hal hh h => ⟨h.1, h.2.1.mv hal hh, h.2.2.1.there hal hh, h.2.2.2⟩) (fun r U U' V V' h1 hal h2 h => XT.PureE.mv r U U' V V' h1 hal h2 h) ?_
  intro p e s m args below meth c s₁ X0 hexec hbytes hml hret hlk hnm hown hh0 W hP
  obtain ⟨rfl, hx, s1, hz⟩ := hP
  have v31 := hx.2.2.2.1.2.2.2
  have c1 : Steps p.tables e below (s₁.setTop (entryFrame m #[.ref x] 1)) (s₁.setTop (mkF m 1 #[.val (.ref x)] [.ref x])) := Steps.trans (entry rfl) (by
    show Steps p.tables e below (s₁.setTop (mkF m 0 #[.val (.ref x)] [])) _
    refine XS.aloadN X0.here hexec rfl (hb hbytes d0) rfl rfl ?_
    exact Steps.refl _)
  obtain ⟨T2, X2, q2, st2⟩ := X0.hget hexec hown (wk W (.fieldLink "java/lang/String" 9 "java/lang/String" "value" "[B")) (hx.mv X0.warmed.alike hh0).2.1 (g := (mkF m 1 #[.val (.ref x)] [.ref x])) rfl (rest := []) rfl (hb hbytes d1)
  have hh2 := q2.trans hh0
  have hx2 := hx.mv X2.warmed.alike hh2
  have c3 : Steps p.tables e below (s₁.setTop (entryFrame m #[.ref x] 1)) (T2.setTop (mkF m 6 #[.val (.ref x)] [.ref x, .int (Int32.ofNat V.slots.size)])) := (c1.trans (st2 _ (Steps.refl _))).trans (by
    refine X2.alen hexec hx2.2.2.2.1 rfl rfl (hb hbytes d4) ?_
    refine XS.aloadN X2.here hexec rfl (hb hbytes d5) rfl rfl ?_
    exact Steps.refl _)
  obtain ⟨v4, T4, X4, E4, g4⟩ := X2.callV hexec (Cdr.law l x cd z) hown (wks W (virtW "java/lang/String" 335 "java/lang/String" Cdr.yN Cdr.yN)) rfl (by decide) (wk W Cdr.tab) (W := 1) (Nat.le_of_ble_eq_true rfl) (Nat.le_of_ble_eq_true rfl) (Nat.le_refl _) (Nat.le_refl _) (hx2.1.fc X2.warmed.alike) hx2.1.is (g := (mkF m 6 #[.val (.ref x)] [.ref x, .int (Int32.ofNat V.slots.size)])) rfl (by rw [hml]; rfl) c3 (argsL := []) (rest := [.int (Int32.ofNat V.slots.size)]) rfl rfl (by show 2 * 0 + (1 + 0) ≤ _; decide) (hb hbytes d6) (⟨rfl, hx2.2.2.1, hx.2.2.2.2.1.cd, s1.there X2.warmed.alike hh2, hz⟩)
  obtain ⟨rfl, q4⟩ := E4
  have c5 : Steps p.tables e below (s₁.setTop (entryFrame m #[.ref x] 1)) (T4.setTop (mkF m 10 #[.val (.ref x)] [.int (Int32.ofNat V.slots.size >>> (cd &&& 31))])) := Steps.trans g4 (by
    refine ishr X4.here hexec rfl (hb hbytes d9) rfl ?_
    exact Steps.refl _)
  rw [hx.2.2.2.2.1.len v31] at c5
  exact ⟨T4, some (.int (Int32.ofNat n)), _, _, _, X4, rfl, rfl, rfl, (fun h => by cases h), ⟨rfl, q4.trans hh2⟩, fun fs hl => c5.trans (X4.ireturnOut hexec hret rfl (Or.inl rfl) (hb hbytes d10) hl)⟩
theorem pays {l : Launch} {R : Room} {p : Program} {e : Env} {below : List Frame} {s : State} {sargs : Array Value} {len W : Nat} (x t : Addr) (V : Cell) (cd : Int32) (n : Nat) (f : Nat → Int32) (z : Int32) (htab : tab.before sargs s = true) (hfr : 2 ≤ R.frames) (hlo : W + 25 ≤ R.locals) :
    Back l R p e below s sargs yN len W (fun A₁ a₁ => A₁.cells + 0 ≤ R.cells ∧ A₁.slots + 0 ≤ R.slots ∧ P x t V cd n f z a₁ A₁.U) (fun A₁ _ v₁ B₁ => E n v₁ A₁.U B₁.U ∧ B₁.locs = A₁.locs ++ [] ∧ B₁.cells = A₁.cells + 0 ∧ B₁.slots = A₁.slots + 0) :=
  (law l x t V cd n f z).pays htab hfr (by omega)
end Len
end StrChars
namespace StrChars.Road
open Jvm Sem ClassFile Op Lib Jvm.Stand Jvm.Free Jvm.Free.XT
open Jvm.Lib.Cold (StaticIs)
theorem consq {a : Array Value} {s : State} {c : Jvm.Cond} {L : List Jvm.Cond} (h0 : c.before a s = true) (h : ∀ w ∈ L, w.before a s = true) : ∀ w ∈ c :: L, w.before a s = true := fun w hw => (List.mem_cons.mp hw).elim (fun e => e ▸ h0) (h w)
/-- the words of String.length(), either coding -/
abbrev wordsLen : List Jvm.Cond := [.code Len.yN Len.yB 1 (some .int), .initialized ST, .fieldLink ST 9 ST "value" "[B", .fieldLink ST 38 ST "COMPACT_STRINGS" "Z", .fieldLink ST 15 ST "coder" "B", .code Cdr.yN Cdr.yB 1 (some .byte), .methodLink ST 335 Cdr.yN, .declares Cdr.yN, .selects ST Cdr.yN Cdr.yN, .instanceMethod Cdr.yN]
theorem tabLen_of {a : Array Value} {s : State} (h : ∀ w ∈ wordsLen, w.before a s = true) : Len.tab.before a s = true := by
  have hc : Cdr.tab.before a s = true := unparts (wk h (.code Cdr.yN Cdr.yB 1 (some .byte))) (wks h (.initialized Cdr.yN.cls :: Cdr.site))
  have q := consq hc h
  exact unparts (wk q (.code Len.yN Len.yB 1 (some .int))) (wks q (.initialized Len.yN.cls :: Len.site))
theorem movedLen {Z s : State} {a0 args : Array Value} (hZ : Z.Warmed39 s.vm) (hw : ∀ d ∈ wordsLen, d.before a0 Z = true) : ∀ d ∈ wordsLen, d.before args s = true := fun d hd => by
  have q := hw d hd
  have t : ∀ d ∈ wordsLen, d = .arrayClass .byte ∨ (d.onTables && d.keepsFace) = true := by decide +kernel
  rcases t d hd with rfl | t
  · exact RoadKit.mvA hZ q
  · exact RoadKit.mv hZ q t
/-- the bytes of the chars cs, low before high -/
def wideBytes : List Int32 → List Value
  | [] => []
  | c :: cs => .int (lo8 c) :: .int (hi8 c) :: wideBytes cs
theorem wide_lo (d : Value) : ∀ (cs : List Int32) (j : Nat), j < cs.length → (wideBytes cs).getD (2 * j) d = .int (lo8 (cs.getD j 0))
  | [], j, h => absurd h (Nat.not_lt_zero j)
  | c :: cs, 0, _ => rfl
  | c :: cs, j + 1, h => by
    have q := wide_lo d cs j (by simpa using h)
    rw [show 2 * (j + 1) = 2 * j + 1 + 1 from by omega]
    simpa [wideBytes] using q
theorem wide_hi (d : Value) : ∀ (cs : List Int32) (j : Nat), j < cs.length → (wideBytes cs).getD (2 * j + 1) d = .int (hi8 (cs.getD j 0))
  | [], j, h => absurd h (Nat.not_lt_zero j)
  | c :: cs, 0, _ => rfl
  | c :: cs, j + 1, h => by
    have q := wide_hi d cs j (by simpa using h)
    rw [show 2 * (j + 1) + 1 = 2 * j + 1 + 1 + 1 from by omega]
    simpa [wideBytes] using q
theorem low_at (d : Value) (cs : List Int32) (j : Nat) (h : j < cs.length) : (cs.map fun c => Value.int (lo8 c)).getD j d = .int (lo8 (cs.getD j 0)) := by
  simp [List.getD_eq_getElem?_getD, h]
/-- an array of N2 bytes vs codes the chars cs by the coder cd -/
def CodA (cs : List Int32) (cd N2 : Int32) (vs : List Value) : Prop := (cd = 0 ∧ N2 = Int32.ofNat cs.length ∧ vs = (cs.map fun c => Value.int (lo8 c)) ∧ ∀ c ∈ cs, ¬ 255 < c) ∨ (cd = 1 ∧ N2 = Int32.ofNat (2 * cs.length) ∧ vs = wideBytes cs ∧ ∃ c ∈ cs, 255 < c)
theorem CodA.cod {cs : List Int32} {cd N2 : Int32} {vs : List Value} {V : Cell} (h : CodA cs cd N2 vs) (hn : 2 * cs.length < 2 ^ 31) (hs : V.slots.size = N2.toNatClampNeg) (hv : RoadKit.Has V vs (.int 0)) : Cod cd cs.length (fun j => cs.getD j 0) V := by
  rcases h with ⟨rfl, rfl, rfl, h⟩ | ⟨rfl, rfl, rfl, c, hc, hw⟩
  · rw [n32 (by omega)] at hs
    exact Or.inl ⟨rfl, hs, fun j hj => ⟨by rw [hv j (by omega), low_at _ _ _ hj], by
      have e : cs.getD j 0 = cs[j] := by simp [List.getD_eq_getElem?_getD, hj]
      show ¬ 255 < cs.getD j 0
      rw [e]; exact h _ (List.getElem_mem _)⟩⟩
  · rw [n32 (by omega)] at hs
    obtain ⟨j, hj, rfl⟩ := List.getElem_of_mem hc
    exact Or.inr ⟨rfl, hs, fun j hj => ⟨by rw [hv _ (by omega), wide_lo _ _ _ hj], by rw [hv _ (by omega), wide_hi _ _ _ hj]⟩, j, hj, by
      have e : cs.getD j 0 = cs[j] := by simp [List.getD_eq_getElem?_getD, hj]
      show 255 < cs.getD j 0
      rw [e]; exact hw⟩
/-- an object of exactly java/lang/String, its two fields found: as the laws ask it -/
theorem strObj {Z U : State} {a0 : Array Value} {kI : Nat} (wi : (Jvm.Cond.instantiable ST kI).before a0 Z = true) (al : Z.vm.Alike U.vm) {x : Addr} {v0 c0 : Value} (E : RoadKit.Exa Z U.heap x ST) (V : RoadKit.Fld Z U.heap x ST "value" "[B" v0) (C : RoadKit.Fld Z U.heap x ST "coder" "B" c0) :
    ∃ (D : Cell) (fV fC : Field), Blank ST x D U ∧ Found ST "value" "[B" fV U ∧ Found ST "coder" "B" fC U ∧ D.slots[fV.slot]? = some v0 ∧ D.slots[fC.slot]? = some c0 ∧ RoadKit.slotOf Z ST "value" "[B" = fV.slot ∧ RoadKit.slotOf Z ST "coder" "B" = fC.slot := by
  obtain ⟨D, cfV, kV, iV, fV, hD, gV, stV, knV, obV, asV, slV⟩ := V
  obtain ⟨D', cfC, kC, iC, fC, hD', gC, stC, -, -, asC, slC⟩ := C
  cases hD.symm.trans hD'
  obtain ⟨D2, kD, e1, e2, e3, e4, e5⟩ := E
  cases hD.symm.trans e1
  obtain ⟨c2, k2, i1, i2, i3, -⟩ := Cond.instantiable_spec wi
  cases e2.symm.trans i1
  cases e3.symm.trans i2
  obtain ⟨kU, u1, u2⟩ := al.2.2 _ _ e3
  exact ⟨D, fV, fC, ⟨hD, ⟨knV, fun q hq => by rw [hq] at obV; cases obV⟩, by rw [al.findClass]; exact e2, kU, u1, by rw [u2]; exact i3, by rw [u2]; exact e5 i3⟩, ⟨SBG.found_only al ⟨cfV, kV, iV, gV⟩, stV⟩, ⟨SBG.found_only al ⟨cfC, kC, iC, gC⟩, stC⟩, slV, slC, by simp [RoadKit.slotOf, gV], by simp [RoadKit.slotOf, gC]⟩
theorem sta_is {Z U : State} (al : Z.vm.Alike U.vm) {C n d : String} {v : Value} (S : RoadKit.Sta Z U.heap C n d v) : StaticIs U C n d v := by
  obtain ⟨cfS, iS, kS, fS, st, cS, t1, t2, t3, t4, t5, t6, t7⟩ := S
  exact StaticIs.there (s := { Z with heap := U.heap }) ⟨cfS, iS, kS, fS, st, cS, t1, t2, t3, t4, t5, (fun q => by rw [q] at t6; cases t6), t7⟩ al rfl
/-- **length() OF SUCH A STRING** -/
theorem lenW {p : Program} {l : Launch} {e : Env} {R : Room} {s : State} {args : Array Value} {below : List Frame} {len W : Nat} {Z : State} {a0 : Array Value} {h : Heap} (hZ : Z.Warmed39 s.vm) (hw : ∀ d ∈ wordsLen, d.before a0 Z = true) {kI : Nat} (wi : (Jvm.Cond.instantiable ST kI).before a0 Z = true)
    {x t : Addr} {kb : ClassId} {cs : List Int32} {cd N2 z : Int32} {vs : List Value} (E : RoadKit.Exa Z h x ST) (V : RoadKit.Fld Z h x ST "value" "[B" (.ref t)) (C : RoadKit.Fld Z h x ST "coder" "B" (.int cd)) (K : RoadKit.Arv Z h t kb .byte N2 vs (.int 0)) (hc : CodA cs cd N2 vs) (hb : ∀ c ∈ cs, ¬ c < 0 ∧ ¬ (65535 : Int32) < c)
    (S : RoadKit.Sta Z h ST "COMPACT_STRINGS" "Z" (.int z)) (hz : ¬ z = 0) (l2 : cs.length ≤ 4000) (hfr : 2 ≤ R.frames) (hlo : W + 25 ≤ R.locals) :
    Back l R p e below s args (⟨"java/lang/String", "length", "()I"⟩ : MethodName) len W (fun P a => a = #[.ref x] ∧ P.U.heap = h ∧ P.cells + 0 ≤ R.cells ∧ P.slots + 0 ≤ R.slots)
      (fun P _ v B => ∃ L, (v = some (.int (Int32.ofNat cs.length)) ∧ L = [] ∧ B.U.heap = h) ∧ B.locs = P.locs ++ L ∧ B.cells = P.cells + 0 ∧ B.slots = P.slots + 0) := by
  obtain ⟨A, K1, K2, K3, K4, K5, K6⟩ := K
  have hcod := hc.cod (by omega) K3 K5
  intro m meth c P g ig mk a X hg hsize hdg hW hn hp'
  obtain ⟨rfl, rfl, r1, r2⟩ := hp'
  have al : Z.vm.Alike P.U.vm := hZ.alike.trans X.warmed.alike
  obtain ⟨D, fV, fC, hB, F1, F2, g1, g2, -, -⟩ := strObj wi al E V C
  have hx : Txt x t A cd cs.length (fun j => cs.getD j 0) P.U := ⟨⟨_, hB.2.2.1, D, hB.1, rfl, by cases q : D.vm <;> first | rfl | exact absurd q (hB.2.1.2 _)⟩, Has.of hB F1 g1, Has.of hB F2 g2, ⟨K1.1, State.isArrayOf_alike al K1.2.1, K1.2.2, by rcases hcod with ⟨-, q, -⟩ | ⟨-, q, -⟩ <;> omega⟩, hcod, fun j hj => by
    have e : cs.getD j 0 = cs[j] := by simp [List.getD_eq_getElem?_getD, hj]
    show ¬ cs.getD j 0 < 0 ∧ ¬ 65535 < cs.getD j 0
    rw [e]; exact hb _ (List.getElem_mem _)⟩
  obtain ⟨v, B, X', ⟨⟨hv, hh⟩, hl, hk, hs⟩, st⟩ := Len.pays x t A cd cs.length (fun j => cs.getD j 0) z (tabLen_of (movedLen hZ hw)) hfr hlo m meth c P g ig mk _ X hg hsize hdg hW hn ⟨r1, r2, rfl, hx, sta_is al S, hz⟩
  exact ⟨v, B, X', ⟨[], ⟨hv, rfl, hh⟩, hl, hk, hs⟩, st⟩
end StrChars.Road
namespace StrChars
open Jvm Sem ClassFile Op Lib Jvm.Stand Jvm.Free.XT Jvm.Free.ALB Jvm.Free.JM Jvm.Free
open Jvm.Lib.Cold (StaticIs)
theorem lo8_inj {x y : Int32} (h0 : ¬ x < 0) (h1 : ¬ 255 < x) (k0 : ¬ y < 0) (k1 : ¬ 255 < y) (h : lo8 x = lo8 y) : x = y := by
  rw [← lo8_mask h0 h1, ← lo8_mask k0 k1, h]
end StrChars
namespace StrChars.Road
open Jvm Sem ClassFile Op Lib Jvm.Stand Jvm.Free Jvm.Free.XT
open Jvm.Lib.Cold (StaticIs)
/-- what backV says of its String, as the contracts of this text ask it: cs's low bytes, coder 0 -/
theorem codOf {cs : List Int32} {n : Nat} (hn : cs.length = n) (hb : ∀ c ∈ cs, ¬ 255 < c) : CodA cs 0 (Int32.ofNat n) ((cs.map lo8).map Value.int) := Or.inl ⟨rfl, by rw [hn], by simp [List.map_map, Function.comp_def], hb⟩
end StrChars.Road
end Jvm.Pilot.@@N@@
namespace Jvm.Pilot.@@N@@
open Jvm Jvm.ClassFile Sem Op Lib Jvm.Free Jvm.Stand Jvm.LawKit Jvm.RoadKit Bundle Jvm.Pilot.@@N@@.Jvm.D
theorem tw {Z : State} {a0 : Array Value} (hw : ∀ d ∈ tables_1, d.before a0 Z = true) (i : Nat) {d : Jvm.Cond} (h : tables_1[i]? = some d) : d.before a0 Z = true := hw _ (List.mem_of_getElem? h)
theorem leW {a b : Nat} (h : 2 * 0 + a = b) : 2 * 0 + a ≤ b := Nat.le_of_eq h
theorem leB {a b : Nat} (h : Nat.ble a b = true) : a ≤ b := Nat.le_of_ble_eq_true h
theorem own_wS : ∀ d ∈ Bundle.stringAtoms, d ∈ tables_1 := by decide +kernel
def own_Env (Z : State) : Prop := (∃ G : Int32, Sta Z Z.heap "java/lang/String" "COMPACT_STRINGS" "Z" (.int G) ∧ ¬ G = 0) ∧ ∃ G : Value, Sta Z Z.heap "jdk/internal/util/Preconditions" "SIOOBE_FORMATTER" "Ljava/util/function/BiFunction;" G ∧ G.isRef = true
def own_Str (Z : State) (h : Heap) (x t : Addr) (cs : List Int32) : Prop := Exa Z h x "java/lang/String" ∧ Fld Z h x "java/lang/String" "value" "[B" (.ref t) ∧ Fld Z h x "java/lang/String" "coder" "B" (.int 0) ∧ (∃ (kb : ClassId) (N2 : Int32) (vs : List Value), Arv Z h t kb .byte N2 vs (.int 0) ∧ StrChars.Road.CodA cs 0 N2 vs) ∧ (∀ c ∈ cs, ¬ c < 0 ∧ ¬ (255 : Int32) < c) ∧ cs.length ≤ 4000
section OwnStr
variable {Z : State} {h h' : Heap} {x t : Addr} {cs : List Int32}
theorem own_Str.ext (F : own_Str Z h x t cs) (E : Ext h h') : own_Str Z h' x t cs := by
  obtain ⟨f1, f2, f3, ⟨kb, N2, vs, f4, f5⟩, f6⟩ := F
  exact ⟨Exa.ext E f1, Fld.ext E f2, Fld.ext E f3, ⟨kb, N2, vs, f4.ext E, f5⟩, f6⟩
theorem own_Str.other {a : Addr} {sl : Nat} {v : Value} (F : own_Str Z h x t cs) (W : Wr h h' a sl v) (n1 : x ≠ a) (n2 : t ≠ a) : own_Str Z h' x t cs := by
  obtain ⟨f1, f2, f3, ⟨kb, N2, vs, f4, f5⟩, f6⟩ := F
  exact ⟨Exa.wr W f1, f2.other W (Or.inl n1), f3.other W (Or.inl n1), ⟨kb, N2, vs, f4.other W n2, f5⟩, f6⟩
theorem own_Str.keep {ws : List Addr} (F : own_Str Z h x t cs) (K : Keep h h' ws) (n1 : x ∉ ws) (n2 : t ∉ ws) : own_Str Z h' x t cs := by
  obtain ⟨f1, f2, f3, ⟨kb, N2, vs, f4, f5⟩, f6⟩ := F
  exact ⟨f1.keep K, f2.keep K n1, f3.keep K n1, ⟨kb, N2, vs, f4.keep K n2, f5⟩, f6⟩
theorem own_Str.lt1 (F : own_Str Z h x t cs) : x < h.size := F.1.lt
theorem own_Str.lt2 (F : own_Str Z h x t cs) : t < h.size := by obtain ⟨-, -, -, ⟨kb, N2, vs, f4, -⟩, -⟩ := F; exact f4.lt
theorem own_up (F : ∀ c ∈ cs, ¬ c < 0 ∧ ¬ (255 : Int32) < c) : ∀ c ∈ cs, ¬ c < 0 ∧ ¬ (65535 : Int32) < c := fun c hc => ⟨(F c hc).1, fun q => (F c hc).2 (by rw [Int32.lt_iff_toInt_lt] at q ⊢; have e1 : (65535 : Int32).toInt = 65535 := rfl; have e2 : (255 : Int32).toInt = 255 := rfl; omega)⟩
end OwnStr
theorem own_pdNew : parseMethodDescriptor "([C)V" = some ⟨[(.array .char)], none⟩ := by decide +kernel
theorem own_pdLen : parseMethodDescriptor "()I" = some ⟨[], some .int⟩ := by decide +kernel
theorem own_pdChr : parseMethodDescriptor "(I)C" = some ⟨[.int], some .char⟩ := by decide +kernel
theorem own_pdEq : parseMethodDescriptor "(Ljava/lang/Object;)Z" = some ⟨[(.object "java/lang/Object")], some .boolean⟩ := by decide +kernel
theorem own_pdEmp : parseMethodDescriptor "()Z" = some ⟨[], some .boolean⟩ := by decide +kernel
section OwnCalls
variable {p : Program} {l : Launch} {e : Env} {R : Room} {s : State} {args : Array Value} {below : List Frame} {len W : Nat} {Z : State} {a0 : Array Value} {h : Heap} {n0 : Nat}
theorem own_wNew : ∀ d ∈ StrChars.Road.words, d ∈ tables_1 := by decide +kernel
theorem own_new (hZ : Z.Warmed39 s.vm) (hw : ∀ d ∈ tables_1, d.before a0 Z = true) (SV : own_Env Z) (O : Old Z n0 h) {x b : Addr} {kC : ClassId} {cs : List Int32} {d v0 c0 : Value} {N : Int32} {n : Nat} (hx0 : n0 ≤ x) (hh0 : n0 ≤ h.size) (E : Exa Z h x "java/lang/String") (V : Fld Z h x "java/lang/String" "value" "[B" v0) (C : Fld Z h x "java/lang/String" "coder" "B" c0) (K : Arv Z h b kC .char N (cs.map Value.int) d)
    (hn : cs.length = n) (hN : N = Int32.ofNat n) (l0 : 0 < n) (l2 : n ≤ 4000) (hp : ∀ c ∈ cs, ¬ c < 0 ∧ ¬ (255 : Int32) < c) (hfr : 4 ≤ R.frames) (hlo : W + 65 ≤ R.locals) :
    Back l R p e below s args (⟨"java/lang/String", "<init>", "([C)V"⟩ : MethodName) len W (fun P a => a = #[.ref x, .ref b] ∧ P.U.heap = h ∧ P.cells + 1 ≤ R.cells ∧ P.slots + n ≤ R.slots)
      (fun P _ v B => ∃ L, (v = none ∧ Fr n0 L ∧ Keep h B.U.heap [x] ∧ ∃ t, h.size ≤ t ∧ own_Str Z B.U.heap x t cs) ∧ B.locs = P.locs ++ L ∧ B.cells = P.cells + 1 ∧ B.slots = P.slots + n) := by
  obtain ⟨⟨G1, S1, S2⟩, -⟩ := SV
  refine Back.mono (StrChars.Road.backV hZ (fun d hd => hw d (own_wNew d hd)) (kI := 4) (tw hw 6 rfl) (bs := cs.map (fun c => c.toInt8.toInt32)) hx0 hh0 E V C K (Sta.ext O.2 S1) S2 hn hN l0 l2 hp rfl hfr hlo) (fun _ _ q => q) ?_
  rintro P a v B hq ⟨L, ⟨q1, q2, q3, q4, q5, t, kb, q6, q7, q8, q9, q10⟩, r⟩
  subst hn hN
  exact ⟨L, ⟨q1, q2, q3, t, q7, q4, q9, q5, ⟨kb, _, _, q10, StrChars.Road.codOf rfl (fun c hc => (hp c hc).2)⟩, hp, l2⟩, r⟩
theorem own_wLen : ∀ d ∈ StrChars.Road.wordsLen, d ∈ tables_1 := by decide +kernel
theorem own_len (hZ : Z.Warmed39 s.vm) (hw : ∀ d ∈ tables_1, d.before a0 Z = true) (SV : own_Env Z) (O : Old Z n0 h) {x t : Addr} {cs : List Int32} (F : own_Str Z h x t cs) (hfr : 2 ≤ R.frames) (hlo : W + 25 ≤ R.locals) :
    Back l R p e below s args (⟨"java/lang/String", "length", "()I"⟩ : MethodName) len W (fun P a => a = #[.ref x] ∧ P.U.heap = h ∧ P.cells + 0 ≤ R.cells ∧ P.slots + 0 ≤ R.slots)
      (fun P _ v B => ∃ L, (v = some (.int (Int32.ofNat cs.length)) ∧ Fr n0 L ∧ B.U.heap = h) ∧ B.locs = P.locs ++ L ∧ B.cells = P.cells + 0 ∧ B.slots = P.slots + 0) := by
  obtain ⟨⟨G1, S1, S2⟩, -⟩ := SV
  obtain ⟨f1, f2, f3, ⟨kb, N2, vs, f4, f5⟩, f6, f7⟩ := F
  refine Back.mono (StrChars.Road.lenW hZ (fun d hd => hw d (own_wLen d hd)) (kI := 4) (tw hw 6 rfl) f1 f2 f3 f4 f5 (own_up f6) (Sta.ext O.2 S1) S2 f7 hfr hlo) (fun _ _ q => q) ?_
  rintro P a v B hq ⟨L, ⟨q1, rfl, q3⟩, r⟩
  exact ⟨[], ⟨q1, Fr.nil n0, q3⟩, r⟩
end OwnCalls
def own_ok (c : Int32) : Prop := (65 ≤ c.toInt ∧ c.toInt ≤ 90) ∨ (97 ≤ c.toInt ∧ c.toInt ≤ 122) ∨ (48 ≤ c.toInt ∧ c.toInt ≤ 57) ∨ c = 46 ∨ c = 95 ∨ c = 45
theorem own_ok.rng {c : Int32} (h : own_ok c) : 0 ≤ c.toInt ∧ c.toInt ≤ 255 := by
  rcases h with h | h | h | rfl | rfl | rfl <;> first | decide | omega
theorem own_ok.b {c : Int32} (h : own_ok c) : ¬ c < 0 ∧ ¬ (255 : Int32) < c := by
  have q := h.rng
  rw [Int32.lt_iff_toInt_lt, Int32.lt_iff_toInt_lt]
  have e1 : (255 : Int32).toInt = 255 := by decide
  have e2 : (0 : Int32).toInt = 0 := by decide
  omega
theorem own_i2c {y : Int32} (h : 0 ≤ y.toInt ∧ y.toInt < 65536) : y.toUInt32.toUInt16.toUInt32.toInt32 = y := by
  have q := c_i2c y
  apply Int32.toInt_inj.mp
  omega
theorem own_nar {y : Int32} (h : 0 ≤ y.toInt ∧ y.toInt < 65536) : nar .char y = y := own_i2c h
theorem own_nn {y : Int32} (h : 0 ≤ y.toInt ∧ y.toInt < 65536) : nar .char y.toUInt32.toUInt16.toUInt32.toInt32 = y := by rw [own_i2c h]; exact own_nar h
theorem own_ok.nar {c : Int32} (h : own_ok c) : nar .char c = c := own_nar (by have q := h.rng; omega)
theorem own_ltI (x y : Int32) : x < y ↔ x.toInt < y.toInt := Int32.lt_iff_toInt_lt
theorem own_Str.arv {Z : State} {h : Heap} {x t : Addr} {cs : List Int32} (F : own_Str Z h x t cs) : ∃ kb : ClassId, Arv Z h t kb .byte (Int32.ofNat cs.length) (cs.map fun c => Value.int (StrChars.lo8 c)) (.int 0) := by
  obtain ⟨-, -, -, ⟨kb, N2, vs, f4, f5⟩, -⟩ := F
  rcases f5 with ⟨-, rfl, rfl, -⟩ | ⟨q, -⟩
  · exact ⟨kb, f4⟩
  · exact absurd q (by decide)
theorem own_low {cs : List Int32} {i : Nat} (hi : i < cs.length) : (cs.map fun c => Value.int (StrChars.lo8 c)).getD i (.int 0) = .int (StrChars.lo8 (cs.getD i 0)) := by
  rw [own_getD _ (by simpa using hi), own_getD _ hi, List.getElem_map]
theorem own_lo8 {c : Int32} (h : ¬ c < 0 ∧ ¬ (255 : Int32) < c) : (StrChars.lo8 c &&& (255 : Int32)) = c := by
  apply Int32.toInt_inj.mp
  rw [c_mask _ 255 8 (by decide) (by decide)]
  have q : ((StrChars.lo8 c).toInt - c.toInt) % 256 = 0 ∧ -128 ≤ (StrChars.lo8 c).toInt ∧ (StrChars.lo8 c).toInt < 128 := c_i2b c
  rw [Int32.lt_iff_toInt_lt, Int32.lt_iff_toInt_lt] at h
  have e1 : (255 : Int32).toInt = 255 := by decide
  have e2 : (0 : Int32).toInt = 0 := by decide
  have e3 : ((2 ^ 8 : Nat) : Int) = 256 := by decide
  omega
theorem own_ofNat_toInt {n : Nat} (h : n < 2147483648) : (Int32.ofNat n).toInt = n := Int32.toInt_ofNat_small (n := n) (by omega)
theorem own_clamp {n : Nat} (h : n < 2147483648) : (Int32.ofNat n).toNatClampNeg = n := by
  show (Int32.ofNat n).toInt.toNat = n
  rw [own_ofNat_toInt h]; rfl
theorem own_ofNat_lt {i n : Nat} (hn : n < 2147483648) (hi : i < 2147483648) : Int32.ofNat i < Int32.ofNat n ↔ i < n := by
  rw [own_ltI, own_ofNat_toInt hn, own_ofNat_toInt hi]; omega
theorem own_ofNat_nn {i : Nat} (hi : i < 2147483648) : ¬ Int32.ofNat i < 0 := by
  rw [own_ltI, own_ofNat_toInt hi]
  have e2 : (0 : Int32).toInt = 0 := by decide
  omega
theorem own_mem_getD {cs : List Int32} {i : Nat} (hi : i < cs.length) : cs.getD i 0 ∈ cs := by
  rw [own_getD _ hi]; exact List.getElem_mem hi
theorem own_safeNull {Z : State} {EL : List (String × Nat)} {vm : Vm} {h : Heap} {x : Addr} (hal : Z.vm.Alike vm) (E : Exa Z h x "java/lang/String") (F : Fld Z h x "java/lang/String" "value" "[B" .null) : Safe Z EL vm h x := fun B => by
  obtain ⟨cell, cf, k, i, f, e1, e2, e3, e4, e5, e6, e7⟩ := F
  obtain ⟨p, -, u, a, -, q, -, G, rfl | rfl⟩ := B
  · cases (show h[q.sa]? = some q.sC from G.ha).symm.trans e1
    obtain ⟨cS, ⟨⟨-, -, -, ⟨c1, k1, i1, f1, -⟩, -, -, -, v1, -⟩, -⟩, -⟩ := G
    obtain ⟨k3, g3, -⟩ := State.fieldFound?_setVm (s := Z) hal e2
    have g4 := (show (Wst Z vm h).fieldFound? "java/lang/String" "value" "[B" = _ from g3).symm.trans f1
    simp only [Option.some.injEq, Prod.mk.injEq] at g4
    rw [g4.2.2.2, v1] at e7
    cases e7
  · obtain ⟨cell', k', a1, a2, -⟩ := E
    cases (show h[q.sd]? = some q.SA from G.hd).symm.trans a1
    obtain ⟨cS, -, -, g, -⟩ := G
    have g' : Z.vm.findClass "[B" = some q.SA.cls := by rw [← hal.findClass]; exact g
    exact ids_ne a2 g' (by decide) rfl
theorem cases8 {k : Int32} (h : 0 ≤ k.toInt ∧ k.toInt < 8) : k = 0 ∨ k = 1 ∨ k = 2 ∨ k = 3 ∨ k = 4 ∨ k = 5 ∨ k = 6 ∨ k = 7 := by
  have q : k.toInt = 0 ∨ k.toInt = 1 ∨ k.toInt = 2 ∨ k.toInt = 3 ∨ k.toInt = 4 ∨ k.toInt = 5 ∨ k.toInt = 6 ∨ k.toInt = 7 := by omega
  rcases q with q | q | q | q | q | q | q | q
  · exact Or.inl (Int32.toInt_inj.mp q)
  · exact Or.inr (Or.inl (Int32.toInt_inj.mp q))
  · exact Or.inr (Or.inr (Or.inl (Int32.toInt_inj.mp q)))
  · exact Or.inr (Or.inr (Or.inr (Or.inl (Int32.toInt_inj.mp q))))
  · exact Or.inr (Or.inr (Or.inr (Or.inr (Or.inl (Int32.toInt_inj.mp q)))))
  · exact Or.inr (Or.inr (Or.inr (Or.inr (Or.inr (Or.inl (Int32.toInt_inj.mp q))))))
  · exact Or.inr (Or.inr (Or.inr (Or.inr (Or.inr (Or.inr (Or.inl (Int32.toInt_inj.mp q)))))))
  · exact Or.inr (Or.inr (Or.inr (Or.inr (Or.inr (Or.inr (Or.inr (Int32.toInt_inj.mp q)))))))
theorem evInt {Z : State} {args : Array Value} {t : Term} {k : Int32} (h : (Cond.eq t (.int k)).value args Z none Z [] = some true) : t.eval args Z none [] Z = some (.int k) := by
  cases ht : t.eval args Z none [] Z with
  | none => simp [Cond.value, ht] at h
  | some w => cases w <;> simp [Cond.value, ht, Term.eval] at h ⊢; exact h
theorem evRef {Z : State} {args : Array Value} {t u : Term} {a : Addr} (h : (Cond.eq t u).value args Z none Z [] = some true) (hu : u.eval args Z none [] Z = some (.ref a)) : t.eval args Z none [] Z = some (.ref a) := by
  cases ht : t.eval args Z none [] Z with
  | none => simp [Cond.value, ht] at h
  | some w => cases w <;> simp [Cond.value, ht, hu] at h ⊢; exact h
def own_U16 (Z : State) : Prop := Sta Z Z.heap "java/lang/StringUTF16" "$assertionsDisabled" "Z" (.int 1) ∧ Sta Z Z.heap "java/lang/StringUTF16" "HI_BYTE_SHIFT" "I" (.int 0) ∧ Sta Z Z.heap "java/lang/StringUTF16" "LO_BYTE_SHIFT" "I" (.int 8)
/-- a String of either coder -/
def own_Txt (Z : State) (h : Heap) (x t : Addr) (cs : List Int32) : Prop := Exa Z h x "java/lang/String" ∧ Fld Z h x "java/lang/String" "value" "[B" (.ref t) ∧ (∃ cd : Int32, Fld Z h x "java/lang/String" "coder" "B" (.int cd) ∧ ∃ (kb : ClassId) (N2 : Int32) (vs : List Value), Arv Z h t kb .byte N2 vs (.int 0) ∧ StrChars.Road.CodA cs cd N2 vs) ∧ (∀ c ∈ cs, ¬ c < 0 ∧ ¬ (65535 : Int32) < c) ∧ cs.length ≤ 4000
theorem own_Str.txt {Z : State} {h : Heap} {x t : Addr} {cs : List Int32} (F : own_Str Z h x t cs) : own_Txt Z h x t cs := by
  obtain ⟨f1, f2, f3, ⟨kb, N2, vs, f4, f5⟩, f6, f7⟩ := F
  exact ⟨f1, f2, ⟨0, f3, kb, N2, vs, f4, f5⟩, own_up f6, f7⟩
section OwnLen2
variable {p : Program} {l : Launch} {e : Env} {R : Room} {s : State} {args : Array Value} {below : List Frame} {len W : Nat} {Z : State} {a0 : Array Value} {h : Heap} {n0 : Nat}
theorem own_len2 (hZ : Z.Warmed39 s.vm) (hw : ∀ d ∈ tables_1, d.before a0 Z = true) (SV : own_Env Z) (O : Old Z n0 h) {x t : Addr} {cs : List Int32} (F : own_Txt Z h x t cs) (hfr : 2 ≤ R.frames) (hlo : W + 25 ≤ R.locals) :
    Back l R p e below s args (⟨"java/lang/String", "length", "()I"⟩ : MethodName) len W (fun P a => a = #[.ref x] ∧ P.U.heap = h ∧ P.cells + 0 ≤ R.cells ∧ P.slots + 0 ≤ R.slots)
      (fun P _ v B => ∃ L, (v = some (.int (Int32.ofNat cs.length)) ∧ Fr n0 L ∧ B.U.heap = h) ∧ B.locs = P.locs ++ L ∧ B.cells = P.cells + 0 ∧ B.slots = P.slots + 0) := by
  obtain ⟨⟨G1, S1, S2⟩, -⟩ := SV
  obtain ⟨f1, f2, ⟨cd, f3, kb, N2, vs, f4, f5⟩, f6, f7⟩ := F
  refine Back.mono (StrChars.Road.lenW hZ (fun d hd => hw d (own_wLen d hd)) (kI := 4) (tw hw 6 rfl) f1 f2 f3 f4 f5 f6 (Sta.ext O.2 S1) S2 f7 hfr hlo) (fun _ _ q => q) ?_
  rintro P a v B hq ⟨L, ⟨q1, rfl, q3⟩, r⟩
  exact ⟨[], ⟨q1, Fr.nil n0, q3⟩, r⟩
end OwnLen2
theorem cases4 {k : Int32} (h : 0 ≤ k.toInt ∧ k.toInt < 4) : k = 0 ∨ k = 1 ∨ k = 2 ∨ k = 3 := by
  have q : k.toInt = 0 ∨ k.toInt = 1 ∨ k.toInt = 2 ∨ k.toInt = 3 := by omega
  rcases q with q | q | q | q
  · exact Or.inl (Int32.toInt_inj.mp q)
  · exact Or.inr (Or.inl (Int32.toInt_inj.mp q))
  · exact Or.inr (Or.inr (Or.inl (Int32.toInt_inj.mp q)))
  · exact Or.inr (Or.inr (Or.inr (Int32.toInt_inj.mp q)))
theorem own_char (x : Int32) : ¬ nar .char x < 0 ∧ ¬ (65535 : Int32) < nar .char x := by
  have q := c_i2c x
  have e : nar .char x = x.toUInt32.toUInt16.toUInt32.toInt32 := rfl
  rw [e, own_ltI, own_ltI]
  have e1 : (65535 : Int32).toInt = 65535 := by decide
  have e2 : (0 : Int32).toInt = 0 := by decide
  omega
theorem own_narC {c : Int32} (h : ¬ c < 0 ∧ ¬ (65535 : Int32) < c) : nar .char c = c := by
  rw [own_ltI, own_ltI] at h
  have e1 : (65535 : Int32).toInt = 65535 := by decide
  have e2 : (0 : Int32).toInt = 0 := by decide
  exact own_nar (by omega)
theorem own_narB (x : Int32) : nar .byte x.toInt8.toInt32 = x.toInt8.toInt32 := by
  show x.toInt8.toInt32.toInt8.toInt32 = x.toInt8.toInt32
  rw [Int8.toInt8_toInt32]
theorem own_nb0 (c : Int32) : nar .byte (c >>> ((0 : Int32) &&& 31)).toInt8.toInt32 = StrChars.lo8 c := by rw [own_narB, StrChars.shr0]; rfl
theorem own_nb8 (c : Int32) : nar .byte (c >>> ((8 : Int32) &&& 31)).toInt8.toInt32 = StrChars.hi8 c := by rw [own_narB]; rfl
theorem own_shr1 {n : Nat} (h : n ≤ 4000) : Int32.ofNat (2 * n) >>> ((1 : Int32) &&& 31) = Int32.ofNat n := StrChars.shr1 (by omega)
theorem own_shl1 {n : Nat} (h : n ≤ 4000) : Int32.ofNat n <<< ((1 : Int32) &&& 31) = Int32.ofNat (2 * n) := by
  have e : ((1 : Int32) &&& 31) = 1 := by decide
  rw [e]
  apply Int32.toBitVec_inj.mp
  rw [Int32.toBitVec_shiftLeft]
  have e1 : ((1 : Int32).toBitVec.smod 32) = 1#32 := by decide
  rw [e1]
  apply BitVec.eq_of_toNat_eq
  show ((BitVec.ofNat 32 n) <<< (1#32)).toNat = (BitVec.ofNat 32 (2 * n)).toNat
  rw [BitVec.shiftLeft_eq', BitVec.toNat_shiftLeft, BitVec.toNat_ofNat, BitVec.toNat_ofNat]
  show (n % 2 ^ 32) <<< 1 % 2 ^ 32 = 2 * n % 2 ^ 32
  rw [Nat.mod_eq_of_lt (show n < 2 ^ 32 by omega), Nat.shiftLeft_eq]
  omega
def own_bad (c : Int32) : Int32 := if c = 9 ∨ c = 10 ∨ c = 13 then 1 else 0
theorem own_bad1 {c : Int32} (h : c = 9 ∨ c = 10 ∨ c = 13) : own_bad c = 1 := if_pos h
theorem own_bad0 {c : Int32} (h1 : ¬ c = 9) (h2 : ¬ c = 10) (h3 : ¬ c = 13) : own_bad c = 0 := if_neg fun q => q.elim h1 fun q => q.elim h2 h3
def own_hold (cs : List Int32) : Int32 := if ∀ c ∈ cs, own_bad c = 0 then 1 else 0
theorem own_hold1 {cs : List Int32} (h1 : (9 : Int32) ∉ cs) (h2 : (10 : Int32) ∉ cs) (h3 : (13 : Int32) ∉ cs) : own_hold cs = 1 := if_pos fun c hc => own_bad0 (fun q => h1 (q ▸ hc)) (fun q => h2 (q ▸ hc)) (fun q => h3 (q ▸ hc))
theorem own_hold0 {cs : List Int32} (h : (9 : Int32) ∈ cs ∨ (10 : Int32) ∈ cs ∨ (13 : Int32) ∈ cs) : own_hold cs = 0 := if_neg fun q => by
  rcases h with h | h | h <;> exact absurd (q _ h) (by decide)
theorem own_nil {cs : List Int32} {p : Int32} (h : ¬ (0 : Int32) < Int32.ofNat cs.length) (hl : cs.length ≤ 4000) : p ∉ cs := by
  rw [own_ltI, own_ofNat_toInt (by omega)] at h
  have e2 : (0 : Int32).toInt = 0 := by decide
  have : cs.length = 0 := by omega
  rw [List.eq_nil_of_length_eq_zero this]; simp
theorem own_notMem {cs : List Int32} {p : Int32} {i : Nat} (hv : ∀ j, j < i → ¬ cs.getD j 0 = p) (hi : cs.length ≤ i) : p ∉ cs := fun hm => by
  obtain ⟨j, hj, e⟩ := List.getElem_of_mem hm
  exact hv j (by omega) (by rw [own_getD _ hj]; exact e)
theorem own_snoc {cs : List Int32} {p : Int32} {i : Nat} (hv : ∀ j, j < i → ¬ cs.getD j 0 = p) (h : ¬ cs.getD i 0 = p) : ∀ j, j < i + 1 → ¬ cs.getD j 0 = p := fun j hj => by
  by_cases q : j = i
  · rw [q]; exact h
  · exact hv j (by omega)
theorem own_memOf {cs : List Int32} {p : Int32} {i : Nat} (hi : i < cs.length) (h : cs.getD i 0 = p) : p ∈ cs := h ▸ own_mem_getD hi
theorem own_geLen {cs : List Int32} {i : Nat} (hl : cs.length ≤ 4000) (hi : i ≤ cs.length) (h : ¬ Int32.ofNat i < Int32.ofNat cs.length) : cs.length ≤ i := by
  rw [own_ofNat_lt (by omega) (by omega)] at h; omega
theorem own_bnd {n : Nat} (h : n ≤ 4000) : ¬ (0 : Int32) < 0 ∧ ¬ Int32.ofNat n < 0 ∧ ¬ Int32.ofNat n < Int32.ofNat n := ⟨by decide, own_ofNat_nn (by omega), by rw [own_ltI]; omega⟩
theorem own_lt16 {c : Int32} (h : ¬ c < 0 ∧ ¬ (255 : Int32) < c) : c < (65536 : Int32) := by
  rw [own_ltI, own_ltI] at h
  rw [own_ltI]
  have e1 : (65536 : Int32).toInt = 65536 := by decide
  have e2 : (255 : Int32).toInt = 255 := by decide
  omega
theorem own_ex {cs : List Int32} (h : ¬ ∀ c ∈ cs, ¬ (255 : Int32) < c) : ∃ c ∈ cs, (255 : Int32) < c := Classical.byContradiction fun q => h fun c hc r => q ⟨c, hc, r⟩
abbrev own_EL : List (String × Nat) := [("java/lang/String", 7)]
theorem own_EW {Z : State} {a0 : Array Value} (hw : ∀ d ∈ tables_1, d.before a0 Z = true) : EW Z a0 own_EL := (EW.cons (tw hw 18 rfl) (by decide) EW.nil)
def QDR (Z : State) (px : Int32) (h0 : Heap) (n0 : Nat) (v : Option Value) (h : Heap) (L : List Loc) : Prop := ∃ (pv : Int32), v = some (.int pv) ∧ Fr n0 L ∧ Keep h0 h [] ∧ ¬ pv < 0 ∧ ¬ (65535 : Int32) < pv
theorem dDR_0 : decode method_2_code 0 = .ok (.iload_n 0, 1) := by decide +kernel
theorem dDR_1 : decode method_2_code 1 = .ok (.bipush 16, 2) := by decide +kernel
theorem dDR_3 : decode method_2_code 3 = .ok (.iushr, 1) := by decide +kernel
theorem dDR_4 : decode method_2_code 4 = .ok (.iconst 3, 1) := by decide +kernel
theorem dDR_5 : decode method_2_code 5 = .ok (.iand, 1) := by decide +kernel
theorem dDR_6 : decode method_2_code 6 = .ok (.ifCond .ne 57, 3) := by decide +kernel
theorem dDR_9 : decode method_2_code 9 = .ok (.bipush 8, 2) := by decide +kernel
theorem dDR_11 : decode method_2_code 11 = .ok (.newarray .char, 2) := by decide +kernel
theorem dDR_13 : decode method_2_code 13 = .ok (.dup, 1) := by decide +kernel
theorem dDR_14 : decode method_2_code 14 = .ok (.iconst 0, 1) := by decide +kernel
theorem dDR_15 : decode method_2_code 15 = .ok (.bipush 9, 2) := by decide +kernel
theorem dDR_17 : decode method_2_code 17 = .ok (.castore, 1) := by decide +kernel
theorem dDR_18 : decode method_2_code 18 = .ok (.dup, 1) := by decide +kernel
theorem dDR_19 : decode method_2_code 19 = .ok (.iconst 1, 1) := by decide +kernel
theorem dDR_20 : decode method_2_code 20 = .ok (.bipush 10, 2) := by decide +kernel
theorem dDR_22 : decode method_2_code 22 = .ok (.castore, 1) := by decide +kernel
theorem dDR_23 : decode method_2_code 23 = .ok (.dup, 1) := by decide +kernel
theorem dDR_24 : decode method_2_code 24 = .ok (.iconst 2, 1) := by decide +kernel
theorem dDR_25 : decode method_2_code 25 = .ok (.bipush 13, 2) := by decide +kernel
theorem dDR_27 : decode method_2_code 27 = .ok (.castore, 1) := by decide +kernel
theorem dDR_28 : decode method_2_code 28 = .ok (.dup, 1) := by decide +kernel
theorem dDR_29 : decode method_2_code 29 = .ok (.iconst 3, 1) := by decide +kernel
theorem dDR_30 : decode method_2_code 30 = .ok (.bipush 11, 2) := by decide +kernel
theorem dDR_32 : decode method_2_code 32 = .ok (.castore, 1) := by decide +kernel
theorem dDR_33 : decode method_2_code 33 = .ok (.dup, 1) := by decide +kernel
theorem dDR_34 : decode method_2_code 34 = .ok (.iconst 4, 1) := by decide +kernel
theorem dDR_35 : decode method_2_code 35 = .ok (.bipush 12, 2) := by decide +kernel
theorem dDR_37 : decode method_2_code 37 = .ok (.castore, 1) := by decide +kernel
theorem dDR_38 : decode method_2_code 38 = .ok (.dup, 1) := by decide +kernel
theorem dDR_39 : decode method_2_code 39 = .ok (.iconst 5, 1) := by decide +kernel
theorem dDR_40 : decode method_2_code 40 = .ok (.bipush 8, 2) := by decide +kernel
theorem dDR_42 : decode method_2_code 42 = .ok (.castore, 1) := by decide +kernel
theorem dDR_43 : decode method_2_code 43 = .ok (.dup, 1) := by decide +kernel
theorem dDR_44 : decode method_2_code 44 = .ok (.bipush 6, 2) := by decide +kernel
theorem dDR_46 : decode method_2_code 46 = .ok (.bipush 32, 2) := by decide +kernel
theorem dDR_48 : decode method_2_code 48 = .ok (.castore, 1) := by decide +kernel
theorem dDR_49 : decode method_2_code 49 = .ok (.dup, 1) := by decide +kernel
theorem dDR_50 : decode method_2_code 50 = .ok (.bipush 7, 2) := by decide +kernel
theorem dDR_52 : decode method_2_code 52 = .ok (.bipush 14, 2) := by decide +kernel
theorem dDR_54 : decode method_2_code 54 = .ok (.castore, 1) := by decide +kernel
theorem dDR_55 : decode method_2_code 55 = .ok (.astore_n 1, 1) := by decide +kernel
theorem dDR_56 : decode method_2_code 56 = .ok (.aload_n 1, 1) := by decide +kernel
theorem dDR_57 : decode method_2_code 57 = .ok (.iload_n 0, 1) := by decide +kernel
theorem dDR_58 : decode method_2_code 58 = .ok (.bipush 7, 2) := by decide +kernel
theorem dDR_60 : decode method_2_code 60 = .ok (.iand, 1) := by decide +kernel
theorem dDR_61 : decode method_2_code 61 = .ok (.caload, 1) := by decide +kernel
theorem dDR_62 : decode method_2_code 62 = .ok (.ireturn, 1) := by decide +kernel
theorem dDR_63 : decode method_2_code 63 = .ok (.iload_n 0, 1) := by decide +kernel
theorem dDR_64 : decode method_2_code 64 = .ok (.i2c, 1) := by decide +kernel
theorem dDR_65 : decode method_2_code 65 = .ok (.ireturn, 1) := by decide +kernel
theorem pnDR : plainName "raciocinio/cli/RecordWriterCanHoldPinLaw" = true := by first | (simp [plainName, overriddenIn]; done) | decide +kernel
theorem pdDR : parseMethodDescriptor "(I)C" = some ⟨[.int], some .char⟩ := by decide +kernel
set_option maxRecDepth 65536 in
set_option maxHeartbeats 40000000 in
theorem rmDR (l : Launch) (Z : State) (a0 : Array Value) (hw : ∀ d ∈ tables_1, d.before a0 Z = true) (ws : List Jvm.Cond) (px : Int32) (h0 : Heap) (n0 : Nat) (Z0 : n0 ≤ h0.size)  :
    MetFree l (⟨"raciocinio/cli/RecordWriterCanHoldPinLaw", "draw", "(I)C"⟩ : MethodName) (head1 (Jvm.Cond.code (⟨"raciocinio/cli/RecordWriterCanHoldPinLaw", "draw", "(I)C"⟩ : MethodName) method_2_code 2 (some .char) :: ws) ({ frames := 0, cells := 1, slots := 8, locals := 0 } : Room)) (fun aa U => aa = #[(.int px)] ∧ Z.Warmed39 U.vm ∧ U.heap = h0) (fun _ _ _ _ _ => True) (fun _ U oo U' => ∃ v L, oo = .returned v ∧ QDR Z px h0 n0 v U'.heap L ∧ FrameEnd U oo U' L ({ frames := 0, cells := 1, slots := 8, locals := 0 } : Room).cells ({ frames := 0, cells := 1, slots := 8, locals := 0 } : Room).slots) := by
  refine MetFree.of_bodySF (plainFor_of_name pnDR) hisR ?_
  intro p e s m args below meth c s₁ Bd hml0 hP hK
  obtain ⟨rfl, hZ, hh⟩ := hP
  have hx := Bd.exec
  have hby := Bd.bytes
  have hlk : meth.locks = false := BodyLoose.notSynchronized Bd
  have hml : c.maxLocals = 2 := hml0
  have hown : s.vm.findClass "raciocinio/cli/RecordWriterCanHoldPinLaw" = some m.cls := findClass_of_methodNamed Bd.named
  have hnm := (name_of_methodNamed Bd.named Bd.method).1
  have X0 : Stand p l e ({ frames := 0, cells := 1, slots := 8, locals := 0 } : Room) s m #[(.int px)] below meth c s₁ [] 0 0 := Stand.of_body Bd
  have e0 : s₁.heap = h0 := by rw [← hh, Bd.state]; rfl
  have N0 := Fr.nil n0
  have ef : entryFrame m #[(.int px)] 2 = mkF m 0 #[iv px, .unset] [] := by first | (simp [entryFrame, mkF, argsToLocals, Value.category, maxLocals]; done) | rfl
  show Way p.tables e below (KQ s (QDR Z px h0 n0) ({ frames := 0, cells := 1, slots := 8, locals := 0 } : Room).cells ({ frames := 0, cells := 1, slots := 8, locals := 0 } : Room).slots) (s₁.setTop (entryFrame m #[(.int px)] 2))
  rw [ef]
  refine Way.by (fun _ k => XS.iloadN X0.here hx rfl (hb hby dDR_0) rfl k) ?_
  show Way _ _ _ _ (s₁.setTop (mkF m 1 #[iv px, .unset] [(.int px)]))
  refine Way.by (fun _ k => XS.bipush X0.here hx rfl (hb hby dDR_1) k) ?_
  show Way _ _ _ _ (s₁.setTop (mkF m 3 #[iv px, .unset] [(.int 16), (.int px)]))
  refine Way.by (fun _ k => XT.iushr X0.here hx rfl (hb hby dDR_3) rfl k) ?_
  show Way _ _ _ _ (s₁.setTop (mkF m 4 #[iv px, .unset] [(.int (XT.ushr px (16 : Int32)))]))
  refine Way.by (fun _ k => XS.iconst X0.here hx rfl (hb hby dDR_4) k) ?_
  show Way _ _ _ _ (s₁.setTop (mkF m 5 #[iv px, .unset] [(.int 3), (.int (XT.ushr px (16 : Int32)))]))
  refine Way.by (fun _ k => XS.iand X0.here hx rfl (hb hby dDR_5) rfl k) ?_
  show Way _ _ _ _ (s₁.setTop (mkF m 6 #[iv px, .unset] [(.int ((XT.ushr px (16 : Int32)) &&& (3 : Int32)))]))
  by_cases b1 : ((XT.ushr px (16 : Int32)) &&& (3 : Int32)) = (0 : Int32)
  · skip
    refine Way.by (fun _ k => XS.ifNo X0.here hx rfl (hb hby dDR_6) rfl ((if0 .ne _).trans (teq b1).2) k) ?_
    show Way _ _ _ _ (s₁.setTop (mkF m 9 #[iv px, .unset] []))
    refine Way.by (fun _ k => XS.bipush X0.here hx rfl (hb hby dDR_9) k) ?_
    show Way _ _ _ _ (s₁.setTop (mkF m 11 #[iv px, .unset] [(.int 8)]))
    obtain ⟨T2, h3, kc4, X5, e6, E7, A8, st9⟩ := newP X0 hx hZ (tw hw 4 rfl) e0 (g := (mkF m 11 #[iv px, .unset] [(.int 8)])) rfl (hb hby dDR_11) rfl (by decide) (cap := 8) (by decide) (by decide) (by decide) (by decide)
    obtain ⟨a10, g11⟩ : ∃ z, z = h0.size := ⟨_, rfl⟩
    rw [← g11] at A8 st9
    have nw13 : n0 ≤ a10 := Nat.le_trans Z0 (Nat.le_of_eq g11.symm)
    have hk14 : h0.size ≤ a10 := Nat.le_trans (Nat.le_refl h0.size) (Nat.le_of_eq g11.symm)
    have Z15 := Nat.le_trans Z0 E7.1
    have K16 := (Keep.refl h0 []).ext E7
    have hz17 := Nat.le_trans (Nat.le_refl h0.size) E7.1
    have V12 : Arv Z h3 a10 kc4 .char (8 : Int32) [] (.int 0) := Arv.new A8 (by decide)
    refine Way.by st9 ?_
    show Way _ _ _ _ (T2.setTop (mkF m 13 #[iv px, .unset] [(.ref a10)]))
    refine Way.by (fun _ k => XS.dup X5.here hx rfl (hb hby dDR_13) rfl rfl k) ?_
    show Way _ _ _ _ (T2.setTop (mkF m 14 #[iv px, .unset] [(.ref a10), (.ref a10)]))
    refine Way.by (fun _ k => XS.iconst X5.here hx rfl (hb hby dDR_14) k) ?_
    show Way _ _ _ _ (T2.setTop (mkF m 15 #[iv px, .unset] [(.int 0), (.ref a10), (.ref a10)]))
    refine Way.by (fun _ k => XS.bipush X5.here hx rfl (hb hby dDR_15) k) ?_
    show Way _ _ _ _ (T2.setTop (mkF m 17 #[iv px, .unset] [(.int 9), (.int 0), (.ref a10), (.ref a10)]))
    have V18 : Arv Z h3 a10 kc4 .char (8 : Int32) [(.int 0)] (.int 0) := V12.pad (pad_rep [] (.int 0) 1)
    obtain ⟨c19, A20, q21, S22, M23, H24, U25⟩ := id V18
    obtain ⟨T26, h27, X28, e29, W30, st31⟩ := stC X5 hx hZ e6 A20 (j := (0 : Int32)) (inb_of S22 ⟨(by decide), (by decide)⟩) (g := (mkF m 17 #[iv px, .unset] [(.int 9), (.int 0), (.ref a10), (.ref a10)])) rfl rfl (hb hby dDR_17)
    have N32 := Fr.snoc X28 N0 nw13
    have V33 : Arv Z h27 a10 kc4 .char (8 : Int32) [(.int 9)] (.int 0) := Arv.set A20 q21 S22 M23 H24 U25 rfl W30 0 rfl (leB rfl)
    have Z34 : n0 ≤ h27.size := by rw [W30.size]; exact Z15
    have K35 := K16.wr W30 (Or.inr hk14)
    have hz36 : h0.size ≤ h27.size := by rw [W30.size]; exact hz17
    refine Way.by st31 ?_
    show Way _ _ _ _ (T26.setTop (mkF m 18 #[iv px, .unset] [(.ref a10)]))
    refine Way.by (fun _ k => XS.dup X28.here hx rfl (hb hby dDR_18) rfl rfl k) ?_
    show Way _ _ _ _ (T26.setTop (mkF m 19 #[iv px, .unset] [(.ref a10), (.ref a10)]))
    refine Way.by (fun _ k => XS.iconst X28.here hx rfl (hb hby dDR_19) k) ?_
    show Way _ _ _ _ (T26.setTop (mkF m 20 #[iv px, .unset] [(.int 1), (.ref a10), (.ref a10)]))
    refine Way.by (fun _ k => XS.bipush X28.here hx rfl (hb hby dDR_20) k) ?_
    show Way _ _ _ _ (T26.setTop (mkF m 22 #[iv px, .unset] [(.int 10), (.int 1), (.ref a10), (.ref a10)]))
    have V37 : Arv Z h27 a10 kc4 .char (8 : Int32) [(.int 9), (.int 0)] (.int 0) := V33.pad (pad_rep [(.int 9)] (.int 0) 1)
    obtain ⟨c38, A39, q40, S41, M42, H43, U44⟩ := id V37
    obtain ⟨T45, h46, X47, e48, W49, st50⟩ := stC X28 hx hZ e29 A39 (j := (1 : Int32)) (inb_of S41 ⟨(by decide), (by decide)⟩) (g := (mkF m 22 #[iv px, .unset] [(.int 10), (.int 1), (.ref a10), (.ref a10)])) rfl rfl (hb hby dDR_22)
    have N51 := Fr.snoc X47 N32 nw13
    have V52 : Arv Z h46 a10 kc4 .char (8 : Int32) [(.int 9), (.int 10)] (.int 0) := Arv.set A39 q40 S41 M42 H43 U44 rfl W49 1 rfl (leB rfl)
    have Z53 : n0 ≤ h46.size := by rw [W49.size]; exact Z34
    have K54 := K35.wr W49 (Or.inr hk14)
    have hz55 : h0.size ≤ h46.size := by rw [W49.size]; exact hz36
    refine Way.by st50 ?_
    show Way _ _ _ _ (T45.setTop (mkF m 23 #[iv px, .unset] [(.ref a10)]))
    refine Way.by (fun _ k => XS.dup X47.here hx rfl (hb hby dDR_23) rfl rfl k) ?_
    show Way _ _ _ _ (T45.setTop (mkF m 24 #[iv px, .unset] [(.ref a10), (.ref a10)]))
    refine Way.by (fun _ k => XS.iconst X47.here hx rfl (hb hby dDR_24) k) ?_
    show Way _ _ _ _ (T45.setTop (mkF m 25 #[iv px, .unset] [(.int 2), (.ref a10), (.ref a10)]))
    refine Way.by (fun _ k => XS.bipush X47.here hx rfl (hb hby dDR_25) k) ?_
    show Way _ _ _ _ (T45.setTop (mkF m 27 #[iv px, .unset] [(.int 13), (.int 2), (.ref a10), (.ref a10)]))
    have V56 : Arv Z h46 a10 kc4 .char (8 : Int32) [(.int 9), (.int 10), (.int 0)] (.int 0) := V52.pad (pad_rep [(.int 9), (.int 10)] (.int 0) 1)
    obtain ⟨c57, A58, q59, S60, M61, H62, U63⟩ := id V56
    obtain ⟨T64, h65, X66, e67, W68, st69⟩ := stC X47 hx hZ e48 A58 (j := (2 : Int32)) (inb_of S60 ⟨(by decide), (by decide)⟩) (g := (mkF m 27 #[iv px, .unset] [(.int 13), (.int 2), (.ref a10), (.ref a10)])) rfl rfl (hb hby dDR_27)
    have N70 := Fr.snoc X66 N51 nw13
    have V71 : Arv Z h65 a10 kc4 .char (8 : Int32) [(.int 9), (.int 10), (.int 13)] (.int 0) := Arv.set A58 q59 S60 M61 H62 U63 rfl W68 2 rfl (leB rfl)
    have Z72 : n0 ≤ h65.size := by rw [W68.size]; exact Z53
    have K73 := K54.wr W68 (Or.inr hk14)
    have hz74 : h0.size ≤ h65.size := by rw [W68.size]; exact hz55
    refine Way.by st69 ?_
    show Way _ _ _ _ (T64.setTop (mkF m 28 #[iv px, .unset] [(.ref a10)]))
    refine Way.by (fun _ k => XS.dup X66.here hx rfl (hb hby dDR_28) rfl rfl k) ?_
    show Way _ _ _ _ (T64.setTop (mkF m 29 #[iv px, .unset] [(.ref a10), (.ref a10)]))
    refine Way.by (fun _ k => XS.iconst X66.here hx rfl (hb hby dDR_29) k) ?_
    show Way _ _ _ _ (T64.setTop (mkF m 30 #[iv px, .unset] [(.int 3), (.ref a10), (.ref a10)]))
    refine Way.by (fun _ k => XS.bipush X66.here hx rfl (hb hby dDR_30) k) ?_
    show Way _ _ _ _ (T64.setTop (mkF m 32 #[iv px, .unset] [(.int 11), (.int 3), (.ref a10), (.ref a10)]))
    have V75 : Arv Z h65 a10 kc4 .char (8 : Int32) [(.int 9), (.int 10), (.int 13), (.int 0)] (.int 0) := V71.pad (pad_rep [(.int 9), (.int 10), (.int 13)] (.int 0) 1)
    obtain ⟨c76, A77, q78, S79, M80, H81, U82⟩ := id V75
    obtain ⟨T83, h84, X85, e86, W87, st88⟩ := stC X66 hx hZ e67 A77 (j := (3 : Int32)) (inb_of S79 ⟨(by decide), (by decide)⟩) (g := (mkF m 32 #[iv px, .unset] [(.int 11), (.int 3), (.ref a10), (.ref a10)])) rfl rfl (hb hby dDR_32)
    have N89 := Fr.snoc X85 N70 nw13
    have V90 : Arv Z h84 a10 kc4 .char (8 : Int32) [(.int 9), (.int 10), (.int 13), (.int 11)] (.int 0) := Arv.set A77 q78 S79 M80 H81 U82 rfl W87 3 rfl (leB rfl)
    have Z91 : n0 ≤ h84.size := by rw [W87.size]; exact Z72
    have K92 := K73.wr W87 (Or.inr hk14)
    have hz93 : h0.size ≤ h84.size := by rw [W87.size]; exact hz74
    refine Way.by st88 ?_
    show Way _ _ _ _ (T83.setTop (mkF m 33 #[iv px, .unset] [(.ref a10)]))
    refine Way.by (fun _ k => XS.dup X85.here hx rfl (hb hby dDR_33) rfl rfl k) ?_
    show Way _ _ _ _ (T83.setTop (mkF m 34 #[iv px, .unset] [(.ref a10), (.ref a10)]))
    refine Way.by (fun _ k => XS.iconst X85.here hx rfl (hb hby dDR_34) k) ?_
    show Way _ _ _ _ (T83.setTop (mkF m 35 #[iv px, .unset] [(.int 4), (.ref a10), (.ref a10)]))
    refine Way.by (fun _ k => XS.bipush X85.here hx rfl (hb hby dDR_35) k) ?_
    show Way _ _ _ _ (T83.setTop (mkF m 37 #[iv px, .unset] [(.int 12), (.int 4), (.ref a10), (.ref a10)]))
    have V94 : Arv Z h84 a10 kc4 .char (8 : Int32) [(.int 9), (.int 10), (.int 13), (.int 11), (.int 0)] (.int 0) := V90.pad (pad_rep [(.int 9), (.int 10), (.int 13), (.int 11)] (.int 0) 1)
    obtain ⟨c95, A96, q97, S98, M99, H100, U101⟩ := id V94
    obtain ⟨T102, h103, X104, e105, W106, st107⟩ := stC X85 hx hZ e86 A96 (j := (4 : Int32)) (inb_of S98 ⟨(by decide), (by decide)⟩) (g := (mkF m 37 #[iv px, .unset] [(.int 12), (.int 4), (.ref a10), (.ref a10)])) rfl rfl (hb hby dDR_37)
    have N108 := Fr.snoc X104 N89 nw13
    have V109 : Arv Z h103 a10 kc4 .char (8 : Int32) [(.int 9), (.int 10), (.int 13), (.int 11), (.int 12)] (.int 0) := Arv.set A96 q97 S98 M99 H100 U101 rfl W106 4 rfl (leB rfl)
    have Z110 : n0 ≤ h103.size := by rw [W106.size]; exact Z91
    have K111 := K92.wr W106 (Or.inr hk14)
    have hz112 : h0.size ≤ h103.size := by rw [W106.size]; exact hz93
    refine Way.by st107 ?_
    show Way _ _ _ _ (T102.setTop (mkF m 38 #[iv px, .unset] [(.ref a10)]))
    refine Way.by (fun _ k => XS.dup X104.here hx rfl (hb hby dDR_38) rfl rfl k) ?_
    show Way _ _ _ _ (T102.setTop (mkF m 39 #[iv px, .unset] [(.ref a10), (.ref a10)]))
    refine Way.by (fun _ k => XS.iconst X104.here hx rfl (hb hby dDR_39) k) ?_
    show Way _ _ _ _ (T102.setTop (mkF m 40 #[iv px, .unset] [(.int 5), (.ref a10), (.ref a10)]))
    refine Way.by (fun _ k => XS.bipush X104.here hx rfl (hb hby dDR_40) k) ?_
    show Way _ _ _ _ (T102.setTop (mkF m 42 #[iv px, .unset] [(.int 8), (.int 5), (.ref a10), (.ref a10)]))
    have V113 : Arv Z h103 a10 kc4 .char (8 : Int32) [(.int 9), (.int 10), (.int 13), (.int 11), (.int 12), (.int 0)] (.int 0) := V109.pad (pad_rep [(.int 9), (.int 10), (.int 13), (.int 11), (.int 12)] (.int 0) 1)
    obtain ⟨c114, A115, q116, S117, M118, H119, U120⟩ := id V113
    obtain ⟨T121, h122, X123, e124, W125, st126⟩ := stC X104 hx hZ e105 A115 (j := (5 : Int32)) (inb_of S117 ⟨(by decide), (by decide)⟩) (g := (mkF m 42 #[iv px, .unset] [(.int 8), (.int 5), (.ref a10), (.ref a10)])) rfl rfl (hb hby dDR_42)
    have N127 := Fr.snoc X123 N108 nw13
    have V128 : Arv Z h122 a10 kc4 .char (8 : Int32) [(.int 9), (.int 10), (.int 13), (.int 11), (.int 12), (.int 8)] (.int 0) := Arv.set A115 q116 S117 M118 H119 U120 rfl W125 5 rfl (leB rfl)
    have Z129 : n0 ≤ h122.size := by rw [W125.size]; exact Z110
    have K130 := K111.wr W125 (Or.inr hk14)
    have hz131 : h0.size ≤ h122.size := by rw [W125.size]; exact hz112
    refine Way.by st126 ?_
    show Way _ _ _ _ (T121.setTop (mkF m 43 #[iv px, .unset] [(.ref a10)]))
    refine Way.by (fun _ k => XS.dup X123.here hx rfl (hb hby dDR_43) rfl rfl k) ?_
    show Way _ _ _ _ (T121.setTop (mkF m 44 #[iv px, .unset] [(.ref a10), (.ref a10)]))
    refine Way.by (fun _ k => XS.bipush X123.here hx rfl (hb hby dDR_44) k) ?_
    show Way _ _ _ _ (T121.setTop (mkF m 46 #[iv px, .unset] [(.int 6), (.ref a10), (.ref a10)]))
    refine Way.by (fun _ k => XS.bipush X123.here hx rfl (hb hby dDR_46) k) ?_
    show Way _ _ _ _ (T121.setTop (mkF m 48 #[iv px, .unset] [(.int 32), (.int 6), (.ref a10), (.ref a10)]))
    have V132 : Arv Z h122 a10 kc4 .char (8 : Int32) [(.int 9), (.int 10), (.int 13), (.int 11), (.int 12), (.int 8), (.int 0)] (.int 0) := V128.pad (pad_rep [(.int 9), (.int 10), (.int 13), (.int 11), (.int 12), (.int 8)] (.int 0) 1)
    obtain ⟨c133, A134, q135, S136, M137, H138, U139⟩ := id V132
    obtain ⟨T140, h141, X142, e143, W144, st145⟩ := stC X123 hx hZ e124 A134 (j := (6 : Int32)) (inb_of S136 ⟨(by decide), (by decide)⟩) (g := (mkF m 48 #[iv px, .unset] [(.int 32), (.int 6), (.ref a10), (.ref a10)])) rfl rfl (hb hby dDR_48)
    have N146 := Fr.snoc X142 N127 nw13
    have V147 : Arv Z h141 a10 kc4 .char (8 : Int32) [(.int 9), (.int 10), (.int 13), (.int 11), (.int 12), (.int 8), (.int 32)] (.int 0) := Arv.set A134 q135 S136 M137 H138 U139 rfl W144 6 rfl (leB rfl)
    have Z148 : n0 ≤ h141.size := by rw [W144.size]; exact Z129
    have K149 := K130.wr W144 (Or.inr hk14)
    have hz150 : h0.size ≤ h141.size := by rw [W144.size]; exact hz131
    refine Way.by st145 ?_
    show Way _ _ _ _ (T140.setTop (mkF m 49 #[iv px, .unset] [(.ref a10)]))
    refine Way.by (fun _ k => XS.dup X142.here hx rfl (hb hby dDR_49) rfl rfl k) ?_
    show Way _ _ _ _ (T140.setTop (mkF m 50 #[iv px, .unset] [(.ref a10), (.ref a10)]))
    refine Way.by (fun _ k => XS.bipush X142.here hx rfl (hb hby dDR_50) k) ?_
    show Way _ _ _ _ (T140.setTop (mkF m 52 #[iv px, .unset] [(.int 7), (.ref a10), (.ref a10)]))
    refine Way.by (fun _ k => XS.bipush X142.here hx rfl (hb hby dDR_52) k) ?_
    show Way _ _ _ _ (T140.setTop (mkF m 54 #[iv px, .unset] [(.int 14), (.int 7), (.ref a10), (.ref a10)]))
    have V151 : Arv Z h141 a10 kc4 .char (8 : Int32) [(.int 9), (.int 10), (.int 13), (.int 11), (.int 12), (.int 8), (.int 32), (.int 0)] (.int 0) := V147.pad (pad_rep [(.int 9), (.int 10), (.int 13), (.int 11), (.int 12), (.int 8), (.int 32)] (.int 0) 1)
    obtain ⟨c152, A153, q154, S155, M156, H157, U158⟩ := id V151
    obtain ⟨T159, h160, X161, e162, W163, st164⟩ := stC X142 hx hZ e143 A153 (j := (7 : Int32)) (inb_of S155 ⟨(by decide), (by decide)⟩) (g := (mkF m 54 #[iv px, .unset] [(.int 14), (.int 7), (.ref a10), (.ref a10)])) rfl rfl (hb hby dDR_54)
    have N165 := Fr.snoc X161 N146 nw13
    have V166 : Arv Z h160 a10 kc4 .char (8 : Int32) [(.int 9), (.int 10), (.int 13), (.int 11), (.int 12), (.int 8), (.int 32), (.int 14)] (.int 0) := Arv.set A153 q154 S155 M156 H157 U158 rfl W163 7 rfl (leB rfl)
    have Z167 : n0 ≤ h160.size := by rw [W163.size]; exact Z148
    have K168 := K149.wr W163 (Or.inr hk14)
    have hz169 : h0.size ≤ h160.size := by rw [W163.size]; exact hz150
    refine Way.by st164 ?_
    show Way _ _ _ _ (T159.setTop (mkF m 55 #[iv px, .unset] [(.ref a10)]))
    refine Way.by (fun _ k => XS.astoreN X161.here hx rfl (hb hby dDR_55) rfl rfl (l' := #[iv px, rv a10]) rfl k) ?_
    show Way _ _ _ _ (T159.setTop (mkF m 56 #[iv px, rv a10] []))
    refine Way.by (fun _ k => XS.aloadN X161.here hx rfl (hb hby dDR_56) rfl rfl k) ?_
    show Way _ _ _ _ (T159.setTop (mkF m 57 #[iv px, rv a10] [(.ref a10)]))
    refine Way.by (fun _ k => XS.iloadN X161.here hx rfl (hb hby dDR_57) rfl k) ?_
    show Way _ _ _ _ (T159.setTop (mkF m 58 #[iv px, rv a10] [(.int px), (.ref a10)]))
    refine Way.by (fun _ k => XS.bipush X161.here hx rfl (hb hby dDR_58) k) ?_
    show Way _ _ _ _ (T159.setTop (mkF m 60 #[iv px, rv a10] [(.int 7), (.int px), (.ref a10)]))
    refine Way.by (fun _ k => XS.iand X161.here hx rfl (hb hby dDR_60) rfl k) ?_
    show Way _ _ _ _ (T159.setTop (mkF m 61 #[iv px, rv a10] [(.int (px &&& (7 : Int32))), (.ref a10)]))
    obtain ⟨k, qk⟩ : ∃ z, z = (px &&& (7 : Int32)) := ⟨_, rfl⟩
    rw [← qk]
    have hk : 0 ≤ k.toInt ∧ k.toInt < 8 := by rw [qk]; have q := c_and px 7 (by decide); have e7 : (7 : Int32).toInt = 7 := (by decide); omega
    rcases cases8 hk with rfl | rfl | rfl | rfl | rfl | rfl | rfl | rfl
    · skip
      show Way _ _ _ _ (T159.setTop (mkF m 61 #[iv px, rv a10] [(.int 0), (.ref a10)]))
      obtain ⟨c170, A171, q172, S173, M174, H175, U176⟩ := id V166
      refine Way.by (fun t k => Stand.caload X161 hx (hpE e162 A171.1) (arrS hZ A171) A171.2.2 (inb_of S173 ⟨(by decide), (by decide)⟩) (Has.at H175 (inb_of S173 ⟨(by decide), (by decide)⟩) rfl) (g := (mkF m 61 #[iv px, rv a10] [(.int 0), (.ref a10)])) rfl rfl (hb hby dDR_61) t k) ?_
      show Way _ _ _ _ (T159.setTop (mkF m 62 #[iv px, rv a10] [(.int 9)]))
      refine Way.ret (v := (some (.int (nar .char (9 : Int32))))) X161 hlk (fun h => by rw [Bd.returns] at h; cases h) (fun fs hr => retN X161 hx (t := .char) Bd.returns (by simp) (hb hby dDR_62) hr) ?_ (by decide) (by decide)
      show QDR Z px h0 n0 _ T159.heap _
      rw [e162]
      exact ⟨(nar .char (9 : Int32)), rfl, N165, K168, own_char _⟩
    · skip
      show Way _ _ _ _ (T159.setTop (mkF m 61 #[iv px, rv a10] [(.int 1), (.ref a10)]))
      obtain ⟨c177, A178, q179, S180, M181, H182, U183⟩ := id V166
      refine Way.by (fun t k => Stand.caload X161 hx (hpE e162 A178.1) (arrS hZ A178) A178.2.2 (inb_of S180 ⟨(by decide), (by decide)⟩) (Has.at H182 (inb_of S180 ⟨(by decide), (by decide)⟩) rfl) (g := (mkF m 61 #[iv px, rv a10] [(.int 1), (.ref a10)])) rfl rfl (hb hby dDR_61) t k) ?_
      show Way _ _ _ _ (T159.setTop (mkF m 62 #[iv px, rv a10] [(.int 10)]))
      refine Way.ret (v := (some (.int (nar .char (10 : Int32))))) X161 hlk (fun h => by rw [Bd.returns] at h; cases h) (fun fs hr => retN X161 hx (t := .char) Bd.returns (by simp) (hb hby dDR_62) hr) ?_ (by decide) (by decide)
      show QDR Z px h0 n0 _ T159.heap _
      rw [e162]
      exact ⟨(nar .char (10 : Int32)), rfl, N165, K168, own_char _⟩
    · skip
      show Way _ _ _ _ (T159.setTop (mkF m 61 #[iv px, rv a10] [(.int 2), (.ref a10)]))
      obtain ⟨c184, A185, q186, S187, M188, H189, U190⟩ := id V166
      refine Way.by (fun t k => Stand.caload X161 hx (hpE e162 A185.1) (arrS hZ A185) A185.2.2 (inb_of S187 ⟨(by decide), (by decide)⟩) (Has.at H189 (inb_of S187 ⟨(by decide), (by decide)⟩) rfl) (g := (mkF m 61 #[iv px, rv a10] [(.int 2), (.ref a10)])) rfl rfl (hb hby dDR_61) t k) ?_
      show Way _ _ _ _ (T159.setTop (mkF m 62 #[iv px, rv a10] [(.int 13)]))
      refine Way.ret (v := (some (.int (nar .char (13 : Int32))))) X161 hlk (fun h => by rw [Bd.returns] at h; cases h) (fun fs hr => retN X161 hx (t := .char) Bd.returns (by simp) (hb hby dDR_62) hr) ?_ (by decide) (by decide)
      show QDR Z px h0 n0 _ T159.heap _
      rw [e162]
      exact ⟨(nar .char (13 : Int32)), rfl, N165, K168, own_char _⟩
    · skip
      show Way _ _ _ _ (T159.setTop (mkF m 61 #[iv px, rv a10] [(.int 3), (.ref a10)]))
      obtain ⟨c191, A192, q193, S194, M195, H196, U197⟩ := id V166
      refine Way.by (fun t k => Stand.caload X161 hx (hpE e162 A192.1) (arrS hZ A192) A192.2.2 (inb_of S194 ⟨(by decide), (by decide)⟩) (Has.at H196 (inb_of S194 ⟨(by decide), (by decide)⟩) rfl) (g := (mkF m 61 #[iv px, rv a10] [(.int 3), (.ref a10)])) rfl rfl (hb hby dDR_61) t k) ?_
      show Way _ _ _ _ (T159.setTop (mkF m 62 #[iv px, rv a10] [(.int 11)]))
      refine Way.ret (v := (some (.int (nar .char (11 : Int32))))) X161 hlk (fun h => by rw [Bd.returns] at h; cases h) (fun fs hr => retN X161 hx (t := .char) Bd.returns (by simp) (hb hby dDR_62) hr) ?_ (by decide) (by decide)
      show QDR Z px h0 n0 _ T159.heap _
      rw [e162]
      exact ⟨(nar .char (11 : Int32)), rfl, N165, K168, own_char _⟩
    · skip
      show Way _ _ _ _ (T159.setTop (mkF m 61 #[iv px, rv a10] [(.int 4), (.ref a10)]))
      obtain ⟨c198, A199, q200, S201, M202, H203, U204⟩ := id V166
      refine Way.by (fun t k => Stand.caload X161 hx (hpE e162 A199.1) (arrS hZ A199) A199.2.2 (inb_of S201 ⟨(by decide), (by decide)⟩) (Has.at H203 (inb_of S201 ⟨(by decide), (by decide)⟩) rfl) (g := (mkF m 61 #[iv px, rv a10] [(.int 4), (.ref a10)])) rfl rfl (hb hby dDR_61) t k) ?_
      show Way _ _ _ _ (T159.setTop (mkF m 62 #[iv px, rv a10] [(.int 12)]))
      refine Way.ret (v := (some (.int (nar .char (12 : Int32))))) X161 hlk (fun h => by rw [Bd.returns] at h; cases h) (fun fs hr => retN X161 hx (t := .char) Bd.returns (by simp) (hb hby dDR_62) hr) ?_ (by decide) (by decide)
      show QDR Z px h0 n0 _ T159.heap _
      rw [e162]
      exact ⟨(nar .char (12 : Int32)), rfl, N165, K168, own_char _⟩
    · skip
      show Way _ _ _ _ (T159.setTop (mkF m 61 #[iv px, rv a10] [(.int 5), (.ref a10)]))
      obtain ⟨c205, A206, q207, S208, M209, H210, U211⟩ := id V166
      refine Way.by (fun t k => Stand.caload X161 hx (hpE e162 A206.1) (arrS hZ A206) A206.2.2 (inb_of S208 ⟨(by decide), (by decide)⟩) (Has.at H210 (inb_of S208 ⟨(by decide), (by decide)⟩) rfl) (g := (mkF m 61 #[iv px, rv a10] [(.int 5), (.ref a10)])) rfl rfl (hb hby dDR_61) t k) ?_
      show Way _ _ _ _ (T159.setTop (mkF m 62 #[iv px, rv a10] [(.int 8)]))
      refine Way.ret (v := (some (.int (nar .char (8 : Int32))))) X161 hlk (fun h => by rw [Bd.returns] at h; cases h) (fun fs hr => retN X161 hx (t := .char) Bd.returns (by simp) (hb hby dDR_62) hr) ?_ (by decide) (by decide)
      show QDR Z px h0 n0 _ T159.heap _
      rw [e162]
      exact ⟨(nar .char (8 : Int32)), rfl, N165, K168, own_char _⟩
    · skip
      show Way _ _ _ _ (T159.setTop (mkF m 61 #[iv px, rv a10] [(.int 6), (.ref a10)]))
      obtain ⟨c212, A213, q214, S215, M216, H217, U218⟩ := id V166
      refine Way.by (fun t k => Stand.caload X161 hx (hpE e162 A213.1) (arrS hZ A213) A213.2.2 (inb_of S215 ⟨(by decide), (by decide)⟩) (Has.at H217 (inb_of S215 ⟨(by decide), (by decide)⟩) rfl) (g := (mkF m 61 #[iv px, rv a10] [(.int 6), (.ref a10)])) rfl rfl (hb hby dDR_61) t k) ?_
      show Way _ _ _ _ (T159.setTop (mkF m 62 #[iv px, rv a10] [(.int 32)]))
      refine Way.ret (v := (some (.int (nar .char (32 : Int32))))) X161 hlk (fun h => by rw [Bd.returns] at h; cases h) (fun fs hr => retN X161 hx (t := .char) Bd.returns (by simp) (hb hby dDR_62) hr) ?_ (by decide) (by decide)
      show QDR Z px h0 n0 _ T159.heap _
      rw [e162]
      exact ⟨(nar .char (32 : Int32)), rfl, N165, K168, own_char _⟩
    · skip
      show Way _ _ _ _ (T159.setTop (mkF m 61 #[iv px, rv a10] [(.int 7), (.ref a10)]))
      obtain ⟨c219, A220, q221, S222, M223, H224, U225⟩ := id V166
      refine Way.by (fun t k => Stand.caload X161 hx (hpE e162 A220.1) (arrS hZ A220) A220.2.2 (inb_of S222 ⟨(by decide), (by decide)⟩) (Has.at H224 (inb_of S222 ⟨(by decide), (by decide)⟩) rfl) (g := (mkF m 61 #[iv px, rv a10] [(.int 7), (.ref a10)])) rfl rfl (hb hby dDR_61) t k) ?_
      show Way _ _ _ _ (T159.setTop (mkF m 62 #[iv px, rv a10] [(.int 14)]))
      refine Way.ret (v := (some (.int (nar .char (14 : Int32))))) X161 hlk (fun h => by rw [Bd.returns] at h; cases h) (fun fs hr => retN X161 hx (t := .char) Bd.returns (by simp) (hb hby dDR_62) hr) ?_ (by decide) (by decide)
      show QDR Z px h0 n0 _ T159.heap _
      rw [e162]
      exact ⟨(nar .char (14 : Int32)), rfl, N165, K168, own_char _⟩
  · skip
    refine Way.by (fun _ k => XS.ifYes X0.here hx rfl (pc0 := 6) (pc' := 63) rfl (hb hby dDR_6) rfl ((if0 .ne _).trans (feq b1).2) (by decide) (by decide) k) ?_
    show Way _ _ _ _ (s₁.setTop (mkF m 63 #[iv px, .unset] []))
    refine Way.by (fun _ k => XS.iloadN X0.here hx rfl (hb hby dDR_63) rfl k) ?_
    show Way _ _ _ _ (s₁.setTop (mkF m 64 #[iv px, .unset] [(.int px)]))
    refine Way.by (fun _ k => XT.i2c X0.here hx rfl (hb hby dDR_64) rfl k) ?_
    show Way _ _ _ _ (s₁.setTop (mkF m 65 #[iv px, .unset] [(.int px.toUInt32.toUInt16.toUInt32.toInt32)]))
    refine Way.ret (v := (some (.int (nar .char px.toUInt32.toUInt16.toUInt32.toInt32)))) X0 hlk (fun h => by rw [Bd.returns] at h; cases h) (fun fs hr => retN X0 hx (t := .char) Bd.returns (by simp) (hb hby dDR_65) hr) ?_ (by decide) (by decide)
    show QDR Z px h0 n0 _ s₁.heap _
    rw [e0]
    exact ⟨(nar .char px.toUInt32.toUInt16.toUInt32.toInt32), rfl, N0, (Keep.refl h0 []), own_char _⟩
def QBD (Z : State) (pc_ : Int32) (h0 : Heap) (n0 : Nat) (v : Option Value) (h : Heap) (L : List Loc) : Prop := v = some (.int (own_bad pc_)) ∧ Fr n0 L ∧ h = h0
theorem dBD_0 : decode method_3_code 0 = .ok (.iload_n 0, 1) := by decide +kernel
theorem dBD_1 : decode method_3_code 1 = .ok (.bipush 9, 2) := by decide +kernel
theorem dBD_3 : decode method_3_code 3 = .ok (.if_icmp .eq 15, 3) := by decide +kernel
theorem dBD_6 : decode method_3_code 6 = .ok (.iload_n 0, 1) := by decide +kernel
theorem dBD_7 : decode method_3_code 7 = .ok (.bipush 10, 2) := by decide +kernel
theorem dBD_9 : decode method_3_code 9 = .ok (.if_icmp .eq 9, 3) := by decide +kernel
theorem dBD_12 : decode method_3_code 12 = .ok (.iload_n 0, 1) := by decide +kernel
theorem dBD_13 : decode method_3_code 13 = .ok (.bipush 13, 2) := by decide +kernel
theorem dBD_15 : decode method_3_code 15 = .ok (.if_icmp .ne 7, 3) := by decide +kernel
theorem dBD_18 : decode method_3_code 18 = .ok (.iconst 1, 1) := by decide +kernel
theorem dBD_19 : decode method_3_code 19 = .ok (.goto 4, 3) := by decide +kernel
theorem dBD_22 : decode method_3_code 22 = .ok (.iconst 0, 1) := by decide +kernel
theorem dBD_23 : decode method_3_code 23 = .ok (.ireturn, 1) := by decide +kernel
theorem pdBD : parseMethodDescriptor "(C)Z" = some ⟨[.char], some .boolean⟩ := by decide +kernel
set_option maxRecDepth 65536 in
set_option maxHeartbeats 40000000 in
theorem rmBD (l : Launch) (Z : State) (a0 : Array Value) (hw : ∀ d ∈ tables_1, d.before a0 Z = true) (ws : List Jvm.Cond) (pc_ : Int32) (h0 : Heap) (n0 : Nat) (Z0 : n0 ≤ h0.size)  :
    MetFree l (⟨"raciocinio/cli/RecordWriterCanHoldPinLaw", "bad", "(C)Z"⟩ : MethodName) (head1 (Jvm.Cond.code (⟨"raciocinio/cli/RecordWriterCanHoldPinLaw", "bad", "(C)Z"⟩ : MethodName) method_3_code 1 (some .boolean) :: ws) ({ frames := 0, cells := 0, slots := 0, locals := 0 } : Room)) (fun aa U => aa = #[(.int pc_)] ∧ Z.Warmed39 U.vm ∧ U.heap = h0) (fun _ _ _ _ _ => True) (fun _ U oo U' => ∃ v L, oo = .returned v ∧ QBD Z pc_ h0 n0 v U'.heap L ∧ FrameEnd U oo U' L ({ frames := 0, cells := 0, slots := 0, locals := 0 } : Room).cells ({ frames := 0, cells := 0, slots := 0, locals := 0 } : Room).slots) := by
  refine MetFree.of_bodySF (plainFor_of_name pnDR) hisR ?_
  intro p e s m args below meth c s₁ Bd hml0 hP hK
  obtain ⟨rfl, hZ, hh⟩ := hP
  have hx := Bd.exec
  have hby := Bd.bytes
  have hlk : meth.locks = false := BodyLoose.notSynchronized Bd
  have hml : c.maxLocals = 1 := hml0
  have hown : s.vm.findClass "raciocinio/cli/RecordWriterCanHoldPinLaw" = some m.cls := findClass_of_methodNamed Bd.named
  have hnm := (name_of_methodNamed Bd.named Bd.method).1
  have X0 : Stand p l e ({ frames := 0, cells := 0, slots := 0, locals := 0 } : Room) s m #[(.int pc_)] below meth c s₁ [] 0 0 := Stand.of_body Bd
  have e0 : s₁.heap = h0 := by rw [← hh, Bd.state]; rfl
  have N0 := Fr.nil n0
  have ef : entryFrame m #[(.int pc_)] 1 = mkF m 0 #[iv pc_] [] := by first | (simp [entryFrame, mkF, argsToLocals, Value.category, maxLocals]; done) | rfl
  show Way p.tables e below (KQ s (QBD Z pc_ h0 n0) ({ frames := 0, cells := 0, slots := 0, locals := 0 } : Room).cells ({ frames := 0, cells := 0, slots := 0, locals := 0 } : Room).slots) (s₁.setTop (entryFrame m #[(.int pc_)] 1))
  rw [ef]
  refine Way.by (fun _ k => XS.iloadN X0.here hx rfl (hb hby dBD_0) rfl k) ?_
  show Way _ _ _ _ (s₁.setTop (mkF m 1 #[iv pc_] [(.int pc_)]))
  refine Way.by (fun _ k => XS.bipush X0.here hx rfl (hb hby dBD_1) k) ?_
  show Way _ _ _ _ (s₁.setTop (mkF m 3 #[iv pc_] [(.int 9), (.int pc_)]))
  by_cases hq3 : pc_ = (9 : Int32)
  · skip
    refine Way.by (fun _ k => XS.icmpYes X0.here hx rfl (pc0 := 3) (pc' := 18) rfl (hb hby dBD_3) rfl (teq hq3).1 (by decide) (by decide) k) ?_
    show Way _ _ _ _ (s₁.setTop (mkF m 18 #[iv pc_] []))
    refine Way.by (fun _ k => XS.iconst X0.here hx rfl (hb hby dBD_18) k) ?_
    show Way _ _ _ _ (s₁.setTop (mkF m 19 #[iv pc_] [(.int 1)]))
    refine Way.by (fun _ k => XS.goto X0.here hx rfl (pc0 := 19) (pc' := 23) rfl (hb hby dBD_19) (by decide) (by decide) k) ?_
    show Way _ _ _ _ (s₁.setTop (mkF m 23 #[iv pc_] [(.int 1)]))
    refine Way.ret (v := (some (.int (nar .boolean (1 : Int32))))) X0 hlk (fun h => by rw [Bd.returns] at h; cases h) (fun fs hr => retN X0 hx (t := .boolean) Bd.returns (by simp) (hb hby dBD_23) hr) ?_ (by decide) (by decide)
    show QBD Z pc_ h0 n0 _ s₁.heap _
    rw [e0]
    exact ⟨by rw [own_bad1 (Or.inl hq3)]; rfl, N0, rfl⟩
  · skip
    refine Way.by (fun _ k => XS.icmpNo X0.here hx rfl (hb hby dBD_3) rfl (feq hq3).1 k) ?_
    show Way _ _ _ _ (s₁.setTop (mkF m 6 #[iv pc_] []))
    refine Way.by (fun _ k => XS.iloadN X0.here hx rfl (hb hby dBD_6) rfl k) ?_
    show Way _ _ _ _ (s₁.setTop (mkF m 7 #[iv pc_] [(.int pc_)]))
    refine Way.by (fun _ k => XS.bipush X0.here hx rfl (hb hby dBD_7) k) ?_
    show Way _ _ _ _ (s₁.setTop (mkF m 9 #[iv pc_] [(.int 10), (.int pc_)]))
    by_cases hq9 : pc_ = (10 : Int32)
    · skip
      refine Way.by (fun _ k => XS.icmpYes X0.here hx rfl (pc0 := 9) (pc' := 18) rfl (hb hby dBD_9) rfl (teq hq9).1 (by decide) (by decide) k) ?_
      show Way _ _ _ _ (s₁.setTop (mkF m 18 #[iv pc_] []))
      refine Way.by (fun _ k => XS.iconst X0.here hx rfl (hb hby dBD_18) k) ?_
      show Way _ _ _ _ (s₁.setTop (mkF m 19 #[iv pc_] [(.int 1)]))
      refine Way.by (fun _ k => XS.goto X0.here hx rfl (pc0 := 19) (pc' := 23) rfl (hb hby dBD_19) (by decide) (by decide) k) ?_
      show Way _ _ _ _ (s₁.setTop (mkF m 23 #[iv pc_] [(.int 1)]))
      refine Way.ret (v := (some (.int (nar .boolean (1 : Int32))))) X0 hlk (fun h => by rw [Bd.returns] at h; cases h) (fun fs hr => retN X0 hx (t := .boolean) Bd.returns (by simp) (hb hby dBD_23) hr) ?_ (by decide) (by decide)
      show QBD Z pc_ h0 n0 _ s₁.heap _
      rw [e0]
      exact ⟨by rw [own_bad1 (Or.inr (Or.inl hq9))]; rfl, N0, rfl⟩
    · skip
      refine Way.by (fun _ k => XS.icmpNo X0.here hx rfl (hb hby dBD_9) rfl (feq hq9).1 k) ?_
      show Way _ _ _ _ (s₁.setTop (mkF m 12 #[iv pc_] []))
      refine Way.by (fun _ k => XS.iloadN X0.here hx rfl (hb hby dBD_12) rfl k) ?_
      show Way _ _ _ _ (s₁.setTop (mkF m 13 #[iv pc_] [(.int pc_)]))
      refine Way.by (fun _ k => XS.bipush X0.here hx rfl (hb hby dBD_13) k) ?_
      show Way _ _ _ _ (s₁.setTop (mkF m 15 #[iv pc_] [(.int 13), (.int pc_)]))
      by_cases hq15 : pc_ = (13 : Int32)
      · skip
        refine Way.by (fun _ k => XS.icmpNo X0.here hx rfl (hb hby dBD_15) rfl (teq hq15).2 k) ?_
        show Way _ _ _ _ (s₁.setTop (mkF m 18 #[iv pc_] []))
        refine Way.by (fun _ k => XS.iconst X0.here hx rfl (hb hby dBD_18) k) ?_
        show Way _ _ _ _ (s₁.setTop (mkF m 19 #[iv pc_] [(.int 1)]))
        refine Way.by (fun _ k => XS.goto X0.here hx rfl (pc0 := 19) (pc' := 23) rfl (hb hby dBD_19) (by decide) (by decide) k) ?_
        show Way _ _ _ _ (s₁.setTop (mkF m 23 #[iv pc_] [(.int 1)]))
        refine Way.ret (v := (some (.int (nar .boolean (1 : Int32))))) X0 hlk (fun h => by rw [Bd.returns] at h; cases h) (fun fs hr => retN X0 hx (t := .boolean) Bd.returns (by simp) (hb hby dBD_23) hr) ?_ (by decide) (by decide)
        show QBD Z pc_ h0 n0 _ s₁.heap _
        rw [e0]
        exact ⟨by rw [own_bad1 (Or.inr (Or.inr hq15))]; rfl, N0, rfl⟩
      · skip
        refine Way.by (fun _ k => XS.icmpYes X0.here hx rfl (pc0 := 15) (pc' := 22) rfl (hb hby dBD_15) rfl (feq hq15).2 (by decide) (by decide) k) ?_
        show Way _ _ _ _ (s₁.setTop (mkF m 22 #[iv pc_] []))
        refine Way.by (fun _ k => XS.iconst X0.here hx rfl (hb hby dBD_22) k) ?_
        show Way _ _ _ _ (s₁.setTop (mkF m 23 #[iv pc_] [(.int 0)]))
        refine Way.ret (v := (some (.int (nar .boolean (0 : Int32))))) X0 hlk (fun h => by rw [Bd.returns] at h; cases h) (fun fs hr => retN X0 hx (t := .boolean) Bd.returns (by simp) (hb hby dBD_23) hr) ?_ (by decide) (by decide)
        show QBD Z pc_ h0 n0 _ s₁.heap _
        rw [e0]
        exact ⟨by rw [own_bad0 hq3 hq9 hq15]; rfl, N0, rfl⟩
def QMX (Z : State) (px : Int32) (py : Int32) (pr : Int32) (h0 : Heap) (n0 : Nat) (v : Option Value) (h : Heap) (L : List Loc) : Prop := v = some (.int pr) ∧ Fr n0 L ∧ h = h0
theorem dMX_0 : decode jdk_29_method_65_code 0 = .ok (.iload_n 0, 1) := by decide +kernel
theorem dMX_1 : decode jdk_29_method_65_code 1 = .ok (.iload_n 1, 1) := by decide +kernel
theorem dMX_2 : decode jdk_29_method_65_code 2 = .ok (.if_icmp .lt 7, 3) := by decide +kernel
theorem dMX_5 : decode jdk_29_method_65_code 5 = .ok (.iload_n 0, 1) := by decide +kernel
theorem dMX_6 : decode jdk_29_method_65_code 6 = .ok (.goto 4, 3) := by decide +kernel
theorem dMX_9 : decode jdk_29_method_65_code 9 = .ok (.iload_n 1, 1) := by decide +kernel
theorem dMX_10 : decode jdk_29_method_65_code 10 = .ok (.ireturn, 1) := by decide +kernel
theorem pnMX : plainFor (⟨"java/lang/Math", "max", "(II)I"⟩ : MethodName) = true := by decide +kernel
theorem pdMX : parseMethodDescriptor "(II)I" = some ⟨[.int, .int], some .int⟩ := by decide +kernel
set_option maxRecDepth 65536 in
set_option maxHeartbeats 40000000 in
theorem rmMX (l : Launch) (Z : State) (a0 : Array Value) (hw : ∀ d ∈ tables_1, d.before a0 Z = true) (ws : List Jvm.Cond) (px : Int32) (py : Int32) (pr : Int32) (h0 : Heap) (n0 : Nat) (Z0 : n0 ≤ h0.size) (hr : pr = if px < py then py else px) :
    MetFree l (⟨"java/lang/Math", "max", "(II)I"⟩ : MethodName) (head1 (Jvm.Cond.code (⟨"java/lang/Math", "max", "(II)I"⟩ : MethodName) jdk_29_method_65_code 2 (some .int) :: ws) ({ frames := 0, cells := 0, slots := 0, locals := 0 } : Room)) (fun aa U => aa = #[(.int px), (.int py)] ∧ Z.Warmed39 U.vm ∧ U.heap = h0) (fun _ _ _ _ _ => True) (fun _ U oo U' => ∃ v L, oo = .returned v ∧ QMX Z px py pr h0 n0 v U'.heap L ∧ FrameEnd U oo U' L ({ frames := 0, cells := 0, slots := 0, locals := 0 } : Room).cells ({ frames := 0, cells := 0, slots := 0, locals := 0 } : Room).slots) := by
  refine MetFree.of_bodySF pnMX hisR ?_
  intro p e s m args below meth c s₁ Bd hml0 hP hK
  obtain ⟨rfl, hZ, hh⟩ := hP
  have hx := Bd.exec
  have hby := Bd.bytes
  have hlk : meth.locks = false := BodyLoose.notSynchronized Bd
  have hml : c.maxLocals = 2 := hml0
  have hown : s.vm.findClass "java/lang/Math" = some m.cls := findClass_of_methodNamed Bd.named
  have hnm := (name_of_methodNamed Bd.named Bd.method).1
  have X0 : Stand p l e ({ frames := 0, cells := 0, slots := 0, locals := 0 } : Room) s m #[(.int px), (.int py)] below meth c s₁ [] 0 0 := Stand.of_body Bd
  have e0 : s₁.heap = h0 := by rw [← hh, Bd.state]; rfl
  have N0 := Fr.nil n0
  have ef : entryFrame m #[(.int px), (.int py)] 2 = mkF m 0 #[iv px, iv py] [] := by first | (simp [entryFrame, mkF, argsToLocals, Value.category, maxLocals]; done) | rfl
  show Way p.tables e below (KQ s (QMX Z px py pr h0 n0) ({ frames := 0, cells := 0, slots := 0, locals := 0 } : Room).cells ({ frames := 0, cells := 0, slots := 0, locals := 0 } : Room).slots) (s₁.setTop (entryFrame m #[(.int px), (.int py)] 2))
  rw [ef]
  refine Way.by (fun _ k => XS.iloadN X0.here hx rfl (hb hby dMX_0) rfl k) ?_
  show Way _ _ _ _ (s₁.setTop (mkF m 1 #[iv px, iv py] [(.int px)]))
  refine Way.by (fun _ k => XS.iloadN X0.here hx rfl (hb hby dMX_1) rfl k) ?_
  show Way _ _ _ _ (s₁.setTop (mkF m 2 #[iv px, iv py] [(.int py), (.int px)]))
  by_cases hq : px < py
  · skip
    refine Way.by (fun _ k => XS.icmpYes X0.here hx rfl (pc0 := 2) (pc' := 9) rfl (hb hby dMX_2) rfl (tlt hq).1 (by decide) (by decide) k) ?_
    show Way _ _ _ _ (s₁.setTop (mkF m 9 #[iv px, iv py] []))
    refine Way.by (fun _ k => XS.iloadN X0.here hx rfl (hb hby dMX_9) rfl k) ?_
    show Way _ _ _ _ (s₁.setTop (mkF m 10 #[iv px, iv py] [(.int py)]))
    refine Way.ret (v := (some (.int py))) X0 hlk (fun h => by rw [Bd.returns] at h; cases h) (fun fs hr => retI X0 hx Bd.returns (hb hby dMX_10) hr) ?_ (by decide) (by decide)
    show QMX Z px py pr h0 n0 _ s₁.heap _
    rw [e0]
    exact ⟨by rw [hr]; simp [hq], N0, rfl⟩
  · skip
    refine Way.by (fun _ k => XS.icmpNo X0.here hx rfl (hb hby dMX_2) rfl (flt hq).1 k) ?_
    show Way _ _ _ _ (s₁.setTop (mkF m 5 #[iv px, iv py] []))
    refine Way.by (fun _ k => XS.iloadN X0.here hx rfl (hb hby dMX_5) rfl k) ?_
    show Way _ _ _ _ (s₁.setTop (mkF m 6 #[iv px, iv py] [(.int px)]))
    refine Way.by (fun _ k => XS.goto X0.here hx rfl (pc0 := 6) (pc' := 10) rfl (hb hby dMX_6) (by decide) (by decide) k) ?_
    show Way _ _ _ _ (s₁.setTop (mkF m 10 #[iv px, iv py] [(.int px)]))
    refine Way.ret (v := (some (.int px))) X0 hlk (fun h => by rw [Bd.returns] at h; cases h) (fun fs hr => retI X0 hx Bd.returns (hb hby dMX_10) hr) ?_ (by decide) (by decide)
    show QMX Z px py pr h0 n0 _ s₁.heap _
    rw [e0]
    exact ⟨by rw [hr]; simp [hq], N0, rfl⟩
def QMN (Z : State) (px : Int32) (py : Int32) (pr : Int32) (h0 : Heap) (n0 : Nat) (v : Option Value) (h : Heap) (L : List Loc) : Prop := v = some (.int pr) ∧ Fr n0 L ∧ h = h0
theorem dMN_0 : decode jdk_29_method_69_code 0 = .ok (.iload_n 0, 1) := by decide +kernel
theorem dMN_1 : decode jdk_29_method_69_code 1 = .ok (.iload_n 1, 1) := by decide +kernel
theorem dMN_2 : decode jdk_29_method_69_code 2 = .ok (.if_icmp .gt 7, 3) := by decide +kernel
theorem dMN_5 : decode jdk_29_method_69_code 5 = .ok (.iload_n 0, 1) := by decide +kernel
theorem dMN_6 : decode jdk_29_method_69_code 6 = .ok (.goto 4, 3) := by decide +kernel
theorem dMN_9 : decode jdk_29_method_69_code 9 = .ok (.iload_n 1, 1) := by decide +kernel
theorem dMN_10 : decode jdk_29_method_69_code 10 = .ok (.ireturn, 1) := by decide +kernel
theorem pnMN : plainFor (⟨"java/lang/Math", "min", "(II)I"⟩ : MethodName) = true := by decide +kernel
set_option maxRecDepth 65536 in
set_option maxHeartbeats 40000000 in
theorem rmMN (l : Launch) (Z : State) (a0 : Array Value) (hw : ∀ d ∈ tables_1, d.before a0 Z = true) (ws : List Jvm.Cond) (px : Int32) (py : Int32) (pr : Int32) (h0 : Heap) (n0 : Nat) (Z0 : n0 ≤ h0.size) (hr : pr = if py < px then py else px) :
    MetFree l (⟨"java/lang/Math", "min", "(II)I"⟩ : MethodName) (head1 (Jvm.Cond.code (⟨"java/lang/Math", "min", "(II)I"⟩ : MethodName) jdk_29_method_69_code 2 (some .int) :: ws) ({ frames := 0, cells := 0, slots := 0, locals := 0 } : Room)) (fun aa U => aa = #[(.int px), (.int py)] ∧ Z.Warmed39 U.vm ∧ U.heap = h0) (fun _ _ _ _ _ => True) (fun _ U oo U' => ∃ v L, oo = .returned v ∧ QMN Z px py pr h0 n0 v U'.heap L ∧ FrameEnd U oo U' L ({ frames := 0, cells := 0, slots := 0, locals := 0 } : Room).cells ({ frames := 0, cells := 0, slots := 0, locals := 0 } : Room).slots) := by
  refine MetFree.of_bodySF pnMN hisR ?_
  intro p e s m args below meth c s₁ Bd hml0 hP hK
  obtain ⟨rfl, hZ, hh⟩ := hP
  have hx := Bd.exec
  have hby := Bd.bytes
  have hlk : meth.locks = false := BodyLoose.notSynchronized Bd
  have hml : c.maxLocals = 2 := hml0
  have hown : s.vm.findClass "java/lang/Math" = some m.cls := findClass_of_methodNamed Bd.named
  have hnm := (name_of_methodNamed Bd.named Bd.method).1
  have X0 : Stand p l e ({ frames := 0, cells := 0, slots := 0, locals := 0 } : Room) s m #[(.int px), (.int py)] below meth c s₁ [] 0 0 := Stand.of_body Bd
  have e0 : s₁.heap = h0 := by rw [← hh, Bd.state]; rfl
  have N0 := Fr.nil n0
  have ef : entryFrame m #[(.int px), (.int py)] 2 = mkF m 0 #[iv px, iv py] [] := by first | (simp [entryFrame, mkF, argsToLocals, Value.category, maxLocals]; done) | rfl
  show Way p.tables e below (KQ s (QMN Z px py pr h0 n0) ({ frames := 0, cells := 0, slots := 0, locals := 0 } : Room).cells ({ frames := 0, cells := 0, slots := 0, locals := 0 } : Room).slots) (s₁.setTop (entryFrame m #[(.int px), (.int py)] 2))
  rw [ef]
  refine Way.by (fun _ k => XS.iloadN X0.here hx rfl (hb hby dMN_0) rfl k) ?_
  show Way _ _ _ _ (s₁.setTop (mkF m 1 #[iv px, iv py] [(.int px)]))
  refine Way.by (fun _ k => XS.iloadN X0.here hx rfl (hb hby dMN_1) rfl k) ?_
  show Way _ _ _ _ (s₁.setTop (mkF m 2 #[iv px, iv py] [(.int py), (.int px)]))
  by_cases hq : py < px
  · skip
    refine Way.by (fun _ k => XS.icmpYes X0.here hx rfl (pc0 := 2) (pc' := 9) rfl (hb hby dMN_2) rfl (tlt hq).2.2.1 (by decide) (by decide) k) ?_
    show Way _ _ _ _ (s₁.setTop (mkF m 9 #[iv px, iv py] []))
    refine Way.by (fun _ k => XS.iloadN X0.here hx rfl (hb hby dMN_9) rfl k) ?_
    show Way _ _ _ _ (s₁.setTop (mkF m 10 #[iv px, iv py] [(.int py)]))
    refine Way.ret (v := (some (.int py))) X0 hlk (fun h => by rw [Bd.returns] at h; cases h) (fun fs hr => retI X0 hx Bd.returns (hb hby dMN_10) hr) ?_ (by decide) (by decide)
    show QMN Z px py pr h0 n0 _ s₁.heap _
    rw [e0]
    exact ⟨by rw [hr]; simp [hq], N0, rfl⟩
  · skip
    refine Way.by (fun _ k => XS.icmpNo X0.here hx rfl (hb hby dMN_2) rfl (flt hq).2.2.1 k) ?_
    show Way _ _ _ _ (s₁.setTop (mkF m 5 #[iv px, iv py] []))
    refine Way.by (fun _ k => XS.iloadN X0.here hx rfl (hb hby dMN_5) rfl k) ?_
    show Way _ _ _ _ (s₁.setTop (mkF m 6 #[iv px, iv py] [(.int px)]))
    refine Way.by (fun _ k => XS.goto X0.here hx rfl (pc0 := 6) (pc' := 10) rfl (hb hby dMN_6) (by decide) (by decide) k) ?_
    show Way _ _ _ _ (s₁.setTop (mkF m 10 #[iv px, iv py] [(.int px)]))
    refine Way.ret (v := (some (.int px))) X0 hlk (fun h => by rw [Bd.returns] at h; cases h) (fun fs hr => retI X0 hx Bd.returns (hb hby dMN_10) hr) ?_ (by decide) (by decide)
    show QMN Z px py pr h0 n0 _ s₁.heap _
    rw [e0]
    exact ⟨by rw [hr]; simp [hq], N0, rfl⟩
def QCE (Z : State) (pch : Int32) (h0 : Heap) (n0 : Nat) (v : Option Value) (h : Heap) (L : List Loc) : Prop := v = some (.int 1) ∧ Fr n0 L ∧ h = h0
theorem dCE_0 : decode jdk_43_method_4_code 0 = .ok (.iload_n 0, 1) := by decide +kernel
theorem dCE_1 : decode jdk_43_method_4_code 1 = .ok (.ifCond .lt 14, 3) := by decide +kernel
theorem dCE_4 : decode jdk_43_method_4_code 4 = .ok (.iload_n 0, 1) := by decide +kernel
theorem dCE_5 : decode jdk_43_method_4_code 5 = .ok (.sipush 255, 3) := by decide +kernel
theorem dCE_8 : decode jdk_43_method_4_code 8 = .ok (.if_icmp .gt 7, 3) := by decide +kernel
theorem dCE_11 : decode jdk_43_method_4_code 11 = .ok (.iconst 1, 1) := by decide +kernel
theorem dCE_12 : decode jdk_43_method_4_code 12 = .ok (.goto 4, 3) := by decide +kernel
theorem dCE_16 : decode jdk_43_method_4_code 16 = .ok (.ireturn, 1) := by decide +kernel
theorem pnCE : plainName "java/lang/StringLatin1" = true := by first | (simp [plainName, overriddenIn]; done) | decide +kernel
theorem pdCE : parseMethodDescriptor "(I)Z" = some ⟨[.int], some .boolean⟩ := by decide +kernel
set_option maxRecDepth 65536 in
set_option maxHeartbeats 40000000 in
theorem rmCE (l : Launch) (Z : State) (a0 : Array Value) (hw : ∀ d ∈ tables_1, d.before a0 Z = true) (ws : List Jvm.Cond) (pch : Int32) (h0 : Heap) (n0 : Nat) (Z0 : n0 ≤ h0.size) (hch : ¬ pch < 0 ∧ ¬ (255 : Int32) < pch) :
    MetFree l (⟨"java/lang/StringLatin1", "canEncode", "(I)Z"⟩ : MethodName) (head1 (Jvm.Cond.code (⟨"java/lang/StringLatin1", "canEncode", "(I)Z"⟩ : MethodName) jdk_43_method_4_code 1 (some .boolean) :: ws) ({ frames := 0, cells := 0, slots := 0, locals := 0 } : Room)) (fun aa U => aa = #[(.int pch)] ∧ Z.Warmed39 U.vm ∧ U.heap = h0) (fun _ _ _ _ _ => True) (fun _ U oo U' => ∃ v L, oo = .returned v ∧ QCE Z pch h0 n0 v U'.heap L ∧ FrameEnd U oo U' L ({ frames := 0, cells := 0, slots := 0, locals := 0 } : Room).cells ({ frames := 0, cells := 0, slots := 0, locals := 0 } : Room).slots) := by
  refine MetFree.of_bodySF (plainFor_of_name pnCE) hisR ?_
  intro p e s m args below meth c s₁ Bd hml0 hP hK
  obtain ⟨rfl, hZ, hh⟩ := hP
  have hx := Bd.exec
  have hby := Bd.bytes
  have hlk : meth.locks = false := BodyLoose.notSynchronized Bd
  have hml : c.maxLocals = 1 := hml0
  have hown : s.vm.findClass "java/lang/StringLatin1" = some m.cls := findClass_of_methodNamed Bd.named
  have hnm := (name_of_methodNamed Bd.named Bd.method).1
  have X0 : Stand p l e ({ frames := 0, cells := 0, slots := 0, locals := 0 } : Room) s m #[(.int pch)] below meth c s₁ [] 0 0 := Stand.of_body Bd
  have e0 : s₁.heap = h0 := by rw [← hh, Bd.state]; rfl
  have N0 := Fr.nil n0
  have ef : entryFrame m #[(.int pch)] 1 = mkF m 0 #[iv pch] [] := by first | (simp [entryFrame, mkF, argsToLocals, Value.category, maxLocals]; done) | rfl
  show Way p.tables e below (KQ s (QCE Z pch h0 n0) ({ frames := 0, cells := 0, slots := 0, locals := 0 } : Room).cells ({ frames := 0, cells := 0, slots := 0, locals := 0 } : Room).slots) (s₁.setTop (entryFrame m #[(.int pch)] 1))
  rw [ef]
  refine Way.by (fun _ k => XS.iloadN X0.here hx rfl (hb hby dCE_0) rfl k) ?_
  show Way _ _ _ _ (s₁.setTop (mkF m 1 #[iv pch] [(.int pch)]))
  have b1 : ¬ pch < (0 : Int32) := hch.1
  refine Way.by (fun _ k => XS.ifNo X0.here hx rfl (hb hby dCE_1) rfl ((if0 .lt _).trans (flt b1).1) k) ?_
  show Way _ _ _ _ (s₁.setTop (mkF m 4 #[iv pch] []))
  refine Way.by (fun _ k => XS.iloadN X0.here hx rfl (hb hby dCE_4) rfl k) ?_
  show Way _ _ _ _ (s₁.setTop (mkF m 5 #[iv pch] [(.int pch)]))
  refine Way.by (fun _ k => XS.sipush X0.here hx rfl (hb hby dCE_5) k) ?_
  show Way _ _ _ _ (s₁.setTop (mkF m 8 #[iv pch] [(.int 255), (.int pch)]))
  have b2 : ¬ (255 : Int32) < pch := hch.2
  refine Way.by (fun _ k => XS.icmpNo X0.here hx rfl (hb hby dCE_8) rfl (flt b2).2.2.1 k) ?_
  show Way _ _ _ _ (s₁.setTop (mkF m 11 #[iv pch] []))
  refine Way.by (fun _ k => XS.iconst X0.here hx rfl (hb hby dCE_11) k) ?_
  show Way _ _ _ _ (s₁.setTop (mkF m 12 #[iv pch] [(.int 1)]))
  refine Way.by (fun _ k => XS.goto X0.here hx rfl (pc0 := 12) (pc' := 16) rfl (hb hby dCE_12) (by decide) (by decide) k) ?_
  show Way _ _ _ _ (s₁.setTop (mkF m 16 #[iv pch] [(.int 1)]))
  refine Way.ret (v := (some (.int (nar .boolean (1 : Int32))))) X0 hlk (fun h => by rw [Bd.returns] at h; cases h) (fun fs hr => retN X0 hx (t := .boolean) Bd.returns (by simp) (hb hby dCE_16) hr) ?_ (by decide) (by decide)
  show QCE Z pch h0 n0 _ s₁.heap _
  rw [e0]
  exact ⟨rfl, N0, rfl⟩
def QLC (Z : State) (pt : Addr) (kb : ClassId) (cs : List Int32) (pch : Int32) (h0 : Heap) (n0 : Nat) (v : Option Value) (h : Heap) (L : List Loc) : Prop := ∃ (pr : Int32), v = some (.int pr) ∧ Fr n0 L ∧ h = h0 ∧ (pr < 0 ↔ pch ∉ cs)
theorem dLC_0 : decode jdk_43_method_23_code 0 = .ok (.iload_n 1, 1) := by decide +kernel
theorem dLC_1 : decode jdk_43_method_23_code 1 = .ok (.i2b, 1) := by decide +kernel
theorem dLC_2 : decode jdk_43_method_23_code 2 = .ok (.istore 4, 2) := by decide +kernel
theorem dLC_4 : decode jdk_43_method_23_code 4 = .ok (.iload_n 2, 1) := by decide +kernel
theorem dLC_5 : decode jdk_43_method_23_code 5 = .ok (.istore 5, 2) := by decide +kernel
theorem dLC_7 : decode jdk_43_method_23_code 7 = .ok (.iload 5, 2) := by decide +kernel
theorem dLC_9 : decode jdk_43_method_23_code 9 = .ok (.iload_n 3, 1) := by decide +kernel
theorem dLC_10 : decode jdk_43_method_23_code 10 = .ok (.if_icmp .ge 21, 3) := by decide +kernel
theorem dLC_13 : decode jdk_43_method_23_code 13 = .ok (.aload_n 0, 1) := by decide +kernel
theorem dLC_14 : decode jdk_43_method_23_code 14 = .ok (.iload 5, 2) := by decide +kernel
theorem dLC_16 : decode jdk_43_method_23_code 16 = .ok (.baload, 1) := by decide +kernel
theorem dLC_17 : decode jdk_43_method_23_code 17 = .ok (.iload 4, 2) := by decide +kernel
theorem dLC_19 : decode jdk_43_method_23_code 19 = .ok (.if_icmp .ne 6, 3) := by decide +kernel
theorem dLC_22 : decode jdk_43_method_23_code 22 = .ok (.iload 5, 2) := by decide +kernel
theorem dLC_24 : decode jdk_43_method_23_code 24 = .ok (.ireturn, 1) := by decide +kernel
theorem dLC_25 : decode jdk_43_method_23_code 25 = .ok (.iinc 5 1, 3) := by decide +kernel
theorem dLC_28 : decode jdk_43_method_23_code 28 = .ok (.goto (-21), 3) := by decide +kernel
theorem dLC_31 : decode jdk_43_method_23_code 31 = .ok (.iconst (-1), 1) := by decide +kernel
theorem dLC_32 : decode jdk_43_method_23_code 32 = .ok (.ireturn, 1) := by decide +kernel
theorem pdLC : parseMethodDescriptor "([BIII)I" = some ⟨[(.array .byte), .int, .int, .int], some .int⟩ := by decide +kernel
set_option maxRecDepth 65536 in
set_option maxHeartbeats 40000000 in
theorem segLC7 (l : Launch) (Z : State) (a0 : Array Value) (hw : ∀ d ∈ tables_1, d.before a0 Z = true) (ws : List Jvm.Cond) (pt : Addr) (kb : ClassId) (cs : List Int32) (pch : Int32) (h0 : Heap) (n0 : Nat) (Z0 : n0 ≤ h0.size) (H0 : Arv Z h0 pt kb .byte (Int32.ofNat cs.length) (cs.map fun c => Value.int (StrChars.lo8 c)) (.int 0)) (hln : cs.length ≤ 4000) (hB : ∀ c ∈ cs, ¬ c < 0 ∧ ¬ (255 : Int32) < c) (hch : ¬ pch < 0 ∧ ¬ (255 : Int32) < pch)
    (p : Program) (e : Env) (s : State) (m : MethodId) (below : List Frame) (meth : Method) (c : Code) (s₁ : State) (Bd : BodyLoose p l (⟨"java/lang/StringLatin1", "indexOfChar", "([BIII)I"⟩ : MethodName) (head1 (Jvm.Cond.code (⟨"java/lang/StringLatin1", "indexOfChar", "([BIII)I"⟩ : MethodName) jdk_43_method_23_code 6 (some .int) :: ws) ({ frames := 0, cells := 0, slots := 0, locals := 0 } : Room)) jdk_43_method_23_code 6 (some .int) e s m #[(.ref pt), (.int pch), (.int 0), (.int (Int32.ofNat cs.length))] below meth c s₁) (hml : c.maxLocals = 6)
    (hZ : Z.Warmed39 s.vm) (hown : s.vm.findClass "java/lang/StringLatin1" = some m.cls)
    (T : State) (h : Heap) (locs : List Loc) (X : Stand p l e ({ frames := 0, cells := 0, slots := 0, locals := 0 } : Room) s m #[(.ref pt), (.int pch), (.int 0), (.int (Int32.ofNat cs.length))] below meth c T locs 0 0) (eT : T.heap = h) (N : Fr n0 locs) (Zh : n0 ≤ h.size) (i : Nat) (J0 : Arv Z h pt kb .byte (Int32.ofNat cs.length) (cs.map fun c => Value.int (StrChars.lo8 c)) (.int 0)) (hh0 : h = h0) (hi : i ≤ cs.length) (hv : ∀ j, j < i → ¬ cs.getD j 0 = pch) :
    Way p.tables e below (KQ s (QLC Z pt kb cs pch h0 n0) ({ frames := 0, cells := 0, slots := 0, locals := 0 } : Room).cells ({ frames := 0, cells := 0, slots := 0, locals := 0 } : Room).slots) (T.setTop (mkF m 7 #[rv pt, iv pch, iv 0, iv (Int32.ofNat cs.length), iv pch.toInt8.toInt32, iv (Int32.ofNat i)] [])) := by
  have hx := Bd.exec
  have hby := Bd.bytes
  have hlk : meth.locks = false := BodyLoose.notSynchronized Bd
  have hnm := (name_of_methodNamed Bd.named Bd.method).1
  refine Way.by (fun _ k => XS.iload X.here hx rfl (hb hby dLC_7) rfl k) ?_
  show Way _ _ _ _ (T.setTop (mkF m 9 #[rv pt, iv pch, iv 0, iv (Int32.ofNat cs.length), iv pch.toInt8.toInt32, iv (Int32.ofNat i)] [(.int (Int32.ofNat i))]))
  refine Way.by (fun _ k => XS.iloadN X.here hx rfl (hb hby dLC_9) rfl k) ?_
  show Way _ _ _ _ (T.setTop (mkF m 10 #[rv pt, iv pch, iv 0, iv (Int32.ofNat cs.length), iv pch.toInt8.toInt32, iv (Int32.ofNat i)] [(.int (Int32.ofNat cs.length)), (.int (Int32.ofNat i))]))
  by_cases hlt : (Int32.ofNat i) < (Int32.ofNat cs.length)
  · skip
    have hi2 : i < cs.length := (own_ofNat_lt (by omega) (by omega)).mp hlt
    refine Way.by (fun _ k => XS.icmpNo X.here hx rfl (hb hby dLC_10) rfl (tlt hlt).2.1 k) ?_
    show Way _ _ _ _ (T.setTop (mkF m 13 #[rv pt, iv pch, iv 0, iv (Int32.ofNat cs.length), iv pch.toInt8.toInt32, iv (Int32.ofNat i)] []))
    refine Way.by (fun _ k => XS.aloadN X.here hx rfl (hb hby dLC_13) rfl rfl k) ?_
    show Way _ _ _ _ (T.setTop (mkF m 14 #[rv pt, iv pch, iv 0, iv (Int32.ofNat cs.length), iv pch.toInt8.toInt32, iv (Int32.ofNat i)] [(.ref pt)]))
    refine Way.by (fun _ k => XS.iload X.here hx rfl (hb hby dLC_14) rfl k) ?_
    show Way _ _ _ _ (T.setTop (mkF m 16 #[rv pt, iv pch, iv 0, iv (Int32.ofNat cs.length), iv pch.toInt8.toInt32, iv (Int32.ofNat i)] [(.int (Int32.ofNat i)), (.ref pt)]))
    obtain ⟨c1, A2, q3, S4, M5, H6, U7⟩ := id J0
    have inb8 := inb_of S4 (j := Int32.ofNat i) ⟨own_ofNat_nn (by omega), (own_ofNat_lt (by omega) (by omega)).mpr (by omega)⟩
    refine Way.by (fun t k => Stand.baloadBytes X hx (hpE eT A2.1) (arrS hZ A2) A2.2.2 inb8 (Has.at H6 inb8 (by rw [own_clamp (by omega)]; exact own_low hi2)) (v := (.int (StrChars.lo8 (cs.getD i 0)))) (g := (mkF m 16 #[rv pt, iv pch, iv 0, iv (Int32.ofNat cs.length), iv pch.toInt8.toInt32, iv (Int32.ofNat i)] [(.int (Int32.ofNat i)), (.ref pt)])) rfl rfl (hb hby dLC_16) t k) ?_
    show Way _ _ _ _ (T.setTop (mkF m 17 #[rv pt, iv pch, iv 0, iv (Int32.ofNat cs.length), iv pch.toInt8.toInt32, iv (Int32.ofNat i)] [(.int (StrChars.lo8 (cs.getD i 0)))]))
    refine Way.by (fun _ k => XS.iload X.here hx rfl (hb hby dLC_17) rfl k) ?_
    show Way _ _ _ _ (T.setTop (mkF m 19 #[rv pt, iv pch, iv 0, iv (Int32.ofNat cs.length), iv pch.toInt8.toInt32, iv (Int32.ofNat i)] [(.int pch.toInt8.toInt32), (.int (StrChars.lo8 (cs.getD i 0)))]))
    by_cases hqq : (StrChars.lo8 (cs.getD i 0)) = pch.toInt8.toInt32
    · skip
      refine Way.by (fun _ k => XS.icmpNo X.here hx rfl (hb hby dLC_19) rfl (teq hqq).2 k) ?_
      show Way _ _ _ _ (T.setTop (mkF m 22 #[rv pt, iv pch, iv 0, iv (Int32.ofNat cs.length), iv pch.toInt8.toInt32, iv (Int32.ofNat i)] []))
      refine Way.by (fun _ k => XS.iload X.here hx rfl (hb hby dLC_22) rfl k) ?_
      show Way _ _ _ _ (T.setTop (mkF m 24 #[rv pt, iv pch, iv 0, iv (Int32.ofNat cs.length), iv pch.toInt8.toInt32, iv (Int32.ofNat i)] [(.int (Int32.ofNat i))]))
      refine Way.ret (v := (some (.int (Int32.ofNat i)))) X hlk (fun h => by rw [Bd.returns] at h; cases h) (fun fs hr => retI X hx Bd.returns (hb hby dLC_24) hr) ?_ (by decide) (by decide)
      show QLC Z pt kb cs pch h0 n0 _ T.heap _
      rw [eT]
      exact ⟨_, rfl, N, hh0, ⟨fun q => absurd q (own_ofNat_nn (by omega)), fun q => absurd (own_memOf hi2 (StrChars.lo8_inj (hB _ (own_mem_getD hi2)).1 (hB _ (own_mem_getD hi2)).2 hch.1 hch.2 hqq)) q⟩⟩
    · skip
      refine Way.by (fun _ k => XS.icmpYes X.here hx rfl (pc0 := 19) (pc' := 25) rfl (hb hby dLC_19) rfl (feq hqq).2 (by decide) (by decide) k) ?_
      show Way _ _ _ _ (T.setTop (mkF m 25 #[rv pt, iv pch, iv 0, iv (Int32.ofNat cs.length), iv pch.toInt8.toInt32, iv (Int32.ofNat i)] []))
      refine Way.by (fun _ k => XS.iinc X.here hx rfl (hb hby dLC_25) rfl (l' := #[rv pt, iv pch, iv 0, iv (Int32.ofNat cs.length), iv pch.toInt8.toInt32, iv ((Int32.ofNat i) + (1 : Int32))]) rfl k) ?_
      show Way _ _ _ _ (T.setTop (mkF m 28 #[rv pt, iv pch, iv 0, iv (Int32.ofNat cs.length), iv pch.toInt8.toInt32, iv ((Int32.ofNat i) + (1 : Int32))] []))
      rw [← inc_ofNat i]
      show Way _ _ _ _ (T.setTop (mkF m 28 #[rv pt, iv pch, iv 0, iv (Int32.ofNat cs.length), iv pch.toInt8.toInt32, iv (Int32.ofNat (i + 1))] []))
      refine Way.by (fun _ k => XS.goto X.here hx rfl (pc0 := 28) (pc' := 7) rfl (hb hby dLC_28) (by decide) (by decide) k) ?_
      show Way _ _ _ _ (T.setTop (mkF m 7 #[rv pt, iv pch, iv 0, iv (Int32.ofNat cs.length), iv pch.toInt8.toInt32, iv (Int32.ofNat (i + 1))] []))
      exact segLC7 l Z a0 hw ws pt kb cs pch h0 n0 Z0 H0 hln hB hch p e s m below meth c s₁ Bd hml hZ hown T h _ X eT N Zh (i + 1) J0 hh0 hi2 (own_snoc hv (fun q => hqq (congrArg StrChars.lo8 q)))
  · skip
    refine Way.by (fun _ k => XS.icmpYes X.here hx rfl (pc0 := 10) (pc' := 31) rfl (hb hby dLC_10) rfl (flt hlt).2.1 (by decide) (by decide) k) ?_
    show Way _ _ _ _ (T.setTop (mkF m 31 #[rv pt, iv pch, iv 0, iv (Int32.ofNat cs.length), iv pch.toInt8.toInt32, iv (Int32.ofNat i)] []))
    refine Way.by (fun _ k => XS.iconst X.here hx rfl (hb hby dLC_31) k) ?_
    show Way _ _ _ _ (T.setTop (mkF m 32 #[rv pt, iv pch, iv 0, iv (Int32.ofNat cs.length), iv pch.toInt8.toInt32, iv (Int32.ofNat i)] [(.int (-1 : Int32))]))
    refine Way.ret (v := (some (.int (-1 : Int32)))) X hlk (fun h => by rw [Bd.returns] at h; cases h) (fun fs hr => retI X hx Bd.returns (hb hby dLC_32) hr) ?_ (by decide) (by decide)
    show QLC Z pt kb cs pch h0 n0 _ T.heap _
    rw [eT]
    exact ⟨_, rfl, N, hh0, ⟨fun _ => own_notMem hv (own_geLen hln hi hlt), fun _ => by decide⟩⟩
termination_by cs.length - i
decreasing_by all_goals omega
set_option maxRecDepth 65536 in
set_option maxHeartbeats 40000000 in
theorem rmLC (l : Launch) (Z : State) (a0 : Array Value) (hw : ∀ d ∈ tables_1, d.before a0 Z = true) (ws : List Jvm.Cond) (pt : Addr) (kb : ClassId) (cs : List Int32) (pch : Int32) (h0 : Heap) (n0 : Nat) (Z0 : n0 ≤ h0.size) (H0 : Arv Z h0 pt kb .byte (Int32.ofNat cs.length) (cs.map fun c => Value.int (StrChars.lo8 c)) (.int 0)) (hln : cs.length ≤ 4000) (hB : ∀ c ∈ cs, ¬ c < 0 ∧ ¬ (255 : Int32) < c) (hch : ¬ pch < 0 ∧ ¬ (255 : Int32) < pch) :
    MetFree l (⟨"java/lang/StringLatin1", "indexOfChar", "([BIII)I"⟩ : MethodName) (head1 (Jvm.Cond.code (⟨"java/lang/StringLatin1", "indexOfChar", "([BIII)I"⟩ : MethodName) jdk_43_method_23_code 6 (some .int) :: ws) ({ frames := 0, cells := 0, slots := 0, locals := 0 } : Room)) (fun aa U => aa = #[(.ref pt), (.int pch), (.int 0), (.int (Int32.ofNat cs.length))] ∧ Z.Warmed39 U.vm ∧ U.heap = h0) (fun _ _ _ _ _ => True) (fun _ U oo U' => ∃ v L, oo = .returned v ∧ QLC Z pt kb cs pch h0 n0 v U'.heap L ∧ FrameEnd U oo U' L ({ frames := 0, cells := 0, slots := 0, locals := 0 } : Room).cells ({ frames := 0, cells := 0, slots := 0, locals := 0 } : Room).slots) := by
  refine MetFree.of_bodySF (plainFor_of_name pnCE) hisR ?_
  intro p e s m args below meth c s₁ Bd hml0 hP hK
  obtain ⟨rfl, hZ, hh⟩ := hP
  have hx := Bd.exec
  have hby := Bd.bytes
  have hlk : meth.locks = false := BodyLoose.notSynchronized Bd
  have hml : c.maxLocals = 6 := hml0
  have hown : s.vm.findClass "java/lang/StringLatin1" = some m.cls := findClass_of_methodNamed Bd.named
  have hnm := (name_of_methodNamed Bd.named Bd.method).1
  have X0 : Stand p l e ({ frames := 0, cells := 0, slots := 0, locals := 0 } : Room) s m #[(.ref pt), (.int pch), (.int 0), (.int (Int32.ofNat cs.length))] below meth c s₁ [] 0 0 := Stand.of_body Bd
  have e0 : s₁.heap = h0 := by rw [← hh, Bd.state]; rfl
  have N0 := Fr.nil n0
  have ef : entryFrame m #[(.ref pt), (.int pch), (.int 0), (.int (Int32.ofNat cs.length))] 6 = mkF m 0 #[rv pt, iv pch, iv 0, iv (Int32.ofNat cs.length), .unset, .unset] [] := by first | (simp [entryFrame, mkF, argsToLocals, Value.category, maxLocals]; done) | rfl
  show Way p.tables e below (KQ s (QLC Z pt kb cs pch h0 n0) ({ frames := 0, cells := 0, slots := 0, locals := 0 } : Room).cells ({ frames := 0, cells := 0, slots := 0, locals := 0 } : Room).slots) (s₁.setTop (entryFrame m #[(.ref pt), (.int pch), (.int 0), (.int (Int32.ofNat cs.length))] 6))
  rw [ef]
  refine Way.by (fun _ k => XS.iloadN X0.here hx rfl (hb hby dLC_0) rfl k) ?_
  show Way _ _ _ _ (s₁.setTop (mkF m 1 #[rv pt, iv pch, iv 0, iv (Int32.ofNat cs.length), .unset, .unset] [(.int pch)]))
  refine Way.by (fun _ k => XT.i2b X0.here hx rfl (hb hby dLC_1) rfl k) ?_
  show Way _ _ _ _ (s₁.setTop (mkF m 2 #[rv pt, iv pch, iv 0, iv (Int32.ofNat cs.length), .unset, .unset] [(.int pch.toInt8.toInt32)]))
  refine Way.by (fun _ k => XS.istore X0.here hx rfl (hb hby dLC_2) rfl (l' := #[rv pt, iv pch, iv 0, iv (Int32.ofNat cs.length), iv pch.toInt8.toInt32, .unset]) rfl k) ?_
  show Way _ _ _ _ (s₁.setTop (mkF m 4 #[rv pt, iv pch, iv 0, iv (Int32.ofNat cs.length), iv pch.toInt8.toInt32, .unset] []))
  refine Way.by (fun _ k => XS.iloadN X0.here hx rfl (hb hby dLC_4) rfl k) ?_
  show Way _ _ _ _ (s₁.setTop (mkF m 5 #[rv pt, iv pch, iv 0, iv (Int32.ofNat cs.length), iv pch.toInt8.toInt32, .unset] [(.int 0)]))
  refine Way.by (fun _ k => XS.istore X0.here hx rfl (hb hby dLC_5) rfl (l' := #[rv pt, iv pch, iv 0, iv (Int32.ofNat cs.length), iv pch.toInt8.toInt32, iv 0]) rfl k) ?_
  show Way _ _ _ _ (s₁.setTop (mkF m 7 #[rv pt, iv pch, iv 0, iv (Int32.ofNat cs.length), iv pch.toInt8.toInt32, iv 0] []))
  exact segLC7 l Z a0 hw ws pt kb cs pch h0 n0 Z0 H0 hln hB hch p e s m below meth c s₁ Bd hml hZ hown s₁ h0 _ X0 e0 N0 Z0 0 H0 rfl (Nat.zero_le _) (fun _ q => absurd q (Nat.not_lt_zero _))
def QLI (Z : State) (pt : Addr) (kb : ClassId) (cs : List Int32) (pch : Int32) (h0 : Heap) (n0 : Nat) (v : Option Value) (h : Heap) (L : List Loc) : Prop := ∃ (pr : Int32), v = some (.int pr) ∧ Fr n0 L ∧ h = h0 ∧ (pr < 0 ↔ pch ∉ cs)
theorem dLI_0 : decode jdk_43_method_22_code 0 = .ok (.iload_n 1, 1) := by decide +kernel
theorem dLI_1 : decode jdk_43_method_22_code 1 = .ok (.invokestatic 88, 3) := by decide +kernel
theorem dLI_4 : decode jdk_43_method_22_code 4 = .ok (.ifCond .ne 5, 3) := by decide +kernel
theorem dLI_9 : decode jdk_43_method_22_code 9 = .ok (.iload_n 2, 1) := by decide +kernel
theorem dLI_10 : decode jdk_43_method_22_code 10 = .ok (.iconst 0, 1) := by decide +kernel
theorem dLI_11 : decode jdk_43_method_22_code 11 = .ok (.invokestatic 92, 3) := by decide +kernel
theorem dLI_14 : decode jdk_43_method_22_code 14 = .ok (.istore_n 2, 1) := by decide +kernel
theorem dLI_15 : decode jdk_43_method_22_code 15 = .ok (.iload_n 3, 1) := by decide +kernel
theorem dLI_16 : decode jdk_43_method_22_code 16 = .ok (.aload_n 0, 1) := by decide +kernel
theorem dLI_17 : decode jdk_43_method_22_code 17 = .ok (.arraylength, 1) := by decide +kernel
theorem dLI_18 : decode jdk_43_method_22_code 18 = .ok (.invokestatic 38, 3) := by decide +kernel
theorem dLI_21 : decode jdk_43_method_22_code 21 = .ok (.istore_n 3, 1) := by decide +kernel
theorem dLI_22 : decode jdk_43_method_22_code 22 = .ok (.iload_n 2, 1) := by decide +kernel
theorem dLI_23 : decode jdk_43_method_22_code 23 = .ok (.iload_n 3, 1) := by decide +kernel
theorem dLI_24 : decode jdk_43_method_22_code 24 = .ok (.if_icmp .lt 5, 3) := by decide +kernel
theorem dLI_27 : decode jdk_43_method_22_code 27 = .ok (.iconst (-1), 1) := by decide +kernel
theorem dLI_28 : decode jdk_43_method_22_code 28 = .ok (.ireturn, 1) := by decide +kernel
theorem dLI_29 : decode jdk_43_method_22_code 29 = .ok (.aload_n 0, 1) := by decide +kernel
theorem dLI_30 : decode jdk_43_method_22_code 30 = .ok (.iload_n 1, 1) := by decide +kernel
theorem dLI_31 : decode jdk_43_method_22_code 31 = .ok (.iload_n 2, 1) := by decide +kernel
theorem dLI_32 : decode jdk_43_method_22_code 32 = .ok (.iload_n 3, 1) := by decide +kernel
theorem dLI_33 : decode jdk_43_method_22_code 33 = .ok (.invokestatic 95, 3) := by decide +kernel
theorem dLI_36 : decode jdk_43_method_22_code 36 = .ok (.ireturn, 1) := by decide +kernel
set_option maxRecDepth 65536 in
set_option maxHeartbeats 40000000 in
theorem rmLI (l : Launch) (Z : State) (a0 : Array Value) (hw : ∀ d ∈ tables_1, d.before a0 Z = true) (ws : List Jvm.Cond) (pt : Addr) (kb : ClassId) (cs : List Int32) (pch : Int32) (h0 : Heap) (n0 : Nat) (Z0 : n0 ≤ h0.size) (H0 : Arv Z h0 pt kb .byte (Int32.ofNat cs.length) (cs.map fun c => Value.int (StrChars.lo8 c)) (.int 0)) (hln : cs.length ≤ 4000) (hB : ∀ c ∈ cs, ¬ c < 0 ∧ ¬ (255 : Int32) < c) (hch : ¬ pch < 0 ∧ ¬ (255 : Int32) < pch) :
    MetFree l (⟨"java/lang/StringLatin1", "indexOf", "([BIII)I"⟩ : MethodName) (head1 (Jvm.Cond.code (⟨"java/lang/StringLatin1", "indexOf", "([BIII)I"⟩ : MethodName) jdk_43_method_22_code 4 (some .int) :: ws) ({ frames := 1, cells := 0, slots := 0, locals := 17 } : Room)) (fun aa U => aa = #[(.ref pt), (.int pch), (.int 0), (.int (Int32.ofNat cs.length))] ∧ Z.Warmed39 U.vm ∧ U.heap = h0) (fun _ _ _ _ _ => True) (fun _ U oo U' => ∃ v L, oo = .returned v ∧ QLI Z pt kb cs pch h0 n0 v U'.heap L ∧ FrameEnd U oo U' L ({ frames := 1, cells := 0, slots := 0, locals := 17 } : Room).cells ({ frames := 1, cells := 0, slots := 0, locals := 17 } : Room).slots) := by
  refine MetFree.of_bodySF (plainFor_of_name pnCE) hisR ?_
  intro p e s m args below meth c s₁ Bd hml0 hP hK
  obtain ⟨rfl, hZ, hh⟩ := hP
  have hx := Bd.exec
  have hby := Bd.bytes
  have hlk : meth.locks = false := BodyLoose.notSynchronized Bd
  have hml : c.maxLocals = 4 := hml0
  have hown : s.vm.findClass "java/lang/StringLatin1" = some m.cls := findClass_of_methodNamed Bd.named
  have hnm := (name_of_methodNamed Bd.named Bd.method).1
  have X0 : Stand p l e ({ frames := 1, cells := 0, slots := 0, locals := 17 } : Room) s m #[(.ref pt), (.int pch), (.int 0), (.int (Int32.ofNat cs.length))] below meth c s₁ [] 0 0 := Stand.of_body Bd
  have e0 : s₁.heap = h0 := by rw [← hh, Bd.state]; rfl
  have N0 := Fr.nil n0
  have ef : entryFrame m #[(.ref pt), (.int pch), (.int 0), (.int (Int32.ofNat cs.length))] 4 = mkF m 0 #[rv pt, iv pch, iv 0, iv (Int32.ofNat cs.length)] [] := by first | (simp [entryFrame, mkF, argsToLocals, Value.category, maxLocals]; done) | rfl
  show Way p.tables e below (KQ s (QLI Z pt kb cs pch h0 n0) ({ frames := 1, cells := 0, slots := 0, locals := 17 } : Room).cells ({ frames := 1, cells := 0, slots := 0, locals := 17 } : Room).slots) (s₁.setTop (entryFrame m #[(.ref pt), (.int pch), (.int 0), (.int (Int32.ofNat cs.length))] 4))
  rw [ef]
  refine Way.by (fun _ k => XS.iloadN X0.here hx rfl (hb hby dLI_0) rfl k) ?_
  show Way _ _ _ _ (s₁.setTop (mkF m 1 #[rv pt, iv pch, iv 0, iv (Int32.ofNat cs.length)] [(.int pch)]))
  obtain ⟨_, _, ⟨T1, L3, k4, n5⟩, -, X2, ⟨Lc6, hQ7, l8, y9, z10⟩, st11⟩ := Jvm.LawKit.callS X0 hx (y := (⟨"java/lang/StringLatin1", "canEncode", "(I)Z"⟩ : MethodName)) hown (mvT hZ (tw hw 60 rfl)) (mvT hZ (tw hw 61 rfl)) (mvT hZ (tw hw 58 rfl)) (mvT hZ (tw hw 62 rfl)) (by decide) (backOf (W := 0) (rmCE l Z a0 hw [] pch h0 n0 Z0 hch) hZ (tw hw 62 rfl) (tw hw 58 rfl) (by decide) (by decide)) (g := (mkF m 1 #[rv pt, iv pch, iv 0, iv (Int32.ofNat cs.length)] [(.int pch)])) rfl (by rw [hml]; rfl) (argsL := [(.int pch)]) (rest := []) (lenOf pdCE rfl) rfl (leW rfl) (hb hby dLI_1) (fun _ _ => ⟨rfl, e0, (leB rfl), (leB rfl)⟩)
  dsimp only [Pt.U, Pt.locs, Pt.cells, Pt.slots] at X2 l8 y9 z10 st11 hQ7
  subst l8 y9 z10
  obtain ⟨rfl, N17, e13⟩ := hQ7
  have N12 := Fr.app N0 N17
  refine Way.by st11 ?_
  show Way _ _ _ _ (T1.setTop (mkF m 4 #[rv pt, iv pch, iv 0, iv (Int32.ofNat cs.length)] [(.int 1)]))
  have b19 : ¬ (1 : Int32) = (0 : Int32) := by decide
  refine Way.by (fun _ k => XS.ifYes X2.here hx rfl (pc0 := 4) (pc' := 9) rfl (hb hby dLI_4) rfl ((if0 .ne _).trans (feq b19).2) (by decide) (by decide) k) ?_
  show Way _ _ _ _ (T1.setTop (mkF m 9 #[rv pt, iv pch, iv 0, iv (Int32.ofNat cs.length)] []))
  refine Way.by (fun _ k => XS.iloadN X2.here hx rfl (hb hby dLI_9) rfl k) ?_
  show Way _ _ _ _ (T1.setTop (mkF m 10 #[rv pt, iv pch, iv 0, iv (Int32.ofNat cs.length)] [(.int 0)]))
  refine Way.by (fun _ k => XS.iconst X2.here hx rfl (hb hby dLI_10) k) ?_
  show Way _ _ _ _ (T1.setTop (mkF m 11 #[rv pt, iv pch, iv 0, iv (Int32.ofNat cs.length)] [(.int 0), (.int 0)]))
  obtain ⟨_, _, ⟨T20, L22, k23, n24⟩, -, X21, ⟨Lc25, hQ26, l27, y28, z29⟩, st30⟩ := Jvm.LawKit.callS X2 hx (y := (⟨"java/lang/Math", "max", "(II)I"⟩ : MethodName)) hown (mvT hZ (tw hw 63 rfl)) (mvT hZ (tw hw 64 rfl)) (mvT hZ (tw hw 65 rfl)) (mvT hZ (tw hw 66 rfl)) (by decide) (backOf (W := 0) (rmMX l Z a0 hw [] (0 : Int32) (0 : Int32) (0 : Int32) h0 n0 Z0 (by decide)) hZ (tw hw 66 rfl) (tw hw 65 rfl) (by decide) (by decide)) (g := (mkF m 11 #[rv pt, iv pch, iv 0, iv (Int32.ofNat cs.length)] [(.int 0), (.int 0)])) rfl (by rw [hml]; rfl) (argsL := [(.int 0), (.int 0)]) (rest := []) (lenOf pdMX rfl) rfl (leW rfl) (hb hby dLI_11) (fun _ _ => ⟨rfl, e13, (leB rfl), (leB rfl)⟩)
  dsimp only [Pt.U, Pt.locs, Pt.cells, Pt.slots] at X21 l27 y28 z29 st30 hQ26
  subst l27 y28 z29
  obtain ⟨rfl, N36, e32⟩ := hQ26
  have N31 := Fr.app N12 N36
  refine Way.by st30 ?_
  show Way _ _ _ _ (T20.setTop (mkF m 14 #[rv pt, iv pch, iv 0, iv (Int32.ofNat cs.length)] [(.int 0)]))
  refine Way.by (fun _ k => XS.istoreN X21.here hx rfl (hb hby dLI_14) rfl (l' := #[rv pt, iv pch, iv 0, iv (Int32.ofNat cs.length)]) rfl k) ?_
  show Way _ _ _ _ (T20.setTop (mkF m 15 #[rv pt, iv pch, iv 0, iv (Int32.ofNat cs.length)] []))
  refine Way.by (fun _ k => XS.iloadN X21.here hx rfl (hb hby dLI_15) rfl k) ?_
  show Way _ _ _ _ (T20.setTop (mkF m 16 #[rv pt, iv pch, iv 0, iv (Int32.ofNat cs.length)] [(.int (Int32.ofNat cs.length))]))
  refine Way.by (fun _ k => XS.aloadN X21.here hx rfl (hb hby dLI_16) rfl rfl k) ?_
  show Way _ _ _ _ (T20.setTop (mkF m 17 #[rv pt, iv pch, iv 0, iv (Int32.ofNat cs.length)] [(.ref pt), (.int (Int32.ofNat cs.length))]))
  obtain ⟨c38, A39, q40, S41, M42, H43, U44⟩ := id H0
  refine Way.by (fun t k => Stand.arraylength X21 hx (hpE e32 A39.1) (arrS hZ A39) (g := (mkF m 17 #[rv pt, iv pch, iv 0, iv (Int32.ofNat cs.length)] [(.ref pt), (.int (Int32.ofNat cs.length))])) rfl rfl (hb hby dLI_17) t k) ?_
  rw [len_of S41 M42]
  show Way _ _ _ _ (T20.setTop (mkF m 18 #[rv pt, iv pch, iv 0, iv (Int32.ofNat cs.length)] [(.int (Int32.ofNat cs.length)), (.int (Int32.ofNat cs.length))]))
  obtain ⟨_, _, ⟨T45, L47, k48, n49⟩, -, X46, ⟨Lc50, hQ51, l52, y53, z54⟩, st55⟩ := Jvm.LawKit.callS X21 hx (y := (⟨"java/lang/Math", "min", "(II)I"⟩ : MethodName)) hown (mvT hZ (tw hw 67 rfl)) (mvT hZ (tw hw 68 rfl)) (mvT hZ (tw hw 65 rfl)) (mvT hZ (tw hw 69 rfl)) (by decide) (backOf (W := 0) (rmMN l Z a0 hw [] (Int32.ofNat cs.length) (Int32.ofNat cs.length) (Int32.ofNat cs.length) h0 n0 Z0 (by simp)) hZ (tw hw 69 rfl) (tw hw 65 rfl) (by decide) (by decide)) (g := (mkF m 18 #[rv pt, iv pch, iv 0, iv (Int32.ofNat cs.length)] [(.int (Int32.ofNat cs.length)), (.int (Int32.ofNat cs.length))])) rfl (by rw [hml]; rfl) (argsL := [(.int (Int32.ofNat cs.length)), (.int (Int32.ofNat cs.length))]) (rest := []) (lenOf pdMX rfl) rfl (leW rfl) (hb hby dLI_18) (fun _ _ => ⟨rfl, e32, (leB rfl), (leB rfl)⟩)
  dsimp only [Pt.U, Pt.locs, Pt.cells, Pt.slots] at X46 l52 y53 z54 st55 hQ51
  subst l52 y53 z54
  obtain ⟨rfl, N61, e57⟩ := hQ51
  have N56 := Fr.app N31 N61
  refine Way.by st55 ?_
  show Way _ _ _ _ (T45.setTop (mkF m 21 #[rv pt, iv pch, iv 0, iv (Int32.ofNat cs.length)] [(.int (Int32.ofNat cs.length))]))
  refine Way.by (fun _ k => XS.istoreN X46.here hx rfl (hb hby dLI_21) rfl (l' := #[rv pt, iv pch, iv 0, iv (Int32.ofNat cs.length)]) rfl k) ?_
  show Way _ _ _ _ (T45.setTop (mkF m 22 #[rv pt, iv pch, iv 0, iv (Int32.ofNat cs.length)] []))
  refine Way.by (fun _ k => XS.iloadN X46.here hx rfl (hb hby dLI_22) rfl k) ?_
  show Way _ _ _ _ (T45.setTop (mkF m 23 #[rv pt, iv pch, iv 0, iv (Int32.ofNat cs.length)] [(.int 0)]))
  refine Way.by (fun _ k => XS.iloadN X46.here hx rfl (hb hby dLI_23) rfl k) ?_
  show Way _ _ _ _ (T45.setTop (mkF m 24 #[rv pt, iv pch, iv 0, iv (Int32.ofNat cs.length)] [(.int (Int32.ofNat cs.length)), (.int 0)]))
  by_cases hq0 : (0 : Int32) < (Int32.ofNat cs.length)
  · skip
    refine Way.by (fun _ k => XS.icmpYes X46.here hx rfl (pc0 := 24) (pc' := 29) rfl (hb hby dLI_24) rfl (tlt hq0).1 (by decide) (by decide) k) ?_
    show Way _ _ _ _ (T45.setTop (mkF m 29 #[rv pt, iv pch, iv 0, iv (Int32.ofNat cs.length)] []))
    refine Way.by (fun _ k => XS.aloadN X46.here hx rfl (hb hby dLI_29) rfl rfl k) ?_
    show Way _ _ _ _ (T45.setTop (mkF m 30 #[rv pt, iv pch, iv 0, iv (Int32.ofNat cs.length)] [(.ref pt)]))
    refine Way.by (fun _ k => XS.iloadN X46.here hx rfl (hb hby dLI_30) rfl k) ?_
    show Way _ _ _ _ (T45.setTop (mkF m 31 #[rv pt, iv pch, iv 0, iv (Int32.ofNat cs.length)] [(.int pch), (.ref pt)]))
    refine Way.by (fun _ k => XS.iloadN X46.here hx rfl (hb hby dLI_31) rfl k) ?_
    show Way _ _ _ _ (T45.setTop (mkF m 32 #[rv pt, iv pch, iv 0, iv (Int32.ofNat cs.length)] [(.int 0), (.int pch), (.ref pt)]))
    refine Way.by (fun _ k => XS.iloadN X46.here hx rfl (hb hby dLI_32) rfl k) ?_
    show Way _ _ _ _ (T45.setTop (mkF m 33 #[rv pt, iv pch, iv 0, iv (Int32.ofNat cs.length)] [(.int (Int32.ofNat cs.length)), (.int 0), (.int pch), (.ref pt)]))
    obtain ⟨_, _, ⟨T63, L65, k66, n67⟩, -, X64, ⟨Lc68, hQ69, l70, y71, z72⟩, st73⟩ := Jvm.LawKit.callS X46 hx (y := (⟨"java/lang/StringLatin1", "indexOfChar", "([BIII)I"⟩ : MethodName)) hown (mvT hZ (tw hw 83 rfl)) (mvT hZ (tw hw 84 rfl)) (mvT hZ (tw hw 58 rfl)) (mvT hZ (tw hw 85 rfl)) (by decide) (backOf (W := 0) (rmLC l Z a0 hw [] pt kb cs pch h0 n0 Z0 H0 hln hB hch) hZ (tw hw 85 rfl) (tw hw 58 rfl) (by decide) (by decide)) (g := (mkF m 33 #[rv pt, iv pch, iv 0, iv (Int32.ofNat cs.length)] [(.int (Int32.ofNat cs.length)), (.int 0), (.int pch), (.ref pt)])) rfl (by rw [hml]; rfl) (argsL := [(.ref pt), (.int pch), (.int 0), (.int (Int32.ofNat cs.length))]) (rest := []) (lenOf pdLC rfl) rfl (leW rfl) (hb hby dLI_33) (fun _ _ => ⟨rfl, e57, (leB rfl), (leB rfl)⟩)
    dsimp only [Pt.U, Pt.locs, Pt.cells, Pt.slots] at X64 l70 y71 z72 st73 hQ69
    subst l70 y71 z72
    obtain ⟨x_pr82, rfl, N79, e75, pu_IX81⟩ := hQ69
    have N74 := Fr.app N56 N79
    refine Way.by st73 ?_
    show Way _ _ _ _ (T63.setTop (mkF m 36 #[rv pt, iv pch, iv 0, iv (Int32.ofNat cs.length)] [(.int x_pr82)]))
    refine Way.ret (v := (some (.int x_pr82))) X64 hlk (fun h => by rw [Bd.returns] at h; cases h) (fun fs hr => retI X64 hx Bd.returns (hb hby dLI_36) hr) ?_ (by decide) (by decide)
    show QLI Z pt kb cs pch h0 n0 _ T63.heap _
    rw [e75]
    exact ⟨x_pr82, rfl, N74, rfl, pu_IX81⟩
  · skip
    refine Way.by (fun _ k => XS.icmpNo X46.here hx rfl (hb hby dLI_24) rfl (flt hq0).1 k) ?_
    show Way _ _ _ _ (T45.setTop (mkF m 27 #[rv pt, iv pch, iv 0, iv (Int32.ofNat cs.length)] []))
    refine Way.by (fun _ k => XS.iconst X46.here hx rfl (hb hby dLI_27) k) ?_
    show Way _ _ _ _ (T45.setTop (mkF m 28 #[rv pt, iv pch, iv 0, iv (Int32.ofNat cs.length)] [(.int (-1 : Int32))]))
    refine Way.ret (v := (some (.int (-1 : Int32)))) X46 hlk (fun h => by rw [Bd.returns] at h; cases h) (fun fs hr => retI X46 hx Bd.returns (hb hby dLI_28) hr) ?_ (by decide) (by decide)
    show QLI Z pt kb cs pch h0 n0 _ T45.heap _
    rw [e57]
    exact ⟨(-1 : Int32), rfl, N56, rfl, ⟨fun _ => own_nil hq0 hln, fun _ => by decide⟩⟩
def QGC (Z : State) (pt : Addr) (kb : ClassId) (cs : List Int32) (i : Nat) (h0 : Heap) (n0 : Nat) (v : Option Value) (h : Heap) (L : List Loc) : Prop := v = some (.int (cs.getD i 0)) ∧ Fr n0 L ∧ h = h0
theorem dGC_0 : decode jdk_52_method_5_code 0 = .ok (.getstatic 44, 3) := by decide +kernel
theorem dGC_3 : decode jdk_52_method_5_code 3 = .ok (.ifCond .ne 25, 3) := by decide +kernel
theorem dGC_28 : decode jdk_52_method_5_code 28 = .ok (.iload_n 1, 1) := by decide +kernel
theorem dGC_29 : decode jdk_52_method_5_code 29 = .ok (.iconst 1, 1) := by decide +kernel
theorem dGC_30 : decode jdk_52_method_5_code 30 = .ok (.ishl, 1) := by decide +kernel
theorem dGC_31 : decode jdk_52_method_5_code 31 = .ok (.istore_n 1, 1) := by decide +kernel
theorem dGC_32 : decode jdk_52_method_5_code 32 = .ok (.aload_n 0, 1) := by decide +kernel
theorem dGC_33 : decode jdk_52_method_5_code 33 = .ok (.iload_n 1, 1) := by decide +kernel
theorem dGC_34 : decode jdk_52_method_5_code 34 = .ok (.iinc 1 1, 3) := by decide +kernel
theorem dGC_37 : decode jdk_52_method_5_code 37 = .ok (.baload, 1) := by decide +kernel
theorem dGC_38 : decode jdk_52_method_5_code 38 = .ok (.sipush 255, 3) := by decide +kernel
theorem dGC_41 : decode jdk_52_method_5_code 41 = .ok (.iand, 1) := by decide +kernel
theorem dGC_42 : decode jdk_52_method_5_code 42 = .ok (.getstatic 59, 3) := by decide +kernel
theorem dGC_45 : decode jdk_52_method_5_code 45 = .ok (.ishl, 1) := by decide +kernel
theorem dGC_46 : decode jdk_52_method_5_code 46 = .ok (.aload_n 0, 1) := by decide +kernel
theorem dGC_47 : decode jdk_52_method_5_code 47 = .ok (.iload_n 1, 1) := by decide +kernel
theorem dGC_48 : decode jdk_52_method_5_code 48 = .ok (.baload, 1) := by decide +kernel
theorem dGC_49 : decode jdk_52_method_5_code 49 = .ok (.sipush 255, 3) := by decide +kernel
theorem dGC_52 : decode jdk_52_method_5_code 52 = .ok (.iand, 1) := by decide +kernel
theorem dGC_53 : decode jdk_52_method_5_code 53 = .ok (.getstatic 63, 3) := by decide +kernel
theorem dGC_56 : decode jdk_52_method_5_code 56 = .ok (.ishl, 1) := by decide +kernel
theorem dGC_57 : decode jdk_52_method_5_code 57 = .ok (.ior, 1) := by decide +kernel
theorem dGC_58 : decode jdk_52_method_5_code 58 = .ok (.i2c, 1) := by decide +kernel
theorem dGC_59 : decode jdk_52_method_5_code 59 = .ok (.ireturn, 1) := by decide +kernel
theorem pnGC : plainName "java/lang/StringUTF16" = true := by first | (simp [plainName, overriddenIn]; done) | decide +kernel
theorem pdGC : parseMethodDescriptor "([BI)C" = some ⟨[(.array .byte), .int], some .char⟩ := by decide +kernel
set_option maxRecDepth 65536 in
set_option maxHeartbeats 40000000 in
theorem rmGC (l : Launch) (Z : State) (a0 : Array Value) (hw : ∀ d ∈ tables_1, d.before a0 Z = true) (ws : List Jvm.Cond) (pt : Addr) (kb : ClassId) (cs : List Int32) (i : Nat) (h0 : Heap) (n0 : Nat) (Z0 : n0 ≤ h0.size) (H0 : Arv Z h0 pt kb .byte (Int32.ofNat (2 * cs.length)) (StrChars.Road.wideBytes cs) (.int 0)) (hln : cs.length ≤ 4000) (hB : ∀ c ∈ cs, ¬ c < 0 ∧ ¬ (65535 : Int32) < c) (hi : i < cs.length) (O0 : Old Z n0 h0) (SV : own_Env Z) (SU : own_U16 Z) :
    MetFree l (⟨"java/lang/StringUTF16", "getChar", "([BI)C"⟩ : MethodName) (head1 (Jvm.Cond.code (⟨"java/lang/StringUTF16", "getChar", "([BI)C"⟩ : MethodName) jdk_52_method_5_code 2 (some .char) :: ws) ({ frames := 0, cells := 0, slots := 0, locals := 0 } : Room)) (fun aa U => aa = #[(.ref pt), (.int (Int32.ofNat i))] ∧ Z.Warmed39 U.vm ∧ U.heap = h0) (fun _ _ _ _ _ => True) (fun _ U oo U' => ∃ v L, oo = .returned v ∧ QGC Z pt kb cs i h0 n0 v U'.heap L ∧ FrameEnd U oo U' L ({ frames := 0, cells := 0, slots := 0, locals := 0 } : Room).cells ({ frames := 0, cells := 0, slots := 0, locals := 0 } : Room).slots) := by
  refine MetFree.of_bodySF (plainFor_of_name pnGC) hisR ?_
  intro p e s m args below meth c s₁ Bd hml0 hP hK
  obtain ⟨rfl, hZ, hh⟩ := hP
  have hx := Bd.exec
  have hby := Bd.bytes
  have hlk : meth.locks = false := BodyLoose.notSynchronized Bd
  have hml : c.maxLocals = 2 := hml0
  have hown : s.vm.findClass "java/lang/StringUTF16" = some m.cls := findClass_of_methodNamed Bd.named
  have hnm := (name_of_methodNamed Bd.named Bd.method).1
  have X0 : Stand p l e ({ frames := 0, cells := 0, slots := 0, locals := 0 } : Room) s m #[(.ref pt), (.int (Int32.ofNat i))] below meth c s₁ [] 0 0 := Stand.of_body Bd
  have e0 : s₁.heap = h0 := by rw [← hh, Bd.state]; rfl
  have N0 := Fr.nil n0
  have ef : entryFrame m #[(.ref pt), (.int (Int32.ofNat i))] 2 = mkF m 0 #[rv pt, iv (Int32.ofNat i)] [] := by first | (simp [entryFrame, mkF, argsToLocals, Value.category, maxLocals]; done) | rfl
  show Way p.tables e below (KQ s (QGC Z pt kb cs i h0 n0) ({ frames := 0, cells := 0, slots := 0, locals := 0 } : Room).cells ({ frames := 0, cells := 0, slots := 0, locals := 0 } : Room).slots) (s₁.setTop (entryFrame m #[(.ref pt), (.int (Int32.ofNat i))] 2))
  rw [ef]
  obtain ⟨T1, X2, e3, st4⟩ := getS X0 hx hZ hown (host := "") (tw hw 99 rfl) Via.refl e0 (Sta.ext O0.2 SU.1) (g := (mkF m 0 #[rv pt, iv (Int32.ofNat i)] [])) rfl (hb hby dGC_0)
  refine Way.by st4 ?_
  show Way _ _ _ _ (T1.setTop (mkF m 3 #[rv pt, iv (Int32.ofNat i)] [(.int 1)]))
  have b5 : ¬ (1 : Int32) = (0 : Int32) := by decide
  refine Way.by (fun _ k => XS.ifYes X2.here hx rfl (pc0 := 3) (pc' := 28) rfl (hb hby dGC_3) rfl ((if0 .ne _).trans (feq b5).2) (by decide) (by decide) k) ?_
  show Way _ _ _ _ (T1.setTop (mkF m 28 #[rv pt, iv (Int32.ofNat i)] []))
  refine Way.by (fun _ k => XS.iloadN X2.here hx rfl (hb hby dGC_28) rfl k) ?_
  show Way _ _ _ _ (T1.setTop (mkF m 29 #[rv pt, iv (Int32.ofNat i)] [(.int (Int32.ofNat i))]))
  refine Way.by (fun _ k => XS.iconst X2.here hx rfl (hb hby dGC_29) k) ?_
  show Way _ _ _ _ (T1.setTop (mkF m 30 #[rv pt, iv (Int32.ofNat i)] [(.int 1), (.int (Int32.ofNat i))]))
  refine Way.by (fun _ k => XT.ishl X2.here hx rfl (hb hby dGC_30) rfl k) ?_
  show Way _ _ _ _ (T1.setTop (mkF m 31 #[rv pt, iv (Int32.ofNat i)] [(.int ((Int32.ofNat i) <<< ((1 : Int32) &&& 31)))]))
  rw [own_shl1 (by omega)]
  show Way _ _ _ _ (T1.setTop (mkF m 31 #[rv pt, iv (Int32.ofNat i)] [(.int (Int32.ofNat (2 * i)))]))
  refine Way.by (fun _ k => XS.istoreN X2.here hx rfl (hb hby dGC_31) rfl (l' := #[rv pt, iv (Int32.ofNat (2 * i))]) rfl k) ?_
  show Way _ _ _ _ (T1.setTop (mkF m 32 #[rv pt, iv (Int32.ofNat (2 * i))] []))
  refine Way.by (fun _ k => XS.aloadN X2.here hx rfl (hb hby dGC_32) rfl rfl k) ?_
  show Way _ _ _ _ (T1.setTop (mkF m 33 #[rv pt, iv (Int32.ofNat (2 * i))] [(.ref pt)]))
  refine Way.by (fun _ k => XS.iloadN X2.here hx rfl (hb hby dGC_33) rfl k) ?_
  show Way _ _ _ _ (T1.setTop (mkF m 34 #[rv pt, iv (Int32.ofNat (2 * i))] [(.int (Int32.ofNat (2 * i))), (.ref pt)]))
  refine Way.by (fun _ k => XS.iinc X2.here hx rfl (hb hby dGC_34) rfl (l' := #[rv pt, iv ((Int32.ofNat (2 * i)) + (1 : Int32))]) rfl k) ?_
  show Way _ _ _ _ (T1.setTop (mkF m 37 #[rv pt, iv ((Int32.ofNat (2 * i)) + (1 : Int32))] [(.int (Int32.ofNat (2 * i))), (.ref pt)]))
  rw [← inc_ofNat (2 * i)]
  show Way _ _ _ _ (T1.setTop (mkF m 37 #[rv pt, iv (Int32.ofNat (2 * i + 1))] [(.int (Int32.ofNat (2 * i))), (.ref pt)]))
  obtain ⟨c6, A7, q8, S9, M10, H11, U12⟩ := id H0
  have inb13 := inb_of S9 (j := Int32.ofNat (2 * i)) ⟨own_ofNat_nn (by omega), (own_ofNat_lt (by omega) (by omega)).mpr (by omega)⟩
  refine Way.by (fun t k => Stand.baloadBytes X2 hx (hpE e3 A7.1) (arrS hZ A7) A7.2.2 inb13 (Has.at H11 inb13 (by rw [own_clamp (by omega)]; exact StrChars.Road.wide_lo _ cs i hi)) (v := (.int (StrChars.lo8 (cs.getD i 0)))) (g := (mkF m 37 #[rv pt, iv (Int32.ofNat (2 * i + 1))] [(.int (Int32.ofNat (2 * i))), (.ref pt)])) rfl rfl (hb hby dGC_37) t k) ?_
  show Way _ _ _ _ (T1.setTop (mkF m 38 #[rv pt, iv (Int32.ofNat (2 * i + 1))] [(.int (StrChars.lo8 (cs.getD i 0)))]))
  refine Way.by (fun _ k => XS.sipush X2.here hx rfl (hb hby dGC_38) k) ?_
  show Way _ _ _ _ (T1.setTop (mkF m 41 #[rv pt, iv (Int32.ofNat (2 * i + 1))] [(.int 255), (.int (StrChars.lo8 (cs.getD i 0)))]))
  refine Way.by (fun _ k => XS.iand X2.here hx rfl (hb hby dGC_41) rfl k) ?_
  show Way _ _ _ _ (T1.setTop (mkF m 42 #[rv pt, iv (Int32.ofNat (2 * i + 1))] [(.int ((StrChars.lo8 (cs.getD i 0)) &&& (255 : Int32)))]))
  obtain ⟨T14, X15, e16, st17⟩ := getS X2 hx hZ hown (host := "") (tw hw 100 rfl) Via.refl e3 (Sta.ext O0.2 SU.2.1) (g := (mkF m 42 #[rv pt, iv (Int32.ofNat (2 * i + 1))] [(.int ((StrChars.lo8 (cs.getD i 0)) &&& (255 : Int32)))])) rfl (hb hby dGC_42)
  refine Way.by st17 ?_
  show Way _ _ _ _ (T14.setTop (mkF m 45 #[rv pt, iv (Int32.ofNat (2 * i + 1))] [(.int 0), (.int ((StrChars.lo8 (cs.getD i 0)) &&& (255 : Int32)))]))
  refine Way.by (fun _ k => XT.ishl X15.here hx rfl (hb hby dGC_45) rfl k) ?_
  show Way _ _ _ _ (T14.setTop (mkF m 46 #[rv pt, iv (Int32.ofNat (2 * i + 1))] [(.int (((StrChars.lo8 (cs.getD i 0)) &&& (255 : Int32)) <<< ((0 : Int32) &&& 31)))]))
  refine Way.by (fun _ k => XS.aloadN X15.here hx rfl (hb hby dGC_46) rfl rfl k) ?_
  show Way _ _ _ _ (T14.setTop (mkF m 47 #[rv pt, iv (Int32.ofNat (2 * i + 1))] [(.ref pt), (.int (((StrChars.lo8 (cs.getD i 0)) &&& (255 : Int32)) <<< ((0 : Int32) &&& 31)))]))
  refine Way.by (fun _ k => XS.iloadN X15.here hx rfl (hb hby dGC_47) rfl k) ?_
  show Way _ _ _ _ (T14.setTop (mkF m 48 #[rv pt, iv (Int32.ofNat (2 * i + 1))] [(.int (Int32.ofNat (2 * i + 1))), (.ref pt), (.int (((StrChars.lo8 (cs.getD i 0)) &&& (255 : Int32)) <<< ((0 : Int32) &&& 31)))]))
  obtain ⟨c18, A19, q20, S21, M22, H23, U24⟩ := id H0
  have inb25 := inb_of S21 (j := Int32.ofNat (2 * i + 1)) ⟨own_ofNat_nn (by omega), (own_ofNat_lt (by omega) (by omega)).mpr (by omega)⟩
  refine Way.by (fun t k => Stand.baloadBytes X15 hx (hpE e16 A19.1) (arrS hZ A19) A19.2.2 inb25 (Has.at H23 inb25 (by rw [own_clamp (by omega)]; exact StrChars.Road.wide_hi _ cs i hi)) (v := (.int (StrChars.hi8 (cs.getD i 0)))) (g := (mkF m 48 #[rv pt, iv (Int32.ofNat (2 * i + 1))] [(.int (Int32.ofNat (2 * i + 1))), (.ref pt), (.int (((StrChars.lo8 (cs.getD i 0)) &&& (255 : Int32)) <<< ((0 : Int32) &&& 31)))])) rfl rfl (hb hby dGC_48) t k) ?_
  show Way _ _ _ _ (T14.setTop (mkF m 49 #[rv pt, iv (Int32.ofNat (2 * i + 1))] [(.int (StrChars.hi8 (cs.getD i 0))), (.int (((StrChars.lo8 (cs.getD i 0)) &&& (255 : Int32)) <<< ((0 : Int32) &&& 31)))]))
  refine Way.by (fun _ k => XS.sipush X15.here hx rfl (hb hby dGC_49) k) ?_
  show Way _ _ _ _ (T14.setTop (mkF m 52 #[rv pt, iv (Int32.ofNat (2 * i + 1))] [(.int 255), (.int (StrChars.hi8 (cs.getD i 0))), (.int (((StrChars.lo8 (cs.getD i 0)) &&& (255 : Int32)) <<< ((0 : Int32) &&& 31)))]))
  refine Way.by (fun _ k => XS.iand X15.here hx rfl (hb hby dGC_52) rfl k) ?_
  show Way _ _ _ _ (T14.setTop (mkF m 53 #[rv pt, iv (Int32.ofNat (2 * i + 1))] [(.int ((StrChars.hi8 (cs.getD i 0)) &&& (255 : Int32))), (.int (((StrChars.lo8 (cs.getD i 0)) &&& (255 : Int32)) <<< ((0 : Int32) &&& 31)))]))
  obtain ⟨T26, X27, e28, st29⟩ := getS X15 hx hZ hown (host := "") (tw hw 101 rfl) Via.refl e16 (Sta.ext O0.2 SU.2.2) (g := (mkF m 53 #[rv pt, iv (Int32.ofNat (2 * i + 1))] [(.int ((StrChars.hi8 (cs.getD i 0)) &&& (255 : Int32))), (.int (((StrChars.lo8 (cs.getD i 0)) &&& (255 : Int32)) <<< ((0 : Int32) &&& 31)))])) rfl (hb hby dGC_53)
  refine Way.by st29 ?_
  show Way _ _ _ _ (T26.setTop (mkF m 56 #[rv pt, iv (Int32.ofNat (2 * i + 1))] [(.int 8), (.int ((StrChars.hi8 (cs.getD i 0)) &&& (255 : Int32))), (.int (((StrChars.lo8 (cs.getD i 0)) &&& (255 : Int32)) <<< ((0 : Int32) &&& 31)))]))
  refine Way.by (fun _ k => XT.ishl X27.here hx rfl (hb hby dGC_56) rfl k) ?_
  show Way _ _ _ _ (T26.setTop (mkF m 57 #[rv pt, iv (Int32.ofNat (2 * i + 1))] [(.int (((StrChars.hi8 (cs.getD i 0)) &&& (255 : Int32)) <<< ((8 : Int32) &&& 31))), (.int (((StrChars.lo8 (cs.getD i 0)) &&& (255 : Int32)) <<< ((0 : Int32) &&& 31)))]))
  refine Way.by (fun _ k => XT.ior X27.here hx rfl (hb hby dGC_57) rfl k) ?_
  show Way _ _ _ _ (T26.setTop (mkF m 58 #[rv pt, iv (Int32.ofNat (2 * i + 1))] [(.int ((((StrChars.lo8 (cs.getD i 0)) &&& (255 : Int32)) <<< ((0 : Int32) &&& 31)) ||| (((StrChars.hi8 (cs.getD i 0)) &&& (255 : Int32)) <<< ((8 : Int32) &&& 31))))]))
  refine Way.by (fun _ k => XT.i2c X27.here hx rfl (hb hby dGC_58) rfl k) ?_
  show Way _ _ _ _ (T26.setTop (mkF m 59 #[rv pt, iv (Int32.ofNat (2 * i + 1))] [(.int ((((StrChars.lo8 (cs.getD i 0)) &&& (255 : Int32)) <<< ((0 : Int32) &&& 31)) ||| (((StrChars.hi8 (cs.getD i 0)) &&& (255 : Int32)) <<< ((8 : Int32) &&& 31))).toUInt32.toUInt16.toUInt32.toInt32)]))
  have hpair : ((((StrChars.lo8 (cs.getD i 0)) &&& (255 : Int32)) <<< ((0 : Int32) &&& 31)) ||| (((StrChars.hi8 (cs.getD i 0)) &&& (255 : Int32)) <<< ((8 : Int32) &&& 31))).toUInt32.toUInt16.toUInt32.toInt32 = (cs.getD i 0) := StrChars.pair_says (hB _ (own_mem_getD hi)).1 (hB _ (own_mem_getD hi)).2
  rw [hpair]
  show Way _ _ _ _ (T26.setTop (mkF m 59 #[rv pt, iv (Int32.ofNat (2 * i + 1))] [(.int (cs.getD i 0))]))
  refine Way.ret (v := (some (.int (nar .char (cs.getD i 0))))) X27 hlk (fun h => by rw [Bd.returns] at h; cases h) (fun fs hr => retN X27 hx (t := .char) Bd.returns (by simp) (hb hby dGC_59) hr) ?_ (by decide) (by decide)
  show QGC Z pt kb cs i h0 n0 _ T26.heap _
  rw [e28]
  exact ⟨by rw [own_narC (hB _ (own_mem_getD hi))], N0, rfl⟩
def QUC (Z : State) (pt : Addr) (kb : ClassId) (cs : List Int32) (pch : Int32) (h0 : Heap) (n0 : Nat) (v : Option Value) (h : Heap) (L : List Loc) : Prop := ∃ (pr : Int32), v = some (.int pr) ∧ Fr n0 L ∧ h = h0 ∧ (pr < 0 ↔ pch ∉ cs)
theorem dUC_0 : decode jdk_52_method_48_code 0 = .ok (.iload_n 2, 1) := by decide +kernel
theorem dUC_1 : decode jdk_52_method_48_code 1 = .ok (.istore 4, 2) := by decide +kernel
theorem dUC_3 : decode jdk_52_method_48_code 3 = .ok (.iload 4, 2) := by decide +kernel
theorem dUC_5 : decode jdk_52_method_48_code 5 = .ok (.iload_n 3, 1) := by decide +kernel
theorem dUC_6 : decode jdk_52_method_48_code 6 = .ok (.if_icmp .ge 22, 3) := by decide +kernel
theorem dUC_9 : decode jdk_52_method_48_code 9 = .ok (.aload_n 0, 1) := by decide +kernel
theorem dUC_10 : decode jdk_52_method_48_code 10 = .ok (.iload 4, 2) := by decide +kernel
theorem dUC_12 : decode jdk_52_method_48_code 12 = .ok (.invokestatic 71, 3) := by decide +kernel
theorem dUC_15 : decode jdk_52_method_48_code 15 = .ok (.iload_n 1, 1) := by decide +kernel
theorem dUC_16 : decode jdk_52_method_48_code 16 = .ok (.if_icmp .ne 6, 3) := by decide +kernel
theorem dUC_19 : decode jdk_52_method_48_code 19 = .ok (.iload 4, 2) := by decide +kernel
theorem dUC_21 : decode jdk_52_method_48_code 21 = .ok (.ireturn, 1) := by decide +kernel
theorem dUC_22 : decode jdk_52_method_48_code 22 = .ok (.iinc 4 1, 3) := by decide +kernel
theorem dUC_25 : decode jdk_52_method_48_code 25 = .ok (.goto (-22), 3) := by decide +kernel
theorem dUC_28 : decode jdk_52_method_48_code 28 = .ok (.iconst (-1), 1) := by decide +kernel
theorem dUC_29 : decode jdk_52_method_48_code 29 = .ok (.ireturn, 1) := by decide +kernel
set_option maxRecDepth 65536 in
set_option maxHeartbeats 40000000 in
theorem segUC3 (l : Launch) (Z : State) (a0 : Array Value) (hw : ∀ d ∈ tables_1, d.before a0 Z = true) (ws : List Jvm.Cond) (pt : Addr) (kb : ClassId) (cs : List Int32) (pch : Int32) (h0 : Heap) (n0 : Nat) (Z0 : n0 ≤ h0.size) (H0 : Arv Z h0 pt kb .byte (Int32.ofNat (2 * cs.length)) (StrChars.Road.wideBytes cs) (.int 0)) (hln : cs.length ≤ 4000) (hB : ∀ c ∈ cs, ¬ c < 0 ∧ ¬ (65535 : Int32) < c) (O0 : Old Z n0 h0) (SV : own_Env Z) (SU : own_U16 Z)
    (p : Program) (e : Env) (s : State) (m : MethodId) (below : List Frame) (meth : Method) (c : Code) (s₁ : State) (Bd : BodyLoose p l (⟨"java/lang/StringUTF16", "indexOfCharUnsafe", "([BIII)I"⟩ : MethodName) (head1 (Jvm.Cond.code (⟨"java/lang/StringUTF16", "indexOfCharUnsafe", "([BIII)I"⟩ : MethodName) jdk_52_method_48_code 5 (some .int) :: ws) ({ frames := 1, cells := 0, slots := 0, locals := 13 } : Room)) jdk_52_method_48_code 5 (some .int) e s m #[(.ref pt), (.int pch), (.int 0), (.int (Int32.ofNat cs.length))] below meth c s₁) (hml : c.maxLocals = 5)
    (hZ : Z.Warmed39 s.vm) (hown : s.vm.findClass "java/lang/StringUTF16" = some m.cls)
    (T : State) (h : Heap) (locs : List Loc) (X : Stand p l e ({ frames := 1, cells := 0, slots := 0, locals := 13 } : Room) s m #[(.ref pt), (.int pch), (.int 0), (.int (Int32.ofNat cs.length))] below meth c T locs 0 0) (eT : T.heap = h) (N : Fr n0 locs) (Zh : n0 ≤ h.size) (O : Old Z n0 h) (i : Nat) (J0 : Arv Z h pt kb .byte (Int32.ofNat (2 * cs.length)) (StrChars.Road.wideBytes cs) (.int 0)) (hh0 : h = h0) (hi : i ≤ cs.length) (hv : ∀ j, j < i → ¬ cs.getD j 0 = pch) :
    Way p.tables e below (KQ s (QUC Z pt kb cs pch h0 n0) ({ frames := 1, cells := 0, slots := 0, locals := 13 } : Room).cells ({ frames := 1, cells := 0, slots := 0, locals := 13 } : Room).slots) (T.setTop (mkF m 3 #[rv pt, iv pch, iv 0, iv (Int32.ofNat cs.length), iv (Int32.ofNat i)] [])) := by
  have hx := Bd.exec
  have hby := Bd.bytes
  have hlk : meth.locks = false := BodyLoose.notSynchronized Bd
  have hnm := (name_of_methodNamed Bd.named Bd.method).1
  refine Way.by (fun _ k => XS.iload X.here hx rfl (hb hby dUC_3) rfl k) ?_
  show Way _ _ _ _ (T.setTop (mkF m 5 #[rv pt, iv pch, iv 0, iv (Int32.ofNat cs.length), iv (Int32.ofNat i)] [(.int (Int32.ofNat i))]))
  refine Way.by (fun _ k => XS.iloadN X.here hx rfl (hb hby dUC_5) rfl k) ?_
  show Way _ _ _ _ (T.setTop (mkF m 6 #[rv pt, iv pch, iv 0, iv (Int32.ofNat cs.length), iv (Int32.ofNat i)] [(.int (Int32.ofNat cs.length)), (.int (Int32.ofNat i))]))
  by_cases hlt : (Int32.ofNat i) < (Int32.ofNat cs.length)
  · skip
    have hi2 : i < cs.length := (own_ofNat_lt (by omega) (by omega)).mp hlt
    refine Way.by (fun _ k => XS.icmpNo X.here hx rfl (hb hby dUC_6) rfl (tlt hlt).2.1 k) ?_
    show Way _ _ _ _ (T.setTop (mkF m 9 #[rv pt, iv pch, iv 0, iv (Int32.ofNat cs.length), iv (Int32.ofNat i)] []))
    refine Way.by (fun _ k => XS.aloadN X.here hx rfl (hb hby dUC_9) rfl rfl k) ?_
    show Way _ _ _ _ (T.setTop (mkF m 10 #[rv pt, iv pch, iv 0, iv (Int32.ofNat cs.length), iv (Int32.ofNat i)] [(.ref pt)]))
    refine Way.by (fun _ k => XS.iload X.here hx rfl (hb hby dUC_10) rfl k) ?_
    show Way _ _ _ _ (T.setTop (mkF m 12 #[rv pt, iv pch, iv 0, iv (Int32.ofNat cs.length), iv (Int32.ofNat i)] [(.int (Int32.ofNat i)), (.ref pt)]))
    obtain ⟨_, _, ⟨T1, L3, k4, n5⟩, -, X2, ⟨Lc6, hQ7, l8, y9, z10⟩, st11⟩ := Jvm.LawKit.callS X hx (y := (⟨"java/lang/StringUTF16", "getChar", "([BI)C"⟩ : MethodName)) hown (mvT hZ (tw hw 102 rfl)) (mvT hZ (tw hw 103 rfl)) (mvT hZ (tw hw 72 rfl)) (mvT hZ (tw hw 104 rfl)) (by decide) (backOf (W := 0) (rmGC l Z a0 hw [] pt kb cs i h n0 Zh J0 hln hB hi2 O SV SU) hZ (tw hw 104 rfl) (tw hw 72 rfl) (by decide) (by decide)) (g := (mkF m 12 #[rv pt, iv pch, iv 0, iv (Int32.ofNat cs.length), iv (Int32.ofNat i)] [(.int (Int32.ofNat i)), (.ref pt)])) rfl (by rw [hml]; rfl) (argsL := [(.ref pt), (.int (Int32.ofNat i))]) (rest := []) (lenOf pdGC rfl) rfl (leW rfl) (hb hby dUC_12) (fun _ _ => ⟨rfl, eT, (leB rfl), (leB rfl)⟩)
    dsimp only [Pt.U, Pt.locs, Pt.cells, Pt.slots] at X2 l8 y9 z10 st11 hQ7
    subst l8 y9 z10
    obtain ⟨rfl, N17, e13⟩ := hQ7
    have N12 := Fr.app N N17
    refine Way.by st11 ?_
    show Way _ _ _ _ (T1.setTop (mkF m 15 #[rv pt, iv pch, iv 0, iv (Int32.ofNat cs.length), iv (Int32.ofNat i)] [(.int (cs.getD i 0))]))
    refine Way.by (fun _ k => XS.iloadN X2.here hx rfl (hb hby dUC_15) rfl k) ?_
    show Way _ _ _ _ (T1.setTop (mkF m 16 #[rv pt, iv pch, iv 0, iv (Int32.ofNat cs.length), iv (Int32.ofNat i)] [(.int pch), (.int (cs.getD i 0))]))
    by_cases hqq : (cs.getD i 0) = pch
    · skip
      refine Way.by (fun _ k => XS.icmpNo X2.here hx rfl (hb hby dUC_16) rfl (teq hqq).2 k) ?_
      show Way _ _ _ _ (T1.setTop (mkF m 19 #[rv pt, iv pch, iv 0, iv (Int32.ofNat cs.length), iv (Int32.ofNat i)] []))
      refine Way.by (fun _ k => XS.iload X2.here hx rfl (hb hby dUC_19) rfl k) ?_
      show Way _ _ _ _ (T1.setTop (mkF m 21 #[rv pt, iv pch, iv 0, iv (Int32.ofNat cs.length), iv (Int32.ofNat i)] [(.int (Int32.ofNat i))]))
      refine Way.ret (v := (some (.int (Int32.ofNat i)))) X2 hlk (fun h => by rw [Bd.returns] at h; cases h) (fun fs hr => retI X2 hx Bd.returns (hb hby dUC_21) hr) ?_ (by decide) (by decide)
      show QUC Z pt kb cs pch h0 n0 _ T1.heap _
      rw [e13]
      exact ⟨_, rfl, N12, hh0, ⟨fun q => absurd q (own_ofNat_nn (by omega)), fun q => absurd (own_memOf hi2 hqq) q⟩⟩
    · skip
      refine Way.by (fun _ k => XS.icmpYes X2.here hx rfl (pc0 := 16) (pc' := 22) rfl (hb hby dUC_16) rfl (feq hqq).2 (by decide) (by decide) k) ?_
      show Way _ _ _ _ (T1.setTop (mkF m 22 #[rv pt, iv pch, iv 0, iv (Int32.ofNat cs.length), iv (Int32.ofNat i)] []))
      refine Way.by (fun _ k => XS.iinc X2.here hx rfl (hb hby dUC_22) rfl (l' := #[rv pt, iv pch, iv 0, iv (Int32.ofNat cs.length), iv ((Int32.ofNat i) + (1 : Int32))]) rfl k) ?_
      show Way _ _ _ _ (T1.setTop (mkF m 25 #[rv pt, iv pch, iv 0, iv (Int32.ofNat cs.length), iv ((Int32.ofNat i) + (1 : Int32))] []))
      rw [← inc_ofNat i]
      show Way _ _ _ _ (T1.setTop (mkF m 25 #[rv pt, iv pch, iv 0, iv (Int32.ofNat cs.length), iv (Int32.ofNat (i + 1))] []))
      refine Way.by (fun _ k => XS.goto X2.here hx rfl (pc0 := 25) (pc' := 3) rfl (hb hby dUC_25) (by decide) (by decide) k) ?_
      show Way _ _ _ _ (T1.setTop (mkF m 3 #[rv pt, iv pch, iv 0, iv (Int32.ofNat cs.length), iv (Int32.ofNat (i + 1))] []))
      exact segUC3 l Z a0 hw ws pt kb cs pch h0 n0 Z0 H0 hln hB O0 SV SU p e s m below meth c s₁ Bd hml hZ hown T1 h _ X2 e13 N12 Zh O (i + 1) J0 hh0 hi2 (own_snoc hv hqq)
  · skip
    refine Way.by (fun _ k => XS.icmpYes X.here hx rfl (pc0 := 6) (pc' := 28) rfl (hb hby dUC_6) rfl (flt hlt).2.1 (by decide) (by decide) k) ?_
    show Way _ _ _ _ (T.setTop (mkF m 28 #[rv pt, iv pch, iv 0, iv (Int32.ofNat cs.length), iv (Int32.ofNat i)] []))
    refine Way.by (fun _ k => XS.iconst X.here hx rfl (hb hby dUC_28) k) ?_
    show Way _ _ _ _ (T.setTop (mkF m 29 #[rv pt, iv pch, iv 0, iv (Int32.ofNat cs.length), iv (Int32.ofNat i)] [(.int (-1 : Int32))]))
    refine Way.ret (v := (some (.int (-1 : Int32)))) X hlk (fun h => by rw [Bd.returns] at h; cases h) (fun fs hr => retI X hx Bd.returns (hb hby dUC_29) hr) ?_ (by decide) (by decide)
    show QUC Z pt kb cs pch h0 n0 _ T.heap _
    rw [eT]
    exact ⟨_, rfl, N, hh0, ⟨fun _ => own_notMem hv (own_geLen hln hi hlt), fun _ => by decide⟩⟩
termination_by cs.length - i
decreasing_by all_goals omega
set_option maxRecDepth 65536 in
set_option maxHeartbeats 40000000 in
theorem rmUC (l : Launch) (Z : State) (a0 : Array Value) (hw : ∀ d ∈ tables_1, d.before a0 Z = true) (ws : List Jvm.Cond) (pt : Addr) (kb : ClassId) (cs : List Int32) (pch : Int32) (h0 : Heap) (n0 : Nat) (Z0 : n0 ≤ h0.size) (H0 : Arv Z h0 pt kb .byte (Int32.ofNat (2 * cs.length)) (StrChars.Road.wideBytes cs) (.int 0)) (hln : cs.length ≤ 4000) (hB : ∀ c ∈ cs, ¬ c < 0 ∧ ¬ (65535 : Int32) < c) (O0 : Old Z n0 h0) (SV : own_Env Z) (SU : own_U16 Z) :
    MetFree l (⟨"java/lang/StringUTF16", "indexOfCharUnsafe", "([BIII)I"⟩ : MethodName) (head1 (Jvm.Cond.code (⟨"java/lang/StringUTF16", "indexOfCharUnsafe", "([BIII)I"⟩ : MethodName) jdk_52_method_48_code 5 (some .int) :: ws) ({ frames := 1, cells := 0, slots := 0, locals := 13 } : Room)) (fun aa U => aa = #[(.ref pt), (.int pch), (.int 0), (.int (Int32.ofNat cs.length))] ∧ Z.Warmed39 U.vm ∧ U.heap = h0) (fun _ _ _ _ _ => True) (fun _ U oo U' => ∃ v L, oo = .returned v ∧ QUC Z pt kb cs pch h0 n0 v U'.heap L ∧ FrameEnd U oo U' L ({ frames := 1, cells := 0, slots := 0, locals := 13 } : Room).cells ({ frames := 1, cells := 0, slots := 0, locals := 13 } : Room).slots) := by
  refine MetFree.of_bodySF (plainFor_of_name pnGC) hisR ?_
  intro p e s m args below meth c s₁ Bd hml0 hP hK
  obtain ⟨rfl, hZ, hh⟩ := hP
  have hx := Bd.exec
  have hby := Bd.bytes
  have hlk : meth.locks = false := BodyLoose.notSynchronized Bd
  have hml : c.maxLocals = 5 := hml0
  have hown : s.vm.findClass "java/lang/StringUTF16" = some m.cls := findClass_of_methodNamed Bd.named
  have hnm := (name_of_methodNamed Bd.named Bd.method).1
  have X0 : Stand p l e ({ frames := 1, cells := 0, slots := 0, locals := 13 } : Room) s m #[(.ref pt), (.int pch), (.int 0), (.int (Int32.ofNat cs.length))] below meth c s₁ [] 0 0 := Stand.of_body Bd
  have e0 : s₁.heap = h0 := by rw [← hh, Bd.state]; rfl
  have N0 := Fr.nil n0
  have ef : entryFrame m #[(.ref pt), (.int pch), (.int 0), (.int (Int32.ofNat cs.length))] 5 = mkF m 0 #[rv pt, iv pch, iv 0, iv (Int32.ofNat cs.length), .unset] [] := by first | (simp [entryFrame, mkF, argsToLocals, Value.category, maxLocals]; done) | rfl
  show Way p.tables e below (KQ s (QUC Z pt kb cs pch h0 n0) ({ frames := 1, cells := 0, slots := 0, locals := 13 } : Room).cells ({ frames := 1, cells := 0, slots := 0, locals := 13 } : Room).slots) (s₁.setTop (entryFrame m #[(.ref pt), (.int pch), (.int 0), (.int (Int32.ofNat cs.length))] 5))
  rw [ef]
  refine Way.by (fun _ k => XS.iloadN X0.here hx rfl (hb hby dUC_0) rfl k) ?_
  show Way _ _ _ _ (s₁.setTop (mkF m 1 #[rv pt, iv pch, iv 0, iv (Int32.ofNat cs.length), .unset] [(.int 0)]))
  refine Way.by (fun _ k => XS.istore X0.here hx rfl (hb hby dUC_1) rfl (l' := #[rv pt, iv pch, iv 0, iv (Int32.ofNat cs.length), iv 0]) rfl k) ?_
  show Way _ _ _ _ (s₁.setTop (mkF m 3 #[rv pt, iv pch, iv 0, iv (Int32.ofNat cs.length), iv 0] []))
  exact segUC3 l Z a0 hw ws pt kb cs pch h0 n0 Z0 H0 hln hB O0 SV SU p e s m below meth c s₁ Bd hml hZ hown s₁ h0 _ X0 e0 N0 Z0 O0 0 H0 rfl (Nat.zero_le _) (fun _ q => absurd q (Nat.not_lt_zero _))
def QSL (Z : State) (pt : Addr) (kb : ClassId) (cs : List Int32) (h0 : Heap) (n0 : Nat) (v : Option Value) (h : Heap) (L : List Loc) : Prop := v = some (.int (Int32.ofNat cs.length)) ∧ Fr n0 L ∧ h = h0
theorem dSL_0 : decode jdk_52_method_6_code 0 = .ok (.aload_n 0, 1) := by decide +kernel
theorem dSL_1 : decode jdk_52_method_6_code 1 = .ok (.arraylength, 1) := by decide +kernel
theorem dSL_2 : decode jdk_52_method_6_code 2 = .ok (.iconst 1, 1) := by decide +kernel
theorem dSL_3 : decode jdk_52_method_6_code 3 = .ok (.ishr, 1) := by decide +kernel
theorem dSL_4 : decode jdk_52_method_6_code 4 = .ok (.ireturn, 1) := by decide +kernel
theorem pdSL : parseMethodDescriptor "([B)I" = some ⟨[(.array .byte)], some .int⟩ := by decide +kernel
set_option maxRecDepth 65536 in
set_option maxHeartbeats 40000000 in
theorem rmSL (l : Launch) (Z : State) (a0 : Array Value) (hw : ∀ d ∈ tables_1, d.before a0 Z = true) (ws : List Jvm.Cond) (pt : Addr) (kb : ClassId) (cs : List Int32) (h0 : Heap) (n0 : Nat) (Z0 : n0 ≤ h0.size) (H0 : Arv Z h0 pt kb .byte (Int32.ofNat (2 * cs.length)) (StrChars.Road.wideBytes cs) (.int 0)) (hln : cs.length ≤ 4000) :
    MetFree l (⟨"java/lang/StringUTF16", "length", "([B)I"⟩ : MethodName) (head1 (Jvm.Cond.code (⟨"java/lang/StringUTF16", "length", "([B)I"⟩ : MethodName) jdk_52_method_6_code 1 (some .int) :: ws) ({ frames := 0, cells := 0, slots := 0, locals := 0 } : Room)) (fun aa U => aa = #[(.ref pt)] ∧ Z.Warmed39 U.vm ∧ U.heap = h0) (fun _ _ _ _ _ => True) (fun _ U oo U' => ∃ v L, oo = .returned v ∧ QSL Z pt kb cs h0 n0 v U'.heap L ∧ FrameEnd U oo U' L ({ frames := 0, cells := 0, slots := 0, locals := 0 } : Room).cells ({ frames := 0, cells := 0, slots := 0, locals := 0 } : Room).slots) := by
  refine MetFree.of_bodySF (plainFor_of_name pnGC) hisR ?_
  intro p e s m args below meth c s₁ Bd hml0 hP hK
  obtain ⟨rfl, hZ, hh⟩ := hP
  have hx := Bd.exec
  have hby := Bd.bytes
  have hlk : meth.locks = false := BodyLoose.notSynchronized Bd
  have hml : c.maxLocals = 1 := hml0
  have hown : s.vm.findClass "java/lang/StringUTF16" = some m.cls := findClass_of_methodNamed Bd.named
  have hnm := (name_of_methodNamed Bd.named Bd.method).1
  have X0 : Stand p l e ({ frames := 0, cells := 0, slots := 0, locals := 0 } : Room) s m #[(.ref pt)] below meth c s₁ [] 0 0 := Stand.of_body Bd
  have e0 : s₁.heap = h0 := by rw [← hh, Bd.state]; rfl
  have N0 := Fr.nil n0
  have ef : entryFrame m #[(.ref pt)] 1 = mkF m 0 #[rv pt] [] := by first | (simp [entryFrame, mkF, argsToLocals, Value.category, maxLocals]; done) | rfl
  show Way p.tables e below (KQ s (QSL Z pt kb cs h0 n0) ({ frames := 0, cells := 0, slots := 0, locals := 0 } : Room).cells ({ frames := 0, cells := 0, slots := 0, locals := 0 } : Room).slots) (s₁.setTop (entryFrame m #[(.ref pt)] 1))
  rw [ef]
  refine Way.by (fun _ k => XS.aloadN X0.here hx rfl (hb hby dSL_0) rfl rfl k) ?_
  show Way _ _ _ _ (s₁.setTop (mkF m 1 #[rv pt] [(.ref pt)]))
  obtain ⟨c1, A2, q3, S4, M5, H6, U7⟩ := id H0
  refine Way.by (fun t k => Stand.arraylength X0 hx (hpE e0 A2.1) (arrS hZ A2) (g := (mkF m 1 #[rv pt] [(.ref pt)])) rfl rfl (hb hby dSL_1) t k) ?_
  rw [len_of S4 M5]
  show Way _ _ _ _ (s₁.setTop (mkF m 2 #[rv pt] [(.int (Int32.ofNat (2 * cs.length)))]))
  refine Way.by (fun _ k => XS.iconst X0.here hx rfl (hb hby dSL_2) k) ?_
  show Way _ _ _ _ (s₁.setTop (mkF m 3 #[rv pt] [(.int 1), (.int (Int32.ofNat (2 * cs.length)))]))
  refine Way.by (fun _ k => XT.ishr X0.here hx rfl (hb hby dSL_3) rfl k) ?_
  show Way _ _ _ _ (s₁.setTop (mkF m 4 #[rv pt] [(.int ((Int32.ofNat (2 * cs.length)) >>> ((1 : Int32) &&& 31)))]))
  rw [own_shr1 hln]
  show Way _ _ _ _ (s₁.setTop (mkF m 4 #[rv pt] [(.int (Int32.ofNat cs.length))]))
  refine Way.ret (v := (some (.int (Int32.ofNat cs.length)))) X0 hlk (fun h => by rw [Bd.returns] at h; cases h) (fun fs hr => retI X0 hx Bd.returns (hb hby dSL_4) hr) ?_ (by decide) (by decide)
  show QSL Z pt kb cs h0 n0 _ s₁.heap _
  rw [e0]
  exact ⟨rfl, N0, rfl⟩
def QPFn (Z : State) (pi : Int32) (pj : Int32) (pn : Int32) (h0 : Heap) (n0 : Nat) (v : Option Value) (h : Heap) (L : List Loc) : Prop := v = some (.int pi) ∧ Fr n0 L ∧ h = h0
theorem dPFn_0 : decode jdk_41_method_12_code 0 = .ok (.iload_n 0, 1) := by decide +kernel
theorem dPFn_1 : decode jdk_41_method_12_code 1 = .ok (.ifCond .lt 13, 3) := by decide +kernel
theorem dPFn_4 : decode jdk_41_method_12_code 4 = .ok (.iload_n 0, 1) := by decide +kernel
theorem dPFn_5 : decode jdk_41_method_12_code 5 = .ok (.iload_n 1, 1) := by decide +kernel
theorem dPFn_6 : decode jdk_41_method_12_code 6 = .ok (.if_icmp .gt 8, 3) := by decide +kernel
theorem dPFn_9 : decode jdk_41_method_12_code 9 = .ok (.iload_n 1, 1) := by decide +kernel
theorem dPFn_10 : decode jdk_41_method_12_code 10 = .ok (.iload_n 2, 1) := by decide +kernel
theorem dPFn_11 : decode jdk_41_method_12_code 11 = .ok (.if_icmp .le 11, 3) := by decide +kernel
theorem dPFn_22 : decode jdk_41_method_12_code 22 = .ok (.iload_n 0, 1) := by decide +kernel
theorem dPFn_23 : decode jdk_41_method_12_code 23 = .ok (.ireturn, 1) := by decide +kernel
theorem pnPFn : plainName "jdk/internal/util/Preconditions" = true := by first | (simp [plainName, overriddenIn]; done) | decide +kernel
theorem pdPFn : parseMethodDescriptor "(IIILjava/util/function/BiFunction;)I" = some ⟨[.int, .int, .int, (.object "java/util/function/BiFunction")], some .int⟩ := by decide +kernel
set_option maxRecDepth 65536 in
set_option maxHeartbeats 40000000 in
theorem rmPFn (l : Launch) (Z : State) (a0 : Array Value) (hw : ∀ d ∈ tables_1, d.before a0 Z = true) (ws : List Jvm.Cond) (pi : Int32) (pj : Int32) (pn : Int32) (h0 : Heap) (n0 : Nat) (Z0 : n0 ≤ h0.size) (hk : ¬ pi < 0 ∧ ¬ pj < pi ∧ ¬ pn < pj) :
    MetFree l (⟨"jdk/internal/util/Preconditions", "checkFromToIndex", "(IIILjava/util/function/BiFunction;)I"⟩ : MethodName) (head1 (Jvm.Cond.code (⟨"jdk/internal/util/Preconditions", "checkFromToIndex", "(IIILjava/util/function/BiFunction;)I"⟩ : MethodName) jdk_41_method_12_code 4 (some .int) :: ws) ({ frames := 0, cells := 0, slots := 0, locals := 0 } : Room)) (fun aa U => aa = #[(.int pi), (.int pj), (.int pn), .null] ∧ Z.Warmed39 U.vm ∧ U.heap = h0) (fun _ _ _ _ _ => True) (fun _ U oo U' => ∃ v L, oo = .returned v ∧ QPFn Z pi pj pn h0 n0 v U'.heap L ∧ FrameEnd U oo U' L ({ frames := 0, cells := 0, slots := 0, locals := 0 } : Room).cells ({ frames := 0, cells := 0, slots := 0, locals := 0 } : Room).slots) := by
  refine MetFree.of_bodySF (plainFor_of_name pnPFn) hisR ?_
  intro p e s m args below meth c s₁ Bd hml0 hP hK
  obtain ⟨rfl, hZ, hh⟩ := hP
  have hx := Bd.exec
  have hby := Bd.bytes
  have hlk : meth.locks = false := BodyLoose.notSynchronized Bd
  have hml : c.maxLocals = 4 := hml0
  have hown : s.vm.findClass "jdk/internal/util/Preconditions" = some m.cls := findClass_of_methodNamed Bd.named
  have hnm := (name_of_methodNamed Bd.named Bd.method).1
  have X0 : Stand p l e ({ frames := 0, cells := 0, slots := 0, locals := 0 } : Room) s m #[(.int pi), (.int pj), (.int pn), .null] below meth c s₁ [] 0 0 := Stand.of_body Bd
  have e0 : s₁.heap = h0 := by rw [← hh, Bd.state]; rfl
  have N0 := Fr.nil n0
  have ef : entryFrame m #[(.int pi), (.int pj), (.int pn), .null] 4 = mkF m 0 #[iv pi, iv pj, iv pn, .val .null] [] := by first | (simp [entryFrame, mkF, argsToLocals, Value.category, maxLocals]; done) | rfl
  show Way p.tables e below (KQ s (QPFn Z pi pj pn h0 n0) ({ frames := 0, cells := 0, slots := 0, locals := 0 } : Room).cells ({ frames := 0, cells := 0, slots := 0, locals := 0 } : Room).slots) (s₁.setTop (entryFrame m #[(.int pi), (.int pj), (.int pn), .null] 4))
  rw [ef]
  refine Way.by (fun _ k => XS.iloadN X0.here hx rfl (hb hby dPFn_0) rfl k) ?_
  show Way _ _ _ _ (s₁.setTop (mkF m 1 #[iv pi, iv pj, iv pn, .val .null] [(.int pi)]))
  have b1 : ¬ pi < (0 : Int32) := hk.1
  refine Way.by (fun _ k => XS.ifNo X0.here hx rfl (hb hby dPFn_1) rfl ((if0 .lt _).trans (flt b1).1) k) ?_
  show Way _ _ _ _ (s₁.setTop (mkF m 4 #[iv pi, iv pj, iv pn, .val .null] []))
  refine Way.by (fun _ k => XS.iloadN X0.here hx rfl (hb hby dPFn_4) rfl k) ?_
  show Way _ _ _ _ (s₁.setTop (mkF m 5 #[iv pi, iv pj, iv pn, .val .null] [(.int pi)]))
  refine Way.by (fun _ k => XS.iloadN X0.here hx rfl (hb hby dPFn_5) rfl k) ?_
  show Way _ _ _ _ (s₁.setTop (mkF m 6 #[iv pi, iv pj, iv pn, .val .null] [(.int pj), (.int pi)]))
  have b2 : ¬ pj < pi := hk.2.1
  refine Way.by (fun _ k => XS.icmpNo X0.here hx rfl (hb hby dPFn_6) rfl (flt b2).2.2.1 k) ?_
  show Way _ _ _ _ (s₁.setTop (mkF m 9 #[iv pi, iv pj, iv pn, .val .null] []))
  refine Way.by (fun _ k => XS.iloadN X0.here hx rfl (hb hby dPFn_9) rfl k) ?_
  show Way _ _ _ _ (s₁.setTop (mkF m 10 #[iv pi, iv pj, iv pn, .val .null] [(.int pj)]))
  refine Way.by (fun _ k => XS.iloadN X0.here hx rfl (hb hby dPFn_10) rfl k) ?_
  show Way _ _ _ _ (s₁.setTop (mkF m 11 #[iv pi, iv pj, iv pn, .val .null] [(.int pn), (.int pj)]))
  have b3 : ¬ pn < pj := hk.2.2
  refine Way.by (fun _ k => XS.icmpYes X0.here hx rfl (pc0 := 11) (pc' := 22) rfl (hb hby dPFn_11) rfl (flt b3).2.2.2 (by decide) (by decide) k) ?_
  show Way _ _ _ _ (s₁.setTop (mkF m 22 #[iv pi, iv pj, iv pn, .val .null] []))
  refine Way.by (fun _ k => XS.iloadN X0.here hx rfl (hb hby dPFn_22) rfl k) ?_
  show Way _ _ _ _ (s₁.setTop (mkF m 23 #[iv pi, iv pj, iv pn, .val .null] [(.int pi)]))
  refine Way.ret (v := (some (.int pi))) X0 hlk (fun h => by rw [Bd.returns] at h; cases h) (fun fs hr => retI X0 hx Bd.returns (hb hby dPFn_23) hr) ?_ (by decide) (by decide)
  show QPFn Z pi pj pn h0 n0 _ s₁.heap _
  rw [e0]
  exact ⟨rfl, N0, rfl⟩
def QPFr (Z : State) (pi : Int32) (pj : Int32) (pn : Int32) (pg : Addr) (h0 : Heap) (n0 : Nat) (v : Option Value) (h : Heap) (L : List Loc) : Prop := v = some (.int pi) ∧ Fr n0 L ∧ h = h0
set_option maxRecDepth 65536 in
set_option maxHeartbeats 40000000 in
theorem rmPFr (l : Launch) (Z : State) (a0 : Array Value) (hw : ∀ d ∈ tables_1, d.before a0 Z = true) (ws : List Jvm.Cond) (pi : Int32) (pj : Int32) (pn : Int32) (pg : Addr) (h0 : Heap) (n0 : Nat) (Z0 : n0 ≤ h0.size) (hk : ¬ pi < 0 ∧ ¬ pj < pi ∧ ¬ pn < pj) :
    MetFree l (⟨"jdk/internal/util/Preconditions", "checkFromToIndex", "(IIILjava/util/function/BiFunction;)I"⟩ : MethodName) (head1 (Jvm.Cond.code (⟨"jdk/internal/util/Preconditions", "checkFromToIndex", "(IIILjava/util/function/BiFunction;)I"⟩ : MethodName) jdk_41_method_12_code 4 (some .int) :: ws) ({ frames := 0, cells := 0, slots := 0, locals := 0 } : Room)) (fun aa U => aa = #[(.int pi), (.int pj), (.int pn), (.ref pg)] ∧ Z.Warmed39 U.vm ∧ U.heap = h0) (fun _ _ _ _ _ => True) (fun _ U oo U' => ∃ v L, oo = .returned v ∧ QPFr Z pi pj pn pg h0 n0 v U'.heap L ∧ FrameEnd U oo U' L ({ frames := 0, cells := 0, slots := 0, locals := 0 } : Room).cells ({ frames := 0, cells := 0, slots := 0, locals := 0 } : Room).slots) := by
  refine MetFree.of_bodySF (plainFor_of_name pnPFn) hisR ?_
  intro p e s m args below meth c s₁ Bd hml0 hP hK
  obtain ⟨rfl, hZ, hh⟩ := hP
  have hx := Bd.exec
  have hby := Bd.bytes
  have hlk : meth.locks = false := BodyLoose.notSynchronized Bd
  have hml : c.maxLocals = 4 := hml0
  have hown : s.vm.findClass "jdk/internal/util/Preconditions" = some m.cls := findClass_of_methodNamed Bd.named
  have hnm := (name_of_methodNamed Bd.named Bd.method).1
  have X0 : Stand p l e ({ frames := 0, cells := 0, slots := 0, locals := 0 } : Room) s m #[(.int pi), (.int pj), (.int pn), (.ref pg)] below meth c s₁ [] 0 0 := Stand.of_body Bd
  have e0 : s₁.heap = h0 := by rw [← hh, Bd.state]; rfl
  have N0 := Fr.nil n0
  have ef : entryFrame m #[(.int pi), (.int pj), (.int pn), (.ref pg)] 4 = mkF m 0 #[iv pi, iv pj, iv pn, rv pg] [] := by first | (simp [entryFrame, mkF, argsToLocals, Value.category, maxLocals]; done) | rfl
  show Way p.tables e below (KQ s (QPFr Z pi pj pn pg h0 n0) ({ frames := 0, cells := 0, slots := 0, locals := 0 } : Room).cells ({ frames := 0, cells := 0, slots := 0, locals := 0 } : Room).slots) (s₁.setTop (entryFrame m #[(.int pi), (.int pj), (.int pn), (.ref pg)] 4))
  rw [ef]
  refine Way.by (fun _ k => XS.iloadN X0.here hx rfl (hb hby dPFn_0) rfl k) ?_
  show Way _ _ _ _ (s₁.setTop (mkF m 1 #[iv pi, iv pj, iv pn, rv pg] [(.int pi)]))
  have b1 : ¬ pi < (0 : Int32) := hk.1
  refine Way.by (fun _ k => XS.ifNo X0.here hx rfl (hb hby dPFn_1) rfl ((if0 .lt _).trans (flt b1).1) k) ?_
  show Way _ _ _ _ (s₁.setTop (mkF m 4 #[iv pi, iv pj, iv pn, rv pg] []))
  refine Way.by (fun _ k => XS.iloadN X0.here hx rfl (hb hby dPFn_4) rfl k) ?_
  show Way _ _ _ _ (s₁.setTop (mkF m 5 #[iv pi, iv pj, iv pn, rv pg] [(.int pi)]))
  refine Way.by (fun _ k => XS.iloadN X0.here hx rfl (hb hby dPFn_5) rfl k) ?_
  show Way _ _ _ _ (s₁.setTop (mkF m 6 #[iv pi, iv pj, iv pn, rv pg] [(.int pj), (.int pi)]))
  have b2 : ¬ pj < pi := hk.2.1
  refine Way.by (fun _ k => XS.icmpNo X0.here hx rfl (hb hby dPFn_6) rfl (flt b2).2.2.1 k) ?_
  show Way _ _ _ _ (s₁.setTop (mkF m 9 #[iv pi, iv pj, iv pn, rv pg] []))
  refine Way.by (fun _ k => XS.iloadN X0.here hx rfl (hb hby dPFn_9) rfl k) ?_
  show Way _ _ _ _ (s₁.setTop (mkF m 10 #[iv pi, iv pj, iv pn, rv pg] [(.int pj)]))
  refine Way.by (fun _ k => XS.iloadN X0.here hx rfl (hb hby dPFn_10) rfl k) ?_
  show Way _ _ _ _ (s₁.setTop (mkF m 11 #[iv pi, iv pj, iv pn, rv pg] [(.int pn), (.int pj)]))
  have b3 : ¬ pn < pj := hk.2.2
  refine Way.by (fun _ k => XS.icmpYes X0.here hx rfl (pc0 := 11) (pc' := 22) rfl (hb hby dPFn_11) rfl (flt b3).2.2.2 (by decide) (by decide) k) ?_
  show Way _ _ _ _ (s₁.setTop (mkF m 22 #[iv pi, iv pj, iv pn, rv pg] []))
  refine Way.by (fun _ k => XS.iloadN X0.here hx rfl (hb hby dPFn_22) rfl k) ?_
  show Way _ _ _ _ (s₁.setTop (mkF m 23 #[iv pi, iv pj, iv pn, rv pg] [(.int pi)]))
  refine Way.ret (v := (some (.int pi))) X0 hlk (fun h => by rw [Bd.returns] at h; cases h) (fun fs hr => retI X0 hx Bd.returns (hb hby dPFn_23) hr) ?_ (by decide) (by decide)
  show QPFr Z pi pj pn pg h0 n0 _ s₁.heap _
  rw [e0]
  exact ⟨rfl, N0, rfl⟩
def QSB (Z : State) (pi : Int32) (pj : Int32) (pn : Int32) (h0 : Heap) (n0 : Nat) (v : Option Value) (h : Heap) (L : List Loc) : Prop := v = none ∧ Fr n0 L ∧ h = h0
theorem dSB_0 : decode jdk_42_method_158_code 0 = .ok (.iload_n 0, 1) := by decide +kernel
theorem dSB_1 : decode jdk_42_method_158_code 1 = .ok (.iload_n 1, 1) := by decide +kernel
theorem dSB_2 : decode jdk_42_method_158_code 2 = .ok (.iload_n 2, 1) := by decide +kernel
theorem dSB_3 : decode jdk_42_method_158_code 3 = .ok (.getstatic 1053, 3) := by decide +kernel
theorem dSB_6 : decode jdk_42_method_158_code 6 = .ok (.invokestatic 1062, 3) := by decide +kernel
theorem dSB_9 : decode jdk_42_method_158_code 9 = .ok (.pop, 1) := by decide +kernel
theorem dSB_10 : decode jdk_42_method_158_code 10 = .ok (.return_, 1) := by decide +kernel
theorem pnSB : plainName "java/lang/String" = true := by first | (simp [plainName, overriddenIn]; done) | decide +kernel
theorem pdSB : parseMethodDescriptor "(III)V" = some ⟨[.int, .int, .int], none⟩ := by decide +kernel
set_option maxRecDepth 65536 in
set_option maxHeartbeats 40000000 in
theorem rmSB (l : Launch) (Z : State) (a0 : Array Value) (hw : ∀ d ∈ tables_1, d.before a0 Z = true) (ws : List Jvm.Cond) (pi : Int32) (pj : Int32) (pn : Int32) (h0 : Heap) (n0 : Nat) (Z0 : n0 ≤ h0.size) (hk : ¬ pi < 0 ∧ ¬ pj < pi ∧ ¬ pn < pj) (O0 : Old Z n0 h0) (SV : own_Env Z) (SU : own_U16 Z) :
    MetFree l (⟨"java/lang/String", "checkBoundsBeginEnd", "(III)V"⟩ : MethodName) (head1 (Jvm.Cond.code (⟨"java/lang/String", "checkBoundsBeginEnd", "(III)V"⟩ : MethodName) jdk_42_method_158_code 3 none :: ws) ({ frames := 1, cells := 0, slots := 0, locals := 15 } : Room)) (fun aa U => aa = #[(.int pi), (.int pj), (.int pn)] ∧ Z.Warmed39 U.vm ∧ U.heap = h0) (fun _ _ _ _ _ => True) (fun _ U oo U' => ∃ v L, oo = .returned v ∧ QSB Z pi pj pn h0 n0 v U'.heap L ∧ FrameEnd U oo U' L ({ frames := 1, cells := 0, slots := 0, locals := 15 } : Room).cells ({ frames := 1, cells := 0, slots := 0, locals := 15 } : Room).slots) := by
  refine MetFree.of_bodySF (plainFor_of_name pnSB) hisR ?_
  intro p e s m args below meth c s₁ Bd hml0 hP hK
  obtain ⟨rfl, hZ, hh⟩ := hP
  have hx := Bd.exec
  have hby := Bd.bytes
  have hlk : meth.locks = false := BodyLoose.notSynchronized Bd
  have hml : c.maxLocals = 3 := hml0
  have hown : s.vm.findClass "java/lang/String" = some m.cls := findClass_of_methodNamed Bd.named
  have hnm := (name_of_methodNamed Bd.named Bd.method).1
  have X0 : Stand p l e ({ frames := 1, cells := 0, slots := 0, locals := 15 } : Room) s m #[(.int pi), (.int pj), (.int pn)] below meth c s₁ [] 0 0 := Stand.of_body Bd
  have e0 : s₁.heap = h0 := by rw [← hh, Bd.state]; rfl
  have N0 := Fr.nil n0
  have ef : entryFrame m #[(.int pi), (.int pj), (.int pn)] 3 = mkF m 0 #[iv pi, iv pj, iv pn] [] := by first | (simp [entryFrame, mkF, argsToLocals, Value.category, maxLocals]; done) | rfl
  show Way p.tables e below (KQ s (QSB Z pi pj pn h0 n0) ({ frames := 1, cells := 0, slots := 0, locals := 15 } : Room).cells ({ frames := 1, cells := 0, slots := 0, locals := 15 } : Room).slots) (s₁.setTop (entryFrame m #[(.int pi), (.int pj), (.int pn)] 3))
  rw [ef]
  obtain ⟨⟨G1, SG1, hG1⟩, G3, SG3, rG3⟩ := id SV
  rcases ref_cases rG3 with rfl | ⟨g3, rfl⟩
  · skip
    show Way _ _ _ _ (s₁.setTop (mkF m 0 #[iv pi, iv pj, iv pn] []))
    refine Way.by (fun _ k => XS.iloadN X0.here hx rfl (hb hby dSB_0) rfl k) ?_
    show Way _ _ _ _ (s₁.setTop (mkF m 1 #[iv pi, iv pj, iv pn] [(.int pi)]))
    refine Way.by (fun _ k => XS.iloadN X0.here hx rfl (hb hby dSB_1) rfl k) ?_
    show Way _ _ _ _ (s₁.setTop (mkF m 2 #[iv pi, iv pj, iv pn] [(.int pj), (.int pi)]))
    refine Way.by (fun _ k => XS.iloadN X0.here hx rfl (hb hby dSB_2) rfl k) ?_
    show Way _ _ _ _ (s₁.setTop (mkF m 3 #[iv pi, iv pj, iv pn] [(.int pn), (.int pj), (.int pi)]))
    obtain ⟨T1, X2, e3, st4⟩ := getS X0 hx hZ hown (host := "") (tw hw 123 rfl) Via.refl e0 (Sta.ext O0.2 SG3) (g := (mkF m 3 #[iv pi, iv pj, iv pn] [(.int pn), (.int pj), (.int pi)])) rfl (hb hby dSB_3)
    refine Way.by st4 ?_
    show Way _ _ _ _ (T1.setTop (mkF m 6 #[iv pi, iv pj, iv pn] [.null, (.int pn), (.int pj), (.int pi)]))
    obtain ⟨_, _, ⟨T5, L7, k8, n9⟩, -, X6, ⟨Lc10, hQ11, l12, y13, z14⟩, st15⟩ := Jvm.LawKit.callS X2 hx (y := (⟨"jdk/internal/util/Preconditions", "checkFromToIndex", "(IIILjava/util/function/BiFunction;)I"⟩ : MethodName)) hown (mvT hZ (tw hw 125 rfl)) (mvT hZ (tw hw 126 rfl)) (mvT hZ (tw hw 124 rfl)) (mvT hZ (tw hw 127 rfl)) (by decide) (backOf (W := 0) (rmPFn l Z a0 hw [] pi pj pn h0 n0 Z0 hk) hZ (tw hw 127 rfl) (tw hw 124 rfl) (by decide) (by decide)) (g := (mkF m 6 #[iv pi, iv pj, iv pn] [.null, (.int pn), (.int pj), (.int pi)])) rfl (by rw [hml]; rfl) (argsL := [(.int pi), (.int pj), (.int pn), .null]) (rest := []) (lenOf pdPFn rfl) rfl (leW rfl) (hb hby dSB_6) (fun _ _ => ⟨rfl, e3, (leB rfl), (leB rfl)⟩)
    dsimp only [Pt.U, Pt.locs, Pt.cells, Pt.slots] at X6 l12 y13 z14 st15 hQ11
    subst l12 y13 z14
    obtain ⟨rfl, N21, e17⟩ := hQ11
    have N16 := Fr.app N0 N21
    refine Way.by st15 ?_
    show Way _ _ _ _ (T5.setTop (mkF m 9 #[iv pi, iv pj, iv pn] [(.int pi)]))
    refine Way.by (fun _ k => XT.pop X6.here hx rfl (hb hby dSB_9) rfl rfl k) ?_
    show Way _ _ _ _ (T5.setTop (mkF m 10 #[iv pi, iv pj, iv pn] []))
    refine Way.ret (v := none) X6 hlk (fun _ => rfl) (fun fs hr => X6.returnOut hx Bd.returns (hb hby dSB_10) hr) ?_ (by decide) (by decide)
    show QSB Z pi pj pn h0 n0 _ T5.heap _
    rw [e17]
    exact ⟨rfl, N16, rfl⟩
  · skip
    show Way _ _ _ _ (s₁.setTop (mkF m 0 #[iv pi, iv pj, iv pn] []))
    refine Way.by (fun _ k => XS.iloadN X0.here hx rfl (hb hby dSB_0) rfl k) ?_
    show Way _ _ _ _ (s₁.setTop (mkF m 1 #[iv pi, iv pj, iv pn] [(.int pi)]))
    refine Way.by (fun _ k => XS.iloadN X0.here hx rfl (hb hby dSB_1) rfl k) ?_
    show Way _ _ _ _ (s₁.setTop (mkF m 2 #[iv pi, iv pj, iv pn] [(.int pj), (.int pi)]))
    refine Way.by (fun _ k => XS.iloadN X0.here hx rfl (hb hby dSB_2) rfl k) ?_
    show Way _ _ _ _ (s₁.setTop (mkF m 3 #[iv pi, iv pj, iv pn] [(.int pn), (.int pj), (.int pi)]))
    obtain ⟨T23, X24, e25, st26⟩ := getS X0 hx hZ hown (host := "") (tw hw 123 rfl) Via.refl e0 (Sta.ext O0.2 SG3) (g := (mkF m 3 #[iv pi, iv pj, iv pn] [(.int pn), (.int pj), (.int pi)])) rfl (hb hby dSB_3)
    refine Way.by st26 ?_
    show Way _ _ _ _ (T23.setTop (mkF m 6 #[iv pi, iv pj, iv pn] [(.ref g3), (.int pn), (.int pj), (.int pi)]))
    obtain ⟨_, _, ⟨T27, L29, k30, n31⟩, -, X28, ⟨Lc32, hQ33, l34, y35, z36⟩, st37⟩ := Jvm.LawKit.callS X24 hx (y := (⟨"jdk/internal/util/Preconditions", "checkFromToIndex", "(IIILjava/util/function/BiFunction;)I"⟩ : MethodName)) hown (mvT hZ (tw hw 125 rfl)) (mvT hZ (tw hw 126 rfl)) (mvT hZ (tw hw 124 rfl)) (mvT hZ (tw hw 127 rfl)) (by decide) (backOf (W := 0) (rmPFr l Z a0 hw [] pi pj pn g3 h0 n0 Z0 hk) hZ (tw hw 127 rfl) (tw hw 124 rfl) (by decide) (by decide)) (g := (mkF m 6 #[iv pi, iv pj, iv pn] [(.ref g3), (.int pn), (.int pj), (.int pi)])) rfl (by rw [hml]; rfl) (argsL := [(.int pi), (.int pj), (.int pn), (.ref g3)]) (rest := []) (lenOf pdPFn rfl) rfl (leW rfl) (hb hby dSB_6) (fun _ _ => ⟨rfl, e25, (leB rfl), (leB rfl)⟩)
    dsimp only [Pt.U, Pt.locs, Pt.cells, Pt.slots] at X28 l34 y35 z36 st37 hQ33
    subst l34 y35 z36
    obtain ⟨rfl, N43, e39⟩ := hQ33
    have N38 := Fr.app N0 N43
    refine Way.by st37 ?_
    show Way _ _ _ _ (T27.setTop (mkF m 9 #[iv pi, iv pj, iv pn] [(.int pi)]))
    refine Way.by (fun _ k => XT.pop X28.here hx rfl (hb hby dSB_9) rfl rfl k) ?_
    show Way _ _ _ _ (T27.setTop (mkF m 10 #[iv pi, iv pj, iv pn] []))
    refine Way.ret (v := none) X28 hlk (fun _ => rfl) (fun fs hr => X28.returnOut hx Bd.returns (hb hby dSB_10) hr) ?_ (by decide) (by decide)
    show QSB Z pi pj pn h0 n0 _ T27.heap _
    rw [e39]
    exact ⟨rfl, N38, rfl⟩
def QUB (Z : State) (pt : Addr) (kb : ClassId) (cs : List Int32) (h0 : Heap) (n0 : Nat) (v : Option Value) (h : Heap) (L : List Loc) : Prop := v = none ∧ Fr n0 L ∧ h = h0
theorem dUB_0 : decode jdk_52_method_93_code 0 = .ok (.iload_n 0, 1) := by decide +kernel
theorem dUB_1 : decode jdk_52_method_93_code 1 = .ok (.iload_n 1, 1) := by decide +kernel
theorem dUB_2 : decode jdk_52_method_93_code 2 = .ok (.aload_n 2, 1) := by decide +kernel
theorem dUB_3 : decode jdk_52_method_93_code 3 = .ok (.invokestatic 48, 3) := by decide +kernel
theorem dUB_6 : decode jdk_52_method_93_code 6 = .ok (.invokestatic 241, 3) := by decide +kernel
theorem dUB_9 : decode jdk_52_method_93_code 9 = .ok (.return_, 1) := by decide +kernel
theorem pdUB : parseMethodDescriptor "(II[B)V" = some ⟨[.int, .int, (.array .byte)], none⟩ := by decide +kernel
set_option maxRecDepth 65536 in
set_option maxHeartbeats 40000000 in
theorem rmUB (l : Launch) (Z : State) (a0 : Array Value) (hw : ∀ d ∈ tables_1, d.before a0 Z = true) (ws : List Jvm.Cond) (pt : Addr) (kb : ClassId) (cs : List Int32) (h0 : Heap) (n0 : Nat) (Z0 : n0 ≤ h0.size) (H0 : Arv Z h0 pt kb .byte (Int32.ofNat (2 * cs.length)) (StrChars.Road.wideBytes cs) (.int 0)) (hln : cs.length ≤ 4000) (O0 : Old Z n0 h0) (SV : own_Env Z) (SU : own_U16 Z) :
    MetFree l (⟨"java/lang/StringUTF16", "checkBoundsBeginEnd", "(II[B)V"⟩ : MethodName) (head1 (Jvm.Cond.code (⟨"java/lang/StringUTF16", "checkBoundsBeginEnd", "(II[B)V"⟩ : MethodName) jdk_52_method_93_code 3 none :: ws) ({ frames := 2, cells := 0, slots := 0, locals := 29 } : Room)) (fun aa U => aa = #[(.int 0), (.int (Int32.ofNat cs.length)), (.ref pt)] ∧ Z.Warmed39 U.vm ∧ U.heap = h0) (fun _ _ _ _ _ => True) (fun _ U oo U' => ∃ v L, oo = .returned v ∧ QUB Z pt kb cs h0 n0 v U'.heap L ∧ FrameEnd U oo U' L ({ frames := 2, cells := 0, slots := 0, locals := 29 } : Room).cells ({ frames := 2, cells := 0, slots := 0, locals := 29 } : Room).slots) := by
  refine MetFree.of_bodySF (plainFor_of_name pnGC) hisR ?_
  intro p e s m args below meth c s₁ Bd hml0 hP hK
  obtain ⟨rfl, hZ, hh⟩ := hP
  have hx := Bd.exec
  have hby := Bd.bytes
  have hlk : meth.locks = false := BodyLoose.notSynchronized Bd
  have hml : c.maxLocals = 3 := hml0
  have hown : s.vm.findClass "java/lang/StringUTF16" = some m.cls := findClass_of_methodNamed Bd.named
  have hnm := (name_of_methodNamed Bd.named Bd.method).1
  have X0 : Stand p l e ({ frames := 2, cells := 0, slots := 0, locals := 29 } : Room) s m #[(.int 0), (.int (Int32.ofNat cs.length)), (.ref pt)] below meth c s₁ [] 0 0 := Stand.of_body Bd
  have e0 : s₁.heap = h0 := by rw [← hh, Bd.state]; rfl
  have N0 := Fr.nil n0
  have ef : entryFrame m #[(.int 0), (.int (Int32.ofNat cs.length)), (.ref pt)] 3 = mkF m 0 #[iv 0, iv (Int32.ofNat cs.length), rv pt] [] := by first | (simp [entryFrame, mkF, argsToLocals, Value.category, maxLocals]; done) | rfl
  show Way p.tables e below (KQ s (QUB Z pt kb cs h0 n0) ({ frames := 2, cells := 0, slots := 0, locals := 29 } : Room).cells ({ frames := 2, cells := 0, slots := 0, locals := 29 } : Room).slots) (s₁.setTop (entryFrame m #[(.int 0), (.int (Int32.ofNat cs.length)), (.ref pt)] 3))
  rw [ef]
  refine Way.by (fun _ k => XS.iloadN X0.here hx rfl (hb hby dUB_0) rfl k) ?_
  show Way _ _ _ _ (s₁.setTop (mkF m 1 #[iv 0, iv (Int32.ofNat cs.length), rv pt] [(.int 0)]))
  refine Way.by (fun _ k => XS.iloadN X0.here hx rfl (hb hby dUB_1) rfl k) ?_
  show Way _ _ _ _ (s₁.setTop (mkF m 2 #[iv 0, iv (Int32.ofNat cs.length), rv pt] [(.int (Int32.ofNat cs.length)), (.int 0)]))
  refine Way.by (fun _ k => XS.aloadN X0.here hx rfl (hb hby dUB_2) rfl rfl k) ?_
  show Way _ _ _ _ (s₁.setTop (mkF m 3 #[iv 0, iv (Int32.ofNat cs.length), rv pt] [(.ref pt), (.int (Int32.ofNat cs.length)), (.int 0)]))
  obtain ⟨_, _, ⟨T1, L3, k4, n5⟩, -, X2, ⟨Lc6, hQ7, l8, y9, z10⟩, st11⟩ := Jvm.LawKit.callS X0 hx (y := (⟨"java/lang/StringUTF16", "length", "([B)I"⟩ : MethodName)) hown (mvT hZ (tw hw 117 rfl)) (mvT hZ (tw hw 118 rfl)) (mvT hZ (tw hw 72 rfl)) (mvT hZ (tw hw 119 rfl)) (by decide) (backOf (W := 2) (rmSL l Z a0 hw [] pt kb cs h0 n0 Z0 H0 hln) hZ (tw hw 119 rfl) (tw hw 72 rfl) (by decide) (by decide)) (g := (mkF m 3 #[iv 0, iv (Int32.ofNat cs.length), rv pt] [(.ref pt), (.int (Int32.ofNat cs.length)), (.int 0)])) rfl (by rw [hml]; rfl) (argsL := [(.ref pt)]) (rest := [(.int (Int32.ofNat cs.length)), (.int 0)]) (lenOf pdSL rfl) rfl (leW rfl) (hb hby dUB_3) (fun _ _ => ⟨rfl, e0, (leB rfl), (leB rfl)⟩)
  dsimp only [Pt.U, Pt.locs, Pt.cells, Pt.slots] at X2 l8 y9 z10 st11 hQ7
  subst l8 y9 z10
  obtain ⟨rfl, N17, e13⟩ := hQ7
  have N12 := Fr.app N0 N17
  refine Way.by st11 ?_
  show Way _ _ _ _ (T1.setTop (mkF m 6 #[iv 0, iv (Int32.ofNat cs.length), rv pt] [(.int (Int32.ofNat cs.length)), (.int (Int32.ofNat cs.length)), (.int 0)]))
  obtain ⟨_, _, ⟨T19, L21, k22, n23⟩, -, X20, ⟨Lc24, hQ25, l26, y27, z28⟩, st29⟩ := Jvm.LawKit.callS X2 hx (y := (⟨"java/lang/String", "checkBoundsBeginEnd", "(III)V"⟩ : MethodName)) hown (mvT hZ (tw hw 120 rfl)) (mvT hZ (tw hw 121 rfl)) (mvT hZ (tw hw 7 rfl)) (mvT hZ (tw hw 122 rfl)) (by decide) (backOf (W := 0) (rmSB l Z a0 hw [] (0 : Int32) (Int32.ofNat cs.length) (Int32.ofNat cs.length) h0 n0 Z0 (own_bnd hln) O0 SV SU) hZ (tw hw 122 rfl) (tw hw 7 rfl) (by decide) (by decide)) (g := (mkF m 6 #[iv 0, iv (Int32.ofNat cs.length), rv pt] [(.int (Int32.ofNat cs.length)), (.int (Int32.ofNat cs.length)), (.int 0)])) rfl (by rw [hml]; rfl) (argsL := [(.int 0), (.int (Int32.ofNat cs.length)), (.int (Int32.ofNat cs.length))]) (rest := []) (lenOf pdSB rfl) rfl (leW rfl) (hb hby dUB_6) (fun _ _ => ⟨rfl, e13, (leB rfl), (leB rfl)⟩)
  dsimp only [Pt.U, Pt.locs, Pt.cells, Pt.slots] at X20 l26 y27 z28 st29 hQ25
  subst l26 y27 z28
  obtain ⟨rfl, N35, e31⟩ := hQ25
  have N30 := Fr.app N12 N35
  refine Way.by st29 ?_
  show Way _ _ _ _ (T19.setTop (mkF m 9 #[iv 0, iv (Int32.ofNat cs.length), rv pt] []))
  refine Way.ret (v := none) X20 hlk (fun _ => rfl) (fun fs hr => X20.returnOut hx Bd.returns (hb hby dUB_9) hr) ?_ (by decide) (by decide)
  show QUB Z pt kb cs h0 n0 _ T19.heap _
  rw [e31]
  exact ⟨rfl, N30, rfl⟩
def QUI (Z : State) (pt : Addr) (kb : ClassId) (cs : List Int32) (pch : Int32) (h0 : Heap) (n0 : Nat) (v : Option Value) (h : Heap) (L : List Loc) : Prop := ∃ (pr : Int32), v = some (.int pr) ∧ Fr n0 L ∧ h = h0 ∧ (pr < 0 ↔ pch ∉ cs)
theorem dUI_0 : decode jdk_52_method_47_code 0 = .ok (.iload_n 2, 1) := by decide +kernel
theorem dUI_1 : decode jdk_52_method_47_code 1 = .ok (.iload_n 3, 1) := by decide +kernel
theorem dUI_2 : decode jdk_52_method_47_code 2 = .ok (.aload_n 0, 1) := by decide +kernel
theorem dUI_3 : decode jdk_52_method_47_code 3 = .ok (.invokestatic 96, 3) := by decide +kernel
theorem dUI_6 : decode jdk_52_method_47_code 6 = .ok (.aload_n 0, 1) := by decide +kernel
theorem dUI_7 : decode jdk_52_method_47_code 7 = .ok (.iload_n 1, 1) := by decide +kernel
theorem dUI_8 : decode jdk_52_method_47_code 8 = .ok (.iload_n 2, 1) := by decide +kernel
theorem dUI_9 : decode jdk_52_method_47_code 9 = .ok (.iload_n 3, 1) := by decide +kernel
theorem dUI_10 : decode jdk_52_method_47_code 10 = .ok (.invokestatic 244, 3) := by decide +kernel
theorem dUI_13 : decode jdk_52_method_47_code 13 = .ok (.ireturn, 1) := by decide +kernel
set_option maxRecDepth 65536 in
set_option maxHeartbeats 40000000 in
theorem rmUI (l : Launch) (Z : State) (a0 : Array Value) (hw : ∀ d ∈ tables_1, d.before a0 Z = true) (ws : List Jvm.Cond) (pt : Addr) (kb : ClassId) (cs : List Int32) (pch : Int32) (h0 : Heap) (n0 : Nat) (Z0 : n0 ≤ h0.size) (H0 : Arv Z h0 pt kb .byte (Int32.ofNat (2 * cs.length)) (StrChars.Road.wideBytes cs) (.int 0)) (hln : cs.length ≤ 4000) (hB : ∀ c ∈ cs, ¬ c < 0 ∧ ¬ (65535 : Int32) < c) (O0 : Old Z n0 h0) (SV : own_Env Z) (SU : own_U16 Z) :
    MetFree l (⟨"java/lang/StringUTF16", "indexOfChar", "([BIII)I"⟩ : MethodName) (head1 (Jvm.Cond.code (⟨"java/lang/StringUTF16", "indexOfChar", "([BIII)I"⟩ : MethodName) jdk_52_method_47_code 4 (some .int) :: ws) ({ frames := 3, cells := 0, slots := 0, locals := 43 } : Room)) (fun aa U => aa = #[(.ref pt), (.int pch), (.int 0), (.int (Int32.ofNat cs.length))] ∧ Z.Warmed39 U.vm ∧ U.heap = h0) (fun _ _ _ _ _ => True) (fun _ U oo U' => ∃ v L, oo = .returned v ∧ QUI Z pt kb cs pch h0 n0 v U'.heap L ∧ FrameEnd U oo U' L ({ frames := 3, cells := 0, slots := 0, locals := 43 } : Room).cells ({ frames := 3, cells := 0, slots := 0, locals := 43 } : Room).slots) := by
  refine MetFree.of_bodySF (plainFor_of_name pnGC) hisR ?_
  intro p e s m args below meth c s₁ Bd hml0 hP hK
  obtain ⟨rfl, hZ, hh⟩ := hP
  have hx := Bd.exec
  have hby := Bd.bytes
  have hlk : meth.locks = false := BodyLoose.notSynchronized Bd
  have hml : c.maxLocals = 4 := hml0
  have hown : s.vm.findClass "java/lang/StringUTF16" = some m.cls := findClass_of_methodNamed Bd.named
  have hnm := (name_of_methodNamed Bd.named Bd.method).1
  have X0 : Stand p l e ({ frames := 3, cells := 0, slots := 0, locals := 43 } : Room) s m #[(.ref pt), (.int pch), (.int 0), (.int (Int32.ofNat cs.length))] below meth c s₁ [] 0 0 := Stand.of_body Bd
  have e0 : s₁.heap = h0 := by rw [← hh, Bd.state]; rfl
  have N0 := Fr.nil n0
  have ef : entryFrame m #[(.ref pt), (.int pch), (.int 0), (.int (Int32.ofNat cs.length))] 4 = mkF m 0 #[rv pt, iv pch, iv 0, iv (Int32.ofNat cs.length)] [] := by first | (simp [entryFrame, mkF, argsToLocals, Value.category, maxLocals]; done) | rfl
  show Way p.tables e below (KQ s (QUI Z pt kb cs pch h0 n0) ({ frames := 3, cells := 0, slots := 0, locals := 43 } : Room).cells ({ frames := 3, cells := 0, slots := 0, locals := 43 } : Room).slots) (s₁.setTop (entryFrame m #[(.ref pt), (.int pch), (.int 0), (.int (Int32.ofNat cs.length))] 4))
  rw [ef]
  refine Way.by (fun _ k => XS.iloadN X0.here hx rfl (hb hby dUI_0) rfl k) ?_
  show Way _ _ _ _ (s₁.setTop (mkF m 1 #[rv pt, iv pch, iv 0, iv (Int32.ofNat cs.length)] [(.int 0)]))
  refine Way.by (fun _ k => XS.iloadN X0.here hx rfl (hb hby dUI_1) rfl k) ?_
  show Way _ _ _ _ (s₁.setTop (mkF m 2 #[rv pt, iv pch, iv 0, iv (Int32.ofNat cs.length)] [(.int (Int32.ofNat cs.length)), (.int 0)]))
  refine Way.by (fun _ k => XS.aloadN X0.here hx rfl (hb hby dUI_2) rfl rfl k) ?_
  show Way _ _ _ _ (s₁.setTop (mkF m 3 #[rv pt, iv pch, iv 0, iv (Int32.ofNat cs.length)] [(.ref pt), (.int (Int32.ofNat cs.length)), (.int 0)]))
  obtain ⟨_, _, ⟨T1, L3, k4, n5⟩, -, X2, ⟨Lc6, hQ7, l8, y9, z10⟩, st11⟩ := Jvm.LawKit.callS X0 hx (y := (⟨"java/lang/StringUTF16", "checkBoundsBeginEnd", "(II[B)V"⟩ : MethodName)) hown (mvT hZ (tw hw 114 rfl)) (mvT hZ (tw hw 115 rfl)) (mvT hZ (tw hw 72 rfl)) (mvT hZ (tw hw 116 rfl)) (by decide) (backOf (W := 0) (rmUB l Z a0 hw [] pt kb cs h0 n0 Z0 H0 hln O0 SV SU) hZ (tw hw 116 rfl) (tw hw 72 rfl) (by decide) (by decide)) (g := (mkF m 3 #[rv pt, iv pch, iv 0, iv (Int32.ofNat cs.length)] [(.ref pt), (.int (Int32.ofNat cs.length)), (.int 0)])) rfl (by rw [hml]; rfl) (argsL := [(.int 0), (.int (Int32.ofNat cs.length)), (.ref pt)]) (rest := []) (lenOf pdUB rfl) rfl (leW rfl) (hb hby dUI_3) (fun _ _ => ⟨rfl, e0, (leB rfl), (leB rfl)⟩)
  dsimp only [Pt.U, Pt.locs, Pt.cells, Pt.slots] at X2 l8 y9 z10 st11 hQ7
  subst l8 y9 z10
  obtain ⟨rfl, N17, e13⟩ := hQ7
  have N12 := Fr.app N0 N17
  refine Way.by st11 ?_
  show Way _ _ _ _ (T1.setTop (mkF m 6 #[rv pt, iv pch, iv 0, iv (Int32.ofNat cs.length)] []))
  refine Way.by (fun _ k => XS.aloadN X2.here hx rfl (hb hby dUI_6) rfl rfl k) ?_
  show Way _ _ _ _ (T1.setTop (mkF m 7 #[rv pt, iv pch, iv 0, iv (Int32.ofNat cs.length)] [(.ref pt)]))
  refine Way.by (fun _ k => XS.iloadN X2.here hx rfl (hb hby dUI_7) rfl k) ?_
  show Way _ _ _ _ (T1.setTop (mkF m 8 #[rv pt, iv pch, iv 0, iv (Int32.ofNat cs.length)] [(.int pch), (.ref pt)]))
  refine Way.by (fun _ k => XS.iloadN X2.here hx rfl (hb hby dUI_8) rfl k) ?_
  show Way _ _ _ _ (T1.setTop (mkF m 9 #[rv pt, iv pch, iv 0, iv (Int32.ofNat cs.length)] [(.int 0), (.int pch), (.ref pt)]))
  refine Way.by (fun _ k => XS.iloadN X2.here hx rfl (hb hby dUI_9) rfl k) ?_
  show Way _ _ _ _ (T1.setTop (mkF m 10 #[rv pt, iv pch, iv 0, iv (Int32.ofNat cs.length)] [(.int (Int32.ofNat cs.length)), (.int 0), (.int pch), (.ref pt)]))
  obtain ⟨_, _, ⟨T19, L21, k22, n23⟩, -, X20, ⟨Lc24, hQ25, l26, y27, z28⟩, st29⟩ := Jvm.LawKit.callS X2 hx (y := (⟨"java/lang/StringUTF16", "indexOfCharUnsafe", "([BIII)I"⟩ : MethodName)) hown (mvT hZ (tw hw 128 rfl)) (mvT hZ (tw hw 129 rfl)) (mvT hZ (tw hw 72 rfl)) (mvT hZ (tw hw 130 rfl)) (by decide) (backOf (W := 0) (rmUC l Z a0 hw [] pt kb cs pch h0 n0 Z0 H0 hln hB O0 SV SU) hZ (tw hw 130 rfl) (tw hw 72 rfl) (by decide) (by decide)) (g := (mkF m 10 #[rv pt, iv pch, iv 0, iv (Int32.ofNat cs.length)] [(.int (Int32.ofNat cs.length)), (.int 0), (.int pch), (.ref pt)])) rfl (by rw [hml]; rfl) (argsL := [(.ref pt), (.int pch), (.int 0), (.int (Int32.ofNat cs.length))]) (rest := []) (lenOf pdLC rfl) rfl (leW rfl) (hb hby dUI_10) (fun _ _ => ⟨rfl, e13, (leB rfl), (leB rfl)⟩)
  dsimp only [Pt.U, Pt.locs, Pt.cells, Pt.slots] at X20 l26 y27 z28 st29 hQ25
  subst l26 y27 z28
  obtain ⟨x_pr38, rfl, N35, e31, pu_IX37⟩ := hQ25
  have N30 := Fr.app N12 N35
  refine Way.by st29 ?_
  show Way _ _ _ _ (T19.setTop (mkF m 13 #[rv pt, iv pch, iv 0, iv (Int32.ofNat cs.length)] [(.int x_pr38)]))
  refine Way.ret (v := (some (.int x_pr38))) X20 hlk (fun h => by rw [Bd.returns] at h; cases h) (fun fs hr => retI X20 hx Bd.returns (hb hby dUI_13) hr) ?_ (by decide) (by decide)
  show QUI Z pt kb cs pch h0 n0 _ T19.heap _
  rw [e31]
  exact ⟨x_pr38, rfl, N30, rfl, pu_IX37⟩
def QUX (Z : State) (pt : Addr) (kb : ClassId) (cs : List Int32) (pch : Int32) (h0 : Heap) (n0 : Nat) (v : Option Value) (h : Heap) (L : List Loc) : Prop := ∃ (pr : Int32), v = some (.int pr) ∧ Fr n0 L ∧ h = h0 ∧ (pr < 0 ↔ pch ∉ cs)
theorem dUX_0 : decode jdk_52_method_40_code 0 = .ok (.iload_n 2, 1) := by decide +kernel
theorem dUX_1 : decode jdk_52_method_40_code 1 = .ok (.iconst 0, 1) := by decide +kernel
theorem dUX_2 : decode jdk_52_method_40_code 2 = .ok (.invokestatic 224, 3) := by decide +kernel
theorem dUX_5 : decode jdk_52_method_40_code 5 = .ok (.istore_n 2, 1) := by decide +kernel
theorem dUX_6 : decode jdk_52_method_40_code 6 = .ok (.iload_n 3, 1) := by decide +kernel
theorem dUX_7 : decode jdk_52_method_40_code 7 = .ok (.aload_n 0, 1) := by decide +kernel
theorem dUX_8 : decode jdk_52_method_40_code 8 = .ok (.arraylength, 1) := by decide +kernel
theorem dUX_9 : decode jdk_52_method_40_code 9 = .ok (.iconst 1, 1) := by decide +kernel
theorem dUX_10 : decode jdk_52_method_40_code 10 = .ok (.ishr, 1) := by decide +kernel
theorem dUX_11 : decode jdk_52_method_40_code 11 = .ok (.invokestatic 183, 3) := by decide +kernel
theorem dUX_14 : decode jdk_52_method_40_code 14 = .ok (.istore_n 3, 1) := by decide +kernel
theorem dUX_15 : decode jdk_52_method_40_code 15 = .ok (.iload_n 2, 1) := by decide +kernel
theorem dUX_16 : decode jdk_52_method_40_code 16 = .ok (.iload_n 3, 1) := by decide +kernel
theorem dUX_17 : decode jdk_52_method_40_code 17 = .ok (.if_icmp .lt 5, 3) := by decide +kernel
theorem dUX_20 : decode jdk_52_method_40_code 20 = .ok (.iconst (-1), 1) := by decide +kernel
theorem dUX_21 : decode jdk_52_method_40_code 21 = .ok (.ireturn, 1) := by decide +kernel
theorem dUX_22 : decode jdk_52_method_40_code 22 = .ok (.iload_n 1, 1) := by decide +kernel
theorem dUX_23 : decode jdk_52_method_40_code 23 = .ok (.ldc 227, 2) := by decide +kernel
theorem dUX_25 : decode jdk_52_method_40_code 25 = .ok (.if_icmp .ge 11, 3) := by decide +kernel
theorem dUX_28 : decode jdk_52_method_40_code 28 = .ok (.aload_n 0, 1) := by decide +kernel
theorem dUX_29 : decode jdk_52_method_40_code 29 = .ok (.iload_n 1, 1) := by decide +kernel
theorem dUX_30 : decode jdk_52_method_40_code 30 = .ok (.iload_n 2, 1) := by decide +kernel
theorem dUX_31 : decode jdk_52_method_40_code 31 = .ok (.iload_n 3, 1) := by decide +kernel
theorem dUX_32 : decode jdk_52_method_40_code 32 = .ok (.invokestatic 228, 3) := by decide +kernel
theorem dUX_35 : decode jdk_52_method_40_code 35 = .ok (.ireturn, 1) := by decide +kernel
set_option maxRecDepth 65536 in
set_option maxHeartbeats 40000000 in
theorem rmUX (l : Launch) (Z : State) (a0 : Array Value) (hw : ∀ d ∈ tables_1, d.before a0 Z = true) (ws : List Jvm.Cond) (pt : Addr) (kb : ClassId) (cs : List Int32) (pch : Int32) (h0 : Heap) (n0 : Nat) (Z0 : n0 ≤ h0.size) (H0 : Arv Z h0 pt kb .byte (Int32.ofNat (2 * cs.length)) (StrChars.Road.wideBytes cs) (.int 0)) (hln : cs.length ≤ 4000) (hB : ∀ c ∈ cs, ¬ c < 0 ∧ ¬ (65535 : Int32) < c) (hch : ¬ pch < 0 ∧ ¬ (255 : Int32) < pch) (O0 : Old Z n0 h0) (SV : own_Env Z) (SU : own_U16 Z) :
    MetFree l (⟨"java/lang/StringUTF16", "indexOf", "([BIII)I"⟩ : MethodName) (head1 (Jvm.Cond.code (⟨"java/lang/StringUTF16", "indexOf", "([BIII)I"⟩ : MethodName) jdk_52_method_40_code 4 (some .int) :: ws) ({ frames := 4, cells := 0, slots := 0, locals := 58 } : Room)) (fun aa U => aa = #[(.ref pt), (.int pch), (.int 0), (.int (Int32.ofNat cs.length))] ∧ Z.Warmed39 U.vm ∧ U.heap = h0) (fun _ _ _ _ _ => True) (fun _ U oo U' => ∃ v L, oo = .returned v ∧ QUX Z pt kb cs pch h0 n0 v U'.heap L ∧ FrameEnd U oo U' L ({ frames := 4, cells := 0, slots := 0, locals := 58 } : Room).cells ({ frames := 4, cells := 0, slots := 0, locals := 58 } : Room).slots) := by
  refine MetFree.of_bodySF (plainFor_of_name pnGC) hisR ?_
  intro p e s m args below meth c s₁ Bd hml0 hP hK
  obtain ⟨rfl, hZ, hh⟩ := hP
  have hx := Bd.exec
  have hby := Bd.bytes
  have hlk : meth.locks = false := BodyLoose.notSynchronized Bd
  have hml : c.maxLocals = 4 := hml0
  have hown : s.vm.findClass "java/lang/StringUTF16" = some m.cls := findClass_of_methodNamed Bd.named
  have hnm := (name_of_methodNamed Bd.named Bd.method).1
  have X0 : Stand p l e ({ frames := 4, cells := 0, slots := 0, locals := 58 } : Room) s m #[(.ref pt), (.int pch), (.int 0), (.int (Int32.ofNat cs.length))] below meth c s₁ [] 0 0 := Stand.of_body Bd
  have e0 : s₁.heap = h0 := by rw [← hh, Bd.state]; rfl
  have N0 := Fr.nil n0
  have ef : entryFrame m #[(.ref pt), (.int pch), (.int 0), (.int (Int32.ofNat cs.length))] 4 = mkF m 0 #[rv pt, iv pch, iv 0, iv (Int32.ofNat cs.length)] [] := by first | (simp [entryFrame, mkF, argsToLocals, Value.category, maxLocals]; done) | rfl
  show Way p.tables e below (KQ s (QUX Z pt kb cs pch h0 n0) ({ frames := 4, cells := 0, slots := 0, locals := 58 } : Room).cells ({ frames := 4, cells := 0, slots := 0, locals := 58 } : Room).slots) (s₁.setTop (entryFrame m #[(.ref pt), (.int pch), (.int 0), (.int (Int32.ofNat cs.length))] 4))
  rw [ef]
  refine Way.by (fun _ k => XS.iloadN X0.here hx rfl (hb hby dUX_0) rfl k) ?_
  show Way _ _ _ _ (s₁.setTop (mkF m 1 #[rv pt, iv pch, iv 0, iv (Int32.ofNat cs.length)] [(.int 0)]))
  refine Way.by (fun _ k => XS.iconst X0.here hx rfl (hb hby dUX_1) k) ?_
  show Way _ _ _ _ (s₁.setTop (mkF m 2 #[rv pt, iv pch, iv 0, iv (Int32.ofNat cs.length)] [(.int 0), (.int 0)]))
  obtain ⟨_, _, ⟨T1, L3, k4, n5⟩, -, X2, ⟨Lc6, hQ7, l8, y9, z10⟩, st11⟩ := Jvm.LawKit.callS X0 hx (y := (⟨"java/lang/Math", "max", "(II)I"⟩ : MethodName)) hown (mvT hZ (tw hw 108 rfl)) (mvT hZ (tw hw 64 rfl)) (mvT hZ (tw hw 65 rfl)) (mvT hZ (tw hw 66 rfl)) (by decide) (backOf (W := 0) (rmMX l Z a0 hw [] (0 : Int32) (0 : Int32) (0 : Int32) h0 n0 Z0 (by decide)) hZ (tw hw 66 rfl) (tw hw 65 rfl) (by decide) (by decide)) (g := (mkF m 2 #[rv pt, iv pch, iv 0, iv (Int32.ofNat cs.length)] [(.int 0), (.int 0)])) rfl (by rw [hml]; rfl) (argsL := [(.int 0), (.int 0)]) (rest := []) (lenOf pdMX rfl) rfl (leW rfl) (hb hby dUX_2) (fun _ _ => ⟨rfl, e0, (leB rfl), (leB rfl)⟩)
  dsimp only [Pt.U, Pt.locs, Pt.cells, Pt.slots] at X2 l8 y9 z10 st11 hQ7
  subst l8 y9 z10
  obtain ⟨rfl, N17, e13⟩ := hQ7
  have N12 := Fr.app N0 N17
  refine Way.by st11 ?_
  show Way _ _ _ _ (T1.setTop (mkF m 5 #[rv pt, iv pch, iv 0, iv (Int32.ofNat cs.length)] [(.int 0)]))
  refine Way.by (fun _ k => XS.istoreN X2.here hx rfl (hb hby dUX_5) rfl (l' := #[rv pt, iv pch, iv 0, iv (Int32.ofNat cs.length)]) rfl k) ?_
  show Way _ _ _ _ (T1.setTop (mkF m 6 #[rv pt, iv pch, iv 0, iv (Int32.ofNat cs.length)] []))
  refine Way.by (fun _ k => XS.iloadN X2.here hx rfl (hb hby dUX_6) rfl k) ?_
  show Way _ _ _ _ (T1.setTop (mkF m 7 #[rv pt, iv pch, iv 0, iv (Int32.ofNat cs.length)] [(.int (Int32.ofNat cs.length))]))
  refine Way.by (fun _ k => XS.aloadN X2.here hx rfl (hb hby dUX_7) rfl rfl k) ?_
  show Way _ _ _ _ (T1.setTop (mkF m 8 #[rv pt, iv pch, iv 0, iv (Int32.ofNat cs.length)] [(.ref pt), (.int (Int32.ofNat cs.length))]))
  obtain ⟨c19, A20, q21, S22, M23, H24, U25⟩ := id H0
  refine Way.by (fun t k => Stand.arraylength X2 hx (hpE e13 A20.1) (arrS hZ A20) (g := (mkF m 8 #[rv pt, iv pch, iv 0, iv (Int32.ofNat cs.length)] [(.ref pt), (.int (Int32.ofNat cs.length))])) rfl rfl (hb hby dUX_8) t k) ?_
  rw [len_of S22 M23]
  show Way _ _ _ _ (T1.setTop (mkF m 9 #[rv pt, iv pch, iv 0, iv (Int32.ofNat cs.length)] [(.int (Int32.ofNat (2 * cs.length))), (.int (Int32.ofNat cs.length))]))
  refine Way.by (fun _ k => XS.iconst X2.here hx rfl (hb hby dUX_9) k) ?_
  show Way _ _ _ _ (T1.setTop (mkF m 10 #[rv pt, iv pch, iv 0, iv (Int32.ofNat cs.length)] [(.int 1), (.int (Int32.ofNat (2 * cs.length))), (.int (Int32.ofNat cs.length))]))
  refine Way.by (fun _ k => XT.ishr X2.here hx rfl (hb hby dUX_10) rfl k) ?_
  show Way _ _ _ _ (T1.setTop (mkF m 11 #[rv pt, iv pch, iv 0, iv (Int32.ofNat cs.length)] [(.int ((Int32.ofNat (2 * cs.length)) >>> ((1 : Int32) &&& 31))), (.int (Int32.ofNat cs.length))]))
  rw [own_shr1 hln]
  show Way _ _ _ _ (T1.setTop (mkF m 11 #[rv pt, iv pch, iv 0, iv (Int32.ofNat cs.length)] [(.int (Int32.ofNat cs.length)), (.int (Int32.ofNat cs.length))]))
  obtain ⟨_, _, ⟨T26, L28, k29, n30⟩, -, X27, ⟨Lc31, hQ32, l33, y34, z35⟩, st36⟩ := Jvm.LawKit.callS X2 hx (y := (⟨"java/lang/Math", "min", "(II)I"⟩ : MethodName)) hown (mvT hZ (tw hw 109 rfl)) (mvT hZ (tw hw 68 rfl)) (mvT hZ (tw hw 65 rfl)) (mvT hZ (tw hw 69 rfl)) (by decide) (backOf (W := 0) (rmMN l Z a0 hw [] (Int32.ofNat cs.length) (Int32.ofNat cs.length) (Int32.ofNat cs.length) h0 n0 Z0 (by simp)) hZ (tw hw 69 rfl) (tw hw 65 rfl) (by decide) (by decide)) (g := (mkF m 11 #[rv pt, iv pch, iv 0, iv (Int32.ofNat cs.length)] [(.int (Int32.ofNat cs.length)), (.int (Int32.ofNat cs.length))])) rfl (by rw [hml]; rfl) (argsL := [(.int (Int32.ofNat cs.length)), (.int (Int32.ofNat cs.length))]) (rest := []) (lenOf pdMX rfl) rfl (leW rfl) (hb hby dUX_11) (fun _ _ => ⟨rfl, e13, (leB rfl), (leB rfl)⟩)
  dsimp only [Pt.U, Pt.locs, Pt.cells, Pt.slots] at X27 l33 y34 z35 st36 hQ32
  subst l33 y34 z35
  obtain ⟨rfl, N42, e38⟩ := hQ32
  have N37 := Fr.app N12 N42
  refine Way.by st36 ?_
  show Way _ _ _ _ (T26.setTop (mkF m 14 #[rv pt, iv pch, iv 0, iv (Int32.ofNat cs.length)] [(.int (Int32.ofNat cs.length))]))
  refine Way.by (fun _ k => XS.istoreN X27.here hx rfl (hb hby dUX_14) rfl (l' := #[rv pt, iv pch, iv 0, iv (Int32.ofNat cs.length)]) rfl k) ?_
  show Way _ _ _ _ (T26.setTop (mkF m 15 #[rv pt, iv pch, iv 0, iv (Int32.ofNat cs.length)] []))
  refine Way.by (fun _ k => XS.iloadN X27.here hx rfl (hb hby dUX_15) rfl k) ?_
  show Way _ _ _ _ (T26.setTop (mkF m 16 #[rv pt, iv pch, iv 0, iv (Int32.ofNat cs.length)] [(.int 0)]))
  refine Way.by (fun _ k => XS.iloadN X27.here hx rfl (hb hby dUX_16) rfl k) ?_
  show Way _ _ _ _ (T26.setTop (mkF m 17 #[rv pt, iv pch, iv 0, iv (Int32.ofNat cs.length)] [(.int (Int32.ofNat cs.length)), (.int 0)]))
  by_cases hq0 : (0 : Int32) < (Int32.ofNat cs.length)
  · skip
    refine Way.by (fun _ k => XS.icmpYes X27.here hx rfl (pc0 := 17) (pc' := 22) rfl (hb hby dUX_17) rfl (tlt hq0).1 (by decide) (by decide) k) ?_
    show Way _ _ _ _ (T26.setTop (mkF m 22 #[rv pt, iv pch, iv 0, iv (Int32.ofNat cs.length)] []))
    refine Way.by (fun _ k => XS.iloadN X27.here hx rfl (hb hby dUX_22) rfl k) ?_
    show Way _ _ _ _ (T26.setTop (mkF m 23 #[rv pt, iv pch, iv 0, iv (Int32.ofNat cs.length)] [(.int pch)]))
    refine Way.by (Stand.ldcInt X27 hx hown (mvT hZ (tw hw 110 rfl)) rfl (hb hby dUX_23)) ?_
    show Way _ _ _ _ (T26.setTop (mkF m 25 #[rv pt, iv pch, iv 0, iv (Int32.ofNat cs.length)] [(.int 65536), (.int pch)]))
    have b44 : pch < (65536 : Int32) := own_lt16 hch
    refine Way.by (fun _ k => XS.icmpNo X27.here hx rfl (hb hby dUX_25) rfl (tlt b44).2.1 k) ?_
    show Way _ _ _ _ (T26.setTop (mkF m 28 #[rv pt, iv pch, iv 0, iv (Int32.ofNat cs.length)] []))
    refine Way.by (fun _ k => XS.aloadN X27.here hx rfl (hb hby dUX_28) rfl rfl k) ?_
    show Way _ _ _ _ (T26.setTop (mkF m 29 #[rv pt, iv pch, iv 0, iv (Int32.ofNat cs.length)] [(.ref pt)]))
    refine Way.by (fun _ k => XS.iloadN X27.here hx rfl (hb hby dUX_29) rfl k) ?_
    show Way _ _ _ _ (T26.setTop (mkF m 30 #[rv pt, iv pch, iv 0, iv (Int32.ofNat cs.length)] [(.int pch), (.ref pt)]))
    refine Way.by (fun _ k => XS.iloadN X27.here hx rfl (hb hby dUX_30) rfl k) ?_
    show Way _ _ _ _ (T26.setTop (mkF m 31 #[rv pt, iv pch, iv 0, iv (Int32.ofNat cs.length)] [(.int 0), (.int pch), (.ref pt)]))
    refine Way.by (fun _ k => XS.iloadN X27.here hx rfl (hb hby dUX_31) rfl k) ?_
    show Way _ _ _ _ (T26.setTop (mkF m 32 #[rv pt, iv pch, iv 0, iv (Int32.ofNat cs.length)] [(.int (Int32.ofNat cs.length)), (.int 0), (.int pch), (.ref pt)]))
    obtain ⟨_, _, ⟨T45, L47, k48, n49⟩, -, X46, ⟨Lc50, hQ51, l52, y53, z54⟩, st55⟩ := Jvm.LawKit.callS X27 hx (y := (⟨"java/lang/StringUTF16", "indexOfChar", "([BIII)I"⟩ : MethodName)) hown (mvT hZ (tw hw 111 rfl)) (mvT hZ (tw hw 112 rfl)) (mvT hZ (tw hw 72 rfl)) (mvT hZ (tw hw 113 rfl)) (by decide) (backOf (W := 0) (rmUI l Z a0 hw [] pt kb cs pch h0 n0 Z0 H0 hln hB O0 SV SU) hZ (tw hw 113 rfl) (tw hw 72 rfl) (by decide) (by decide)) (g := (mkF m 32 #[rv pt, iv pch, iv 0, iv (Int32.ofNat cs.length)] [(.int (Int32.ofNat cs.length)), (.int 0), (.int pch), (.ref pt)])) rfl (by rw [hml]; rfl) (argsL := [(.ref pt), (.int pch), (.int 0), (.int (Int32.ofNat cs.length))]) (rest := []) (lenOf pdLC rfl) rfl (leW rfl) (hb hby dUX_32) (fun _ _ => ⟨rfl, e38, (leB rfl), (leB rfl)⟩)
    dsimp only [Pt.U, Pt.locs, Pt.cells, Pt.slots] at X46 l52 y53 z54 st55 hQ51
    subst l52 y53 z54
    obtain ⟨x_pr64, rfl, N61, e57, pu_IX63⟩ := hQ51
    have N56 := Fr.app N37 N61
    refine Way.by st55 ?_
    show Way _ _ _ _ (T45.setTop (mkF m 35 #[rv pt, iv pch, iv 0, iv (Int32.ofNat cs.length)] [(.int x_pr64)]))
    refine Way.ret (v := (some (.int x_pr64))) X46 hlk (fun h => by rw [Bd.returns] at h; cases h) (fun fs hr => retI X46 hx Bd.returns (hb hby dUX_35) hr) ?_ (by decide) (by decide)
    show QUX Z pt kb cs pch h0 n0 _ T45.heap _
    rw [e57]
    exact ⟨x_pr64, rfl, N56, rfl, pu_IX63⟩
  · skip
    refine Way.by (fun _ k => XS.icmpNo X27.here hx rfl (hb hby dUX_17) rfl (flt hq0).1 k) ?_
    show Way _ _ _ _ (T26.setTop (mkF m 20 #[rv pt, iv pch, iv 0, iv (Int32.ofNat cs.length)] []))
    refine Way.by (fun _ k => XS.iconst X27.here hx rfl (hb hby dUX_20) k) ?_
    show Way _ _ _ _ (T26.setTop (mkF m 21 #[rv pt, iv pch, iv 0, iv (Int32.ofNat cs.length)] [(.int (-1 : Int32))]))
    refine Way.ret (v := (some (.int (-1 : Int32)))) X27 hlk (fun h => by rw [Bd.returns] at h; cases h) (fun fs hr => retI X27 hx Bd.returns (hb hby dUX_21) hr) ?_ (by decide) (by decide)
    show QUX Z pt kb cs pch h0 n0 _ T26.heap _
    rw [e38]
    exact ⟨(-1 : Int32), rfl, N37, rfl, ⟨fun _ => own_nil hq0 hln, fun _ => by decide⟩⟩
def QIL (Z : State) (pa : Addr) (h0 : Heap) (n0 : Nat) (v : Option Value) (h : Heap) (L : List Loc) : Prop := v = some (.int 1) ∧ Fr n0 L ∧ h = h0
theorem dIL_0 : decode jdk_42_method_154_code 0 = .ok (.getstatic 38, 3) := by decide +kernel
theorem dIL_3 : decode jdk_42_method_154_code 3 = .ok (.ifCond .eq 14, 3) := by decide +kernel
theorem dIL_6 : decode jdk_42_method_154_code 6 = .ok (.aload_n 0, 1) := by decide +kernel
theorem dIL_7 : decode jdk_42_method_154_code 7 = .ok (.getfield 15, 3) := by decide +kernel
theorem dIL_10 : decode jdk_42_method_154_code 10 = .ok (.ifCond .ne 7, 3) := by decide +kernel
theorem dIL_13 : decode jdk_42_method_154_code 13 = .ok (.iconst 1, 1) := by decide +kernel
theorem dIL_14 : decode jdk_42_method_154_code 14 = .ok (.goto 4, 3) := by decide +kernel
theorem dIL_18 : decode jdk_42_method_154_code 18 = .ok (.ireturn, 1) := by decide +kernel
theorem pdIL : parseMethodDescriptor "()Z" = some ⟨[], some .boolean⟩ := by decide +kernel
set_option maxRecDepth 65536 in
set_option maxHeartbeats 40000000 in
theorem rmIL (l : Launch) (Z : State) (a0 : Array Value) (hw : ∀ d ∈ tables_1, d.before a0 Z = true) (ws : List Jvm.Cond) (pa : Addr) (h0 : Heap) (n0 : Nat) (Z0 : n0 ≤ h0.size) (H0 : Fld Z h0 pa "java/lang/String" "coder" "B" (.int 0)) (O0 : Old Z n0 h0) (SV : own_Env Z) :
    MetFree l (⟨"java/lang/String", "isLatin1", "()Z"⟩ : MethodName) (head1 (Jvm.Cond.code (⟨"java/lang/String", "isLatin1", "()Z"⟩ : MethodName) jdk_42_method_154_code 1 (some .boolean) :: ws) ({ frames := 0, cells := 0, slots := 0, locals := 0 } : Room)) (fun aa U => aa = #[(.ref pa)] ∧ Z.Warmed39 U.vm ∧ U.heap = h0) (fun _ _ _ _ _ => True) (fun _ U oo U' => ∃ v L, oo = .returned v ∧ QIL Z pa h0 n0 v U'.heap L ∧ FrameEnd U oo U' L ({ frames := 0, cells := 0, slots := 0, locals := 0 } : Room).cells ({ frames := 0, cells := 0, slots := 0, locals := 0 } : Room).slots) := by
  refine MetFree.of_bodySF (plainFor_of_name pnSB) hisR ?_
  intro p e s m args below meth c s₁ Bd hml0 hP hK
  obtain ⟨rfl, hZ, hh⟩ := hP
  have hx := Bd.exec
  have hby := Bd.bytes
  have hlk : meth.locks = false := BodyLoose.notSynchronized Bd
  have hml : c.maxLocals = 1 := hml0
  have hown : s.vm.findClass "java/lang/String" = some m.cls := findClass_of_methodNamed Bd.named
  have hnm := (name_of_methodNamed Bd.named Bd.method).1
  have X0 : Stand p l e ({ frames := 0, cells := 0, slots := 0, locals := 0 } : Room) s m #[(.ref pa)] below meth c s₁ [] 0 0 := Stand.of_body Bd
  have e0 : s₁.heap = h0 := by rw [← hh, Bd.state]; rfl
  have N0 := Fr.nil n0
  have ef : entryFrame m #[(.ref pa)] 1 = mkF m 0 #[rv pa] [] := by first | (simp [entryFrame, mkF, argsToLocals, Value.category, maxLocals]; done) | rfl
  show Way p.tables e below (KQ s (QIL Z pa h0 n0) ({ frames := 0, cells := 0, slots := 0, locals := 0 } : Room).cells ({ frames := 0, cells := 0, slots := 0, locals := 0 } : Room).slots) (s₁.setTop (entryFrame m #[(.ref pa)] 1))
  rw [ef]
  obtain ⟨⟨G1, SG1, hG1⟩, G3, SG3, rG3⟩ := id SV
  obtain ⟨T1, X2, e3, st4⟩ := getS X0 hx hZ hown (host := "") (tw hw 45 rfl) Via.refl e0 (Sta.ext O0.2 SG1) (g := (mkF m 0 #[rv pa] [])) rfl (hb hby dIL_0)
  refine Way.by st4 ?_
  show Way _ _ _ _ (T1.setTop (mkF m 3 #[rv pa] [(.int G1)]))
  have b5 : ¬ G1 = (0 : Int32) := hG1
  refine Way.by (fun _ k => XS.ifNo X2.here hx rfl (hb hby dIL_3) rfl ((if0 .eq _).trans (feq b5).1) k) ?_
  show Way _ _ _ _ (T1.setTop (mkF m 6 #[rv pa] []))
  refine Way.by (fun _ k => XS.aloadN X2.here hx rfl (hb hby dIL_6) rfl rfl k) ?_
  show Way _ _ _ _ (T1.setTop (mkF m 7 #[rv pa] [(.ref pa)]))
  obtain ⟨T6, X7, e8, st9⟩ := getF X2 hx hZ hown (host := "") (Or.inl (tw hw 25 rfl)) Via.refl e3 H0 (g := (mkF m 7 #[rv pa] [(.ref pa)])) rfl rfl (hb hby dIL_7)
  refine Way.by st9 ?_
  show Way _ _ _ _ (T6.setTop (mkF m 10 #[rv pa] [(.int 0)]))
  have b10 : (0 : Int32) = (0 : Int32) := by decide
  refine Way.by (fun _ k => XS.ifNo X7.here hx rfl (hb hby dIL_10) rfl ((if0 .ne _).trans (teq b10).2) k) ?_
  show Way _ _ _ _ (T6.setTop (mkF m 13 #[rv pa] []))
  refine Way.by (fun _ k => XS.iconst X7.here hx rfl (hb hby dIL_13) k) ?_
  show Way _ _ _ _ (T6.setTop (mkF m 14 #[rv pa] [(.int 1)]))
  refine Way.by (fun _ k => XS.goto X7.here hx rfl (pc0 := 14) (pc' := 18) rfl (hb hby dIL_14) (by decide) (by decide) k) ?_
  show Way _ _ _ _ (T6.setTop (mkF m 18 #[rv pa] [(.int 1)]))
  refine Way.ret (v := (some (.int (nar .boolean (1 : Int32))))) X7 hlk (fun h => by rw [Bd.returns] at h; cases h) (fun fs hr => retN X7 hx (t := .boolean) Bd.returns (by simp) (hb hby dIL_18) hr) ?_ (by decide) (by decide)
  show QIL Z pa h0 n0 _ T6.heap _
  rw [e8]
  exact ⟨rfl, N0, rfl⟩
def QIM (Z : State) (pa : Addr) (h0 : Heap) (n0 : Nat) (v : Option Value) (h : Heap) (L : List Loc) : Prop := v = some (.int 0) ∧ Fr n0 L ∧ h = h0
theorem dIM_17 : decode jdk_42_method_154_code 17 = .ok (.iconst 0, 1) := by decide +kernel
set_option maxRecDepth 65536 in
set_option maxHeartbeats 40000000 in
theorem rmIM (l : Launch) (Z : State) (a0 : Array Value) (hw : ∀ d ∈ tables_1, d.before a0 Z = true) (ws : List Jvm.Cond) (pa : Addr) (h0 : Heap) (n0 : Nat) (Z0 : n0 ≤ h0.size) (H0 : Fld Z h0 pa "java/lang/String" "coder" "B" (.int 1)) (O0 : Old Z n0 h0) (SV : own_Env Z) :
    MetFree l (⟨"java/lang/String", "isLatin1", "()Z"⟩ : MethodName) (head1 (Jvm.Cond.code (⟨"java/lang/String", "isLatin1", "()Z"⟩ : MethodName) jdk_42_method_154_code 1 (some .boolean) :: ws) ({ frames := 0, cells := 0, slots := 0, locals := 0 } : Room)) (fun aa U => aa = #[(.ref pa)] ∧ Z.Warmed39 U.vm ∧ U.heap = h0) (fun _ _ _ _ _ => True) (fun _ U oo U' => ∃ v L, oo = .returned v ∧ QIM Z pa h0 n0 v U'.heap L ∧ FrameEnd U oo U' L ({ frames := 0, cells := 0, slots := 0, locals := 0 } : Room).cells ({ frames := 0, cells := 0, slots := 0, locals := 0 } : Room).slots) := by
  refine MetFree.of_bodySF (plainFor_of_name pnSB) hisR ?_
  intro p e s m args below meth c s₁ Bd hml0 hP hK
  obtain ⟨rfl, hZ, hh⟩ := hP
  have hx := Bd.exec
  have hby := Bd.bytes
  have hlk : meth.locks = false := BodyLoose.notSynchronized Bd
  have hml : c.maxLocals = 1 := hml0
  have hown : s.vm.findClass "java/lang/String" = some m.cls := findClass_of_methodNamed Bd.named
  have hnm := (name_of_methodNamed Bd.named Bd.method).1
  have X0 : Stand p l e ({ frames := 0, cells := 0, slots := 0, locals := 0 } : Room) s m #[(.ref pa)] below meth c s₁ [] 0 0 := Stand.of_body Bd
  have e0 : s₁.heap = h0 := by rw [← hh, Bd.state]; rfl
  have N0 := Fr.nil n0
  have ef : entryFrame m #[(.ref pa)] 1 = mkF m 0 #[rv pa] [] := by first | (simp [entryFrame, mkF, argsToLocals, Value.category, maxLocals]; done) | rfl
  show Way p.tables e below (KQ s (QIM Z pa h0 n0) ({ frames := 0, cells := 0, slots := 0, locals := 0 } : Room).cells ({ frames := 0, cells := 0, slots := 0, locals := 0 } : Room).slots) (s₁.setTop (entryFrame m #[(.ref pa)] 1))
  rw [ef]
  obtain ⟨⟨G1, SG1, hG1⟩, G3, SG3, rG3⟩ := id SV
  obtain ⟨T1, X2, e3, st4⟩ := getS X0 hx hZ hown (host := "") (tw hw 45 rfl) Via.refl e0 (Sta.ext O0.2 SG1) (g := (mkF m 0 #[rv pa] [])) rfl (hb hby dIL_0)
  refine Way.by st4 ?_
  show Way _ _ _ _ (T1.setTop (mkF m 3 #[rv pa] [(.int G1)]))
  have b5 : ¬ G1 = (0 : Int32) := hG1
  refine Way.by (fun _ k => XS.ifNo X2.here hx rfl (hb hby dIL_3) rfl ((if0 .eq _).trans (feq b5).1) k) ?_
  show Way _ _ _ _ (T1.setTop (mkF m 6 #[rv pa] []))
  refine Way.by (fun _ k => XS.aloadN X2.here hx rfl (hb hby dIL_6) rfl rfl k) ?_
  show Way _ _ _ _ (T1.setTop (mkF m 7 #[rv pa] [(.ref pa)]))
  obtain ⟨T6, X7, e8, st9⟩ := getF X2 hx hZ hown (host := "") (Or.inl (tw hw 25 rfl)) Via.refl e3 H0 (g := (mkF m 7 #[rv pa] [(.ref pa)])) rfl rfl (hb hby dIL_7)
  refine Way.by st9 ?_
  show Way _ _ _ _ (T6.setTop (mkF m 10 #[rv pa] [(.int 1)]))
  have b10 : ¬ (1 : Int32) = (0 : Int32) := by decide
  refine Way.by (fun _ k => XS.ifYes X7.here hx rfl (pc0 := 10) (pc' := 17) rfl (hb hby dIL_10) rfl ((if0 .ne _).trans (feq b10).2) (by decide) (by decide) k) ?_
  show Way _ _ _ _ (T6.setTop (mkF m 17 #[rv pa] []))
  refine Way.by (fun _ k => XS.iconst X7.here hx rfl (hb hby dIM_17) k) ?_
  show Way _ _ _ _ (T6.setTop (mkF m 18 #[rv pa] [(.int 0)]))
  refine Way.ret (v := (some (.int (nar .boolean (0 : Int32))))) X7 hlk (fun h => by rw [Bd.returns] at h; cases h) (fun fs hr => retN X7 hx (t := .boolean) Bd.returns (by simp) (hb hby dIL_18) hr) ?_ (by decide) (by decide)
  show QIM Z pa h0 n0 _ T6.heap _
  rw [e8]
  exact ⟨rfl, N0, rfl⟩
def QX2 (Z : State) (px : Addr) (pt : Addr) (cs : List Int32) (pch : Int32) (h0 : Heap) (n0 : Nat) (v : Option Value) (h : Heap) (L : List Loc) : Prop := ∃ (pr : Int32), v = some (.int pr) ∧ Fr n0 L ∧ h = h0 ∧ (pr < 0 ↔ pch ∉ cs)
theorem dX2_0 : decode jdk_42_method_80_code 0 = .ok (.aload_n 0, 1) := by decide +kernel
theorem dX2_1 : decode jdk_42_method_80_code 1 = .ok (.invokevirtual 492, 3) := by decide +kernel
theorem dX2_4 : decode jdk_42_method_80_code 4 = .ok (.ifCond .eq 19, 3) := by decide +kernel
theorem dX2_7 : decode jdk_42_method_80_code 7 = .ok (.aload_n 0, 1) := by decide +kernel
theorem dX2_8 : decode jdk_42_method_80_code 8 = .ok (.getfield 9, 3) := by decide +kernel
theorem dX2_11 : decode jdk_42_method_80_code 11 = .ok (.iload_n 1, 1) := by decide +kernel
theorem dX2_12 : decode jdk_42_method_80_code 12 = .ok (.iload_n 2, 1) := by decide +kernel
theorem dX2_13 : decode jdk_42_method_80_code 13 = .ok (.aload_n 0, 1) := by decide +kernel
theorem dX2_14 : decode jdk_42_method_80_code 14 = .ok (.invokevirtual 505, 3) := by decide +kernel
theorem dX2_17 : decode jdk_42_method_80_code 17 = .ok (.invokestatic 637, 3) := by decide +kernel
theorem dX2_20 : decode jdk_42_method_80_code 20 = .ok (.goto 16, 3) := by decide +kernel
theorem dX2_23 : decode jdk_42_method_80_code 23 = .ok (.aload_n 0, 1) := by decide +kernel
theorem dX2_24 : decode jdk_42_method_80_code 24 = .ok (.getfield 9, 3) := by decide +kernel
theorem dX2_27 : decode jdk_42_method_80_code 27 = .ok (.iload_n 1, 1) := by decide +kernel
theorem dX2_28 : decode jdk_42_method_80_code 28 = .ok (.iload_n 2, 1) := by decide +kernel
theorem dX2_29 : decode jdk_42_method_80_code 29 = .ok (.aload_n 0, 1) := by decide +kernel
theorem dX2_30 : decode jdk_42_method_80_code 30 = .ok (.invokevirtual 505, 3) := by decide +kernel
theorem dX2_33 : decode jdk_42_method_80_code 33 = .ok (.invokestatic 640, 3) := by decide +kernel
theorem dX2_36 : decode jdk_42_method_80_code 36 = .ok (.ireturn, 1) := by decide +kernel
set_option maxRecDepth 65536 in
set_option maxHeartbeats 40000000 in
theorem rmX2 (l : Launch) (Z : State) (a0 : Array Value) (hw : ∀ d ∈ tables_1, d.before a0 Z = true) (ws : List Jvm.Cond) (px : Addr) (pt : Addr) (cs : List Int32) (pch : Int32) (h0 : Heap) (n0 : Nat) (Z0 : n0 ≤ h0.size) (HT : own_Txt Z h0 px pt cs) (hch : ¬ pch < 0 ∧ ¬ (255 : Int32) < pch) (O0 : Old Z n0 h0) (SV : own_Env Z) (SU : own_U16 Z) :
    MetFree l (⟨"java/lang/String", "indexOf", "(II)I"⟩ : MethodName) (head1 (Jvm.Cond.code (⟨"java/lang/String", "indexOf", "(II)I"⟩ : MethodName) jdk_42_method_80_code 3 (some .int) :: ws) ({ frames := 5, cells := 0, slots := 0, locals := 73 } : Room)) (fun aa U => aa = #[(.ref px), (.int pch), (.int 0)] ∧ Z.Warmed39 U.vm ∧ U.heap = h0) (fun _ _ _ _ _ => True) (fun _ U oo U' => ∃ v L, oo = .returned v ∧ QX2 Z px pt cs pch h0 n0 v U'.heap L ∧ FrameEnd U oo U' L ({ frames := 5, cells := 0, slots := 0, locals := 73 } : Room).cells ({ frames := 5, cells := 0, slots := 0, locals := 73 } : Room).slots) := by
  refine MetFree.of_bodySF (plainFor_of_name pnSB) hisR ?_
  intro p e s m args below meth c s₁ Bd hml0 hP hK
  obtain ⟨rfl, hZ, hh⟩ := hP
  have hx := Bd.exec
  have hby := Bd.bytes
  have hlk : meth.locks = false := BodyLoose.notSynchronized Bd
  have hml : c.maxLocals = 3 := hml0
  have hown : s.vm.findClass "java/lang/String" = some m.cls := findClass_of_methodNamed Bd.named
  have hnm := (name_of_methodNamed Bd.named Bd.method).1
  have X0 : Stand p l e ({ frames := 5, cells := 0, slots := 0, locals := 73 } : Room) s m #[(.ref px), (.int pch), (.int 0)] below meth c s₁ [] 0 0 := Stand.of_body Bd
  have e0 : s₁.heap = h0 := by rw [← hh, Bd.state]; rfl
  have N0 := Fr.nil n0
  have ef : entryFrame m #[(.ref px), (.int pch), (.int 0)] 3 = mkF m 0 #[rv px, iv pch, iv 0] [] := by first | (simp [entryFrame, mkF, argsToLocals, Value.category, maxLocals]; done) | rfl
  show Way p.tables e below (KQ s (QX2 Z px pt cs pch h0 n0) ({ frames := 5, cells := 0, slots := 0, locals := 73 } : Room).cells ({ frames := 5, cells := 0, slots := 0, locals := 73 } : Room).slots) (s₁.setTop (entryFrame m #[(.ref px), (.int pch), (.int 0)] 3))
  rw [ef]
  obtain ⟨hE, hV, ⟨cd, hC, kb, N2, vs, hA, hcod⟩, hB, hLn⟩ := id HT
  rcases hcod with ⟨rfl, rfl, rfl, h255⟩ | ⟨rfl, rfl, rfl, -⟩
  · skip
    show Way _ _ _ _ (s₁.setTop (mkF m 0 #[rv px, iv pch, iv 0] []))
    refine Way.by (fun _ k => XS.aloadN X0.here hx rfl (hb hby dX2_0) rfl rfl k) ?_
    show Way _ _ _ _ (s₁.setTop (mkF m 1 #[rv px, iv pch, iv 0] [(.ref px)]))
    obtain ⟨cq17, kq18, qa19, qb20, qc21⟩ := isOf hZ e0 hE
    obtain ⟨_, _, ⟨T1, L3, k4, n5⟩, -, X2, ⟨Lc6, hQ7, l8, y9, z10⟩, st11⟩ := X0.virtualBack hx (y := (⟨"java/lang/String", "isLatin1", "()Z"⟩ : MethodName)) (z := (⟨"java/lang/String", "isLatin1", "()Z"⟩ : MethodName)) hown (mvT hZ (tw hw 40 rfl)) (mvT hZ (tw hw 41 rfl)) (notFace_of_selects (args := #[]) (mvT hZ (tw hw 43 rfl))) (mvT hZ (tw hw 43 rfl)) (mvT hZ (tw hw 42 rfl)) (by decide) (backOf (W := 0) (rmIL l Z a0 hw [] px h0 n0 Z0 hC O0 SV) hZ (tw hw 44 rfl) (tw hw 7 rfl) (by decide) (by decide)) qa19 qc21 (g := (mkF m 1 #[rv px, iv pch, iv 0] [(.ref px)])) rfl (by rw [hml]; rfl) (Steps.refl _) (argsL := []) (rest := []) (lenOf pdIL rfl) rfl (leW rfl) (hb hby dX2_1) (fun _ _ => ⟨rfl, e0, (leB rfl), (leB rfl)⟩)
    dsimp only [Pt.U, Pt.locs, Pt.cells, Pt.slots] at X2 l8 y9 z10 st11 hQ7
    subst l8 y9 z10
    obtain ⟨rfl, N22, e13⟩ := hQ7
    have N12 := Fr.app N0 N22
    refine Way.to st11 ?_
    show Way _ _ _ _ (T1.setTop (mkF m 4 #[rv px, iv pch, iv 0] [(.int 1)]))
    have b24 : ¬ (1 : Int32) = (0 : Int32) := by decide
    refine Way.by (fun _ k => XS.ifNo X2.here hx rfl (hb hby dX2_4) rfl ((if0 .eq _).trans (feq b24).1) k) ?_
    show Way _ _ _ _ (T1.setTop (mkF m 7 #[rv px, iv pch, iv 0] []))
    refine Way.by (fun _ k => XS.aloadN X2.here hx rfl (hb hby dX2_7) rfl rfl k) ?_
    show Way _ _ _ _ (T1.setTop (mkF m 8 #[rv px, iv pch, iv 0] [(.ref px)]))
    obtain ⟨T25, X26, e27, st28⟩ := getF X2 hx hZ hown (host := "") (Or.inl (tw hw 24 rfl)) Via.refl e13 hV (g := (mkF m 8 #[rv px, iv pch, iv 0] [(.ref px)])) rfl rfl (hb hby dX2_8)
    refine Way.by st28 ?_
    show Way _ _ _ _ (T25.setTop (mkF m 11 #[rv px, iv pch, iv 0] [(.ref pt)]))
    refine Way.by (fun _ k => XS.iloadN X26.here hx rfl (hb hby dX2_11) rfl k) ?_
    show Way _ _ _ _ (T25.setTop (mkF m 12 #[rv px, iv pch, iv 0] [(.int pch), (.ref pt)]))
    refine Way.by (fun _ k => XS.iloadN X26.here hx rfl (hb hby dX2_12) rfl k) ?_
    show Way _ _ _ _ (T25.setTop (mkF m 13 #[rv px, iv pch, iv 0] [(.int 0), (.int pch), (.ref pt)]))
    refine Way.by (fun _ k => XS.aloadN X26.here hx rfl (hb hby dX2_13) rfl rfl k) ?_
    show Way _ _ _ _ (T25.setTop (mkF m 14 #[rv px, iv pch, iv 0] [(.ref px), (.int 0), (.int pch), (.ref pt)]))
    obtain ⟨cq45, kq46, qa47, qb48, qc49⟩ := isOf hZ e27 HT.1
    obtain ⟨_, _, ⟨T29, L31, k32, n33⟩, -, X30, ⟨Lc34, hQ35, l36, y37, z38⟩, st39⟩ := X26.virtualBack hx (y := (⟨"java/lang/String", "length", "()I"⟩ : MethodName)) (z := (⟨"java/lang/String", "length", "()I"⟩ : MethodName)) hown (mvT hZ (tw hw 46 rfl)) (mvT hZ (tw hw 47 rfl)) (notFace_of_selects (args := #[]) (mvT hZ (tw hw 49 rfl))) (mvT hZ (tw hw 49 rfl)) (mvT hZ (tw hw 48 rfl)) (by decide) (own_len2 (W := 3) (n0 := n0) hZ hw SV O0 (cs := cs) HT (by decide) (by decide)) qa47 qc49 (g := (mkF m 14 #[rv px, iv pch, iv 0] [(.ref px), (.int 0), (.int pch), (.ref pt)])) rfl (by rw [hml]; rfl) (Steps.refl _) (argsL := []) (rest := [(.int 0), (.int pch), (.ref pt)]) (lenOf own_pdLen rfl) rfl (leW rfl) (hb hby dX2_14) (fun _ _ => ⟨rfl, e27, (leB rfl), (leB rfl)⟩)
    dsimp only [Pt.U, Pt.locs, Pt.cells, Pt.slots] at X30 l36 y37 z38 st39 hQ35
    subst l36 y37 z38
    obtain ⟨rfl, N50, e41⟩ := hQ35
    have N40 := Fr.app N12 N50
    refine Way.to st39 ?_
    show Way _ _ _ _ (T29.setTop (mkF m 17 #[rv px, iv pch, iv 0] [(.int (Int32.ofNat cs.length)), (.int 0), (.int pch), (.ref pt)]))
    obtain ⟨_, _, ⟨T52, L54, k55, n56⟩, -, X53, ⟨Lc57, hQ58, l59, y60, z61⟩, st62⟩ := Jvm.LawKit.callS X30 hx (y := (⟨"java/lang/StringLatin1", "indexOf", "([BIII)I"⟩ : MethodName)) hown (mvT hZ (tw hw 56 rfl)) (mvT hZ (tw hw 57 rfl)) (mvT hZ (tw hw 58 rfl)) (mvT hZ (tw hw 59 rfl)) (by decide) (backOf (W := 0) (rmLI l Z a0 hw [] pt kb cs pch h0 n0 Z0 hA hLn (fun c hc => ⟨(hB c hc).1, h255 c hc⟩) hch) hZ (tw hw 59 rfl) (tw hw 58 rfl) (by decide) (by decide)) (g := (mkF m 17 #[rv px, iv pch, iv 0] [(.int (Int32.ofNat cs.length)), (.int 0), (.int pch), (.ref pt)])) rfl (by rw [hml]; rfl) (argsL := [(.ref pt), (.int pch), (.int 0), (.int (Int32.ofNat cs.length))]) (rest := []) (lenOf pdLC rfl) rfl (leW rfl) (hb hby dX2_17) (fun _ _ => ⟨rfl, e41, (leB rfl), (leB rfl)⟩)
    dsimp only [Pt.U, Pt.locs, Pt.cells, Pt.slots] at X53 l59 y60 z61 st62 hQ58
    subst l59 y60 z61
    obtain ⟨x_pr71, rfl, N68, e64, pu_IX70⟩ := hQ58
    have N63 := Fr.app N40 N68
    refine Way.by st62 ?_
    show Way _ _ _ _ (T52.setTop (mkF m 20 #[rv px, iv pch, iv 0] [(.int x_pr71)]))
    refine Way.by (fun _ k => XS.goto X53.here hx rfl (pc0 := 20) (pc' := 36) rfl (hb hby dX2_20) (by decide) (by decide) k) ?_
    show Way _ _ _ _ (T52.setTop (mkF m 36 #[rv px, iv pch, iv 0] [(.int x_pr71)]))
    refine Way.ret (v := (some (.int x_pr71))) X53 hlk (fun h => by rw [Bd.returns] at h; cases h) (fun fs hr => retI X53 hx Bd.returns (hb hby dX2_36) hr) ?_ (by decide) (by decide)
    show QX2 Z px pt cs pch h0 n0 _ T52.heap _
    rw [e64]
    exact ⟨x_pr71, rfl, N63, rfl, pu_IX70⟩
  · skip
    show Way _ _ _ _ (s₁.setTop (mkF m 0 #[rv px, iv pch, iv 0] []))
    refine Way.by (fun _ k => XS.aloadN X0.here hx rfl (hb hby dX2_0) rfl rfl k) ?_
    show Way _ _ _ _ (s₁.setTop (mkF m 1 #[rv px, iv pch, iv 0] [(.ref px)]))
    obtain ⟨cq88, kq89, qa90, qb91, qc92⟩ := isOf hZ e0 hE
    obtain ⟨_, _, ⟨T72, L74, k75, n76⟩, -, X73, ⟨Lc77, hQ78, l79, y80, z81⟩, st82⟩ := X0.virtualBack hx (y := (⟨"java/lang/String", "isLatin1", "()Z"⟩ : MethodName)) (z := (⟨"java/lang/String", "isLatin1", "()Z"⟩ : MethodName)) hown (mvT hZ (tw hw 40 rfl)) (mvT hZ (tw hw 41 rfl)) (notFace_of_selects (args := #[]) (mvT hZ (tw hw 43 rfl))) (mvT hZ (tw hw 43 rfl)) (mvT hZ (tw hw 42 rfl)) (by decide) (backOf (W := 0) (rmIM l Z a0 hw [] px h0 n0 Z0 hC O0 SV) hZ (tw hw 44 rfl) (tw hw 7 rfl) (by decide) (by decide)) qa90 qc92 (g := (mkF m 1 #[rv px, iv pch, iv 0] [(.ref px)])) rfl (by rw [hml]; rfl) (Steps.refl _) (argsL := []) (rest := []) (lenOf pdIL rfl) rfl (leW rfl) (hb hby dX2_1) (fun _ _ => ⟨rfl, e0, (leB rfl), (leB rfl)⟩)
    dsimp only [Pt.U, Pt.locs, Pt.cells, Pt.slots] at X73 l79 y80 z81 st82 hQ78
    subst l79 y80 z81
    obtain ⟨rfl, N93, e84⟩ := hQ78
    have N83 := Fr.app N0 N93
    refine Way.to st82 ?_
    show Way _ _ _ _ (T72.setTop (mkF m 4 #[rv px, iv pch, iv 0] [(.int 0)]))
    have b95 : (0 : Int32) = (0 : Int32) := by decide
    refine Way.by (fun _ k => XS.ifYes X73.here hx rfl (pc0 := 4) (pc' := 23) rfl (hb hby dX2_4) rfl ((if0 .eq _).trans (teq b95).1) (by decide) (by decide) k) ?_
    show Way _ _ _ _ (T72.setTop (mkF m 23 #[rv px, iv pch, iv 0] []))
    refine Way.by (fun _ k => XS.aloadN X73.here hx rfl (hb hby dX2_23) rfl rfl k) ?_
    show Way _ _ _ _ (T72.setTop (mkF m 24 #[rv px, iv pch, iv 0] [(.ref px)]))
    obtain ⟨T96, X97, e98, st99⟩ := getF X73 hx hZ hown (host := "") (Or.inl (tw hw 24 rfl)) Via.refl e84 hV (g := (mkF m 24 #[rv px, iv pch, iv 0] [(.ref px)])) rfl rfl (hb hby dX2_24)
    refine Way.by st99 ?_
    show Way _ _ _ _ (T96.setTop (mkF m 27 #[rv px, iv pch, iv 0] [(.ref pt)]))
    refine Way.by (fun _ k => XS.iloadN X97.here hx rfl (hb hby dX2_27) rfl k) ?_
    show Way _ _ _ _ (T96.setTop (mkF m 28 #[rv px, iv pch, iv 0] [(.int pch), (.ref pt)]))
    refine Way.by (fun _ k => XS.iloadN X97.here hx rfl (hb hby dX2_28) rfl k) ?_
    show Way _ _ _ _ (T96.setTop (mkF m 29 #[rv px, iv pch, iv 0] [(.int 0), (.int pch), (.ref pt)]))
    refine Way.by (fun _ k => XS.aloadN X97.here hx rfl (hb hby dX2_29) rfl rfl k) ?_
    show Way _ _ _ _ (T96.setTop (mkF m 30 #[rv px, iv pch, iv 0] [(.ref px), (.int 0), (.int pch), (.ref pt)]))
    obtain ⟨cq116, kq117, qa118, qb119, qc120⟩ := isOf hZ e98 HT.1
    obtain ⟨_, _, ⟨T100, L102, k103, n104⟩, -, X101, ⟨Lc105, hQ106, l107, y108, z109⟩, st110⟩ := X97.virtualBack hx (y := (⟨"java/lang/String", "length", "()I"⟩ : MethodName)) (z := (⟨"java/lang/String", "length", "()I"⟩ : MethodName)) hown (mvT hZ (tw hw 46 rfl)) (mvT hZ (tw hw 47 rfl)) (notFace_of_selects (args := #[]) (mvT hZ (tw hw 49 rfl))) (mvT hZ (tw hw 49 rfl)) (mvT hZ (tw hw 48 rfl)) (by decide) (own_len2 (W := 3) (n0 := n0) hZ hw SV O0 (cs := cs) HT (by decide) (by decide)) qa118 qc120 (g := (mkF m 30 #[rv px, iv pch, iv 0] [(.ref px), (.int 0), (.int pch), (.ref pt)])) rfl (by rw [hml]; rfl) (Steps.refl _) (argsL := []) (rest := [(.int 0), (.int pch), (.ref pt)]) (lenOf own_pdLen rfl) rfl (leW rfl) (hb hby dX2_30) (fun _ _ => ⟨rfl, e98, (leB rfl), (leB rfl)⟩)
    dsimp only [Pt.U, Pt.locs, Pt.cells, Pt.slots] at X101 l107 y108 z109 st110 hQ106
    subst l107 y108 z109
    obtain ⟨rfl, N121, e112⟩ := hQ106
    have N111 := Fr.app N83 N121
    refine Way.to st110 ?_
    show Way _ _ _ _ (T100.setTop (mkF m 33 #[rv px, iv pch, iv 0] [(.int (Int32.ofNat cs.length)), (.int 0), (.int pch), (.ref pt)]))
    obtain ⟨_, _, ⟨T123, L125, k126, n127⟩, -, X124, ⟨Lc128, hQ129, l130, y131, z132⟩, st133⟩ := Jvm.LawKit.callS X101 hx (y := (⟨"java/lang/StringUTF16", "indexOf", "([BIII)I"⟩ : MethodName)) hown (mvT hZ (tw hw 105 rfl)) (mvT hZ (tw hw 106 rfl)) (mvT hZ (tw hw 72 rfl)) (mvT hZ (tw hw 107 rfl)) (by decide) (backOf (W := 0) (rmUX l Z a0 hw [] pt kb cs pch h0 n0 Z0 hA hLn hB hch O0 SV SU) hZ (tw hw 107 rfl) (tw hw 72 rfl) (by decide) (by decide)) (g := (mkF m 33 #[rv px, iv pch, iv 0] [(.int (Int32.ofNat cs.length)), (.int 0), (.int pch), (.ref pt)])) rfl (by rw [hml]; rfl) (argsL := [(.ref pt), (.int pch), (.int 0), (.int (Int32.ofNat cs.length))]) (rest := []) (lenOf pdLC rfl) rfl (leW rfl) (hb hby dX2_33) (fun _ _ => ⟨rfl, e112, (leB rfl), (leB rfl)⟩)
    dsimp only [Pt.U, Pt.locs, Pt.cells, Pt.slots] at X124 l130 y131 z132 st133 hQ129
    subst l130 y131 z132
    obtain ⟨x_pr142, rfl, N139, e135, pu_IX141⟩ := hQ129
    have N134 := Fr.app N111 N139
    refine Way.by st133 ?_
    show Way _ _ _ _ (T123.setTop (mkF m 36 #[rv px, iv pch, iv 0] [(.int x_pr142)]))
    refine Way.ret (v := (some (.int x_pr142))) X124 hlk (fun h => by rw [Bd.returns] at h; cases h) (fun fs hr => retI X124 hx Bd.returns (hb hby dX2_36) hr) ?_ (by decide) (by decide)
    show QX2 Z px pt cs pch h0 n0 _ T123.heap _
    rw [e135]
    exact ⟨x_pr142, rfl, N134, rfl, pu_IX141⟩
def QX1 (Z : State) (px : Addr) (pt : Addr) (cs : List Int32) (pch : Int32) (h0 : Heap) (n0 : Nat) (v : Option Value) (h : Heap) (L : List Loc) : Prop := ∃ (pr : Int32), v = some (.int pr) ∧ Fr n0 L ∧ h = h0 ∧ (pr < 0 ↔ pch ∉ cs)
theorem dX1_0 : decode jdk_42_method_79_code 0 = .ok (.aload_n 0, 1) := by decide +kernel
theorem dX1_1 : decode jdk_42_method_79_code 1 = .ok (.iload_n 1, 1) := by decide +kernel
theorem dX1_2 : decode jdk_42_method_79_code 2 = .ok (.iconst 0, 1) := by decide +kernel
theorem dX1_3 : decode jdk_42_method_79_code 3 = .ok (.invokevirtual 633, 3) := by decide +kernel
theorem dX1_6 : decode jdk_42_method_79_code 6 = .ok (.ireturn, 1) := by decide +kernel
theorem pdX1 : parseMethodDescriptor "(I)I" = some ⟨[.int], some .int⟩ := by decide +kernel
set_option maxRecDepth 65536 in
set_option maxHeartbeats 40000000 in
theorem rmX1 (l : Launch) (Z : State) (a0 : Array Value) (hw : ∀ d ∈ tables_1, d.before a0 Z = true) (ws : List Jvm.Cond) (px : Addr) (pt : Addr) (cs : List Int32) (pch : Int32) (h0 : Heap) (n0 : Nat) (Z0 : n0 ≤ h0.size) (HT : own_Txt Z h0 px pt cs) (hch : ¬ pch < 0 ∧ ¬ (255 : Int32) < pch) (O0 : Old Z n0 h0) (SV : own_Env Z) (SU : own_U16 Z) :
    MetFree l (⟨"java/lang/String", "indexOf", "(I)I"⟩ : MethodName) (head1 (Jvm.Cond.code (⟨"java/lang/String", "indexOf", "(I)I"⟩ : MethodName) jdk_42_method_79_code 2 (some .int) :: ws) ({ frames := 6, cells := 0, slots := 0, locals := 87 } : Room)) (fun aa U => aa = #[(.ref px), (.int pch)] ∧ Z.Warmed39 U.vm ∧ U.heap = h0) (fun _ _ _ _ _ => True) (fun _ U oo U' => ∃ v L, oo = .returned v ∧ QX1 Z px pt cs pch h0 n0 v U'.heap L ∧ FrameEnd U oo U' L ({ frames := 6, cells := 0, slots := 0, locals := 87 } : Room).cells ({ frames := 6, cells := 0, slots := 0, locals := 87 } : Room).slots) := by
  refine MetFree.of_bodySF (plainFor_of_name pnSB) hisR ?_
  intro p e s m args below meth c s₁ Bd hml0 hP hK
  obtain ⟨rfl, hZ, hh⟩ := hP
  have hx := Bd.exec
  have hby := Bd.bytes
  have hlk : meth.locks = false := BodyLoose.notSynchronized Bd
  have hml : c.maxLocals = 2 := hml0
  have hown : s.vm.findClass "java/lang/String" = some m.cls := findClass_of_methodNamed Bd.named
  have hnm := (name_of_methodNamed Bd.named Bd.method).1
  have X0 : Stand p l e ({ frames := 6, cells := 0, slots := 0, locals := 87 } : Room) s m #[(.ref px), (.int pch)] below meth c s₁ [] 0 0 := Stand.of_body Bd
  have e0 : s₁.heap = h0 := by rw [← hh, Bd.state]; rfl
  have N0 := Fr.nil n0
  have ef : entryFrame m #[(.ref px), (.int pch)] 2 = mkF m 0 #[rv px, iv pch] [] := by first | (simp [entryFrame, mkF, argsToLocals, Value.category, maxLocals]; done) | rfl
  show Way p.tables e below (KQ s (QX1 Z px pt cs pch h0 n0) ({ frames := 6, cells := 0, slots := 0, locals := 87 } : Room).cells ({ frames := 6, cells := 0, slots := 0, locals := 87 } : Room).slots) (s₁.setTop (entryFrame m #[(.ref px), (.int pch)] 2))
  rw [ef]
  refine Way.by (fun _ k => XS.aloadN X0.here hx rfl (hb hby dX1_0) rfl rfl k) ?_
  show Way _ _ _ _ (s₁.setTop (mkF m 1 #[rv px, iv pch] [(.ref px)]))
  refine Way.by (fun _ k => XS.iloadN X0.here hx rfl (hb hby dX1_1) rfl k) ?_
  show Way _ _ _ _ (s₁.setTop (mkF m 2 #[rv px, iv pch] [(.int pch), (.ref px)]))
  refine Way.by (fun _ k => XS.iconst X0.here hx rfl (hb hby dX1_2) k) ?_
  show Way _ _ _ _ (s₁.setTop (mkF m 3 #[rv px, iv pch] [(.int 0), (.int pch), (.ref px)]))
  obtain ⟨cq17, kq18, qa19, qb20, qc21⟩ := isOf hZ e0 HT.1
  obtain ⟨_, _, ⟨T1, L3, k4, n5⟩, -, X2, ⟨Lc6, hQ7, l8, y9, z10⟩, st11⟩ := X0.virtualBack hx (y := (⟨"java/lang/String", "indexOf", "(II)I"⟩ : MethodName)) (z := (⟨"java/lang/String", "indexOf", "(II)I"⟩ : MethodName)) hown (mvT hZ (tw hw 35 rfl)) (mvT hZ (tw hw 36 rfl)) (notFace_of_selects (args := #[]) (mvT hZ (tw hw 38 rfl))) (mvT hZ (tw hw 38 rfl)) (mvT hZ (tw hw 37 rfl)) (by decide) (backOf (W := 0) (rmX2 l Z a0 hw [] px pt cs pch h0 n0 Z0 HT hch O0 SV SU) hZ (tw hw 39 rfl) (tw hw 7 rfl) (by decide) (by decide)) qa19 qc21 (g := (mkF m 3 #[rv px, iv pch] [(.int 0), (.int pch), (.ref px)])) rfl (by rw [hml]; rfl) (Steps.refl _) (argsL := [(.int pch), (.int 0)]) (rest := []) (lenOf pdMX rfl) rfl (leW rfl) (hb hby dX1_3) (fun _ _ => ⟨rfl, e0, (leB rfl), (leB rfl)⟩)
  dsimp only [Pt.U, Pt.locs, Pt.cells, Pt.slots] at X2 l8 y9 z10 st11 hQ7
  subst l8 y9 z10
  obtain ⟨x_pr25, rfl, N22, e13, pu_IX24⟩ := hQ7
  have N12 := Fr.app N0 N22
  refine Way.to st11 ?_
  show Way _ _ _ _ (T1.setTop (mkF m 6 #[rv px, iv pch] [(.int x_pr25)]))
  refine Way.ret (v := (some (.int x_pr25))) X2 hlk (fun h => by rw [Bd.returns] at h; cases h) (fun fs hr => retI X2 hx Bd.returns (hb hby dX1_6) hr) ?_ (by decide) (by decide)
  show QX1 Z px pt cs pch h0 n0 _ T1.heap _
  rw [e13]
  exact ⟨x_pr25, rfl, N12, rfl, pu_IX24⟩
def QCN (Z : State) (px : Addr) (pt : Addr) (cs : List Int32) (h0 : Heap) (n0 : Nat) (v : Option Value) (h : Heap) (L : List Loc) : Prop := v = some (.int (own_hold cs)) ∧ Fr n0 L ∧ h = h0
theorem dCN_0 : decode prog_3_method_3_code 0 = .ok (.aload_n 0, 1) := by decide +kernel
theorem dCN_1 : decode prog_3_method_3_code 1 = .ok (.bipush 9, 2) := by decide +kernel
theorem dCN_3 : decode prog_3_method_3_code 3 = .ok (.invokevirtual 60, 3) := by decide +kernel
theorem dCN_6 : decode prog_3_method_3_code 6 = .ok (.ifCond .ge 25, 3) := by decide +kernel
theorem dCN_9 : decode prog_3_method_3_code 9 = .ok (.aload_n 0, 1) := by decide +kernel
theorem dCN_10 : decode prog_3_method_3_code 10 = .ok (.bipush 10, 2) := by decide +kernel
theorem dCN_12 : decode prog_3_method_3_code 12 = .ok (.invokevirtual 60, 3) := by decide +kernel
theorem dCN_15 : decode prog_3_method_3_code 15 = .ok (.ifCond .ge 16, 3) := by decide +kernel
theorem dCN_18 : decode prog_3_method_3_code 18 = .ok (.aload_n 0, 1) := by decide +kernel
theorem dCN_19 : decode prog_3_method_3_code 19 = .ok (.bipush 13, 2) := by decide +kernel
theorem dCN_21 : decode prog_3_method_3_code 21 = .ok (.invokevirtual 60, 3) := by decide +kernel
theorem dCN_24 : decode prog_3_method_3_code 24 = .ok (.ifCond .ge 7, 3) := by decide +kernel
theorem dCN_27 : decode prog_3_method_3_code 27 = .ok (.iconst 1, 1) := by decide +kernel
theorem dCN_28 : decode prog_3_method_3_code 28 = .ok (.goto 4, 3) := by decide +kernel
theorem dCN_31 : decode prog_3_method_3_code 31 = .ok (.iconst 0, 1) := by decide +kernel
theorem dCN_32 : decode prog_3_method_3_code 32 = .ok (.ireturn, 1) := by decide +kernel
theorem pnCN : plainName "raciocinio/cli/RecordWriter" = true := by first | (simp [plainName, overriddenIn]; done) | decide +kernel
theorem pdCN : parseMethodDescriptor "(Ljava/lang/String;)Z" = some ⟨[(.object "java/lang/String")], some .boolean⟩ := by decide +kernel
set_option maxRecDepth 65536 in
set_option maxHeartbeats 40000000 in
theorem rmCN (l : Launch) (Z : State) (a0 : Array Value) (hw : ∀ d ∈ tables_1, d.before a0 Z = true) (ws : List Jvm.Cond) (px : Addr) (pt : Addr) (cs : List Int32) (h0 : Heap) (n0 : Nat) (Z0 : n0 ≤ h0.size) (HT : own_Txt Z h0 px pt cs) (O0 : Old Z n0 h0) (SV : own_Env Z) (SU : own_U16 Z) :
    MetFree l (⟨"raciocinio/cli/RecordWriter", "canHold", "(Ljava/lang/String;)Z"⟩ : MethodName) (head1 (Jvm.Cond.code (⟨"raciocinio/cli/RecordWriter", "canHold", "(Ljava/lang/String;)Z"⟩ : MethodName) prog_3_method_3_code 1 (some .boolean) :: ws) ({ frames := 7, cells := 0, slots := 0, locals := 100 } : Room)) (fun aa U => aa = #[(.ref px)] ∧ Z.Warmed39 U.vm ∧ U.heap = h0) (fun _ _ _ _ _ => True) (fun _ U oo U' => ∃ v L, oo = .returned v ∧ QCN Z px pt cs h0 n0 v U'.heap L ∧ FrameEnd U oo U' L ({ frames := 7, cells := 0, slots := 0, locals := 100 } : Room).cells ({ frames := 7, cells := 0, slots := 0, locals := 100 } : Room).slots) := by
  refine MetFree.of_bodySF (plainFor_of_name pnCN) hisR ?_
  intro p e s m args below meth c s₁ Bd hml0 hP hK
  obtain ⟨rfl, hZ, hh⟩ := hP
  have hx := Bd.exec
  have hby := Bd.bytes
  have hlk : meth.locks = false := BodyLoose.notSynchronized Bd
  have hml : c.maxLocals = 1 := hml0
  have hown : s.vm.findClass "raciocinio/cli/RecordWriter" = some m.cls := findClass_of_methodNamed Bd.named
  have hnm := (name_of_methodNamed Bd.named Bd.method).1
  have X0 : Stand p l e ({ frames := 7, cells := 0, slots := 0, locals := 100 } : Room) s m #[(.ref px)] below meth c s₁ [] 0 0 := Stand.of_body Bd
  have e0 : s₁.heap = h0 := by rw [← hh, Bd.state]; rfl
  have N0 := Fr.nil n0
  have ef : entryFrame m #[(.ref px)] 1 = mkF m 0 #[rv px] [] := by first | (simp [entryFrame, mkF, argsToLocals, Value.category, maxLocals]; done) | rfl
  show Way p.tables e below (KQ s (QCN Z px pt cs h0 n0) ({ frames := 7, cells := 0, slots := 0, locals := 100 } : Room).cells ({ frames := 7, cells := 0, slots := 0, locals := 100 } : Room).slots) (s₁.setTop (entryFrame m #[(.ref px)] 1))
  rw [ef]
  refine Way.by (fun _ k => XS.aloadN X0.here hx rfl (hb hby dCN_0) rfl rfl k) ?_
  show Way _ _ _ _ (s₁.setTop (mkF m 1 #[rv px] [(.ref px)]))
  refine Way.by (fun _ k => XS.bipush X0.here hx rfl (hb hby dCN_1) k) ?_
  show Way _ _ _ _ (s₁.setTop (mkF m 3 #[rv px] [(.int 9), (.ref px)]))
  obtain ⟨cq17, kq18, qa19, qb20, qc21⟩ := isOf hZ e0 HT.1
  obtain ⟨_, _, ⟨T1, L3, k4, n5⟩, -, X2, ⟨Lc6, hQ7, l8, y9, z10⟩, st11⟩ := X0.virtualBack hx (y := (⟨"java/lang/String", "indexOf", "(I)I"⟩ : MethodName)) (z := (⟨"java/lang/String", "indexOf", "(I)I"⟩ : MethodName)) hown (mvT hZ (tw hw 30 rfl)) (mvT hZ (tw hw 31 rfl)) (notFace_of_selects (args := #[]) (mvT hZ (tw hw 33 rfl))) (mvT hZ (tw hw 33 rfl)) (mvT hZ (tw hw 32 rfl)) (by decide) (backOf (W := 0) (rmX1 l Z a0 hw [] px pt cs (9 : Int32) h0 n0 Z0 HT (by decide) O0 SV SU) hZ (tw hw 34 rfl) (tw hw 7 rfl) (by decide) (by decide)) qa19 qc21 (g := (mkF m 3 #[rv px] [(.int 9), (.ref px)])) rfl (by rw [hml]; rfl) (Steps.refl _) (argsL := [(.int 9)]) (rest := []) (lenOf pdX1 rfl) rfl (leW rfl) (hb hby dCN_3) (fun _ _ => ⟨rfl, e0, (leB rfl), (leB rfl)⟩)
  dsimp only [Pt.U, Pt.locs, Pt.cells, Pt.slots] at X2 l8 y9 z10 st11 hQ7
  subst l8 y9 z10
  obtain ⟨x_pr25, rfl, N22, e13, pu_IX24⟩ := hQ7
  have N12 := Fr.app N0 N22
  refine Way.to st11 ?_
  show Way _ _ _ _ (T1.setTop (mkF m 6 #[rv px] [(.int x_pr25)]))
  by_cases hq6 : x_pr25 < (0 : Int32)
  · skip
    refine Way.by (fun _ k => XS.ifNo X2.here hx rfl (hb hby dCN_6) rfl ((if0 .ge _).trans (tlt hq6).2.1) k) ?_
    show Way _ _ _ _ (T1.setTop (mkF m 9 #[rv px] []))
    refine Way.by (fun _ k => XS.aloadN X2.here hx rfl (hb hby dCN_9) rfl rfl k) ?_
    show Way _ _ _ _ (T1.setTop (mkF m 10 #[rv px] [(.ref px)]))
    refine Way.by (fun _ k => XS.bipush X2.here hx rfl (hb hby dCN_10) k) ?_
    show Way _ _ _ _ (T1.setTop (mkF m 12 #[rv px] [(.int 10), (.ref px)]))
    obtain ⟨cq42, kq43, qa44, qb45, qc46⟩ := isOf hZ e13 HT.1
    obtain ⟨_, _, ⟨T26, L28, k29, n30⟩, -, X27, ⟨Lc31, hQ32, l33, y34, z35⟩, st36⟩ := X2.virtualBack hx (y := (⟨"java/lang/String", "indexOf", "(I)I"⟩ : MethodName)) (z := (⟨"java/lang/String", "indexOf", "(I)I"⟩ : MethodName)) hown (mvT hZ (tw hw 30 rfl)) (mvT hZ (tw hw 31 rfl)) (notFace_of_selects (args := #[]) (mvT hZ (tw hw 33 rfl))) (mvT hZ (tw hw 33 rfl)) (mvT hZ (tw hw 32 rfl)) (by decide) (backOf (W := 0) (rmX1 l Z a0 hw [] px pt cs (10 : Int32) h0 n0 Z0 HT (by decide) O0 SV SU) hZ (tw hw 34 rfl) (tw hw 7 rfl) (by decide) (by decide)) qa44 qc46 (g := (mkF m 12 #[rv px] [(.int 10), (.ref px)])) rfl (by rw [hml]; rfl) (Steps.refl _) (argsL := [(.int 10)]) (rest := []) (lenOf pdX1 rfl) rfl (leW rfl) (hb hby dCN_12) (fun _ _ => ⟨rfl, e13, (leB rfl), (leB rfl)⟩)
    dsimp only [Pt.U, Pt.locs, Pt.cells, Pt.slots] at X27 l33 y34 z35 st36 hQ32
    subst l33 y34 z35
    obtain ⟨x_pr50, rfl, N47, e38, pu_IX49⟩ := hQ32
    have N37 := Fr.app N12 N47
    refine Way.to st36 ?_
    show Way _ _ _ _ (T26.setTop (mkF m 15 #[rv px] [(.int x_pr50)]))
    by_cases hq15 : x_pr50 < (0 : Int32)
    · skip
      refine Way.by (fun _ k => XS.ifNo X27.here hx rfl (hb hby dCN_15) rfl ((if0 .ge _).trans (tlt hq15).2.1) k) ?_
      show Way _ _ _ _ (T26.setTop (mkF m 18 #[rv px] []))
      refine Way.by (fun _ k => XS.aloadN X27.here hx rfl (hb hby dCN_18) rfl rfl k) ?_
      show Way _ _ _ _ (T26.setTop (mkF m 19 #[rv px] [(.ref px)]))
      refine Way.by (fun _ k => XS.bipush X27.here hx rfl (hb hby dCN_19) k) ?_
      show Way _ _ _ _ (T26.setTop (mkF m 21 #[rv px] [(.int 13), (.ref px)]))
      obtain ⟨cq67, kq68, qa69, qb70, qc71⟩ := isOf hZ e38 HT.1
      obtain ⟨_, _, ⟨T51, L53, k54, n55⟩, -, X52, ⟨Lc56, hQ57, l58, y59, z60⟩, st61⟩ := X27.virtualBack hx (y := (⟨"java/lang/String", "indexOf", "(I)I"⟩ : MethodName)) (z := (⟨"java/lang/String", "indexOf", "(I)I"⟩ : MethodName)) hown (mvT hZ (tw hw 30 rfl)) (mvT hZ (tw hw 31 rfl)) (notFace_of_selects (args := #[]) (mvT hZ (tw hw 33 rfl))) (mvT hZ (tw hw 33 rfl)) (mvT hZ (tw hw 32 rfl)) (by decide) (backOf (W := 0) (rmX1 l Z a0 hw [] px pt cs (13 : Int32) h0 n0 Z0 HT (by decide) O0 SV SU) hZ (tw hw 34 rfl) (tw hw 7 rfl) (by decide) (by decide)) qa69 qc71 (g := (mkF m 21 #[rv px] [(.int 13), (.ref px)])) rfl (by rw [hml]; rfl) (Steps.refl _) (argsL := [(.int 13)]) (rest := []) (lenOf pdX1 rfl) rfl (leW rfl) (hb hby dCN_21) (fun _ _ => ⟨rfl, e38, (leB rfl), (leB rfl)⟩)
      dsimp only [Pt.U, Pt.locs, Pt.cells, Pt.slots] at X52 l58 y59 z60 st61 hQ57
      subst l58 y59 z60
      obtain ⟨x_pr75, rfl, N72, e63, pu_IX74⟩ := hQ57
      have N62 := Fr.app N37 N72
      refine Way.to st61 ?_
      show Way _ _ _ _ (T51.setTop (mkF m 24 #[rv px] [(.int x_pr75)]))
      by_cases hq24 : x_pr75 < (0 : Int32)
      · skip
        refine Way.by (fun _ k => XS.ifNo X52.here hx rfl (hb hby dCN_24) rfl ((if0 .ge _).trans (tlt hq24).2.1) k) ?_
        show Way _ _ _ _ (T51.setTop (mkF m 27 #[rv px] []))
        refine Way.by (fun _ k => XS.iconst X52.here hx rfl (hb hby dCN_27) k) ?_
        show Way _ _ _ _ (T51.setTop (mkF m 28 #[rv px] [(.int 1)]))
        refine Way.by (fun _ k => XS.goto X52.here hx rfl (pc0 := 28) (pc' := 32) rfl (hb hby dCN_28) (by decide) (by decide) k) ?_
        show Way _ _ _ _ (T51.setTop (mkF m 32 #[rv px] [(.int 1)]))
        refine Way.ret (v := (some (.int (nar .boolean (1 : Int32))))) X52 hlk (fun h => by rw [Bd.returns] at h; cases h) (fun fs hr => retN X52 hx (t := .boolean) Bd.returns (by simp) (hb hby dCN_32) hr) ?_ (by decide) (by decide)
        show QCN Z px pt cs h0 n0 _ T51.heap _
        rw [e63]
        exact ⟨by rw [own_hold1 (pu_IX24.mp hq6) (pu_IX49.mp hq15) (pu_IX74.mp hq24)]; rfl, N62, rfl⟩
      · skip
        refine Way.by (fun _ k => XS.ifYes X52.here hx rfl (pc0 := 24) (pc' := 31) rfl (hb hby dCN_24) rfl ((if0 .ge _).trans (flt hq24).2.1) (by decide) (by decide) k) ?_
        show Way _ _ _ _ (T51.setTop (mkF m 31 #[rv px] []))
        refine Way.by (fun _ k => XS.iconst X52.here hx rfl (hb hby dCN_31) k) ?_
        show Way _ _ _ _ (T51.setTop (mkF m 32 #[rv px] [(.int 0)]))
        refine Way.ret (v := (some (.int (nar .boolean (0 : Int32))))) X52 hlk (fun h => by rw [Bd.returns] at h; cases h) (fun fs hr => retN X52 hx (t := .boolean) Bd.returns (by simp) (hb hby dCN_32) hr) ?_ (by decide) (by decide)
        show QCN Z px pt cs h0 n0 _ T51.heap _
        rw [e63]
        exact ⟨by rw [own_hold0 (Or.inr (Or.inr (Classical.not_not.mp (fun q => hq24 (pu_IX74.mpr q)))))]; rfl, N62, rfl⟩
    · skip
      refine Way.by (fun _ k => XS.ifYes X27.here hx rfl (pc0 := 15) (pc' := 31) rfl (hb hby dCN_15) rfl ((if0 .ge _).trans (flt hq15).2.1) (by decide) (by decide) k) ?_
      show Way _ _ _ _ (T26.setTop (mkF m 31 #[rv px] []))
      refine Way.by (fun _ k => XS.iconst X27.here hx rfl (hb hby dCN_31) k) ?_
      show Way _ _ _ _ (T26.setTop (mkF m 32 #[rv px] [(.int 0)]))
      refine Way.ret (v := (some (.int (nar .boolean (0 : Int32))))) X27 hlk (fun h => by rw [Bd.returns] at h; cases h) (fun fs hr => retN X27 hx (t := .boolean) Bd.returns (by simp) (hb hby dCN_32) hr) ?_ (by decide) (by decide)
      show QCN Z px pt cs h0 n0 _ T26.heap _
      rw [e38]
      exact ⟨by rw [own_hold0 (Or.inr (Or.inl (Classical.not_not.mp (fun q => hq15 (pu_IX49.mpr q)))))]; rfl, N37, rfl⟩
  · skip
    refine Way.by (fun _ k => XS.ifYes X2.here hx rfl (pc0 := 6) (pc' := 31) rfl (hb hby dCN_6) rfl ((if0 .ge _).trans (flt hq6).2.1) (by decide) (by decide) k) ?_
    show Way _ _ _ _ (T1.setTop (mkF m 31 #[rv px] []))
    refine Way.by (fun _ k => XS.iconst X2.here hx rfl (hb hby dCN_31) k) ?_
    show Way _ _ _ _ (T1.setTop (mkF m 32 #[rv px] [(.int 0)]))
    refine Way.ret (v := (some (.int (nar .boolean (0 : Int32))))) X2 hlk (fun h => by rw [Bd.returns] at h; cases h) (fun fs hr => retN X2 hx (t := .boolean) Bd.returns (by simp) (hb hby dCN_32) hr) ?_ (by decide) (by decide)
    show QCN Z px pt cs h0 n0 _ T1.heap _
    rw [e13]
    exact ⟨by rw [own_hold0 (Or.inl (Classical.not_not.mp (fun q => hq6 (pu_IX24.mpr q))))]; rfl, N12, rfl⟩
def QN4 (Z : State) (pa : Addr) (pb : Addr) (kb : ClassId) (h0 : Heap) (n0 : Nat) (v : Option Value) (h : Heap) (L : List Loc) : Prop := ∃ (pt : Addr), v = none ∧ Fr n0 L ∧ Keep h0 h [pa] ∧ own_Str Z h pa pt []
theorem dN4_0 : decode jdk_42_method_149_code 0 = .ok (.aload_n 0, 1) := by decide +kernel
theorem dN4_1 : decode jdk_42_method_149_code 1 = .ok (.invokespecial 1, 3) := by decide +kernel
theorem dN4_4 : decode jdk_42_method_149_code 4 = .ok (.iload_n 3, 1) := by decide +kernel
theorem dN4_5 : decode jdk_42_method_149_code 5 = .ok (.ifCond .ne 22, 3) := by decide +kernel
theorem dN4_8 : decode jdk_42_method_149_code 8 = .ok (.aload_n 0, 1) := by decide +kernel
theorem dN4_9 : decode jdk_42_method_149_code 9 = .ok (.ldc 7, 2) := by decide +kernel
theorem dN4_11 : decode jdk_42_method_149_code 11 = .ok (.getfield 9, 3) := by decide +kernel
theorem dN4_14 : decode jdk_42_method_149_code 14 = .ok (.putfield 9, 3) := by decide +kernel
theorem dN4_17 : decode jdk_42_method_149_code 17 = .ok (.aload_n 0, 1) := by decide +kernel
theorem dN4_18 : decode jdk_42_method_149_code 18 = .ok (.ldc 7, 2) := by decide +kernel
theorem dN4_20 : decode jdk_42_method_149_code 20 = .ok (.getfield 15, 3) := by decide +kernel
theorem dN4_23 : decode jdk_42_method_149_code 23 = .ok (.putfield 15, 3) := by decide +kernel
theorem dN4_26 : decode jdk_42_method_149_code 26 = .ok (.return_, 1) := by decide +kernel
theorem pdN4 : parseMethodDescriptor "([CIILjava/lang/Void;)V" = some ⟨[(.array .char), .int, .int, (.object "java/lang/Void")], none⟩ := by decide +kernel
set_option maxRecDepth 65536 in
set_option maxHeartbeats 40000000 in
theorem rmN4 (l : Launch) (Z : State) (a0 : Array Value) (hw : ∀ d ∈ tables_1, d.before a0 Z = true) (ws : List Jvm.Cond) (pa : Addr) (pb : Addr) (kb : ClassId) (h0 : Heap) (n0 : Nat) (Z0 : n0 ≤ h0.size) (H0 : Exa Z h0 pa "java/lang/String") (H1 : Fld Z h0 pa "java/lang/String" "value" "[B" .null) (H2 : Fld Z h0 pa "java/lang/String" "coder" "B" (.int 0)) (H3 : Arv Z h0 pb kb .char (0 : Int32) [] (.int 0)) (ne_pb_pa : pb ≠ pa) (nw_pa : n0 ≤ pa) :
    MetFree l (⟨"java/lang/String", "<init>", "([CIILjava/lang/Void;)V"⟩ : MethodName) (head1 (Jvm.Cond.code (⟨"java/lang/String", "<init>", "([CIILjava/lang/Void;)V"⟩ : MethodName) jdk_42_method_149_code 6 none :: ws) ({ frames := 1, cells := 4, slots := 8, locals := 12 } : Room)) (fun aa U => aa = #[(.ref pa), (.ref pb), (.int 0), (.int 0), .null] ∧ Z.Warmed39 U.vm ∧ U.heap = h0 ∧ CHv Z own_EL U.vm h0) (fun _ _ _ _ _ => True) (fun _ U oo U' => ∃ v L, oo = .returned v ∧ QN4 Z pa pb kb h0 n0 v U'.heap L ∧ CHr Z own_EL U.vm U.heap U'.vm U'.heap ∧ ReturnedEndW U oo U' L ({ frames := 1, cells := 4, slots := 8, locals := 12 } : Room).cells ({ frames := 1, cells := 4, slots := 8, locals := 12 } : Room).slots) := by
  refine MetFree.of_bodySF (plainFor_of_name pnSB) hisR ?_
  intro p e s m args below meth c s₁ Bd hml0 hP hK
  obtain ⟨rfl, hZ, hh, HV0⟩ := hP
  have hx := Bd.exec
  have hby := Bd.bytes
  have hlk : meth.locks = false := BodyLoose.notSynchronized Bd
  have hml : c.maxLocals = 6 := hml0
  have hown : s.vm.findClass "java/lang/String" = some m.cls := findClass_of_methodNamed Bd.named
  have hnm := (name_of_methodNamed Bd.named Bd.method).1
  have X0 : Stand p l e ({ frames := 1, cells := 4, slots := 8, locals := 12 } : Room) s m #[(.ref pa), (.ref pb), (.int 0), (.int 0), .null] below meth c s₁ [] 0 0 := Stand.of_body Bd
  have e0 : s₁.heap = h0 := by rw [← hh, Bd.state]; rfl
  have N0 := Fr.nil n0
  have ef : entryFrame m #[(.ref pa), (.ref pb), (.int 0), (.int 0), .null] 6 = mkF m 0 #[rv pa, rv pb, iv 0, iv 0, .val .null, .unset] [] := by first | (simp [entryFrame, mkF, argsToLocals, Value.category, maxLocals]; done) | rfl
  have XW : Stand p l e ({ frames := 1, cells := 4, slots := 8, locals := 12 } : Room) (s.setVm s.vm) m #[(.ref pa), (.ref pb), (.int 0), (.int 0), .null] below meth c s₁ [] 0 0 := X0
  have hS0 : s.Since s.vm 0 := (State.WarmedH.refl s).since 0
  have hZ0 : Z.Warmed39 (s.setVm s.vm).vm := hZ
  have hown0 : (s.setVm s.vm).vm.findClass "java/lang/String" = some m.cls := hown
  have wS : ∀ d ∈ Bundle.stringAtoms, d.before a0 Z = true := fun d hd => hw d (own_wS d hd)
  have hEL : EW Z a0 own_EL := own_EW hw
  have CH0 : CHr Z own_EL s.vm h0 s.vm h0 := CHr.refl HV0
  show Way p.tables e below (KQH s Z own_EL (QN4 Z pa pb kb h0 n0) ({ frames := 1, cells := 4, slots := 8, locals := 12 } : Room).cells ({ frames := 1, cells := 4, slots := 8, locals := 12 } : Room).slots) (s₁.setTop (entryFrame m #[(.ref pa), (.ref pb), (.int 0), (.int 0), .null] 6))
  rw [ef]
  have sfa := own_safeNull (EL := own_EL) hZ.alike H0 H1
  refine Way.by (fun _ k => XS.aloadN XW.here hx rfl (hb hby dN4_0) rfl rfl k) ?_
  show Way _ _ _ _ (s₁.setTop (mkF m 1 #[rv pa, rv pb, iv 0, iv 0, .val .null, .unset] [(.ref pa)]))
  obtain ⟨T1, X2, e3, st4⟩ := initO XW hx hZ0 hown0 (tw hw 15 rfl) (tw hw 16 rfl) (tw hw 17 rfl) e0 (g := (mkF m 1 #[rv pa, rv pb, iv 0, iv 0, .val .null, .unset] [(.ref pa)])) rfl (by rw [hml]; rfl) rfl (hb hby dN4_1) (by decide) (W := 0) (leW rfl) (by decide)
  refine Way.by st4 ?_
  show Way _ _ _ _ (T1.setTop (mkF m 4 #[rv pa, rv pb, iv 0, iv 0, .val .null, .unset] []))
  refine Way.by (fun _ k => XS.iloadN X2.here hx rfl (hb hby dN4_4) rfl k) ?_
  show Way _ _ _ _ (T1.setTop (mkF m 5 #[rv pa, rv pb, iv 0, iv 0, .val .null, .unset] [(.int 0)]))
  have b5 : (0 : Int32) = (0 : Int32) := by decide
  refine Way.by (fun _ k => XS.ifNo X2.here hx rfl (hb hby dN4_5) rfl ((if0 .ne _).trans (teq b5).2) k) ?_
  show Way _ _ _ _ (T1.setTop (mkF m 8 #[rv pa, rv pb, iv 0, iv 0, .val .null, .unset] []))
  refine Way.by (fun _ k => XS.aloadN X2.here hx rfl (hb hby dN4_8) rfl rfl k) ?_
  show Way _ _ _ _ (T1.setTop (mkF m 9 #[rv pa, rv pb, iv 0, iv 0, .val .null, .unset] [(.ref pa)]))
  obtain ⟨a6, T7, h8, k9, bd10, kc11, X12, e13, E14, hS15, hk16, hZ17, hown18, Ex19, Co20, Va21, Ar22, la23, lb24, hr25, lit26, sfn27, st28⟩ := ldcCH X2 hx hZ0 hown0 (tw hw 18 rfl) wS e3 hS0 (Nat.zero_le _) hEL (by decide) HV0 (vs := ([] : List Int32).map fun c => Value.int (StrChars.lo8 c)) (z := (0 : Int32)) ⟨by decide, by decide⟩ (by decide) rfl (g := (mkF m 9 #[rv pa, rv pb, iv 0, iv 0, .val .null, .unset] [(.ref pa)])) rfl (hb hby dN4_9) (n := 0) (by decide) (by decide) (by decide) (by decide)
  have Sf32 := CHr.safe hr25 H0.lt sfa
  have H29 := hr25.1
  have CH30 := CH0.trans hr25
  have E33 := Exa.ext E14 H0
  have F34 := Fld.ext E14 H1
  have F35 := Fld.ext E14 H2
  have A36 := H3.ext E14
  have Z37 := Nat.le_trans Z0 E14.1
  have K38 := (Keep.refl h0 [pa]).ext E14
  have hz39 := Nat.le_trans (Nat.le_refl h0.size) E14.1
  have F40 : own_Str Z h8 a6 bd10 [] := ⟨Ex19, Va21, Co20, ⟨_, _, _, Ar22, Or.inl ⟨rfl, rfl, rfl, by decide⟩⟩, by decide, by decide⟩
  have ne41 := sfn27 pa Sf32
  have ne42 := sfn27 pb (Safe.arv hZ17.alike A36 (by decide))
  refine Way.by st28 ?_
  show Way _ _ _ _ (T7.setTop (mkF m 11 #[rv pa, rv pb, iv 0, iv 0, .val .null, .unset] [(.ref a6), (.ref pa)]))
  obtain ⟨T43, X44, e45, st46⟩ := getF X12 hx hZ17 hown18 (host := "") (Or.inl (tw hw 24 rfl)) Via.refl e13 F40.2.1 (g := (mkF m 11 #[rv pa, rv pb, iv 0, iv 0, .val .null, .unset] [(.ref a6), (.ref pa)])) rfl rfl (hb hby dN4_11)
  refine Way.by st46 ?_
  show Way _ _ _ _ (T43.setTop (mkF m 14 #[rv pa, rv pb, iv 0, iv 0, .val .null, .unset] [(.ref bd10), (.ref pa)]))
  obtain ⟨T47, h48, X49, e50, W51, st52⟩ := putF X44 hx hZ17 hown18 (host := "") (Or.inl (tw hw 24 rfl)) Via.refl e45 F34 E33 (Or.inr ⟨(tw hw 20 rfl), rfl, hnm⟩) (tw hw 6 rfl) (ty := (.array .byte)) (by decide) rfl rfl (g := (mkF m 14 #[rv pa, rv pb, iv 0, iv 0, .val .null, .unset] [(.ref bd10), (.ref pa)])) rfl rfl (hb hby dN4_14)
  have N53 := Fr.snoc X49 N0 nw_pa
  have hr56 := CHr.wr W51 Sf32 H29
  have Sf57 := Safe.wr W51 Sf32 H29 Sf32
  have H54 := hr56.1
  have CH55 := CH30.trans hr56
  have E58 := Exa.wr W51 E33
  have F59 : Fld Z h48 pa "java/lang/String" "value" "[B" (.ref bd10) := F34.same W51
  have F60 := F35.other W51 (Or.inr (slot_ne (Or.inr (tw hw 21 rfl)) (Or.inr (tw hw 20 rfl)) (by decide) (t := .byte) (t' := (.array .byte)) (by decide) (by decide)))
  have A61 := A36.other W51 ne_pb_pa
  have S62 := F40.other W51 ne41.1.symm ne41.2.symm
  have Z63 : n0 ≤ h48.size := by rw [W51.size]; exact Z37
  have hk64 := Nat.le_trans hk16 (Nat.le_of_eq W51.size.symm)
  have K65 := K38.wr W51 (Or.inl (List.mem_of_getElem? (i := 0) rfl))
  have hz66 : h0.size ≤ h48.size := by rw [W51.size]; exact hz39
  refine Way.by st52 ?_
  show Way _ _ _ _ (T47.setTop (mkF m 17 #[rv pa, rv pb, iv 0, iv 0, .val .null, .unset] []))
  refine Way.by (fun _ k => XS.aloadN X49.here hx rfl (hb hby dN4_17) rfl rfl k) ?_
  show Way _ _ _ _ (T47.setTop (mkF m 18 #[rv pa, rv pb, iv 0, iv 0, .val .null, .unset] [(.ref pa)]))
  obtain ⟨a67, T68, h69, k70, bd71, kc72, X73, e74, E75, hS76, hk77, hZ78, hown79, Ex80, Co81, Va82, Ar83, la84, lb85, hr86, lit87, sfn88, st89⟩ := ldcCH X49 hx hZ17 hown18 (tw hw 18 rfl) wS e50 hS15 hk64 hEL (by decide) H54 (vs := ([] : List Int32).map fun c => Value.int (StrChars.lo8 c)) (z := (0 : Int32)) ⟨by decide, by decide⟩ (by decide) rfl (g := (mkF m 18 #[rv pa, rv pb, iv 0, iv 0, .val .null, .unset] [(.ref pa)])) rfl (hb hby dN4_18) (n := 0) (by decide) (by decide) (by decide) (by decide)
  have Sf93 := CHr.safe hr86 E58.lt Sf57
  have H90 := hr86.1
  have CH91 := CH55.trans hr86
  have E94 := Exa.ext E75 E58
  have F95 := Fld.ext E75 F59
  have F96 := Fld.ext E75 F60
  have A97 := A61.ext E75
  have S98 := S62.ext E75
  have Z99 := Nat.le_trans Z63 E75.1
  have K100 := K65.ext E75
  have hz101 := Nat.le_trans hz66 E75.1
  have F102 : own_Str Z h69 a67 bd71 [] := ⟨Ex80, Va82, Co81, ⟨_, _, _, Ar83, Or.inl ⟨rfl, rfl, rfl, by decide⟩⟩, by decide, by decide⟩
  have ne103 := sfn88 pa Sf93
  have ne104 := sfn88 pb (Safe.arv hZ78.alike A97 (by decide))
  refine Way.by st89 ?_
  show Way _ _ _ _ (T68.setTop (mkF m 20 #[rv pa, rv pb, iv 0, iv 0, .val .null, .unset] [(.ref a67), (.ref pa)]))
  obtain ⟨T105, X106, e107, st108⟩ := getF X73 hx hZ78 hown79 (host := "") (Or.inl (tw hw 25 rfl)) Via.refl e74 F102.2.2.1 (g := (mkF m 20 #[rv pa, rv pb, iv 0, iv 0, .val .null, .unset] [(.ref a67), (.ref pa)])) rfl rfl (hb hby dN4_20)
  refine Way.by st108 ?_
  show Way _ _ _ _ (T105.setTop (mkF m 23 #[rv pa, rv pb, iv 0, iv 0, .val .null, .unset] [(.int 0), (.ref pa)]))
  obtain ⟨T109, h110, X111, e112, W113, st114⟩ := putF X106 hx hZ78 hown79 (host := "") (Or.inl (tw hw 25 rfl)) Via.refl e107 F96 E94 (Or.inr ⟨(tw hw 21 rfl), rfl, hnm⟩) (tw hw 6 rfl) (ty := .byte) (by decide) rfl rfl (g := (mkF m 23 #[rv pa, rv pb, iv 0, iv 0, .val .null, .unset] [(.int 0), (.ref pa)])) rfl rfl (hb hby dN4_23)
  have N115 := Fr.snoc X111 N53 nw_pa
  have hr118 := CHr.wr W113 Sf93 H90
  have Sf119 := Safe.wr W113 Sf93 H90 Sf93
  have H116 := hr118.1
  have CH117 := CH91.trans hr118
  have E120 := Exa.wr W113 E94
  have F121 := F95.other W113 (Or.inr (slot_ne (Or.inr (tw hw 20 rfl)) (Or.inr (tw hw 21 rfl)) (by decide) (t := (.array .byte)) (t' := .byte) (by decide) (by decide)))
  have F122 : Fld Z h110 pa "java/lang/String" "coder" "B" (.int 0) := F96.same W113
  have A123 := A97.other W113 ne_pb_pa
  have S124 := S98.other W113 ne41.1.symm ne41.2.symm
  have S125 := F102.other W113 ne103.1.symm ne103.2.symm
  have Z126 : n0 ≤ h110.size := by rw [W113.size]; exact Z99
  have hk127 := Nat.le_trans hk77 (Nat.le_of_eq W113.size.symm)
  have K128 := K100.wr W113 (Or.inl (List.mem_of_getElem? (i := 0) rfl))
  have hz129 : h0.size ≤ h110.size := by rw [W113.size]; exact hz101
  refine Way.by st114 ?_
  show Way _ _ _ _ (T109.setTop (mkF m 26 #[rv pa, rv pb, iv 0, iv 0, .val .null, .unset] []))
  refine Way.retH (v := none) X111 hS76 (by rw [e112]; exact hk127) hZ78 hEL hh e112 H116 CH117 hlk (fun _ => rfl) (fun fs hr => X111.returnOut hx Bd.returns (hb hby dN4_26) hr) ?_ (by decide) (by decide)
  show QN4 Z pa pb kb h0 n0 _ T109.heap _
  rw [e112]
  have STR : own_Str Z h110 pa bd10 [] := ⟨E120, F121, F122, S124.2.2.2⟩
  exact ⟨bd10, rfl, N115, K128, STR⟩
def QN1 (Z : State) (pa : Addr) (pb : Addr) (kb : ClassId) (h0 : Heap) (n0 : Nat) (v : Option Value) (h : Heap) (L : List Loc) : Prop := ∃ (pt : Addr), v = none ∧ Fr n0 L ∧ Keep h0 h [pa] ∧ own_Str Z h pa pt []
theorem dN1_0 : decode jdk_42_method_3_code 0 = .ok (.aload_n 0, 1) := by decide +kernel
theorem dN1_1 : decode jdk_42_method_3_code 1 = .ok (.aload_n 1, 1) := by decide +kernel
theorem dN1_2 : decode jdk_42_method_3_code 2 = .ok (.iconst 0, 1) := by decide +kernel
theorem dN1_3 : decode jdk_42_method_3_code 3 = .ok (.aload_n 1, 1) := by decide +kernel
theorem dN1_4 : decode jdk_42_method_3_code 4 = .ok (.arraylength, 1) := by decide +kernel
theorem dN1_5 : decode jdk_42_method_3_code 5 = .ok (.aconst_null, 1) := by decide +kernel
theorem dN1_6 : decode jdk_42_method_3_code 6 = .ok (.invokespecial 27, 3) := by decide +kernel
theorem dN1_9 : decode jdk_42_method_3_code 9 = .ok (.return_, 1) := by decide +kernel
theorem pdN1 : parseMethodDescriptor "([C)V" = some ⟨[(.array .char)], none⟩ := by decide +kernel
set_option maxRecDepth 65536 in
set_option maxHeartbeats 40000000 in
theorem rmN1 (l : Launch) (Z : State) (a0 : Array Value) (hw : ∀ d ∈ tables_1, d.before a0 Z = true) (ws : List Jvm.Cond) (pa : Addr) (pb : Addr) (kb : ClassId) (h0 : Heap) (n0 : Nat) (Z0 : n0 ≤ h0.size) (H0 : Exa Z h0 pa "java/lang/String") (H1 : Fld Z h0 pa "java/lang/String" "value" "[B" .null) (H2 : Fld Z h0 pa "java/lang/String" "coder" "B" (.int 0)) (H3 : Arv Z h0 pb kb .char (0 : Int32) [] (.int 0)) (ne_pb_pa : pb ≠ pa) (nw_pa : n0 ≤ pa) :
    MetFree l (⟨"java/lang/String", "<init>", "([C)V"⟩ : MethodName) (head1 (Jvm.Cond.code (⟨"java/lang/String", "<init>", "([C)V"⟩ : MethodName) jdk_42_method_3_code 2 none :: ws) ({ frames := 2, cells := 4, slots := 8, locals := 29 } : Room)) (fun aa U => aa = #[(.ref pa), (.ref pb)] ∧ Z.Warmed39 U.vm ∧ U.heap = h0 ∧ CHv Z own_EL U.vm h0) (fun _ _ _ _ _ => True) (fun _ U oo U' => ∃ v L, oo = .returned v ∧ QN1 Z pa pb kb h0 n0 v U'.heap L ∧ CHr Z own_EL U.vm U.heap U'.vm U'.heap ∧ ReturnedEndW U oo U' L ({ frames := 2, cells := 4, slots := 8, locals := 29 } : Room).cells ({ frames := 2, cells := 4, slots := 8, locals := 29 } : Room).slots) := by
  refine MetFree.of_bodySF (plainFor_of_name pnSB) hisR ?_
  intro p e s m args below meth c s₁ Bd hml0 hP hK
  obtain ⟨rfl, hZ, hh, HV0⟩ := hP
  have hx := Bd.exec
  have hby := Bd.bytes
  have hlk : meth.locks = false := BodyLoose.notSynchronized Bd
  have hml : c.maxLocals = 2 := hml0
  have hown : s.vm.findClass "java/lang/String" = some m.cls := findClass_of_methodNamed Bd.named
  have hnm := (name_of_methodNamed Bd.named Bd.method).1
  have X0 : Stand p l e ({ frames := 2, cells := 4, slots := 8, locals := 29 } : Room) s m #[(.ref pa), (.ref pb)] below meth c s₁ [] 0 0 := Stand.of_body Bd
  have e0 : s₁.heap = h0 := by rw [← hh, Bd.state]; rfl
  have N0 := Fr.nil n0
  have ef : entryFrame m #[(.ref pa), (.ref pb)] 2 = mkF m 0 #[rv pa, rv pb] [] := by first | (simp [entryFrame, mkF, argsToLocals, Value.category, maxLocals]; done) | rfl
  have XW : Stand p l e ({ frames := 2, cells := 4, slots := 8, locals := 29 } : Room) (s.setVm s.vm) m #[(.ref pa), (.ref pb)] below meth c s₁ [] 0 0 := X0
  have hS0 : s.Since s.vm 0 := (State.WarmedH.refl s).since 0
  have hZ0 : Z.Warmed39 (s.setVm s.vm).vm := hZ
  have hown0 : (s.setVm s.vm).vm.findClass "java/lang/String" = some m.cls := hown
  have wS : ∀ d ∈ Bundle.stringAtoms, d.before a0 Z = true := fun d hd => hw d (own_wS d hd)
  have hEL : EW Z a0 own_EL := own_EW hw
  have CH0 : CHr Z own_EL s.vm h0 s.vm h0 := CHr.refl HV0
  show Way p.tables e below (KQH s Z own_EL (QN1 Z pa pb kb h0 n0) ({ frames := 2, cells := 4, slots := 8, locals := 29 } : Room).cells ({ frames := 2, cells := 4, slots := 8, locals := 29 } : Room).slots) (s₁.setTop (entryFrame m #[(.ref pa), (.ref pb)] 2))
  rw [ef]
  have sfa := own_safeNull (EL := own_EL) hZ.alike H0 H1
  refine Way.by (fun _ k => XS.aloadN XW.here hx rfl (hb hby dN1_0) rfl rfl k) ?_
  show Way _ _ _ _ (s₁.setTop (mkF m 1 #[rv pa, rv pb] [(.ref pa)]))
  refine Way.by (fun _ k => XS.aloadN XW.here hx rfl (hb hby dN1_1) rfl rfl k) ?_
  show Way _ _ _ _ (s₁.setTop (mkF m 2 #[rv pa, rv pb] [(.ref pb), (.ref pa)]))
  refine Way.by (fun _ k => XS.iconst XW.here hx rfl (hb hby dN1_2) k) ?_
  show Way _ _ _ _ (s₁.setTop (mkF m 3 #[rv pa, rv pb] [(.int 0), (.ref pb), (.ref pa)]))
  refine Way.by (fun _ k => XS.aloadN XW.here hx rfl (hb hby dN1_3) rfl rfl k) ?_
  show Way _ _ _ _ (s₁.setTop (mkF m 4 #[rv pa, rv pb] [(.ref pb), (.int 0), (.ref pb), (.ref pa)]))
  obtain ⟨c1, A2, q3, S4, M5, H6, U7⟩ := id H3
  refine Way.by (fun t k => Stand.arraylength XW hx (hpE e0 A2.1) (arrS hZ0 A2) (g := (mkF m 4 #[rv pa, rv pb] [(.ref pb), (.int 0), (.ref pb), (.ref pa)])) rfl rfl (hb hby dN1_4) t k) ?_
  rw [len_of S4 M5]
  show Way _ _ _ _ (s₁.setTop (mkF m 5 #[rv pa, rv pb] [(.int 0), (.int 0), (.ref pb), (.ref pa)]))
  refine Way.by (fun _ k => XS.aconstNull XW.here hx rfl (hb hby dN1_5) k) ?_
  show Way _ _ _ _ (s₁.setTop (mkF m 6 #[rv pa, rv pb] [.null, (.int 0), (.int 0), (.ref pb), (.ref pa)]))
  obtain ⟨_, _, ⟨T8, L10, k11, n12⟩, -, X9, hS21, hg22, ⟨Lc13, hQ14, l15, y16, z17, hr23⟩, st18⟩ := XW.specialBackS hx (y := (⟨"java/lang/String", "<init>", "([CIILjava/lang/Void;)V"⟩ : MethodName)) rfl hown0 (mvT hZ0 (tw hw 11 rfl)) (mvT hZ0 (tw hw 12 rfl)) (mvT hZ0 (tw hw 14 rfl)) (by decide) (backOfSH (W := 0) (rmN4 l Z a0 hw [] pa pb kb h0 n0 Z0 H0 H1 H2 H3 ne_pb_pa nw_pa) hZ0 (tw hw 14 rfl) (tw hw 7 rfl) (by decide) (by decide) hEL HV0) (g := (mkF m 6 #[rv pa, rv pb] [.null, (.int 0), (.int 0), (.ref pb), (.ref pa)])) rfl (by rw [hml]; rfl) (Steps.refl _) (a := pa) (argsL := [(.ref pb), (.int 0), (.int 0), .null]) (rest := []) (lenOf pdN4 rfl) rfl (leW rfl) (hb hby dN1_6) (fun _ _ => ⟨rfl, e0, (leB rfl), (leB rfl)⟩)
  dsimp only [Pt.U, Pt.locs, Pt.cells, Pt.slots] at X9 l15 y16 z17 st18 hQ14 hS21 hg22 hr23
  subst l15 y16 z17
  obtain ⟨X24, hS25, hZ26, hown27⟩ := rebS hS0 (by rw [e0]; exact (Nat.zero_le _)) X9 hS21 hg22 hZ0 hown0
  obtain ⟨x_pt31, rfl, N28, K29, F_030⟩ := hQ14
  have N19 := Fr.app N0 N28
  have Sf35 := CHr.safe hr23 H0.lt sfa
  have H32 := hr23.1
  have CH33 := CH0.trans hr23
  have E36 := H0.keep K29
  have A37 := H3.keep K29 (ninS ne_pb_pa nin0)
  have Z38 := Nat.le_trans Z0 K29.1
  have K39 := (Keep.refl h0 [pa]).trans K29 (allS (Or.inl (List.mem_of_getElem? (i := 0) rfl)) all0)
  have hz40 := Nat.le_trans (Nat.le_refl h0.size) K29.1
  refine Way.to st18 ?_
  show Way _ _ _ _ (T8.setTop (mkF m 9 #[rv pa, rv pb] []))
  refine Way.retH (v := none) X24 hS25 (by exact (Nat.le_refl _)) hZ26 hEL hh rfl H32 CH33 hlk (fun _ => rfl) (fun fs hr => X24.returnOut hx Bd.returns (hb hby dN1_9) hr) ?_ (by decide) (by decide)
  show QN1 Z pa pb kb h0 n0 _ T8.heap _
  skip
  exact ⟨x_pt31, rfl, N19, K39, F_030⟩
def QC510 (Z : State) (pb : Addr) (kc : ClassId) (pd : Addr) (kd : ClassId) (cc0 : Int32) (h0 : Heap) (n0 : Nat) (v : Option Value) (h : Heap) (L : List Loc) : Prop := v = some (.int 0) ∧ Fr n0 L ∧ Keep h0 h [pd]
theorem dC510_0 : decode jdk_52_method_21_code 0 = .ok (.iconst 0, 1) := by decide +kernel
theorem dC510_1 : decode jdk_52_method_21_code 1 = .ok (.istore 5, 2) := by decide +kernel
theorem dC510_3 : decode jdk_52_method_21_code 3 = .ok (.iload 5, 2) := by decide +kernel
theorem dC510_5 : decode jdk_52_method_21_code 5 = .ok (.iload 4, 2) := by decide +kernel
theorem dC510_7 : decode jdk_52_method_21_code 7 = .ok (.if_icmp .ge 37, 3) := by decide +kernel
theorem dC510_10 : decode jdk_52_method_21_code 10 = .ok (.aload_n 0, 1) := by decide +kernel
theorem dC510_11 : decode jdk_52_method_21_code 11 = .ok (.iload_n 1, 1) := by decide +kernel
theorem dC510_12 : decode jdk_52_method_21_code 12 = .ok (.caload, 1) := by decide +kernel
theorem dC510_13 : decode jdk_52_method_21_code 13 = .ok (.istore 6, 2) := by decide +kernel
theorem dC510_15 : decode jdk_52_method_21_code 15 = .ok (.iload 6, 2) := by decide +kernel
theorem dC510_17 : decode jdk_52_method_21_code 17 = .ok (.sipush 255, 3) := by decide +kernel
theorem dC510_20 : decode jdk_52_method_21_code 20 = .ok (.if_icmp .le 6, 3) := by decide +kernel
theorem dC510_23 : decode jdk_52_method_21_code 23 = .ok (.iload 5, 2) := by decide +kernel
theorem dC510_25 : decode jdk_52_method_21_code 25 = .ok (.ireturn, 1) := by decide +kernel
theorem pdC510 : parseMethodDescriptor "([CI[BII)I" = some ⟨[(.array .char), .int, (.array .byte), .int, .int], some .int⟩ := by decide +kernel
set_option maxRecDepth 65536 in
set_option maxHeartbeats 40000000 in
theorem rmC510 (l : Launch) (Z : State) (a0 : Array Value) (hw : ∀ d ∈ tables_1, d.before a0 Z = true) (ws : List Jvm.Cond) (pb : Addr) (kc : ClassId) (pd : Addr) (kd : ClassId) (cc0 : Int32) (h0 : Heap) (n0 : Nat) (Z0 : n0 ≤ h0.size) (H0 : Arv Z h0 pb kc .char (1 : Int32) [(.int cc0)] (.int 0)) (H1 : Arv Z h0 pd kd .byte (1 : Int32) [] (.int 0)) (hc0 : (255 : Int32) < cc0) (ne_pb_pd : pb ≠ pd) (nw_pd : n0 ≤ pd) :
    MetFree l (⟨"java/lang/StringUTF16", "compress", "([CI[BII)I"⟩ : MethodName) (head1 (Jvm.Cond.code (⟨"java/lang/StringUTF16", "compress", "([CI[BII)I"⟩ : MethodName) jdk_52_method_21_code 7 (some .int) :: ws) ({ frames := 0, cells := 0, slots := 0, locals := 0 } : Room)) (fun aa U => aa = #[(.ref pb), (.int 0), (.ref pd), (.int 0), (.int 1)] ∧ Z.Warmed39 U.vm ∧ U.heap = h0) (fun _ _ _ _ _ => True) (fun _ U oo U' => ∃ v L, oo = .returned v ∧ QC510 Z pb kc pd kd cc0 h0 n0 v U'.heap L ∧ FrameEnd U oo U' L ({ frames := 0, cells := 0, slots := 0, locals := 0 } : Room).cells ({ frames := 0, cells := 0, slots := 0, locals := 0 } : Room).slots) := by
  refine MetFree.of_bodySF (plainFor_of_name pnGC) hisR ?_
  intro p e s m args below meth c s₁ Bd hml0 hP hK
  obtain ⟨rfl, hZ, hh⟩ := hP
  have hx := Bd.exec
  have hby := Bd.bytes
  have hlk : meth.locks = false := BodyLoose.notSynchronized Bd
  have hml : c.maxLocals = 7 := hml0
  have hown : s.vm.findClass "java/lang/StringUTF16" = some m.cls := findClass_of_methodNamed Bd.named
  have hnm := (name_of_methodNamed Bd.named Bd.method).1
  have X0 : Stand p l e ({ frames := 0, cells := 0, slots := 0, locals := 0 } : Room) s m #[(.ref pb), (.int 0), (.ref pd), (.int 0), (.int 1)] below meth c s₁ [] 0 0 := Stand.of_body Bd
  have e0 : s₁.heap = h0 := by rw [← hh, Bd.state]; rfl
  have N0 := Fr.nil n0
  have ef : entryFrame m #[(.ref pb), (.int 0), (.ref pd), (.int 0), (.int 1)] 7 = mkF m 0 #[rv pb, iv 0, rv pd, iv 0, iv 1, .unset, .unset] [] := by first | (simp [entryFrame, mkF, argsToLocals, Value.category, maxLocals]; done) | rfl
  show Way p.tables e below (KQ s (QC510 Z pb kc pd kd cc0 h0 n0) ({ frames := 0, cells := 0, slots := 0, locals := 0 } : Room).cells ({ frames := 0, cells := 0, slots := 0, locals := 0 } : Room).slots) (s₁.setTop (entryFrame m #[(.ref pb), (.int 0), (.ref pd), (.int 0), (.int 1)] 7))
  rw [ef]
  refine Way.by (fun _ k => XS.iconst X0.here hx rfl (hb hby dC510_0) k) ?_
  show Way _ _ _ _ (s₁.setTop (mkF m 1 #[rv pb, iv 0, rv pd, iv 0, iv 1, .unset, .unset] [(.int 0)]))
  refine Way.by (fun _ k => XS.istore X0.here hx rfl (hb hby dC510_1) rfl (l' := #[rv pb, iv 0, rv pd, iv 0, iv 1, iv 0, .unset]) rfl k) ?_
  show Way _ _ _ _ (s₁.setTop (mkF m 3 #[rv pb, iv 0, rv pd, iv 0, iv 1, iv 0, .unset] []))
  refine Way.by (fun _ k => XS.iload X0.here hx rfl (hb hby dC510_3) rfl k) ?_
  show Way _ _ _ _ (s₁.setTop (mkF m 5 #[rv pb, iv 0, rv pd, iv 0, iv 1, iv 0, .unset] [(.int 0)]))
  refine Way.by (fun _ k => XS.iload X0.here hx rfl (hb hby dC510_5) rfl k) ?_
  show Way _ _ _ _ (s₁.setTop (mkF m 7 #[rv pb, iv 0, rv pd, iv 0, iv 1, iv 0, .unset] [(.int 1), (.int 0)]))
  have b1 : (0 : Int32) < (1 : Int32) := by decide
  refine Way.by (fun _ k => XS.icmpNo X0.here hx rfl (hb hby dC510_7) rfl (tlt b1).2.1 k) ?_
  show Way _ _ _ _ (s₁.setTop (mkF m 10 #[rv pb, iv 0, rv pd, iv 0, iv 1, iv 0, .unset] []))
  refine Way.by (fun _ k => XS.aloadN X0.here hx rfl (hb hby dC510_10) rfl rfl k) ?_
  show Way _ _ _ _ (s₁.setTop (mkF m 11 #[rv pb, iv 0, rv pd, iv 0, iv 1, iv 0, .unset] [(.ref pb)]))
  refine Way.by (fun _ k => XS.iloadN X0.here hx rfl (hb hby dC510_11) rfl k) ?_
  show Way _ _ _ _ (s₁.setTop (mkF m 12 #[rv pb, iv 0, rv pd, iv 0, iv 1, iv 0, .unset] [(.int 0), (.ref pb)]))
  obtain ⟨c2, A3, q4, S5, M6, H7, U8⟩ := id H0
  refine Way.by (fun t k => Stand.caload X0 hx (hpE e0 A3.1) (arrS hZ A3) A3.2.2 (inb_of S5 ⟨(by decide), (by decide)⟩) (Has.at H7 (inb_of S5 ⟨(by decide), (by decide)⟩) rfl) (g := (mkF m 12 #[rv pb, iv 0, rv pd, iv 0, iv 1, iv 0, .unset] [(.int 0), (.ref pb)])) rfl rfl (hb hby dC510_12) t k) ?_
  show Way _ _ _ _ (s₁.setTop (mkF m 13 #[rv pb, iv 0, rv pd, iv 0, iv 1, iv 0, .unset] [(.int cc0)]))
  refine Way.by (fun _ k => XS.istore X0.here hx rfl (hb hby dC510_13) rfl (l' := #[rv pb, iv 0, rv pd, iv 0, iv 1, iv 0, iv cc0]) rfl k) ?_
  show Way _ _ _ _ (s₁.setTop (mkF m 15 #[rv pb, iv 0, rv pd, iv 0, iv 1, iv 0, iv cc0] []))
  refine Way.by (fun _ k => XS.iload X0.here hx rfl (hb hby dC510_15) rfl k) ?_
  show Way _ _ _ _ (s₁.setTop (mkF m 17 #[rv pb, iv 0, rv pd, iv 0, iv 1, iv 0, iv cc0] [(.int cc0)]))
  refine Way.by (fun _ k => XS.sipush X0.here hx rfl (hb hby dC510_17) k) ?_
  show Way _ _ _ _ (s₁.setTop (mkF m 20 #[rv pb, iv 0, rv pd, iv 0, iv 1, iv 0, iv cc0] [(.int 255), (.int cc0)]))
  have b9 : (255 : Int32) < cc0 := hc0
  refine Way.by (fun _ k => XS.icmpNo X0.here hx rfl (hb hby dC510_20) rfl (tlt b9).2.2.2 k) ?_
  show Way _ _ _ _ (s₁.setTop (mkF m 23 #[rv pb, iv 0, rv pd, iv 0, iv 1, iv 0, iv cc0] []))
  refine Way.by (fun _ k => XS.iload X0.here hx rfl (hb hby dC510_23) rfl k) ?_
  show Way _ _ _ _ (s₁.setTop (mkF m 25 #[rv pb, iv 0, rv pd, iv 0, iv 1, iv 0, iv cc0] [(.int 0)]))
  refine Way.ret (v := (some (.int 0))) X0 hlk (fun h => by rw [Bd.returns] at h; cases h) (fun fs hr => retI X0 hx Bd.returns (hb hby dC510_25) hr) ?_ (by decide) (by decide)
  show QC510 Z pb kc pd kd cc0 h0 n0 _ s₁.heap _
  rw [e0]
  exact ⟨rfl, N0, (Keep.refl h0 [pd])⟩
def QNL1 (Z : State)  (h0 : Heap) (n0 : Nat) (v : Option Value) (h : Heap) (L : List Loc) : Prop := v = some (.int 2) ∧ Fr n0 L ∧ h = h0
theorem dNL1_0 : decode jdk_52_method_3_code 0 = .ok (.iload_n 0, 1) := by decide +kernel
theorem dNL1_1 : decode jdk_52_method_3_code 1 = .ok (.ifCond .ge 11, 3) := by decide +kernel
theorem dNL1_12 : decode jdk_52_method_3_code 12 = .ok (.iload_n 0, 1) := by decide +kernel
theorem dNL1_13 : decode jdk_52_method_3_code 13 = .ok (.ldc 20, 2) := by decide +kernel
theorem dNL1_15 : decode jdk_52_method_3_code 15 = .ok (.if_icmp .lt 40, 3) := by decide +kernel
theorem dNL1_55 : decode jdk_52_method_3_code 55 = .ok (.iload_n 0, 1) := by decide +kernel
theorem dNL1_56 : decode jdk_52_method_3_code 56 = .ok (.iconst 1, 1) := by decide +kernel
theorem dNL1_57 : decode jdk_52_method_3_code 57 = .ok (.ishl, 1) := by decide +kernel
theorem dNL1_58 : decode jdk_52_method_3_code 58 = .ok (.ireturn, 1) := by decide +kernel
set_option maxRecDepth 65536 in
set_option maxHeartbeats 40000000 in
theorem rmNL1 (l : Launch) (Z : State) (a0 : Array Value) (hw : ∀ d ∈ tables_1, d.before a0 Z = true) (ws : List Jvm.Cond)  (h0 : Heap) (n0 : Nat) (Z0 : n0 ≤ h0.size)  :
    MetFree l (⟨"java/lang/StringUTF16", "newBytesLength", "(I)I"⟩ : MethodName) (head1 (Jvm.Cond.code (⟨"java/lang/StringUTF16", "newBytesLength", "(I)I"⟩ : MethodName) jdk_52_method_3_code 1 (some .int) :: ws) ({ frames := 0, cells := 0, slots := 0, locals := 0 } : Room)) (fun aa U => aa = #[(.int 1)] ∧ Z.Warmed39 U.vm ∧ U.heap = h0) (fun _ _ _ _ _ => True) (fun _ U oo U' => ∃ v L, oo = .returned v ∧ QNL1 Z  h0 n0 v U'.heap L ∧ FrameEnd U oo U' L ({ frames := 0, cells := 0, slots := 0, locals := 0 } : Room).cells ({ frames := 0, cells := 0, slots := 0, locals := 0 } : Room).slots) := by
  refine MetFree.of_bodySF (plainFor_of_name pnGC) hisR ?_
  intro p e s m args below meth c s₁ Bd hml0 hP hK
  obtain ⟨rfl, hZ, hh⟩ := hP
  have hx := Bd.exec
  have hby := Bd.bytes
  have hlk : meth.locks = false := BodyLoose.notSynchronized Bd
  have hml : c.maxLocals = 1 := hml0
  have hown : s.vm.findClass "java/lang/StringUTF16" = some m.cls := findClass_of_methodNamed Bd.named
  have hnm := (name_of_methodNamed Bd.named Bd.method).1
  have X0 : Stand p l e ({ frames := 0, cells := 0, slots := 0, locals := 0 } : Room) s m #[(.int 1)] below meth c s₁ [] 0 0 := Stand.of_body Bd
  have e0 : s₁.heap = h0 := by rw [← hh, Bd.state]; rfl
  have N0 := Fr.nil n0
  have ef : entryFrame m #[(.int 1)] 1 = mkF m 0 #[iv 1] [] := by first | (simp [entryFrame, mkF, argsToLocals, Value.category, maxLocals]; done) | rfl
  show Way p.tables e below (KQ s (QNL1 Z  h0 n0) ({ frames := 0, cells := 0, slots := 0, locals := 0 } : Room).cells ({ frames := 0, cells := 0, slots := 0, locals := 0 } : Room).slots) (s₁.setTop (entryFrame m #[(.int 1)] 1))
  rw [ef]
  refine Way.by (fun _ k => XS.iloadN X0.here hx rfl (hb hby dNL1_0) rfl k) ?_
  show Way _ _ _ _ (s₁.setTop (mkF m 1 #[iv 1] [(.int 1)]))
  have b1 : ¬ (1 : Int32) < (0 : Int32) := by decide
  refine Way.by (fun _ k => XS.ifYes X0.here hx rfl (pc0 := 1) (pc' := 12) rfl (hb hby dNL1_1) rfl ((if0 .ge _).trans (flt b1).2.1) (by decide) (by decide) k) ?_
  show Way _ _ _ _ (s₁.setTop (mkF m 12 #[iv 1] []))
  refine Way.by (fun _ k => XS.iloadN X0.here hx rfl (hb hby dNL1_12) rfl k) ?_
  show Way _ _ _ _ (s₁.setTop (mkF m 13 #[iv 1] [(.int 1)]))
  refine Way.by (Stand.ldcInt X0 hx hown (mvT hZ (tw hw 95 rfl)) rfl (hb hby dNL1_13)) ?_
  show Way _ _ _ _ (s₁.setTop (mkF m 15 #[iv 1] [(.int 1073741823), (.int 1)]))
  have b2 : (1 : Int32) < (1073741823 : Int32) := by decide
  refine Way.by (fun _ k => XS.icmpYes X0.here hx rfl (pc0 := 15) (pc' := 55) rfl (hb hby dNL1_15) rfl (tlt b2).1 (by decide) (by decide) k) ?_
  show Way _ _ _ _ (s₁.setTop (mkF m 55 #[iv 1] []))
  refine Way.by (fun _ k => XS.iloadN X0.here hx rfl (hb hby dNL1_55) rfl k) ?_
  show Way _ _ _ _ (s₁.setTop (mkF m 56 #[iv 1] [(.int 1)]))
  refine Way.by (fun _ k => XS.iconst X0.here hx rfl (hb hby dNL1_56) k) ?_
  show Way _ _ _ _ (s₁.setTop (mkF m 57 #[iv 1] [(.int 1), (.int 1)]))
  refine Way.by (fun _ k => XT.ishl X0.here hx rfl (hb hby dNL1_57) rfl k) ?_
  show Way _ _ _ _ (s₁.setTop (mkF m 58 #[iv 1] [(.int 2)]))
  refine Way.ret (v := (some (.int 2))) X0 hlk (fun h => by rw [Bd.returns] at h; cases h) (fun fs hr => retI X0 hx Bd.returns (hb hby dNL1_58) hr) ?_ (by decide) (by decide)
  show QNL1 Z  h0 n0 _ s₁.heap _
  rw [e0]
  exact ⟨rfl, N0, rfl⟩
def QNF1 (Z : State)  (h0 : Heap) (n0 : Nat) (v : Option Value) (h : Heap) (L : List Loc) : Prop := ∃ (pe : Addr) (kk : ClassId), v = some (.ref pe) ∧ Fr n0 L ∧ Keep h0 h [] ∧ h0.size ≤ pe ∧ Arv Z h pe kk .byte (2 : Int32) [] (.int 0)
theorem dNF1_0 : decode jdk_52_method_2_code 0 = .ok (.iload_n 0, 1) := by decide +kernel
theorem dNF1_1 : decode jdk_52_method_2_code 1 = .ok (.invokestatic 11, 3) := by decide +kernel
theorem dNF1_4 : decode jdk_52_method_2_code 4 = .ok (.newarray .byte, 2) := by decide +kernel
theorem dNF1_6 : decode jdk_52_method_2_code 6 = .ok (.areturn, 1) := by decide +kernel
theorem pdNF1 : parseMethodDescriptor "(I)[B" = some ⟨[.int], some (.array .byte)⟩ := by decide +kernel
set_option maxRecDepth 65536 in
set_option maxHeartbeats 40000000 in
theorem rmNF1 (l : Launch) (Z : State) (a0 : Array Value) (hw : ∀ d ∈ tables_1, d.before a0 Z = true) (ws : List Jvm.Cond)  (h0 : Heap) (n0 : Nat) (Z0 : n0 ≤ h0.size)  :
    MetFree l (⟨"java/lang/StringUTF16", "newBytesFor", "(I)[B"⟩ : MethodName) (head1 (Jvm.Cond.code (⟨"java/lang/StringUTF16", "newBytesFor", "(I)[B"⟩ : MethodName) jdk_52_method_2_code 1 (some (.array .byte)) :: ws) ({ frames := 1, cells := 1, slots := 2, locals := 12 } : Room)) (fun aa U => aa = #[(.int 1)] ∧ Z.Warmed39 U.vm ∧ U.heap = h0) (fun _ _ _ _ _ => True) (fun _ U oo U' => ∃ v L, oo = .returned v ∧ QNF1 Z  h0 n0 v U'.heap L ∧ FrameEnd U oo U' L ({ frames := 1, cells := 1, slots := 2, locals := 12 } : Room).cells ({ frames := 1, cells := 1, slots := 2, locals := 12 } : Room).slots) := by
  refine MetFree.of_bodySF (plainFor_of_name pnGC) hisR ?_
  intro p e s m args below meth c s₁ Bd hml0 hP hK
  obtain ⟨rfl, hZ, hh⟩ := hP
  have hx := Bd.exec
  have hby := Bd.bytes
  have hlk : meth.locks = false := BodyLoose.notSynchronized Bd
  have hml : c.maxLocals = 1 := hml0
  have hown : s.vm.findClass "java/lang/StringUTF16" = some m.cls := findClass_of_methodNamed Bd.named
  have hnm := (name_of_methodNamed Bd.named Bd.method).1
  have X0 : Stand p l e ({ frames := 1, cells := 1, slots := 2, locals := 12 } : Room) s m #[(.int 1)] below meth c s₁ [] 0 0 := Stand.of_body Bd
  have e0 : s₁.heap = h0 := by rw [← hh, Bd.state]; rfl
  have N0 := Fr.nil n0
  have ef : entryFrame m #[(.int 1)] 1 = mkF m 0 #[iv 1] [] := by first | (simp [entryFrame, mkF, argsToLocals, Value.category, maxLocals]; done) | rfl
  show Way p.tables e below (KQ s (QNF1 Z  h0 n0) ({ frames := 1, cells := 1, slots := 2, locals := 12 } : Room).cells ({ frames := 1, cells := 1, slots := 2, locals := 12 } : Room).slots) (s₁.setTop (entryFrame m #[(.int 1)] 1))
  rw [ef]
  refine Way.by (fun _ k => XS.iloadN X0.here hx rfl (hb hby dNF1_0) rfl k) ?_
  show Way _ _ _ _ (s₁.setTop (mkF m 1 #[iv 1] [(.int 1)]))
  obtain ⟨_, _, ⟨T1, L3, k4, n5⟩, -, X2, ⟨Lc6, hQ7, l8, y9, z10⟩, st11⟩ := Jvm.LawKit.callS X0 hx (y := (⟨"java/lang/StringUTF16", "newBytesLength", "(I)I"⟩ : MethodName)) hown (mvT hZ (tw hw 92 rfl)) (mvT hZ (tw hw 93 rfl)) (mvT hZ (tw hw 72 rfl)) (mvT hZ (tw hw 94 rfl)) (by decide) (backOf (W := 0) (rmNL1 l Z a0 hw []  h0 n0 Z0 ) hZ (tw hw 94 rfl) (tw hw 72 rfl) (by decide) (by decide)) (g := (mkF m 1 #[iv 1] [(.int 1)])) rfl (by rw [hml]; rfl) (argsL := [(.int 1)]) (rest := []) (lenOf pdX1 rfl) rfl (leW rfl) (hb hby dNF1_1) (fun _ _ => ⟨rfl, e0, (leB rfl), (leB rfl)⟩)
  dsimp only [Pt.U, Pt.locs, Pt.cells, Pt.slots] at X2 l8 y9 z10 st11 hQ7
  subst l8 y9 z10
  obtain ⟨rfl, N17, e13⟩ := hQ7
  have N12 := Fr.app N0 N17
  refine Way.by st11 ?_
  show Way _ _ _ _ (T1.setTop (mkF m 4 #[iv 1] [(.int 2)]))
  obtain ⟨T19, h20, kc21, X22, e23, E24, A25, st26⟩ := newP X2 hx hZ (tw hw 19 rfl) e13 (g := (mkF m 4 #[iv 1] [(.int 2)])) rfl (hb hby dNF1_4) rfl (by decide) (cap := 2) (by decide) (by decide) (by decide) (by decide)
  obtain ⟨a27, g28⟩ : ∃ z, z = h0.size := ⟨_, rfl⟩
  rw [← g28] at A25 st26
  have nw30 : n0 ≤ a27 := Nat.le_trans Z0 (Nat.le_of_eq g28.symm)
  have hk31 : h0.size ≤ a27 := Nat.le_trans (Nat.le_refl h0.size) (Nat.le_of_eq g28.symm)
  have Z32 := Nat.le_trans Z0 E24.1
  have K33 := (Keep.refl h0 []).ext E24
  have hz34 := Nat.le_trans (Nat.le_refl h0.size) E24.1
  have V29 : Arv Z h20 a27 kc21 .byte (2 : Int32) [] (.int 0) := Arv.new A25 (by decide)
  refine Way.by st26 ?_
  show Way _ _ _ _ (T19.setTop (mkF m 6 #[iv 1] [(.ref a27)]))
  refine Way.ret (v := (some (.ref a27))) X22 hlk (fun h => by rw [Bd.returns] at h; cases h) (fun fs hr => retOut X22 hx Bd.returns rfl (Or.inr (Or.inr (Or.inr (Or.inr ⟨rfl, rfl, rfl⟩)))) (hb hby dNF1_6) hr) ?_ (by decide) (by decide)
  show QNF1 Z  h0 n0 _ T19.heap _
  rw [e23]
  exact ⟨a27, kc21, rfl, N12, K33, hk31, V29⟩
def QPC10 (Z : State) (pe : Addr) (kk : ClassId) (cc0 : Int32) (h0 : Heap) (n0 : Nat) (v : Option Value) (h : Heap) (L : List Loc) : Prop := v = none ∧ Fr n0 L ∧ Keep h0 h [pe] ∧ Arv Z h pe kk .byte (2 : Int32) [(.int (StrChars.lo8 cc0)), (.int (StrChars.hi8 cc0))] (.int 0)
theorem dPC10_0 : decode jdk_52_method_4_code 0 = .ok (.getstatic 44, 3) := by decide +kernel
theorem dPC10_3 : decode jdk_52_method_4_code 3 = .ok (.ifCond .ne 25, 3) := by decide +kernel
theorem dPC10_28 : decode jdk_52_method_4_code 28 = .ok (.iload_n 1, 1) := by decide +kernel
theorem dPC10_29 : decode jdk_52_method_4_code 29 = .ok (.iconst 1, 1) := by decide +kernel
theorem dPC10_30 : decode jdk_52_method_4_code 30 = .ok (.ishl, 1) := by decide +kernel
theorem dPC10_31 : decode jdk_52_method_4_code 31 = .ok (.istore_n 1, 1) := by decide +kernel
theorem dPC10_32 : decode jdk_52_method_4_code 32 = .ok (.aload_n 0, 1) := by decide +kernel
theorem dPC10_33 : decode jdk_52_method_4_code 33 = .ok (.iload_n 1, 1) := by decide +kernel
theorem dPC10_34 : decode jdk_52_method_4_code 34 = .ok (.iinc 1 1, 3) := by decide +kernel
theorem dPC10_37 : decode jdk_52_method_4_code 37 = .ok (.iload_n 2, 1) := by decide +kernel
theorem dPC10_38 : decode jdk_52_method_4_code 38 = .ok (.getstatic 59, 3) := by decide +kernel
theorem dPC10_41 : decode jdk_52_method_4_code 41 = .ok (.ishr, 1) := by decide +kernel
theorem dPC10_42 : decode jdk_52_method_4_code 42 = .ok (.i2b, 1) := by decide +kernel
theorem dPC10_43 : decode jdk_52_method_4_code 43 = .ok (.bastore, 1) := by decide +kernel
theorem dPC10_44 : decode jdk_52_method_4_code 44 = .ok (.aload_n 0, 1) := by decide +kernel
theorem dPC10_45 : decode jdk_52_method_4_code 45 = .ok (.iload_n 1, 1) := by decide +kernel
theorem dPC10_46 : decode jdk_52_method_4_code 46 = .ok (.iload_n 2, 1) := by decide +kernel
theorem dPC10_47 : decode jdk_52_method_4_code 47 = .ok (.getstatic 63, 3) := by decide +kernel
theorem dPC10_50 : decode jdk_52_method_4_code 50 = .ok (.ishr, 1) := by decide +kernel
theorem dPC10_51 : decode jdk_52_method_4_code 51 = .ok (.i2b, 1) := by decide +kernel
theorem dPC10_52 : decode jdk_52_method_4_code 52 = .ok (.bastore, 1) := by decide +kernel
theorem dPC10_53 : decode jdk_52_method_4_code 53 = .ok (.return_, 1) := by decide +kernel
theorem pdPC10 : parseMethodDescriptor "([BII)V" = some ⟨[(.array .byte), .int, .int], none⟩ := by decide +kernel
set_option maxRecDepth 65536 in
set_option maxHeartbeats 40000000 in
theorem rmPC10 (l : Launch) (Z : State) (a0 : Array Value) (hw : ∀ d ∈ tables_1, d.before a0 Z = true) (ws : List Jvm.Cond) (pe : Addr) (kk : ClassId) (cc0 : Int32) (h0 : Heap) (n0 : Nat) (Z0 : n0 ≤ h0.size) (H0 : Arv Z h0 pe kk .byte (2 : Int32) [] (.int 0)) (nw_pe : n0 ≤ pe) (O0 : Old Z n0 h0) (SV : own_Env Z) (SU : own_U16 Z) :
    MetFree l (⟨"java/lang/StringUTF16", "putChar", "([BII)V"⟩ : MethodName) (head1 (Jvm.Cond.code (⟨"java/lang/StringUTF16", "putChar", "([BII)V"⟩ : MethodName) jdk_52_method_4_code 3 none :: ws) ({ frames := 0, cells := 0, slots := 0, locals := 0 } : Room)) (fun aa U => aa = #[(.ref pe), (.int 0), (.int cc0)] ∧ Z.Warmed39 U.vm ∧ U.heap = h0) (fun _ _ _ _ _ => True) (fun _ U oo U' => ∃ v L, oo = .returned v ∧ QPC10 Z pe kk cc0 h0 n0 v U'.heap L ∧ FrameEnd U oo U' L ({ frames := 0, cells := 0, slots := 0, locals := 0 } : Room).cells ({ frames := 0, cells := 0, slots := 0, locals := 0 } : Room).slots) := by
  refine MetFree.of_bodySF (plainFor_of_name pnGC) hisR ?_
  intro p e s m args below meth c s₁ Bd hml0 hP hK
  obtain ⟨rfl, hZ, hh⟩ := hP
  have hx := Bd.exec
  have hby := Bd.bytes
  have hlk : meth.locks = false := BodyLoose.notSynchronized Bd
  have hml : c.maxLocals = 3 := hml0
  have hown : s.vm.findClass "java/lang/StringUTF16" = some m.cls := findClass_of_methodNamed Bd.named
  have hnm := (name_of_methodNamed Bd.named Bd.method).1
  have X0 : Stand p l e ({ frames := 0, cells := 0, slots := 0, locals := 0 } : Room) s m #[(.ref pe), (.int 0), (.int cc0)] below meth c s₁ [] 0 0 := Stand.of_body Bd
  have e0 : s₁.heap = h0 := by rw [← hh, Bd.state]; rfl
  have N0 := Fr.nil n0
  have ef : entryFrame m #[(.ref pe), (.int 0), (.int cc0)] 3 = mkF m 0 #[rv pe, iv 0, iv cc0] [] := by first | (simp [entryFrame, mkF, argsToLocals, Value.category, maxLocals]; done) | rfl
  show Way p.tables e below (KQ s (QPC10 Z pe kk cc0 h0 n0) ({ frames := 0, cells := 0, slots := 0, locals := 0 } : Room).cells ({ frames := 0, cells := 0, slots := 0, locals := 0 } : Room).slots) (s₁.setTop (entryFrame m #[(.ref pe), (.int 0), (.int cc0)] 3))
  rw [ef]
  obtain ⟨T1, X2, e3, st4⟩ := getS X0 hx hZ hown (host := "") (tw hw 99 rfl) Via.refl e0 (Sta.ext O0.2 SU.1) (g := (mkF m 0 #[rv pe, iv 0, iv cc0] [])) rfl (hb hby dPC10_0)
  refine Way.by st4 ?_
  show Way _ _ _ _ (T1.setTop (mkF m 3 #[rv pe, iv 0, iv cc0] [(.int 1)]))
  have b5 : ¬ (1 : Int32) = (0 : Int32) := by decide
  refine Way.by (fun _ k => XS.ifYes X2.here hx rfl (pc0 := 3) (pc' := 28) rfl (hb hby dPC10_3) rfl ((if0 .ne _).trans (feq b5).2) (by decide) (by decide) k) ?_
  show Way _ _ _ _ (T1.setTop (mkF m 28 #[rv pe, iv 0, iv cc0] []))
  refine Way.by (fun _ k => XS.iloadN X2.here hx rfl (hb hby dPC10_28) rfl k) ?_
  show Way _ _ _ _ (T1.setTop (mkF m 29 #[rv pe, iv 0, iv cc0] [(.int 0)]))
  refine Way.by (fun _ k => XS.iconst X2.here hx rfl (hb hby dPC10_29) k) ?_
  show Way _ _ _ _ (T1.setTop (mkF m 30 #[rv pe, iv 0, iv cc0] [(.int 1), (.int 0)]))
  refine Way.by (fun _ k => XT.ishl X2.here hx rfl (hb hby dPC10_30) rfl k) ?_
  show Way _ _ _ _ (T1.setTop (mkF m 31 #[rv pe, iv 0, iv cc0] [(.int 0)]))
  refine Way.by (fun _ k => XS.istoreN X2.here hx rfl (hb hby dPC10_31) rfl (l' := #[rv pe, iv 0, iv cc0]) rfl k) ?_
  show Way _ _ _ _ (T1.setTop (mkF m 32 #[rv pe, iv 0, iv cc0] []))
  refine Way.by (fun _ k => XS.aloadN X2.here hx rfl (hb hby dPC10_32) rfl rfl k) ?_
  show Way _ _ _ _ (T1.setTop (mkF m 33 #[rv pe, iv 0, iv cc0] [(.ref pe)]))
  refine Way.by (fun _ k => XS.iloadN X2.here hx rfl (hb hby dPC10_33) rfl k) ?_
  show Way _ _ _ _ (T1.setTop (mkF m 34 #[rv pe, iv 0, iv cc0] [(.int 0), (.ref pe)]))
  refine Way.by (fun _ k => XS.iinc X2.here hx rfl (hb hby dPC10_34) rfl (l' := #[rv pe, iv 1, iv cc0]) rfl k) ?_
  show Way _ _ _ _ (T1.setTop (mkF m 37 #[rv pe, iv 1, iv cc0] [(.int 0), (.ref pe)]))
  refine Way.by (fun _ k => XS.iloadN X2.here hx rfl (hb hby dPC10_37) rfl k) ?_
  show Way _ _ _ _ (T1.setTop (mkF m 38 #[rv pe, iv 1, iv cc0] [(.int cc0), (.int 0), (.ref pe)]))
  obtain ⟨T6, X7, e8, st9⟩ := getS X2 hx hZ hown (host := "") (tw hw 100 rfl) Via.refl e3 (Sta.ext O0.2 SU.2.1) (g := (mkF m 38 #[rv pe, iv 1, iv cc0] [(.int cc0), (.int 0), (.ref pe)])) rfl (hb hby dPC10_38)
  refine Way.by st9 ?_
  show Way _ _ _ _ (T6.setTop (mkF m 41 #[rv pe, iv 1, iv cc0] [(.int 0), (.int cc0), (.int 0), (.ref pe)]))
  refine Way.by (fun _ k => XT.ishr X7.here hx rfl (hb hby dPC10_41) rfl k) ?_
  show Way _ _ _ _ (T6.setTop (mkF m 42 #[rv pe, iv 1, iv cc0] [(.int (cc0 >>> ((0 : Int32) &&& 31))), (.int 0), (.ref pe)]))
  refine Way.by (fun _ k => XT.i2b X7.here hx rfl (hb hby dPC10_42) rfl k) ?_
  show Way _ _ _ _ (T6.setTop (mkF m 43 #[rv pe, iv 1, iv cc0] [(.int (cc0 >>> ((0 : Int32) &&& 31)).toInt8.toInt32), (.int 0), (.ref pe)]))
  have V10 : Arv Z h0 pe kk .byte (2 : Int32) [(.int 0)] (.int 0) := H0.pad (pad_rep [] (.int 0) 1)
  obtain ⟨c11, A12, q13, S14, M15, H16, U17⟩ := id V10
  obtain ⟨T18, h19, X20, e21, W22, st23⟩ := stB X7 hx hZ e8 A12 (j := (0 : Int32)) (inb_of S14 ⟨(by decide), (by decide)⟩) (g := (mkF m 43 #[rv pe, iv 1, iv cc0] [(.int (cc0 >>> ((0 : Int32) &&& 31)).toInt8.toInt32), (.int 0), (.ref pe)])) rfl rfl (hb hby dPC10_43)
  have N24 := Fr.snoc X20 N0 nw_pe
  have V25 : Arv Z h19 pe kk .byte (2 : Int32) [(.int (nar .byte (cc0 >>> ((0 : Int32) &&& 31)).toInt8.toInt32))] (.int 0) := Arv.set A12 q13 S14 M15 H16 U17 (fits_nar_byte _) W22 0 rfl (leB rfl)
  have Z26 : n0 ≤ h19.size := by rw [W22.size]; exact Z0
  have O27 := O0.wr W22 nw_pe
  have K28 := (Keep.refl h0 [pe]).wr W22 (Or.inl (List.mem_of_getElem? (i := 0) rfl))
  have hz29 : h0.size ≤ h19.size := by rw [W22.size]; exact (Nat.le_refl h0.size)
  refine Way.by st23 ?_
  show Way _ _ _ _ (T18.setTop (mkF m 44 #[rv pe, iv 1, iv cc0] []))
  refine Way.by (fun _ k => XS.aloadN X20.here hx rfl (hb hby dPC10_44) rfl rfl k) ?_
  show Way _ _ _ _ (T18.setTop (mkF m 45 #[rv pe, iv 1, iv cc0] [(.ref pe)]))
  refine Way.by (fun _ k => XS.iloadN X20.here hx rfl (hb hby dPC10_45) rfl k) ?_
  show Way _ _ _ _ (T18.setTop (mkF m 46 #[rv pe, iv 1, iv cc0] [(.int 1), (.ref pe)]))
  refine Way.by (fun _ k => XS.iloadN X20.here hx rfl (hb hby dPC10_46) rfl k) ?_
  show Way _ _ _ _ (T18.setTop (mkF m 47 #[rv pe, iv 1, iv cc0] [(.int cc0), (.int 1), (.ref pe)]))
  obtain ⟨T30, X31, e32, st33⟩ := getS X20 hx hZ hown (host := "") (tw hw 101 rfl) Via.refl e21 (Sta.ext O27.2 SU.2.2) (g := (mkF m 47 #[rv pe, iv 1, iv cc0] [(.int cc0), (.int 1), (.ref pe)])) rfl (hb hby dPC10_47)
  refine Way.by st33 ?_
  show Way _ _ _ _ (T30.setTop (mkF m 50 #[rv pe, iv 1, iv cc0] [(.int 8), (.int cc0), (.int 1), (.ref pe)]))
  refine Way.by (fun _ k => XT.ishr X31.here hx rfl (hb hby dPC10_50) rfl k) ?_
  show Way _ _ _ _ (T30.setTop (mkF m 51 #[rv pe, iv 1, iv cc0] [(.int (cc0 >>> ((8 : Int32) &&& 31))), (.int 1), (.ref pe)]))
  refine Way.by (fun _ k => XT.i2b X31.here hx rfl (hb hby dPC10_51) rfl k) ?_
  show Way _ _ _ _ (T30.setTop (mkF m 52 #[rv pe, iv 1, iv cc0] [(.int (cc0 >>> ((8 : Int32) &&& 31)).toInt8.toInt32), (.int 1), (.ref pe)]))
  have V34 : Arv Z h19 pe kk .byte (2 : Int32) [(.int (nar .byte (cc0 >>> ((0 : Int32) &&& 31)).toInt8.toInt32)), (.int 0)] (.int 0) := V25.pad (pad_rep [(.int (nar .byte (cc0 >>> ((0 : Int32) &&& 31)).toInt8.toInt32))] (.int 0) 1)
  obtain ⟨c35, A36, q37, S38, M39, H40, U41⟩ := id V34
  obtain ⟨T42, h43, X44, e45, W46, st47⟩ := stB X31 hx hZ e32 A36 (j := (1 : Int32)) (inb_of S38 ⟨(by decide), (by decide)⟩) (g := (mkF m 52 #[rv pe, iv 1, iv cc0] [(.int (cc0 >>> ((8 : Int32) &&& 31)).toInt8.toInt32), (.int 1), (.ref pe)])) rfl rfl (hb hby dPC10_52)
  have N48 := Fr.snoc X44 N24 nw_pe
  have V49 : Arv Z h43 pe kk .byte (2 : Int32) [(.int (nar .byte (cc0 >>> ((0 : Int32) &&& 31)).toInt8.toInt32)), (.int (nar .byte (cc0 >>> ((8 : Int32) &&& 31)).toInt8.toInt32))] (.int 0) := Arv.set A36 q37 S38 M39 H40 U41 (fits_nar_byte _) W46 1 rfl (leB rfl)
  have Z50 : n0 ≤ h43.size := by rw [W46.size]; exact Z26
  have O51 := O27.wr W46 nw_pe
  have K52 := K28.wr W46 (Or.inl (List.mem_of_getElem? (i := 0) rfl))
  have hz53 : h0.size ≤ h43.size := by rw [W46.size]; exact hz29
  refine Way.by st47 ?_
  show Way _ _ _ _ (T42.setTop (mkF m 53 #[rv pe, iv 1, iv cc0] []))
  refine Way.ret (v := none) X44 hlk (fun _ => rfl) (fun fs hr => X44.returnOut hx Bd.returns (hb hby dPC10_53) hr) ?_ (by decide) (by decide)
  show QPC10 Z pe kk cc0 h0 n0 _ T42.heap _
  rw [e45]
  have AF : Arv Z h43 pe kk .byte (2 : Int32) [(.int (StrChars.lo8 cc0)), (.int (StrChars.hi8 cc0))] (.int 0) := by have q := V49; rw [own_nb0 cc0, own_nb8 cc0] at q; exact q
  exact ⟨rfl, N48, K52, AF⟩
def QTB1 (Z : State) (pb : Addr) (kc : ClassId) (cc0 : Int32) (h0 : Heap) (n0 : Nat) (v : Option Value) (h : Heap) (L : List Loc) : Prop := ∃ (pe : Addr) (kk : ClassId), v = some (.ref pe) ∧ Fr n0 L ∧ Keep h0 h [] ∧ h0.size ≤ pe ∧ Arv Z h pe kk .byte (2 : Int32) [(.int (StrChars.lo8 cc0)), (.int (StrChars.hi8 cc0))] (.int 0)
theorem dTB1_0 : decode jdk_52_method_14_code 0 = .ok (.iload_n 2, 1) := by decide +kernel
theorem dTB1_1 : decode jdk_52_method_14_code 1 = .ok (.invokestatic 107, 3) := by decide +kernel
theorem dTB1_4 : decode jdk_52_method_14_code 4 = .ok (.astore_n 3, 1) := by decide +kernel
theorem dTB1_5 : decode jdk_52_method_14_code 5 = .ok (.iconst 0, 1) := by decide +kernel
theorem dTB1_6 : decode jdk_52_method_14_code 6 = .ok (.istore 4, 2) := by decide +kernel
theorem dTB1_8 : decode jdk_52_method_14_code 8 = .ok (.iload 4, 2) := by decide +kernel
theorem dTB1_10 : decode jdk_52_method_14_code 10 = .ok (.iload_n 2, 1) := by decide +kernel
theorem dTB1_11 : decode jdk_52_method_14_code 11 = .ok (.if_icmp .ge 21, 3) := by decide +kernel
theorem dTB1_14 : decode jdk_52_method_14_code 14 = .ok (.aload_n 3, 1) := by decide +kernel
theorem dTB1_15 : decode jdk_52_method_14_code 15 = .ok (.iload 4, 2) := by decide +kernel
theorem dTB1_17 : decode jdk_52_method_14_code 17 = .ok (.aload_n 0, 1) := by decide +kernel
theorem dTB1_18 : decode jdk_52_method_14_code 18 = .ok (.iload_n 1, 1) := by decide +kernel
theorem dTB1_19 : decode jdk_52_method_14_code 19 = .ok (.caload, 1) := by decide +kernel
theorem dTB1_20 : decode jdk_52_method_14_code 20 = .ok (.invokestatic 111, 3) := by decide +kernel
theorem dTB1_23 : decode jdk_52_method_14_code 23 = .ok (.iinc 1 1, 3) := by decide +kernel
theorem dTB1_26 : decode jdk_52_method_14_code 26 = .ok (.iinc 4 1, 3) := by decide +kernel
theorem dTB1_29 : decode jdk_52_method_14_code 29 = .ok (.goto (-21), 3) := by decide +kernel
theorem dTB1_32 : decode jdk_52_method_14_code 32 = .ok (.aload_n 3, 1) := by decide +kernel
theorem dTB1_33 : decode jdk_52_method_14_code 33 = .ok (.areturn, 1) := by decide +kernel
theorem pdTB1 : parseMethodDescriptor "([CII)[B" = some ⟨[(.array .char), .int, .int], some (.array .byte)⟩ := by decide +kernel
set_option maxRecDepth 65536 in
set_option maxHeartbeats 40000000 in
theorem rmTB1 (l : Launch) (Z : State) (a0 : Array Value) (hw : ∀ d ∈ tables_1, d.before a0 Z = true) (ws : List Jvm.Cond) (pb : Addr) (kc : ClassId) (cc0 : Int32) (h0 : Heap) (n0 : Nat) (Z0 : n0 ≤ h0.size) (H0 : Arv Z h0 pb kc .char (1 : Int32) [(.int cc0)] (.int 0)) (O0 : Old Z n0 h0) (SV : own_Env Z) (SU : own_U16 Z) :
    MetFree l (⟨"java/lang/StringUTF16", "toBytes", "([CII)[B"⟩ : MethodName) (head1 (Jvm.Cond.code (⟨"java/lang/StringUTF16", "toBytes", "([CII)[B"⟩ : MethodName) jdk_52_method_14_code 5 (some (.array .byte)) :: ws) ({ frames := 2, cells := 1, slots := 2, locals := 24 } : Room)) (fun aa U => aa = #[(.ref pb), (.int 0), (.int 1)] ∧ Z.Warmed39 U.vm ∧ U.heap = h0) (fun _ _ _ _ _ => True) (fun _ U oo U' => ∃ v L, oo = .returned v ∧ QTB1 Z pb kc cc0 h0 n0 v U'.heap L ∧ FrameEnd U oo U' L ({ frames := 2, cells := 1, slots := 2, locals := 24 } : Room).cells ({ frames := 2, cells := 1, slots := 2, locals := 24 } : Room).slots) := by
  refine MetFree.of_bodySF (plainFor_of_name pnGC) hisR ?_
  intro p e s m args below meth c s₁ Bd hml0 hP hK
  obtain ⟨rfl, hZ, hh⟩ := hP
  have hx := Bd.exec
  have hby := Bd.bytes
  have hlk : meth.locks = false := BodyLoose.notSynchronized Bd
  have hml : c.maxLocals = 5 := hml0
  have hown : s.vm.findClass "java/lang/StringUTF16" = some m.cls := findClass_of_methodNamed Bd.named
  have hnm := (name_of_methodNamed Bd.named Bd.method).1
  have X0 : Stand p l e ({ frames := 2, cells := 1, slots := 2, locals := 24 } : Room) s m #[(.ref pb), (.int 0), (.int 1)] below meth c s₁ [] 0 0 := Stand.of_body Bd
  have e0 : s₁.heap = h0 := by rw [← hh, Bd.state]; rfl
  have N0 := Fr.nil n0
  have ef : entryFrame m #[(.ref pb), (.int 0), (.int 1)] 5 = mkF m 0 #[rv pb, iv 0, iv 1, .unset, .unset] [] := by first | (simp [entryFrame, mkF, argsToLocals, Value.category, maxLocals]; done) | rfl
  show Way p.tables e below (KQ s (QTB1 Z pb kc cc0 h0 n0) ({ frames := 2, cells := 1, slots := 2, locals := 24 } : Room).cells ({ frames := 2, cells := 1, slots := 2, locals := 24 } : Room).slots) (s₁.setTop (entryFrame m #[(.ref pb), (.int 0), (.int 1)] 5))
  rw [ef]
  refine Way.by (fun _ k => XS.iloadN X0.here hx rfl (hb hby dTB1_0) rfl k) ?_
  show Way _ _ _ _ (s₁.setTop (mkF m 1 #[rv pb, iv 0, iv 1, .unset, .unset] [(.int 1)]))
  obtain ⟨_, _, ⟨T1, L3, k4, n5⟩, -, X2, ⟨Lc6, hQ7, l8, y9, z10⟩, st11⟩ := Jvm.LawKit.callS X0 hx (y := (⟨"java/lang/StringUTF16", "newBytesFor", "(I)[B"⟩ : MethodName)) hown (mvT hZ (tw hw 89 rfl)) (mvT hZ (tw hw 90 rfl)) (mvT hZ (tw hw 72 rfl)) (mvT hZ (tw hw 91 rfl)) (by decide) (backOf (W := 0) (rmNF1 l Z a0 hw []  h0 n0 Z0 ) hZ (tw hw 91 rfl) (tw hw 72 rfl) (by decide) (by decide)) (g := (mkF m 1 #[rv pb, iv 0, iv 1, .unset, .unset] [(.int 1)])) rfl (by rw [hml]; rfl) (argsL := [(.int 1)]) (rest := []) (lenOf pdNF1 rfl) rfl (leW rfl) (hb hby dTB1_1) (fun _ _ => ⟨rfl, e0, (leB rfl), (leB rfl)⟩)
  dsimp only [Pt.U, Pt.locs, Pt.cells, Pt.slots] at X2 l8 y9 z10 st11 hQ7
  subst l8 y9 z10
  obtain ⟨x_pe22, x_kk21, rfl, N17, K18, fr_pe20, F_019⟩ := hQ7
  have N12 := Fr.app N0 N17
  have ne23 : pb ≠ x_pe22 := Nat.ne_of_lt (Nat.lt_of_lt_of_le H0.lt fr_pe20)
  have nw24 : n0 ≤ x_pe22 := Nat.le_trans Z0 fr_pe20
  have hk25 : h0.size ≤ x_pe22 := Nat.le_trans (Nat.le_refl h0.size) fr_pe20
  have A26 := H0.keep K18 nin0
  have Z27 := Nat.le_trans Z0 K18.1
  have O28 := O0.keep K18 all0
  have K29 := (Keep.refl h0 []).trans K18 all0
  have hz30 := Nat.le_trans (Nat.le_refl h0.size) K18.1
  refine Way.by st11 ?_
  show Way _ _ _ _ (T1.setTop (mkF m 4 #[rv pb, iv 0, iv 1, .unset, .unset] [(.ref x_pe22)]))
  refine Way.by (fun _ k => XS.astoreN X2.here hx rfl (hb hby dTB1_4) rfl rfl (l' := #[rv pb, iv 0, iv 1, rv x_pe22, .unset]) rfl k) ?_
  show Way _ _ _ _ (T1.setTop (mkF m 5 #[rv pb, iv 0, iv 1, rv x_pe22, .unset] []))
  refine Way.by (fun _ k => XS.iconst X2.here hx rfl (hb hby dTB1_5) k) ?_
  show Way _ _ _ _ (T1.setTop (mkF m 6 #[rv pb, iv 0, iv 1, rv x_pe22, .unset] [(.int 0)]))
  refine Way.by (fun _ k => XS.istore X2.here hx rfl (hb hby dTB1_6) rfl (l' := #[rv pb, iv 0, iv 1, rv x_pe22, iv 0]) rfl k) ?_
  show Way _ _ _ _ (T1.setTop (mkF m 8 #[rv pb, iv 0, iv 1, rv x_pe22, iv 0] []))
  refine Way.by (fun _ k => XS.iload X2.here hx rfl (hb hby dTB1_8) rfl k) ?_
  show Way _ _ _ _ (T1.setTop (mkF m 10 #[rv pb, iv 0, iv 1, rv x_pe22, iv 0] [(.int 0)]))
  refine Way.by (fun _ k => XS.iloadN X2.here hx rfl (hb hby dTB1_10) rfl k) ?_
  show Way _ _ _ _ (T1.setTop (mkF m 11 #[rv pb, iv 0, iv 1, rv x_pe22, iv 0] [(.int 1), (.int 0)]))
  have b31 : (0 : Int32) < (1 : Int32) := by decide
  refine Way.by (fun _ k => XS.icmpNo X2.here hx rfl (hb hby dTB1_11) rfl (tlt b31).2.1 k) ?_
  show Way _ _ _ _ (T1.setTop (mkF m 14 #[rv pb, iv 0, iv 1, rv x_pe22, iv 0] []))
  refine Way.by (fun _ k => XS.aloadN X2.here hx rfl (hb hby dTB1_14) rfl rfl k) ?_
  show Way _ _ _ _ (T1.setTop (mkF m 15 #[rv pb, iv 0, iv 1, rv x_pe22, iv 0] [(.ref x_pe22)]))
  refine Way.by (fun _ k => XS.iload X2.here hx rfl (hb hby dTB1_15) rfl k) ?_
  show Way _ _ _ _ (T1.setTop (mkF m 17 #[rv pb, iv 0, iv 1, rv x_pe22, iv 0] [(.int 0), (.ref x_pe22)]))
  refine Way.by (fun _ k => XS.aloadN X2.here hx rfl (hb hby dTB1_17) rfl rfl k) ?_
  show Way _ _ _ _ (T1.setTop (mkF m 18 #[rv pb, iv 0, iv 1, rv x_pe22, iv 0] [(.ref pb), (.int 0), (.ref x_pe22)]))
  refine Way.by (fun _ k => XS.iloadN X2.here hx rfl (hb hby dTB1_18) rfl k) ?_
  show Way _ _ _ _ (T1.setTop (mkF m 19 #[rv pb, iv 0, iv 1, rv x_pe22, iv 0] [(.int 0), (.ref pb), (.int 0), (.ref x_pe22)]))
  obtain ⟨c32, A33, q34, S35, M36, H37, U38⟩ := id A26
  refine Way.by (fun t k => Stand.caload X2 hx (hpE rfl A33.1) (arrS hZ A33) A33.2.2 (inb_of S35 ⟨(by decide), (by decide)⟩) (Has.at H37 (inb_of S35 ⟨(by decide), (by decide)⟩) rfl) (g := (mkF m 19 #[rv pb, iv 0, iv 1, rv x_pe22, iv 0] [(.int 0), (.ref pb), (.int 0), (.ref x_pe22)])) rfl rfl (hb hby dTB1_19) t k) ?_
  show Way _ _ _ _ (T1.setTop (mkF m 20 #[rv pb, iv 0, iv 1, rv x_pe22, iv 0] [(.int cc0), (.int 0), (.ref x_pe22)]))
  obtain ⟨_, _, ⟨T39, L41, k42, n43⟩, -, X40, ⟨Lc44, hQ45, l46, y47, z48⟩, st49⟩ := Jvm.LawKit.callS X2 hx (y := (⟨"java/lang/StringUTF16", "putChar", "([BII)V"⟩ : MethodName)) hown (mvT hZ (tw hw 96 rfl)) (mvT hZ (tw hw 97 rfl)) (mvT hZ (tw hw 72 rfl)) (mvT hZ (tw hw 98 rfl)) (by decide) (backOf (W := 0) (rmPC10 l Z a0 hw [] x_pe22 x_kk21 cc0 T1.heap n0 Z27 F_019 nw24 O28 SV SU) hZ (tw hw 98 rfl) (tw hw 72 rfl) (by decide) (by decide)) (g := (mkF m 20 #[rv pb, iv 0, iv 1, rv x_pe22, iv 0] [(.int cc0), (.int 0), (.ref x_pe22)])) rfl (by rw [hml]; rfl) (argsL := [(.ref x_pe22), (.int 0), (.int cc0)]) (rest := []) (lenOf pdPC10 rfl) rfl (leW rfl) (hb hby dTB1_20) (fun _ _ => ⟨rfl, rfl, (leB rfl), (leB rfl)⟩)
  dsimp only [Pt.U, Pt.locs, Pt.cells, Pt.slots] at X40 l46 y47 z48 st49 hQ45
  subst l46 y47 z48
  obtain ⟨rfl, N55, K56, F_057⟩ := hQ45
  have N50 := Fr.app N12 N55
  have A58 := A26.keep K56 (ninS ne23 nin0)
  have Z59 := Nat.le_trans Z27 K56.1
  have O60 := O28.keep K56 (allS nw24 all0)
  have K61 := K29.trans K56 (allS (Or.inr hk25) all0)
  have hz62 := Nat.le_trans hz30 K56.1
  refine Way.by st49 ?_
  show Way _ _ _ _ (T39.setTop (mkF m 23 #[rv pb, iv 0, iv 1, rv x_pe22, iv 0] []))
  refine Way.by (fun _ k => XS.iinc X40.here hx rfl (hb hby dTB1_23) rfl (l' := #[rv pb, iv 1, iv 1, rv x_pe22, iv 0]) rfl k) ?_
  show Way _ _ _ _ (T39.setTop (mkF m 26 #[rv pb, iv 1, iv 1, rv x_pe22, iv 0] []))
  refine Way.by (fun _ k => XS.iinc X40.here hx rfl (hb hby dTB1_26) rfl (l' := #[rv pb, iv 1, iv 1, rv x_pe22, iv 1]) rfl k) ?_
  show Way _ _ _ _ (T39.setTop (mkF m 29 #[rv pb, iv 1, iv 1, rv x_pe22, iv 1] []))
  refine Way.by (fun _ k => XS.goto X40.here hx rfl (pc0 := 29) (pc' := 8) rfl (hb hby dTB1_29) (by decide) (by decide) k) ?_
  show Way _ _ _ _ (T39.setTop (mkF m 8 #[rv pb, iv 1, iv 1, rv x_pe22, iv 1] []))
  refine Way.by (fun _ k => XS.iload X40.here hx rfl (hb hby dTB1_8) rfl k) ?_
  show Way _ _ _ _ (T39.setTop (mkF m 10 #[rv pb, iv 1, iv 1, rv x_pe22, iv 1] [(.int 1)]))
  refine Way.by (fun _ k => XS.iloadN X40.here hx rfl (hb hby dTB1_10) rfl k) ?_
  show Way _ _ _ _ (T39.setTop (mkF m 11 #[rv pb, iv 1, iv 1, rv x_pe22, iv 1] [(.int 1), (.int 1)]))
  have b63 : ¬ (1 : Int32) < (1 : Int32) := by decide
  refine Way.by (fun _ k => XS.icmpYes X40.here hx rfl (pc0 := 11) (pc' := 32) rfl (hb hby dTB1_11) rfl (flt b63).2.1 (by decide) (by decide) k) ?_
  show Way _ _ _ _ (T39.setTop (mkF m 32 #[rv pb, iv 1, iv 1, rv x_pe22, iv 1] []))
  refine Way.by (fun _ k => XS.aloadN X40.here hx rfl (hb hby dTB1_32) rfl rfl k) ?_
  show Way _ _ _ _ (T39.setTop (mkF m 33 #[rv pb, iv 1, iv 1, rv x_pe22, iv 1] [(.ref x_pe22)]))
  refine Way.ret (v := (some (.ref x_pe22))) X40 hlk (fun h => by rw [Bd.returns] at h; cases h) (fun fs hr => retOut X40 hx Bd.returns rfl (Or.inr (Or.inr (Or.inr (Or.inr ⟨rfl, rfl, rfl⟩)))) (hb hby dTB1_33) hr) ?_ (by decide) (by decide)
  show QTB1 Z pb kc cc0 h0 n0 _ T39.heap _
  skip
  exact ⟨x_pe22, x_kk21, rfl, N50, K61, hk25, F_057⟩
def QC31 (Z : State) (pb : Addr) (kc : ClassId) (cc0 : Int32) (h0 : Heap) (n0 : Nat) (v : Option Value) (h : Heap) (L : List Loc) : Prop := ∃ (pe : Addr) (kk : ClassId), v = some (.ref pe) ∧ Fr n0 L ∧ Keep h0 h [] ∧ h0.size ≤ pe ∧ Arv Z h pe kk .byte (2 : Int32) [(.int (StrChars.lo8 cc0)), (.int (StrChars.hi8 cc0))] (.int 0)
theorem dC31_0 : decode jdk_52_method_16_code 0 = .ok (.iload_n 2, 1) := by decide +kernel
theorem dC31_1 : decode jdk_52_method_16_code 1 = .ok (.newarray .byte, 2) := by decide +kernel
theorem dC31_3 : decode jdk_52_method_16_code 3 = .ok (.astore_n 3, 1) := by decide +kernel
theorem dC31_4 : decode jdk_52_method_16_code 4 = .ok (.aload_n 0, 1) := by decide +kernel
theorem dC31_5 : decode jdk_52_method_16_code 5 = .ok (.iload_n 1, 1) := by decide +kernel
theorem dC31_6 : decode jdk_52_method_16_code 6 = .ok (.aload_n 3, 1) := by decide +kernel
theorem dC31_7 : decode jdk_52_method_16_code 7 = .ok (.iconst 0, 1) := by decide +kernel
theorem dC31_8 : decode jdk_52_method_16_code 8 = .ok (.iload_n 2, 1) := by decide +kernel
theorem dC31_9 : decode jdk_52_method_16_code 9 = .ok (.invokestatic 115, 3) := by decide +kernel
theorem dC31_12 : decode jdk_52_method_16_code 12 = .ok (.istore 4, 2) := by decide +kernel
theorem dC31_14 : decode jdk_52_method_16_code 14 = .ok (.iload 4, 2) := by decide +kernel
theorem dC31_16 : decode jdk_52_method_16_code 16 = .ok (.iload_n 2, 1) := by decide +kernel
theorem dC31_17 : decode jdk_52_method_16_code 17 = .ok (.if_icmp .eq 40, 3) := by decide +kernel
theorem dC31_20 : decode jdk_52_method_16_code 20 = .ok (.aload_n 0, 1) := by decide +kernel
theorem dC31_21 : decode jdk_52_method_16_code 21 = .ok (.iload_n 1, 1) := by decide +kernel
theorem dC31_22 : decode jdk_52_method_16_code 22 = .ok (.iload_n 2, 1) := by decide +kernel
theorem dC31_23 : decode jdk_52_method_16_code 23 = .ok (.invokestatic 119, 3) := by decide +kernel
theorem dC31_26 : decode jdk_52_method_16_code 26 = .ok (.astore 5, 2) := by decide +kernel
theorem dC31_28 : decode jdk_52_method_16_code 28 = .ok (.aload 5, 2) := by decide +kernel
theorem dC31_30 : decode jdk_52_method_16_code 30 = .ok (.iload 4, 2) := by decide +kernel
theorem dC31_32 : decode jdk_52_method_16_code 32 = .ok (.invokestatic 71, 3) := by decide +kernel
theorem dC31_35 : decode jdk_52_method_16_code 35 = .ok (.sipush 255, 3) := by decide +kernel
theorem dC31_38 : decode jdk_52_method_16_code 38 = .ok (.if_icmp .gt 16, 3) := by decide +kernel
theorem dC31_54 : decode jdk_52_method_16_code 54 = .ok (.aload 5, 2) := by decide +kernel
theorem dC31_56 : decode jdk_52_method_16_code 56 = .ok (.areturn, 1) := by decide +kernel
set_option maxRecDepth 65536 in
set_option maxHeartbeats 40000000 in
theorem rmC31 (l : Launch) (Z : State) (a0 : Array Value) (hw : ∀ d ∈ tables_1, d.before a0 Z = true) (ws : List Jvm.Cond) (pb : Addr) (kc : ClassId) (cc0 : Int32) (h0 : Heap) (n0 : Nat) (Z0 : n0 ≤ h0.size) (H0 : Arv Z h0 pb kc .char (1 : Int32) [(.int cc0)] (.int 0)) (hB : ∀ c ∈ ([cc0] : List Int32), ¬ c < 0 ∧ ¬ (65535 : Int32) < c) (hU : (255 : Int32) < cc0) (O0 : Old Z n0 h0) (SV : own_Env Z) (SU : own_U16 Z) :
    MetFree l (⟨"java/lang/StringUTF16", "compress", "([CII)[B"⟩ : MethodName) (head1 (Jvm.Cond.code (⟨"java/lang/StringUTF16", "compress", "([CII)[B"⟩ : MethodName) jdk_52_method_16_code 6 (some (.array .byte)) :: ws) ({ frames := 3, cells := 2, slots := 3, locals := 40 } : Room)) (fun aa U => aa = #[(.ref pb), (.int 0), (.int 1)] ∧ Z.Warmed39 U.vm ∧ U.heap = h0) (fun _ _ _ _ _ => True) (fun _ U oo U' => ∃ v L, oo = .returned v ∧ QC31 Z pb kc cc0 h0 n0 v U'.heap L ∧ FrameEnd U oo U' L ({ frames := 3, cells := 2, slots := 3, locals := 40 } : Room).cells ({ frames := 3, cells := 2, slots := 3, locals := 40 } : Room).slots) := by
  refine MetFree.of_bodySF (plainFor_of_name pnGC) hisR ?_
  intro p e s m args below meth c s₁ Bd hml0 hP hK
  obtain ⟨rfl, hZ, hh⟩ := hP
  have hx := Bd.exec
  have hby := Bd.bytes
  have hlk : meth.locks = false := BodyLoose.notSynchronized Bd
  have hml : c.maxLocals = 6 := hml0
  have hown : s.vm.findClass "java/lang/StringUTF16" = some m.cls := findClass_of_methodNamed Bd.named
  have hnm := (name_of_methodNamed Bd.named Bd.method).1
  have X0 : Stand p l e ({ frames := 3, cells := 2, slots := 3, locals := 40 } : Room) s m #[(.ref pb), (.int 0), (.int 1)] below meth c s₁ [] 0 0 := Stand.of_body Bd
  have e0 : s₁.heap = h0 := by rw [← hh, Bd.state]; rfl
  have N0 := Fr.nil n0
  have ef : entryFrame m #[(.ref pb), (.int 0), (.int 1)] 6 = mkF m 0 #[rv pb, iv 0, iv 1, .unset, .unset, .unset] [] := by first | (simp [entryFrame, mkF, argsToLocals, Value.category, maxLocals]; done) | rfl
  show Way p.tables e below (KQ s (QC31 Z pb kc cc0 h0 n0) ({ frames := 3, cells := 2, slots := 3, locals := 40 } : Room).cells ({ frames := 3, cells := 2, slots := 3, locals := 40 } : Room).slots) (s₁.setTop (entryFrame m #[(.ref pb), (.int 0), (.int 1)] 6))
  rw [ef]
  have hk0 : (255 : Int32) < cc0 := hU
  show Way _ _ _ _ (s₁.setTop (mkF m 0 #[rv pb, iv 0, iv 1, .unset, .unset, .unset] []))
  refine Way.by (fun _ k => XS.iloadN X0.here hx rfl (hb hby dC31_0) rfl k) ?_
  show Way _ _ _ _ (s₁.setTop (mkF m 1 #[rv pb, iv 0, iv 1, .unset, .unset, .unset] [(.int 1)]))
  obtain ⟨T1, h2, kc3, X4, e5, E6, A7, st8⟩ := newP X0 hx hZ (tw hw 19 rfl) e0 (g := (mkF m 1 #[rv pb, iv 0, iv 1, .unset, .unset, .unset] [(.int 1)])) rfl (hb hby dC31_1) rfl (by decide) (cap := 1) (by decide) (by decide) (by decide) (by decide)
  obtain ⟨a9, g10⟩ : ∃ z, z = h0.size := ⟨_, rfl⟩
  rw [← g10] at A7 st8
  have ne12 : pb ≠ a9 := Nat.ne_of_lt (Nat.lt_of_lt_of_eq H0.lt g10.symm)
  have nw13 : n0 ≤ a9 := Nat.le_trans Z0 (Nat.le_of_eq g10.symm)
  have hk14 : h0.size ≤ a9 := Nat.le_trans (Nat.le_refl h0.size) (Nat.le_of_eq g10.symm)
  have A15 := H0.ext E6
  have Z16 := Nat.le_trans Z0 E6.1
  have O17 := O0.ext E6
  have K18 := (Keep.refl h0 []).ext E6
  have hz19 := Nat.le_trans (Nat.le_refl h0.size) E6.1
  have V11 : Arv Z h2 a9 kc3 .byte (1 : Int32) [] (.int 0) := Arv.new A7 (by decide)
  refine Way.by st8 ?_
  show Way _ _ _ _ (T1.setTop (mkF m 3 #[rv pb, iv 0, iv 1, .unset, .unset, .unset] [(.ref a9)]))
  refine Way.by (fun _ k => XS.astoreN X4.here hx rfl (hb hby dC31_3) rfl rfl (l' := #[rv pb, iv 0, iv 1, rv a9, .unset, .unset]) rfl k) ?_
  show Way _ _ _ _ (T1.setTop (mkF m 4 #[rv pb, iv 0, iv 1, rv a9, .unset, .unset] []))
  refine Way.by (fun _ k => XS.aloadN X4.here hx rfl (hb hby dC31_4) rfl rfl k) ?_
  show Way _ _ _ _ (T1.setTop (mkF m 5 #[rv pb, iv 0, iv 1, rv a9, .unset, .unset] [(.ref pb)]))
  refine Way.by (fun _ k => XS.iloadN X4.here hx rfl (hb hby dC31_5) rfl k) ?_
  show Way _ _ _ _ (T1.setTop (mkF m 6 #[rv pb, iv 0, iv 1, rv a9, .unset, .unset] [(.int 0), (.ref pb)]))
  refine Way.by (fun _ k => XS.aloadN X4.here hx rfl (hb hby dC31_6) rfl rfl k) ?_
  show Way _ _ _ _ (T1.setTop (mkF m 7 #[rv pb, iv 0, iv 1, rv a9, .unset, .unset] [(.ref a9), (.int 0), (.ref pb)]))
  refine Way.by (fun _ k => XS.iconst X4.here hx rfl (hb hby dC31_7) k) ?_
  show Way _ _ _ _ (T1.setTop (mkF m 8 #[rv pb, iv 0, iv 1, rv a9, .unset, .unset] [(.int 0), (.ref a9), (.int 0), (.ref pb)]))
  refine Way.by (fun _ k => XS.iloadN X4.here hx rfl (hb hby dC31_8) rfl k) ?_
  show Way _ _ _ _ (T1.setTop (mkF m 9 #[rv pb, iv 0, iv 1, rv a9, .unset, .unset] [(.int 1), (.int 0), (.ref a9), (.int 0), (.ref pb)]))
  obtain ⟨_, _, ⟨T20, L22, k23, n24⟩, -, X21, ⟨Lc25, hQ26, l27, y28, z29⟩, st30⟩ := Jvm.LawKit.callS X4 hx (y := (⟨"java/lang/StringUTF16", "compress", "([CI[BII)I"⟩ : MethodName)) hown (mvT hZ (tw hw 74 rfl)) (mvT hZ (tw hw 75 rfl)) (mvT hZ (tw hw 72 rfl)) (mvT hZ (tw hw 76 rfl)) (by decide) (backOf (W := 0) (rmC510 l Z a0 hw [] pb kc a9 kc3 cc0 h2 n0 Z16 A15 V11 hk0 ne12 nw13) hZ (tw hw 76 rfl) (tw hw 72 rfl) (by decide) (by decide)) (g := (mkF m 9 #[rv pb, iv 0, iv 1, rv a9, .unset, .unset] [(.int 1), (.int 0), (.ref a9), (.int 0), (.ref pb)])) rfl (by rw [hml]; rfl) (argsL := [(.ref pb), (.int 0), (.ref a9), (.int 0), (.int 1)]) (rest := []) (lenOf pdC510 rfl) rfl (leW rfl) (hb hby dC31_9) (fun _ _ => ⟨rfl, e5, (leB rfl), (leB rfl)⟩)
  dsimp only [Pt.U, Pt.locs, Pt.cells, Pt.slots] at X21 l27 y28 z29 st30 hQ26
  subst l27 y28 z29
  obtain ⟨rfl, N36, K37⟩ := hQ26
  have N31 := Fr.app N0 N36
  have A38 := A15.keep K37 (ninS ne12 nin0)
  have Z39 := Nat.le_trans Z16 K37.1
  have O40 := O17.keep K37 (allS nw13 all0)
  have K41 := K18.trans K37 (allS (Or.inr hk14) all0)
  have hz42 := Nat.le_trans hz19 K37.1
  refine Way.by st30 ?_
  show Way _ _ _ _ (T20.setTop (mkF m 12 #[rv pb, iv 0, iv 1, rv a9, .unset, .unset] [(.int 0)]))
  refine Way.by (fun _ k => XS.istore X21.here hx rfl (hb hby dC31_12) rfl (l' := #[rv pb, iv 0, iv 1, rv a9, iv 0, .unset]) rfl k) ?_
  show Way _ _ _ _ (T20.setTop (mkF m 14 #[rv pb, iv 0, iv 1, rv a9, iv 0, .unset] []))
  refine Way.by (fun _ k => XS.iload X21.here hx rfl (hb hby dC31_14) rfl k) ?_
  show Way _ _ _ _ (T20.setTop (mkF m 16 #[rv pb, iv 0, iv 1, rv a9, iv 0, .unset] [(.int 0)]))
  refine Way.by (fun _ k => XS.iloadN X21.here hx rfl (hb hby dC31_16) rfl k) ?_
  show Way _ _ _ _ (T20.setTop (mkF m 17 #[rv pb, iv 0, iv 1, rv a9, iv 0, .unset] [(.int 1), (.int 0)]))
  have b43 : ¬ (0 : Int32) = (1 : Int32) := by decide
  refine Way.by (fun _ k => XS.icmpNo X21.here hx rfl (hb hby dC31_17) rfl (feq b43).1 k) ?_
  show Way _ _ _ _ (T20.setTop (mkF m 20 #[rv pb, iv 0, iv 1, rv a9, iv 0, .unset] []))
  refine Way.by (fun _ k => XS.aloadN X21.here hx rfl (hb hby dC31_20) rfl rfl k) ?_
  show Way _ _ _ _ (T20.setTop (mkF m 21 #[rv pb, iv 0, iv 1, rv a9, iv 0, .unset] [(.ref pb)]))
  refine Way.by (fun _ k => XS.iloadN X21.here hx rfl (hb hby dC31_21) rfl k) ?_
  show Way _ _ _ _ (T20.setTop (mkF m 22 #[rv pb, iv 0, iv 1, rv a9, iv 0, .unset] [(.int 0), (.ref pb)]))
  refine Way.by (fun _ k => XS.iloadN X21.here hx rfl (hb hby dC31_22) rfl k) ?_
  show Way _ _ _ _ (T20.setTop (mkF m 23 #[rv pb, iv 0, iv 1, rv a9, iv 0, .unset] [(.int 1), (.int 0), (.ref pb)]))
  obtain ⟨_, _, ⟨T44, L46, k47, n48⟩, -, X45, ⟨Lc49, hQ50, l51, y52, z53⟩, st54⟩ := Jvm.LawKit.callS X21 hx (y := (⟨"java/lang/StringUTF16", "toBytes", "([CII)[B"⟩ : MethodName)) hown (mvT hZ (tw hw 86 rfl)) (mvT hZ (tw hw 87 rfl)) (mvT hZ (tw hw 72 rfl)) (mvT hZ (tw hw 88 rfl)) (by decide) (backOf (W := 0) (rmTB1 l Z a0 hw [] pb kc cc0 T20.heap n0 Z39 A38 O40 SV SU) hZ (tw hw 88 rfl) (tw hw 72 rfl) (by decide) (by decide)) (g := (mkF m 23 #[rv pb, iv 0, iv 1, rv a9, iv 0, .unset] [(.int 1), (.int 0), (.ref pb)])) rfl (by rw [hml]; rfl) (argsL := [(.ref pb), (.int 0), (.int 1)]) (rest := []) (lenOf pdTB1 rfl) rfl (leW rfl) (hb hby dC31_23) (fun _ _ => ⟨rfl, rfl, (leB rfl), (leB rfl)⟩)
  dsimp only [Pt.U, Pt.locs, Pt.cells, Pt.slots] at X45 l51 y52 z53 st54 hQ50
  subst l51 y52 z53
  obtain ⟨x_pe65, x_kk64, rfl, N60, K61, fr_pe63, F_062⟩ := hQ50
  have N55 := Fr.app N31 N60
  have ne66 : pb ≠ x_pe65 := Nat.ne_of_lt (Nat.lt_of_lt_of_le A38.lt fr_pe63)
  have nw67 : n0 ≤ x_pe65 := Nat.le_trans Z39 fr_pe63
  have hk68 : h0.size ≤ x_pe65 := Nat.le_trans hz42 fr_pe63
  have A69 := A38.keep K61 nin0
  have Z70 := Nat.le_trans Z39 K61.1
  have O71 := O40.keep K61 all0
  have K72 := K41.trans K61 all0
  have hz73 := Nat.le_trans hz42 K61.1
  refine Way.by st54 ?_
  show Way _ _ _ _ (T44.setTop (mkF m 26 #[rv pb, iv 0, iv 1, rv a9, iv 0, .unset] [(.ref x_pe65)]))
  refine Way.by (fun _ k => XS.astore X45.here hx rfl (hb hby dC31_26) rfl rfl (l' := #[rv pb, iv 0, iv 1, rv a9, iv 0, rv x_pe65]) rfl k) ?_
  show Way _ _ _ _ (T44.setTop (mkF m 28 #[rv pb, iv 0, iv 1, rv a9, iv 0, rv x_pe65] []))
  refine Way.by (fun _ k => XS.aload X45.here hx rfl (hb hby dC31_28) rfl rfl k) ?_
  show Way _ _ _ _ (T44.setTop (mkF m 30 #[rv pb, iv 0, iv 1, rv a9, iv 0, rv x_pe65] [(.ref x_pe65)]))
  refine Way.by (fun _ k => XS.iload X45.here hx rfl (hb hby dC31_30) rfl k) ?_
  show Way _ _ _ _ (T44.setTop (mkF m 32 #[rv pb, iv 0, iv 1, rv a9, iv 0, rv x_pe65] [(.int 0), (.ref x_pe65)]))
  have GA74 : Arv Z T44.heap x_pe65 x_kk64 .byte (Int32.ofNat (2 * [cc0].length)) (StrChars.Road.wideBytes [cc0]) (.int 0) := F_062
  obtain ⟨_, _, ⟨T75, L77, k78, n79⟩, -, X76, ⟨Lc80, hQ81, l82, y83, z84⟩, st85⟩ := Jvm.LawKit.callS X45 hx (y := (⟨"java/lang/StringUTF16", "getChar", "([BI)C"⟩ : MethodName)) hown (mvT hZ (tw hw 102 rfl)) (mvT hZ (tw hw 103 rfl)) (mvT hZ (tw hw 72 rfl)) (mvT hZ (tw hw 104 rfl)) (by decide) (backOf (W := 0) (rmGC l Z a0 hw [] x_pe65 x_kk64 [cc0] 0 T44.heap n0 Z70 GA74 (leB rfl) hB (leB rfl) O71 SV SU) hZ (tw hw 104 rfl) (tw hw 72 rfl) (by decide) (by decide)) (g := (mkF m 32 #[rv pb, iv 0, iv 1, rv a9, iv 0, rv x_pe65] [(.int 0), (.ref x_pe65)])) rfl (by rw [hml]; rfl) (argsL := [(.ref x_pe65), (.int 0)]) (rest := []) (lenOf pdGC rfl) rfl (leW rfl) (hb hby dC31_32) (fun _ _ => ⟨rfl, rfl, (leB rfl), (leB rfl)⟩)
  dsimp only [Pt.U, Pt.locs, Pt.cells, Pt.slots] at X76 l82 y83 z84 st85 hQ81
  subst l82 y83 z84
  obtain ⟨rfl, N91, e87⟩ := hQ81
  have N86 := Fr.app N55 N91
  refine Way.by st85 ?_
  show Way _ _ _ _ (T75.setTop (mkF m 35 #[rv pb, iv 0, iv 1, rv a9, iv 0, rv x_pe65] [(.int ([cc0].getD 0 0))]))
  show Way _ _ _ _ (T75.setTop (mkF m 35 #[rv pb, iv 0, iv 1, rv a9, iv 0, rv x_pe65] [(.int cc0)]))
  refine Way.by (fun _ k => XS.sipush X76.here hx rfl (hb hby dC31_35) k) ?_
  show Way _ _ _ _ (T75.setTop (mkF m 38 #[rv pb, iv 0, iv 1, rv a9, iv 0, rv x_pe65] [(.int 255), (.int cc0)]))
  have b93 : (255 : Int32) < cc0 := hk0
  refine Way.by (fun _ k => XS.icmpYes X76.here hx rfl (pc0 := 38) (pc' := 54) rfl (hb hby dC31_38) rfl (tlt b93).2.2.1 (by decide) (by decide) k) ?_
  show Way _ _ _ _ (T75.setTop (mkF m 54 #[rv pb, iv 0, iv 1, rv a9, iv 0, rv x_pe65] []))
  refine Way.by (fun _ k => XS.aload X76.here hx rfl (hb hby dC31_54) rfl rfl k) ?_
  show Way _ _ _ _ (T75.setTop (mkF m 56 #[rv pb, iv 0, iv 1, rv a9, iv 0, rv x_pe65] [(.ref x_pe65)]))
  refine Way.ret (v := (some (.ref x_pe65))) X76 hlk (fun h => by rw [Bd.returns] at h; cases h) (fun fs hr => retOut X76 hx Bd.returns rfl (Or.inr (Or.inr (Or.inr (Or.inr ⟨rfl, rfl, rfl⟩)))) (hb hby dC31_56) hr) ?_ (by decide) (by decide)
  show QC31 Z pb kc cc0 h0 n0 _ T75.heap _
  rw [e87]
  exact ⟨x_pe65, x_kk64, rfl, N86, K72, hk68, F_062⟩
def QCL1 (Z : State) (pe : Addr) (kk : ClassId) (cc0 : Int32) (h0 : Heap) (n0 : Nat) (v : Option Value) (h : Heap) (L : List Loc) : Prop := v = some (.int 1) ∧ Fr n0 L ∧ h = h0
theorem dCL1_0 : decode jdk_52_method_15_code 0 = .ok (.iload_n 1, 1) := by decide +kernel
theorem dCL1_1 : decode jdk_52_method_15_code 1 = .ok (.aload_n 0, 1) := by decide +kernel
theorem dCL1_2 : decode jdk_52_method_15_code 2 = .ok (.arraylength, 1) := by decide +kernel
theorem dCL1_3 : decode jdk_52_method_15_code 3 = .ok (.isub, 1) := by decide +kernel
theorem dCL1_4 : decode jdk_52_method_15_code 4 = .ok (.bipush 31, 2) := by decide +kernel
theorem dCL1_6 : decode jdk_52_method_15_code 6 = .ok (.iushr, 1) := by decide +kernel
theorem dCL1_7 : decode jdk_52_method_15_code 7 = .ok (.i2b, 1) := by decide +kernel
theorem dCL1_8 : decode jdk_52_method_15_code 8 = .ok (.ireturn, 1) := by decide +kernel
theorem pdCL1 : parseMethodDescriptor "([BI)B" = some ⟨[(.array .byte), .int], some .byte⟩ := by decide +kernel
set_option maxRecDepth 65536 in
set_option maxHeartbeats 40000000 in
theorem rmCL1 (l : Launch) (Z : State) (a0 : Array Value) (hw : ∀ d ∈ tables_1, d.before a0 Z = true) (ws : List Jvm.Cond) (pe : Addr) (kk : ClassId) (cc0 : Int32) (h0 : Heap) (n0 : Nat) (Z0 : n0 ≤ h0.size) (H0 : Arv Z h0 pe kk .byte (2 : Int32) [(.int (StrChars.lo8 cc0)), (.int (StrChars.hi8 cc0))] (.int 0)) :
    MetFree l (⟨"java/lang/StringUTF16", "coderFromArrayLen", "([BI)B"⟩ : MethodName) (head1 (Jvm.Cond.code (⟨"java/lang/StringUTF16", "coderFromArrayLen", "([BI)B"⟩ : MethodName) jdk_52_method_15_code 2 (some .byte) :: ws) ({ frames := 0, cells := 0, slots := 0, locals := 0 } : Room)) (fun aa U => aa = #[(.ref pe), (.int 1)] ∧ Z.Warmed39 U.vm ∧ U.heap = h0) (fun _ _ _ _ _ => True) (fun _ U oo U' => ∃ v L, oo = .returned v ∧ QCL1 Z pe kk cc0 h0 n0 v U'.heap L ∧ FrameEnd U oo U' L ({ frames := 0, cells := 0, slots := 0, locals := 0 } : Room).cells ({ frames := 0, cells := 0, slots := 0, locals := 0 } : Room).slots) := by
  refine MetFree.of_bodySF (plainFor_of_name pnGC) hisR ?_
  intro p e s m args below meth c s₁ Bd hml0 hP hK
  obtain ⟨rfl, hZ, hh⟩ := hP
  have hx := Bd.exec
  have hby := Bd.bytes
  have hlk : meth.locks = false := BodyLoose.notSynchronized Bd
  have hml : c.maxLocals = 2 := hml0
  have hown : s.vm.findClass "java/lang/StringUTF16" = some m.cls := findClass_of_methodNamed Bd.named
  have hnm := (name_of_methodNamed Bd.named Bd.method).1
  have X0 : Stand p l e ({ frames := 0, cells := 0, slots := 0, locals := 0 } : Room) s m #[(.ref pe), (.int 1)] below meth c s₁ [] 0 0 := Stand.of_body Bd
  have e0 : s₁.heap = h0 := by rw [← hh, Bd.state]; rfl
  have N0 := Fr.nil n0
  have ef : entryFrame m #[(.ref pe), (.int 1)] 2 = mkF m 0 #[rv pe, iv 1] [] := by first | (simp [entryFrame, mkF, argsToLocals, Value.category, maxLocals]; done) | rfl
  show Way p.tables e below (KQ s (QCL1 Z pe kk cc0 h0 n0) ({ frames := 0, cells := 0, slots := 0, locals := 0 } : Room).cells ({ frames := 0, cells := 0, slots := 0, locals := 0 } : Room).slots) (s₁.setTop (entryFrame m #[(.ref pe), (.int 1)] 2))
  rw [ef]
  refine Way.by (fun _ k => XS.iloadN X0.here hx rfl (hb hby dCL1_0) rfl k) ?_
  show Way _ _ _ _ (s₁.setTop (mkF m 1 #[rv pe, iv 1] [(.int 1)]))
  refine Way.by (fun _ k => XS.aloadN X0.here hx rfl (hb hby dCL1_1) rfl rfl k) ?_
  show Way _ _ _ _ (s₁.setTop (mkF m 2 #[rv pe, iv 1] [(.ref pe), (.int 1)]))
  obtain ⟨c1, A2, q3, S4, M5, H6, U7⟩ := id H0
  refine Way.by (fun t k => Stand.arraylength X0 hx (hpE e0 A2.1) (arrS hZ A2) (g := (mkF m 2 #[rv pe, iv 1] [(.ref pe), (.int 1)])) rfl rfl (hb hby dCL1_2) t k) ?_
  rw [len_of S4 M5]
  show Way _ _ _ _ (s₁.setTop (mkF m 3 #[rv pe, iv 1] [(.int 2), (.int 1)]))
  refine Way.by (fun _ k => XS.isub X0.here hx rfl (hb hby dCL1_3) rfl k) ?_
  show Way _ _ _ _ (s₁.setTop (mkF m 4 #[rv pe, iv 1] [(.int (-1 : Int32))]))
  refine Way.by (fun _ k => XS.bipush X0.here hx rfl (hb hby dCL1_4) k) ?_
  show Way _ _ _ _ (s₁.setTop (mkF m 6 #[rv pe, iv 1] [(.int 31), (.int (-1 : Int32))]))
  refine Way.by (fun _ k => XT.iushr X0.here hx rfl (hb hby dCL1_6) rfl k) ?_
  show Way _ _ _ _ (s₁.setTop (mkF m 7 #[rv pe, iv 1] [(.int (XT.ushr (-1 : Int32) (31 : Int32)))]))
  refine Way.by (fun _ k => XT.i2b X0.here hx rfl (hb hby dCL1_7) rfl k) ?_
  show Way _ _ _ _ (s₁.setTop (mkF m 8 #[rv pe, iv 1] [(.int (XT.ushr (-1 : Int32) (31 : Int32)).toInt8.toInt32)]))
  refine Way.ret (v := (some (.int (nar .byte (XT.ushr (-1 : Int32) (31 : Int32)).toInt8.toInt32)))) X0 hlk (fun h => by rw [Bd.returns] at h; cases h) (fun fs hr => retN X0 hx (t := .byte) Bd.returns (by simp) (hb hby dCL1_8) hr) ?_ (by decide) (by decide)
  show QCL1 Z pe kk cc0 h0 n0 _ s₁.heap _
  rw [e0]
  exact ⟨by first | rfl | decide, N0, rfl⟩
def QI41 (Z : State) (pa : Addr) (pb : Addr) (kc : ClassId) (cc0 : Int32) (h0 : Heap) (n0 : Nat) (v : Option Value) (h : Heap) (L : List Loc) : Prop := ∃ (pe : Addr) (kk : ClassId), v = none ∧ Fr n0 L ∧ Keep h0 h [pa] ∧ h0.size ≤ pe ∧ Exa Z h pa "java/lang/String" ∧ Fld Z h pa "java/lang/String" "value" "[B" (.ref pe) ∧ Fld Z h pa "java/lang/String" "coder" "B" (.int 1) ∧ Arv Z h pe kk .byte (2 : Int32) [(.int (StrChars.lo8 cc0)), (.int (StrChars.hi8 cc0))] (.int 0)
theorem dI41_27 : decode jdk_42_method_149_code 27 = .ok (.getstatic 38, 3) := by decide +kernel
theorem dI41_30 : decode jdk_42_method_149_code 30 = .ok (.ifCond .eq 28, 3) := by decide +kernel
theorem dI41_33 : decode jdk_42_method_149_code 33 = .ok (.aload_n 1, 1) := by decide +kernel
theorem dI41_34 : decode jdk_42_method_149_code 34 = .ok (.iload_n 2, 1) := by decide +kernel
theorem dI41_35 : decode jdk_42_method_149_code 35 = .ok (.iload_n 3, 1) := by decide +kernel
theorem dI41_36 : decode jdk_42_method_149_code 36 = .ok (.invokestatic 177, 3) := by decide +kernel
theorem dI41_39 : decode jdk_42_method_149_code 39 = .ok (.astore 5, 2) := by decide +kernel
theorem dI41_41 : decode jdk_42_method_149_code 41 = .ok (.aload_n 0, 1) := by decide +kernel
theorem dI41_42 : decode jdk_42_method_149_code 42 = .ok (.aload 5, 2) := by decide +kernel
theorem dI41_44 : decode jdk_42_method_149_code 44 = .ok (.iload_n 3, 1) := by decide +kernel
theorem dI41_45 : decode jdk_42_method_149_code 45 = .ok (.invokestatic 47, 3) := by decide +kernel
theorem dI41_48 : decode jdk_42_method_149_code 48 = .ok (.putfield 15, 3) := by decide +kernel
theorem dI41_51 : decode jdk_42_method_149_code 51 = .ok (.aload_n 0, 1) := by decide +kernel
theorem dI41_52 : decode jdk_42_method_149_code 52 = .ok (.aload 5, 2) := by decide +kernel
theorem dI41_54 : decode jdk_42_method_149_code 54 = .ok (.putfield 9, 3) := by decide +kernel
theorem dI41_57 : decode jdk_42_method_149_code 57 = .ok (.return_, 1) := by decide +kernel
set_option maxRecDepth 65536 in
set_option maxHeartbeats 40000000 in
theorem rmI41 (l : Launch) (Z : State) (a0 : Array Value) (hw : ∀ d ∈ tables_1, d.before a0 Z = true) (ws : List Jvm.Cond) (pa : Addr) (pb : Addr) (kc : ClassId) (cc0 : Int32) (h0 : Heap) (n0 : Nat) (Z0 : n0 ≤ h0.size) (H0 : Exa Z h0 pa "java/lang/String") (H1 : Fld Z h0 pa "java/lang/String" "value" "[B" .null) (H2 : Fld Z h0 pa "java/lang/String" "coder" "B" (.int 0)) (H3 : Arv Z h0 pb kc .char (1 : Int32) [(.int cc0)] (.int 0)) (hB : ∀ c ∈ ([cc0] : List Int32), ¬ c < 0 ∧ ¬ (65535 : Int32) < c) (hU : (255 : Int32) < cc0) (ne_pb_pa : pb ≠ pa) (nw_pa : n0 ≤ pa) (O0 : Old Z n0 h0) (SV : own_Env Z) (SU : own_U16 Z) :
    MetFree l (⟨"java/lang/String", "<init>", "([CIILjava/lang/Void;)V"⟩ : MethodName) (head1 (Jvm.Cond.code (⟨"java/lang/String", "<init>", "([CIILjava/lang/Void;)V"⟩ : MethodName) jdk_42_method_149_code 6 none :: ws) ({ frames := 4, cells := 2, slots := 3, locals := 57 } : Room)) (fun aa U => aa = #[(.ref pa), (.ref pb), (.int 0), (.int 1), .null] ∧ Z.Warmed39 U.vm ∧ U.heap = h0) (fun _ _ _ _ _ => True) (fun _ U oo U' => ∃ v L, oo = .returned v ∧ QI41 Z pa pb kc cc0 h0 n0 v U'.heap L ∧ FrameEnd U oo U' L ({ frames := 4, cells := 2, slots := 3, locals := 57 } : Room).cells ({ frames := 4, cells := 2, slots := 3, locals := 57 } : Room).slots) := by
  refine MetFree.of_bodySF (plainFor_of_name pnSB) hisR ?_
  intro p e s m args below meth c s₁ Bd hml0 hP hK
  obtain ⟨rfl, hZ, hh⟩ := hP
  have hx := Bd.exec
  have hby := Bd.bytes
  have hlk : meth.locks = false := BodyLoose.notSynchronized Bd
  have hml : c.maxLocals = 6 := hml0
  have hown : s.vm.findClass "java/lang/String" = some m.cls := findClass_of_methodNamed Bd.named
  have hnm := (name_of_methodNamed Bd.named Bd.method).1
  have X0 : Stand p l e ({ frames := 4, cells := 2, slots := 3, locals := 57 } : Room) s m #[(.ref pa), (.ref pb), (.int 0), (.int 1), .null] below meth c s₁ [] 0 0 := Stand.of_body Bd
  have e0 : s₁.heap = h0 := by rw [← hh, Bd.state]; rfl
  have N0 := Fr.nil n0
  have ef : entryFrame m #[(.ref pa), (.ref pb), (.int 0), (.int 1), .null] 6 = mkF m 0 #[rv pa, rv pb, iv 0, iv 1, .val .null, .unset] [] := by first | (simp [entryFrame, mkF, argsToLocals, Value.category, maxLocals]; done) | rfl
  show Way p.tables e below (KQ s (QI41 Z pa pb kc cc0 h0 n0) ({ frames := 4, cells := 2, slots := 3, locals := 57 } : Room).cells ({ frames := 4, cells := 2, slots := 3, locals := 57 } : Room).slots) (s₁.setTop (entryFrame m #[(.ref pa), (.ref pb), (.int 0), (.int 1), .null] 6))
  rw [ef]
  obtain ⟨⟨G1, SG1, hG1⟩, G3, SG3, rG3⟩ := id SV
  refine Way.by (fun _ k => XS.aloadN X0.here hx rfl (hb hby dN4_0) rfl rfl k) ?_
  show Way _ _ _ _ (s₁.setTop (mkF m 1 #[rv pa, rv pb, iv 0, iv 1, .val .null, .unset] [(.ref pa)]))
  obtain ⟨T1, X2, e3, st4⟩ := initO X0 hx hZ hown (tw hw 15 rfl) (tw hw 16 rfl) (tw hw 17 rfl) e0 (g := (mkF m 1 #[rv pa, rv pb, iv 0, iv 1, .val .null, .unset] [(.ref pa)])) rfl (by rw [hml]; rfl) rfl (hb hby dN4_1) (by decide) (W := 0) (leW rfl) (by decide)
  refine Way.by st4 ?_
  show Way _ _ _ _ (T1.setTop (mkF m 4 #[rv pa, rv pb, iv 0, iv 1, .val .null, .unset] []))
  refine Way.by (fun _ k => XS.iloadN X2.here hx rfl (hb hby dN4_4) rfl k) ?_
  show Way _ _ _ _ (T1.setTop (mkF m 5 #[rv pa, rv pb, iv 0, iv 1, .val .null, .unset] [(.int 1)]))
  have b5 : ¬ (1 : Int32) = (0 : Int32) := by decide
  refine Way.by (fun _ k => XS.ifYes X2.here hx rfl (pc0 := 5) (pc' := 27) rfl (hb hby dN4_5) rfl ((if0 .ne _).trans (feq b5).2) (by decide) (by decide) k) ?_
  show Way _ _ _ _ (T1.setTop (mkF m 27 #[rv pa, rv pb, iv 0, iv 1, .val .null, .unset] []))
  obtain ⟨T6, X7, e8, st9⟩ := getS X2 hx hZ hown (host := "") (tw hw 45 rfl) Via.refl e3 (Sta.ext O0.2 SG1) (g := (mkF m 27 #[rv pa, rv pb, iv 0, iv 1, .val .null, .unset] [])) rfl (hb hby dI41_27)
  refine Way.by st9 ?_
  show Way _ _ _ _ (T6.setTop (mkF m 30 #[rv pa, rv pb, iv 0, iv 1, .val .null, .unset] [(.int G1)]))
  have b10 : ¬ G1 = (0 : Int32) := hG1
  refine Way.by (fun _ k => XS.ifNo X7.here hx rfl (hb hby dI41_30) rfl ((if0 .eq _).trans (feq b10).1) k) ?_
  show Way _ _ _ _ (T6.setTop (mkF m 33 #[rv pa, rv pb, iv 0, iv 1, .val .null, .unset] []))
  refine Way.by (fun _ k => XS.aloadN X7.here hx rfl (hb hby dI41_33) rfl rfl k) ?_
  show Way _ _ _ _ (T6.setTop (mkF m 34 #[rv pa, rv pb, iv 0, iv 1, .val .null, .unset] [(.ref pb)]))
  refine Way.by (fun _ k => XS.iloadN X7.here hx rfl (hb hby dI41_34) rfl k) ?_
  show Way _ _ _ _ (T6.setTop (mkF m 35 #[rv pa, rv pb, iv 0, iv 1, .val .null, .unset] [(.int 0), (.ref pb)]))
  refine Way.by (fun _ k => XS.iloadN X7.here hx rfl (hb hby dI41_35) rfl k) ?_
  show Way _ _ _ _ (T6.setTop (mkF m 36 #[rv pa, rv pb, iv 0, iv 1, .val .null, .unset] [(.int 1), (.int 0), (.ref pb)]))
  obtain ⟨_, _, ⟨T11, L13, k14, n15⟩, -, X12, ⟨Lc16, hQ17, l18, y19, z20⟩, st21⟩ := Jvm.LawKit.callS X7 hx (y := (⟨"java/lang/StringUTF16", "compress", "([CII)[B"⟩ : MethodName)) hown (mvT hZ (tw hw 70 rfl)) (mvT hZ (tw hw 71 rfl)) (mvT hZ (tw hw 72 rfl)) (mvT hZ (tw hw 73 rfl)) (by decide) (backOf (W := 0) (rmC31 l Z a0 hw [] pb kc cc0 h0 n0 Z0 H3 hB hU O0 SV SU) hZ (tw hw 73 rfl) (tw hw 72 rfl) (by decide) (by decide)) (g := (mkF m 36 #[rv pa, rv pb, iv 0, iv 1, .val .null, .unset] [(.int 1), (.int 0), (.ref pb)])) rfl (by rw [hml]; rfl) (argsL := [(.ref pb), (.int 0), (.int 1)]) (rest := []) (lenOf pdTB1 rfl) rfl (leW rfl) (hb hby dI41_36) (fun _ _ => ⟨rfl, e8, (leB rfl), (leB rfl)⟩)
  dsimp only [Pt.U, Pt.locs, Pt.cells, Pt.slots] at X12 l18 y19 z20 st21 hQ17
  subst l18 y19 z20
  obtain ⟨x_pe32, x_kk31, rfl, N27, K28, fr_pe30, F_029⟩ := hQ17
  have N22 := Fr.app N0 N27
  have ne33 : pa ≠ x_pe32 := Nat.ne_of_lt (Nat.lt_of_lt_of_le H0.lt fr_pe30)
  have ne34 : pb ≠ x_pe32 := Nat.ne_of_lt (Nat.lt_of_lt_of_le H3.lt fr_pe30)
  have nw35 : n0 ≤ x_pe32 := Nat.le_trans Z0 fr_pe30
  have hk36 : h0.size ≤ x_pe32 := Nat.le_trans (Nat.le_refl h0.size) fr_pe30
  have E37 := H0.keep K28
  have F38 := H1.keep K28 nin0
  have F39 := H2.keep K28 nin0
  have A40 := H3.keep K28 nin0
  have Z41 := Nat.le_trans Z0 K28.1
  have O42 := O0.keep K28 all0
  have K43 := (Keep.refl h0 [pa]).trans K28 all0
  have hz44 := Nat.le_trans (Nat.le_refl h0.size) K28.1
  refine Way.by st21 ?_
  show Way _ _ _ _ (T11.setTop (mkF m 39 #[rv pa, rv pb, iv 0, iv 1, .val .null, .unset] [(.ref x_pe32)]))
  refine Way.by (fun _ k => XS.astore X12.here hx rfl (hb hby dI41_39) rfl rfl (l' := #[rv pa, rv pb, iv 0, iv 1, .val .null, rv x_pe32]) rfl k) ?_
  show Way _ _ _ _ (T11.setTop (mkF m 41 #[rv pa, rv pb, iv 0, iv 1, .val .null, rv x_pe32] []))
  refine Way.by (fun _ k => XS.aloadN X12.here hx rfl (hb hby dI41_41) rfl rfl k) ?_
  show Way _ _ _ _ (T11.setTop (mkF m 42 #[rv pa, rv pb, iv 0, iv 1, .val .null, rv x_pe32] [(.ref pa)]))
  refine Way.by (fun _ k => XS.aload X12.here hx rfl (hb hby dI41_42) rfl rfl k) ?_
  show Way _ _ _ _ (T11.setTop (mkF m 44 #[rv pa, rv pb, iv 0, iv 1, .val .null, rv x_pe32] [(.ref x_pe32), (.ref pa)]))
  refine Way.by (fun _ k => XS.iloadN X12.here hx rfl (hb hby dI41_44) rfl k) ?_
  show Way _ _ _ _ (T11.setTop (mkF m 45 #[rv pa, rv pb, iv 0, iv 1, .val .null, rv x_pe32] [(.int 1), (.ref x_pe32), (.ref pa)]))
  obtain ⟨_, _, ⟨T45, L47, k48, n49⟩, -, X46, ⟨Lc50, hQ51, l52, y53, z54⟩, st55⟩ := Jvm.LawKit.callS X12 hx (y := (⟨"java/lang/StringUTF16", "coderFromArrayLen", "([BI)B"⟩ : MethodName)) hown (mvT hZ (tw hw 77 rfl)) (mvT hZ (tw hw 78 rfl)) (mvT hZ (tw hw 72 rfl)) (mvT hZ (tw hw 79 rfl)) (by decide) (backOf (W := 1) (rmCL1 l Z a0 hw [] x_pe32 x_kk31 cc0 T11.heap n0 Z41 F_029) hZ (tw hw 79 rfl) (tw hw 72 rfl) (by decide) (by decide)) (g := (mkF m 45 #[rv pa, rv pb, iv 0, iv 1, .val .null, rv x_pe32] [(.int 1), (.ref x_pe32), (.ref pa)])) rfl (by rw [hml]; rfl) (argsL := [(.ref x_pe32), (.int 1)]) (rest := [(.ref pa)]) (lenOf pdCL1 rfl) rfl (leW rfl) (hb hby dI41_45) (fun _ _ => ⟨rfl, rfl, (leB rfl), (leB rfl)⟩)
  dsimp only [Pt.U, Pt.locs, Pt.cells, Pt.slots] at X46 l52 y53 z54 st55 hQ51
  subst l52 y53 z54
  obtain ⟨rfl, N61, e57⟩ := hQ51
  have N56 := Fr.app N22 N61
  refine Way.by st55 ?_
  show Way _ _ _ _ (T45.setTop (mkF m 48 #[rv pa, rv pb, iv 0, iv 1, .val .null, rv x_pe32] [(.int 1), (.ref pa)]))
  obtain ⟨T63, h64, X65, e66, W67, st68⟩ := putF X46 hx hZ hown (host := "") (Or.inl (tw hw 25 rfl)) Via.refl e57 F39 E37 (Or.inr ⟨(tw hw 21 rfl), rfl, hnm⟩) (tw hw 6 rfl) (ty := .byte) (by decide) rfl rfl (g := (mkF m 48 #[rv pa, rv pb, iv 0, iv 1, .val .null, rv x_pe32] [(.int 1), (.ref pa)])) rfl rfl (hb hby dI41_48)
  have N69 := Fr.snoc X65 N56 nw_pa
  have E70 := Exa.wr W67 E37
  have F71 := F38.other W67 (Or.inr (slot_ne (Or.inr (tw hw 20 rfl)) (Or.inr (tw hw 21 rfl)) (by decide) (t := (.array .byte)) (t' := .byte) (by decide) (by decide)))
  have F72 : Fld Z h64 pa "java/lang/String" "coder" "B" (.int 1) := F39.same W67
  have A73 := A40.other W67 ne_pb_pa
  have A74 := F_029.other W67 ne33.symm
  have Z75 : n0 ≤ h64.size := by rw [W67.size]; exact Z41
  have O76 := O42.wr W67 nw_pa
  have K77 := K43.wr W67 (Or.inl (List.mem_of_getElem? (i := 0) rfl))
  have hz78 : h0.size ≤ h64.size := by rw [W67.size]; exact hz44
  refine Way.by st68 ?_
  show Way _ _ _ _ (T63.setTop (mkF m 51 #[rv pa, rv pb, iv 0, iv 1, .val .null, rv x_pe32] []))
  refine Way.by (fun _ k => XS.aloadN X65.here hx rfl (hb hby dI41_51) rfl rfl k) ?_
  show Way _ _ _ _ (T63.setTop (mkF m 52 #[rv pa, rv pb, iv 0, iv 1, .val .null, rv x_pe32] [(.ref pa)]))
  refine Way.by (fun _ k => XS.aload X65.here hx rfl (hb hby dI41_52) rfl rfl k) ?_
  show Way _ _ _ _ (T63.setTop (mkF m 54 #[rv pa, rv pb, iv 0, iv 1, .val .null, rv x_pe32] [(.ref x_pe32), (.ref pa)]))
  obtain ⟨T79, h80, X81, e82, W83, st84⟩ := putF X65 hx hZ hown (host := "") (Or.inl (tw hw 24 rfl)) Via.refl e66 F71 E70 (Or.inr ⟨(tw hw 20 rfl), rfl, hnm⟩) (tw hw 6 rfl) (ty := (.array .byte)) (by decide) rfl rfl (g := (mkF m 54 #[rv pa, rv pb, iv 0, iv 1, .val .null, rv x_pe32] [(.ref x_pe32), (.ref pa)])) rfl rfl (hb hby dI41_54)
  have N85 := Fr.snoc X81 N69 nw_pa
  have E86 := Exa.wr W83 E70
  have F87 : Fld Z h80 pa "java/lang/String" "value" "[B" (.ref x_pe32) := F71.same W83
  have F88 := F72.other W83 (Or.inr (slot_ne (Or.inr (tw hw 21 rfl)) (Or.inr (tw hw 20 rfl)) (by decide) (t := .byte) (t' := (.array .byte)) (by decide) (by decide)))
  have A89 := A73.other W83 ne_pb_pa
  have A90 := A74.other W83 ne33.symm
  have Z91 : n0 ≤ h80.size := by rw [W83.size]; exact Z75
  have O92 := O76.wr W83 nw_pa
  have K93 := K77.wr W83 (Or.inl (List.mem_of_getElem? (i := 0) rfl))
  have hz94 : h0.size ≤ h80.size := by rw [W83.size]; exact hz78
  refine Way.by st84 ?_
  show Way _ _ _ _ (T79.setTop (mkF m 57 #[rv pa, rv pb, iv 0, iv 1, .val .null, rv x_pe32] []))
  refine Way.ret (v := none) X81 hlk (fun _ => rfl) (fun fs hr => X81.returnOut hx Bd.returns (hb hby dI41_57) hr) ?_ (by decide) (by decide)
  show QI41 Z pa pb kc cc0 h0 n0 _ T79.heap _
  rw [e82]
  exact ⟨x_pe32, x_kk31, rfl, N85, K93, hk36, E86, F87, F88, A90⟩
def QI11 (Z : State) (pa : Addr) (pb : Addr) (kc : ClassId) (cc0 : Int32) (h0 : Heap) (n0 : Nat) (v : Option Value) (h : Heap) (L : List Loc) : Prop := ∃ (pe : Addr) (kk : ClassId), v = none ∧ Fr n0 L ∧ Keep h0 h [pa] ∧ h0.size ≤ pe ∧ Exa Z h pa "java/lang/String" ∧ Fld Z h pa "java/lang/String" "value" "[B" (.ref pe) ∧ Fld Z h pa "java/lang/String" "coder" "B" (.int 1) ∧ Arv Z h pe kk .byte (2 : Int32) [(.int (StrChars.lo8 cc0)), (.int (StrChars.hi8 cc0))] (.int 0)
set_option maxRecDepth 65536 in
set_option maxHeartbeats 40000000 in
theorem rmI11 (l : Launch) (Z : State) (a0 : Array Value) (hw : ∀ d ∈ tables_1, d.before a0 Z = true) (ws : List Jvm.Cond) (pa : Addr) (pb : Addr) (kc : ClassId) (cc0 : Int32) (h0 : Heap) (n0 : Nat) (Z0 : n0 ≤ h0.size) (H0 : Exa Z h0 pa "java/lang/String") (H1 : Fld Z h0 pa "java/lang/String" "value" "[B" .null) (H2 : Fld Z h0 pa "java/lang/String" "coder" "B" (.int 0)) (H3 : Arv Z h0 pb kc .char (1 : Int32) [(.int cc0)] (.int 0)) (hB : ∀ c ∈ ([cc0] : List Int32), ¬ c < 0 ∧ ¬ (65535 : Int32) < c) (hU : (255 : Int32) < cc0) (ne_pb_pa : pb ≠ pa) (nw_pa : n0 ≤ pa) (O0 : Old Z n0 h0) (SV : own_Env Z) (SU : own_U16 Z) :
    MetFree l (⟨"java/lang/String", "<init>", "([C)V"⟩ : MethodName) (head1 (Jvm.Cond.code (⟨"java/lang/String", "<init>", "([C)V"⟩ : MethodName) jdk_42_method_3_code 2 none :: ws) ({ frames := 5, cells := 2, slots := 3, locals := 74 } : Room)) (fun aa U => aa = #[(.ref pa), (.ref pb)] ∧ Z.Warmed39 U.vm ∧ U.heap = h0) (fun _ _ _ _ _ => True) (fun _ U oo U' => ∃ v L, oo = .returned v ∧ QI11 Z pa pb kc cc0 h0 n0 v U'.heap L ∧ FrameEnd U oo U' L ({ frames := 5, cells := 2, slots := 3, locals := 74 } : Room).cells ({ frames := 5, cells := 2, slots := 3, locals := 74 } : Room).slots) := by
  refine MetFree.of_bodySF (plainFor_of_name pnSB) hisR ?_
  intro p e s m args below meth c s₁ Bd hml0 hP hK
  obtain ⟨rfl, hZ, hh⟩ := hP
  have hx := Bd.exec
  have hby := Bd.bytes
  have hlk : meth.locks = false := BodyLoose.notSynchronized Bd
  have hml : c.maxLocals = 2 := hml0
  have hown : s.vm.findClass "java/lang/String" = some m.cls := findClass_of_methodNamed Bd.named
  have hnm := (name_of_methodNamed Bd.named Bd.method).1
  have X0 : Stand p l e ({ frames := 5, cells := 2, slots := 3, locals := 74 } : Room) s m #[(.ref pa), (.ref pb)] below meth c s₁ [] 0 0 := Stand.of_body Bd
  have e0 : s₁.heap = h0 := by rw [← hh, Bd.state]; rfl
  have N0 := Fr.nil n0
  have ef : entryFrame m #[(.ref pa), (.ref pb)] 2 = mkF m 0 #[rv pa, rv pb] [] := by first | (simp [entryFrame, mkF, argsToLocals, Value.category, maxLocals]; done) | rfl
  show Way p.tables e below (KQ s (QI11 Z pa pb kc cc0 h0 n0) ({ frames := 5, cells := 2, slots := 3, locals := 74 } : Room).cells ({ frames := 5, cells := 2, slots := 3, locals := 74 } : Room).slots) (s₁.setTop (entryFrame m #[(.ref pa), (.ref pb)] 2))
  rw [ef]
  refine Way.by (fun _ k => XS.aloadN X0.here hx rfl (hb hby dN1_0) rfl rfl k) ?_
  show Way _ _ _ _ (s₁.setTop (mkF m 1 #[rv pa, rv pb] [(.ref pa)]))
  refine Way.by (fun _ k => XS.aloadN X0.here hx rfl (hb hby dN1_1) rfl rfl k) ?_
  show Way _ _ _ _ (s₁.setTop (mkF m 2 #[rv pa, rv pb] [(.ref pb), (.ref pa)]))
  refine Way.by (fun _ k => XS.iconst X0.here hx rfl (hb hby dN1_2) k) ?_
  show Way _ _ _ _ (s₁.setTop (mkF m 3 #[rv pa, rv pb] [(.int 0), (.ref pb), (.ref pa)]))
  refine Way.by (fun _ k => XS.aloadN X0.here hx rfl (hb hby dN1_3) rfl rfl k) ?_
  show Way _ _ _ _ (s₁.setTop (mkF m 4 #[rv pa, rv pb] [(.ref pb), (.int 0), (.ref pb), (.ref pa)]))
  obtain ⟨c1, A2, q3, S4, M5, H6, U7⟩ := id H3
  refine Way.by (fun t k => Stand.arraylength X0 hx (hpE e0 A2.1) (arrS hZ A2) (g := (mkF m 4 #[rv pa, rv pb] [(.ref pb), (.int 0), (.ref pb), (.ref pa)])) rfl rfl (hb hby dN1_4) t k) ?_
  rw [len_of S4 M5]
  show Way _ _ _ _ (s₁.setTop (mkF m 5 #[rv pa, rv pb] [(.int 1), (.int 0), (.ref pb), (.ref pa)]))
  refine Way.by (fun _ k => XS.aconstNull X0.here hx rfl (hb hby dN1_5) k) ?_
  show Way _ _ _ _ (s₁.setTop (mkF m 6 #[rv pa, rv pb] [.null, (.int 1), (.int 0), (.ref pb), (.ref pa)]))
  obtain ⟨_, _, ⟨T8, L10, k11, n12⟩, -, X9, ⟨Lc13, hQ14, l15, y16, z17⟩, st18⟩ := X0.specialBack hx (y := (⟨"java/lang/String", "<init>", "([CIILjava/lang/Void;)V"⟩ : MethodName)) rfl hown (mvT hZ (tw hw 11 rfl)) (mvT hZ (tw hw 12 rfl)) (mvT hZ (tw hw 14 rfl)) (by decide) (backOf (W := 0) (rmI41 l Z a0 hw [] pa pb kc cc0 h0 n0 Z0 H0 H1 H2 H3 hB hU ne_pb_pa nw_pa O0 SV SU) hZ (tw hw 14 rfl) (tw hw 7 rfl) (by decide) (by decide)) (g := (mkF m 6 #[rv pa, rv pb] [.null, (.int 1), (.int 0), (.ref pb), (.ref pa)])) rfl (by rw [hml]; rfl) (Steps.refl _) (a := pa) (argsL := [(.ref pb), (.int 0), (.int 1), .null]) (rest := []) (lenOf pdN4 rfl) rfl (leW rfl) (hb hby dN1_6) (fun _ _ => ⟨rfl, e0, (leB rfl), (leB rfl)⟩)
  dsimp only [Pt.U, Pt.locs, Pt.cells, Pt.slots] at X9 l15 y16 z17 st18 hQ14
  subst l15 y16 z17
  obtain ⟨x_pe32, x_kk31, rfl, N24, K25, fr_pe30, F_026, F_127, F_228, F_329⟩ := hQ14
  have N19 := Fr.app N0 N24
  have ne33 : pa ≠ x_pe32 := Nat.ne_of_lt (Nat.lt_of_lt_of_le H0.lt fr_pe30)
  have ne34 : pb ≠ x_pe32 := Nat.ne_of_lt (Nat.lt_of_lt_of_le H3.lt fr_pe30)
  have nw35 : n0 ≤ x_pe32 := Nat.le_trans Z0 fr_pe30
  have hk36 : h0.size ≤ x_pe32 := Nat.le_trans (Nat.le_refl h0.size) fr_pe30
  have E37 := H0.keep K25
  have A38 := H3.keep K25 (ninS ne_pb_pa nin0)
  have Z39 := Nat.le_trans Z0 K25.1
  have O40 := O0.keep K25 (allS nw_pa all0)
  have K41 := (Keep.refl h0 [pa]).trans K25 (allS (Or.inl (List.mem_of_getElem? (i := 0) rfl)) all0)
  have hz42 := Nat.le_trans (Nat.le_refl h0.size) K25.1
  refine Way.to st18 ?_
  show Way _ _ _ _ (T8.setTop (mkF m 9 #[rv pa, rv pb] []))
  refine Way.ret (v := none) X9 hlk (fun _ => rfl) (fun fs hr => X9.returnOut hx Bd.returns (hb hby dN1_9) hr) ?_ (by decide) (by decide)
  show QI11 Z pa pb kc cc0 h0 n0 _ T8.heap _
  skip
  exact ⟨x_pe32, x_kk31, rfl, N19, K41, hk36, F_026, F_127, F_228, F_329⟩
def QC520 (Z : State) (pb : Addr) (kc : ClassId) (pd : Addr) (kd : ClassId) (cc0 : Int32) (cc1 : Int32) (h0 : Heap) (n0 : Nat) (v : Option Value) (h : Heap) (L : List Loc) : Prop := v = some (.int 0) ∧ Fr n0 L ∧ Keep h0 h [pd]
set_option maxRecDepth 65536 in
set_option maxHeartbeats 40000000 in
theorem rmC520 (l : Launch) (Z : State) (a0 : Array Value) (hw : ∀ d ∈ tables_1, d.before a0 Z = true) (ws : List Jvm.Cond) (pb : Addr) (kc : ClassId) (pd : Addr) (kd : ClassId) (cc0 : Int32) (cc1 : Int32) (h0 : Heap) (n0 : Nat) (Z0 : n0 ≤ h0.size) (H0 : Arv Z h0 pb kc .char (2 : Int32) [(.int cc0), (.int cc1)] (.int 0)) (H1 : Arv Z h0 pd kd .byte (2 : Int32) [] (.int 0)) (hc0 : (255 : Int32) < cc0) (ne_pb_pd : pb ≠ pd) (nw_pd : n0 ≤ pd) :
    MetFree l (⟨"java/lang/StringUTF16", "compress", "([CI[BII)I"⟩ : MethodName) (head1 (Jvm.Cond.code (⟨"java/lang/StringUTF16", "compress", "([CI[BII)I"⟩ : MethodName) jdk_52_method_21_code 7 (some .int) :: ws) ({ frames := 0, cells := 0, slots := 0, locals := 0 } : Room)) (fun aa U => aa = #[(.ref pb), (.int 0), (.ref pd), (.int 0), (.int 2)] ∧ Z.Warmed39 U.vm ∧ U.heap = h0) (fun _ _ _ _ _ => True) (fun _ U oo U' => ∃ v L, oo = .returned v ∧ QC520 Z pb kc pd kd cc0 cc1 h0 n0 v U'.heap L ∧ FrameEnd U oo U' L ({ frames := 0, cells := 0, slots := 0, locals := 0 } : Room).cells ({ frames := 0, cells := 0, slots := 0, locals := 0 } : Room).slots) := by
  refine MetFree.of_bodySF (plainFor_of_name pnGC) hisR ?_
  intro p e s m args below meth c s₁ Bd hml0 hP hK
  obtain ⟨rfl, hZ, hh⟩ := hP
  have hx := Bd.exec
  have hby := Bd.bytes
  have hlk : meth.locks = false := BodyLoose.notSynchronized Bd
  have hml : c.maxLocals = 7 := hml0
  have hown : s.vm.findClass "java/lang/StringUTF16" = some m.cls := findClass_of_methodNamed Bd.named
  have hnm := (name_of_methodNamed Bd.named Bd.method).1
  have X0 : Stand p l e ({ frames := 0, cells := 0, slots := 0, locals := 0 } : Room) s m #[(.ref pb), (.int 0), (.ref pd), (.int 0), (.int 2)] below meth c s₁ [] 0 0 := Stand.of_body Bd
  have e0 : s₁.heap = h0 := by rw [← hh, Bd.state]; rfl
  have N0 := Fr.nil n0
  have ef : entryFrame m #[(.ref pb), (.int 0), (.ref pd), (.int 0), (.int 2)] 7 = mkF m 0 #[rv pb, iv 0, rv pd, iv 0, iv 2, .unset, .unset] [] := by first | (simp [entryFrame, mkF, argsToLocals, Value.category, maxLocals]; done) | rfl
  show Way p.tables e below (KQ s (QC520 Z pb kc pd kd cc0 cc1 h0 n0) ({ frames := 0, cells := 0, slots := 0, locals := 0 } : Room).cells ({ frames := 0, cells := 0, slots := 0, locals := 0 } : Room).slots) (s₁.setTop (entryFrame m #[(.ref pb), (.int 0), (.ref pd), (.int 0), (.int 2)] 7))
  rw [ef]
  refine Way.by (fun _ k => XS.iconst X0.here hx rfl (hb hby dC510_0) k) ?_
  show Way _ _ _ _ (s₁.setTop (mkF m 1 #[rv pb, iv 0, rv pd, iv 0, iv 2, .unset, .unset] [(.int 0)]))
  refine Way.by (fun _ k => XS.istore X0.here hx rfl (hb hby dC510_1) rfl (l' := #[rv pb, iv 0, rv pd, iv 0, iv 2, iv 0, .unset]) rfl k) ?_
  show Way _ _ _ _ (s₁.setTop (mkF m 3 #[rv pb, iv 0, rv pd, iv 0, iv 2, iv 0, .unset] []))
  refine Way.by (fun _ k => XS.iload X0.here hx rfl (hb hby dC510_3) rfl k) ?_
  show Way _ _ _ _ (s₁.setTop (mkF m 5 #[rv pb, iv 0, rv pd, iv 0, iv 2, iv 0, .unset] [(.int 0)]))
  refine Way.by (fun _ k => XS.iload X0.here hx rfl (hb hby dC510_5) rfl k) ?_
  show Way _ _ _ _ (s₁.setTop (mkF m 7 #[rv pb, iv 0, rv pd, iv 0, iv 2, iv 0, .unset] [(.int 2), (.int 0)]))
  have b1 : (0 : Int32) < (2 : Int32) := by decide
  refine Way.by (fun _ k => XS.icmpNo X0.here hx rfl (hb hby dC510_7) rfl (tlt b1).2.1 k) ?_
  show Way _ _ _ _ (s₁.setTop (mkF m 10 #[rv pb, iv 0, rv pd, iv 0, iv 2, iv 0, .unset] []))
  refine Way.by (fun _ k => XS.aloadN X0.here hx rfl (hb hby dC510_10) rfl rfl k) ?_
  show Way _ _ _ _ (s₁.setTop (mkF m 11 #[rv pb, iv 0, rv pd, iv 0, iv 2, iv 0, .unset] [(.ref pb)]))
  refine Way.by (fun _ k => XS.iloadN X0.here hx rfl (hb hby dC510_11) rfl k) ?_
  show Way _ _ _ _ (s₁.setTop (mkF m 12 #[rv pb, iv 0, rv pd, iv 0, iv 2, iv 0, .unset] [(.int 0), (.ref pb)]))
  obtain ⟨c2, A3, q4, S5, M6, H7, U8⟩ := id H0
  refine Way.by (fun t k => Stand.caload X0 hx (hpE e0 A3.1) (arrS hZ A3) A3.2.2 (inb_of S5 ⟨(by decide), (by decide)⟩) (Has.at H7 (inb_of S5 ⟨(by decide), (by decide)⟩) rfl) (g := (mkF m 12 #[rv pb, iv 0, rv pd, iv 0, iv 2, iv 0, .unset] [(.int 0), (.ref pb)])) rfl rfl (hb hby dC510_12) t k) ?_
  show Way _ _ _ _ (s₁.setTop (mkF m 13 #[rv pb, iv 0, rv pd, iv 0, iv 2, iv 0, .unset] [(.int cc0)]))
  refine Way.by (fun _ k => XS.istore X0.here hx rfl (hb hby dC510_13) rfl (l' := #[rv pb, iv 0, rv pd, iv 0, iv 2, iv 0, iv cc0]) rfl k) ?_
  show Way _ _ _ _ (s₁.setTop (mkF m 15 #[rv pb, iv 0, rv pd, iv 0, iv 2, iv 0, iv cc0] []))
  refine Way.by (fun _ k => XS.iload X0.here hx rfl (hb hby dC510_15) rfl k) ?_
  show Way _ _ _ _ (s₁.setTop (mkF m 17 #[rv pb, iv 0, rv pd, iv 0, iv 2, iv 0, iv cc0] [(.int cc0)]))
  refine Way.by (fun _ k => XS.sipush X0.here hx rfl (hb hby dC510_17) k) ?_
  show Way _ _ _ _ (s₁.setTop (mkF m 20 #[rv pb, iv 0, rv pd, iv 0, iv 2, iv 0, iv cc0] [(.int 255), (.int cc0)]))
  have b9 : (255 : Int32) < cc0 := hc0
  refine Way.by (fun _ k => XS.icmpNo X0.here hx rfl (hb hby dC510_20) rfl (tlt b9).2.2.2 k) ?_
  show Way _ _ _ _ (s₁.setTop (mkF m 23 #[rv pb, iv 0, rv pd, iv 0, iv 2, iv 0, iv cc0] []))
  refine Way.by (fun _ k => XS.iload X0.here hx rfl (hb hby dC510_23) rfl k) ?_
  show Way _ _ _ _ (s₁.setTop (mkF m 25 #[rv pb, iv 0, rv pd, iv 0, iv 2, iv 0, iv cc0] [(.int 0)]))
  refine Way.ret (v := (some (.int 0))) X0 hlk (fun h => by rw [Bd.returns] at h; cases h) (fun fs hr => retI X0 hx Bd.returns (hb hby dC510_25) hr) ?_ (by decide) (by decide)
  show QC520 Z pb kc pd kd cc0 cc1 h0 n0 _ s₁.heap _
  rw [e0]
  exact ⟨rfl, N0, (Keep.refl h0 [pd])⟩
def QC521 (Z : State) (pb : Addr) (kc : ClassId) (pd : Addr) (kd : ClassId) (cc0 : Int32) (cc1 : Int32) (h0 : Heap) (n0 : Nat) (v : Option Value) (h : Heap) (L : List Loc) : Prop := v = some (.int 1) ∧ Fr n0 L ∧ Keep h0 h [pd]
theorem dC521_26 : decode jdk_52_method_21_code 26 = .ok (.aload_n 2, 1) := by decide +kernel
theorem dC521_27 : decode jdk_52_method_21_code 27 = .ok (.iload_n 3, 1) := by decide +kernel
theorem dC521_28 : decode jdk_52_method_21_code 28 = .ok (.iload 6, 2) := by decide +kernel
theorem dC521_30 : decode jdk_52_method_21_code 30 = .ok (.i2b, 1) := by decide +kernel
theorem dC521_31 : decode jdk_52_method_21_code 31 = .ok (.bastore, 1) := by decide +kernel
theorem dC521_32 : decode jdk_52_method_21_code 32 = .ok (.iinc 1 1, 3) := by decide +kernel
theorem dC521_35 : decode jdk_52_method_21_code 35 = .ok (.iinc 3 1, 3) := by decide +kernel
theorem dC521_38 : decode jdk_52_method_21_code 38 = .ok (.iinc 5 1, 3) := by decide +kernel
theorem dC521_41 : decode jdk_52_method_21_code 41 = .ok (.goto (-38), 3) := by decide +kernel
set_option maxRecDepth 65536 in
set_option maxHeartbeats 40000000 in
theorem rmC521 (l : Launch) (Z : State) (a0 : Array Value) (hw : ∀ d ∈ tables_1, d.before a0 Z = true) (ws : List Jvm.Cond) (pb : Addr) (kc : ClassId) (pd : Addr) (kd : ClassId) (cc0 : Int32) (cc1 : Int32) (h0 : Heap) (n0 : Nat) (Z0 : n0 ≤ h0.size) (H0 : Arv Z h0 pb kc .char (2 : Int32) [(.int cc0), (.int cc1)] (.int 0)) (H1 : Arv Z h0 pd kd .byte (2 : Int32) [] (.int 0)) (hc0 : ¬ (255 : Int32) < cc0) (hc1 : (255 : Int32) < cc1) (ne_pb_pd : pb ≠ pd) (nw_pd : n0 ≤ pd) :
    MetFree l (⟨"java/lang/StringUTF16", "compress", "([CI[BII)I"⟩ : MethodName) (head1 (Jvm.Cond.code (⟨"java/lang/StringUTF16", "compress", "([CI[BII)I"⟩ : MethodName) jdk_52_method_21_code 7 (some .int) :: ws) ({ frames := 0, cells := 0, slots := 0, locals := 0 } : Room)) (fun aa U => aa = #[(.ref pb), (.int 0), (.ref pd), (.int 0), (.int 2)] ∧ Z.Warmed39 U.vm ∧ U.heap = h0) (fun _ _ _ _ _ => True) (fun _ U oo U' => ∃ v L, oo = .returned v ∧ QC521 Z pb kc pd kd cc0 cc1 h0 n0 v U'.heap L ∧ FrameEnd U oo U' L ({ frames := 0, cells := 0, slots := 0, locals := 0 } : Room).cells ({ frames := 0, cells := 0, slots := 0, locals := 0 } : Room).slots) := by
  refine MetFree.of_bodySF (plainFor_of_name pnGC) hisR ?_
  intro p e s m args below meth c s₁ Bd hml0 hP hK
  obtain ⟨rfl, hZ, hh⟩ := hP
  have hx := Bd.exec
  have hby := Bd.bytes
  have hlk : meth.locks = false := BodyLoose.notSynchronized Bd
  have hml : c.maxLocals = 7 := hml0
  have hown : s.vm.findClass "java/lang/StringUTF16" = some m.cls := findClass_of_methodNamed Bd.named
  have hnm := (name_of_methodNamed Bd.named Bd.method).1
  have X0 : Stand p l e ({ frames := 0, cells := 0, slots := 0, locals := 0 } : Room) s m #[(.ref pb), (.int 0), (.ref pd), (.int 0), (.int 2)] below meth c s₁ [] 0 0 := Stand.of_body Bd
  have e0 : s₁.heap = h0 := by rw [← hh, Bd.state]; rfl
  have N0 := Fr.nil n0
  have ef : entryFrame m #[(.ref pb), (.int 0), (.ref pd), (.int 0), (.int 2)] 7 = mkF m 0 #[rv pb, iv 0, rv pd, iv 0, iv 2, .unset, .unset] [] := by first | (simp [entryFrame, mkF, argsToLocals, Value.category, maxLocals]; done) | rfl
  show Way p.tables e below (KQ s (QC521 Z pb kc pd kd cc0 cc1 h0 n0) ({ frames := 0, cells := 0, slots := 0, locals := 0 } : Room).cells ({ frames := 0, cells := 0, slots := 0, locals := 0 } : Room).slots) (s₁.setTop (entryFrame m #[(.ref pb), (.int 0), (.ref pd), (.int 0), (.int 2)] 7))
  rw [ef]
  refine Way.by (fun _ k => XS.iconst X0.here hx rfl (hb hby dC510_0) k) ?_
  show Way _ _ _ _ (s₁.setTop (mkF m 1 #[rv pb, iv 0, rv pd, iv 0, iv 2, .unset, .unset] [(.int 0)]))
  refine Way.by (fun _ k => XS.istore X0.here hx rfl (hb hby dC510_1) rfl (l' := #[rv pb, iv 0, rv pd, iv 0, iv 2, iv 0, .unset]) rfl k) ?_
  show Way _ _ _ _ (s₁.setTop (mkF m 3 #[rv pb, iv 0, rv pd, iv 0, iv 2, iv 0, .unset] []))
  refine Way.by (fun _ k => XS.iload X0.here hx rfl (hb hby dC510_3) rfl k) ?_
  show Way _ _ _ _ (s₁.setTop (mkF m 5 #[rv pb, iv 0, rv pd, iv 0, iv 2, iv 0, .unset] [(.int 0)]))
  refine Way.by (fun _ k => XS.iload X0.here hx rfl (hb hby dC510_5) rfl k) ?_
  show Way _ _ _ _ (s₁.setTop (mkF m 7 #[rv pb, iv 0, rv pd, iv 0, iv 2, iv 0, .unset] [(.int 2), (.int 0)]))
  have b1 : (0 : Int32) < (2 : Int32) := by decide
  refine Way.by (fun _ k => XS.icmpNo X0.here hx rfl (hb hby dC510_7) rfl (tlt b1).2.1 k) ?_
  show Way _ _ _ _ (s₁.setTop (mkF m 10 #[rv pb, iv 0, rv pd, iv 0, iv 2, iv 0, .unset] []))
  refine Way.by (fun _ k => XS.aloadN X0.here hx rfl (hb hby dC510_10) rfl rfl k) ?_
  show Way _ _ _ _ (s₁.setTop (mkF m 11 #[rv pb, iv 0, rv pd, iv 0, iv 2, iv 0, .unset] [(.ref pb)]))
  refine Way.by (fun _ k => XS.iloadN X0.here hx rfl (hb hby dC510_11) rfl k) ?_
  show Way _ _ _ _ (s₁.setTop (mkF m 12 #[rv pb, iv 0, rv pd, iv 0, iv 2, iv 0, .unset] [(.int 0), (.ref pb)]))
  obtain ⟨c2, A3, q4, S5, M6, H7, U8⟩ := id H0
  refine Way.by (fun t k => Stand.caload X0 hx (hpE e0 A3.1) (arrS hZ A3) A3.2.2 (inb_of S5 ⟨(by decide), (by decide)⟩) (Has.at H7 (inb_of S5 ⟨(by decide), (by decide)⟩) rfl) (g := (mkF m 12 #[rv pb, iv 0, rv pd, iv 0, iv 2, iv 0, .unset] [(.int 0), (.ref pb)])) rfl rfl (hb hby dC510_12) t k) ?_
  show Way _ _ _ _ (s₁.setTop (mkF m 13 #[rv pb, iv 0, rv pd, iv 0, iv 2, iv 0, .unset] [(.int cc0)]))
  refine Way.by (fun _ k => XS.istore X0.here hx rfl (hb hby dC510_13) rfl (l' := #[rv pb, iv 0, rv pd, iv 0, iv 2, iv 0, iv cc0]) rfl k) ?_
  show Way _ _ _ _ (s₁.setTop (mkF m 15 #[rv pb, iv 0, rv pd, iv 0, iv 2, iv 0, iv cc0] []))
  refine Way.by (fun _ k => XS.iload X0.here hx rfl (hb hby dC510_15) rfl k) ?_
  show Way _ _ _ _ (s₁.setTop (mkF m 17 #[rv pb, iv 0, rv pd, iv 0, iv 2, iv 0, iv cc0] [(.int cc0)]))
  refine Way.by (fun _ k => XS.sipush X0.here hx rfl (hb hby dC510_17) k) ?_
  show Way _ _ _ _ (s₁.setTop (mkF m 20 #[rv pb, iv 0, rv pd, iv 0, iv 2, iv 0, iv cc0] [(.int 255), (.int cc0)]))
  have b9 : ¬ (255 : Int32) < cc0 := hc0
  refine Way.by (fun _ k => XS.icmpYes X0.here hx rfl (pc0 := 20) (pc' := 26) rfl (hb hby dC510_20) rfl (flt b9).2.2.2 (by decide) (by decide) k) ?_
  show Way _ _ _ _ (s₁.setTop (mkF m 26 #[rv pb, iv 0, rv pd, iv 0, iv 2, iv 0, iv cc0] []))
  refine Way.by (fun _ k => XS.aloadN X0.here hx rfl (hb hby dC521_26) rfl rfl k) ?_
  show Way _ _ _ _ (s₁.setTop (mkF m 27 #[rv pb, iv 0, rv pd, iv 0, iv 2, iv 0, iv cc0] [(.ref pd)]))
  refine Way.by (fun _ k => XS.iloadN X0.here hx rfl (hb hby dC521_27) rfl k) ?_
  show Way _ _ _ _ (s₁.setTop (mkF m 28 #[rv pb, iv 0, rv pd, iv 0, iv 2, iv 0, iv cc0] [(.int 0), (.ref pd)]))
  refine Way.by (fun _ k => XS.iload X0.here hx rfl (hb hby dC521_28) rfl k) ?_
  show Way _ _ _ _ (s₁.setTop (mkF m 30 #[rv pb, iv 0, rv pd, iv 0, iv 2, iv 0, iv cc0] [(.int cc0), (.int 0), (.ref pd)]))
  refine Way.by (fun _ k => XT.i2b X0.here hx rfl (hb hby dC521_30) rfl k) ?_
  show Way _ _ _ _ (s₁.setTop (mkF m 31 #[rv pb, iv 0, rv pd, iv 0, iv 2, iv 0, iv cc0] [(.int cc0.toInt8.toInt32), (.int 0), (.ref pd)]))
  have V10 : Arv Z h0 pd kd .byte (2 : Int32) [(.int 0)] (.int 0) := H1.pad (pad_rep [] (.int 0) 1)
  obtain ⟨c11, A12, q13, S14, M15, H16, U17⟩ := id V10
  obtain ⟨T18, h19, X20, e21, W22, st23⟩ := stB X0 hx hZ e0 A12 (j := (0 : Int32)) (inb_of S14 ⟨(by decide), (by decide)⟩) (g := (mkF m 31 #[rv pb, iv 0, rv pd, iv 0, iv 2, iv 0, iv cc0] [(.int cc0.toInt8.toInt32), (.int 0), (.ref pd)])) rfl rfl (hb hby dC521_31)
  have N24 := Fr.snoc X20 N0 nw_pd
  have V25 : Arv Z h19 pd kd .byte (2 : Int32) [(.int (nar .byte cc0.toInt8.toInt32))] (.int 0) := Arv.set A12 q13 S14 M15 H16 U17 (fits_nar_byte _) W22 0 rfl (leB rfl)
  have A26 := H0.other W22 ne_pb_pd
  have Z27 : n0 ≤ h19.size := by rw [W22.size]; exact Z0
  have K28 := (Keep.refl h0 [pd]).wr W22 (Or.inl (List.mem_of_getElem? (i := 0) rfl))
  have hz29 : h0.size ≤ h19.size := by rw [W22.size]; exact (Nat.le_refl h0.size)
  refine Way.by st23 ?_
  show Way _ _ _ _ (T18.setTop (mkF m 32 #[rv pb, iv 0, rv pd, iv 0, iv 2, iv 0, iv cc0] []))
  refine Way.by (fun _ k => XS.iinc X20.here hx rfl (hb hby dC521_32) rfl (l' := #[rv pb, iv 1, rv pd, iv 0, iv 2, iv 0, iv cc0]) rfl k) ?_
  show Way _ _ _ _ (T18.setTop (mkF m 35 #[rv pb, iv 1, rv pd, iv 0, iv 2, iv 0, iv cc0] []))
  refine Way.by (fun _ k => XS.iinc X20.here hx rfl (hb hby dC521_35) rfl (l' := #[rv pb, iv 1, rv pd, iv 1, iv 2, iv 0, iv cc0]) rfl k) ?_
  show Way _ _ _ _ (T18.setTop (mkF m 38 #[rv pb, iv 1, rv pd, iv 1, iv 2, iv 0, iv cc0] []))
  refine Way.by (fun _ k => XS.iinc X20.here hx rfl (hb hby dC521_38) rfl (l' := #[rv pb, iv 1, rv pd, iv 1, iv 2, iv 1, iv cc0]) rfl k) ?_
  show Way _ _ _ _ (T18.setTop (mkF m 41 #[rv pb, iv 1, rv pd, iv 1, iv 2, iv 1, iv cc0] []))
  refine Way.by (fun _ k => XS.goto X20.here hx rfl (pc0 := 41) (pc' := 3) rfl (hb hby dC521_41) (by decide) (by decide) k) ?_
  show Way _ _ _ _ (T18.setTop (mkF m 3 #[rv pb, iv 1, rv pd, iv 1, iv 2, iv 1, iv cc0] []))
  refine Way.by (fun _ k => XS.iload X20.here hx rfl (hb hby dC510_3) rfl k) ?_
  show Way _ _ _ _ (T18.setTop (mkF m 5 #[rv pb, iv 1, rv pd, iv 1, iv 2, iv 1, iv cc0] [(.int 1)]))
  refine Way.by (fun _ k => XS.iload X20.here hx rfl (hb hby dC510_5) rfl k) ?_
  show Way _ _ _ _ (T18.setTop (mkF m 7 #[rv pb, iv 1, rv pd, iv 1, iv 2, iv 1, iv cc0] [(.int 2), (.int 1)]))
  have b30 : (1 : Int32) < (2 : Int32) := by decide
  refine Way.by (fun _ k => XS.icmpNo X20.here hx rfl (hb hby dC510_7) rfl (tlt b30).2.1 k) ?_
  show Way _ _ _ _ (T18.setTop (mkF m 10 #[rv pb, iv 1, rv pd, iv 1, iv 2, iv 1, iv cc0] []))
  refine Way.by (fun _ k => XS.aloadN X20.here hx rfl (hb hby dC510_10) rfl rfl k) ?_
  show Way _ _ _ _ (T18.setTop (mkF m 11 #[rv pb, iv 1, rv pd, iv 1, iv 2, iv 1, iv cc0] [(.ref pb)]))
  refine Way.by (fun _ k => XS.iloadN X20.here hx rfl (hb hby dC510_11) rfl k) ?_
  show Way _ _ _ _ (T18.setTop (mkF m 12 #[rv pb, iv 1, rv pd, iv 1, iv 2, iv 1, iv cc0] [(.int 1), (.ref pb)]))
  obtain ⟨c31, A32, q33, S34, M35, H36, U37⟩ := id A26
  refine Way.by (fun t k => Stand.caload X20 hx (hpE e21 A32.1) (arrS hZ A32) A32.2.2 (inb_of S34 ⟨(by decide), (by decide)⟩) (Has.at H36 (inb_of S34 ⟨(by decide), (by decide)⟩) rfl) (g := (mkF m 12 #[rv pb, iv 1, rv pd, iv 1, iv 2, iv 1, iv cc0] [(.int 1), (.ref pb)])) rfl rfl (hb hby dC510_12) t k) ?_
  show Way _ _ _ _ (T18.setTop (mkF m 13 #[rv pb, iv 1, rv pd, iv 1, iv 2, iv 1, iv cc0] [(.int cc1)]))
  refine Way.by (fun _ k => XS.istore X20.here hx rfl (hb hby dC510_13) rfl (l' := #[rv pb, iv 1, rv pd, iv 1, iv 2, iv 1, iv cc1]) rfl k) ?_
  show Way _ _ _ _ (T18.setTop (mkF m 15 #[rv pb, iv 1, rv pd, iv 1, iv 2, iv 1, iv cc1] []))
  refine Way.by (fun _ k => XS.iload X20.here hx rfl (hb hby dC510_15) rfl k) ?_
  show Way _ _ _ _ (T18.setTop (mkF m 17 #[rv pb, iv 1, rv pd, iv 1, iv 2, iv 1, iv cc1] [(.int cc1)]))
  refine Way.by (fun _ k => XS.sipush X20.here hx rfl (hb hby dC510_17) k) ?_
  show Way _ _ _ _ (T18.setTop (mkF m 20 #[rv pb, iv 1, rv pd, iv 1, iv 2, iv 1, iv cc1] [(.int 255), (.int cc1)]))
  have b38 : (255 : Int32) < cc1 := hc1
  refine Way.by (fun _ k => XS.icmpNo X20.here hx rfl (hb hby dC510_20) rfl (tlt b38).2.2.2 k) ?_
  show Way _ _ _ _ (T18.setTop (mkF m 23 #[rv pb, iv 1, rv pd, iv 1, iv 2, iv 1, iv cc1] []))
  refine Way.by (fun _ k => XS.iload X20.here hx rfl (hb hby dC510_23) rfl k) ?_
  show Way _ _ _ _ (T18.setTop (mkF m 25 #[rv pb, iv 1, rv pd, iv 1, iv 2, iv 1, iv cc1] [(.int 1)]))
  refine Way.ret (v := (some (.int 1))) X20 hlk (fun h => by rw [Bd.returns] at h; cases h) (fun fs hr => retI X20 hx Bd.returns (hb hby dC510_25) hr) ?_ (by decide) (by decide)
  show QC521 Z pb kc pd kd cc0 cc1 h0 n0 _ T18.heap _
  rw [e21]
  exact ⟨rfl, N24, K28⟩
def QNL2 (Z : State)  (h0 : Heap) (n0 : Nat) (v : Option Value) (h : Heap) (L : List Loc) : Prop := v = some (.int 4) ∧ Fr n0 L ∧ h = h0
set_option maxRecDepth 65536 in
set_option maxHeartbeats 40000000 in
theorem rmNL2 (l : Launch) (Z : State) (a0 : Array Value) (hw : ∀ d ∈ tables_1, d.before a0 Z = true) (ws : List Jvm.Cond)  (h0 : Heap) (n0 : Nat) (Z0 : n0 ≤ h0.size)  :
    MetFree l (⟨"java/lang/StringUTF16", "newBytesLength", "(I)I"⟩ : MethodName) (head1 (Jvm.Cond.code (⟨"java/lang/StringUTF16", "newBytesLength", "(I)I"⟩ : MethodName) jdk_52_method_3_code 1 (some .int) :: ws) ({ frames := 0, cells := 0, slots := 0, locals := 0 } : Room)) (fun aa U => aa = #[(.int 2)] ∧ Z.Warmed39 U.vm ∧ U.heap = h0) (fun _ _ _ _ _ => True) (fun _ U oo U' => ∃ v L, oo = .returned v ∧ QNL2 Z  h0 n0 v U'.heap L ∧ FrameEnd U oo U' L ({ frames := 0, cells := 0, slots := 0, locals := 0 } : Room).cells ({ frames := 0, cells := 0, slots := 0, locals := 0 } : Room).slots) := by
  refine MetFree.of_bodySF (plainFor_of_name pnGC) hisR ?_
  intro p e s m args below meth c s₁ Bd hml0 hP hK
  obtain ⟨rfl, hZ, hh⟩ := hP
  have hx := Bd.exec
  have hby := Bd.bytes
  have hlk : meth.locks = false := BodyLoose.notSynchronized Bd
  have hml : c.maxLocals = 1 := hml0
  have hown : s.vm.findClass "java/lang/StringUTF16" = some m.cls := findClass_of_methodNamed Bd.named
  have hnm := (name_of_methodNamed Bd.named Bd.method).1
  have X0 : Stand p l e ({ frames := 0, cells := 0, slots := 0, locals := 0 } : Room) s m #[(.int 2)] below meth c s₁ [] 0 0 := Stand.of_body Bd
  have e0 : s₁.heap = h0 := by rw [← hh, Bd.state]; rfl
  have N0 := Fr.nil n0
  have ef : entryFrame m #[(.int 2)] 1 = mkF m 0 #[iv 2] [] := by first | (simp [entryFrame, mkF, argsToLocals, Value.category, maxLocals]; done) | rfl
  show Way p.tables e below (KQ s (QNL2 Z  h0 n0) ({ frames := 0, cells := 0, slots := 0, locals := 0 } : Room).cells ({ frames := 0, cells := 0, slots := 0, locals := 0 } : Room).slots) (s₁.setTop (entryFrame m #[(.int 2)] 1))
  rw [ef]
  refine Way.by (fun _ k => XS.iloadN X0.here hx rfl (hb hby dNL1_0) rfl k) ?_
  show Way _ _ _ _ (s₁.setTop (mkF m 1 #[iv 2] [(.int 2)]))
  have b1 : ¬ (2 : Int32) < (0 : Int32) := by decide
  refine Way.by (fun _ k => XS.ifYes X0.here hx rfl (pc0 := 1) (pc' := 12) rfl (hb hby dNL1_1) rfl ((if0 .ge _).trans (flt b1).2.1) (by decide) (by decide) k) ?_
  show Way _ _ _ _ (s₁.setTop (mkF m 12 #[iv 2] []))
  refine Way.by (fun _ k => XS.iloadN X0.here hx rfl (hb hby dNL1_12) rfl k) ?_
  show Way _ _ _ _ (s₁.setTop (mkF m 13 #[iv 2] [(.int 2)]))
  refine Way.by (Stand.ldcInt X0 hx hown (mvT hZ (tw hw 95 rfl)) rfl (hb hby dNL1_13)) ?_
  show Way _ _ _ _ (s₁.setTop (mkF m 15 #[iv 2] [(.int 1073741823), (.int 2)]))
  have b2 : (2 : Int32) < (1073741823 : Int32) := by decide
  refine Way.by (fun _ k => XS.icmpYes X0.here hx rfl (pc0 := 15) (pc' := 55) rfl (hb hby dNL1_15) rfl (tlt b2).1 (by decide) (by decide) k) ?_
  show Way _ _ _ _ (s₁.setTop (mkF m 55 #[iv 2] []))
  refine Way.by (fun _ k => XS.iloadN X0.here hx rfl (hb hby dNL1_55) rfl k) ?_
  show Way _ _ _ _ (s₁.setTop (mkF m 56 #[iv 2] [(.int 2)]))
  refine Way.by (fun _ k => XS.iconst X0.here hx rfl (hb hby dNL1_56) k) ?_
  show Way _ _ _ _ (s₁.setTop (mkF m 57 #[iv 2] [(.int 1), (.int 2)]))
  refine Way.by (fun _ k => XT.ishl X0.here hx rfl (hb hby dNL1_57) rfl k) ?_
  show Way _ _ _ _ (s₁.setTop (mkF m 58 #[iv 2] [(.int 4)]))
  refine Way.ret (v := (some (.int 4))) X0 hlk (fun h => by rw [Bd.returns] at h; cases h) (fun fs hr => retI X0 hx Bd.returns (hb hby dNL1_58) hr) ?_ (by decide) (by decide)
  show QNL2 Z  h0 n0 _ s₁.heap _
  rw [e0]
  exact ⟨rfl, N0, rfl⟩
def QNF2 (Z : State)  (h0 : Heap) (n0 : Nat) (v : Option Value) (h : Heap) (L : List Loc) : Prop := ∃ (pe : Addr) (kk : ClassId), v = some (.ref pe) ∧ Fr n0 L ∧ Keep h0 h [] ∧ h0.size ≤ pe ∧ Arv Z h pe kk .byte (4 : Int32) [] (.int 0)
set_option maxRecDepth 65536 in
set_option maxHeartbeats 40000000 in
theorem rmNF2 (l : Launch) (Z : State) (a0 : Array Value) (hw : ∀ d ∈ tables_1, d.before a0 Z = true) (ws : List Jvm.Cond)  (h0 : Heap) (n0 : Nat) (Z0 : n0 ≤ h0.size)  :
    MetFree l (⟨"java/lang/StringUTF16", "newBytesFor", "(I)[B"⟩ : MethodName) (head1 (Jvm.Cond.code (⟨"java/lang/StringUTF16", "newBytesFor", "(I)[B"⟩ : MethodName) jdk_52_method_2_code 1 (some (.array .byte)) :: ws) ({ frames := 1, cells := 1, slots := 4, locals := 12 } : Room)) (fun aa U => aa = #[(.int 2)] ∧ Z.Warmed39 U.vm ∧ U.heap = h0) (fun _ _ _ _ _ => True) (fun _ U oo U' => ∃ v L, oo = .returned v ∧ QNF2 Z  h0 n0 v U'.heap L ∧ FrameEnd U oo U' L ({ frames := 1, cells := 1, slots := 4, locals := 12 } : Room).cells ({ frames := 1, cells := 1, slots := 4, locals := 12 } : Room).slots) := by
  refine MetFree.of_bodySF (plainFor_of_name pnGC) hisR ?_
  intro p e s m args below meth c s₁ Bd hml0 hP hK
  obtain ⟨rfl, hZ, hh⟩ := hP
  have hx := Bd.exec
  have hby := Bd.bytes
  have hlk : meth.locks = false := BodyLoose.notSynchronized Bd
  have hml : c.maxLocals = 1 := hml0
  have hown : s.vm.findClass "java/lang/StringUTF16" = some m.cls := findClass_of_methodNamed Bd.named
  have hnm := (name_of_methodNamed Bd.named Bd.method).1
  have X0 : Stand p l e ({ frames := 1, cells := 1, slots := 4, locals := 12 } : Room) s m #[(.int 2)] below meth c s₁ [] 0 0 := Stand.of_body Bd
  have e0 : s₁.heap = h0 := by rw [← hh, Bd.state]; rfl
  have N0 := Fr.nil n0
  have ef : entryFrame m #[(.int 2)] 1 = mkF m 0 #[iv 2] [] := by first | (simp [entryFrame, mkF, argsToLocals, Value.category, maxLocals]; done) | rfl
  show Way p.tables e below (KQ s (QNF2 Z  h0 n0) ({ frames := 1, cells := 1, slots := 4, locals := 12 } : Room).cells ({ frames := 1, cells := 1, slots := 4, locals := 12 } : Room).slots) (s₁.setTop (entryFrame m #[(.int 2)] 1))
  rw [ef]
  refine Way.by (fun _ k => XS.iloadN X0.here hx rfl (hb hby dNF1_0) rfl k) ?_
  show Way _ _ _ _ (s₁.setTop (mkF m 1 #[iv 2] [(.int 2)]))
  obtain ⟨_, _, ⟨T1, L3, k4, n5⟩, -, X2, ⟨Lc6, hQ7, l8, y9, z10⟩, st11⟩ := Jvm.LawKit.callS X0 hx (y := (⟨"java/lang/StringUTF16", "newBytesLength", "(I)I"⟩ : MethodName)) hown (mvT hZ (tw hw 92 rfl)) (mvT hZ (tw hw 93 rfl)) (mvT hZ (tw hw 72 rfl)) (mvT hZ (tw hw 94 rfl)) (by decide) (backOf (W := 0) (rmNL2 l Z a0 hw []  h0 n0 Z0 ) hZ (tw hw 94 rfl) (tw hw 72 rfl) (by decide) (by decide)) (g := (mkF m 1 #[iv 2] [(.int 2)])) rfl (by rw [hml]; rfl) (argsL := [(.int 2)]) (rest := []) (lenOf pdX1 rfl) rfl (leW rfl) (hb hby dNF1_1) (fun _ _ => ⟨rfl, e0, (leB rfl), (leB rfl)⟩)
  dsimp only [Pt.U, Pt.locs, Pt.cells, Pt.slots] at X2 l8 y9 z10 st11 hQ7
  subst l8 y9 z10
  obtain ⟨rfl, N17, e13⟩ := hQ7
  have N12 := Fr.app N0 N17
  refine Way.by st11 ?_
  show Way _ _ _ _ (T1.setTop (mkF m 4 #[iv 2] [(.int 4)]))
  obtain ⟨T19, h20, kc21, X22, e23, E24, A25, st26⟩ := newP X2 hx hZ (tw hw 19 rfl) e13 (g := (mkF m 4 #[iv 2] [(.int 4)])) rfl (hb hby dNF1_4) rfl (by decide) (cap := 4) (by decide) (by decide) (by decide) (by decide)
  obtain ⟨a27, g28⟩ : ∃ z, z = h0.size := ⟨_, rfl⟩
  rw [← g28] at A25 st26
  have nw30 : n0 ≤ a27 := Nat.le_trans Z0 (Nat.le_of_eq g28.symm)
  have hk31 : h0.size ≤ a27 := Nat.le_trans (Nat.le_refl h0.size) (Nat.le_of_eq g28.symm)
  have Z32 := Nat.le_trans Z0 E24.1
  have K33 := (Keep.refl h0 []).ext E24
  have hz34 := Nat.le_trans (Nat.le_refl h0.size) E24.1
  have V29 : Arv Z h20 a27 kc21 .byte (4 : Int32) [] (.int 0) := Arv.new A25 (by decide)
  refine Way.by st26 ?_
  show Way _ _ _ _ (T19.setTop (mkF m 6 #[iv 2] [(.ref a27)]))
  refine Way.ret (v := (some (.ref a27))) X22 hlk (fun h => by rw [Bd.returns] at h; cases h) (fun fs hr => retOut X22 hx Bd.returns rfl (Or.inr (Or.inr (Or.inr (Or.inr ⟨rfl, rfl, rfl⟩)))) (hb hby dNF1_6) hr) ?_ (by decide) (by decide)
  show QNF2 Z  h0 n0 _ T19.heap _
  rw [e23]
  exact ⟨a27, kc21, rfl, N12, K33, hk31, V29⟩
def QPC20 (Z : State) (pe : Addr) (kk : ClassId) (cc0 : Int32) (h0 : Heap) (n0 : Nat) (v : Option Value) (h : Heap) (L : List Loc) : Prop := v = none ∧ Fr n0 L ∧ Keep h0 h [pe] ∧ Arv Z h pe kk .byte (4 : Int32) [(.int (StrChars.lo8 cc0)), (.int (StrChars.hi8 cc0))] (.int 0)
set_option maxRecDepth 65536 in
set_option maxHeartbeats 40000000 in
theorem rmPC20 (l : Launch) (Z : State) (a0 : Array Value) (hw : ∀ d ∈ tables_1, d.before a0 Z = true) (ws : List Jvm.Cond) (pe : Addr) (kk : ClassId) (cc0 : Int32) (h0 : Heap) (n0 : Nat) (Z0 : n0 ≤ h0.size) (H0 : Arv Z h0 pe kk .byte (4 : Int32) [] (.int 0)) (nw_pe : n0 ≤ pe) (O0 : Old Z n0 h0) (SV : own_Env Z) (SU : own_U16 Z) :
    MetFree l (⟨"java/lang/StringUTF16", "putChar", "([BII)V"⟩ : MethodName) (head1 (Jvm.Cond.code (⟨"java/lang/StringUTF16", "putChar", "([BII)V"⟩ : MethodName) jdk_52_method_4_code 3 none :: ws) ({ frames := 0, cells := 0, slots := 0, locals := 0 } : Room)) (fun aa U => aa = #[(.ref pe), (.int 0), (.int cc0)] ∧ Z.Warmed39 U.vm ∧ U.heap = h0) (fun _ _ _ _ _ => True) (fun _ U oo U' => ∃ v L, oo = .returned v ∧ QPC20 Z pe kk cc0 h0 n0 v U'.heap L ∧ FrameEnd U oo U' L ({ frames := 0, cells := 0, slots := 0, locals := 0 } : Room).cells ({ frames := 0, cells := 0, slots := 0, locals := 0 } : Room).slots) := by
  refine MetFree.of_bodySF (plainFor_of_name pnGC) hisR ?_
  intro p e s m args below meth c s₁ Bd hml0 hP hK
  obtain ⟨rfl, hZ, hh⟩ := hP
  have hx := Bd.exec
  have hby := Bd.bytes
  have hlk : meth.locks = false := BodyLoose.notSynchronized Bd
  have hml : c.maxLocals = 3 := hml0
  have hown : s.vm.findClass "java/lang/StringUTF16" = some m.cls := findClass_of_methodNamed Bd.named
  have hnm := (name_of_methodNamed Bd.named Bd.method).1
  have X0 : Stand p l e ({ frames := 0, cells := 0, slots := 0, locals := 0 } : Room) s m #[(.ref pe), (.int 0), (.int cc0)] below meth c s₁ [] 0 0 := Stand.of_body Bd
  have e0 : s₁.heap = h0 := by rw [← hh, Bd.state]; rfl
  have N0 := Fr.nil n0
  have ef : entryFrame m #[(.ref pe), (.int 0), (.int cc0)] 3 = mkF m 0 #[rv pe, iv 0, iv cc0] [] := by first | (simp [entryFrame, mkF, argsToLocals, Value.category, maxLocals]; done) | rfl
  show Way p.tables e below (KQ s (QPC20 Z pe kk cc0 h0 n0) ({ frames := 0, cells := 0, slots := 0, locals := 0 } : Room).cells ({ frames := 0, cells := 0, slots := 0, locals := 0 } : Room).slots) (s₁.setTop (entryFrame m #[(.ref pe), (.int 0), (.int cc0)] 3))
  rw [ef]
  obtain ⟨T1, X2, e3, st4⟩ := getS X0 hx hZ hown (host := "") (tw hw 99 rfl) Via.refl e0 (Sta.ext O0.2 SU.1) (g := (mkF m 0 #[rv pe, iv 0, iv cc0] [])) rfl (hb hby dPC10_0)
  refine Way.by st4 ?_
  show Way _ _ _ _ (T1.setTop (mkF m 3 #[rv pe, iv 0, iv cc0] [(.int 1)]))
  have b5 : ¬ (1 : Int32) = (0 : Int32) := by decide
  refine Way.by (fun _ k => XS.ifYes X2.here hx rfl (pc0 := 3) (pc' := 28) rfl (hb hby dPC10_3) rfl ((if0 .ne _).trans (feq b5).2) (by decide) (by decide) k) ?_
  show Way _ _ _ _ (T1.setTop (mkF m 28 #[rv pe, iv 0, iv cc0] []))
  refine Way.by (fun _ k => XS.iloadN X2.here hx rfl (hb hby dPC10_28) rfl k) ?_
  show Way _ _ _ _ (T1.setTop (mkF m 29 #[rv pe, iv 0, iv cc0] [(.int 0)]))
  refine Way.by (fun _ k => XS.iconst X2.here hx rfl (hb hby dPC10_29) k) ?_
  show Way _ _ _ _ (T1.setTop (mkF m 30 #[rv pe, iv 0, iv cc0] [(.int 1), (.int 0)]))
  refine Way.by (fun _ k => XT.ishl X2.here hx rfl (hb hby dPC10_30) rfl k) ?_
  show Way _ _ _ _ (T1.setTop (mkF m 31 #[rv pe, iv 0, iv cc0] [(.int 0)]))
  refine Way.by (fun _ k => XS.istoreN X2.here hx rfl (hb hby dPC10_31) rfl (l' := #[rv pe, iv 0, iv cc0]) rfl k) ?_
  show Way _ _ _ _ (T1.setTop (mkF m 32 #[rv pe, iv 0, iv cc0] []))
  refine Way.by (fun _ k => XS.aloadN X2.here hx rfl (hb hby dPC10_32) rfl rfl k) ?_
  show Way _ _ _ _ (T1.setTop (mkF m 33 #[rv pe, iv 0, iv cc0] [(.ref pe)]))
  refine Way.by (fun _ k => XS.iloadN X2.here hx rfl (hb hby dPC10_33) rfl k) ?_
  show Way _ _ _ _ (T1.setTop (mkF m 34 #[rv pe, iv 0, iv cc0] [(.int 0), (.ref pe)]))
  refine Way.by (fun _ k => XS.iinc X2.here hx rfl (hb hby dPC10_34) rfl (l' := #[rv pe, iv 1, iv cc0]) rfl k) ?_
  show Way _ _ _ _ (T1.setTop (mkF m 37 #[rv pe, iv 1, iv cc0] [(.int 0), (.ref pe)]))
  refine Way.by (fun _ k => XS.iloadN X2.here hx rfl (hb hby dPC10_37) rfl k) ?_
  show Way _ _ _ _ (T1.setTop (mkF m 38 #[rv pe, iv 1, iv cc0] [(.int cc0), (.int 0), (.ref pe)]))
  obtain ⟨T6, X7, e8, st9⟩ := getS X2 hx hZ hown (host := "") (tw hw 100 rfl) Via.refl e3 (Sta.ext O0.2 SU.2.1) (g := (mkF m 38 #[rv pe, iv 1, iv cc0] [(.int cc0), (.int 0), (.ref pe)])) rfl (hb hby dPC10_38)
  refine Way.by st9 ?_
  show Way _ _ _ _ (T6.setTop (mkF m 41 #[rv pe, iv 1, iv cc0] [(.int 0), (.int cc0), (.int 0), (.ref pe)]))
  refine Way.by (fun _ k => XT.ishr X7.here hx rfl (hb hby dPC10_41) rfl k) ?_
  show Way _ _ _ _ (T6.setTop (mkF m 42 #[rv pe, iv 1, iv cc0] [(.int (cc0 >>> ((0 : Int32) &&& 31))), (.int 0), (.ref pe)]))
  refine Way.by (fun _ k => XT.i2b X7.here hx rfl (hb hby dPC10_42) rfl k) ?_
  show Way _ _ _ _ (T6.setTop (mkF m 43 #[rv pe, iv 1, iv cc0] [(.int (cc0 >>> ((0 : Int32) &&& 31)).toInt8.toInt32), (.int 0), (.ref pe)]))
  have V10 : Arv Z h0 pe kk .byte (4 : Int32) [(.int 0)] (.int 0) := H0.pad (pad_rep [] (.int 0) 1)
  obtain ⟨c11, A12, q13, S14, M15, H16, U17⟩ := id V10
  obtain ⟨T18, h19, X20, e21, W22, st23⟩ := stB X7 hx hZ e8 A12 (j := (0 : Int32)) (inb_of S14 ⟨(by decide), (by decide)⟩) (g := (mkF m 43 #[rv pe, iv 1, iv cc0] [(.int (cc0 >>> ((0 : Int32) &&& 31)).toInt8.toInt32), (.int 0), (.ref pe)])) rfl rfl (hb hby dPC10_43)
  have N24 := Fr.snoc X20 N0 nw_pe
  have V25 : Arv Z h19 pe kk .byte (4 : Int32) [(.int (nar .byte (cc0 >>> ((0 : Int32) &&& 31)).toInt8.toInt32))] (.int 0) := Arv.set A12 q13 S14 M15 H16 U17 (fits_nar_byte _) W22 0 rfl (leB rfl)
  have Z26 : n0 ≤ h19.size := by rw [W22.size]; exact Z0
  have O27 := O0.wr W22 nw_pe
  have K28 := (Keep.refl h0 [pe]).wr W22 (Or.inl (List.mem_of_getElem? (i := 0) rfl))
  have hz29 : h0.size ≤ h19.size := by rw [W22.size]; exact (Nat.le_refl h0.size)
  refine Way.by st23 ?_
  show Way _ _ _ _ (T18.setTop (mkF m 44 #[rv pe, iv 1, iv cc0] []))
  refine Way.by (fun _ k => XS.aloadN X20.here hx rfl (hb hby dPC10_44) rfl rfl k) ?_
  show Way _ _ _ _ (T18.setTop (mkF m 45 #[rv pe, iv 1, iv cc0] [(.ref pe)]))
  refine Way.by (fun _ k => XS.iloadN X20.here hx rfl (hb hby dPC10_45) rfl k) ?_
  show Way _ _ _ _ (T18.setTop (mkF m 46 #[rv pe, iv 1, iv cc0] [(.int 1), (.ref pe)]))
  refine Way.by (fun _ k => XS.iloadN X20.here hx rfl (hb hby dPC10_46) rfl k) ?_
  show Way _ _ _ _ (T18.setTop (mkF m 47 #[rv pe, iv 1, iv cc0] [(.int cc0), (.int 1), (.ref pe)]))
  obtain ⟨T30, X31, e32, st33⟩ := getS X20 hx hZ hown (host := "") (tw hw 101 rfl) Via.refl e21 (Sta.ext O27.2 SU.2.2) (g := (mkF m 47 #[rv pe, iv 1, iv cc0] [(.int cc0), (.int 1), (.ref pe)])) rfl (hb hby dPC10_47)
  refine Way.by st33 ?_
  show Way _ _ _ _ (T30.setTop (mkF m 50 #[rv pe, iv 1, iv cc0] [(.int 8), (.int cc0), (.int 1), (.ref pe)]))
  refine Way.by (fun _ k => XT.ishr X31.here hx rfl (hb hby dPC10_50) rfl k) ?_
  show Way _ _ _ _ (T30.setTop (mkF m 51 #[rv pe, iv 1, iv cc0] [(.int (cc0 >>> ((8 : Int32) &&& 31))), (.int 1), (.ref pe)]))
  refine Way.by (fun _ k => XT.i2b X31.here hx rfl (hb hby dPC10_51) rfl k) ?_
  show Way _ _ _ _ (T30.setTop (mkF m 52 #[rv pe, iv 1, iv cc0] [(.int (cc0 >>> ((8 : Int32) &&& 31)).toInt8.toInt32), (.int 1), (.ref pe)]))
  have V34 : Arv Z h19 pe kk .byte (4 : Int32) [(.int (nar .byte (cc0 >>> ((0 : Int32) &&& 31)).toInt8.toInt32)), (.int 0)] (.int 0) := V25.pad (pad_rep [(.int (nar .byte (cc0 >>> ((0 : Int32) &&& 31)).toInt8.toInt32))] (.int 0) 1)
  obtain ⟨c35, A36, q37, S38, M39, H40, U41⟩ := id V34
  obtain ⟨T42, h43, X44, e45, W46, st47⟩ := stB X31 hx hZ e32 A36 (j := (1 : Int32)) (inb_of S38 ⟨(by decide), (by decide)⟩) (g := (mkF m 52 #[rv pe, iv 1, iv cc0] [(.int (cc0 >>> ((8 : Int32) &&& 31)).toInt8.toInt32), (.int 1), (.ref pe)])) rfl rfl (hb hby dPC10_52)
  have N48 := Fr.snoc X44 N24 nw_pe
  have V49 : Arv Z h43 pe kk .byte (4 : Int32) [(.int (nar .byte (cc0 >>> ((0 : Int32) &&& 31)).toInt8.toInt32)), (.int (nar .byte (cc0 >>> ((8 : Int32) &&& 31)).toInt8.toInt32))] (.int 0) := Arv.set A36 q37 S38 M39 H40 U41 (fits_nar_byte _) W46 1 rfl (leB rfl)
  have Z50 : n0 ≤ h43.size := by rw [W46.size]; exact Z26
  have O51 := O27.wr W46 nw_pe
  have K52 := K28.wr W46 (Or.inl (List.mem_of_getElem? (i := 0) rfl))
  have hz53 : h0.size ≤ h43.size := by rw [W46.size]; exact hz29
  refine Way.by st47 ?_
  show Way _ _ _ _ (T42.setTop (mkF m 53 #[rv pe, iv 1, iv cc0] []))
  refine Way.ret (v := none) X44 hlk (fun _ => rfl) (fun fs hr => X44.returnOut hx Bd.returns (hb hby dPC10_53) hr) ?_ (by decide) (by decide)
  show QPC20 Z pe kk cc0 h0 n0 _ T42.heap _
  rw [e45]
  have AF : Arv Z h43 pe kk .byte (4 : Int32) [(.int (StrChars.lo8 cc0)), (.int (StrChars.hi8 cc0))] (.int 0) := by have q := V49; rw [own_nb0 cc0, own_nb8 cc0] at q; exact q
  exact ⟨rfl, N48, K52, AF⟩
def QPC21 (Z : State) (pe : Addr) (kk : ClassId) (cc0 : Int32) (cc1 : Int32) (h0 : Heap) (n0 : Nat) (v : Option Value) (h : Heap) (L : List Loc) : Prop := v = none ∧ Fr n0 L ∧ Keep h0 h [pe] ∧ Arv Z h pe kk .byte (4 : Int32) [(.int (StrChars.lo8 cc0)), (.int (StrChars.hi8 cc0)), (.int (StrChars.lo8 cc1)), (.int (StrChars.hi8 cc1))] (.int 0)
set_option maxRecDepth 65536 in
set_option maxHeartbeats 40000000 in
theorem rmPC21 (l : Launch) (Z : State) (a0 : Array Value) (hw : ∀ d ∈ tables_1, d.before a0 Z = true) (ws : List Jvm.Cond) (pe : Addr) (kk : ClassId) (cc0 : Int32) (cc1 : Int32) (h0 : Heap) (n0 : Nat) (Z0 : n0 ≤ h0.size) (H0 : Arv Z h0 pe kk .byte (4 : Int32) [(.int (StrChars.lo8 cc0)), (.int (StrChars.hi8 cc0))] (.int 0)) (nw_pe : n0 ≤ pe) (O0 : Old Z n0 h0) (SV : own_Env Z) (SU : own_U16 Z) :
    MetFree l (⟨"java/lang/StringUTF16", "putChar", "([BII)V"⟩ : MethodName) (head1 (Jvm.Cond.code (⟨"java/lang/StringUTF16", "putChar", "([BII)V"⟩ : MethodName) jdk_52_method_4_code 3 none :: ws) ({ frames := 0, cells := 0, slots := 0, locals := 0 } : Room)) (fun aa U => aa = #[(.ref pe), (.int 1), (.int cc1)] ∧ Z.Warmed39 U.vm ∧ U.heap = h0) (fun _ _ _ _ _ => True) (fun _ U oo U' => ∃ v L, oo = .returned v ∧ QPC21 Z pe kk cc0 cc1 h0 n0 v U'.heap L ∧ FrameEnd U oo U' L ({ frames := 0, cells := 0, slots := 0, locals := 0 } : Room).cells ({ frames := 0, cells := 0, slots := 0, locals := 0 } : Room).slots) := by
  refine MetFree.of_bodySF (plainFor_of_name pnGC) hisR ?_
  intro p e s m args below meth c s₁ Bd hml0 hP hK
  obtain ⟨rfl, hZ, hh⟩ := hP
  have hx := Bd.exec
  have hby := Bd.bytes
  have hlk : meth.locks = false := BodyLoose.notSynchronized Bd
  have hml : c.maxLocals = 3 := hml0
  have hown : s.vm.findClass "java/lang/StringUTF16" = some m.cls := findClass_of_methodNamed Bd.named
  have hnm := (name_of_methodNamed Bd.named Bd.method).1
  have X0 : Stand p l e ({ frames := 0, cells := 0, slots := 0, locals := 0 } : Room) s m #[(.ref pe), (.int 1), (.int cc1)] below meth c s₁ [] 0 0 := Stand.of_body Bd
  have e0 : s₁.heap = h0 := by rw [← hh, Bd.state]; rfl
  have N0 := Fr.nil n0
  have ef : entryFrame m #[(.ref pe), (.int 1), (.int cc1)] 3 = mkF m 0 #[rv pe, iv 1, iv cc1] [] := by first | (simp [entryFrame, mkF, argsToLocals, Value.category, maxLocals]; done) | rfl
  show Way p.tables e below (KQ s (QPC21 Z pe kk cc0 cc1 h0 n0) ({ frames := 0, cells := 0, slots := 0, locals := 0 } : Room).cells ({ frames := 0, cells := 0, slots := 0, locals := 0 } : Room).slots) (s₁.setTop (entryFrame m #[(.ref pe), (.int 1), (.int cc1)] 3))
  rw [ef]
  obtain ⟨T1, X2, e3, st4⟩ := getS X0 hx hZ hown (host := "") (tw hw 99 rfl) Via.refl e0 (Sta.ext O0.2 SU.1) (g := (mkF m 0 #[rv pe, iv 1, iv cc1] [])) rfl (hb hby dPC10_0)
  refine Way.by st4 ?_
  show Way _ _ _ _ (T1.setTop (mkF m 3 #[rv pe, iv 1, iv cc1] [(.int 1)]))
  have b5 : ¬ (1 : Int32) = (0 : Int32) := by decide
  refine Way.by (fun _ k => XS.ifYes X2.here hx rfl (pc0 := 3) (pc' := 28) rfl (hb hby dPC10_3) rfl ((if0 .ne _).trans (feq b5).2) (by decide) (by decide) k) ?_
  show Way _ _ _ _ (T1.setTop (mkF m 28 #[rv pe, iv 1, iv cc1] []))
  refine Way.by (fun _ k => XS.iloadN X2.here hx rfl (hb hby dPC10_28) rfl k) ?_
  show Way _ _ _ _ (T1.setTop (mkF m 29 #[rv pe, iv 1, iv cc1] [(.int 1)]))
  refine Way.by (fun _ k => XS.iconst X2.here hx rfl (hb hby dPC10_29) k) ?_
  show Way _ _ _ _ (T1.setTop (mkF m 30 #[rv pe, iv 1, iv cc1] [(.int 1), (.int 1)]))
  refine Way.by (fun _ k => XT.ishl X2.here hx rfl (hb hby dPC10_30) rfl k) ?_
  show Way _ _ _ _ (T1.setTop (mkF m 31 #[rv pe, iv 1, iv cc1] [(.int 2)]))
  refine Way.by (fun _ k => XS.istoreN X2.here hx rfl (hb hby dPC10_31) rfl (l' := #[rv pe, iv 2, iv cc1]) rfl k) ?_
  show Way _ _ _ _ (T1.setTop (mkF m 32 #[rv pe, iv 2, iv cc1] []))
  refine Way.by (fun _ k => XS.aloadN X2.here hx rfl (hb hby dPC10_32) rfl rfl k) ?_
  show Way _ _ _ _ (T1.setTop (mkF m 33 #[rv pe, iv 2, iv cc1] [(.ref pe)]))
  refine Way.by (fun _ k => XS.iloadN X2.here hx rfl (hb hby dPC10_33) rfl k) ?_
  show Way _ _ _ _ (T1.setTop (mkF m 34 #[rv pe, iv 2, iv cc1] [(.int 2), (.ref pe)]))
  refine Way.by (fun _ k => XS.iinc X2.here hx rfl (hb hby dPC10_34) rfl (l' := #[rv pe, iv 3, iv cc1]) rfl k) ?_
  show Way _ _ _ _ (T1.setTop (mkF m 37 #[rv pe, iv 3, iv cc1] [(.int 2), (.ref pe)]))
  refine Way.by (fun _ k => XS.iloadN X2.here hx rfl (hb hby dPC10_37) rfl k) ?_
  show Way _ _ _ _ (T1.setTop (mkF m 38 #[rv pe, iv 3, iv cc1] [(.int cc1), (.int 2), (.ref pe)]))
  obtain ⟨T6, X7, e8, st9⟩ := getS X2 hx hZ hown (host := "") (tw hw 100 rfl) Via.refl e3 (Sta.ext O0.2 SU.2.1) (g := (mkF m 38 #[rv pe, iv 3, iv cc1] [(.int cc1), (.int 2), (.ref pe)])) rfl (hb hby dPC10_38)
  refine Way.by st9 ?_
  show Way _ _ _ _ (T6.setTop (mkF m 41 #[rv pe, iv 3, iv cc1] [(.int 0), (.int cc1), (.int 2), (.ref pe)]))
  refine Way.by (fun _ k => XT.ishr X7.here hx rfl (hb hby dPC10_41) rfl k) ?_
  show Way _ _ _ _ (T6.setTop (mkF m 42 #[rv pe, iv 3, iv cc1] [(.int (cc1 >>> ((0 : Int32) &&& 31))), (.int 2), (.ref pe)]))
  refine Way.by (fun _ k => XT.i2b X7.here hx rfl (hb hby dPC10_42) rfl k) ?_
  show Way _ _ _ _ (T6.setTop (mkF m 43 #[rv pe, iv 3, iv cc1] [(.int (cc1 >>> ((0 : Int32) &&& 31)).toInt8.toInt32), (.int 2), (.ref pe)]))
  have V10 : Arv Z h0 pe kk .byte (4 : Int32) [(.int (StrChars.lo8 cc0)), (.int (StrChars.hi8 cc0)), (.int 0)] (.int 0) := H0.pad (pad_rep [(.int (StrChars.lo8 cc0)), (.int (StrChars.hi8 cc0))] (.int 0) 1)
  obtain ⟨c11, A12, q13, S14, M15, H16, U17⟩ := id V10
  obtain ⟨T18, h19, X20, e21, W22, st23⟩ := stB X7 hx hZ e8 A12 (j := (2 : Int32)) (inb_of S14 ⟨(by decide), (by decide)⟩) (g := (mkF m 43 #[rv pe, iv 3, iv cc1] [(.int (cc1 >>> ((0 : Int32) &&& 31)).toInt8.toInt32), (.int 2), (.ref pe)])) rfl rfl (hb hby dPC10_43)
  have N24 := Fr.snoc X20 N0 nw_pe
  have V25 : Arv Z h19 pe kk .byte (4 : Int32) [(.int (StrChars.lo8 cc0)), (.int (StrChars.hi8 cc0)), (.int (nar .byte (cc1 >>> ((0 : Int32) &&& 31)).toInt8.toInt32))] (.int 0) := Arv.set A12 q13 S14 M15 H16 U17 (fits_nar_byte _) W22 2 rfl (leB rfl)
  have Z26 : n0 ≤ h19.size := by rw [W22.size]; exact Z0
  have O27 := O0.wr W22 nw_pe
  have K28 := (Keep.refl h0 [pe]).wr W22 (Or.inl (List.mem_of_getElem? (i := 0) rfl))
  have hz29 : h0.size ≤ h19.size := by rw [W22.size]; exact (Nat.le_refl h0.size)
  refine Way.by st23 ?_
  show Way _ _ _ _ (T18.setTop (mkF m 44 #[rv pe, iv 3, iv cc1] []))
  refine Way.by (fun _ k => XS.aloadN X20.here hx rfl (hb hby dPC10_44) rfl rfl k) ?_
  show Way _ _ _ _ (T18.setTop (mkF m 45 #[rv pe, iv 3, iv cc1] [(.ref pe)]))
  refine Way.by (fun _ k => XS.iloadN X20.here hx rfl (hb hby dPC10_45) rfl k) ?_
  show Way _ _ _ _ (T18.setTop (mkF m 46 #[rv pe, iv 3, iv cc1] [(.int 3), (.ref pe)]))
  refine Way.by (fun _ k => XS.iloadN X20.here hx rfl (hb hby dPC10_46) rfl k) ?_
  show Way _ _ _ _ (T18.setTop (mkF m 47 #[rv pe, iv 3, iv cc1] [(.int cc1), (.int 3), (.ref pe)]))
  obtain ⟨T30, X31, e32, st33⟩ := getS X20 hx hZ hown (host := "") (tw hw 101 rfl) Via.refl e21 (Sta.ext O27.2 SU.2.2) (g := (mkF m 47 #[rv pe, iv 3, iv cc1] [(.int cc1), (.int 3), (.ref pe)])) rfl (hb hby dPC10_47)
  refine Way.by st33 ?_
  show Way _ _ _ _ (T30.setTop (mkF m 50 #[rv pe, iv 3, iv cc1] [(.int 8), (.int cc1), (.int 3), (.ref pe)]))
  refine Way.by (fun _ k => XT.ishr X31.here hx rfl (hb hby dPC10_50) rfl k) ?_
  show Way _ _ _ _ (T30.setTop (mkF m 51 #[rv pe, iv 3, iv cc1] [(.int (cc1 >>> ((8 : Int32) &&& 31))), (.int 3), (.ref pe)]))
  refine Way.by (fun _ k => XT.i2b X31.here hx rfl (hb hby dPC10_51) rfl k) ?_
  show Way _ _ _ _ (T30.setTop (mkF m 52 #[rv pe, iv 3, iv cc1] [(.int (cc1 >>> ((8 : Int32) &&& 31)).toInt8.toInt32), (.int 3), (.ref pe)]))
  have V34 : Arv Z h19 pe kk .byte (4 : Int32) [(.int (StrChars.lo8 cc0)), (.int (StrChars.hi8 cc0)), (.int (nar .byte (cc1 >>> ((0 : Int32) &&& 31)).toInt8.toInt32)), (.int 0)] (.int 0) := V25.pad (pad_rep [(.int (StrChars.lo8 cc0)), (.int (StrChars.hi8 cc0)), (.int (nar .byte (cc1 >>> ((0 : Int32) &&& 31)).toInt8.toInt32))] (.int 0) 1)
  obtain ⟨c35, A36, q37, S38, M39, H40, U41⟩ := id V34
  obtain ⟨T42, h43, X44, e45, W46, st47⟩ := stB X31 hx hZ e32 A36 (j := (3 : Int32)) (inb_of S38 ⟨(by decide), (by decide)⟩) (g := (mkF m 52 #[rv pe, iv 3, iv cc1] [(.int (cc1 >>> ((8 : Int32) &&& 31)).toInt8.toInt32), (.int 3), (.ref pe)])) rfl rfl (hb hby dPC10_52)
  have N48 := Fr.snoc X44 N24 nw_pe
  have V49 : Arv Z h43 pe kk .byte (4 : Int32) [(.int (StrChars.lo8 cc0)), (.int (StrChars.hi8 cc0)), (.int (nar .byte (cc1 >>> ((0 : Int32) &&& 31)).toInt8.toInt32)), (.int (nar .byte (cc1 >>> ((8 : Int32) &&& 31)).toInt8.toInt32))] (.int 0) := Arv.set A36 q37 S38 M39 H40 U41 (fits_nar_byte _) W46 3 rfl (leB rfl)
  have Z50 : n0 ≤ h43.size := by rw [W46.size]; exact Z26
  have O51 := O27.wr W46 nw_pe
  have K52 := K28.wr W46 (Or.inl (List.mem_of_getElem? (i := 0) rfl))
  have hz53 : h0.size ≤ h43.size := by rw [W46.size]; exact hz29
  refine Way.by st47 ?_
  show Way _ _ _ _ (T42.setTop (mkF m 53 #[rv pe, iv 3, iv cc1] []))
  refine Way.ret (v := none) X44 hlk (fun _ => rfl) (fun fs hr => X44.returnOut hx Bd.returns (hb hby dPC10_53) hr) ?_ (by decide) (by decide)
  show QPC21 Z pe kk cc0 cc1 h0 n0 _ T42.heap _
  rw [e45]
  have AF : Arv Z h43 pe kk .byte (4 : Int32) [(.int (StrChars.lo8 cc0)), (.int (StrChars.hi8 cc0)), (.int (StrChars.lo8 cc1)), (.int (StrChars.hi8 cc1))] (.int 0) := by have q := V49; rw [own_nb0 cc1, own_nb8 cc1] at q; exact q
  exact ⟨rfl, N48, K52, AF⟩
def QTB2 (Z : State) (pb : Addr) (kc : ClassId) (cc0 : Int32) (cc1 : Int32) (h0 : Heap) (n0 : Nat) (v : Option Value) (h : Heap) (L : List Loc) : Prop := ∃ (pe : Addr) (kk : ClassId), v = some (.ref pe) ∧ Fr n0 L ∧ Keep h0 h [] ∧ h0.size ≤ pe ∧ Arv Z h pe kk .byte (4 : Int32) [(.int (StrChars.lo8 cc0)), (.int (StrChars.hi8 cc0)), (.int (StrChars.lo8 cc1)), (.int (StrChars.hi8 cc1))] (.int 0)
set_option maxRecDepth 65536 in
set_option maxHeartbeats 40000000 in
theorem rmTB2 (l : Launch) (Z : State) (a0 : Array Value) (hw : ∀ d ∈ tables_1, d.before a0 Z = true) (ws : List Jvm.Cond) (pb : Addr) (kc : ClassId) (cc0 : Int32) (cc1 : Int32) (h0 : Heap) (n0 : Nat) (Z0 : n0 ≤ h0.size) (H0 : Arv Z h0 pb kc .char (2 : Int32) [(.int cc0), (.int cc1)] (.int 0)) (O0 : Old Z n0 h0) (SV : own_Env Z) (SU : own_U16 Z) :
    MetFree l (⟨"java/lang/StringUTF16", "toBytes", "([CII)[B"⟩ : MethodName) (head1 (Jvm.Cond.code (⟨"java/lang/StringUTF16", "toBytes", "([CII)[B"⟩ : MethodName) jdk_52_method_14_code 5 (some (.array .byte)) :: ws) ({ frames := 2, cells := 1, slots := 4, locals := 24 } : Room)) (fun aa U => aa = #[(.ref pb), (.int 0), (.int 2)] ∧ Z.Warmed39 U.vm ∧ U.heap = h0) (fun _ _ _ _ _ => True) (fun _ U oo U' => ∃ v L, oo = .returned v ∧ QTB2 Z pb kc cc0 cc1 h0 n0 v U'.heap L ∧ FrameEnd U oo U' L ({ frames := 2, cells := 1, slots := 4, locals := 24 } : Room).cells ({ frames := 2, cells := 1, slots := 4, locals := 24 } : Room).slots) := by
  refine MetFree.of_bodySF (plainFor_of_name pnGC) hisR ?_
  intro p e s m args below meth c s₁ Bd hml0 hP hK
  obtain ⟨rfl, hZ, hh⟩ := hP
  have hx := Bd.exec
  have hby := Bd.bytes
  have hlk : meth.locks = false := BodyLoose.notSynchronized Bd
  have hml : c.maxLocals = 5 := hml0
  have hown : s.vm.findClass "java/lang/StringUTF16" = some m.cls := findClass_of_methodNamed Bd.named
  have hnm := (name_of_methodNamed Bd.named Bd.method).1
  have X0 : Stand p l e ({ frames := 2, cells := 1, slots := 4, locals := 24 } : Room) s m #[(.ref pb), (.int 0), (.int 2)] below meth c s₁ [] 0 0 := Stand.of_body Bd
  have e0 : s₁.heap = h0 := by rw [← hh, Bd.state]; rfl
  have N0 := Fr.nil n0
  have ef : entryFrame m #[(.ref pb), (.int 0), (.int 2)] 5 = mkF m 0 #[rv pb, iv 0, iv 2, .unset, .unset] [] := by first | (simp [entryFrame, mkF, argsToLocals, Value.category, maxLocals]; done) | rfl
  show Way p.tables e below (KQ s (QTB2 Z pb kc cc0 cc1 h0 n0) ({ frames := 2, cells := 1, slots := 4, locals := 24 } : Room).cells ({ frames := 2, cells := 1, slots := 4, locals := 24 } : Room).slots) (s₁.setTop (entryFrame m #[(.ref pb), (.int 0), (.int 2)] 5))
  rw [ef]
  refine Way.by (fun _ k => XS.iloadN X0.here hx rfl (hb hby dTB1_0) rfl k) ?_
  show Way _ _ _ _ (s₁.setTop (mkF m 1 #[rv pb, iv 0, iv 2, .unset, .unset] [(.int 2)]))
  obtain ⟨_, _, ⟨T1, L3, k4, n5⟩, -, X2, ⟨Lc6, hQ7, l8, y9, z10⟩, st11⟩ := Jvm.LawKit.callS X0 hx (y := (⟨"java/lang/StringUTF16", "newBytesFor", "(I)[B"⟩ : MethodName)) hown (mvT hZ (tw hw 89 rfl)) (mvT hZ (tw hw 90 rfl)) (mvT hZ (tw hw 72 rfl)) (mvT hZ (tw hw 91 rfl)) (by decide) (backOf (W := 0) (rmNF2 l Z a0 hw []  h0 n0 Z0 ) hZ (tw hw 91 rfl) (tw hw 72 rfl) (by decide) (by decide)) (g := (mkF m 1 #[rv pb, iv 0, iv 2, .unset, .unset] [(.int 2)])) rfl (by rw [hml]; rfl) (argsL := [(.int 2)]) (rest := []) (lenOf pdNF1 rfl) rfl (leW rfl) (hb hby dTB1_1) (fun _ _ => ⟨rfl, e0, (leB rfl), (leB rfl)⟩)
  dsimp only [Pt.U, Pt.locs, Pt.cells, Pt.slots] at X2 l8 y9 z10 st11 hQ7
  subst l8 y9 z10
  obtain ⟨x_pe22, x_kk21, rfl, N17, K18, fr_pe20, F_019⟩ := hQ7
  have N12 := Fr.app N0 N17
  have ne23 : pb ≠ x_pe22 := Nat.ne_of_lt (Nat.lt_of_lt_of_le H0.lt fr_pe20)
  have nw24 : n0 ≤ x_pe22 := Nat.le_trans Z0 fr_pe20
  have hk25 : h0.size ≤ x_pe22 := Nat.le_trans (Nat.le_refl h0.size) fr_pe20
  have A26 := H0.keep K18 nin0
  have Z27 := Nat.le_trans Z0 K18.1
  have O28 := O0.keep K18 all0
  have K29 := (Keep.refl h0 []).trans K18 all0
  have hz30 := Nat.le_trans (Nat.le_refl h0.size) K18.1
  refine Way.by st11 ?_
  show Way _ _ _ _ (T1.setTop (mkF m 4 #[rv pb, iv 0, iv 2, .unset, .unset] [(.ref x_pe22)]))
  refine Way.by (fun _ k => XS.astoreN X2.here hx rfl (hb hby dTB1_4) rfl rfl (l' := #[rv pb, iv 0, iv 2, rv x_pe22, .unset]) rfl k) ?_
  show Way _ _ _ _ (T1.setTop (mkF m 5 #[rv pb, iv 0, iv 2, rv x_pe22, .unset] []))
  refine Way.by (fun _ k => XS.iconst X2.here hx rfl (hb hby dTB1_5) k) ?_
  show Way _ _ _ _ (T1.setTop (mkF m 6 #[rv pb, iv 0, iv 2, rv x_pe22, .unset] [(.int 0)]))
  refine Way.by (fun _ k => XS.istore X2.here hx rfl (hb hby dTB1_6) rfl (l' := #[rv pb, iv 0, iv 2, rv x_pe22, iv 0]) rfl k) ?_
  show Way _ _ _ _ (T1.setTop (mkF m 8 #[rv pb, iv 0, iv 2, rv x_pe22, iv 0] []))
  refine Way.by (fun _ k => XS.iload X2.here hx rfl (hb hby dTB1_8) rfl k) ?_
  show Way _ _ _ _ (T1.setTop (mkF m 10 #[rv pb, iv 0, iv 2, rv x_pe22, iv 0] [(.int 0)]))
  refine Way.by (fun _ k => XS.iloadN X2.here hx rfl (hb hby dTB1_10) rfl k) ?_
  show Way _ _ _ _ (T1.setTop (mkF m 11 #[rv pb, iv 0, iv 2, rv x_pe22, iv 0] [(.int 2), (.int 0)]))
  have b31 : (0 : Int32) < (2 : Int32) := by decide
  refine Way.by (fun _ k => XS.icmpNo X2.here hx rfl (hb hby dTB1_11) rfl (tlt b31).2.1 k) ?_
  show Way _ _ _ _ (T1.setTop (mkF m 14 #[rv pb, iv 0, iv 2, rv x_pe22, iv 0] []))
  refine Way.by (fun _ k => XS.aloadN X2.here hx rfl (hb hby dTB1_14) rfl rfl k) ?_
  show Way _ _ _ _ (T1.setTop (mkF m 15 #[rv pb, iv 0, iv 2, rv x_pe22, iv 0] [(.ref x_pe22)]))
  refine Way.by (fun _ k => XS.iload X2.here hx rfl (hb hby dTB1_15) rfl k) ?_
  show Way _ _ _ _ (T1.setTop (mkF m 17 #[rv pb, iv 0, iv 2, rv x_pe22, iv 0] [(.int 0), (.ref x_pe22)]))
  refine Way.by (fun _ k => XS.aloadN X2.here hx rfl (hb hby dTB1_17) rfl rfl k) ?_
  show Way _ _ _ _ (T1.setTop (mkF m 18 #[rv pb, iv 0, iv 2, rv x_pe22, iv 0] [(.ref pb), (.int 0), (.ref x_pe22)]))
  refine Way.by (fun _ k => XS.iloadN X2.here hx rfl (hb hby dTB1_18) rfl k) ?_
  show Way _ _ _ _ (T1.setTop (mkF m 19 #[rv pb, iv 0, iv 2, rv x_pe22, iv 0] [(.int 0), (.ref pb), (.int 0), (.ref x_pe22)]))
  obtain ⟨c32, A33, q34, S35, M36, H37, U38⟩ := id A26
  refine Way.by (fun t k => Stand.caload X2 hx (hpE rfl A33.1) (arrS hZ A33) A33.2.2 (inb_of S35 ⟨(by decide), (by decide)⟩) (Has.at H37 (inb_of S35 ⟨(by decide), (by decide)⟩) rfl) (g := (mkF m 19 #[rv pb, iv 0, iv 2, rv x_pe22, iv 0] [(.int 0), (.ref pb), (.int 0), (.ref x_pe22)])) rfl rfl (hb hby dTB1_19) t k) ?_
  show Way _ _ _ _ (T1.setTop (mkF m 20 #[rv pb, iv 0, iv 2, rv x_pe22, iv 0] [(.int cc0), (.int 0), (.ref x_pe22)]))
  obtain ⟨_, _, ⟨T39, L41, k42, n43⟩, -, X40, ⟨Lc44, hQ45, l46, y47, z48⟩, st49⟩ := Jvm.LawKit.callS X2 hx (y := (⟨"java/lang/StringUTF16", "putChar", "([BII)V"⟩ : MethodName)) hown (mvT hZ (tw hw 96 rfl)) (mvT hZ (tw hw 97 rfl)) (mvT hZ (tw hw 72 rfl)) (mvT hZ (tw hw 98 rfl)) (by decide) (backOf (W := 0) (rmPC20 l Z a0 hw [] x_pe22 x_kk21 cc0 T1.heap n0 Z27 F_019 nw24 O28 SV SU) hZ (tw hw 98 rfl) (tw hw 72 rfl) (by decide) (by decide)) (g := (mkF m 20 #[rv pb, iv 0, iv 2, rv x_pe22, iv 0] [(.int cc0), (.int 0), (.ref x_pe22)])) rfl (by rw [hml]; rfl) (argsL := [(.ref x_pe22), (.int 0), (.int cc0)]) (rest := []) (lenOf pdPC10 rfl) rfl (leW rfl) (hb hby dTB1_20) (fun _ _ => ⟨rfl, rfl, (leB rfl), (leB rfl)⟩)
  dsimp only [Pt.U, Pt.locs, Pt.cells, Pt.slots] at X40 l46 y47 z48 st49 hQ45
  subst l46 y47 z48
  obtain ⟨rfl, N55, K56, F_057⟩ := hQ45
  have N50 := Fr.app N12 N55
  have A58 := A26.keep K56 (ninS ne23 nin0)
  have Z59 := Nat.le_trans Z27 K56.1
  have O60 := O28.keep K56 (allS nw24 all0)
  have K61 := K29.trans K56 (allS (Or.inr hk25) all0)
  have hz62 := Nat.le_trans hz30 K56.1
  refine Way.by st49 ?_
  show Way _ _ _ _ (T39.setTop (mkF m 23 #[rv pb, iv 0, iv 2, rv x_pe22, iv 0] []))
  refine Way.by (fun _ k => XS.iinc X40.here hx rfl (hb hby dTB1_23) rfl (l' := #[rv pb, iv 1, iv 2, rv x_pe22, iv 0]) rfl k) ?_
  show Way _ _ _ _ (T39.setTop (mkF m 26 #[rv pb, iv 1, iv 2, rv x_pe22, iv 0] []))
  refine Way.by (fun _ k => XS.iinc X40.here hx rfl (hb hby dTB1_26) rfl (l' := #[rv pb, iv 1, iv 2, rv x_pe22, iv 1]) rfl k) ?_
  show Way _ _ _ _ (T39.setTop (mkF m 29 #[rv pb, iv 1, iv 2, rv x_pe22, iv 1] []))
  refine Way.by (fun _ k => XS.goto X40.here hx rfl (pc0 := 29) (pc' := 8) rfl (hb hby dTB1_29) (by decide) (by decide) k) ?_
  show Way _ _ _ _ (T39.setTop (mkF m 8 #[rv pb, iv 1, iv 2, rv x_pe22, iv 1] []))
  refine Way.by (fun _ k => XS.iload X40.here hx rfl (hb hby dTB1_8) rfl k) ?_
  show Way _ _ _ _ (T39.setTop (mkF m 10 #[rv pb, iv 1, iv 2, rv x_pe22, iv 1] [(.int 1)]))
  refine Way.by (fun _ k => XS.iloadN X40.here hx rfl (hb hby dTB1_10) rfl k) ?_
  show Way _ _ _ _ (T39.setTop (mkF m 11 #[rv pb, iv 1, iv 2, rv x_pe22, iv 1] [(.int 2), (.int 1)]))
  have b63 : (1 : Int32) < (2 : Int32) := by decide
  refine Way.by (fun _ k => XS.icmpNo X40.here hx rfl (hb hby dTB1_11) rfl (tlt b63).2.1 k) ?_
  show Way _ _ _ _ (T39.setTop (mkF m 14 #[rv pb, iv 1, iv 2, rv x_pe22, iv 1] []))
  refine Way.by (fun _ k => XS.aloadN X40.here hx rfl (hb hby dTB1_14) rfl rfl k) ?_
  show Way _ _ _ _ (T39.setTop (mkF m 15 #[rv pb, iv 1, iv 2, rv x_pe22, iv 1] [(.ref x_pe22)]))
  refine Way.by (fun _ k => XS.iload X40.here hx rfl (hb hby dTB1_15) rfl k) ?_
  show Way _ _ _ _ (T39.setTop (mkF m 17 #[rv pb, iv 1, iv 2, rv x_pe22, iv 1] [(.int 1), (.ref x_pe22)]))
  refine Way.by (fun _ k => XS.aloadN X40.here hx rfl (hb hby dTB1_17) rfl rfl k) ?_
  show Way _ _ _ _ (T39.setTop (mkF m 18 #[rv pb, iv 1, iv 2, rv x_pe22, iv 1] [(.ref pb), (.int 1), (.ref x_pe22)]))
  refine Way.by (fun _ k => XS.iloadN X40.here hx rfl (hb hby dTB1_18) rfl k) ?_
  show Way _ _ _ _ (T39.setTop (mkF m 19 #[rv pb, iv 1, iv 2, rv x_pe22, iv 1] [(.int 1), (.ref pb), (.int 1), (.ref x_pe22)]))
  obtain ⟨c64, A65, q66, S67, M68, H69, U70⟩ := id A58
  refine Way.by (fun t k => Stand.caload X40 hx (hpE rfl A65.1) (arrS hZ A65) A65.2.2 (inb_of S67 ⟨(by decide), (by decide)⟩) (Has.at H69 (inb_of S67 ⟨(by decide), (by decide)⟩) rfl) (g := (mkF m 19 #[rv pb, iv 1, iv 2, rv x_pe22, iv 1] [(.int 1), (.ref pb), (.int 1), (.ref x_pe22)])) rfl rfl (hb hby dTB1_19) t k) ?_
  show Way _ _ _ _ (T39.setTop (mkF m 20 #[rv pb, iv 1, iv 2, rv x_pe22, iv 1] [(.int cc1), (.int 1), (.ref x_pe22)]))
  obtain ⟨_, _, ⟨T71, L73, k74, n75⟩, -, X72, ⟨Lc76, hQ77, l78, y79, z80⟩, st81⟩ := Jvm.LawKit.callS X40 hx (y := (⟨"java/lang/StringUTF16", "putChar", "([BII)V"⟩ : MethodName)) hown (mvT hZ (tw hw 96 rfl)) (mvT hZ (tw hw 97 rfl)) (mvT hZ (tw hw 72 rfl)) (mvT hZ (tw hw 98 rfl)) (by decide) (backOf (W := 0) (rmPC21 l Z a0 hw [] x_pe22 x_kk21 cc0 cc1 T39.heap n0 Z59 F_057 nw24 O60 SV SU) hZ (tw hw 98 rfl) (tw hw 72 rfl) (by decide) (by decide)) (g := (mkF m 20 #[rv pb, iv 1, iv 2, rv x_pe22, iv 1] [(.int cc1), (.int 1), (.ref x_pe22)])) rfl (by rw [hml]; rfl) (argsL := [(.ref x_pe22), (.int 1), (.int cc1)]) (rest := []) (lenOf pdPC10 rfl) rfl (leW rfl) (hb hby dTB1_20) (fun _ _ => ⟨rfl, rfl, (leB rfl), (leB rfl)⟩)
  dsimp only [Pt.U, Pt.locs, Pt.cells, Pt.slots] at X72 l78 y79 z80 st81 hQ77
  subst l78 y79 z80
  obtain ⟨rfl, N87, K88, F_089⟩ := hQ77
  have N82 := Fr.app N50 N87
  have A90 := A58.keep K88 (ninS ne23 nin0)
  have Z91 := Nat.le_trans Z59 K88.1
  have O92 := O60.keep K88 (allS nw24 all0)
  have K93 := K61.trans K88 (allS (Or.inr hk25) all0)
  have hz94 := Nat.le_trans hz62 K88.1
  refine Way.by st81 ?_
  show Way _ _ _ _ (T71.setTop (mkF m 23 #[rv pb, iv 1, iv 2, rv x_pe22, iv 1] []))
  refine Way.by (fun _ k => XS.iinc X72.here hx rfl (hb hby dTB1_23) rfl (l' := #[rv pb, iv 2, iv 2, rv x_pe22, iv 1]) rfl k) ?_
  show Way _ _ _ _ (T71.setTop (mkF m 26 #[rv pb, iv 2, iv 2, rv x_pe22, iv 1] []))
  refine Way.by (fun _ k => XS.iinc X72.here hx rfl (hb hby dTB1_26) rfl (l' := #[rv pb, iv 2, iv 2, rv x_pe22, iv 2]) rfl k) ?_
  show Way _ _ _ _ (T71.setTop (mkF m 29 #[rv pb, iv 2, iv 2, rv x_pe22, iv 2] []))
  refine Way.by (fun _ k => XS.goto X72.here hx rfl (pc0 := 29) (pc' := 8) rfl (hb hby dTB1_29) (by decide) (by decide) k) ?_
  show Way _ _ _ _ (T71.setTop (mkF m 8 #[rv pb, iv 2, iv 2, rv x_pe22, iv 2] []))
  refine Way.by (fun _ k => XS.iload X72.here hx rfl (hb hby dTB1_8) rfl k) ?_
  show Way _ _ _ _ (T71.setTop (mkF m 10 #[rv pb, iv 2, iv 2, rv x_pe22, iv 2] [(.int 2)]))
  refine Way.by (fun _ k => XS.iloadN X72.here hx rfl (hb hby dTB1_10) rfl k) ?_
  show Way _ _ _ _ (T71.setTop (mkF m 11 #[rv pb, iv 2, iv 2, rv x_pe22, iv 2] [(.int 2), (.int 2)]))
  have b95 : ¬ (2 : Int32) < (2 : Int32) := by decide
  refine Way.by (fun _ k => XS.icmpYes X72.here hx rfl (pc0 := 11) (pc' := 32) rfl (hb hby dTB1_11) rfl (flt b95).2.1 (by decide) (by decide) k) ?_
  show Way _ _ _ _ (T71.setTop (mkF m 32 #[rv pb, iv 2, iv 2, rv x_pe22, iv 2] []))
  refine Way.by (fun _ k => XS.aloadN X72.here hx rfl (hb hby dTB1_32) rfl rfl k) ?_
  show Way _ _ _ _ (T71.setTop (mkF m 33 #[rv pb, iv 2, iv 2, rv x_pe22, iv 2] [(.ref x_pe22)]))
  refine Way.ret (v := (some (.ref x_pe22))) X72 hlk (fun h => by rw [Bd.returns] at h; cases h) (fun fs hr => retOut X72 hx Bd.returns rfl (Or.inr (Or.inr (Or.inr (Or.inr ⟨rfl, rfl, rfl⟩)))) (hb hby dTB1_33) hr) ?_ (by decide) (by decide)
  show QTB2 Z pb kc cc0 cc1 h0 n0 _ T71.heap _
  skip
  exact ⟨x_pe22, x_kk21, rfl, N82, K93, hk25, F_089⟩
def QC32 (Z : State) (pb : Addr) (kc : ClassId) (cc0 : Int32) (cc1 : Int32) (h0 : Heap) (n0 : Nat) (v : Option Value) (h : Heap) (L : List Loc) : Prop := ∃ (pe : Addr) (kk : ClassId), v = some (.ref pe) ∧ Fr n0 L ∧ Keep h0 h [] ∧ h0.size ≤ pe ∧ Arv Z h pe kk .byte (4 : Int32) [(.int (StrChars.lo8 cc0)), (.int (StrChars.hi8 cc0)), (.int (StrChars.lo8 cc1)), (.int (StrChars.hi8 cc1))] (.int 0)
set_option maxRecDepth 65536 in
set_option maxHeartbeats 40000000 in
theorem rmC32 (l : Launch) (Z : State) (a0 : Array Value) (hw : ∀ d ∈ tables_1, d.before a0 Z = true) (ws : List Jvm.Cond) (pb : Addr) (kc : ClassId) (cc0 : Int32) (cc1 : Int32) (h0 : Heap) (n0 : Nat) (Z0 : n0 ≤ h0.size) (H0 : Arv Z h0 pb kc .char (2 : Int32) [(.int cc0), (.int cc1)] (.int 0)) (hB : ∀ c ∈ ([cc0, cc1] : List Int32), ¬ c < 0 ∧ ¬ (65535 : Int32) < c) (hU : (255 : Int32) < cc0 ∨ (255 : Int32) < cc1) (O0 : Old Z n0 h0) (SV : own_Env Z) (SU : own_U16 Z) :
    MetFree l (⟨"java/lang/StringUTF16", "compress", "([CII)[B"⟩ : MethodName) (head1 (Jvm.Cond.code (⟨"java/lang/StringUTF16", "compress", "([CII)[B"⟩ : MethodName) jdk_52_method_16_code 6 (some (.array .byte)) :: ws) ({ frames := 3, cells := 2, slots := 6, locals := 40 } : Room)) (fun aa U => aa = #[(.ref pb), (.int 0), (.int 2)] ∧ Z.Warmed39 U.vm ∧ U.heap = h0) (fun _ _ _ _ _ => True) (fun _ U oo U' => ∃ v L, oo = .returned v ∧ QC32 Z pb kc cc0 cc1 h0 n0 v U'.heap L ∧ FrameEnd U oo U' L ({ frames := 3, cells := 2, slots := 6, locals := 40 } : Room).cells ({ frames := 3, cells := 2, slots := 6, locals := 40 } : Room).slots) := by
  refine MetFree.of_bodySF (plainFor_of_name pnGC) hisR ?_
  intro p e s m args below meth c s₁ Bd hml0 hP hK
  obtain ⟨rfl, hZ, hh⟩ := hP
  have hx := Bd.exec
  have hby := Bd.bytes
  have hlk : meth.locks = false := BodyLoose.notSynchronized Bd
  have hml : c.maxLocals = 6 := hml0
  have hown : s.vm.findClass "java/lang/StringUTF16" = some m.cls := findClass_of_methodNamed Bd.named
  have hnm := (name_of_methodNamed Bd.named Bd.method).1
  have X0 : Stand p l e ({ frames := 3, cells := 2, slots := 6, locals := 40 } : Room) s m #[(.ref pb), (.int 0), (.int 2)] below meth c s₁ [] 0 0 := Stand.of_body Bd
  have e0 : s₁.heap = h0 := by rw [← hh, Bd.state]; rfl
  have N0 := Fr.nil n0
  have ef : entryFrame m #[(.ref pb), (.int 0), (.int 2)] 6 = mkF m 0 #[rv pb, iv 0, iv 2, .unset, .unset, .unset] [] := by first | (simp [entryFrame, mkF, argsToLocals, Value.category, maxLocals]; done) | rfl
  show Way p.tables e below (KQ s (QC32 Z pb kc cc0 cc1 h0 n0) ({ frames := 3, cells := 2, slots := 6, locals := 40 } : Room).cells ({ frames := 3, cells := 2, slots := 6, locals := 40 } : Room).slots) (s₁.setTop (entryFrame m #[(.ref pb), (.int 0), (.int 2)] 6))
  rw [ef]
  by_cases hk0 : (255 : Int32) < cc0
  · skip
    show Way _ _ _ _ (s₁.setTop (mkF m 0 #[rv pb, iv 0, iv 2, .unset, .unset, .unset] []))
    refine Way.by (fun _ k => XS.iloadN X0.here hx rfl (hb hby dC31_0) rfl k) ?_
    show Way _ _ _ _ (s₁.setTop (mkF m 1 #[rv pb, iv 0, iv 2, .unset, .unset, .unset] [(.int 2)]))
    obtain ⟨T1, h2, kc3, X4, e5, E6, A7, st8⟩ := newP X0 hx hZ (tw hw 19 rfl) e0 (g := (mkF m 1 #[rv pb, iv 0, iv 2, .unset, .unset, .unset] [(.int 2)])) rfl (hb hby dC31_1) rfl (by decide) (cap := 2) (by decide) (by decide) (by decide) (by decide)
    obtain ⟨a9, g10⟩ : ∃ z, z = h0.size := ⟨_, rfl⟩
    rw [← g10] at A7 st8
    have ne12 : pb ≠ a9 := Nat.ne_of_lt (Nat.lt_of_lt_of_eq H0.lt g10.symm)
    have nw13 : n0 ≤ a9 := Nat.le_trans Z0 (Nat.le_of_eq g10.symm)
    have hk14 : h0.size ≤ a9 := Nat.le_trans (Nat.le_refl h0.size) (Nat.le_of_eq g10.symm)
    have A15 := H0.ext E6
    have Z16 := Nat.le_trans Z0 E6.1
    have O17 := O0.ext E6
    have K18 := (Keep.refl h0 []).ext E6
    have hz19 := Nat.le_trans (Nat.le_refl h0.size) E6.1
    have V11 : Arv Z h2 a9 kc3 .byte (2 : Int32) [] (.int 0) := Arv.new A7 (by decide)
    refine Way.by st8 ?_
    show Way _ _ _ _ (T1.setTop (mkF m 3 #[rv pb, iv 0, iv 2, .unset, .unset, .unset] [(.ref a9)]))
    refine Way.by (fun _ k => XS.astoreN X4.here hx rfl (hb hby dC31_3) rfl rfl (l' := #[rv pb, iv 0, iv 2, rv a9, .unset, .unset]) rfl k) ?_
    show Way _ _ _ _ (T1.setTop (mkF m 4 #[rv pb, iv 0, iv 2, rv a9, .unset, .unset] []))
    refine Way.by (fun _ k => XS.aloadN X4.here hx rfl (hb hby dC31_4) rfl rfl k) ?_
    show Way _ _ _ _ (T1.setTop (mkF m 5 #[rv pb, iv 0, iv 2, rv a9, .unset, .unset] [(.ref pb)]))
    refine Way.by (fun _ k => XS.iloadN X4.here hx rfl (hb hby dC31_5) rfl k) ?_
    show Way _ _ _ _ (T1.setTop (mkF m 6 #[rv pb, iv 0, iv 2, rv a9, .unset, .unset] [(.int 0), (.ref pb)]))
    refine Way.by (fun _ k => XS.aloadN X4.here hx rfl (hb hby dC31_6) rfl rfl k) ?_
    show Way _ _ _ _ (T1.setTop (mkF m 7 #[rv pb, iv 0, iv 2, rv a9, .unset, .unset] [(.ref a9), (.int 0), (.ref pb)]))
    refine Way.by (fun _ k => XS.iconst X4.here hx rfl (hb hby dC31_7) k) ?_
    show Way _ _ _ _ (T1.setTop (mkF m 8 #[rv pb, iv 0, iv 2, rv a9, .unset, .unset] [(.int 0), (.ref a9), (.int 0), (.ref pb)]))
    refine Way.by (fun _ k => XS.iloadN X4.here hx rfl (hb hby dC31_8) rfl k) ?_
    show Way _ _ _ _ (T1.setTop (mkF m 9 #[rv pb, iv 0, iv 2, rv a9, .unset, .unset] [(.int 2), (.int 0), (.ref a9), (.int 0), (.ref pb)]))
    obtain ⟨_, _, ⟨T20, L22, k23, n24⟩, -, X21, ⟨Lc25, hQ26, l27, y28, z29⟩, st30⟩ := Jvm.LawKit.callS X4 hx (y := (⟨"java/lang/StringUTF16", "compress", "([CI[BII)I"⟩ : MethodName)) hown (mvT hZ (tw hw 74 rfl)) (mvT hZ (tw hw 75 rfl)) (mvT hZ (tw hw 72 rfl)) (mvT hZ (tw hw 76 rfl)) (by decide) (backOf (W := 0) (rmC520 l Z a0 hw [] pb kc a9 kc3 cc0 cc1 h2 n0 Z16 A15 V11 hk0 ne12 nw13) hZ (tw hw 76 rfl) (tw hw 72 rfl) (by decide) (by decide)) (g := (mkF m 9 #[rv pb, iv 0, iv 2, rv a9, .unset, .unset] [(.int 2), (.int 0), (.ref a9), (.int 0), (.ref pb)])) rfl (by rw [hml]; rfl) (argsL := [(.ref pb), (.int 0), (.ref a9), (.int 0), (.int 2)]) (rest := []) (lenOf pdC510 rfl) rfl (leW rfl) (hb hby dC31_9) (fun _ _ => ⟨rfl, e5, (leB rfl), (leB rfl)⟩)
    dsimp only [Pt.U, Pt.locs, Pt.cells, Pt.slots] at X21 l27 y28 z29 st30 hQ26
    subst l27 y28 z29
    obtain ⟨rfl, N36, K37⟩ := hQ26
    have N31 := Fr.app N0 N36
    have A38 := A15.keep K37 (ninS ne12 nin0)
    have Z39 := Nat.le_trans Z16 K37.1
    have O40 := O17.keep K37 (allS nw13 all0)
    have K41 := K18.trans K37 (allS (Or.inr hk14) all0)
    have hz42 := Nat.le_trans hz19 K37.1
    refine Way.by st30 ?_
    show Way _ _ _ _ (T20.setTop (mkF m 12 #[rv pb, iv 0, iv 2, rv a9, .unset, .unset] [(.int 0)]))
    refine Way.by (fun _ k => XS.istore X21.here hx rfl (hb hby dC31_12) rfl (l' := #[rv pb, iv 0, iv 2, rv a9, iv 0, .unset]) rfl k) ?_
    show Way _ _ _ _ (T20.setTop (mkF m 14 #[rv pb, iv 0, iv 2, rv a9, iv 0, .unset] []))
    refine Way.by (fun _ k => XS.iload X21.here hx rfl (hb hby dC31_14) rfl k) ?_
    show Way _ _ _ _ (T20.setTop (mkF m 16 #[rv pb, iv 0, iv 2, rv a9, iv 0, .unset] [(.int 0)]))
    refine Way.by (fun _ k => XS.iloadN X21.here hx rfl (hb hby dC31_16) rfl k) ?_
    show Way _ _ _ _ (T20.setTop (mkF m 17 #[rv pb, iv 0, iv 2, rv a9, iv 0, .unset] [(.int 2), (.int 0)]))
    have b43 : ¬ (0 : Int32) = (2 : Int32) := by decide
    refine Way.by (fun _ k => XS.icmpNo X21.here hx rfl (hb hby dC31_17) rfl (feq b43).1 k) ?_
    show Way _ _ _ _ (T20.setTop (mkF m 20 #[rv pb, iv 0, iv 2, rv a9, iv 0, .unset] []))
    refine Way.by (fun _ k => XS.aloadN X21.here hx rfl (hb hby dC31_20) rfl rfl k) ?_
    show Way _ _ _ _ (T20.setTop (mkF m 21 #[rv pb, iv 0, iv 2, rv a9, iv 0, .unset] [(.ref pb)]))
    refine Way.by (fun _ k => XS.iloadN X21.here hx rfl (hb hby dC31_21) rfl k) ?_
    show Way _ _ _ _ (T20.setTop (mkF m 22 #[rv pb, iv 0, iv 2, rv a9, iv 0, .unset] [(.int 0), (.ref pb)]))
    refine Way.by (fun _ k => XS.iloadN X21.here hx rfl (hb hby dC31_22) rfl k) ?_
    show Way _ _ _ _ (T20.setTop (mkF m 23 #[rv pb, iv 0, iv 2, rv a9, iv 0, .unset] [(.int 2), (.int 0), (.ref pb)]))
    obtain ⟨_, _, ⟨T44, L46, k47, n48⟩, -, X45, ⟨Lc49, hQ50, l51, y52, z53⟩, st54⟩ := Jvm.LawKit.callS X21 hx (y := (⟨"java/lang/StringUTF16", "toBytes", "([CII)[B"⟩ : MethodName)) hown (mvT hZ (tw hw 86 rfl)) (mvT hZ (tw hw 87 rfl)) (mvT hZ (tw hw 72 rfl)) (mvT hZ (tw hw 88 rfl)) (by decide) (backOf (W := 0) (rmTB2 l Z a0 hw [] pb kc cc0 cc1 T20.heap n0 Z39 A38 O40 SV SU) hZ (tw hw 88 rfl) (tw hw 72 rfl) (by decide) (by decide)) (g := (mkF m 23 #[rv pb, iv 0, iv 2, rv a9, iv 0, .unset] [(.int 2), (.int 0), (.ref pb)])) rfl (by rw [hml]; rfl) (argsL := [(.ref pb), (.int 0), (.int 2)]) (rest := []) (lenOf pdTB1 rfl) rfl (leW rfl) (hb hby dC31_23) (fun _ _ => ⟨rfl, rfl, (leB rfl), (leB rfl)⟩)
    dsimp only [Pt.U, Pt.locs, Pt.cells, Pt.slots] at X45 l51 y52 z53 st54 hQ50
    subst l51 y52 z53
    obtain ⟨x_pe65, x_kk64, rfl, N60, K61, fr_pe63, F_062⟩ := hQ50
    have N55 := Fr.app N31 N60
    have ne66 : pb ≠ x_pe65 := Nat.ne_of_lt (Nat.lt_of_lt_of_le A38.lt fr_pe63)
    have nw67 : n0 ≤ x_pe65 := Nat.le_trans Z39 fr_pe63
    have hk68 : h0.size ≤ x_pe65 := Nat.le_trans hz42 fr_pe63
    have A69 := A38.keep K61 nin0
    have Z70 := Nat.le_trans Z39 K61.1
    have O71 := O40.keep K61 all0
    have K72 := K41.trans K61 all0
    have hz73 := Nat.le_trans hz42 K61.1
    refine Way.by st54 ?_
    show Way _ _ _ _ (T44.setTop (mkF m 26 #[rv pb, iv 0, iv 2, rv a9, iv 0, .unset] [(.ref x_pe65)]))
    refine Way.by (fun _ k => XS.astore X45.here hx rfl (hb hby dC31_26) rfl rfl (l' := #[rv pb, iv 0, iv 2, rv a9, iv 0, rv x_pe65]) rfl k) ?_
    show Way _ _ _ _ (T44.setTop (mkF m 28 #[rv pb, iv 0, iv 2, rv a9, iv 0, rv x_pe65] []))
    refine Way.by (fun _ k => XS.aload X45.here hx rfl (hb hby dC31_28) rfl rfl k) ?_
    show Way _ _ _ _ (T44.setTop (mkF m 30 #[rv pb, iv 0, iv 2, rv a9, iv 0, rv x_pe65] [(.ref x_pe65)]))
    refine Way.by (fun _ k => XS.iload X45.here hx rfl (hb hby dC31_30) rfl k) ?_
    show Way _ _ _ _ (T44.setTop (mkF m 32 #[rv pb, iv 0, iv 2, rv a9, iv 0, rv x_pe65] [(.int 0), (.ref x_pe65)]))
    have GA74 : Arv Z T44.heap x_pe65 x_kk64 .byte (Int32.ofNat (2 * [cc0, cc1].length)) (StrChars.Road.wideBytes [cc0, cc1]) (.int 0) := F_062
    obtain ⟨_, _, ⟨T75, L77, k78, n79⟩, -, X76, ⟨Lc80, hQ81, l82, y83, z84⟩, st85⟩ := Jvm.LawKit.callS X45 hx (y := (⟨"java/lang/StringUTF16", "getChar", "([BI)C"⟩ : MethodName)) hown (mvT hZ (tw hw 102 rfl)) (mvT hZ (tw hw 103 rfl)) (mvT hZ (tw hw 72 rfl)) (mvT hZ (tw hw 104 rfl)) (by decide) (backOf (W := 0) (rmGC l Z a0 hw [] x_pe65 x_kk64 [cc0, cc1] 0 T44.heap n0 Z70 GA74 (leB rfl) hB (leB rfl) O71 SV SU) hZ (tw hw 104 rfl) (tw hw 72 rfl) (by decide) (by decide)) (g := (mkF m 32 #[rv pb, iv 0, iv 2, rv a9, iv 0, rv x_pe65] [(.int 0), (.ref x_pe65)])) rfl (by rw [hml]; rfl) (argsL := [(.ref x_pe65), (.int 0)]) (rest := []) (lenOf pdGC rfl) rfl (leW rfl) (hb hby dC31_32) (fun _ _ => ⟨rfl, rfl, (leB rfl), (leB rfl)⟩)
    dsimp only [Pt.U, Pt.locs, Pt.cells, Pt.slots] at X76 l82 y83 z84 st85 hQ81
    subst l82 y83 z84
    obtain ⟨rfl, N91, e87⟩ := hQ81
    have N86 := Fr.app N55 N91
    refine Way.by st85 ?_
    show Way _ _ _ _ (T75.setTop (mkF m 35 #[rv pb, iv 0, iv 2, rv a9, iv 0, rv x_pe65] [(.int ([cc0, cc1].getD 0 0))]))
    show Way _ _ _ _ (T75.setTop (mkF m 35 #[rv pb, iv 0, iv 2, rv a9, iv 0, rv x_pe65] [(.int cc0)]))
    refine Way.by (fun _ k => XS.sipush X76.here hx rfl (hb hby dC31_35) k) ?_
    show Way _ _ _ _ (T75.setTop (mkF m 38 #[rv pb, iv 0, iv 2, rv a9, iv 0, rv x_pe65] [(.int 255), (.int cc0)]))
    have b93 : (255 : Int32) < cc0 := hk0
    refine Way.by (fun _ k => XS.icmpYes X76.here hx rfl (pc0 := 38) (pc' := 54) rfl (hb hby dC31_38) rfl (tlt b93).2.2.1 (by decide) (by decide) k) ?_
    show Way _ _ _ _ (T75.setTop (mkF m 54 #[rv pb, iv 0, iv 2, rv a9, iv 0, rv x_pe65] []))
    refine Way.by (fun _ k => XS.aload X76.here hx rfl (hb hby dC31_54) rfl rfl k) ?_
    show Way _ _ _ _ (T75.setTop (mkF m 56 #[rv pb, iv 0, iv 2, rv a9, iv 0, rv x_pe65] [(.ref x_pe65)]))
    refine Way.ret (v := (some (.ref x_pe65))) X76 hlk (fun h => by rw [Bd.returns] at h; cases h) (fun fs hr => retOut X76 hx Bd.returns rfl (Or.inr (Or.inr (Or.inr (Or.inr ⟨rfl, rfl, rfl⟩)))) (hb hby dC31_56) hr) ?_ (by decide) (by decide)
    show QC32 Z pb kc cc0 cc1 h0 n0 _ T75.heap _
    rw [e87]
    exact ⟨x_pe65, x_kk64, rfl, N86, K72, hk68, F_062⟩
  · skip
    have hk1 : (255 : Int32) < cc1 := (hU.resolve_left hk0)
    show Way _ _ _ _ (s₁.setTop (mkF m 0 #[rv pb, iv 0, iv 2, .unset, .unset, .unset] []))
    refine Way.by (fun _ k => XS.iloadN X0.here hx rfl (hb hby dC31_0) rfl k) ?_
    show Way _ _ _ _ (s₁.setTop (mkF m 1 #[rv pb, iv 0, iv 2, .unset, .unset, .unset] [(.int 2)]))
    obtain ⟨T94, h95, kc96, X97, e98, E99, A100, st101⟩ := newP X0 hx hZ (tw hw 19 rfl) e0 (g := (mkF m 1 #[rv pb, iv 0, iv 2, .unset, .unset, .unset] [(.int 2)])) rfl (hb hby dC31_1) rfl (by decide) (cap := 2) (by decide) (by decide) (by decide) (by decide)
    obtain ⟨a102, g103⟩ : ∃ z, z = h0.size := ⟨_, rfl⟩
    rw [← g103] at A100 st101
    have ne105 : pb ≠ a102 := Nat.ne_of_lt (Nat.lt_of_lt_of_eq H0.lt g103.symm)
    have nw106 : n0 ≤ a102 := Nat.le_trans Z0 (Nat.le_of_eq g103.symm)
    have hk107 : h0.size ≤ a102 := Nat.le_trans (Nat.le_refl h0.size) (Nat.le_of_eq g103.symm)
    have A108 := H0.ext E99
    have Z109 := Nat.le_trans Z0 E99.1
    have O110 := O0.ext E99
    have K111 := (Keep.refl h0 []).ext E99
    have hz112 := Nat.le_trans (Nat.le_refl h0.size) E99.1
    have V104 : Arv Z h95 a102 kc96 .byte (2 : Int32) [] (.int 0) := Arv.new A100 (by decide)
    refine Way.by st101 ?_
    show Way _ _ _ _ (T94.setTop (mkF m 3 #[rv pb, iv 0, iv 2, .unset, .unset, .unset] [(.ref a102)]))
    refine Way.by (fun _ k => XS.astoreN X97.here hx rfl (hb hby dC31_3) rfl rfl (l' := #[rv pb, iv 0, iv 2, rv a102, .unset, .unset]) rfl k) ?_
    show Way _ _ _ _ (T94.setTop (mkF m 4 #[rv pb, iv 0, iv 2, rv a102, .unset, .unset] []))
    refine Way.by (fun _ k => XS.aloadN X97.here hx rfl (hb hby dC31_4) rfl rfl k) ?_
    show Way _ _ _ _ (T94.setTop (mkF m 5 #[rv pb, iv 0, iv 2, rv a102, .unset, .unset] [(.ref pb)]))
    refine Way.by (fun _ k => XS.iloadN X97.here hx rfl (hb hby dC31_5) rfl k) ?_
    show Way _ _ _ _ (T94.setTop (mkF m 6 #[rv pb, iv 0, iv 2, rv a102, .unset, .unset] [(.int 0), (.ref pb)]))
    refine Way.by (fun _ k => XS.aloadN X97.here hx rfl (hb hby dC31_6) rfl rfl k) ?_
    show Way _ _ _ _ (T94.setTop (mkF m 7 #[rv pb, iv 0, iv 2, rv a102, .unset, .unset] [(.ref a102), (.int 0), (.ref pb)]))
    refine Way.by (fun _ k => XS.iconst X97.here hx rfl (hb hby dC31_7) k) ?_
    show Way _ _ _ _ (T94.setTop (mkF m 8 #[rv pb, iv 0, iv 2, rv a102, .unset, .unset] [(.int 0), (.ref a102), (.int 0), (.ref pb)]))
    refine Way.by (fun _ k => XS.iloadN X97.here hx rfl (hb hby dC31_8) rfl k) ?_
    show Way _ _ _ _ (T94.setTop (mkF m 9 #[rv pb, iv 0, iv 2, rv a102, .unset, .unset] [(.int 2), (.int 0), (.ref a102), (.int 0), (.ref pb)]))
    obtain ⟨_, _, ⟨T113, L115, k116, n117⟩, -, X114, ⟨Lc118, hQ119, l120, y121, z122⟩, st123⟩ := Jvm.LawKit.callS X97 hx (y := (⟨"java/lang/StringUTF16", "compress", "([CI[BII)I"⟩ : MethodName)) hown (mvT hZ (tw hw 74 rfl)) (mvT hZ (tw hw 75 rfl)) (mvT hZ (tw hw 72 rfl)) (mvT hZ (tw hw 76 rfl)) (by decide) (backOf (W := 0) (rmC521 l Z a0 hw [] pb kc a102 kc96 cc0 cc1 h95 n0 Z109 A108 V104 hk0 hk1 ne105 nw106) hZ (tw hw 76 rfl) (tw hw 72 rfl) (by decide) (by decide)) (g := (mkF m 9 #[rv pb, iv 0, iv 2, rv a102, .unset, .unset] [(.int 2), (.int 0), (.ref a102), (.int 0), (.ref pb)])) rfl (by rw [hml]; rfl) (argsL := [(.ref pb), (.int 0), (.ref a102), (.int 0), (.int 2)]) (rest := []) (lenOf pdC510 rfl) rfl (leW rfl) (hb hby dC31_9) (fun _ _ => ⟨rfl, e98, (leB rfl), (leB rfl)⟩)
    dsimp only [Pt.U, Pt.locs, Pt.cells, Pt.slots] at X114 l120 y121 z122 st123 hQ119
    subst l120 y121 z122
    obtain ⟨rfl, N129, K130⟩ := hQ119
    have N124 := Fr.app N0 N129
    have A131 := A108.keep K130 (ninS ne105 nin0)
    have Z132 := Nat.le_trans Z109 K130.1
    have O133 := O110.keep K130 (allS nw106 all0)
    have K134 := K111.trans K130 (allS (Or.inr hk107) all0)
    have hz135 := Nat.le_trans hz112 K130.1
    refine Way.by st123 ?_
    show Way _ _ _ _ (T113.setTop (mkF m 12 #[rv pb, iv 0, iv 2, rv a102, .unset, .unset] [(.int 1)]))
    refine Way.by (fun _ k => XS.istore X114.here hx rfl (hb hby dC31_12) rfl (l' := #[rv pb, iv 0, iv 2, rv a102, iv 1, .unset]) rfl k) ?_
    show Way _ _ _ _ (T113.setTop (mkF m 14 #[rv pb, iv 0, iv 2, rv a102, iv 1, .unset] []))
    refine Way.by (fun _ k => XS.iload X114.here hx rfl (hb hby dC31_14) rfl k) ?_
    show Way _ _ _ _ (T113.setTop (mkF m 16 #[rv pb, iv 0, iv 2, rv a102, iv 1, .unset] [(.int 1)]))
    refine Way.by (fun _ k => XS.iloadN X114.here hx rfl (hb hby dC31_16) rfl k) ?_
    show Way _ _ _ _ (T113.setTop (mkF m 17 #[rv pb, iv 0, iv 2, rv a102, iv 1, .unset] [(.int 2), (.int 1)]))
    have b136 : ¬ (1 : Int32) = (2 : Int32) := by decide
    refine Way.by (fun _ k => XS.icmpNo X114.here hx rfl (hb hby dC31_17) rfl (feq b136).1 k) ?_
    show Way _ _ _ _ (T113.setTop (mkF m 20 #[rv pb, iv 0, iv 2, rv a102, iv 1, .unset] []))
    refine Way.by (fun _ k => XS.aloadN X114.here hx rfl (hb hby dC31_20) rfl rfl k) ?_
    show Way _ _ _ _ (T113.setTop (mkF m 21 #[rv pb, iv 0, iv 2, rv a102, iv 1, .unset] [(.ref pb)]))
    refine Way.by (fun _ k => XS.iloadN X114.here hx rfl (hb hby dC31_21) rfl k) ?_
    show Way _ _ _ _ (T113.setTop (mkF m 22 #[rv pb, iv 0, iv 2, rv a102, iv 1, .unset] [(.int 0), (.ref pb)]))
    refine Way.by (fun _ k => XS.iloadN X114.here hx rfl (hb hby dC31_22) rfl k) ?_
    show Way _ _ _ _ (T113.setTop (mkF m 23 #[rv pb, iv 0, iv 2, rv a102, iv 1, .unset] [(.int 2), (.int 0), (.ref pb)]))
    obtain ⟨_, _, ⟨T137, L139, k140, n141⟩, -, X138, ⟨Lc142, hQ143, l144, y145, z146⟩, st147⟩ := Jvm.LawKit.callS X114 hx (y := (⟨"java/lang/StringUTF16", "toBytes", "([CII)[B"⟩ : MethodName)) hown (mvT hZ (tw hw 86 rfl)) (mvT hZ (tw hw 87 rfl)) (mvT hZ (tw hw 72 rfl)) (mvT hZ (tw hw 88 rfl)) (by decide) (backOf (W := 0) (rmTB2 l Z a0 hw [] pb kc cc0 cc1 T113.heap n0 Z132 A131 O133 SV SU) hZ (tw hw 88 rfl) (tw hw 72 rfl) (by decide) (by decide)) (g := (mkF m 23 #[rv pb, iv 0, iv 2, rv a102, iv 1, .unset] [(.int 2), (.int 0), (.ref pb)])) rfl (by rw [hml]; rfl) (argsL := [(.ref pb), (.int 0), (.int 2)]) (rest := []) (lenOf pdTB1 rfl) rfl (leW rfl) (hb hby dC31_23) (fun _ _ => ⟨rfl, rfl, (leB rfl), (leB rfl)⟩)
    dsimp only [Pt.U, Pt.locs, Pt.cells, Pt.slots] at X138 l144 y145 z146 st147 hQ143
    subst l144 y145 z146
    obtain ⟨x_pe158, x_kk157, rfl, N153, K154, fr_pe156, F_0155⟩ := hQ143
    have N148 := Fr.app N124 N153
    have ne159 : pb ≠ x_pe158 := Nat.ne_of_lt (Nat.lt_of_lt_of_le A131.lt fr_pe156)
    have nw160 : n0 ≤ x_pe158 := Nat.le_trans Z132 fr_pe156
    have hk161 : h0.size ≤ x_pe158 := Nat.le_trans hz135 fr_pe156
    have A162 := A131.keep K154 nin0
    have Z163 := Nat.le_trans Z132 K154.1
    have O164 := O133.keep K154 all0
    have K165 := K134.trans K154 all0
    have hz166 := Nat.le_trans hz135 K154.1
    refine Way.by st147 ?_
    show Way _ _ _ _ (T137.setTop (mkF m 26 #[rv pb, iv 0, iv 2, rv a102, iv 1, .unset] [(.ref x_pe158)]))
    refine Way.by (fun _ k => XS.astore X138.here hx rfl (hb hby dC31_26) rfl rfl (l' := #[rv pb, iv 0, iv 2, rv a102, iv 1, rv x_pe158]) rfl k) ?_
    show Way _ _ _ _ (T137.setTop (mkF m 28 #[rv pb, iv 0, iv 2, rv a102, iv 1, rv x_pe158] []))
    refine Way.by (fun _ k => XS.aload X138.here hx rfl (hb hby dC31_28) rfl rfl k) ?_
    show Way _ _ _ _ (T137.setTop (mkF m 30 #[rv pb, iv 0, iv 2, rv a102, iv 1, rv x_pe158] [(.ref x_pe158)]))
    refine Way.by (fun _ k => XS.iload X138.here hx rfl (hb hby dC31_30) rfl k) ?_
    show Way _ _ _ _ (T137.setTop (mkF m 32 #[rv pb, iv 0, iv 2, rv a102, iv 1, rv x_pe158] [(.int 1), (.ref x_pe158)]))
    have GA167 : Arv Z T137.heap x_pe158 x_kk157 .byte (Int32.ofNat (2 * [cc0, cc1].length)) (StrChars.Road.wideBytes [cc0, cc1]) (.int 0) := F_0155
    obtain ⟨_, _, ⟨T168, L170, k171, n172⟩, -, X169, ⟨Lc173, hQ174, l175, y176, z177⟩, st178⟩ := Jvm.LawKit.callS X138 hx (y := (⟨"java/lang/StringUTF16", "getChar", "([BI)C"⟩ : MethodName)) hown (mvT hZ (tw hw 102 rfl)) (mvT hZ (tw hw 103 rfl)) (mvT hZ (tw hw 72 rfl)) (mvT hZ (tw hw 104 rfl)) (by decide) (backOf (W := 0) (rmGC l Z a0 hw [] x_pe158 x_kk157 [cc0, cc1] 1 T137.heap n0 Z163 GA167 (leB rfl) hB (leB rfl) O164 SV SU) hZ (tw hw 104 rfl) (tw hw 72 rfl) (by decide) (by decide)) (g := (mkF m 32 #[rv pb, iv 0, iv 2, rv a102, iv 1, rv x_pe158] [(.int 1), (.ref x_pe158)])) rfl (by rw [hml]; rfl) (argsL := [(.ref x_pe158), (.int 1)]) (rest := []) (lenOf pdGC rfl) rfl (leW rfl) (hb hby dC31_32) (fun _ _ => ⟨rfl, rfl, (leB rfl), (leB rfl)⟩)
    dsimp only [Pt.U, Pt.locs, Pt.cells, Pt.slots] at X169 l175 y176 z177 st178 hQ174
    subst l175 y176 z177
    obtain ⟨rfl, N184, e180⟩ := hQ174
    have N179 := Fr.app N148 N184
    refine Way.by st178 ?_
    show Way _ _ _ _ (T168.setTop (mkF m 35 #[rv pb, iv 0, iv 2, rv a102, iv 1, rv x_pe158] [(.int ([cc0, cc1].getD 1 0))]))
    show Way _ _ _ _ (T168.setTop (mkF m 35 #[rv pb, iv 0, iv 2, rv a102, iv 1, rv x_pe158] [(.int cc1)]))
    refine Way.by (fun _ k => XS.sipush X169.here hx rfl (hb hby dC31_35) k) ?_
    show Way _ _ _ _ (T168.setTop (mkF m 38 #[rv pb, iv 0, iv 2, rv a102, iv 1, rv x_pe158] [(.int 255), (.int cc1)]))
    have b186 : (255 : Int32) < cc1 := hk1
    refine Way.by (fun _ k => XS.icmpYes X169.here hx rfl (pc0 := 38) (pc' := 54) rfl (hb hby dC31_38) rfl (tlt b186).2.2.1 (by decide) (by decide) k) ?_
    show Way _ _ _ _ (T168.setTop (mkF m 54 #[rv pb, iv 0, iv 2, rv a102, iv 1, rv x_pe158] []))
    refine Way.by (fun _ k => XS.aload X169.here hx rfl (hb hby dC31_54) rfl rfl k) ?_
    show Way _ _ _ _ (T168.setTop (mkF m 56 #[rv pb, iv 0, iv 2, rv a102, iv 1, rv x_pe158] [(.ref x_pe158)]))
    refine Way.ret (v := (some (.ref x_pe158))) X169 hlk (fun h => by rw [Bd.returns] at h; cases h) (fun fs hr => retOut X169 hx Bd.returns rfl (Or.inr (Or.inr (Or.inr (Or.inr ⟨rfl, rfl, rfl⟩)))) (hb hby dC31_56) hr) ?_ (by decide) (by decide)
    show QC32 Z pb kc cc0 cc1 h0 n0 _ T168.heap _
    rw [e180]
    exact ⟨x_pe158, x_kk157, rfl, N179, K165, hk161, F_0155⟩
def QCL2 (Z : State) (pe : Addr) (kk : ClassId) (cc0 : Int32) (cc1 : Int32) (h0 : Heap) (n0 : Nat) (v : Option Value) (h : Heap) (L : List Loc) : Prop := v = some (.int 1) ∧ Fr n0 L ∧ h = h0
set_option maxRecDepth 65536 in
set_option maxHeartbeats 40000000 in
theorem rmCL2 (l : Launch) (Z : State) (a0 : Array Value) (hw : ∀ d ∈ tables_1, d.before a0 Z = true) (ws : List Jvm.Cond) (pe : Addr) (kk : ClassId) (cc0 : Int32) (cc1 : Int32) (h0 : Heap) (n0 : Nat) (Z0 : n0 ≤ h0.size) (H0 : Arv Z h0 pe kk .byte (4 : Int32) [(.int (StrChars.lo8 cc0)), (.int (StrChars.hi8 cc0)), (.int (StrChars.lo8 cc1)), (.int (StrChars.hi8 cc1))] (.int 0)) :
    MetFree l (⟨"java/lang/StringUTF16", "coderFromArrayLen", "([BI)B"⟩ : MethodName) (head1 (Jvm.Cond.code (⟨"java/lang/StringUTF16", "coderFromArrayLen", "([BI)B"⟩ : MethodName) jdk_52_method_15_code 2 (some .byte) :: ws) ({ frames := 0, cells := 0, slots := 0, locals := 0 } : Room)) (fun aa U => aa = #[(.ref pe), (.int 2)] ∧ Z.Warmed39 U.vm ∧ U.heap = h0) (fun _ _ _ _ _ => True) (fun _ U oo U' => ∃ v L, oo = .returned v ∧ QCL2 Z pe kk cc0 cc1 h0 n0 v U'.heap L ∧ FrameEnd U oo U' L ({ frames := 0, cells := 0, slots := 0, locals := 0 } : Room).cells ({ frames := 0, cells := 0, slots := 0, locals := 0 } : Room).slots) := by
  refine MetFree.of_bodySF (plainFor_of_name pnGC) hisR ?_
  intro p e s m args below meth c s₁ Bd hml0 hP hK
  obtain ⟨rfl, hZ, hh⟩ := hP
  have hx := Bd.exec
  have hby := Bd.bytes
  have hlk : meth.locks = false := BodyLoose.notSynchronized Bd
  have hml : c.maxLocals = 2 := hml0
  have hown : s.vm.findClass "java/lang/StringUTF16" = some m.cls := findClass_of_methodNamed Bd.named
  have hnm := (name_of_methodNamed Bd.named Bd.method).1
  have X0 : Stand p l e ({ frames := 0, cells := 0, slots := 0, locals := 0 } : Room) s m #[(.ref pe), (.int 2)] below meth c s₁ [] 0 0 := Stand.of_body Bd
  have e0 : s₁.heap = h0 := by rw [← hh, Bd.state]; rfl
  have N0 := Fr.nil n0
  have ef : entryFrame m #[(.ref pe), (.int 2)] 2 = mkF m 0 #[rv pe, iv 2] [] := by first | (simp [entryFrame, mkF, argsToLocals, Value.category, maxLocals]; done) | rfl
  show Way p.tables e below (KQ s (QCL2 Z pe kk cc0 cc1 h0 n0) ({ frames := 0, cells := 0, slots := 0, locals := 0 } : Room).cells ({ frames := 0, cells := 0, slots := 0, locals := 0 } : Room).slots) (s₁.setTop (entryFrame m #[(.ref pe), (.int 2)] 2))
  rw [ef]
  refine Way.by (fun _ k => XS.iloadN X0.here hx rfl (hb hby dCL1_0) rfl k) ?_
  show Way _ _ _ _ (s₁.setTop (mkF m 1 #[rv pe, iv 2] [(.int 2)]))
  refine Way.by (fun _ k => XS.aloadN X0.here hx rfl (hb hby dCL1_1) rfl rfl k) ?_
  show Way _ _ _ _ (s₁.setTop (mkF m 2 #[rv pe, iv 2] [(.ref pe), (.int 2)]))
  obtain ⟨c1, A2, q3, S4, M5, H6, U7⟩ := id H0
  refine Way.by (fun t k => Stand.arraylength X0 hx (hpE e0 A2.1) (arrS hZ A2) (g := (mkF m 2 #[rv pe, iv 2] [(.ref pe), (.int 2)])) rfl rfl (hb hby dCL1_2) t k) ?_
  rw [len_of S4 M5]
  show Way _ _ _ _ (s₁.setTop (mkF m 3 #[rv pe, iv 2] [(.int 4), (.int 2)]))
  refine Way.by (fun _ k => XS.isub X0.here hx rfl (hb hby dCL1_3) rfl k) ?_
  show Way _ _ _ _ (s₁.setTop (mkF m 4 #[rv pe, iv 2] [(.int (-2 : Int32))]))
  refine Way.by (fun _ k => XS.bipush X0.here hx rfl (hb hby dCL1_4) k) ?_
  show Way _ _ _ _ (s₁.setTop (mkF m 6 #[rv pe, iv 2] [(.int 31), (.int (-2 : Int32))]))
  refine Way.by (fun _ k => XT.iushr X0.here hx rfl (hb hby dCL1_6) rfl k) ?_
  show Way _ _ _ _ (s₁.setTop (mkF m 7 #[rv pe, iv 2] [(.int (XT.ushr (-2 : Int32) (31 : Int32)))]))
  refine Way.by (fun _ k => XT.i2b X0.here hx rfl (hb hby dCL1_7) rfl k) ?_
  show Way _ _ _ _ (s₁.setTop (mkF m 8 #[rv pe, iv 2] [(.int (XT.ushr (-2 : Int32) (31 : Int32)).toInt8.toInt32)]))
  refine Way.ret (v := (some (.int (nar .byte (XT.ushr (-2 : Int32) (31 : Int32)).toInt8.toInt32)))) X0 hlk (fun h => by rw [Bd.returns] at h; cases h) (fun fs hr => retN X0 hx (t := .byte) Bd.returns (by simp) (hb hby dCL1_8) hr) ?_ (by decide) (by decide)
  show QCL2 Z pe kk cc0 cc1 h0 n0 _ s₁.heap _
  rw [e0]
  exact ⟨by first | rfl | decide, N0, rfl⟩
def QI42 (Z : State) (pa : Addr) (pb : Addr) (kc : ClassId) (cc0 : Int32) (cc1 : Int32) (h0 : Heap) (n0 : Nat) (v : Option Value) (h : Heap) (L : List Loc) : Prop := ∃ (pe : Addr) (kk : ClassId), v = none ∧ Fr n0 L ∧ Keep h0 h [pa] ∧ h0.size ≤ pe ∧ Exa Z h pa "java/lang/String" ∧ Fld Z h pa "java/lang/String" "value" "[B" (.ref pe) ∧ Fld Z h pa "java/lang/String" "coder" "B" (.int 1) ∧ Arv Z h pe kk .byte (4 : Int32) [(.int (StrChars.lo8 cc0)), (.int (StrChars.hi8 cc0)), (.int (StrChars.lo8 cc1)), (.int (StrChars.hi8 cc1))] (.int 0)
set_option maxRecDepth 65536 in
set_option maxHeartbeats 40000000 in
theorem rmI42 (l : Launch) (Z : State) (a0 : Array Value) (hw : ∀ d ∈ tables_1, d.before a0 Z = true) (ws : List Jvm.Cond) (pa : Addr) (pb : Addr) (kc : ClassId) (cc0 : Int32) (cc1 : Int32) (h0 : Heap) (n0 : Nat) (Z0 : n0 ≤ h0.size) (H0 : Exa Z h0 pa "java/lang/String") (H1 : Fld Z h0 pa "java/lang/String" "value" "[B" .null) (H2 : Fld Z h0 pa "java/lang/String" "coder" "B" (.int 0)) (H3 : Arv Z h0 pb kc .char (2 : Int32) [(.int cc0), (.int cc1)] (.int 0)) (hB : ∀ c ∈ ([cc0, cc1] : List Int32), ¬ c < 0 ∧ ¬ (65535 : Int32) < c) (hU : (255 : Int32) < cc0 ∨ (255 : Int32) < cc1) (ne_pb_pa : pb ≠ pa) (nw_pa : n0 ≤ pa) (O0 : Old Z n0 h0) (SV : own_Env Z) (SU : own_U16 Z) :
    MetFree l (⟨"java/lang/String", "<init>", "([CIILjava/lang/Void;)V"⟩ : MethodName) (head1 (Jvm.Cond.code (⟨"java/lang/String", "<init>", "([CIILjava/lang/Void;)V"⟩ : MethodName) jdk_42_method_149_code 6 none :: ws) ({ frames := 4, cells := 2, slots := 6, locals := 57 } : Room)) (fun aa U => aa = #[(.ref pa), (.ref pb), (.int 0), (.int 2), .null] ∧ Z.Warmed39 U.vm ∧ U.heap = h0) (fun _ _ _ _ _ => True) (fun _ U oo U' => ∃ v L, oo = .returned v ∧ QI42 Z pa pb kc cc0 cc1 h0 n0 v U'.heap L ∧ FrameEnd U oo U' L ({ frames := 4, cells := 2, slots := 6, locals := 57 } : Room).cells ({ frames := 4, cells := 2, slots := 6, locals := 57 } : Room).slots) := by
  refine MetFree.of_bodySF (plainFor_of_name pnSB) hisR ?_
  intro p e s m args below meth c s₁ Bd hml0 hP hK
  obtain ⟨rfl, hZ, hh⟩ := hP
  have hx := Bd.exec
  have hby := Bd.bytes
  have hlk : meth.locks = false := BodyLoose.notSynchronized Bd
  have hml : c.maxLocals = 6 := hml0
  have hown : s.vm.findClass "java/lang/String" = some m.cls := findClass_of_methodNamed Bd.named
  have hnm := (name_of_methodNamed Bd.named Bd.method).1
  have X0 : Stand p l e ({ frames := 4, cells := 2, slots := 6, locals := 57 } : Room) s m #[(.ref pa), (.ref pb), (.int 0), (.int 2), .null] below meth c s₁ [] 0 0 := Stand.of_body Bd
  have e0 : s₁.heap = h0 := by rw [← hh, Bd.state]; rfl
  have N0 := Fr.nil n0
  have ef : entryFrame m #[(.ref pa), (.ref pb), (.int 0), (.int 2), .null] 6 = mkF m 0 #[rv pa, rv pb, iv 0, iv 2, .val .null, .unset] [] := by first | (simp [entryFrame, mkF, argsToLocals, Value.category, maxLocals]; done) | rfl
  show Way p.tables e below (KQ s (QI42 Z pa pb kc cc0 cc1 h0 n0) ({ frames := 4, cells := 2, slots := 6, locals := 57 } : Room).cells ({ frames := 4, cells := 2, slots := 6, locals := 57 } : Room).slots) (s₁.setTop (entryFrame m #[(.ref pa), (.ref pb), (.int 0), (.int 2), .null] 6))
  rw [ef]
  obtain ⟨⟨G1, SG1, hG1⟩, G3, SG3, rG3⟩ := id SV
  refine Way.by (fun _ k => XS.aloadN X0.here hx rfl (hb hby dN4_0) rfl rfl k) ?_
  show Way _ _ _ _ (s₁.setTop (mkF m 1 #[rv pa, rv pb, iv 0, iv 2, .val .null, .unset] [(.ref pa)]))
  obtain ⟨T1, X2, e3, st4⟩ := initO X0 hx hZ hown (tw hw 15 rfl) (tw hw 16 rfl) (tw hw 17 rfl) e0 (g := (mkF m 1 #[rv pa, rv pb, iv 0, iv 2, .val .null, .unset] [(.ref pa)])) rfl (by rw [hml]; rfl) rfl (hb hby dN4_1) (by decide) (W := 0) (leW rfl) (by decide)
  refine Way.by st4 ?_
  show Way _ _ _ _ (T1.setTop (mkF m 4 #[rv pa, rv pb, iv 0, iv 2, .val .null, .unset] []))
  refine Way.by (fun _ k => XS.iloadN X2.here hx rfl (hb hby dN4_4) rfl k) ?_
  show Way _ _ _ _ (T1.setTop (mkF m 5 #[rv pa, rv pb, iv 0, iv 2, .val .null, .unset] [(.int 2)]))
  have b5 : ¬ (2 : Int32) = (0 : Int32) := by decide
  refine Way.by (fun _ k => XS.ifYes X2.here hx rfl (pc0 := 5) (pc' := 27) rfl (hb hby dN4_5) rfl ((if0 .ne _).trans (feq b5).2) (by decide) (by decide) k) ?_
  show Way _ _ _ _ (T1.setTop (mkF m 27 #[rv pa, rv pb, iv 0, iv 2, .val .null, .unset] []))
  obtain ⟨T6, X7, e8, st9⟩ := getS X2 hx hZ hown (host := "") (tw hw 45 rfl) Via.refl e3 (Sta.ext O0.2 SG1) (g := (mkF m 27 #[rv pa, rv pb, iv 0, iv 2, .val .null, .unset] [])) rfl (hb hby dI41_27)
  refine Way.by st9 ?_
  show Way _ _ _ _ (T6.setTop (mkF m 30 #[rv pa, rv pb, iv 0, iv 2, .val .null, .unset] [(.int G1)]))
  have b10 : ¬ G1 = (0 : Int32) := hG1
  refine Way.by (fun _ k => XS.ifNo X7.here hx rfl (hb hby dI41_30) rfl ((if0 .eq _).trans (feq b10).1) k) ?_
  show Way _ _ _ _ (T6.setTop (mkF m 33 #[rv pa, rv pb, iv 0, iv 2, .val .null, .unset] []))
  refine Way.by (fun _ k => XS.aloadN X7.here hx rfl (hb hby dI41_33) rfl rfl k) ?_
  show Way _ _ _ _ (T6.setTop (mkF m 34 #[rv pa, rv pb, iv 0, iv 2, .val .null, .unset] [(.ref pb)]))
  refine Way.by (fun _ k => XS.iloadN X7.here hx rfl (hb hby dI41_34) rfl k) ?_
  show Way _ _ _ _ (T6.setTop (mkF m 35 #[rv pa, rv pb, iv 0, iv 2, .val .null, .unset] [(.int 0), (.ref pb)]))
  refine Way.by (fun _ k => XS.iloadN X7.here hx rfl (hb hby dI41_35) rfl k) ?_
  show Way _ _ _ _ (T6.setTop (mkF m 36 #[rv pa, rv pb, iv 0, iv 2, .val .null, .unset] [(.int 2), (.int 0), (.ref pb)]))
  obtain ⟨_, _, ⟨T11, L13, k14, n15⟩, -, X12, ⟨Lc16, hQ17, l18, y19, z20⟩, st21⟩ := Jvm.LawKit.callS X7 hx (y := (⟨"java/lang/StringUTF16", "compress", "([CII)[B"⟩ : MethodName)) hown (mvT hZ (tw hw 70 rfl)) (mvT hZ (tw hw 71 rfl)) (mvT hZ (tw hw 72 rfl)) (mvT hZ (tw hw 73 rfl)) (by decide) (backOf (W := 0) (rmC32 l Z a0 hw [] pb kc cc0 cc1 h0 n0 Z0 H3 hB hU O0 SV SU) hZ (tw hw 73 rfl) (tw hw 72 rfl) (by decide) (by decide)) (g := (mkF m 36 #[rv pa, rv pb, iv 0, iv 2, .val .null, .unset] [(.int 2), (.int 0), (.ref pb)])) rfl (by rw [hml]; rfl) (argsL := [(.ref pb), (.int 0), (.int 2)]) (rest := []) (lenOf pdTB1 rfl) rfl (leW rfl) (hb hby dI41_36) (fun _ _ => ⟨rfl, e8, (leB rfl), (leB rfl)⟩)
  dsimp only [Pt.U, Pt.locs, Pt.cells, Pt.slots] at X12 l18 y19 z20 st21 hQ17
  subst l18 y19 z20
  obtain ⟨x_pe32, x_kk31, rfl, N27, K28, fr_pe30, F_029⟩ := hQ17
  have N22 := Fr.app N0 N27
  have ne33 : pa ≠ x_pe32 := Nat.ne_of_lt (Nat.lt_of_lt_of_le H0.lt fr_pe30)
  have ne34 : pb ≠ x_pe32 := Nat.ne_of_lt (Nat.lt_of_lt_of_le H3.lt fr_pe30)
  have nw35 : n0 ≤ x_pe32 := Nat.le_trans Z0 fr_pe30
  have hk36 : h0.size ≤ x_pe32 := Nat.le_trans (Nat.le_refl h0.size) fr_pe30
  have E37 := H0.keep K28
  have F38 := H1.keep K28 nin0
  have F39 := H2.keep K28 nin0
  have A40 := H3.keep K28 nin0
  have Z41 := Nat.le_trans Z0 K28.1
  have O42 := O0.keep K28 all0
  have K43 := (Keep.refl h0 [pa]).trans K28 all0
  have hz44 := Nat.le_trans (Nat.le_refl h0.size) K28.1
  refine Way.by st21 ?_
  show Way _ _ _ _ (T11.setTop (mkF m 39 #[rv pa, rv pb, iv 0, iv 2, .val .null, .unset] [(.ref x_pe32)]))
  refine Way.by (fun _ k => XS.astore X12.here hx rfl (hb hby dI41_39) rfl rfl (l' := #[rv pa, rv pb, iv 0, iv 2, .val .null, rv x_pe32]) rfl k) ?_
  show Way _ _ _ _ (T11.setTop (mkF m 41 #[rv pa, rv pb, iv 0, iv 2, .val .null, rv x_pe32] []))
  refine Way.by (fun _ k => XS.aloadN X12.here hx rfl (hb hby dI41_41) rfl rfl k) ?_
  show Way _ _ _ _ (T11.setTop (mkF m 42 #[rv pa, rv pb, iv 0, iv 2, .val .null, rv x_pe32] [(.ref pa)]))
  refine Way.by (fun _ k => XS.aload X12.here hx rfl (hb hby dI41_42) rfl rfl k) ?_
  show Way _ _ _ _ (T11.setTop (mkF m 44 #[rv pa, rv pb, iv 0, iv 2, .val .null, rv x_pe32] [(.ref x_pe32), (.ref pa)]))
  refine Way.by (fun _ k => XS.iloadN X12.here hx rfl (hb hby dI41_44) rfl k) ?_
  show Way _ _ _ _ (T11.setTop (mkF m 45 #[rv pa, rv pb, iv 0, iv 2, .val .null, rv x_pe32] [(.int 2), (.ref x_pe32), (.ref pa)]))
  obtain ⟨_, _, ⟨T45, L47, k48, n49⟩, -, X46, ⟨Lc50, hQ51, l52, y53, z54⟩, st55⟩ := Jvm.LawKit.callS X12 hx (y := (⟨"java/lang/StringUTF16", "coderFromArrayLen", "([BI)B"⟩ : MethodName)) hown (mvT hZ (tw hw 77 rfl)) (mvT hZ (tw hw 78 rfl)) (mvT hZ (tw hw 72 rfl)) (mvT hZ (tw hw 79 rfl)) (by decide) (backOf (W := 1) (rmCL2 l Z a0 hw [] x_pe32 x_kk31 cc0 cc1 T11.heap n0 Z41 F_029) hZ (tw hw 79 rfl) (tw hw 72 rfl) (by decide) (by decide)) (g := (mkF m 45 #[rv pa, rv pb, iv 0, iv 2, .val .null, rv x_pe32] [(.int 2), (.ref x_pe32), (.ref pa)])) rfl (by rw [hml]; rfl) (argsL := [(.ref x_pe32), (.int 2)]) (rest := [(.ref pa)]) (lenOf pdCL1 rfl) rfl (leW rfl) (hb hby dI41_45) (fun _ _ => ⟨rfl, rfl, (leB rfl), (leB rfl)⟩)
  dsimp only [Pt.U, Pt.locs, Pt.cells, Pt.slots] at X46 l52 y53 z54 st55 hQ51
  subst l52 y53 z54
  obtain ⟨rfl, N61, e57⟩ := hQ51
  have N56 := Fr.app N22 N61
  refine Way.by st55 ?_
  show Way _ _ _ _ (T45.setTop (mkF m 48 #[rv pa, rv pb, iv 0, iv 2, .val .null, rv x_pe32] [(.int 1), (.ref pa)]))
  obtain ⟨T63, h64, X65, e66, W67, st68⟩ := putF X46 hx hZ hown (host := "") (Or.inl (tw hw 25 rfl)) Via.refl e57 F39 E37 (Or.inr ⟨(tw hw 21 rfl), rfl, hnm⟩) (tw hw 6 rfl) (ty := .byte) (by decide) rfl rfl (g := (mkF m 48 #[rv pa, rv pb, iv 0, iv 2, .val .null, rv x_pe32] [(.int 1), (.ref pa)])) rfl rfl (hb hby dI41_48)
  have N69 := Fr.snoc X65 N56 nw_pa
  have E70 := Exa.wr W67 E37
  have F71 := F38.other W67 (Or.inr (slot_ne (Or.inr (tw hw 20 rfl)) (Or.inr (tw hw 21 rfl)) (by decide) (t := (.array .byte)) (t' := .byte) (by decide) (by decide)))
  have F72 : Fld Z h64 pa "java/lang/String" "coder" "B" (.int 1) := F39.same W67
  have A73 := A40.other W67 ne_pb_pa
  have A74 := F_029.other W67 ne33.symm
  have Z75 : n0 ≤ h64.size := by rw [W67.size]; exact Z41
  have O76 := O42.wr W67 nw_pa
  have K77 := K43.wr W67 (Or.inl (List.mem_of_getElem? (i := 0) rfl))
  have hz78 : h0.size ≤ h64.size := by rw [W67.size]; exact hz44
  refine Way.by st68 ?_
  show Way _ _ _ _ (T63.setTop (mkF m 51 #[rv pa, rv pb, iv 0, iv 2, .val .null, rv x_pe32] []))
  refine Way.by (fun _ k => XS.aloadN X65.here hx rfl (hb hby dI41_51) rfl rfl k) ?_
  show Way _ _ _ _ (T63.setTop (mkF m 52 #[rv pa, rv pb, iv 0, iv 2, .val .null, rv x_pe32] [(.ref pa)]))
  refine Way.by (fun _ k => XS.aload X65.here hx rfl (hb hby dI41_52) rfl rfl k) ?_
  show Way _ _ _ _ (T63.setTop (mkF m 54 #[rv pa, rv pb, iv 0, iv 2, .val .null, rv x_pe32] [(.ref x_pe32), (.ref pa)]))
  obtain ⟨T79, h80, X81, e82, W83, st84⟩ := putF X65 hx hZ hown (host := "") (Or.inl (tw hw 24 rfl)) Via.refl e66 F71 E70 (Or.inr ⟨(tw hw 20 rfl), rfl, hnm⟩) (tw hw 6 rfl) (ty := (.array .byte)) (by decide) rfl rfl (g := (mkF m 54 #[rv pa, rv pb, iv 0, iv 2, .val .null, rv x_pe32] [(.ref x_pe32), (.ref pa)])) rfl rfl (hb hby dI41_54)
  have N85 := Fr.snoc X81 N69 nw_pa
  have E86 := Exa.wr W83 E70
  have F87 : Fld Z h80 pa "java/lang/String" "value" "[B" (.ref x_pe32) := F71.same W83
  have F88 := F72.other W83 (Or.inr (slot_ne (Or.inr (tw hw 21 rfl)) (Or.inr (tw hw 20 rfl)) (by decide) (t := .byte) (t' := (.array .byte)) (by decide) (by decide)))
  have A89 := A73.other W83 ne_pb_pa
  have A90 := A74.other W83 ne33.symm
  have Z91 : n0 ≤ h80.size := by rw [W83.size]; exact Z75
  have O92 := O76.wr W83 nw_pa
  have K93 := K77.wr W83 (Or.inl (List.mem_of_getElem? (i := 0) rfl))
  have hz94 : h0.size ≤ h80.size := by rw [W83.size]; exact hz78
  refine Way.by st84 ?_
  show Way _ _ _ _ (T79.setTop (mkF m 57 #[rv pa, rv pb, iv 0, iv 2, .val .null, rv x_pe32] []))
  refine Way.ret (v := none) X81 hlk (fun _ => rfl) (fun fs hr => X81.returnOut hx Bd.returns (hb hby dI41_57) hr) ?_ (by decide) (by decide)
  show QI42 Z pa pb kc cc0 cc1 h0 n0 _ T79.heap _
  rw [e82]
  exact ⟨x_pe32, x_kk31, rfl, N85, K93, hk36, E86, F87, F88, A90⟩
def QI12 (Z : State) (pa : Addr) (pb : Addr) (kc : ClassId) (cc0 : Int32) (cc1 : Int32) (h0 : Heap) (n0 : Nat) (v : Option Value) (h : Heap) (L : List Loc) : Prop := ∃ (pe : Addr) (kk : ClassId), v = none ∧ Fr n0 L ∧ Keep h0 h [pa] ∧ h0.size ≤ pe ∧ Exa Z h pa "java/lang/String" ∧ Fld Z h pa "java/lang/String" "value" "[B" (.ref pe) ∧ Fld Z h pa "java/lang/String" "coder" "B" (.int 1) ∧ Arv Z h pe kk .byte (4 : Int32) [(.int (StrChars.lo8 cc0)), (.int (StrChars.hi8 cc0)), (.int (StrChars.lo8 cc1)), (.int (StrChars.hi8 cc1))] (.int 0)
set_option maxRecDepth 65536 in
set_option maxHeartbeats 40000000 in
theorem rmI12 (l : Launch) (Z : State) (a0 : Array Value) (hw : ∀ d ∈ tables_1, d.before a0 Z = true) (ws : List Jvm.Cond) (pa : Addr) (pb : Addr) (kc : ClassId) (cc0 : Int32) (cc1 : Int32) (h0 : Heap) (n0 : Nat) (Z0 : n0 ≤ h0.size) (H0 : Exa Z h0 pa "java/lang/String") (H1 : Fld Z h0 pa "java/lang/String" "value" "[B" .null) (H2 : Fld Z h0 pa "java/lang/String" "coder" "B" (.int 0)) (H3 : Arv Z h0 pb kc .char (2 : Int32) [(.int cc0), (.int cc1)] (.int 0)) (hB : ∀ c ∈ ([cc0, cc1] : List Int32), ¬ c < 0 ∧ ¬ (65535 : Int32) < c) (hU : (255 : Int32) < cc0 ∨ (255 : Int32) < cc1) (ne_pb_pa : pb ≠ pa) (nw_pa : n0 ≤ pa) (O0 : Old Z n0 h0) (SV : own_Env Z) (SU : own_U16 Z) :
    MetFree l (⟨"java/lang/String", "<init>", "([C)V"⟩ : MethodName) (head1 (Jvm.Cond.code (⟨"java/lang/String", "<init>", "([C)V"⟩ : MethodName) jdk_42_method_3_code 2 none :: ws) ({ frames := 5, cells := 2, slots := 6, locals := 74 } : Room)) (fun aa U => aa = #[(.ref pa), (.ref pb)] ∧ Z.Warmed39 U.vm ∧ U.heap = h0) (fun _ _ _ _ _ => True) (fun _ U oo U' => ∃ v L, oo = .returned v ∧ QI12 Z pa pb kc cc0 cc1 h0 n0 v U'.heap L ∧ FrameEnd U oo U' L ({ frames := 5, cells := 2, slots := 6, locals := 74 } : Room).cells ({ frames := 5, cells := 2, slots := 6, locals := 74 } : Room).slots) := by
  refine MetFree.of_bodySF (plainFor_of_name pnSB) hisR ?_
  intro p e s m args below meth c s₁ Bd hml0 hP hK
  obtain ⟨rfl, hZ, hh⟩ := hP
  have hx := Bd.exec
  have hby := Bd.bytes
  have hlk : meth.locks = false := BodyLoose.notSynchronized Bd
  have hml : c.maxLocals = 2 := hml0
  have hown : s.vm.findClass "java/lang/String" = some m.cls := findClass_of_methodNamed Bd.named
  have hnm := (name_of_methodNamed Bd.named Bd.method).1
  have X0 : Stand p l e ({ frames := 5, cells := 2, slots := 6, locals := 74 } : Room) s m #[(.ref pa), (.ref pb)] below meth c s₁ [] 0 0 := Stand.of_body Bd
  have e0 : s₁.heap = h0 := by rw [← hh, Bd.state]; rfl
  have N0 := Fr.nil n0
  have ef : entryFrame m #[(.ref pa), (.ref pb)] 2 = mkF m 0 #[rv pa, rv pb] [] := by first | (simp [entryFrame, mkF, argsToLocals, Value.category, maxLocals]; done) | rfl
  show Way p.tables e below (KQ s (QI12 Z pa pb kc cc0 cc1 h0 n0) ({ frames := 5, cells := 2, slots := 6, locals := 74 } : Room).cells ({ frames := 5, cells := 2, slots := 6, locals := 74 } : Room).slots) (s₁.setTop (entryFrame m #[(.ref pa), (.ref pb)] 2))
  rw [ef]
  refine Way.by (fun _ k => XS.aloadN X0.here hx rfl (hb hby dN1_0) rfl rfl k) ?_
  show Way _ _ _ _ (s₁.setTop (mkF m 1 #[rv pa, rv pb] [(.ref pa)]))
  refine Way.by (fun _ k => XS.aloadN X0.here hx rfl (hb hby dN1_1) rfl rfl k) ?_
  show Way _ _ _ _ (s₁.setTop (mkF m 2 #[rv pa, rv pb] [(.ref pb), (.ref pa)]))
  refine Way.by (fun _ k => XS.iconst X0.here hx rfl (hb hby dN1_2) k) ?_
  show Way _ _ _ _ (s₁.setTop (mkF m 3 #[rv pa, rv pb] [(.int 0), (.ref pb), (.ref pa)]))
  refine Way.by (fun _ k => XS.aloadN X0.here hx rfl (hb hby dN1_3) rfl rfl k) ?_
  show Way _ _ _ _ (s₁.setTop (mkF m 4 #[rv pa, rv pb] [(.ref pb), (.int 0), (.ref pb), (.ref pa)]))
  obtain ⟨c1, A2, q3, S4, M5, H6, U7⟩ := id H3
  refine Way.by (fun t k => Stand.arraylength X0 hx (hpE e0 A2.1) (arrS hZ A2) (g := (mkF m 4 #[rv pa, rv pb] [(.ref pb), (.int 0), (.ref pb), (.ref pa)])) rfl rfl (hb hby dN1_4) t k) ?_
  rw [len_of S4 M5]
  show Way _ _ _ _ (s₁.setTop (mkF m 5 #[rv pa, rv pb] [(.int 2), (.int 0), (.ref pb), (.ref pa)]))
  refine Way.by (fun _ k => XS.aconstNull X0.here hx rfl (hb hby dN1_5) k) ?_
  show Way _ _ _ _ (s₁.setTop (mkF m 6 #[rv pa, rv pb] [.null, (.int 2), (.int 0), (.ref pb), (.ref pa)]))
  obtain ⟨_, _, ⟨T8, L10, k11, n12⟩, -, X9, ⟨Lc13, hQ14, l15, y16, z17⟩, st18⟩ := X0.specialBack hx (y := (⟨"java/lang/String", "<init>", "([CIILjava/lang/Void;)V"⟩ : MethodName)) rfl hown (mvT hZ (tw hw 11 rfl)) (mvT hZ (tw hw 12 rfl)) (mvT hZ (tw hw 14 rfl)) (by decide) (backOf (W := 0) (rmI42 l Z a0 hw [] pa pb kc cc0 cc1 h0 n0 Z0 H0 H1 H2 H3 hB hU ne_pb_pa nw_pa O0 SV SU) hZ (tw hw 14 rfl) (tw hw 7 rfl) (by decide) (by decide)) (g := (mkF m 6 #[rv pa, rv pb] [.null, (.int 2), (.int 0), (.ref pb), (.ref pa)])) rfl (by rw [hml]; rfl) (Steps.refl _) (a := pa) (argsL := [(.ref pb), (.int 0), (.int 2), .null]) (rest := []) (lenOf pdN4 rfl) rfl (leW rfl) (hb hby dN1_6) (fun _ _ => ⟨rfl, e0, (leB rfl), (leB rfl)⟩)
  dsimp only [Pt.U, Pt.locs, Pt.cells, Pt.slots] at X9 l15 y16 z17 st18 hQ14
  subst l15 y16 z17
  obtain ⟨x_pe32, x_kk31, rfl, N24, K25, fr_pe30, F_026, F_127, F_228, F_329⟩ := hQ14
  have N19 := Fr.app N0 N24
  have ne33 : pa ≠ x_pe32 := Nat.ne_of_lt (Nat.lt_of_lt_of_le H0.lt fr_pe30)
  have ne34 : pb ≠ x_pe32 := Nat.ne_of_lt (Nat.lt_of_lt_of_le H3.lt fr_pe30)
  have nw35 : n0 ≤ x_pe32 := Nat.le_trans Z0 fr_pe30
  have hk36 : h0.size ≤ x_pe32 := Nat.le_trans (Nat.le_refl h0.size) fr_pe30
  have E37 := H0.keep K25
  have A38 := H3.keep K25 (ninS ne_pb_pa nin0)
  have Z39 := Nat.le_trans Z0 K25.1
  have O40 := O0.keep K25 (allS nw_pa all0)
  have K41 := (Keep.refl h0 [pa]).trans K25 (allS (Or.inl (List.mem_of_getElem? (i := 0) rfl)) all0)
  have hz42 := Nat.le_trans (Nat.le_refl h0.size) K25.1
  refine Way.to st18 ?_
  show Way _ _ _ _ (T8.setTop (mkF m 9 #[rv pa, rv pb] []))
  refine Way.ret (v := none) X9 hlk (fun _ => rfl) (fun fs hr => X9.returnOut hx Bd.returns (hb hby dN1_9) hr) ?_ (by decide) (by decide)
  show QI12 Z pa pb kc cc0 cc1 h0 n0 _ T8.heap _
  skip
  exact ⟨x_pe32, x_kk31, rfl, N19, K41, hk36, F_026, F_127, F_228, F_329⟩
def QC530 (Z : State) (pb : Addr) (kc : ClassId) (pd : Addr) (kd : ClassId) (cc0 : Int32) (cc1 : Int32) (cc2 : Int32) (h0 : Heap) (n0 : Nat) (v : Option Value) (h : Heap) (L : List Loc) : Prop := v = some (.int 0) ∧ Fr n0 L ∧ Keep h0 h [pd]
set_option maxRecDepth 65536 in
set_option maxHeartbeats 40000000 in
theorem rmC530 (l : Launch) (Z : State) (a0 : Array Value) (hw : ∀ d ∈ tables_1, d.before a0 Z = true) (ws : List Jvm.Cond) (pb : Addr) (kc : ClassId) (pd : Addr) (kd : ClassId) (cc0 : Int32) (cc1 : Int32) (cc2 : Int32) (h0 : Heap) (n0 : Nat) (Z0 : n0 ≤ h0.size) (H0 : Arv Z h0 pb kc .char (3 : Int32) [(.int cc0), (.int cc1), (.int cc2)] (.int 0)) (H1 : Arv Z h0 pd kd .byte (3 : Int32) [] (.int 0)) (hc0 : (255 : Int32) < cc0) (ne_pb_pd : pb ≠ pd) (nw_pd : n0 ≤ pd) :
    MetFree l (⟨"java/lang/StringUTF16", "compress", "([CI[BII)I"⟩ : MethodName) (head1 (Jvm.Cond.code (⟨"java/lang/StringUTF16", "compress", "([CI[BII)I"⟩ : MethodName) jdk_52_method_21_code 7 (some .int) :: ws) ({ frames := 0, cells := 0, slots := 0, locals := 0 } : Room)) (fun aa U => aa = #[(.ref pb), (.int 0), (.ref pd), (.int 0), (.int 3)] ∧ Z.Warmed39 U.vm ∧ U.heap = h0) (fun _ _ _ _ _ => True) (fun _ U oo U' => ∃ v L, oo = .returned v ∧ QC530 Z pb kc pd kd cc0 cc1 cc2 h0 n0 v U'.heap L ∧ FrameEnd U oo U' L ({ frames := 0, cells := 0, slots := 0, locals := 0 } : Room).cells ({ frames := 0, cells := 0, slots := 0, locals := 0 } : Room).slots) := by
  refine MetFree.of_bodySF (plainFor_of_name pnGC) hisR ?_
  intro p e s m args below meth c s₁ Bd hml0 hP hK
  obtain ⟨rfl, hZ, hh⟩ := hP
  have hx := Bd.exec
  have hby := Bd.bytes
  have hlk : meth.locks = false := BodyLoose.notSynchronized Bd
  have hml : c.maxLocals = 7 := hml0
  have hown : s.vm.findClass "java/lang/StringUTF16" = some m.cls := findClass_of_methodNamed Bd.named
  have hnm := (name_of_methodNamed Bd.named Bd.method).1
  have X0 : Stand p l e ({ frames := 0, cells := 0, slots := 0, locals := 0 } : Room) s m #[(.ref pb), (.int 0), (.ref pd), (.int 0), (.int 3)] below meth c s₁ [] 0 0 := Stand.of_body Bd
  have e0 : s₁.heap = h0 := by rw [← hh, Bd.state]; rfl
  have N0 := Fr.nil n0
  have ef : entryFrame m #[(.ref pb), (.int 0), (.ref pd), (.int 0), (.int 3)] 7 = mkF m 0 #[rv pb, iv 0, rv pd, iv 0, iv 3, .unset, .unset] [] := by first | (simp [entryFrame, mkF, argsToLocals, Value.category, maxLocals]; done) | rfl
  show Way p.tables e below (KQ s (QC530 Z pb kc pd kd cc0 cc1 cc2 h0 n0) ({ frames := 0, cells := 0, slots := 0, locals := 0 } : Room).cells ({ frames := 0, cells := 0, slots := 0, locals := 0 } : Room).slots) (s₁.setTop (entryFrame m #[(.ref pb), (.int 0), (.ref pd), (.int 0), (.int 3)] 7))
  rw [ef]
  refine Way.by (fun _ k => XS.iconst X0.here hx rfl (hb hby dC510_0) k) ?_
  show Way _ _ _ _ (s₁.setTop (mkF m 1 #[rv pb, iv 0, rv pd, iv 0, iv 3, .unset, .unset] [(.int 0)]))
  refine Way.by (fun _ k => XS.istore X0.here hx rfl (hb hby dC510_1) rfl (l' := #[rv pb, iv 0, rv pd, iv 0, iv 3, iv 0, .unset]) rfl k) ?_
  show Way _ _ _ _ (s₁.setTop (mkF m 3 #[rv pb, iv 0, rv pd, iv 0, iv 3, iv 0, .unset] []))
  refine Way.by (fun _ k => XS.iload X0.here hx rfl (hb hby dC510_3) rfl k) ?_
  show Way _ _ _ _ (s₁.setTop (mkF m 5 #[rv pb, iv 0, rv pd, iv 0, iv 3, iv 0, .unset] [(.int 0)]))
  refine Way.by (fun _ k => XS.iload X0.here hx rfl (hb hby dC510_5) rfl k) ?_
  show Way _ _ _ _ (s₁.setTop (mkF m 7 #[rv pb, iv 0, rv pd, iv 0, iv 3, iv 0, .unset] [(.int 3), (.int 0)]))
  have b1 : (0 : Int32) < (3 : Int32) := by decide
  refine Way.by (fun _ k => XS.icmpNo X0.here hx rfl (hb hby dC510_7) rfl (tlt b1).2.1 k) ?_
  show Way _ _ _ _ (s₁.setTop (mkF m 10 #[rv pb, iv 0, rv pd, iv 0, iv 3, iv 0, .unset] []))
  refine Way.by (fun _ k => XS.aloadN X0.here hx rfl (hb hby dC510_10) rfl rfl k) ?_
  show Way _ _ _ _ (s₁.setTop (mkF m 11 #[rv pb, iv 0, rv pd, iv 0, iv 3, iv 0, .unset] [(.ref pb)]))
  refine Way.by (fun _ k => XS.iloadN X0.here hx rfl (hb hby dC510_11) rfl k) ?_
  show Way _ _ _ _ (s₁.setTop (mkF m 12 #[rv pb, iv 0, rv pd, iv 0, iv 3, iv 0, .unset] [(.int 0), (.ref pb)]))
  obtain ⟨c2, A3, q4, S5, M6, H7, U8⟩ := id H0
  refine Way.by (fun t k => Stand.caload X0 hx (hpE e0 A3.1) (arrS hZ A3) A3.2.2 (inb_of S5 ⟨(by decide), (by decide)⟩) (Has.at H7 (inb_of S5 ⟨(by decide), (by decide)⟩) rfl) (g := (mkF m 12 #[rv pb, iv 0, rv pd, iv 0, iv 3, iv 0, .unset] [(.int 0), (.ref pb)])) rfl rfl (hb hby dC510_12) t k) ?_
  show Way _ _ _ _ (s₁.setTop (mkF m 13 #[rv pb, iv 0, rv pd, iv 0, iv 3, iv 0, .unset] [(.int cc0)]))
  refine Way.by (fun _ k => XS.istore X0.here hx rfl (hb hby dC510_13) rfl (l' := #[rv pb, iv 0, rv pd, iv 0, iv 3, iv 0, iv cc0]) rfl k) ?_
  show Way _ _ _ _ (s₁.setTop (mkF m 15 #[rv pb, iv 0, rv pd, iv 0, iv 3, iv 0, iv cc0] []))
  refine Way.by (fun _ k => XS.iload X0.here hx rfl (hb hby dC510_15) rfl k) ?_
  show Way _ _ _ _ (s₁.setTop (mkF m 17 #[rv pb, iv 0, rv pd, iv 0, iv 3, iv 0, iv cc0] [(.int cc0)]))
  refine Way.by (fun _ k => XS.sipush X0.here hx rfl (hb hby dC510_17) k) ?_
  show Way _ _ _ _ (s₁.setTop (mkF m 20 #[rv pb, iv 0, rv pd, iv 0, iv 3, iv 0, iv cc0] [(.int 255), (.int cc0)]))
  have b9 : (255 : Int32) < cc0 := hc0
  refine Way.by (fun _ k => XS.icmpNo X0.here hx rfl (hb hby dC510_20) rfl (tlt b9).2.2.2 k) ?_
  show Way _ _ _ _ (s₁.setTop (mkF m 23 #[rv pb, iv 0, rv pd, iv 0, iv 3, iv 0, iv cc0] []))
  refine Way.by (fun _ k => XS.iload X0.here hx rfl (hb hby dC510_23) rfl k) ?_
  show Way _ _ _ _ (s₁.setTop (mkF m 25 #[rv pb, iv 0, rv pd, iv 0, iv 3, iv 0, iv cc0] [(.int 0)]))
  refine Way.ret (v := (some (.int 0))) X0 hlk (fun h => by rw [Bd.returns] at h; cases h) (fun fs hr => retI X0 hx Bd.returns (hb hby dC510_25) hr) ?_ (by decide) (by decide)
  show QC530 Z pb kc pd kd cc0 cc1 cc2 h0 n0 _ s₁.heap _
  rw [e0]
  exact ⟨rfl, N0, (Keep.refl h0 [pd])⟩
def QC531 (Z : State) (pb : Addr) (kc : ClassId) (pd : Addr) (kd : ClassId) (cc0 : Int32) (cc1 : Int32) (cc2 : Int32) (h0 : Heap) (n0 : Nat) (v : Option Value) (h : Heap) (L : List Loc) : Prop := v = some (.int 1) ∧ Fr n0 L ∧ Keep h0 h [pd]
set_option maxRecDepth 65536 in
set_option maxHeartbeats 40000000 in
theorem rmC531 (l : Launch) (Z : State) (a0 : Array Value) (hw : ∀ d ∈ tables_1, d.before a0 Z = true) (ws : List Jvm.Cond) (pb : Addr) (kc : ClassId) (pd : Addr) (kd : ClassId) (cc0 : Int32) (cc1 : Int32) (cc2 : Int32) (h0 : Heap) (n0 : Nat) (Z0 : n0 ≤ h0.size) (H0 : Arv Z h0 pb kc .char (3 : Int32) [(.int cc0), (.int cc1), (.int cc2)] (.int 0)) (H1 : Arv Z h0 pd kd .byte (3 : Int32) [] (.int 0)) (hc0 : ¬ (255 : Int32) < cc0) (hc1 : (255 : Int32) < cc1) (ne_pb_pd : pb ≠ pd) (nw_pd : n0 ≤ pd) :
    MetFree l (⟨"java/lang/StringUTF16", "compress", "([CI[BII)I"⟩ : MethodName) (head1 (Jvm.Cond.code (⟨"java/lang/StringUTF16", "compress", "([CI[BII)I"⟩ : MethodName) jdk_52_method_21_code 7 (some .int) :: ws) ({ frames := 0, cells := 0, slots := 0, locals := 0 } : Room)) (fun aa U => aa = #[(.ref pb), (.int 0), (.ref pd), (.int 0), (.int 3)] ∧ Z.Warmed39 U.vm ∧ U.heap = h0) (fun _ _ _ _ _ => True) (fun _ U oo U' => ∃ v L, oo = .returned v ∧ QC531 Z pb kc pd kd cc0 cc1 cc2 h0 n0 v U'.heap L ∧ FrameEnd U oo U' L ({ frames := 0, cells := 0, slots := 0, locals := 0 } : Room).cells ({ frames := 0, cells := 0, slots := 0, locals := 0 } : Room).slots) := by
  refine MetFree.of_bodySF (plainFor_of_name pnGC) hisR ?_
  intro p e s m args below meth c s₁ Bd hml0 hP hK
  obtain ⟨rfl, hZ, hh⟩ := hP
  have hx := Bd.exec
  have hby := Bd.bytes
  have hlk : meth.locks = false := BodyLoose.notSynchronized Bd
  have hml : c.maxLocals = 7 := hml0
  have hown : s.vm.findClass "java/lang/StringUTF16" = some m.cls := findClass_of_methodNamed Bd.named
  have hnm := (name_of_methodNamed Bd.named Bd.method).1
  have X0 : Stand p l e ({ frames := 0, cells := 0, slots := 0, locals := 0 } : Room) s m #[(.ref pb), (.int 0), (.ref pd), (.int 0), (.int 3)] below meth c s₁ [] 0 0 := Stand.of_body Bd
  have e0 : s₁.heap = h0 := by rw [← hh, Bd.state]; rfl
  have N0 := Fr.nil n0
  have ef : entryFrame m #[(.ref pb), (.int 0), (.ref pd), (.int 0), (.int 3)] 7 = mkF m 0 #[rv pb, iv 0, rv pd, iv 0, iv 3, .unset, .unset] [] := by first | (simp [entryFrame, mkF, argsToLocals, Value.category, maxLocals]; done) | rfl
  show Way p.tables e below (KQ s (QC531 Z pb kc pd kd cc0 cc1 cc2 h0 n0) ({ frames := 0, cells := 0, slots := 0, locals := 0 } : Room).cells ({ frames := 0, cells := 0, slots := 0, locals := 0 } : Room).slots) (s₁.setTop (entryFrame m #[(.ref pb), (.int 0), (.ref pd), (.int 0), (.int 3)] 7))
  rw [ef]
  refine Way.by (fun _ k => XS.iconst X0.here hx rfl (hb hby dC510_0) k) ?_
  show Way _ _ _ _ (s₁.setTop (mkF m 1 #[rv pb, iv 0, rv pd, iv 0, iv 3, .unset, .unset] [(.int 0)]))
  refine Way.by (fun _ k => XS.istore X0.here hx rfl (hb hby dC510_1) rfl (l' := #[rv pb, iv 0, rv pd, iv 0, iv 3, iv 0, .unset]) rfl k) ?_
  show Way _ _ _ _ (s₁.setTop (mkF m 3 #[rv pb, iv 0, rv pd, iv 0, iv 3, iv 0, .unset] []))
  refine Way.by (fun _ k => XS.iload X0.here hx rfl (hb hby dC510_3) rfl k) ?_
  show Way _ _ _ _ (s₁.setTop (mkF m 5 #[rv pb, iv 0, rv pd, iv 0, iv 3, iv 0, .unset] [(.int 0)]))
  refine Way.by (fun _ k => XS.iload X0.here hx rfl (hb hby dC510_5) rfl k) ?_
  show Way _ _ _ _ (s₁.setTop (mkF m 7 #[rv pb, iv 0, rv pd, iv 0, iv 3, iv 0, .unset] [(.int 3), (.int 0)]))
  have b1 : (0 : Int32) < (3 : Int32) := by decide
  refine Way.by (fun _ k => XS.icmpNo X0.here hx rfl (hb hby dC510_7) rfl (tlt b1).2.1 k) ?_
  show Way _ _ _ _ (s₁.setTop (mkF m 10 #[rv pb, iv 0, rv pd, iv 0, iv 3, iv 0, .unset] []))
  refine Way.by (fun _ k => XS.aloadN X0.here hx rfl (hb hby dC510_10) rfl rfl k) ?_
  show Way _ _ _ _ (s₁.setTop (mkF m 11 #[rv pb, iv 0, rv pd, iv 0, iv 3, iv 0, .unset] [(.ref pb)]))
  refine Way.by (fun _ k => XS.iloadN X0.here hx rfl (hb hby dC510_11) rfl k) ?_
  show Way _ _ _ _ (s₁.setTop (mkF m 12 #[rv pb, iv 0, rv pd, iv 0, iv 3, iv 0, .unset] [(.int 0), (.ref pb)]))
  obtain ⟨c2, A3, q4, S5, M6, H7, U8⟩ := id H0
  refine Way.by (fun t k => Stand.caload X0 hx (hpE e0 A3.1) (arrS hZ A3) A3.2.2 (inb_of S5 ⟨(by decide), (by decide)⟩) (Has.at H7 (inb_of S5 ⟨(by decide), (by decide)⟩) rfl) (g := (mkF m 12 #[rv pb, iv 0, rv pd, iv 0, iv 3, iv 0, .unset] [(.int 0), (.ref pb)])) rfl rfl (hb hby dC510_12) t k) ?_
  show Way _ _ _ _ (s₁.setTop (mkF m 13 #[rv pb, iv 0, rv pd, iv 0, iv 3, iv 0, .unset] [(.int cc0)]))
  refine Way.by (fun _ k => XS.istore X0.here hx rfl (hb hby dC510_13) rfl (l' := #[rv pb, iv 0, rv pd, iv 0, iv 3, iv 0, iv cc0]) rfl k) ?_
  show Way _ _ _ _ (s₁.setTop (mkF m 15 #[rv pb, iv 0, rv pd, iv 0, iv 3, iv 0, iv cc0] []))
  refine Way.by (fun _ k => XS.iload X0.here hx rfl (hb hby dC510_15) rfl k) ?_
  show Way _ _ _ _ (s₁.setTop (mkF m 17 #[rv pb, iv 0, rv pd, iv 0, iv 3, iv 0, iv cc0] [(.int cc0)]))
  refine Way.by (fun _ k => XS.sipush X0.here hx rfl (hb hby dC510_17) k) ?_
  show Way _ _ _ _ (s₁.setTop (mkF m 20 #[rv pb, iv 0, rv pd, iv 0, iv 3, iv 0, iv cc0] [(.int 255), (.int cc0)]))
  have b9 : ¬ (255 : Int32) < cc0 := hc0
  refine Way.by (fun _ k => XS.icmpYes X0.here hx rfl (pc0 := 20) (pc' := 26) rfl (hb hby dC510_20) rfl (flt b9).2.2.2 (by decide) (by decide) k) ?_
  show Way _ _ _ _ (s₁.setTop (mkF m 26 #[rv pb, iv 0, rv pd, iv 0, iv 3, iv 0, iv cc0] []))
  refine Way.by (fun _ k => XS.aloadN X0.here hx rfl (hb hby dC521_26) rfl rfl k) ?_
  show Way _ _ _ _ (s₁.setTop (mkF m 27 #[rv pb, iv 0, rv pd, iv 0, iv 3, iv 0, iv cc0] [(.ref pd)]))
  refine Way.by (fun _ k => XS.iloadN X0.here hx rfl (hb hby dC521_27) rfl k) ?_
  show Way _ _ _ _ (s₁.setTop (mkF m 28 #[rv pb, iv 0, rv pd, iv 0, iv 3, iv 0, iv cc0] [(.int 0), (.ref pd)]))
  refine Way.by (fun _ k => XS.iload X0.here hx rfl (hb hby dC521_28) rfl k) ?_
  show Way _ _ _ _ (s₁.setTop (mkF m 30 #[rv pb, iv 0, rv pd, iv 0, iv 3, iv 0, iv cc0] [(.int cc0), (.int 0), (.ref pd)]))
  refine Way.by (fun _ k => XT.i2b X0.here hx rfl (hb hby dC521_30) rfl k) ?_
  show Way _ _ _ _ (s₁.setTop (mkF m 31 #[rv pb, iv 0, rv pd, iv 0, iv 3, iv 0, iv cc0] [(.int cc0.toInt8.toInt32), (.int 0), (.ref pd)]))
  have V10 : Arv Z h0 pd kd .byte (3 : Int32) [(.int 0)] (.int 0) := H1.pad (pad_rep [] (.int 0) 1)
  obtain ⟨c11, A12, q13, S14, M15, H16, U17⟩ := id V10
  obtain ⟨T18, h19, X20, e21, W22, st23⟩ := stB X0 hx hZ e0 A12 (j := (0 : Int32)) (inb_of S14 ⟨(by decide), (by decide)⟩) (g := (mkF m 31 #[rv pb, iv 0, rv pd, iv 0, iv 3, iv 0, iv cc0] [(.int cc0.toInt8.toInt32), (.int 0), (.ref pd)])) rfl rfl (hb hby dC521_31)
  have N24 := Fr.snoc X20 N0 nw_pd
  have V25 : Arv Z h19 pd kd .byte (3 : Int32) [(.int (nar .byte cc0.toInt8.toInt32))] (.int 0) := Arv.set A12 q13 S14 M15 H16 U17 (fits_nar_byte _) W22 0 rfl (leB rfl)
  have A26 := H0.other W22 ne_pb_pd
  have Z27 : n0 ≤ h19.size := by rw [W22.size]; exact Z0
  have K28 := (Keep.refl h0 [pd]).wr W22 (Or.inl (List.mem_of_getElem? (i := 0) rfl))
  have hz29 : h0.size ≤ h19.size := by rw [W22.size]; exact (Nat.le_refl h0.size)
  refine Way.by st23 ?_
  show Way _ _ _ _ (T18.setTop (mkF m 32 #[rv pb, iv 0, rv pd, iv 0, iv 3, iv 0, iv cc0] []))
  refine Way.by (fun _ k => XS.iinc X20.here hx rfl (hb hby dC521_32) rfl (l' := #[rv pb, iv 1, rv pd, iv 0, iv 3, iv 0, iv cc0]) rfl k) ?_
  show Way _ _ _ _ (T18.setTop (mkF m 35 #[rv pb, iv 1, rv pd, iv 0, iv 3, iv 0, iv cc0] []))
  refine Way.by (fun _ k => XS.iinc X20.here hx rfl (hb hby dC521_35) rfl (l' := #[rv pb, iv 1, rv pd, iv 1, iv 3, iv 0, iv cc0]) rfl k) ?_
  show Way _ _ _ _ (T18.setTop (mkF m 38 #[rv pb, iv 1, rv pd, iv 1, iv 3, iv 0, iv cc0] []))
  refine Way.by (fun _ k => XS.iinc X20.here hx rfl (hb hby dC521_38) rfl (l' := #[rv pb, iv 1, rv pd, iv 1, iv 3, iv 1, iv cc0]) rfl k) ?_
  show Way _ _ _ _ (T18.setTop (mkF m 41 #[rv pb, iv 1, rv pd, iv 1, iv 3, iv 1, iv cc0] []))
  refine Way.by (fun _ k => XS.goto X20.here hx rfl (pc0 := 41) (pc' := 3) rfl (hb hby dC521_41) (by decide) (by decide) k) ?_
  show Way _ _ _ _ (T18.setTop (mkF m 3 #[rv pb, iv 1, rv pd, iv 1, iv 3, iv 1, iv cc0] []))
  refine Way.by (fun _ k => XS.iload X20.here hx rfl (hb hby dC510_3) rfl k) ?_
  show Way _ _ _ _ (T18.setTop (mkF m 5 #[rv pb, iv 1, rv pd, iv 1, iv 3, iv 1, iv cc0] [(.int 1)]))
  refine Way.by (fun _ k => XS.iload X20.here hx rfl (hb hby dC510_5) rfl k) ?_
  show Way _ _ _ _ (T18.setTop (mkF m 7 #[rv pb, iv 1, rv pd, iv 1, iv 3, iv 1, iv cc0] [(.int 3), (.int 1)]))
  have b30 : (1 : Int32) < (3 : Int32) := by decide
  refine Way.by (fun _ k => XS.icmpNo X20.here hx rfl (hb hby dC510_7) rfl (tlt b30).2.1 k) ?_
  show Way _ _ _ _ (T18.setTop (mkF m 10 #[rv pb, iv 1, rv pd, iv 1, iv 3, iv 1, iv cc0] []))
  refine Way.by (fun _ k => XS.aloadN X20.here hx rfl (hb hby dC510_10) rfl rfl k) ?_
  show Way _ _ _ _ (T18.setTop (mkF m 11 #[rv pb, iv 1, rv pd, iv 1, iv 3, iv 1, iv cc0] [(.ref pb)]))
  refine Way.by (fun _ k => XS.iloadN X20.here hx rfl (hb hby dC510_11) rfl k) ?_
  show Way _ _ _ _ (T18.setTop (mkF m 12 #[rv pb, iv 1, rv pd, iv 1, iv 3, iv 1, iv cc0] [(.int 1), (.ref pb)]))
  obtain ⟨c31, A32, q33, S34, M35, H36, U37⟩ := id A26
  refine Way.by (fun t k => Stand.caload X20 hx (hpE e21 A32.1) (arrS hZ A32) A32.2.2 (inb_of S34 ⟨(by decide), (by decide)⟩) (Has.at H36 (inb_of S34 ⟨(by decide), (by decide)⟩) rfl) (g := (mkF m 12 #[rv pb, iv 1, rv pd, iv 1, iv 3, iv 1, iv cc0] [(.int 1), (.ref pb)])) rfl rfl (hb hby dC510_12) t k) ?_
  show Way _ _ _ _ (T18.setTop (mkF m 13 #[rv pb, iv 1, rv pd, iv 1, iv 3, iv 1, iv cc0] [(.int cc1)]))
  refine Way.by (fun _ k => XS.istore X20.here hx rfl (hb hby dC510_13) rfl (l' := #[rv pb, iv 1, rv pd, iv 1, iv 3, iv 1, iv cc1]) rfl k) ?_
  show Way _ _ _ _ (T18.setTop (mkF m 15 #[rv pb, iv 1, rv pd, iv 1, iv 3, iv 1, iv cc1] []))
  refine Way.by (fun _ k => XS.iload X20.here hx rfl (hb hby dC510_15) rfl k) ?_
  show Way _ _ _ _ (T18.setTop (mkF m 17 #[rv pb, iv 1, rv pd, iv 1, iv 3, iv 1, iv cc1] [(.int cc1)]))
  refine Way.by (fun _ k => XS.sipush X20.here hx rfl (hb hby dC510_17) k) ?_
  show Way _ _ _ _ (T18.setTop (mkF m 20 #[rv pb, iv 1, rv pd, iv 1, iv 3, iv 1, iv cc1] [(.int 255), (.int cc1)]))
  have b38 : (255 : Int32) < cc1 := hc1
  refine Way.by (fun _ k => XS.icmpNo X20.here hx rfl (hb hby dC510_20) rfl (tlt b38).2.2.2 k) ?_
  show Way _ _ _ _ (T18.setTop (mkF m 23 #[rv pb, iv 1, rv pd, iv 1, iv 3, iv 1, iv cc1] []))
  refine Way.by (fun _ k => XS.iload X20.here hx rfl (hb hby dC510_23) rfl k) ?_
  show Way _ _ _ _ (T18.setTop (mkF m 25 #[rv pb, iv 1, rv pd, iv 1, iv 3, iv 1, iv cc1] [(.int 1)]))
  refine Way.ret (v := (some (.int 1))) X20 hlk (fun h => by rw [Bd.returns] at h; cases h) (fun fs hr => retI X20 hx Bd.returns (hb hby dC510_25) hr) ?_ (by decide) (by decide)
  show QC531 Z pb kc pd kd cc0 cc1 cc2 h0 n0 _ T18.heap _
  rw [e21]
  exact ⟨rfl, N24, K28⟩
def QC532 (Z : State) (pb : Addr) (kc : ClassId) (pd : Addr) (kd : ClassId) (cc0 : Int32) (cc1 : Int32) (cc2 : Int32) (h0 : Heap) (n0 : Nat) (v : Option Value) (h : Heap) (L : List Loc) : Prop := v = some (.int 2) ∧ Fr n0 L ∧ Keep h0 h [pd]
set_option maxRecDepth 65536 in
set_option maxHeartbeats 40000000 in
theorem rmC532 (l : Launch) (Z : State) (a0 : Array Value) (hw : ∀ d ∈ tables_1, d.before a0 Z = true) (ws : List Jvm.Cond) (pb : Addr) (kc : ClassId) (pd : Addr) (kd : ClassId) (cc0 : Int32) (cc1 : Int32) (cc2 : Int32) (h0 : Heap) (n0 : Nat) (Z0 : n0 ≤ h0.size) (H0 : Arv Z h0 pb kc .char (3 : Int32) [(.int cc0), (.int cc1), (.int cc2)] (.int 0)) (H1 : Arv Z h0 pd kd .byte (3 : Int32) [] (.int 0)) (hc0 : ¬ (255 : Int32) < cc0) (hc1 : ¬ (255 : Int32) < cc1) (hc2 : (255 : Int32) < cc2) (ne_pb_pd : pb ≠ pd) (nw_pd : n0 ≤ pd) :
    MetFree l (⟨"java/lang/StringUTF16", "compress", "([CI[BII)I"⟩ : MethodName) (head1 (Jvm.Cond.code (⟨"java/lang/StringUTF16", "compress", "([CI[BII)I"⟩ : MethodName) jdk_52_method_21_code 7 (some .int) :: ws) ({ frames := 0, cells := 0, slots := 0, locals := 0 } : Room)) (fun aa U => aa = #[(.ref pb), (.int 0), (.ref pd), (.int 0), (.int 3)] ∧ Z.Warmed39 U.vm ∧ U.heap = h0) (fun _ _ _ _ _ => True) (fun _ U oo U' => ∃ v L, oo = .returned v ∧ QC532 Z pb kc pd kd cc0 cc1 cc2 h0 n0 v U'.heap L ∧ FrameEnd U oo U' L ({ frames := 0, cells := 0, slots := 0, locals := 0 } : Room).cells ({ frames := 0, cells := 0, slots := 0, locals := 0 } : Room).slots) := by
  refine MetFree.of_bodySF (plainFor_of_name pnGC) hisR ?_
  intro p e s m args below meth c s₁ Bd hml0 hP hK
  obtain ⟨rfl, hZ, hh⟩ := hP
  have hx := Bd.exec
  have hby := Bd.bytes
  have hlk : meth.locks = false := BodyLoose.notSynchronized Bd
  have hml : c.maxLocals = 7 := hml0
  have hown : s.vm.findClass "java/lang/StringUTF16" = some m.cls := findClass_of_methodNamed Bd.named
  have hnm := (name_of_methodNamed Bd.named Bd.method).1
  have X0 : Stand p l e ({ frames := 0, cells := 0, slots := 0, locals := 0 } : Room) s m #[(.ref pb), (.int 0), (.ref pd), (.int 0), (.int 3)] below meth c s₁ [] 0 0 := Stand.of_body Bd
  have e0 : s₁.heap = h0 := by rw [← hh, Bd.state]; rfl
  have N0 := Fr.nil n0
  have ef : entryFrame m #[(.ref pb), (.int 0), (.ref pd), (.int 0), (.int 3)] 7 = mkF m 0 #[rv pb, iv 0, rv pd, iv 0, iv 3, .unset, .unset] [] := by first | (simp [entryFrame, mkF, argsToLocals, Value.category, maxLocals]; done) | rfl
  show Way p.tables e below (KQ s (QC532 Z pb kc pd kd cc0 cc1 cc2 h0 n0) ({ frames := 0, cells := 0, slots := 0, locals := 0 } : Room).cells ({ frames := 0, cells := 0, slots := 0, locals := 0 } : Room).slots) (s₁.setTop (entryFrame m #[(.ref pb), (.int 0), (.ref pd), (.int 0), (.int 3)] 7))
  rw [ef]
  refine Way.by (fun _ k => XS.iconst X0.here hx rfl (hb hby dC510_0) k) ?_
  show Way _ _ _ _ (s₁.setTop (mkF m 1 #[rv pb, iv 0, rv pd, iv 0, iv 3, .unset, .unset] [(.int 0)]))
  refine Way.by (fun _ k => XS.istore X0.here hx rfl (hb hby dC510_1) rfl (l' := #[rv pb, iv 0, rv pd, iv 0, iv 3, iv 0, .unset]) rfl k) ?_
  show Way _ _ _ _ (s₁.setTop (mkF m 3 #[rv pb, iv 0, rv pd, iv 0, iv 3, iv 0, .unset] []))
  refine Way.by (fun _ k => XS.iload X0.here hx rfl (hb hby dC510_3) rfl k) ?_
  show Way _ _ _ _ (s₁.setTop (mkF m 5 #[rv pb, iv 0, rv pd, iv 0, iv 3, iv 0, .unset] [(.int 0)]))
  refine Way.by (fun _ k => XS.iload X0.here hx rfl (hb hby dC510_5) rfl k) ?_
  show Way _ _ _ _ (s₁.setTop (mkF m 7 #[rv pb, iv 0, rv pd, iv 0, iv 3, iv 0, .unset] [(.int 3), (.int 0)]))
  have b1 : (0 : Int32) < (3 : Int32) := by decide
  refine Way.by (fun _ k => XS.icmpNo X0.here hx rfl (hb hby dC510_7) rfl (tlt b1).2.1 k) ?_
  show Way _ _ _ _ (s₁.setTop (mkF m 10 #[rv pb, iv 0, rv pd, iv 0, iv 3, iv 0, .unset] []))
  refine Way.by (fun _ k => XS.aloadN X0.here hx rfl (hb hby dC510_10) rfl rfl k) ?_
  show Way _ _ _ _ (s₁.setTop (mkF m 11 #[rv pb, iv 0, rv pd, iv 0, iv 3, iv 0, .unset] [(.ref pb)]))
  refine Way.by (fun _ k => XS.iloadN X0.here hx rfl (hb hby dC510_11) rfl k) ?_
  show Way _ _ _ _ (s₁.setTop (mkF m 12 #[rv pb, iv 0, rv pd, iv 0, iv 3, iv 0, .unset] [(.int 0), (.ref pb)]))
  obtain ⟨c2, A3, q4, S5, M6, H7, U8⟩ := id H0
  refine Way.by (fun t k => Stand.caload X0 hx (hpE e0 A3.1) (arrS hZ A3) A3.2.2 (inb_of S5 ⟨(by decide), (by decide)⟩) (Has.at H7 (inb_of S5 ⟨(by decide), (by decide)⟩) rfl) (g := (mkF m 12 #[rv pb, iv 0, rv pd, iv 0, iv 3, iv 0, .unset] [(.int 0), (.ref pb)])) rfl rfl (hb hby dC510_12) t k) ?_
  show Way _ _ _ _ (s₁.setTop (mkF m 13 #[rv pb, iv 0, rv pd, iv 0, iv 3, iv 0, .unset] [(.int cc0)]))
  refine Way.by (fun _ k => XS.istore X0.here hx rfl (hb hby dC510_13) rfl (l' := #[rv pb, iv 0, rv pd, iv 0, iv 3, iv 0, iv cc0]) rfl k) ?_
  show Way _ _ _ _ (s₁.setTop (mkF m 15 #[rv pb, iv 0, rv pd, iv 0, iv 3, iv 0, iv cc0] []))
  refine Way.by (fun _ k => XS.iload X0.here hx rfl (hb hby dC510_15) rfl k) ?_
  show Way _ _ _ _ (s₁.setTop (mkF m 17 #[rv pb, iv 0, rv pd, iv 0, iv 3, iv 0, iv cc0] [(.int cc0)]))
  refine Way.by (fun _ k => XS.sipush X0.here hx rfl (hb hby dC510_17) k) ?_
  show Way _ _ _ _ (s₁.setTop (mkF m 20 #[rv pb, iv 0, rv pd, iv 0, iv 3, iv 0, iv cc0] [(.int 255), (.int cc0)]))
  have b9 : ¬ (255 : Int32) < cc0 := hc0
  refine Way.by (fun _ k => XS.icmpYes X0.here hx rfl (pc0 := 20) (pc' := 26) rfl (hb hby dC510_20) rfl (flt b9).2.2.2 (by decide) (by decide) k) ?_
  show Way _ _ _ _ (s₁.setTop (mkF m 26 #[rv pb, iv 0, rv pd, iv 0, iv 3, iv 0, iv cc0] []))
  refine Way.by (fun _ k => XS.aloadN X0.here hx rfl (hb hby dC521_26) rfl rfl k) ?_
  show Way _ _ _ _ (s₁.setTop (mkF m 27 #[rv pb, iv 0, rv pd, iv 0, iv 3, iv 0, iv cc0] [(.ref pd)]))
  refine Way.by (fun _ k => XS.iloadN X0.here hx rfl (hb hby dC521_27) rfl k) ?_
  show Way _ _ _ _ (s₁.setTop (mkF m 28 #[rv pb, iv 0, rv pd, iv 0, iv 3, iv 0, iv cc0] [(.int 0), (.ref pd)]))
  refine Way.by (fun _ k => XS.iload X0.here hx rfl (hb hby dC521_28) rfl k) ?_
  show Way _ _ _ _ (s₁.setTop (mkF m 30 #[rv pb, iv 0, rv pd, iv 0, iv 3, iv 0, iv cc0] [(.int cc0), (.int 0), (.ref pd)]))
  refine Way.by (fun _ k => XT.i2b X0.here hx rfl (hb hby dC521_30) rfl k) ?_
  show Way _ _ _ _ (s₁.setTop (mkF m 31 #[rv pb, iv 0, rv pd, iv 0, iv 3, iv 0, iv cc0] [(.int cc0.toInt8.toInt32), (.int 0), (.ref pd)]))
  have V10 : Arv Z h0 pd kd .byte (3 : Int32) [(.int 0)] (.int 0) := H1.pad (pad_rep [] (.int 0) 1)
  obtain ⟨c11, A12, q13, S14, M15, H16, U17⟩ := id V10
  obtain ⟨T18, h19, X20, e21, W22, st23⟩ := stB X0 hx hZ e0 A12 (j := (0 : Int32)) (inb_of S14 ⟨(by decide), (by decide)⟩) (g := (mkF m 31 #[rv pb, iv 0, rv pd, iv 0, iv 3, iv 0, iv cc0] [(.int cc0.toInt8.toInt32), (.int 0), (.ref pd)])) rfl rfl (hb hby dC521_31)
  have N24 := Fr.snoc X20 N0 nw_pd
  have V25 : Arv Z h19 pd kd .byte (3 : Int32) [(.int (nar .byte cc0.toInt8.toInt32))] (.int 0) := Arv.set A12 q13 S14 M15 H16 U17 (fits_nar_byte _) W22 0 rfl (leB rfl)
  have A26 := H0.other W22 ne_pb_pd
  have Z27 : n0 ≤ h19.size := by rw [W22.size]; exact Z0
  have K28 := (Keep.refl h0 [pd]).wr W22 (Or.inl (List.mem_of_getElem? (i := 0) rfl))
  have hz29 : h0.size ≤ h19.size := by rw [W22.size]; exact (Nat.le_refl h0.size)
  refine Way.by st23 ?_
  show Way _ _ _ _ (T18.setTop (mkF m 32 #[rv pb, iv 0, rv pd, iv 0, iv 3, iv 0, iv cc0] []))
  refine Way.by (fun _ k => XS.iinc X20.here hx rfl (hb hby dC521_32) rfl (l' := #[rv pb, iv 1, rv pd, iv 0, iv 3, iv 0, iv cc0]) rfl k) ?_
  show Way _ _ _ _ (T18.setTop (mkF m 35 #[rv pb, iv 1, rv pd, iv 0, iv 3, iv 0, iv cc0] []))
  refine Way.by (fun _ k => XS.iinc X20.here hx rfl (hb hby dC521_35) rfl (l' := #[rv pb, iv 1, rv pd, iv 1, iv 3, iv 0, iv cc0]) rfl k) ?_
  show Way _ _ _ _ (T18.setTop (mkF m 38 #[rv pb, iv 1, rv pd, iv 1, iv 3, iv 0, iv cc0] []))
  refine Way.by (fun _ k => XS.iinc X20.here hx rfl (hb hby dC521_38) rfl (l' := #[rv pb, iv 1, rv pd, iv 1, iv 3, iv 1, iv cc0]) rfl k) ?_
  show Way _ _ _ _ (T18.setTop (mkF m 41 #[rv pb, iv 1, rv pd, iv 1, iv 3, iv 1, iv cc0] []))
  refine Way.by (fun _ k => XS.goto X20.here hx rfl (pc0 := 41) (pc' := 3) rfl (hb hby dC521_41) (by decide) (by decide) k) ?_
  show Way _ _ _ _ (T18.setTop (mkF m 3 #[rv pb, iv 1, rv pd, iv 1, iv 3, iv 1, iv cc0] []))
  refine Way.by (fun _ k => XS.iload X20.here hx rfl (hb hby dC510_3) rfl k) ?_
  show Way _ _ _ _ (T18.setTop (mkF m 5 #[rv pb, iv 1, rv pd, iv 1, iv 3, iv 1, iv cc0] [(.int 1)]))
  refine Way.by (fun _ k => XS.iload X20.here hx rfl (hb hby dC510_5) rfl k) ?_
  show Way _ _ _ _ (T18.setTop (mkF m 7 #[rv pb, iv 1, rv pd, iv 1, iv 3, iv 1, iv cc0] [(.int 3), (.int 1)]))
  have b30 : (1 : Int32) < (3 : Int32) := by decide
  refine Way.by (fun _ k => XS.icmpNo X20.here hx rfl (hb hby dC510_7) rfl (tlt b30).2.1 k) ?_
  show Way _ _ _ _ (T18.setTop (mkF m 10 #[rv pb, iv 1, rv pd, iv 1, iv 3, iv 1, iv cc0] []))
  refine Way.by (fun _ k => XS.aloadN X20.here hx rfl (hb hby dC510_10) rfl rfl k) ?_
  show Way _ _ _ _ (T18.setTop (mkF m 11 #[rv pb, iv 1, rv pd, iv 1, iv 3, iv 1, iv cc0] [(.ref pb)]))
  refine Way.by (fun _ k => XS.iloadN X20.here hx rfl (hb hby dC510_11) rfl k) ?_
  show Way _ _ _ _ (T18.setTop (mkF m 12 #[rv pb, iv 1, rv pd, iv 1, iv 3, iv 1, iv cc0] [(.int 1), (.ref pb)]))
  obtain ⟨c31, A32, q33, S34, M35, H36, U37⟩ := id A26
  refine Way.by (fun t k => Stand.caload X20 hx (hpE e21 A32.1) (arrS hZ A32) A32.2.2 (inb_of S34 ⟨(by decide), (by decide)⟩) (Has.at H36 (inb_of S34 ⟨(by decide), (by decide)⟩) rfl) (g := (mkF m 12 #[rv pb, iv 1, rv pd, iv 1, iv 3, iv 1, iv cc0] [(.int 1), (.ref pb)])) rfl rfl (hb hby dC510_12) t k) ?_
  show Way _ _ _ _ (T18.setTop (mkF m 13 #[rv pb, iv 1, rv pd, iv 1, iv 3, iv 1, iv cc0] [(.int cc1)]))
  refine Way.by (fun _ k => XS.istore X20.here hx rfl (hb hby dC510_13) rfl (l' := #[rv pb, iv 1, rv pd, iv 1, iv 3, iv 1, iv cc1]) rfl k) ?_
  show Way _ _ _ _ (T18.setTop (mkF m 15 #[rv pb, iv 1, rv pd, iv 1, iv 3, iv 1, iv cc1] []))
  refine Way.by (fun _ k => XS.iload X20.here hx rfl (hb hby dC510_15) rfl k) ?_
  show Way _ _ _ _ (T18.setTop (mkF m 17 #[rv pb, iv 1, rv pd, iv 1, iv 3, iv 1, iv cc1] [(.int cc1)]))
  refine Way.by (fun _ k => XS.sipush X20.here hx rfl (hb hby dC510_17) k) ?_
  show Way _ _ _ _ (T18.setTop (mkF m 20 #[rv pb, iv 1, rv pd, iv 1, iv 3, iv 1, iv cc1] [(.int 255), (.int cc1)]))
  have b38 : ¬ (255 : Int32) < cc1 := hc1
  refine Way.by (fun _ k => XS.icmpYes X20.here hx rfl (pc0 := 20) (pc' := 26) rfl (hb hby dC510_20) rfl (flt b38).2.2.2 (by decide) (by decide) k) ?_
  show Way _ _ _ _ (T18.setTop (mkF m 26 #[rv pb, iv 1, rv pd, iv 1, iv 3, iv 1, iv cc1] []))
  refine Way.by (fun _ k => XS.aloadN X20.here hx rfl (hb hby dC521_26) rfl rfl k) ?_
  show Way _ _ _ _ (T18.setTop (mkF m 27 #[rv pb, iv 1, rv pd, iv 1, iv 3, iv 1, iv cc1] [(.ref pd)]))
  refine Way.by (fun _ k => XS.iloadN X20.here hx rfl (hb hby dC521_27) rfl k) ?_
  show Way _ _ _ _ (T18.setTop (mkF m 28 #[rv pb, iv 1, rv pd, iv 1, iv 3, iv 1, iv cc1] [(.int 1), (.ref pd)]))
  refine Way.by (fun _ k => XS.iload X20.here hx rfl (hb hby dC521_28) rfl k) ?_
  show Way _ _ _ _ (T18.setTop (mkF m 30 #[rv pb, iv 1, rv pd, iv 1, iv 3, iv 1, iv cc1] [(.int cc1), (.int 1), (.ref pd)]))
  refine Way.by (fun _ k => XT.i2b X20.here hx rfl (hb hby dC521_30) rfl k) ?_
  show Way _ _ _ _ (T18.setTop (mkF m 31 #[rv pb, iv 1, rv pd, iv 1, iv 3, iv 1, iv cc1] [(.int cc1.toInt8.toInt32), (.int 1), (.ref pd)]))
  have V39 : Arv Z h19 pd kd .byte (3 : Int32) [(.int (nar .byte cc0.toInt8.toInt32)), (.int 0)] (.int 0) := V25.pad (pad_rep [(.int (nar .byte cc0.toInt8.toInt32))] (.int 0) 1)
  obtain ⟨c40, A41, q42, S43, M44, H45, U46⟩ := id V39
  obtain ⟨T47, h48, X49, e50, W51, st52⟩ := stB X20 hx hZ e21 A41 (j := (1 : Int32)) (inb_of S43 ⟨(by decide), (by decide)⟩) (g := (mkF m 31 #[rv pb, iv 1, rv pd, iv 1, iv 3, iv 1, iv cc1] [(.int cc1.toInt8.toInt32), (.int 1), (.ref pd)])) rfl rfl (hb hby dC521_31)
  have N53 := Fr.snoc X49 N24 nw_pd
  have V54 : Arv Z h48 pd kd .byte (3 : Int32) [(.int (nar .byte cc0.toInt8.toInt32)), (.int (nar .byte cc1.toInt8.toInt32))] (.int 0) := Arv.set A41 q42 S43 M44 H45 U46 (fits_nar_byte _) W51 1 rfl (leB rfl)
  have A55 := A26.other W51 ne_pb_pd
  have Z56 : n0 ≤ h48.size := by rw [W51.size]; exact Z27
  have K57 := K28.wr W51 (Or.inl (List.mem_of_getElem? (i := 0) rfl))
  have hz58 : h0.size ≤ h48.size := by rw [W51.size]; exact hz29
  refine Way.by st52 ?_
  show Way _ _ _ _ (T47.setTop (mkF m 32 #[rv pb, iv 1, rv pd, iv 1, iv 3, iv 1, iv cc1] []))
  refine Way.by (fun _ k => XS.iinc X49.here hx rfl (hb hby dC521_32) rfl (l' := #[rv pb, iv 2, rv pd, iv 1, iv 3, iv 1, iv cc1]) rfl k) ?_
  show Way _ _ _ _ (T47.setTop (mkF m 35 #[rv pb, iv 2, rv pd, iv 1, iv 3, iv 1, iv cc1] []))
  refine Way.by (fun _ k => XS.iinc X49.here hx rfl (hb hby dC521_35) rfl (l' := #[rv pb, iv 2, rv pd, iv 2, iv 3, iv 1, iv cc1]) rfl k) ?_
  show Way _ _ _ _ (T47.setTop (mkF m 38 #[rv pb, iv 2, rv pd, iv 2, iv 3, iv 1, iv cc1] []))
  refine Way.by (fun _ k => XS.iinc X49.here hx rfl (hb hby dC521_38) rfl (l' := #[rv pb, iv 2, rv pd, iv 2, iv 3, iv 2, iv cc1]) rfl k) ?_
  show Way _ _ _ _ (T47.setTop (mkF m 41 #[rv pb, iv 2, rv pd, iv 2, iv 3, iv 2, iv cc1] []))
  refine Way.by (fun _ k => XS.goto X49.here hx rfl (pc0 := 41) (pc' := 3) rfl (hb hby dC521_41) (by decide) (by decide) k) ?_
  show Way _ _ _ _ (T47.setTop (mkF m 3 #[rv pb, iv 2, rv pd, iv 2, iv 3, iv 2, iv cc1] []))
  refine Way.by (fun _ k => XS.iload X49.here hx rfl (hb hby dC510_3) rfl k) ?_
  show Way _ _ _ _ (T47.setTop (mkF m 5 #[rv pb, iv 2, rv pd, iv 2, iv 3, iv 2, iv cc1] [(.int 2)]))
  refine Way.by (fun _ k => XS.iload X49.here hx rfl (hb hby dC510_5) rfl k) ?_
  show Way _ _ _ _ (T47.setTop (mkF m 7 #[rv pb, iv 2, rv pd, iv 2, iv 3, iv 2, iv cc1] [(.int 3), (.int 2)]))
  have b59 : (2 : Int32) < (3 : Int32) := by decide
  refine Way.by (fun _ k => XS.icmpNo X49.here hx rfl (hb hby dC510_7) rfl (tlt b59).2.1 k) ?_
  show Way _ _ _ _ (T47.setTop (mkF m 10 #[rv pb, iv 2, rv pd, iv 2, iv 3, iv 2, iv cc1] []))
  refine Way.by (fun _ k => XS.aloadN X49.here hx rfl (hb hby dC510_10) rfl rfl k) ?_
  show Way _ _ _ _ (T47.setTop (mkF m 11 #[rv pb, iv 2, rv pd, iv 2, iv 3, iv 2, iv cc1] [(.ref pb)]))
  refine Way.by (fun _ k => XS.iloadN X49.here hx rfl (hb hby dC510_11) rfl k) ?_
  show Way _ _ _ _ (T47.setTop (mkF m 12 #[rv pb, iv 2, rv pd, iv 2, iv 3, iv 2, iv cc1] [(.int 2), (.ref pb)]))
  obtain ⟨c60, A61, q62, S63, M64, H65, U66⟩ := id A55
  refine Way.by (fun t k => Stand.caload X49 hx (hpE e50 A61.1) (arrS hZ A61) A61.2.2 (inb_of S63 ⟨(by decide), (by decide)⟩) (Has.at H65 (inb_of S63 ⟨(by decide), (by decide)⟩) rfl) (g := (mkF m 12 #[rv pb, iv 2, rv pd, iv 2, iv 3, iv 2, iv cc1] [(.int 2), (.ref pb)])) rfl rfl (hb hby dC510_12) t k) ?_
  show Way _ _ _ _ (T47.setTop (mkF m 13 #[rv pb, iv 2, rv pd, iv 2, iv 3, iv 2, iv cc1] [(.int cc2)]))
  refine Way.by (fun _ k => XS.istore X49.here hx rfl (hb hby dC510_13) rfl (l' := #[rv pb, iv 2, rv pd, iv 2, iv 3, iv 2, iv cc2]) rfl k) ?_
  show Way _ _ _ _ (T47.setTop (mkF m 15 #[rv pb, iv 2, rv pd, iv 2, iv 3, iv 2, iv cc2] []))
  refine Way.by (fun _ k => XS.iload X49.here hx rfl (hb hby dC510_15) rfl k) ?_
  show Way _ _ _ _ (T47.setTop (mkF m 17 #[rv pb, iv 2, rv pd, iv 2, iv 3, iv 2, iv cc2] [(.int cc2)]))
  refine Way.by (fun _ k => XS.sipush X49.here hx rfl (hb hby dC510_17) k) ?_
  show Way _ _ _ _ (T47.setTop (mkF m 20 #[rv pb, iv 2, rv pd, iv 2, iv 3, iv 2, iv cc2] [(.int 255), (.int cc2)]))
  have b67 : (255 : Int32) < cc2 := hc2
  refine Way.by (fun _ k => XS.icmpNo X49.here hx rfl (hb hby dC510_20) rfl (tlt b67).2.2.2 k) ?_
  show Way _ _ _ _ (T47.setTop (mkF m 23 #[rv pb, iv 2, rv pd, iv 2, iv 3, iv 2, iv cc2] []))
  refine Way.by (fun _ k => XS.iload X49.here hx rfl (hb hby dC510_23) rfl k) ?_
  show Way _ _ _ _ (T47.setTop (mkF m 25 #[rv pb, iv 2, rv pd, iv 2, iv 3, iv 2, iv cc2] [(.int 2)]))
  refine Way.ret (v := (some (.int 2))) X49 hlk (fun h => by rw [Bd.returns] at h; cases h) (fun fs hr => retI X49 hx Bd.returns (hb hby dC510_25) hr) ?_ (by decide) (by decide)
  show QC532 Z pb kc pd kd cc0 cc1 cc2 h0 n0 _ T47.heap _
  rw [e50]
  exact ⟨rfl, N53, K57⟩
def QNL3 (Z : State)  (h0 : Heap) (n0 : Nat) (v : Option Value) (h : Heap) (L : List Loc) : Prop := v = some (.int 6) ∧ Fr n0 L ∧ h = h0
set_option maxRecDepth 65536 in
set_option maxHeartbeats 40000000 in
theorem rmNL3 (l : Launch) (Z : State) (a0 : Array Value) (hw : ∀ d ∈ tables_1, d.before a0 Z = true) (ws : List Jvm.Cond)  (h0 : Heap) (n0 : Nat) (Z0 : n0 ≤ h0.size)  :
    MetFree l (⟨"java/lang/StringUTF16", "newBytesLength", "(I)I"⟩ : MethodName) (head1 (Jvm.Cond.code (⟨"java/lang/StringUTF16", "newBytesLength", "(I)I"⟩ : MethodName) jdk_52_method_3_code 1 (some .int) :: ws) ({ frames := 0, cells := 0, slots := 0, locals := 0 } : Room)) (fun aa U => aa = #[(.int 3)] ∧ Z.Warmed39 U.vm ∧ U.heap = h0) (fun _ _ _ _ _ => True) (fun _ U oo U' => ∃ v L, oo = .returned v ∧ QNL3 Z  h0 n0 v U'.heap L ∧ FrameEnd U oo U' L ({ frames := 0, cells := 0, slots := 0, locals := 0 } : Room).cells ({ frames := 0, cells := 0, slots := 0, locals := 0 } : Room).slots) := by
  refine MetFree.of_bodySF (plainFor_of_name pnGC) hisR ?_
  intro p e s m args below meth c s₁ Bd hml0 hP hK
  obtain ⟨rfl, hZ, hh⟩ := hP
  have hx := Bd.exec
  have hby := Bd.bytes
  have hlk : meth.locks = false := BodyLoose.notSynchronized Bd
  have hml : c.maxLocals = 1 := hml0
  have hown : s.vm.findClass "java/lang/StringUTF16" = some m.cls := findClass_of_methodNamed Bd.named
  have hnm := (name_of_methodNamed Bd.named Bd.method).1
  have X0 : Stand p l e ({ frames := 0, cells := 0, slots := 0, locals := 0 } : Room) s m #[(.int 3)] below meth c s₁ [] 0 0 := Stand.of_body Bd
  have e0 : s₁.heap = h0 := by rw [← hh, Bd.state]; rfl
  have N0 := Fr.nil n0
  have ef : entryFrame m #[(.int 3)] 1 = mkF m 0 #[iv 3] [] := by first | (simp [entryFrame, mkF, argsToLocals, Value.category, maxLocals]; done) | rfl
  show Way p.tables e below (KQ s (QNL3 Z  h0 n0) ({ frames := 0, cells := 0, slots := 0, locals := 0 } : Room).cells ({ frames := 0, cells := 0, slots := 0, locals := 0 } : Room).slots) (s₁.setTop (entryFrame m #[(.int 3)] 1))
  rw [ef]
  refine Way.by (fun _ k => XS.iloadN X0.here hx rfl (hb hby dNL1_0) rfl k) ?_
  show Way _ _ _ _ (s₁.setTop (mkF m 1 #[iv 3] [(.int 3)]))
  have b1 : ¬ (3 : Int32) < (0 : Int32) := by decide
  refine Way.by (fun _ k => XS.ifYes X0.here hx rfl (pc0 := 1) (pc' := 12) rfl (hb hby dNL1_1) rfl ((if0 .ge _).trans (flt b1).2.1) (by decide) (by decide) k) ?_
  show Way _ _ _ _ (s₁.setTop (mkF m 12 #[iv 3] []))
  refine Way.by (fun _ k => XS.iloadN X0.here hx rfl (hb hby dNL1_12) rfl k) ?_
  show Way _ _ _ _ (s₁.setTop (mkF m 13 #[iv 3] [(.int 3)]))
  refine Way.by (Stand.ldcInt X0 hx hown (mvT hZ (tw hw 95 rfl)) rfl (hb hby dNL1_13)) ?_
  show Way _ _ _ _ (s₁.setTop (mkF m 15 #[iv 3] [(.int 1073741823), (.int 3)]))
  have b2 : (3 : Int32) < (1073741823 : Int32) := by decide
  refine Way.by (fun _ k => XS.icmpYes X0.here hx rfl (pc0 := 15) (pc' := 55) rfl (hb hby dNL1_15) rfl (tlt b2).1 (by decide) (by decide) k) ?_
  show Way _ _ _ _ (s₁.setTop (mkF m 55 #[iv 3] []))
  refine Way.by (fun _ k => XS.iloadN X0.here hx rfl (hb hby dNL1_55) rfl k) ?_
  show Way _ _ _ _ (s₁.setTop (mkF m 56 #[iv 3] [(.int 3)]))
  refine Way.by (fun _ k => XS.iconst X0.here hx rfl (hb hby dNL1_56) k) ?_
  show Way _ _ _ _ (s₁.setTop (mkF m 57 #[iv 3] [(.int 1), (.int 3)]))
  refine Way.by (fun _ k => XT.ishl X0.here hx rfl (hb hby dNL1_57) rfl k) ?_
  show Way _ _ _ _ (s₁.setTop (mkF m 58 #[iv 3] [(.int 6)]))
  refine Way.ret (v := (some (.int 6))) X0 hlk (fun h => by rw [Bd.returns] at h; cases h) (fun fs hr => retI X0 hx Bd.returns (hb hby dNL1_58) hr) ?_ (by decide) (by decide)
  show QNL3 Z  h0 n0 _ s₁.heap _
  rw [e0]
  exact ⟨rfl, N0, rfl⟩
def QNF3 (Z : State)  (h0 : Heap) (n0 : Nat) (v : Option Value) (h : Heap) (L : List Loc) : Prop := ∃ (pe : Addr) (kk : ClassId), v = some (.ref pe) ∧ Fr n0 L ∧ Keep h0 h [] ∧ h0.size ≤ pe ∧ Arv Z h pe kk .byte (6 : Int32) [] (.int 0)
set_option maxRecDepth 65536 in
set_option maxHeartbeats 40000000 in
theorem rmNF3 (l : Launch) (Z : State) (a0 : Array Value) (hw : ∀ d ∈ tables_1, d.before a0 Z = true) (ws : List Jvm.Cond)  (h0 : Heap) (n0 : Nat) (Z0 : n0 ≤ h0.size)  :
    MetFree l (⟨"java/lang/StringUTF16", "newBytesFor", "(I)[B"⟩ : MethodName) (head1 (Jvm.Cond.code (⟨"java/lang/StringUTF16", "newBytesFor", "(I)[B"⟩ : MethodName) jdk_52_method_2_code 1 (some (.array .byte)) :: ws) ({ frames := 1, cells := 1, slots := 6, locals := 12 } : Room)) (fun aa U => aa = #[(.int 3)] ∧ Z.Warmed39 U.vm ∧ U.heap = h0) (fun _ _ _ _ _ => True) (fun _ U oo U' => ∃ v L, oo = .returned v ∧ QNF3 Z  h0 n0 v U'.heap L ∧ FrameEnd U oo U' L ({ frames := 1, cells := 1, slots := 6, locals := 12 } : Room).cells ({ frames := 1, cells := 1, slots := 6, locals := 12 } : Room).slots) := by
  refine MetFree.of_bodySF (plainFor_of_name pnGC) hisR ?_
  intro p e s m args below meth c s₁ Bd hml0 hP hK
  obtain ⟨rfl, hZ, hh⟩ := hP
  have hx := Bd.exec
  have hby := Bd.bytes
  have hlk : meth.locks = false := BodyLoose.notSynchronized Bd
  have hml : c.maxLocals = 1 := hml0
  have hown : s.vm.findClass "java/lang/StringUTF16" = some m.cls := findClass_of_methodNamed Bd.named
  have hnm := (name_of_methodNamed Bd.named Bd.method).1
  have X0 : Stand p l e ({ frames := 1, cells := 1, slots := 6, locals := 12 } : Room) s m #[(.int 3)] below meth c s₁ [] 0 0 := Stand.of_body Bd
  have e0 : s₁.heap = h0 := by rw [← hh, Bd.state]; rfl
  have N0 := Fr.nil n0
  have ef : entryFrame m #[(.int 3)] 1 = mkF m 0 #[iv 3] [] := by first | (simp [entryFrame, mkF, argsToLocals, Value.category, maxLocals]; done) | rfl
  show Way p.tables e below (KQ s (QNF3 Z  h0 n0) ({ frames := 1, cells := 1, slots := 6, locals := 12 } : Room).cells ({ frames := 1, cells := 1, slots := 6, locals := 12 } : Room).slots) (s₁.setTop (entryFrame m #[(.int 3)] 1))
  rw [ef]
  refine Way.by (fun _ k => XS.iloadN X0.here hx rfl (hb hby dNF1_0) rfl k) ?_
  show Way _ _ _ _ (s₁.setTop (mkF m 1 #[iv 3] [(.int 3)]))
  obtain ⟨_, _, ⟨T1, L3, k4, n5⟩, -, X2, ⟨Lc6, hQ7, l8, y9, z10⟩, st11⟩ := Jvm.LawKit.callS X0 hx (y := (⟨"java/lang/StringUTF16", "newBytesLength", "(I)I"⟩ : MethodName)) hown (mvT hZ (tw hw 92 rfl)) (mvT hZ (tw hw 93 rfl)) (mvT hZ (tw hw 72 rfl)) (mvT hZ (tw hw 94 rfl)) (by decide) (backOf (W := 0) (rmNL3 l Z a0 hw []  h0 n0 Z0 ) hZ (tw hw 94 rfl) (tw hw 72 rfl) (by decide) (by decide)) (g := (mkF m 1 #[iv 3] [(.int 3)])) rfl (by rw [hml]; rfl) (argsL := [(.int 3)]) (rest := []) (lenOf pdX1 rfl) rfl (leW rfl) (hb hby dNF1_1) (fun _ _ => ⟨rfl, e0, (leB rfl), (leB rfl)⟩)
  dsimp only [Pt.U, Pt.locs, Pt.cells, Pt.slots] at X2 l8 y9 z10 st11 hQ7
  subst l8 y9 z10
  obtain ⟨rfl, N17, e13⟩ := hQ7
  have N12 := Fr.app N0 N17
  refine Way.by st11 ?_
  show Way _ _ _ _ (T1.setTop (mkF m 4 #[iv 3] [(.int 6)]))
  obtain ⟨T19, h20, kc21, X22, e23, E24, A25, st26⟩ := newP X2 hx hZ (tw hw 19 rfl) e13 (g := (mkF m 4 #[iv 3] [(.int 6)])) rfl (hb hby dNF1_4) rfl (by decide) (cap := 6) (by decide) (by decide) (by decide) (by decide)
  obtain ⟨a27, g28⟩ : ∃ z, z = h0.size := ⟨_, rfl⟩
  rw [← g28] at A25 st26
  have nw30 : n0 ≤ a27 := Nat.le_trans Z0 (Nat.le_of_eq g28.symm)
  have hk31 : h0.size ≤ a27 := Nat.le_trans (Nat.le_refl h0.size) (Nat.le_of_eq g28.symm)
  have Z32 := Nat.le_trans Z0 E24.1
  have K33 := (Keep.refl h0 []).ext E24
  have hz34 := Nat.le_trans (Nat.le_refl h0.size) E24.1
  have V29 : Arv Z h20 a27 kc21 .byte (6 : Int32) [] (.int 0) := Arv.new A25 (by decide)
  refine Way.by st26 ?_
  show Way _ _ _ _ (T19.setTop (mkF m 6 #[iv 3] [(.ref a27)]))
  refine Way.ret (v := (some (.ref a27))) X22 hlk (fun h => by rw [Bd.returns] at h; cases h) (fun fs hr => retOut X22 hx Bd.returns rfl (Or.inr (Or.inr (Or.inr (Or.inr ⟨rfl, rfl, rfl⟩)))) (hb hby dNF1_6) hr) ?_ (by decide) (by decide)
  show QNF3 Z  h0 n0 _ T19.heap _
  rw [e23]
  exact ⟨a27, kc21, rfl, N12, K33, hk31, V29⟩
def QPC30 (Z : State) (pe : Addr) (kk : ClassId) (cc0 : Int32) (h0 : Heap) (n0 : Nat) (v : Option Value) (h : Heap) (L : List Loc) : Prop := v = none ∧ Fr n0 L ∧ Keep h0 h [pe] ∧ Arv Z h pe kk .byte (6 : Int32) [(.int (StrChars.lo8 cc0)), (.int (StrChars.hi8 cc0))] (.int 0)
set_option maxRecDepth 65536 in
set_option maxHeartbeats 40000000 in
theorem rmPC30 (l : Launch) (Z : State) (a0 : Array Value) (hw : ∀ d ∈ tables_1, d.before a0 Z = true) (ws : List Jvm.Cond) (pe : Addr) (kk : ClassId) (cc0 : Int32) (h0 : Heap) (n0 : Nat) (Z0 : n0 ≤ h0.size) (H0 : Arv Z h0 pe kk .byte (6 : Int32) [] (.int 0)) (nw_pe : n0 ≤ pe) (O0 : Old Z n0 h0) (SV : own_Env Z) (SU : own_U16 Z) :
    MetFree l (⟨"java/lang/StringUTF16", "putChar", "([BII)V"⟩ : MethodName) (head1 (Jvm.Cond.code (⟨"java/lang/StringUTF16", "putChar", "([BII)V"⟩ : MethodName) jdk_52_method_4_code 3 none :: ws) ({ frames := 0, cells := 0, slots := 0, locals := 0 } : Room)) (fun aa U => aa = #[(.ref pe), (.int 0), (.int cc0)] ∧ Z.Warmed39 U.vm ∧ U.heap = h0) (fun _ _ _ _ _ => True) (fun _ U oo U' => ∃ v L, oo = .returned v ∧ QPC30 Z pe kk cc0 h0 n0 v U'.heap L ∧ FrameEnd U oo U' L ({ frames := 0, cells := 0, slots := 0, locals := 0 } : Room).cells ({ frames := 0, cells := 0, slots := 0, locals := 0 } : Room).slots) := by
  refine MetFree.of_bodySF (plainFor_of_name pnGC) hisR ?_
  intro p e s m args below meth c s₁ Bd hml0 hP hK
  obtain ⟨rfl, hZ, hh⟩ := hP
  have hx := Bd.exec
  have hby := Bd.bytes
  have hlk : meth.locks = false := BodyLoose.notSynchronized Bd
  have hml : c.maxLocals = 3 := hml0
  have hown : s.vm.findClass "java/lang/StringUTF16" = some m.cls := findClass_of_methodNamed Bd.named
  have hnm := (name_of_methodNamed Bd.named Bd.method).1
  have X0 : Stand p l e ({ frames := 0, cells := 0, slots := 0, locals := 0 } : Room) s m #[(.ref pe), (.int 0), (.int cc0)] below meth c s₁ [] 0 0 := Stand.of_body Bd
  have e0 : s₁.heap = h0 := by rw [← hh, Bd.state]; rfl
  have N0 := Fr.nil n0
  have ef : entryFrame m #[(.ref pe), (.int 0), (.int cc0)] 3 = mkF m 0 #[rv pe, iv 0, iv cc0] [] := by first | (simp [entryFrame, mkF, argsToLocals, Value.category, maxLocals]; done) | rfl
  show Way p.tables e below (KQ s (QPC30 Z pe kk cc0 h0 n0) ({ frames := 0, cells := 0, slots := 0, locals := 0 } : Room).cells ({ frames := 0, cells := 0, slots := 0, locals := 0 } : Room).slots) (s₁.setTop (entryFrame m #[(.ref pe), (.int 0), (.int cc0)] 3))
  rw [ef]
  obtain ⟨T1, X2, e3, st4⟩ := getS X0 hx hZ hown (host := "") (tw hw 99 rfl) Via.refl e0 (Sta.ext O0.2 SU.1) (g := (mkF m 0 #[rv pe, iv 0, iv cc0] [])) rfl (hb hby dPC10_0)
  refine Way.by st4 ?_
  show Way _ _ _ _ (T1.setTop (mkF m 3 #[rv pe, iv 0, iv cc0] [(.int 1)]))
  have b5 : ¬ (1 : Int32) = (0 : Int32) := by decide
  refine Way.by (fun _ k => XS.ifYes X2.here hx rfl (pc0 := 3) (pc' := 28) rfl (hb hby dPC10_3) rfl ((if0 .ne _).trans (feq b5).2) (by decide) (by decide) k) ?_
  show Way _ _ _ _ (T1.setTop (mkF m 28 #[rv pe, iv 0, iv cc0] []))
  refine Way.by (fun _ k => XS.iloadN X2.here hx rfl (hb hby dPC10_28) rfl k) ?_
  show Way _ _ _ _ (T1.setTop (mkF m 29 #[rv pe, iv 0, iv cc0] [(.int 0)]))
  refine Way.by (fun _ k => XS.iconst X2.here hx rfl (hb hby dPC10_29) k) ?_
  show Way _ _ _ _ (T1.setTop (mkF m 30 #[rv pe, iv 0, iv cc0] [(.int 1), (.int 0)]))
  refine Way.by (fun _ k => XT.ishl X2.here hx rfl (hb hby dPC10_30) rfl k) ?_
  show Way _ _ _ _ (T1.setTop (mkF m 31 #[rv pe, iv 0, iv cc0] [(.int 0)]))
  refine Way.by (fun _ k => XS.istoreN X2.here hx rfl (hb hby dPC10_31) rfl (l' := #[rv pe, iv 0, iv cc0]) rfl k) ?_
  show Way _ _ _ _ (T1.setTop (mkF m 32 #[rv pe, iv 0, iv cc0] []))
  refine Way.by (fun _ k => XS.aloadN X2.here hx rfl (hb hby dPC10_32) rfl rfl k) ?_
  show Way _ _ _ _ (T1.setTop (mkF m 33 #[rv pe, iv 0, iv cc0] [(.ref pe)]))
  refine Way.by (fun _ k => XS.iloadN X2.here hx rfl (hb hby dPC10_33) rfl k) ?_
  show Way _ _ _ _ (T1.setTop (mkF m 34 #[rv pe, iv 0, iv cc0] [(.int 0), (.ref pe)]))
  refine Way.by (fun _ k => XS.iinc X2.here hx rfl (hb hby dPC10_34) rfl (l' := #[rv pe, iv 1, iv cc0]) rfl k) ?_
  show Way _ _ _ _ (T1.setTop (mkF m 37 #[rv pe, iv 1, iv cc0] [(.int 0), (.ref pe)]))
  refine Way.by (fun _ k => XS.iloadN X2.here hx rfl (hb hby dPC10_37) rfl k) ?_
  show Way _ _ _ _ (T1.setTop (mkF m 38 #[rv pe, iv 1, iv cc0] [(.int cc0), (.int 0), (.ref pe)]))
  obtain ⟨T6, X7, e8, st9⟩ := getS X2 hx hZ hown (host := "") (tw hw 100 rfl) Via.refl e3 (Sta.ext O0.2 SU.2.1) (g := (mkF m 38 #[rv pe, iv 1, iv cc0] [(.int cc0), (.int 0), (.ref pe)])) rfl (hb hby dPC10_38)
  refine Way.by st9 ?_
  show Way _ _ _ _ (T6.setTop (mkF m 41 #[rv pe, iv 1, iv cc0] [(.int 0), (.int cc0), (.int 0), (.ref pe)]))
  refine Way.by (fun _ k => XT.ishr X7.here hx rfl (hb hby dPC10_41) rfl k) ?_
  show Way _ _ _ _ (T6.setTop (mkF m 42 #[rv pe, iv 1, iv cc0] [(.int (cc0 >>> ((0 : Int32) &&& 31))), (.int 0), (.ref pe)]))
  refine Way.by (fun _ k => XT.i2b X7.here hx rfl (hb hby dPC10_42) rfl k) ?_
  show Way _ _ _ _ (T6.setTop (mkF m 43 #[rv pe, iv 1, iv cc0] [(.int (cc0 >>> ((0 : Int32) &&& 31)).toInt8.toInt32), (.int 0), (.ref pe)]))
  have V10 : Arv Z h0 pe kk .byte (6 : Int32) [(.int 0)] (.int 0) := H0.pad (pad_rep [] (.int 0) 1)
  obtain ⟨c11, A12, q13, S14, M15, H16, U17⟩ := id V10
  obtain ⟨T18, h19, X20, e21, W22, st23⟩ := stB X7 hx hZ e8 A12 (j := (0 : Int32)) (inb_of S14 ⟨(by decide), (by decide)⟩) (g := (mkF m 43 #[rv pe, iv 1, iv cc0] [(.int (cc0 >>> ((0 : Int32) &&& 31)).toInt8.toInt32), (.int 0), (.ref pe)])) rfl rfl (hb hby dPC10_43)
  have N24 := Fr.snoc X20 N0 nw_pe
  have V25 : Arv Z h19 pe kk .byte (6 : Int32) [(.int (nar .byte (cc0 >>> ((0 : Int32) &&& 31)).toInt8.toInt32))] (.int 0) := Arv.set A12 q13 S14 M15 H16 U17 (fits_nar_byte _) W22 0 rfl (leB rfl)
  have Z26 : n0 ≤ h19.size := by rw [W22.size]; exact Z0
  have O27 := O0.wr W22 nw_pe
  have K28 := (Keep.refl h0 [pe]).wr W22 (Or.inl (List.mem_of_getElem? (i := 0) rfl))
  have hz29 : h0.size ≤ h19.size := by rw [W22.size]; exact (Nat.le_refl h0.size)
  refine Way.by st23 ?_
  show Way _ _ _ _ (T18.setTop (mkF m 44 #[rv pe, iv 1, iv cc0] []))
  refine Way.by (fun _ k => XS.aloadN X20.here hx rfl (hb hby dPC10_44) rfl rfl k) ?_
  show Way _ _ _ _ (T18.setTop (mkF m 45 #[rv pe, iv 1, iv cc0] [(.ref pe)]))
  refine Way.by (fun _ k => XS.iloadN X20.here hx rfl (hb hby dPC10_45) rfl k) ?_
  show Way _ _ _ _ (T18.setTop (mkF m 46 #[rv pe, iv 1, iv cc0] [(.int 1), (.ref pe)]))
  refine Way.by (fun _ k => XS.iloadN X20.here hx rfl (hb hby dPC10_46) rfl k) ?_
  show Way _ _ _ _ (T18.setTop (mkF m 47 #[rv pe, iv 1, iv cc0] [(.int cc0), (.int 1), (.ref pe)]))
  obtain ⟨T30, X31, e32, st33⟩ := getS X20 hx hZ hown (host := "") (tw hw 101 rfl) Via.refl e21 (Sta.ext O27.2 SU.2.2) (g := (mkF m 47 #[rv pe, iv 1, iv cc0] [(.int cc0), (.int 1), (.ref pe)])) rfl (hb hby dPC10_47)
  refine Way.by st33 ?_
  show Way _ _ _ _ (T30.setTop (mkF m 50 #[rv pe, iv 1, iv cc0] [(.int 8), (.int cc0), (.int 1), (.ref pe)]))
  refine Way.by (fun _ k => XT.ishr X31.here hx rfl (hb hby dPC10_50) rfl k) ?_
  show Way _ _ _ _ (T30.setTop (mkF m 51 #[rv pe, iv 1, iv cc0] [(.int (cc0 >>> ((8 : Int32) &&& 31))), (.int 1), (.ref pe)]))
  refine Way.by (fun _ k => XT.i2b X31.here hx rfl (hb hby dPC10_51) rfl k) ?_
  show Way _ _ _ _ (T30.setTop (mkF m 52 #[rv pe, iv 1, iv cc0] [(.int (cc0 >>> ((8 : Int32) &&& 31)).toInt8.toInt32), (.int 1), (.ref pe)]))
  have V34 : Arv Z h19 pe kk .byte (6 : Int32) [(.int (nar .byte (cc0 >>> ((0 : Int32) &&& 31)).toInt8.toInt32)), (.int 0)] (.int 0) := V25.pad (pad_rep [(.int (nar .byte (cc0 >>> ((0 : Int32) &&& 31)).toInt8.toInt32))] (.int 0) 1)
  obtain ⟨c35, A36, q37, S38, M39, H40, U41⟩ := id V34
  obtain ⟨T42, h43, X44, e45, W46, st47⟩ := stB X31 hx hZ e32 A36 (j := (1 : Int32)) (inb_of S38 ⟨(by decide), (by decide)⟩) (g := (mkF m 52 #[rv pe, iv 1, iv cc0] [(.int (cc0 >>> ((8 : Int32) &&& 31)).toInt8.toInt32), (.int 1), (.ref pe)])) rfl rfl (hb hby dPC10_52)
  have N48 := Fr.snoc X44 N24 nw_pe
  have V49 : Arv Z h43 pe kk .byte (6 : Int32) [(.int (nar .byte (cc0 >>> ((0 : Int32) &&& 31)).toInt8.toInt32)), (.int (nar .byte (cc0 >>> ((8 : Int32) &&& 31)).toInt8.toInt32))] (.int 0) := Arv.set A36 q37 S38 M39 H40 U41 (fits_nar_byte _) W46 1 rfl (leB rfl)
  have Z50 : n0 ≤ h43.size := by rw [W46.size]; exact Z26
  have O51 := O27.wr W46 nw_pe
  have K52 := K28.wr W46 (Or.inl (List.mem_of_getElem? (i := 0) rfl))
  have hz53 : h0.size ≤ h43.size := by rw [W46.size]; exact hz29
  refine Way.by st47 ?_
  show Way _ _ _ _ (T42.setTop (mkF m 53 #[rv pe, iv 1, iv cc0] []))
  refine Way.ret (v := none) X44 hlk (fun _ => rfl) (fun fs hr => X44.returnOut hx Bd.returns (hb hby dPC10_53) hr) ?_ (by decide) (by decide)
  show QPC30 Z pe kk cc0 h0 n0 _ T42.heap _
  rw [e45]
  have AF : Arv Z h43 pe kk .byte (6 : Int32) [(.int (StrChars.lo8 cc0)), (.int (StrChars.hi8 cc0))] (.int 0) := by have q := V49; rw [own_nb0 cc0, own_nb8 cc0] at q; exact q
  exact ⟨rfl, N48, K52, AF⟩
def QPC31 (Z : State) (pe : Addr) (kk : ClassId) (cc0 : Int32) (cc1 : Int32) (h0 : Heap) (n0 : Nat) (v : Option Value) (h : Heap) (L : List Loc) : Prop := v = none ∧ Fr n0 L ∧ Keep h0 h [pe] ∧ Arv Z h pe kk .byte (6 : Int32) [(.int (StrChars.lo8 cc0)), (.int (StrChars.hi8 cc0)), (.int (StrChars.lo8 cc1)), (.int (StrChars.hi8 cc1))] (.int 0)
set_option maxRecDepth 65536 in
set_option maxHeartbeats 40000000 in
theorem rmPC31 (l : Launch) (Z : State) (a0 : Array Value) (hw : ∀ d ∈ tables_1, d.before a0 Z = true) (ws : List Jvm.Cond) (pe : Addr) (kk : ClassId) (cc0 : Int32) (cc1 : Int32) (h0 : Heap) (n0 : Nat) (Z0 : n0 ≤ h0.size) (H0 : Arv Z h0 pe kk .byte (6 : Int32) [(.int (StrChars.lo8 cc0)), (.int (StrChars.hi8 cc0))] (.int 0)) (nw_pe : n0 ≤ pe) (O0 : Old Z n0 h0) (SV : own_Env Z) (SU : own_U16 Z) :
    MetFree l (⟨"java/lang/StringUTF16", "putChar", "([BII)V"⟩ : MethodName) (head1 (Jvm.Cond.code (⟨"java/lang/StringUTF16", "putChar", "([BII)V"⟩ : MethodName) jdk_52_method_4_code 3 none :: ws) ({ frames := 0, cells := 0, slots := 0, locals := 0 } : Room)) (fun aa U => aa = #[(.ref pe), (.int 1), (.int cc1)] ∧ Z.Warmed39 U.vm ∧ U.heap = h0) (fun _ _ _ _ _ => True) (fun _ U oo U' => ∃ v L, oo = .returned v ∧ QPC31 Z pe kk cc0 cc1 h0 n0 v U'.heap L ∧ FrameEnd U oo U' L ({ frames := 0, cells := 0, slots := 0, locals := 0 } : Room).cells ({ frames := 0, cells := 0, slots := 0, locals := 0 } : Room).slots) := by
  refine MetFree.of_bodySF (plainFor_of_name pnGC) hisR ?_
  intro p e s m args below meth c s₁ Bd hml0 hP hK
  obtain ⟨rfl, hZ, hh⟩ := hP
  have hx := Bd.exec
  have hby := Bd.bytes
  have hlk : meth.locks = false := BodyLoose.notSynchronized Bd
  have hml : c.maxLocals = 3 := hml0
  have hown : s.vm.findClass "java/lang/StringUTF16" = some m.cls := findClass_of_methodNamed Bd.named
  have hnm := (name_of_methodNamed Bd.named Bd.method).1
  have X0 : Stand p l e ({ frames := 0, cells := 0, slots := 0, locals := 0 } : Room) s m #[(.ref pe), (.int 1), (.int cc1)] below meth c s₁ [] 0 0 := Stand.of_body Bd
  have e0 : s₁.heap = h0 := by rw [← hh, Bd.state]; rfl
  have N0 := Fr.nil n0
  have ef : entryFrame m #[(.ref pe), (.int 1), (.int cc1)] 3 = mkF m 0 #[rv pe, iv 1, iv cc1] [] := by first | (simp [entryFrame, mkF, argsToLocals, Value.category, maxLocals]; done) | rfl
  show Way p.tables e below (KQ s (QPC31 Z pe kk cc0 cc1 h0 n0) ({ frames := 0, cells := 0, slots := 0, locals := 0 } : Room).cells ({ frames := 0, cells := 0, slots := 0, locals := 0 } : Room).slots) (s₁.setTop (entryFrame m #[(.ref pe), (.int 1), (.int cc1)] 3))
  rw [ef]
  obtain ⟨T1, X2, e3, st4⟩ := getS X0 hx hZ hown (host := "") (tw hw 99 rfl) Via.refl e0 (Sta.ext O0.2 SU.1) (g := (mkF m 0 #[rv pe, iv 1, iv cc1] [])) rfl (hb hby dPC10_0)
  refine Way.by st4 ?_
  show Way _ _ _ _ (T1.setTop (mkF m 3 #[rv pe, iv 1, iv cc1] [(.int 1)]))
  have b5 : ¬ (1 : Int32) = (0 : Int32) := by decide
  refine Way.by (fun _ k => XS.ifYes X2.here hx rfl (pc0 := 3) (pc' := 28) rfl (hb hby dPC10_3) rfl ((if0 .ne _).trans (feq b5).2) (by decide) (by decide) k) ?_
  show Way _ _ _ _ (T1.setTop (mkF m 28 #[rv pe, iv 1, iv cc1] []))
  refine Way.by (fun _ k => XS.iloadN X2.here hx rfl (hb hby dPC10_28) rfl k) ?_
  show Way _ _ _ _ (T1.setTop (mkF m 29 #[rv pe, iv 1, iv cc1] [(.int 1)]))
  refine Way.by (fun _ k => XS.iconst X2.here hx rfl (hb hby dPC10_29) k) ?_
  show Way _ _ _ _ (T1.setTop (mkF m 30 #[rv pe, iv 1, iv cc1] [(.int 1), (.int 1)]))
  refine Way.by (fun _ k => XT.ishl X2.here hx rfl (hb hby dPC10_30) rfl k) ?_
  show Way _ _ _ _ (T1.setTop (mkF m 31 #[rv pe, iv 1, iv cc1] [(.int 2)]))
  refine Way.by (fun _ k => XS.istoreN X2.here hx rfl (hb hby dPC10_31) rfl (l' := #[rv pe, iv 2, iv cc1]) rfl k) ?_
  show Way _ _ _ _ (T1.setTop (mkF m 32 #[rv pe, iv 2, iv cc1] []))
  refine Way.by (fun _ k => XS.aloadN X2.here hx rfl (hb hby dPC10_32) rfl rfl k) ?_
  show Way _ _ _ _ (T1.setTop (mkF m 33 #[rv pe, iv 2, iv cc1] [(.ref pe)]))
  refine Way.by (fun _ k => XS.iloadN X2.here hx rfl (hb hby dPC10_33) rfl k) ?_
  show Way _ _ _ _ (T1.setTop (mkF m 34 #[rv pe, iv 2, iv cc1] [(.int 2), (.ref pe)]))
  refine Way.by (fun _ k => XS.iinc X2.here hx rfl (hb hby dPC10_34) rfl (l' := #[rv pe, iv 3, iv cc1]) rfl k) ?_
  show Way _ _ _ _ (T1.setTop (mkF m 37 #[rv pe, iv 3, iv cc1] [(.int 2), (.ref pe)]))
  refine Way.by (fun _ k => XS.iloadN X2.here hx rfl (hb hby dPC10_37) rfl k) ?_
  show Way _ _ _ _ (T1.setTop (mkF m 38 #[rv pe, iv 3, iv cc1] [(.int cc1), (.int 2), (.ref pe)]))
  obtain ⟨T6, X7, e8, st9⟩ := getS X2 hx hZ hown (host := "") (tw hw 100 rfl) Via.refl e3 (Sta.ext O0.2 SU.2.1) (g := (mkF m 38 #[rv pe, iv 3, iv cc1] [(.int cc1), (.int 2), (.ref pe)])) rfl (hb hby dPC10_38)
  refine Way.by st9 ?_
  show Way _ _ _ _ (T6.setTop (mkF m 41 #[rv pe, iv 3, iv cc1] [(.int 0), (.int cc1), (.int 2), (.ref pe)]))
  refine Way.by (fun _ k => XT.ishr X7.here hx rfl (hb hby dPC10_41) rfl k) ?_
  show Way _ _ _ _ (T6.setTop (mkF m 42 #[rv pe, iv 3, iv cc1] [(.int (cc1 >>> ((0 : Int32) &&& 31))), (.int 2), (.ref pe)]))
  refine Way.by (fun _ k => XT.i2b X7.here hx rfl (hb hby dPC10_42) rfl k) ?_
  show Way _ _ _ _ (T6.setTop (mkF m 43 #[rv pe, iv 3, iv cc1] [(.int (cc1 >>> ((0 : Int32) &&& 31)).toInt8.toInt32), (.int 2), (.ref pe)]))
  have V10 : Arv Z h0 pe kk .byte (6 : Int32) [(.int (StrChars.lo8 cc0)), (.int (StrChars.hi8 cc0)), (.int 0)] (.int 0) := H0.pad (pad_rep [(.int (StrChars.lo8 cc0)), (.int (StrChars.hi8 cc0))] (.int 0) 1)
  obtain ⟨c11, A12, q13, S14, M15, H16, U17⟩ := id V10
  obtain ⟨T18, h19, X20, e21, W22, st23⟩ := stB X7 hx hZ e8 A12 (j := (2 : Int32)) (inb_of S14 ⟨(by decide), (by decide)⟩) (g := (mkF m 43 #[rv pe, iv 3, iv cc1] [(.int (cc1 >>> ((0 : Int32) &&& 31)).toInt8.toInt32), (.int 2), (.ref pe)])) rfl rfl (hb hby dPC10_43)
  have N24 := Fr.snoc X20 N0 nw_pe
  have V25 : Arv Z h19 pe kk .byte (6 : Int32) [(.int (StrChars.lo8 cc0)), (.int (StrChars.hi8 cc0)), (.int (nar .byte (cc1 >>> ((0 : Int32) &&& 31)).toInt8.toInt32))] (.int 0) := Arv.set A12 q13 S14 M15 H16 U17 (fits_nar_byte _) W22 2 rfl (leB rfl)
  have Z26 : n0 ≤ h19.size := by rw [W22.size]; exact Z0
  have O27 := O0.wr W22 nw_pe
  have K28 := (Keep.refl h0 [pe]).wr W22 (Or.inl (List.mem_of_getElem? (i := 0) rfl))
  have hz29 : h0.size ≤ h19.size := by rw [W22.size]; exact (Nat.le_refl h0.size)
  refine Way.by st23 ?_
  show Way _ _ _ _ (T18.setTop (mkF m 44 #[rv pe, iv 3, iv cc1] []))
  refine Way.by (fun _ k => XS.aloadN X20.here hx rfl (hb hby dPC10_44) rfl rfl k) ?_
  show Way _ _ _ _ (T18.setTop (mkF m 45 #[rv pe, iv 3, iv cc1] [(.ref pe)]))
  refine Way.by (fun _ k => XS.iloadN X20.here hx rfl (hb hby dPC10_45) rfl k) ?_
  show Way _ _ _ _ (T18.setTop (mkF m 46 #[rv pe, iv 3, iv cc1] [(.int 3), (.ref pe)]))
  refine Way.by (fun _ k => XS.iloadN X20.here hx rfl (hb hby dPC10_46) rfl k) ?_
  show Way _ _ _ _ (T18.setTop (mkF m 47 #[rv pe, iv 3, iv cc1] [(.int cc1), (.int 3), (.ref pe)]))
  obtain ⟨T30, X31, e32, st33⟩ := getS X20 hx hZ hown (host := "") (tw hw 101 rfl) Via.refl e21 (Sta.ext O27.2 SU.2.2) (g := (mkF m 47 #[rv pe, iv 3, iv cc1] [(.int cc1), (.int 3), (.ref pe)])) rfl (hb hby dPC10_47)
  refine Way.by st33 ?_
  show Way _ _ _ _ (T30.setTop (mkF m 50 #[rv pe, iv 3, iv cc1] [(.int 8), (.int cc1), (.int 3), (.ref pe)]))
  refine Way.by (fun _ k => XT.ishr X31.here hx rfl (hb hby dPC10_50) rfl k) ?_
  show Way _ _ _ _ (T30.setTop (mkF m 51 #[rv pe, iv 3, iv cc1] [(.int (cc1 >>> ((8 : Int32) &&& 31))), (.int 3), (.ref pe)]))
  refine Way.by (fun _ k => XT.i2b X31.here hx rfl (hb hby dPC10_51) rfl k) ?_
  show Way _ _ _ _ (T30.setTop (mkF m 52 #[rv pe, iv 3, iv cc1] [(.int (cc1 >>> ((8 : Int32) &&& 31)).toInt8.toInt32), (.int 3), (.ref pe)]))
  have V34 : Arv Z h19 pe kk .byte (6 : Int32) [(.int (StrChars.lo8 cc0)), (.int (StrChars.hi8 cc0)), (.int (nar .byte (cc1 >>> ((0 : Int32) &&& 31)).toInt8.toInt32)), (.int 0)] (.int 0) := V25.pad (pad_rep [(.int (StrChars.lo8 cc0)), (.int (StrChars.hi8 cc0)), (.int (nar .byte (cc1 >>> ((0 : Int32) &&& 31)).toInt8.toInt32))] (.int 0) 1)
  obtain ⟨c35, A36, q37, S38, M39, H40, U41⟩ := id V34
  obtain ⟨T42, h43, X44, e45, W46, st47⟩ := stB X31 hx hZ e32 A36 (j := (3 : Int32)) (inb_of S38 ⟨(by decide), (by decide)⟩) (g := (mkF m 52 #[rv pe, iv 3, iv cc1] [(.int (cc1 >>> ((8 : Int32) &&& 31)).toInt8.toInt32), (.int 3), (.ref pe)])) rfl rfl (hb hby dPC10_52)
  have N48 := Fr.snoc X44 N24 nw_pe
  have V49 : Arv Z h43 pe kk .byte (6 : Int32) [(.int (StrChars.lo8 cc0)), (.int (StrChars.hi8 cc0)), (.int (nar .byte (cc1 >>> ((0 : Int32) &&& 31)).toInt8.toInt32)), (.int (nar .byte (cc1 >>> ((8 : Int32) &&& 31)).toInt8.toInt32))] (.int 0) := Arv.set A36 q37 S38 M39 H40 U41 (fits_nar_byte _) W46 3 rfl (leB rfl)
  have Z50 : n0 ≤ h43.size := by rw [W46.size]; exact Z26
  have O51 := O27.wr W46 nw_pe
  have K52 := K28.wr W46 (Or.inl (List.mem_of_getElem? (i := 0) rfl))
  have hz53 : h0.size ≤ h43.size := by rw [W46.size]; exact hz29
  refine Way.by st47 ?_
  show Way _ _ _ _ (T42.setTop (mkF m 53 #[rv pe, iv 3, iv cc1] []))
  refine Way.ret (v := none) X44 hlk (fun _ => rfl) (fun fs hr => X44.returnOut hx Bd.returns (hb hby dPC10_53) hr) ?_ (by decide) (by decide)
  show QPC31 Z pe kk cc0 cc1 h0 n0 _ T42.heap _
  rw [e45]
  have AF : Arv Z h43 pe kk .byte (6 : Int32) [(.int (StrChars.lo8 cc0)), (.int (StrChars.hi8 cc0)), (.int (StrChars.lo8 cc1)), (.int (StrChars.hi8 cc1))] (.int 0) := by have q := V49; rw [own_nb0 cc1, own_nb8 cc1] at q; exact q
  exact ⟨rfl, N48, K52, AF⟩
def QPC32 (Z : State) (pe : Addr) (kk : ClassId) (cc0 : Int32) (cc1 : Int32) (cc2 : Int32) (h0 : Heap) (n0 : Nat) (v : Option Value) (h : Heap) (L : List Loc) : Prop := v = none ∧ Fr n0 L ∧ Keep h0 h [pe] ∧ Arv Z h pe kk .byte (6 : Int32) [(.int (StrChars.lo8 cc0)), (.int (StrChars.hi8 cc0)), (.int (StrChars.lo8 cc1)), (.int (StrChars.hi8 cc1)), (.int (StrChars.lo8 cc2)), (.int (StrChars.hi8 cc2))] (.int 0)
set_option maxRecDepth 65536 in
set_option maxHeartbeats 40000000 in
theorem rmPC32 (l : Launch) (Z : State) (a0 : Array Value) (hw : ∀ d ∈ tables_1, d.before a0 Z = true) (ws : List Jvm.Cond) (pe : Addr) (kk : ClassId) (cc0 : Int32) (cc1 : Int32) (cc2 : Int32) (h0 : Heap) (n0 : Nat) (Z0 : n0 ≤ h0.size) (H0 : Arv Z h0 pe kk .byte (6 : Int32) [(.int (StrChars.lo8 cc0)), (.int (StrChars.hi8 cc0)), (.int (StrChars.lo8 cc1)), (.int (StrChars.hi8 cc1))] (.int 0)) (nw_pe : n0 ≤ pe) (O0 : Old Z n0 h0) (SV : own_Env Z) (SU : own_U16 Z) :
    MetFree l (⟨"java/lang/StringUTF16", "putChar", "([BII)V"⟩ : MethodName) (head1 (Jvm.Cond.code (⟨"java/lang/StringUTF16", "putChar", "([BII)V"⟩ : MethodName) jdk_52_method_4_code 3 none :: ws) ({ frames := 0, cells := 0, slots := 0, locals := 0 } : Room)) (fun aa U => aa = #[(.ref pe), (.int 2), (.int cc2)] ∧ Z.Warmed39 U.vm ∧ U.heap = h0) (fun _ _ _ _ _ => True) (fun _ U oo U' => ∃ v L, oo = .returned v ∧ QPC32 Z pe kk cc0 cc1 cc2 h0 n0 v U'.heap L ∧ FrameEnd U oo U' L ({ frames := 0, cells := 0, slots := 0, locals := 0 } : Room).cells ({ frames := 0, cells := 0, slots := 0, locals := 0 } : Room).slots) := by
  refine MetFree.of_bodySF (plainFor_of_name pnGC) hisR ?_
  intro p e s m args below meth c s₁ Bd hml0 hP hK
  obtain ⟨rfl, hZ, hh⟩ := hP
  have hx := Bd.exec
  have hby := Bd.bytes
  have hlk : meth.locks = false := BodyLoose.notSynchronized Bd
  have hml : c.maxLocals = 3 := hml0
  have hown : s.vm.findClass "java/lang/StringUTF16" = some m.cls := findClass_of_methodNamed Bd.named
  have hnm := (name_of_methodNamed Bd.named Bd.method).1
  have X0 : Stand p l e ({ frames := 0, cells := 0, slots := 0, locals := 0 } : Room) s m #[(.ref pe), (.int 2), (.int cc2)] below meth c s₁ [] 0 0 := Stand.of_body Bd
  have e0 : s₁.heap = h0 := by rw [← hh, Bd.state]; rfl
  have N0 := Fr.nil n0
  have ef : entryFrame m #[(.ref pe), (.int 2), (.int cc2)] 3 = mkF m 0 #[rv pe, iv 2, iv cc2] [] := by first | (simp [entryFrame, mkF, argsToLocals, Value.category, maxLocals]; done) | rfl
  show Way p.tables e below (KQ s (QPC32 Z pe kk cc0 cc1 cc2 h0 n0) ({ frames := 0, cells := 0, slots := 0, locals := 0 } : Room).cells ({ frames := 0, cells := 0, slots := 0, locals := 0 } : Room).slots) (s₁.setTop (entryFrame m #[(.ref pe), (.int 2), (.int cc2)] 3))
  rw [ef]
  obtain ⟨T1, X2, e3, st4⟩ := getS X0 hx hZ hown (host := "") (tw hw 99 rfl) Via.refl e0 (Sta.ext O0.2 SU.1) (g := (mkF m 0 #[rv pe, iv 2, iv cc2] [])) rfl (hb hby dPC10_0)
  refine Way.by st4 ?_
  show Way _ _ _ _ (T1.setTop (mkF m 3 #[rv pe, iv 2, iv cc2] [(.int 1)]))
  have b5 : ¬ (1 : Int32) = (0 : Int32) := by decide
  refine Way.by (fun _ k => XS.ifYes X2.here hx rfl (pc0 := 3) (pc' := 28) rfl (hb hby dPC10_3) rfl ((if0 .ne _).trans (feq b5).2) (by decide) (by decide) k) ?_
  show Way _ _ _ _ (T1.setTop (mkF m 28 #[rv pe, iv 2, iv cc2] []))
  refine Way.by (fun _ k => XS.iloadN X2.here hx rfl (hb hby dPC10_28) rfl k) ?_
  show Way _ _ _ _ (T1.setTop (mkF m 29 #[rv pe, iv 2, iv cc2] [(.int 2)]))
  refine Way.by (fun _ k => XS.iconst X2.here hx rfl (hb hby dPC10_29) k) ?_
  show Way _ _ _ _ (T1.setTop (mkF m 30 #[rv pe, iv 2, iv cc2] [(.int 1), (.int 2)]))
  refine Way.by (fun _ k => XT.ishl X2.here hx rfl (hb hby dPC10_30) rfl k) ?_
  show Way _ _ _ _ (T1.setTop (mkF m 31 #[rv pe, iv 2, iv cc2] [(.int 4)]))
  refine Way.by (fun _ k => XS.istoreN X2.here hx rfl (hb hby dPC10_31) rfl (l' := #[rv pe, iv 4, iv cc2]) rfl k) ?_
  show Way _ _ _ _ (T1.setTop (mkF m 32 #[rv pe, iv 4, iv cc2] []))
  refine Way.by (fun _ k => XS.aloadN X2.here hx rfl (hb hby dPC10_32) rfl rfl k) ?_
  show Way _ _ _ _ (T1.setTop (mkF m 33 #[rv pe, iv 4, iv cc2] [(.ref pe)]))
  refine Way.by (fun _ k => XS.iloadN X2.here hx rfl (hb hby dPC10_33) rfl k) ?_
  show Way _ _ _ _ (T1.setTop (mkF m 34 #[rv pe, iv 4, iv cc2] [(.int 4), (.ref pe)]))
  refine Way.by (fun _ k => XS.iinc X2.here hx rfl (hb hby dPC10_34) rfl (l' := #[rv pe, iv 5, iv cc2]) rfl k) ?_
  show Way _ _ _ _ (T1.setTop (mkF m 37 #[rv pe, iv 5, iv cc2] [(.int 4), (.ref pe)]))
  refine Way.by (fun _ k => XS.iloadN X2.here hx rfl (hb hby dPC10_37) rfl k) ?_
  show Way _ _ _ _ (T1.setTop (mkF m 38 #[rv pe, iv 5, iv cc2] [(.int cc2), (.int 4), (.ref pe)]))
  obtain ⟨T6, X7, e8, st9⟩ := getS X2 hx hZ hown (host := "") (tw hw 100 rfl) Via.refl e3 (Sta.ext O0.2 SU.2.1) (g := (mkF m 38 #[rv pe, iv 5, iv cc2] [(.int cc2), (.int 4), (.ref pe)])) rfl (hb hby dPC10_38)
  refine Way.by st9 ?_
  show Way _ _ _ _ (T6.setTop (mkF m 41 #[rv pe, iv 5, iv cc2] [(.int 0), (.int cc2), (.int 4), (.ref pe)]))
  refine Way.by (fun _ k => XT.ishr X7.here hx rfl (hb hby dPC10_41) rfl k) ?_
  show Way _ _ _ _ (T6.setTop (mkF m 42 #[rv pe, iv 5, iv cc2] [(.int (cc2 >>> ((0 : Int32) &&& 31))), (.int 4), (.ref pe)]))
  refine Way.by (fun _ k => XT.i2b X7.here hx rfl (hb hby dPC10_42) rfl k) ?_
  show Way _ _ _ _ (T6.setTop (mkF m 43 #[rv pe, iv 5, iv cc2] [(.int (cc2 >>> ((0 : Int32) &&& 31)).toInt8.toInt32), (.int 4), (.ref pe)]))
  have V10 : Arv Z h0 pe kk .byte (6 : Int32) [(.int (StrChars.lo8 cc0)), (.int (StrChars.hi8 cc0)), (.int (StrChars.lo8 cc1)), (.int (StrChars.hi8 cc1)), (.int 0)] (.int 0) := H0.pad (pad_rep [(.int (StrChars.lo8 cc0)), (.int (StrChars.hi8 cc0)), (.int (StrChars.lo8 cc1)), (.int (StrChars.hi8 cc1))] (.int 0) 1)
  obtain ⟨c11, A12, q13, S14, M15, H16, U17⟩ := id V10
  obtain ⟨T18, h19, X20, e21, W22, st23⟩ := stB X7 hx hZ e8 A12 (j := (4 : Int32)) (inb_of S14 ⟨(by decide), (by decide)⟩) (g := (mkF m 43 #[rv pe, iv 5, iv cc2] [(.int (cc2 >>> ((0 : Int32) &&& 31)).toInt8.toInt32), (.int 4), (.ref pe)])) rfl rfl (hb hby dPC10_43)
  have N24 := Fr.snoc X20 N0 nw_pe
  have V25 : Arv Z h19 pe kk .byte (6 : Int32) [(.int (StrChars.lo8 cc0)), (.int (StrChars.hi8 cc0)), (.int (StrChars.lo8 cc1)), (.int (StrChars.hi8 cc1)), (.int (nar .byte (cc2 >>> ((0 : Int32) &&& 31)).toInt8.toInt32))] (.int 0) := Arv.set A12 q13 S14 M15 H16 U17 (fits_nar_byte _) W22 4 rfl (leB rfl)
  have Z26 : n0 ≤ h19.size := by rw [W22.size]; exact Z0
  have O27 := O0.wr W22 nw_pe
  have K28 := (Keep.refl h0 [pe]).wr W22 (Or.inl (List.mem_of_getElem? (i := 0) rfl))
  have hz29 : h0.size ≤ h19.size := by rw [W22.size]; exact (Nat.le_refl h0.size)
  refine Way.by st23 ?_
  show Way _ _ _ _ (T18.setTop (mkF m 44 #[rv pe, iv 5, iv cc2] []))
  refine Way.by (fun _ k => XS.aloadN X20.here hx rfl (hb hby dPC10_44) rfl rfl k) ?_
  show Way _ _ _ _ (T18.setTop (mkF m 45 #[rv pe, iv 5, iv cc2] [(.ref pe)]))
  refine Way.by (fun _ k => XS.iloadN X20.here hx rfl (hb hby dPC10_45) rfl k) ?_
  show Way _ _ _ _ (T18.setTop (mkF m 46 #[rv pe, iv 5, iv cc2] [(.int 5), (.ref pe)]))
  refine Way.by (fun _ k => XS.iloadN X20.here hx rfl (hb hby dPC10_46) rfl k) ?_
  show Way _ _ _ _ (T18.setTop (mkF m 47 #[rv pe, iv 5, iv cc2] [(.int cc2), (.int 5), (.ref pe)]))
  obtain ⟨T30, X31, e32, st33⟩ := getS X20 hx hZ hown (host := "") (tw hw 101 rfl) Via.refl e21 (Sta.ext O27.2 SU.2.2) (g := (mkF m 47 #[rv pe, iv 5, iv cc2] [(.int cc2), (.int 5), (.ref pe)])) rfl (hb hby dPC10_47)
  refine Way.by st33 ?_
  show Way _ _ _ _ (T30.setTop (mkF m 50 #[rv pe, iv 5, iv cc2] [(.int 8), (.int cc2), (.int 5), (.ref pe)]))
  refine Way.by (fun _ k => XT.ishr X31.here hx rfl (hb hby dPC10_50) rfl k) ?_
  show Way _ _ _ _ (T30.setTop (mkF m 51 #[rv pe, iv 5, iv cc2] [(.int (cc2 >>> ((8 : Int32) &&& 31))), (.int 5), (.ref pe)]))
  refine Way.by (fun _ k => XT.i2b X31.here hx rfl (hb hby dPC10_51) rfl k) ?_
  show Way _ _ _ _ (T30.setTop (mkF m 52 #[rv pe, iv 5, iv cc2] [(.int (cc2 >>> ((8 : Int32) &&& 31)).toInt8.toInt32), (.int 5), (.ref pe)]))
  have V34 : Arv Z h19 pe kk .byte (6 : Int32) [(.int (StrChars.lo8 cc0)), (.int (StrChars.hi8 cc0)), (.int (StrChars.lo8 cc1)), (.int (StrChars.hi8 cc1)), (.int (nar .byte (cc2 >>> ((0 : Int32) &&& 31)).toInt8.toInt32)), (.int 0)] (.int 0) := V25.pad (pad_rep [(.int (StrChars.lo8 cc0)), (.int (StrChars.hi8 cc0)), (.int (StrChars.lo8 cc1)), (.int (StrChars.hi8 cc1)), (.int (nar .byte (cc2 >>> ((0 : Int32) &&& 31)).toInt8.toInt32))] (.int 0) 1)
  obtain ⟨c35, A36, q37, S38, M39, H40, U41⟩ := id V34
  obtain ⟨T42, h43, X44, e45, W46, st47⟩ := stB X31 hx hZ e32 A36 (j := (5 : Int32)) (inb_of S38 ⟨(by decide), (by decide)⟩) (g := (mkF m 52 #[rv pe, iv 5, iv cc2] [(.int (cc2 >>> ((8 : Int32) &&& 31)).toInt8.toInt32), (.int 5), (.ref pe)])) rfl rfl (hb hby dPC10_52)
  have N48 := Fr.snoc X44 N24 nw_pe
  have V49 : Arv Z h43 pe kk .byte (6 : Int32) [(.int (StrChars.lo8 cc0)), (.int (StrChars.hi8 cc0)), (.int (StrChars.lo8 cc1)), (.int (StrChars.hi8 cc1)), (.int (nar .byte (cc2 >>> ((0 : Int32) &&& 31)).toInt8.toInt32)), (.int (nar .byte (cc2 >>> ((8 : Int32) &&& 31)).toInt8.toInt32))] (.int 0) := Arv.set A36 q37 S38 M39 H40 U41 (fits_nar_byte _) W46 5 rfl (leB rfl)
  have Z50 : n0 ≤ h43.size := by rw [W46.size]; exact Z26
  have O51 := O27.wr W46 nw_pe
  have K52 := K28.wr W46 (Or.inl (List.mem_of_getElem? (i := 0) rfl))
  have hz53 : h0.size ≤ h43.size := by rw [W46.size]; exact hz29
  refine Way.by st47 ?_
  show Way _ _ _ _ (T42.setTop (mkF m 53 #[rv pe, iv 5, iv cc2] []))
  refine Way.ret (v := none) X44 hlk (fun _ => rfl) (fun fs hr => X44.returnOut hx Bd.returns (hb hby dPC10_53) hr) ?_ (by decide) (by decide)
  show QPC32 Z pe kk cc0 cc1 cc2 h0 n0 _ T42.heap _
  rw [e45]
  have AF : Arv Z h43 pe kk .byte (6 : Int32) [(.int (StrChars.lo8 cc0)), (.int (StrChars.hi8 cc0)), (.int (StrChars.lo8 cc1)), (.int (StrChars.hi8 cc1)), (.int (StrChars.lo8 cc2)), (.int (StrChars.hi8 cc2))] (.int 0) := by have q := V49; rw [own_nb0 cc2, own_nb8 cc2] at q; exact q
  exact ⟨rfl, N48, K52, AF⟩
def QTB3 (Z : State) (pb : Addr) (kc : ClassId) (cc0 : Int32) (cc1 : Int32) (cc2 : Int32) (h0 : Heap) (n0 : Nat) (v : Option Value) (h : Heap) (L : List Loc) : Prop := ∃ (pe : Addr) (kk : ClassId), v = some (.ref pe) ∧ Fr n0 L ∧ Keep h0 h [] ∧ h0.size ≤ pe ∧ Arv Z h pe kk .byte (6 : Int32) [(.int (StrChars.lo8 cc0)), (.int (StrChars.hi8 cc0)), (.int (StrChars.lo8 cc1)), (.int (StrChars.hi8 cc1)), (.int (StrChars.lo8 cc2)), (.int (StrChars.hi8 cc2))] (.int 0)
set_option maxRecDepth 65536 in
set_option maxHeartbeats 40000000 in
theorem rmTB3 (l : Launch) (Z : State) (a0 : Array Value) (hw : ∀ d ∈ tables_1, d.before a0 Z = true) (ws : List Jvm.Cond) (pb : Addr) (kc : ClassId) (cc0 : Int32) (cc1 : Int32) (cc2 : Int32) (h0 : Heap) (n0 : Nat) (Z0 : n0 ≤ h0.size) (H0 : Arv Z h0 pb kc .char (3 : Int32) [(.int cc0), (.int cc1), (.int cc2)] (.int 0)) (O0 : Old Z n0 h0) (SV : own_Env Z) (SU : own_U16 Z) :
    MetFree l (⟨"java/lang/StringUTF16", "toBytes", "([CII)[B"⟩ : MethodName) (head1 (Jvm.Cond.code (⟨"java/lang/StringUTF16", "toBytes", "([CII)[B"⟩ : MethodName) jdk_52_method_14_code 5 (some (.array .byte)) :: ws) ({ frames := 2, cells := 1, slots := 6, locals := 24 } : Room)) (fun aa U => aa = #[(.ref pb), (.int 0), (.int 3)] ∧ Z.Warmed39 U.vm ∧ U.heap = h0) (fun _ _ _ _ _ => True) (fun _ U oo U' => ∃ v L, oo = .returned v ∧ QTB3 Z pb kc cc0 cc1 cc2 h0 n0 v U'.heap L ∧ FrameEnd U oo U' L ({ frames := 2, cells := 1, slots := 6, locals := 24 } : Room).cells ({ frames := 2, cells := 1, slots := 6, locals := 24 } : Room).slots) := by
  refine MetFree.of_bodySF (plainFor_of_name pnGC) hisR ?_
  intro p e s m args below meth c s₁ Bd hml0 hP hK
  obtain ⟨rfl, hZ, hh⟩ := hP
  have hx := Bd.exec
  have hby := Bd.bytes
  have hlk : meth.locks = false := BodyLoose.notSynchronized Bd
  have hml : c.maxLocals = 5 := hml0
  have hown : s.vm.findClass "java/lang/StringUTF16" = some m.cls := findClass_of_methodNamed Bd.named
  have hnm := (name_of_methodNamed Bd.named Bd.method).1
  have X0 : Stand p l e ({ frames := 2, cells := 1, slots := 6, locals := 24 } : Room) s m #[(.ref pb), (.int 0), (.int 3)] below meth c s₁ [] 0 0 := Stand.of_body Bd
  have e0 : s₁.heap = h0 := by rw [← hh, Bd.state]; rfl
  have N0 := Fr.nil n0
  have ef : entryFrame m #[(.ref pb), (.int 0), (.int 3)] 5 = mkF m 0 #[rv pb, iv 0, iv 3, .unset, .unset] [] := by first | (simp [entryFrame, mkF, argsToLocals, Value.category, maxLocals]; done) | rfl
  show Way p.tables e below (KQ s (QTB3 Z pb kc cc0 cc1 cc2 h0 n0) ({ frames := 2, cells := 1, slots := 6, locals := 24 } : Room).cells ({ frames := 2, cells := 1, slots := 6, locals := 24 } : Room).slots) (s₁.setTop (entryFrame m #[(.ref pb), (.int 0), (.int 3)] 5))
  rw [ef]
  refine Way.by (fun _ k => XS.iloadN X0.here hx rfl (hb hby dTB1_0) rfl k) ?_
  show Way _ _ _ _ (s₁.setTop (mkF m 1 #[rv pb, iv 0, iv 3, .unset, .unset] [(.int 3)]))
  obtain ⟨_, _, ⟨T1, L3, k4, n5⟩, -, X2, ⟨Lc6, hQ7, l8, y9, z10⟩, st11⟩ := Jvm.LawKit.callS X0 hx (y := (⟨"java/lang/StringUTF16", "newBytesFor", "(I)[B"⟩ : MethodName)) hown (mvT hZ (tw hw 89 rfl)) (mvT hZ (tw hw 90 rfl)) (mvT hZ (tw hw 72 rfl)) (mvT hZ (tw hw 91 rfl)) (by decide) (backOf (W := 0) (rmNF3 l Z a0 hw []  h0 n0 Z0 ) hZ (tw hw 91 rfl) (tw hw 72 rfl) (by decide) (by decide)) (g := (mkF m 1 #[rv pb, iv 0, iv 3, .unset, .unset] [(.int 3)])) rfl (by rw [hml]; rfl) (argsL := [(.int 3)]) (rest := []) (lenOf pdNF1 rfl) rfl (leW rfl) (hb hby dTB1_1) (fun _ _ => ⟨rfl, e0, (leB rfl), (leB rfl)⟩)
  dsimp only [Pt.U, Pt.locs, Pt.cells, Pt.slots] at X2 l8 y9 z10 st11 hQ7
  subst l8 y9 z10
  obtain ⟨x_pe22, x_kk21, rfl, N17, K18, fr_pe20, F_019⟩ := hQ7
  have N12 := Fr.app N0 N17
  have ne23 : pb ≠ x_pe22 := Nat.ne_of_lt (Nat.lt_of_lt_of_le H0.lt fr_pe20)
  have nw24 : n0 ≤ x_pe22 := Nat.le_trans Z0 fr_pe20
  have hk25 : h0.size ≤ x_pe22 := Nat.le_trans (Nat.le_refl h0.size) fr_pe20
  have A26 := H0.keep K18 nin0
  have Z27 := Nat.le_trans Z0 K18.1
  have O28 := O0.keep K18 all0
  have K29 := (Keep.refl h0 []).trans K18 all0
  have hz30 := Nat.le_trans (Nat.le_refl h0.size) K18.1
  refine Way.by st11 ?_
  show Way _ _ _ _ (T1.setTop (mkF m 4 #[rv pb, iv 0, iv 3, .unset, .unset] [(.ref x_pe22)]))
  refine Way.by (fun _ k => XS.astoreN X2.here hx rfl (hb hby dTB1_4) rfl rfl (l' := #[rv pb, iv 0, iv 3, rv x_pe22, .unset]) rfl k) ?_
  show Way _ _ _ _ (T1.setTop (mkF m 5 #[rv pb, iv 0, iv 3, rv x_pe22, .unset] []))
  refine Way.by (fun _ k => XS.iconst X2.here hx rfl (hb hby dTB1_5) k) ?_
  show Way _ _ _ _ (T1.setTop (mkF m 6 #[rv pb, iv 0, iv 3, rv x_pe22, .unset] [(.int 0)]))
  refine Way.by (fun _ k => XS.istore X2.here hx rfl (hb hby dTB1_6) rfl (l' := #[rv pb, iv 0, iv 3, rv x_pe22, iv 0]) rfl k) ?_
  show Way _ _ _ _ (T1.setTop (mkF m 8 #[rv pb, iv 0, iv 3, rv x_pe22, iv 0] []))
  refine Way.by (fun _ k => XS.iload X2.here hx rfl (hb hby dTB1_8) rfl k) ?_
  show Way _ _ _ _ (T1.setTop (mkF m 10 #[rv pb, iv 0, iv 3, rv x_pe22, iv 0] [(.int 0)]))
  refine Way.by (fun _ k => XS.iloadN X2.here hx rfl (hb hby dTB1_10) rfl k) ?_
  show Way _ _ _ _ (T1.setTop (mkF m 11 #[rv pb, iv 0, iv 3, rv x_pe22, iv 0] [(.int 3), (.int 0)]))
  have b31 : (0 : Int32) < (3 : Int32) := by decide
  refine Way.by (fun _ k => XS.icmpNo X2.here hx rfl (hb hby dTB1_11) rfl (tlt b31).2.1 k) ?_
  show Way _ _ _ _ (T1.setTop (mkF m 14 #[rv pb, iv 0, iv 3, rv x_pe22, iv 0] []))
  refine Way.by (fun _ k => XS.aloadN X2.here hx rfl (hb hby dTB1_14) rfl rfl k) ?_
  show Way _ _ _ _ (T1.setTop (mkF m 15 #[rv pb, iv 0, iv 3, rv x_pe22, iv 0] [(.ref x_pe22)]))
  refine Way.by (fun _ k => XS.iload X2.here hx rfl (hb hby dTB1_15) rfl k) ?_
  show Way _ _ _ _ (T1.setTop (mkF m 17 #[rv pb, iv 0, iv 3, rv x_pe22, iv 0] [(.int 0), (.ref x_pe22)]))
  refine Way.by (fun _ k => XS.aloadN X2.here hx rfl (hb hby dTB1_17) rfl rfl k) ?_
  show Way _ _ _ _ (T1.setTop (mkF m 18 #[rv pb, iv 0, iv 3, rv x_pe22, iv 0] [(.ref pb), (.int 0), (.ref x_pe22)]))
  refine Way.by (fun _ k => XS.iloadN X2.here hx rfl (hb hby dTB1_18) rfl k) ?_
  show Way _ _ _ _ (T1.setTop (mkF m 19 #[rv pb, iv 0, iv 3, rv x_pe22, iv 0] [(.int 0), (.ref pb), (.int 0), (.ref x_pe22)]))
  obtain ⟨c32, A33, q34, S35, M36, H37, U38⟩ := id A26
  refine Way.by (fun t k => Stand.caload X2 hx (hpE rfl A33.1) (arrS hZ A33) A33.2.2 (inb_of S35 ⟨(by decide), (by decide)⟩) (Has.at H37 (inb_of S35 ⟨(by decide), (by decide)⟩) rfl) (g := (mkF m 19 #[rv pb, iv 0, iv 3, rv x_pe22, iv 0] [(.int 0), (.ref pb), (.int 0), (.ref x_pe22)])) rfl rfl (hb hby dTB1_19) t k) ?_
  show Way _ _ _ _ (T1.setTop (mkF m 20 #[rv pb, iv 0, iv 3, rv x_pe22, iv 0] [(.int cc0), (.int 0), (.ref x_pe22)]))
  obtain ⟨_, _, ⟨T39, L41, k42, n43⟩, -, X40, ⟨Lc44, hQ45, l46, y47, z48⟩, st49⟩ := Jvm.LawKit.callS X2 hx (y := (⟨"java/lang/StringUTF16", "putChar", "([BII)V"⟩ : MethodName)) hown (mvT hZ (tw hw 96 rfl)) (mvT hZ (tw hw 97 rfl)) (mvT hZ (tw hw 72 rfl)) (mvT hZ (tw hw 98 rfl)) (by decide) (backOf (W := 0) (rmPC30 l Z a0 hw [] x_pe22 x_kk21 cc0 T1.heap n0 Z27 F_019 nw24 O28 SV SU) hZ (tw hw 98 rfl) (tw hw 72 rfl) (by decide) (by decide)) (g := (mkF m 20 #[rv pb, iv 0, iv 3, rv x_pe22, iv 0] [(.int cc0), (.int 0), (.ref x_pe22)])) rfl (by rw [hml]; rfl) (argsL := [(.ref x_pe22), (.int 0), (.int cc0)]) (rest := []) (lenOf pdPC10 rfl) rfl (leW rfl) (hb hby dTB1_20) (fun _ _ => ⟨rfl, rfl, (leB rfl), (leB rfl)⟩)
  dsimp only [Pt.U, Pt.locs, Pt.cells, Pt.slots] at X40 l46 y47 z48 st49 hQ45
  subst l46 y47 z48
  obtain ⟨rfl, N55, K56, F_057⟩ := hQ45
  have N50 := Fr.app N12 N55
  have A58 := A26.keep K56 (ninS ne23 nin0)
  have Z59 := Nat.le_trans Z27 K56.1
  have O60 := O28.keep K56 (allS nw24 all0)
  have K61 := K29.trans K56 (allS (Or.inr hk25) all0)
  have hz62 := Nat.le_trans hz30 K56.1
  refine Way.by st49 ?_
  show Way _ _ _ _ (T39.setTop (mkF m 23 #[rv pb, iv 0, iv 3, rv x_pe22, iv 0] []))
  refine Way.by (fun _ k => XS.iinc X40.here hx rfl (hb hby dTB1_23) rfl (l' := #[rv pb, iv 1, iv 3, rv x_pe22, iv 0]) rfl k) ?_
  show Way _ _ _ _ (T39.setTop (mkF m 26 #[rv pb, iv 1, iv 3, rv x_pe22, iv 0] []))
  refine Way.by (fun _ k => XS.iinc X40.here hx rfl (hb hby dTB1_26) rfl (l' := #[rv pb, iv 1, iv 3, rv x_pe22, iv 1]) rfl k) ?_
  show Way _ _ _ _ (T39.setTop (mkF m 29 #[rv pb, iv 1, iv 3, rv x_pe22, iv 1] []))
  refine Way.by (fun _ k => XS.goto X40.here hx rfl (pc0 := 29) (pc' := 8) rfl (hb hby dTB1_29) (by decide) (by decide) k) ?_
  show Way _ _ _ _ (T39.setTop (mkF m 8 #[rv pb, iv 1, iv 3, rv x_pe22, iv 1] []))
  refine Way.by (fun _ k => XS.iload X40.here hx rfl (hb hby dTB1_8) rfl k) ?_
  show Way _ _ _ _ (T39.setTop (mkF m 10 #[rv pb, iv 1, iv 3, rv x_pe22, iv 1] [(.int 1)]))
  refine Way.by (fun _ k => XS.iloadN X40.here hx rfl (hb hby dTB1_10) rfl k) ?_
  show Way _ _ _ _ (T39.setTop (mkF m 11 #[rv pb, iv 1, iv 3, rv x_pe22, iv 1] [(.int 3), (.int 1)]))
  have b63 : (1 : Int32) < (3 : Int32) := by decide
  refine Way.by (fun _ k => XS.icmpNo X40.here hx rfl (hb hby dTB1_11) rfl (tlt b63).2.1 k) ?_
  show Way _ _ _ _ (T39.setTop (mkF m 14 #[rv pb, iv 1, iv 3, rv x_pe22, iv 1] []))
  refine Way.by (fun _ k => XS.aloadN X40.here hx rfl (hb hby dTB1_14) rfl rfl k) ?_
  show Way _ _ _ _ (T39.setTop (mkF m 15 #[rv pb, iv 1, iv 3, rv x_pe22, iv 1] [(.ref x_pe22)]))
  refine Way.by (fun _ k => XS.iload X40.here hx rfl (hb hby dTB1_15) rfl k) ?_
  show Way _ _ _ _ (T39.setTop (mkF m 17 #[rv pb, iv 1, iv 3, rv x_pe22, iv 1] [(.int 1), (.ref x_pe22)]))
  refine Way.by (fun _ k => XS.aloadN X40.here hx rfl (hb hby dTB1_17) rfl rfl k) ?_
  show Way _ _ _ _ (T39.setTop (mkF m 18 #[rv pb, iv 1, iv 3, rv x_pe22, iv 1] [(.ref pb), (.int 1), (.ref x_pe22)]))
  refine Way.by (fun _ k => XS.iloadN X40.here hx rfl (hb hby dTB1_18) rfl k) ?_
  show Way _ _ _ _ (T39.setTop (mkF m 19 #[rv pb, iv 1, iv 3, rv x_pe22, iv 1] [(.int 1), (.ref pb), (.int 1), (.ref x_pe22)]))
  obtain ⟨c64, A65, q66, S67, M68, H69, U70⟩ := id A58
  refine Way.by (fun t k => Stand.caload X40 hx (hpE rfl A65.1) (arrS hZ A65) A65.2.2 (inb_of S67 ⟨(by decide), (by decide)⟩) (Has.at H69 (inb_of S67 ⟨(by decide), (by decide)⟩) rfl) (g := (mkF m 19 #[rv pb, iv 1, iv 3, rv x_pe22, iv 1] [(.int 1), (.ref pb), (.int 1), (.ref x_pe22)])) rfl rfl (hb hby dTB1_19) t k) ?_
  show Way _ _ _ _ (T39.setTop (mkF m 20 #[rv pb, iv 1, iv 3, rv x_pe22, iv 1] [(.int cc1), (.int 1), (.ref x_pe22)]))
  obtain ⟨_, _, ⟨T71, L73, k74, n75⟩, -, X72, ⟨Lc76, hQ77, l78, y79, z80⟩, st81⟩ := Jvm.LawKit.callS X40 hx (y := (⟨"java/lang/StringUTF16", "putChar", "([BII)V"⟩ : MethodName)) hown (mvT hZ (tw hw 96 rfl)) (mvT hZ (tw hw 97 rfl)) (mvT hZ (tw hw 72 rfl)) (mvT hZ (tw hw 98 rfl)) (by decide) (backOf (W := 0) (rmPC31 l Z a0 hw [] x_pe22 x_kk21 cc0 cc1 T39.heap n0 Z59 F_057 nw24 O60 SV SU) hZ (tw hw 98 rfl) (tw hw 72 rfl) (by decide) (by decide)) (g := (mkF m 20 #[rv pb, iv 1, iv 3, rv x_pe22, iv 1] [(.int cc1), (.int 1), (.ref x_pe22)])) rfl (by rw [hml]; rfl) (argsL := [(.ref x_pe22), (.int 1), (.int cc1)]) (rest := []) (lenOf pdPC10 rfl) rfl (leW rfl) (hb hby dTB1_20) (fun _ _ => ⟨rfl, rfl, (leB rfl), (leB rfl)⟩)
  dsimp only [Pt.U, Pt.locs, Pt.cells, Pt.slots] at X72 l78 y79 z80 st81 hQ77
  subst l78 y79 z80
  obtain ⟨rfl, N87, K88, F_089⟩ := hQ77
  have N82 := Fr.app N50 N87
  have A90 := A58.keep K88 (ninS ne23 nin0)
  have Z91 := Nat.le_trans Z59 K88.1
  have O92 := O60.keep K88 (allS nw24 all0)
  have K93 := K61.trans K88 (allS (Or.inr hk25) all0)
  have hz94 := Nat.le_trans hz62 K88.1
  refine Way.by st81 ?_
  show Way _ _ _ _ (T71.setTop (mkF m 23 #[rv pb, iv 1, iv 3, rv x_pe22, iv 1] []))
  refine Way.by (fun _ k => XS.iinc X72.here hx rfl (hb hby dTB1_23) rfl (l' := #[rv pb, iv 2, iv 3, rv x_pe22, iv 1]) rfl k) ?_
  show Way _ _ _ _ (T71.setTop (mkF m 26 #[rv pb, iv 2, iv 3, rv x_pe22, iv 1] []))
  refine Way.by (fun _ k => XS.iinc X72.here hx rfl (hb hby dTB1_26) rfl (l' := #[rv pb, iv 2, iv 3, rv x_pe22, iv 2]) rfl k) ?_
  show Way _ _ _ _ (T71.setTop (mkF m 29 #[rv pb, iv 2, iv 3, rv x_pe22, iv 2] []))
  refine Way.by (fun _ k => XS.goto X72.here hx rfl (pc0 := 29) (pc' := 8) rfl (hb hby dTB1_29) (by decide) (by decide) k) ?_
  show Way _ _ _ _ (T71.setTop (mkF m 8 #[rv pb, iv 2, iv 3, rv x_pe22, iv 2] []))
  refine Way.by (fun _ k => XS.iload X72.here hx rfl (hb hby dTB1_8) rfl k) ?_
  show Way _ _ _ _ (T71.setTop (mkF m 10 #[rv pb, iv 2, iv 3, rv x_pe22, iv 2] [(.int 2)]))
  refine Way.by (fun _ k => XS.iloadN X72.here hx rfl (hb hby dTB1_10) rfl k) ?_
  show Way _ _ _ _ (T71.setTop (mkF m 11 #[rv pb, iv 2, iv 3, rv x_pe22, iv 2] [(.int 3), (.int 2)]))
  have b95 : (2 : Int32) < (3 : Int32) := by decide
  refine Way.by (fun _ k => XS.icmpNo X72.here hx rfl (hb hby dTB1_11) rfl (tlt b95).2.1 k) ?_
  show Way _ _ _ _ (T71.setTop (mkF m 14 #[rv pb, iv 2, iv 3, rv x_pe22, iv 2] []))
  refine Way.by (fun _ k => XS.aloadN X72.here hx rfl (hb hby dTB1_14) rfl rfl k) ?_
  show Way _ _ _ _ (T71.setTop (mkF m 15 #[rv pb, iv 2, iv 3, rv x_pe22, iv 2] [(.ref x_pe22)]))
  refine Way.by (fun _ k => XS.iload X72.here hx rfl (hb hby dTB1_15) rfl k) ?_
  show Way _ _ _ _ (T71.setTop (mkF m 17 #[rv pb, iv 2, iv 3, rv x_pe22, iv 2] [(.int 2), (.ref x_pe22)]))
  refine Way.by (fun _ k => XS.aloadN X72.here hx rfl (hb hby dTB1_17) rfl rfl k) ?_
  show Way _ _ _ _ (T71.setTop (mkF m 18 #[rv pb, iv 2, iv 3, rv x_pe22, iv 2] [(.ref pb), (.int 2), (.ref x_pe22)]))
  refine Way.by (fun _ k => XS.iloadN X72.here hx rfl (hb hby dTB1_18) rfl k) ?_
  show Way _ _ _ _ (T71.setTop (mkF m 19 #[rv pb, iv 2, iv 3, rv x_pe22, iv 2] [(.int 2), (.ref pb), (.int 2), (.ref x_pe22)]))
  obtain ⟨c96, A97, q98, S99, M100, H101, U102⟩ := id A90
  refine Way.by (fun t k => Stand.caload X72 hx (hpE rfl A97.1) (arrS hZ A97) A97.2.2 (inb_of S99 ⟨(by decide), (by decide)⟩) (Has.at H101 (inb_of S99 ⟨(by decide), (by decide)⟩) rfl) (g := (mkF m 19 #[rv pb, iv 2, iv 3, rv x_pe22, iv 2] [(.int 2), (.ref pb), (.int 2), (.ref x_pe22)])) rfl rfl (hb hby dTB1_19) t k) ?_
  show Way _ _ _ _ (T71.setTop (mkF m 20 #[rv pb, iv 2, iv 3, rv x_pe22, iv 2] [(.int cc2), (.int 2), (.ref x_pe22)]))
  obtain ⟨_, _, ⟨T103, L105, k106, n107⟩, -, X104, ⟨Lc108, hQ109, l110, y111, z112⟩, st113⟩ := Jvm.LawKit.callS X72 hx (y := (⟨"java/lang/StringUTF16", "putChar", "([BII)V"⟩ : MethodName)) hown (mvT hZ (tw hw 96 rfl)) (mvT hZ (tw hw 97 rfl)) (mvT hZ (tw hw 72 rfl)) (mvT hZ (tw hw 98 rfl)) (by decide) (backOf (W := 0) (rmPC32 l Z a0 hw [] x_pe22 x_kk21 cc0 cc1 cc2 T71.heap n0 Z91 F_089 nw24 O92 SV SU) hZ (tw hw 98 rfl) (tw hw 72 rfl) (by decide) (by decide)) (g := (mkF m 20 #[rv pb, iv 2, iv 3, rv x_pe22, iv 2] [(.int cc2), (.int 2), (.ref x_pe22)])) rfl (by rw [hml]; rfl) (argsL := [(.ref x_pe22), (.int 2), (.int cc2)]) (rest := []) (lenOf pdPC10 rfl) rfl (leW rfl) (hb hby dTB1_20) (fun _ _ => ⟨rfl, rfl, (leB rfl), (leB rfl)⟩)
  dsimp only [Pt.U, Pt.locs, Pt.cells, Pt.slots] at X104 l110 y111 z112 st113 hQ109
  subst l110 y111 z112
  obtain ⟨rfl, N119, K120, F_0121⟩ := hQ109
  have N114 := Fr.app N82 N119
  have A122 := A90.keep K120 (ninS ne23 nin0)
  have Z123 := Nat.le_trans Z91 K120.1
  have O124 := O92.keep K120 (allS nw24 all0)
  have K125 := K93.trans K120 (allS (Or.inr hk25) all0)
  have hz126 := Nat.le_trans hz94 K120.1
  refine Way.by st113 ?_
  show Way _ _ _ _ (T103.setTop (mkF m 23 #[rv pb, iv 2, iv 3, rv x_pe22, iv 2] []))
  refine Way.by (fun _ k => XS.iinc X104.here hx rfl (hb hby dTB1_23) rfl (l' := #[rv pb, iv 3, iv 3, rv x_pe22, iv 2]) rfl k) ?_
  show Way _ _ _ _ (T103.setTop (mkF m 26 #[rv pb, iv 3, iv 3, rv x_pe22, iv 2] []))
  refine Way.by (fun _ k => XS.iinc X104.here hx rfl (hb hby dTB1_26) rfl (l' := #[rv pb, iv 3, iv 3, rv x_pe22, iv 3]) rfl k) ?_
  show Way _ _ _ _ (T103.setTop (mkF m 29 #[rv pb, iv 3, iv 3, rv x_pe22, iv 3] []))
  refine Way.by (fun _ k => XS.goto X104.here hx rfl (pc0 := 29) (pc' := 8) rfl (hb hby dTB1_29) (by decide) (by decide) k) ?_
  show Way _ _ _ _ (T103.setTop (mkF m 8 #[rv pb, iv 3, iv 3, rv x_pe22, iv 3] []))
  refine Way.by (fun _ k => XS.iload X104.here hx rfl (hb hby dTB1_8) rfl k) ?_
  show Way _ _ _ _ (T103.setTop (mkF m 10 #[rv pb, iv 3, iv 3, rv x_pe22, iv 3] [(.int 3)]))
  refine Way.by (fun _ k => XS.iloadN X104.here hx rfl (hb hby dTB1_10) rfl k) ?_
  show Way _ _ _ _ (T103.setTop (mkF m 11 #[rv pb, iv 3, iv 3, rv x_pe22, iv 3] [(.int 3), (.int 3)]))
  have b127 : ¬ (3 : Int32) < (3 : Int32) := by decide
  refine Way.by (fun _ k => XS.icmpYes X104.here hx rfl (pc0 := 11) (pc' := 32) rfl (hb hby dTB1_11) rfl (flt b127).2.1 (by decide) (by decide) k) ?_
  show Way _ _ _ _ (T103.setTop (mkF m 32 #[rv pb, iv 3, iv 3, rv x_pe22, iv 3] []))
  refine Way.by (fun _ k => XS.aloadN X104.here hx rfl (hb hby dTB1_32) rfl rfl k) ?_
  show Way _ _ _ _ (T103.setTop (mkF m 33 #[rv pb, iv 3, iv 3, rv x_pe22, iv 3] [(.ref x_pe22)]))
  refine Way.ret (v := (some (.ref x_pe22))) X104 hlk (fun h => by rw [Bd.returns] at h; cases h) (fun fs hr => retOut X104 hx Bd.returns rfl (Or.inr (Or.inr (Or.inr (Or.inr ⟨rfl, rfl, rfl⟩)))) (hb hby dTB1_33) hr) ?_ (by decide) (by decide)
  show QTB3 Z pb kc cc0 cc1 cc2 h0 n0 _ T103.heap _
  skip
  exact ⟨x_pe22, x_kk21, rfl, N114, K125, hk25, F_0121⟩
def QC33 (Z : State) (pb : Addr) (kc : ClassId) (cc0 : Int32) (cc1 : Int32) (cc2 : Int32) (h0 : Heap) (n0 : Nat) (v : Option Value) (h : Heap) (L : List Loc) : Prop := ∃ (pe : Addr) (kk : ClassId), v = some (.ref pe) ∧ Fr n0 L ∧ Keep h0 h [] ∧ h0.size ≤ pe ∧ Arv Z h pe kk .byte (6 : Int32) [(.int (StrChars.lo8 cc0)), (.int (StrChars.hi8 cc0)), (.int (StrChars.lo8 cc1)), (.int (StrChars.hi8 cc1)), (.int (StrChars.lo8 cc2)), (.int (StrChars.hi8 cc2))] (.int 0)
set_option maxRecDepth 65536 in
set_option maxHeartbeats 40000000 in
theorem rmC33 (l : Launch) (Z : State) (a0 : Array Value) (hw : ∀ d ∈ tables_1, d.before a0 Z = true) (ws : List Jvm.Cond) (pb : Addr) (kc : ClassId) (cc0 : Int32) (cc1 : Int32) (cc2 : Int32) (h0 : Heap) (n0 : Nat) (Z0 : n0 ≤ h0.size) (H0 : Arv Z h0 pb kc .char (3 : Int32) [(.int cc0), (.int cc1), (.int cc2)] (.int 0)) (hB : ∀ c ∈ ([cc0, cc1, cc2] : List Int32), ¬ c < 0 ∧ ¬ (65535 : Int32) < c) (hU : (255 : Int32) < cc0 ∨ ((255 : Int32) < cc1 ∨ (255 : Int32) < cc2)) (O0 : Old Z n0 h0) (SV : own_Env Z) (SU : own_U16 Z) :
    MetFree l (⟨"java/lang/StringUTF16", "compress", "([CII)[B"⟩ : MethodName) (head1 (Jvm.Cond.code (⟨"java/lang/StringUTF16", "compress", "([CII)[B"⟩ : MethodName) jdk_52_method_16_code 6 (some (.array .byte)) :: ws) ({ frames := 3, cells := 2, slots := 9, locals := 40 } : Room)) (fun aa U => aa = #[(.ref pb), (.int 0), (.int 3)] ∧ Z.Warmed39 U.vm ∧ U.heap = h0) (fun _ _ _ _ _ => True) (fun _ U oo U' => ∃ v L, oo = .returned v ∧ QC33 Z pb kc cc0 cc1 cc2 h0 n0 v U'.heap L ∧ FrameEnd U oo U' L ({ frames := 3, cells := 2, slots := 9, locals := 40 } : Room).cells ({ frames := 3, cells := 2, slots := 9, locals := 40 } : Room).slots) := by
  refine MetFree.of_bodySF (plainFor_of_name pnGC) hisR ?_
  intro p e s m args below meth c s₁ Bd hml0 hP hK
  obtain ⟨rfl, hZ, hh⟩ := hP
  have hx := Bd.exec
  have hby := Bd.bytes
  have hlk : meth.locks = false := BodyLoose.notSynchronized Bd
  have hml : c.maxLocals = 6 := hml0
  have hown : s.vm.findClass "java/lang/StringUTF16" = some m.cls := findClass_of_methodNamed Bd.named
  have hnm := (name_of_methodNamed Bd.named Bd.method).1
  have X0 : Stand p l e ({ frames := 3, cells := 2, slots := 9, locals := 40 } : Room) s m #[(.ref pb), (.int 0), (.int 3)] below meth c s₁ [] 0 0 := Stand.of_body Bd
  have e0 : s₁.heap = h0 := by rw [← hh, Bd.state]; rfl
  have N0 := Fr.nil n0
  have ef : entryFrame m #[(.ref pb), (.int 0), (.int 3)] 6 = mkF m 0 #[rv pb, iv 0, iv 3, .unset, .unset, .unset] [] := by first | (simp [entryFrame, mkF, argsToLocals, Value.category, maxLocals]; done) | rfl
  show Way p.tables e below (KQ s (QC33 Z pb kc cc0 cc1 cc2 h0 n0) ({ frames := 3, cells := 2, slots := 9, locals := 40 } : Room).cells ({ frames := 3, cells := 2, slots := 9, locals := 40 } : Room).slots) (s₁.setTop (entryFrame m #[(.ref pb), (.int 0), (.int 3)] 6))
  rw [ef]
  by_cases hk0 : (255 : Int32) < cc0
  · skip
    show Way _ _ _ _ (s₁.setTop (mkF m 0 #[rv pb, iv 0, iv 3, .unset, .unset, .unset] []))
    refine Way.by (fun _ k => XS.iloadN X0.here hx rfl (hb hby dC31_0) rfl k) ?_
    show Way _ _ _ _ (s₁.setTop (mkF m 1 #[rv pb, iv 0, iv 3, .unset, .unset, .unset] [(.int 3)]))
    obtain ⟨T1, h2, kc3, X4, e5, E6, A7, st8⟩ := newP X0 hx hZ (tw hw 19 rfl) e0 (g := (mkF m 1 #[rv pb, iv 0, iv 3, .unset, .unset, .unset] [(.int 3)])) rfl (hb hby dC31_1) rfl (by decide) (cap := 3) (by decide) (by decide) (by decide) (by decide)
    obtain ⟨a9, g10⟩ : ∃ z, z = h0.size := ⟨_, rfl⟩
    rw [← g10] at A7 st8
    have ne12 : pb ≠ a9 := Nat.ne_of_lt (Nat.lt_of_lt_of_eq H0.lt g10.symm)
    have nw13 : n0 ≤ a9 := Nat.le_trans Z0 (Nat.le_of_eq g10.symm)
    have hk14 : h0.size ≤ a9 := Nat.le_trans (Nat.le_refl h0.size) (Nat.le_of_eq g10.symm)
    have A15 := H0.ext E6
    have Z16 := Nat.le_trans Z0 E6.1
    have O17 := O0.ext E6
    have K18 := (Keep.refl h0 []).ext E6
    have hz19 := Nat.le_trans (Nat.le_refl h0.size) E6.1
    have V11 : Arv Z h2 a9 kc3 .byte (3 : Int32) [] (.int 0) := Arv.new A7 (by decide)
    refine Way.by st8 ?_
    show Way _ _ _ _ (T1.setTop (mkF m 3 #[rv pb, iv 0, iv 3, .unset, .unset, .unset] [(.ref a9)]))
    refine Way.by (fun _ k => XS.astoreN X4.here hx rfl (hb hby dC31_3) rfl rfl (l' := #[rv pb, iv 0, iv 3, rv a9, .unset, .unset]) rfl k) ?_
    show Way _ _ _ _ (T1.setTop (mkF m 4 #[rv pb, iv 0, iv 3, rv a9, .unset, .unset] []))
    refine Way.by (fun _ k => XS.aloadN X4.here hx rfl (hb hby dC31_4) rfl rfl k) ?_
    show Way _ _ _ _ (T1.setTop (mkF m 5 #[rv pb, iv 0, iv 3, rv a9, .unset, .unset] [(.ref pb)]))
    refine Way.by (fun _ k => XS.iloadN X4.here hx rfl (hb hby dC31_5) rfl k) ?_
    show Way _ _ _ _ (T1.setTop (mkF m 6 #[rv pb, iv 0, iv 3, rv a9, .unset, .unset] [(.int 0), (.ref pb)]))
    refine Way.by (fun _ k => XS.aloadN X4.here hx rfl (hb hby dC31_6) rfl rfl k) ?_
    show Way _ _ _ _ (T1.setTop (mkF m 7 #[rv pb, iv 0, iv 3, rv a9, .unset, .unset] [(.ref a9), (.int 0), (.ref pb)]))
    refine Way.by (fun _ k => XS.iconst X4.here hx rfl (hb hby dC31_7) k) ?_
    show Way _ _ _ _ (T1.setTop (mkF m 8 #[rv pb, iv 0, iv 3, rv a9, .unset, .unset] [(.int 0), (.ref a9), (.int 0), (.ref pb)]))
    refine Way.by (fun _ k => XS.iloadN X4.here hx rfl (hb hby dC31_8) rfl k) ?_
    show Way _ _ _ _ (T1.setTop (mkF m 9 #[rv pb, iv 0, iv 3, rv a9, .unset, .unset] [(.int 3), (.int 0), (.ref a9), (.int 0), (.ref pb)]))
    obtain ⟨_, _, ⟨T20, L22, k23, n24⟩, -, X21, ⟨Lc25, hQ26, l27, y28, z29⟩, st30⟩ := Jvm.LawKit.callS X4 hx (y := (⟨"java/lang/StringUTF16", "compress", "([CI[BII)I"⟩ : MethodName)) hown (mvT hZ (tw hw 74 rfl)) (mvT hZ (tw hw 75 rfl)) (mvT hZ (tw hw 72 rfl)) (mvT hZ (tw hw 76 rfl)) (by decide) (backOf (W := 0) (rmC530 l Z a0 hw [] pb kc a9 kc3 cc0 cc1 cc2 h2 n0 Z16 A15 V11 hk0 ne12 nw13) hZ (tw hw 76 rfl) (tw hw 72 rfl) (by decide) (by decide)) (g := (mkF m 9 #[rv pb, iv 0, iv 3, rv a9, .unset, .unset] [(.int 3), (.int 0), (.ref a9), (.int 0), (.ref pb)])) rfl (by rw [hml]; rfl) (argsL := [(.ref pb), (.int 0), (.ref a9), (.int 0), (.int 3)]) (rest := []) (lenOf pdC510 rfl) rfl (leW rfl) (hb hby dC31_9) (fun _ _ => ⟨rfl, e5, (leB rfl), (leB rfl)⟩)
    dsimp only [Pt.U, Pt.locs, Pt.cells, Pt.slots] at X21 l27 y28 z29 st30 hQ26
    subst l27 y28 z29
    obtain ⟨rfl, N36, K37⟩ := hQ26
    have N31 := Fr.app N0 N36
    have A38 := A15.keep K37 (ninS ne12 nin0)
    have Z39 := Nat.le_trans Z16 K37.1
    have O40 := O17.keep K37 (allS nw13 all0)
    have K41 := K18.trans K37 (allS (Or.inr hk14) all0)
    have hz42 := Nat.le_trans hz19 K37.1
    refine Way.by st30 ?_
    show Way _ _ _ _ (T20.setTop (mkF m 12 #[rv pb, iv 0, iv 3, rv a9, .unset, .unset] [(.int 0)]))
    refine Way.by (fun _ k => XS.istore X21.here hx rfl (hb hby dC31_12) rfl (l' := #[rv pb, iv 0, iv 3, rv a9, iv 0, .unset]) rfl k) ?_
    show Way _ _ _ _ (T20.setTop (mkF m 14 #[rv pb, iv 0, iv 3, rv a9, iv 0, .unset] []))
    refine Way.by (fun _ k => XS.iload X21.here hx rfl (hb hby dC31_14) rfl k) ?_
    show Way _ _ _ _ (T20.setTop (mkF m 16 #[rv pb, iv 0, iv 3, rv a9, iv 0, .unset] [(.int 0)]))
    refine Way.by (fun _ k => XS.iloadN X21.here hx rfl (hb hby dC31_16) rfl k) ?_
    show Way _ _ _ _ (T20.setTop (mkF m 17 #[rv pb, iv 0, iv 3, rv a9, iv 0, .unset] [(.int 3), (.int 0)]))
    have b43 : ¬ (0 : Int32) = (3 : Int32) := by decide
    refine Way.by (fun _ k => XS.icmpNo X21.here hx rfl (hb hby dC31_17) rfl (feq b43).1 k) ?_
    show Way _ _ _ _ (T20.setTop (mkF m 20 #[rv pb, iv 0, iv 3, rv a9, iv 0, .unset] []))
    refine Way.by (fun _ k => XS.aloadN X21.here hx rfl (hb hby dC31_20) rfl rfl k) ?_
    show Way _ _ _ _ (T20.setTop (mkF m 21 #[rv pb, iv 0, iv 3, rv a9, iv 0, .unset] [(.ref pb)]))
    refine Way.by (fun _ k => XS.iloadN X21.here hx rfl (hb hby dC31_21) rfl k) ?_
    show Way _ _ _ _ (T20.setTop (mkF m 22 #[rv pb, iv 0, iv 3, rv a9, iv 0, .unset] [(.int 0), (.ref pb)]))
    refine Way.by (fun _ k => XS.iloadN X21.here hx rfl (hb hby dC31_22) rfl k) ?_
    show Way _ _ _ _ (T20.setTop (mkF m 23 #[rv pb, iv 0, iv 3, rv a9, iv 0, .unset] [(.int 3), (.int 0), (.ref pb)]))
    obtain ⟨_, _, ⟨T44, L46, k47, n48⟩, -, X45, ⟨Lc49, hQ50, l51, y52, z53⟩, st54⟩ := Jvm.LawKit.callS X21 hx (y := (⟨"java/lang/StringUTF16", "toBytes", "([CII)[B"⟩ : MethodName)) hown (mvT hZ (tw hw 86 rfl)) (mvT hZ (tw hw 87 rfl)) (mvT hZ (tw hw 72 rfl)) (mvT hZ (tw hw 88 rfl)) (by decide) (backOf (W := 0) (rmTB3 l Z a0 hw [] pb kc cc0 cc1 cc2 T20.heap n0 Z39 A38 O40 SV SU) hZ (tw hw 88 rfl) (tw hw 72 rfl) (by decide) (by decide)) (g := (mkF m 23 #[rv pb, iv 0, iv 3, rv a9, iv 0, .unset] [(.int 3), (.int 0), (.ref pb)])) rfl (by rw [hml]; rfl) (argsL := [(.ref pb), (.int 0), (.int 3)]) (rest := []) (lenOf pdTB1 rfl) rfl (leW rfl) (hb hby dC31_23) (fun _ _ => ⟨rfl, rfl, (leB rfl), (leB rfl)⟩)
    dsimp only [Pt.U, Pt.locs, Pt.cells, Pt.slots] at X45 l51 y52 z53 st54 hQ50
    subst l51 y52 z53
    obtain ⟨x_pe65, x_kk64, rfl, N60, K61, fr_pe63, F_062⟩ := hQ50
    have N55 := Fr.app N31 N60
    have ne66 : pb ≠ x_pe65 := Nat.ne_of_lt (Nat.lt_of_lt_of_le A38.lt fr_pe63)
    have nw67 : n0 ≤ x_pe65 := Nat.le_trans Z39 fr_pe63
    have hk68 : h0.size ≤ x_pe65 := Nat.le_trans hz42 fr_pe63
    have A69 := A38.keep K61 nin0
    have Z70 := Nat.le_trans Z39 K61.1
    have O71 := O40.keep K61 all0
    have K72 := K41.trans K61 all0
    have hz73 := Nat.le_trans hz42 K61.1
    refine Way.by st54 ?_
    show Way _ _ _ _ (T44.setTop (mkF m 26 #[rv pb, iv 0, iv 3, rv a9, iv 0, .unset] [(.ref x_pe65)]))
    refine Way.by (fun _ k => XS.astore X45.here hx rfl (hb hby dC31_26) rfl rfl (l' := #[rv pb, iv 0, iv 3, rv a9, iv 0, rv x_pe65]) rfl k) ?_
    show Way _ _ _ _ (T44.setTop (mkF m 28 #[rv pb, iv 0, iv 3, rv a9, iv 0, rv x_pe65] []))
    refine Way.by (fun _ k => XS.aload X45.here hx rfl (hb hby dC31_28) rfl rfl k) ?_
    show Way _ _ _ _ (T44.setTop (mkF m 30 #[rv pb, iv 0, iv 3, rv a9, iv 0, rv x_pe65] [(.ref x_pe65)]))
    refine Way.by (fun _ k => XS.iload X45.here hx rfl (hb hby dC31_30) rfl k) ?_
    show Way _ _ _ _ (T44.setTop (mkF m 32 #[rv pb, iv 0, iv 3, rv a9, iv 0, rv x_pe65] [(.int 0), (.ref x_pe65)]))
    have GA74 : Arv Z T44.heap x_pe65 x_kk64 .byte (Int32.ofNat (2 * [cc0, cc1, cc2].length)) (StrChars.Road.wideBytes [cc0, cc1, cc2]) (.int 0) := F_062
    obtain ⟨_, _, ⟨T75, L77, k78, n79⟩, -, X76, ⟨Lc80, hQ81, l82, y83, z84⟩, st85⟩ := Jvm.LawKit.callS X45 hx (y := (⟨"java/lang/StringUTF16", "getChar", "([BI)C"⟩ : MethodName)) hown (mvT hZ (tw hw 102 rfl)) (mvT hZ (tw hw 103 rfl)) (mvT hZ (tw hw 72 rfl)) (mvT hZ (tw hw 104 rfl)) (by decide) (backOf (W := 0) (rmGC l Z a0 hw [] x_pe65 x_kk64 [cc0, cc1, cc2] 0 T44.heap n0 Z70 GA74 (leB rfl) hB (leB rfl) O71 SV SU) hZ (tw hw 104 rfl) (tw hw 72 rfl) (by decide) (by decide)) (g := (mkF m 32 #[rv pb, iv 0, iv 3, rv a9, iv 0, rv x_pe65] [(.int 0), (.ref x_pe65)])) rfl (by rw [hml]; rfl) (argsL := [(.ref x_pe65), (.int 0)]) (rest := []) (lenOf pdGC rfl) rfl (leW rfl) (hb hby dC31_32) (fun _ _ => ⟨rfl, rfl, (leB rfl), (leB rfl)⟩)
    dsimp only [Pt.U, Pt.locs, Pt.cells, Pt.slots] at X76 l82 y83 z84 st85 hQ81
    subst l82 y83 z84
    obtain ⟨rfl, N91, e87⟩ := hQ81
    have N86 := Fr.app N55 N91
    refine Way.by st85 ?_
    show Way _ _ _ _ (T75.setTop (mkF m 35 #[rv pb, iv 0, iv 3, rv a9, iv 0, rv x_pe65] [(.int ([cc0, cc1, cc2].getD 0 0))]))
    show Way _ _ _ _ (T75.setTop (mkF m 35 #[rv pb, iv 0, iv 3, rv a9, iv 0, rv x_pe65] [(.int cc0)]))
    refine Way.by (fun _ k => XS.sipush X76.here hx rfl (hb hby dC31_35) k) ?_
    show Way _ _ _ _ (T75.setTop (mkF m 38 #[rv pb, iv 0, iv 3, rv a9, iv 0, rv x_pe65] [(.int 255), (.int cc0)]))
    have b93 : (255 : Int32) < cc0 := hk0
    refine Way.by (fun _ k => XS.icmpYes X76.here hx rfl (pc0 := 38) (pc' := 54) rfl (hb hby dC31_38) rfl (tlt b93).2.2.1 (by decide) (by decide) k) ?_
    show Way _ _ _ _ (T75.setTop (mkF m 54 #[rv pb, iv 0, iv 3, rv a9, iv 0, rv x_pe65] []))
    refine Way.by (fun _ k => XS.aload X76.here hx rfl (hb hby dC31_54) rfl rfl k) ?_
    show Way _ _ _ _ (T75.setTop (mkF m 56 #[rv pb, iv 0, iv 3, rv a9, iv 0, rv x_pe65] [(.ref x_pe65)]))
    refine Way.ret (v := (some (.ref x_pe65))) X76 hlk (fun h => by rw [Bd.returns] at h; cases h) (fun fs hr => retOut X76 hx Bd.returns rfl (Or.inr (Or.inr (Or.inr (Or.inr ⟨rfl, rfl, rfl⟩)))) (hb hby dC31_56) hr) ?_ (by decide) (by decide)
    show QC33 Z pb kc cc0 cc1 cc2 h0 n0 _ T75.heap _
    rw [e87]
    exact ⟨x_pe65, x_kk64, rfl, N86, K72, hk68, F_062⟩
  · skip
    by_cases hk1 : (255 : Int32) < cc1
    · skip
      show Way _ _ _ _ (s₁.setTop (mkF m 0 #[rv pb, iv 0, iv 3, .unset, .unset, .unset] []))
      refine Way.by (fun _ k => XS.iloadN X0.here hx rfl (hb hby dC31_0) rfl k) ?_
      show Way _ _ _ _ (s₁.setTop (mkF m 1 #[rv pb, iv 0, iv 3, .unset, .unset, .unset] [(.int 3)]))
      obtain ⟨T94, h95, kc96, X97, e98, E99, A100, st101⟩ := newP X0 hx hZ (tw hw 19 rfl) e0 (g := (mkF m 1 #[rv pb, iv 0, iv 3, .unset, .unset, .unset] [(.int 3)])) rfl (hb hby dC31_1) rfl (by decide) (cap := 3) (by decide) (by decide) (by decide) (by decide)
      obtain ⟨a102, g103⟩ : ∃ z, z = h0.size := ⟨_, rfl⟩
      rw [← g103] at A100 st101
      have ne105 : pb ≠ a102 := Nat.ne_of_lt (Nat.lt_of_lt_of_eq H0.lt g103.symm)
      have nw106 : n0 ≤ a102 := Nat.le_trans Z0 (Nat.le_of_eq g103.symm)
      have hk107 : h0.size ≤ a102 := Nat.le_trans (Nat.le_refl h0.size) (Nat.le_of_eq g103.symm)
      have A108 := H0.ext E99
      have Z109 := Nat.le_trans Z0 E99.1
      have O110 := O0.ext E99
      have K111 := (Keep.refl h0 []).ext E99
      have hz112 := Nat.le_trans (Nat.le_refl h0.size) E99.1
      have V104 : Arv Z h95 a102 kc96 .byte (3 : Int32) [] (.int 0) := Arv.new A100 (by decide)
      refine Way.by st101 ?_
      show Way _ _ _ _ (T94.setTop (mkF m 3 #[rv pb, iv 0, iv 3, .unset, .unset, .unset] [(.ref a102)]))
      refine Way.by (fun _ k => XS.astoreN X97.here hx rfl (hb hby dC31_3) rfl rfl (l' := #[rv pb, iv 0, iv 3, rv a102, .unset, .unset]) rfl k) ?_
      show Way _ _ _ _ (T94.setTop (mkF m 4 #[rv pb, iv 0, iv 3, rv a102, .unset, .unset] []))
      refine Way.by (fun _ k => XS.aloadN X97.here hx rfl (hb hby dC31_4) rfl rfl k) ?_
      show Way _ _ _ _ (T94.setTop (mkF m 5 #[rv pb, iv 0, iv 3, rv a102, .unset, .unset] [(.ref pb)]))
      refine Way.by (fun _ k => XS.iloadN X97.here hx rfl (hb hby dC31_5) rfl k) ?_
      show Way _ _ _ _ (T94.setTop (mkF m 6 #[rv pb, iv 0, iv 3, rv a102, .unset, .unset] [(.int 0), (.ref pb)]))
      refine Way.by (fun _ k => XS.aloadN X97.here hx rfl (hb hby dC31_6) rfl rfl k) ?_
      show Way _ _ _ _ (T94.setTop (mkF m 7 #[rv pb, iv 0, iv 3, rv a102, .unset, .unset] [(.ref a102), (.int 0), (.ref pb)]))
      refine Way.by (fun _ k => XS.iconst X97.here hx rfl (hb hby dC31_7) k) ?_
      show Way _ _ _ _ (T94.setTop (mkF m 8 #[rv pb, iv 0, iv 3, rv a102, .unset, .unset] [(.int 0), (.ref a102), (.int 0), (.ref pb)]))
      refine Way.by (fun _ k => XS.iloadN X97.here hx rfl (hb hby dC31_8) rfl k) ?_
      show Way _ _ _ _ (T94.setTop (mkF m 9 #[rv pb, iv 0, iv 3, rv a102, .unset, .unset] [(.int 3), (.int 0), (.ref a102), (.int 0), (.ref pb)]))
      obtain ⟨_, _, ⟨T113, L115, k116, n117⟩, -, X114, ⟨Lc118, hQ119, l120, y121, z122⟩, st123⟩ := Jvm.LawKit.callS X97 hx (y := (⟨"java/lang/StringUTF16", "compress", "([CI[BII)I"⟩ : MethodName)) hown (mvT hZ (tw hw 74 rfl)) (mvT hZ (tw hw 75 rfl)) (mvT hZ (tw hw 72 rfl)) (mvT hZ (tw hw 76 rfl)) (by decide) (backOf (W := 0) (rmC531 l Z a0 hw [] pb kc a102 kc96 cc0 cc1 cc2 h95 n0 Z109 A108 V104 hk0 hk1 ne105 nw106) hZ (tw hw 76 rfl) (tw hw 72 rfl) (by decide) (by decide)) (g := (mkF m 9 #[rv pb, iv 0, iv 3, rv a102, .unset, .unset] [(.int 3), (.int 0), (.ref a102), (.int 0), (.ref pb)])) rfl (by rw [hml]; rfl) (argsL := [(.ref pb), (.int 0), (.ref a102), (.int 0), (.int 3)]) (rest := []) (lenOf pdC510 rfl) rfl (leW rfl) (hb hby dC31_9) (fun _ _ => ⟨rfl, e98, (leB rfl), (leB rfl)⟩)
      dsimp only [Pt.U, Pt.locs, Pt.cells, Pt.slots] at X114 l120 y121 z122 st123 hQ119
      subst l120 y121 z122
      obtain ⟨rfl, N129, K130⟩ := hQ119
      have N124 := Fr.app N0 N129
      have A131 := A108.keep K130 (ninS ne105 nin0)
      have Z132 := Nat.le_trans Z109 K130.1
      have O133 := O110.keep K130 (allS nw106 all0)
      have K134 := K111.trans K130 (allS (Or.inr hk107) all0)
      have hz135 := Nat.le_trans hz112 K130.1
      refine Way.by st123 ?_
      show Way _ _ _ _ (T113.setTop (mkF m 12 #[rv pb, iv 0, iv 3, rv a102, .unset, .unset] [(.int 1)]))
      refine Way.by (fun _ k => XS.istore X114.here hx rfl (hb hby dC31_12) rfl (l' := #[rv pb, iv 0, iv 3, rv a102, iv 1, .unset]) rfl k) ?_
      show Way _ _ _ _ (T113.setTop (mkF m 14 #[rv pb, iv 0, iv 3, rv a102, iv 1, .unset] []))
      refine Way.by (fun _ k => XS.iload X114.here hx rfl (hb hby dC31_14) rfl k) ?_
      show Way _ _ _ _ (T113.setTop (mkF m 16 #[rv pb, iv 0, iv 3, rv a102, iv 1, .unset] [(.int 1)]))
      refine Way.by (fun _ k => XS.iloadN X114.here hx rfl (hb hby dC31_16) rfl k) ?_
      show Way _ _ _ _ (T113.setTop (mkF m 17 #[rv pb, iv 0, iv 3, rv a102, iv 1, .unset] [(.int 3), (.int 1)]))
      have b136 : ¬ (1 : Int32) = (3 : Int32) := by decide
      refine Way.by (fun _ k => XS.icmpNo X114.here hx rfl (hb hby dC31_17) rfl (feq b136).1 k) ?_
      show Way _ _ _ _ (T113.setTop (mkF m 20 #[rv pb, iv 0, iv 3, rv a102, iv 1, .unset] []))
      refine Way.by (fun _ k => XS.aloadN X114.here hx rfl (hb hby dC31_20) rfl rfl k) ?_
      show Way _ _ _ _ (T113.setTop (mkF m 21 #[rv pb, iv 0, iv 3, rv a102, iv 1, .unset] [(.ref pb)]))
      refine Way.by (fun _ k => XS.iloadN X114.here hx rfl (hb hby dC31_21) rfl k) ?_
      show Way _ _ _ _ (T113.setTop (mkF m 22 #[rv pb, iv 0, iv 3, rv a102, iv 1, .unset] [(.int 0), (.ref pb)]))
      refine Way.by (fun _ k => XS.iloadN X114.here hx rfl (hb hby dC31_22) rfl k) ?_
      show Way _ _ _ _ (T113.setTop (mkF m 23 #[rv pb, iv 0, iv 3, rv a102, iv 1, .unset] [(.int 3), (.int 0), (.ref pb)]))
      obtain ⟨_, _, ⟨T137, L139, k140, n141⟩, -, X138, ⟨Lc142, hQ143, l144, y145, z146⟩, st147⟩ := Jvm.LawKit.callS X114 hx (y := (⟨"java/lang/StringUTF16", "toBytes", "([CII)[B"⟩ : MethodName)) hown (mvT hZ (tw hw 86 rfl)) (mvT hZ (tw hw 87 rfl)) (mvT hZ (tw hw 72 rfl)) (mvT hZ (tw hw 88 rfl)) (by decide) (backOf (W := 0) (rmTB3 l Z a0 hw [] pb kc cc0 cc1 cc2 T113.heap n0 Z132 A131 O133 SV SU) hZ (tw hw 88 rfl) (tw hw 72 rfl) (by decide) (by decide)) (g := (mkF m 23 #[rv pb, iv 0, iv 3, rv a102, iv 1, .unset] [(.int 3), (.int 0), (.ref pb)])) rfl (by rw [hml]; rfl) (argsL := [(.ref pb), (.int 0), (.int 3)]) (rest := []) (lenOf pdTB1 rfl) rfl (leW rfl) (hb hby dC31_23) (fun _ _ => ⟨rfl, rfl, (leB rfl), (leB rfl)⟩)
      dsimp only [Pt.U, Pt.locs, Pt.cells, Pt.slots] at X138 l144 y145 z146 st147 hQ143
      subst l144 y145 z146
      obtain ⟨x_pe158, x_kk157, rfl, N153, K154, fr_pe156, F_0155⟩ := hQ143
      have N148 := Fr.app N124 N153
      have ne159 : pb ≠ x_pe158 := Nat.ne_of_lt (Nat.lt_of_lt_of_le A131.lt fr_pe156)
      have nw160 : n0 ≤ x_pe158 := Nat.le_trans Z132 fr_pe156
      have hk161 : h0.size ≤ x_pe158 := Nat.le_trans hz135 fr_pe156
      have A162 := A131.keep K154 nin0
      have Z163 := Nat.le_trans Z132 K154.1
      have O164 := O133.keep K154 all0
      have K165 := K134.trans K154 all0
      have hz166 := Nat.le_trans hz135 K154.1
      refine Way.by st147 ?_
      show Way _ _ _ _ (T137.setTop (mkF m 26 #[rv pb, iv 0, iv 3, rv a102, iv 1, .unset] [(.ref x_pe158)]))
      refine Way.by (fun _ k => XS.astore X138.here hx rfl (hb hby dC31_26) rfl rfl (l' := #[rv pb, iv 0, iv 3, rv a102, iv 1, rv x_pe158]) rfl k) ?_
      show Way _ _ _ _ (T137.setTop (mkF m 28 #[rv pb, iv 0, iv 3, rv a102, iv 1, rv x_pe158] []))
      refine Way.by (fun _ k => XS.aload X138.here hx rfl (hb hby dC31_28) rfl rfl k) ?_
      show Way _ _ _ _ (T137.setTop (mkF m 30 #[rv pb, iv 0, iv 3, rv a102, iv 1, rv x_pe158] [(.ref x_pe158)]))
      refine Way.by (fun _ k => XS.iload X138.here hx rfl (hb hby dC31_30) rfl k) ?_
      show Way _ _ _ _ (T137.setTop (mkF m 32 #[rv pb, iv 0, iv 3, rv a102, iv 1, rv x_pe158] [(.int 1), (.ref x_pe158)]))
      have GA167 : Arv Z T137.heap x_pe158 x_kk157 .byte (Int32.ofNat (2 * [cc0, cc1, cc2].length)) (StrChars.Road.wideBytes [cc0, cc1, cc2]) (.int 0) := F_0155
      obtain ⟨_, _, ⟨T168, L170, k171, n172⟩, -, X169, ⟨Lc173, hQ174, l175, y176, z177⟩, st178⟩ := Jvm.LawKit.callS X138 hx (y := (⟨"java/lang/StringUTF16", "getChar", "([BI)C"⟩ : MethodName)) hown (mvT hZ (tw hw 102 rfl)) (mvT hZ (tw hw 103 rfl)) (mvT hZ (tw hw 72 rfl)) (mvT hZ (tw hw 104 rfl)) (by decide) (backOf (W := 0) (rmGC l Z a0 hw [] x_pe158 x_kk157 [cc0, cc1, cc2] 1 T137.heap n0 Z163 GA167 (leB rfl) hB (leB rfl) O164 SV SU) hZ (tw hw 104 rfl) (tw hw 72 rfl) (by decide) (by decide)) (g := (mkF m 32 #[rv pb, iv 0, iv 3, rv a102, iv 1, rv x_pe158] [(.int 1), (.ref x_pe158)])) rfl (by rw [hml]; rfl) (argsL := [(.ref x_pe158), (.int 1)]) (rest := []) (lenOf pdGC rfl) rfl (leW rfl) (hb hby dC31_32) (fun _ _ => ⟨rfl, rfl, (leB rfl), (leB rfl)⟩)
      dsimp only [Pt.U, Pt.locs, Pt.cells, Pt.slots] at X169 l175 y176 z177 st178 hQ174
      subst l175 y176 z177
      obtain ⟨rfl, N184, e180⟩ := hQ174
      have N179 := Fr.app N148 N184
      refine Way.by st178 ?_
      show Way _ _ _ _ (T168.setTop (mkF m 35 #[rv pb, iv 0, iv 3, rv a102, iv 1, rv x_pe158] [(.int ([cc0, cc1, cc2].getD 1 0))]))
      show Way _ _ _ _ (T168.setTop (mkF m 35 #[rv pb, iv 0, iv 3, rv a102, iv 1, rv x_pe158] [(.int cc1)]))
      refine Way.by (fun _ k => XS.sipush X169.here hx rfl (hb hby dC31_35) k) ?_
      show Way _ _ _ _ (T168.setTop (mkF m 38 #[rv pb, iv 0, iv 3, rv a102, iv 1, rv x_pe158] [(.int 255), (.int cc1)]))
      have b186 : (255 : Int32) < cc1 := hk1
      refine Way.by (fun _ k => XS.icmpYes X169.here hx rfl (pc0 := 38) (pc' := 54) rfl (hb hby dC31_38) rfl (tlt b186).2.2.1 (by decide) (by decide) k) ?_
      show Way _ _ _ _ (T168.setTop (mkF m 54 #[rv pb, iv 0, iv 3, rv a102, iv 1, rv x_pe158] []))
      refine Way.by (fun _ k => XS.aload X169.here hx rfl (hb hby dC31_54) rfl rfl k) ?_
      show Way _ _ _ _ (T168.setTop (mkF m 56 #[rv pb, iv 0, iv 3, rv a102, iv 1, rv x_pe158] [(.ref x_pe158)]))
      refine Way.ret (v := (some (.ref x_pe158))) X169 hlk (fun h => by rw [Bd.returns] at h; cases h) (fun fs hr => retOut X169 hx Bd.returns rfl (Or.inr (Or.inr (Or.inr (Or.inr ⟨rfl, rfl, rfl⟩)))) (hb hby dC31_56) hr) ?_ (by decide) (by decide)
      show QC33 Z pb kc cc0 cc1 cc2 h0 n0 _ T168.heap _
      rw [e180]
      exact ⟨x_pe158, x_kk157, rfl, N179, K165, hk161, F_0155⟩
    · skip
      have hk2 : (255 : Int32) < cc2 := ((hU.resolve_left hk0).resolve_left hk1)
      show Way _ _ _ _ (s₁.setTop (mkF m 0 #[rv pb, iv 0, iv 3, .unset, .unset, .unset] []))
      refine Way.by (fun _ k => XS.iloadN X0.here hx rfl (hb hby dC31_0) rfl k) ?_
      show Way _ _ _ _ (s₁.setTop (mkF m 1 #[rv pb, iv 0, iv 3, .unset, .unset, .unset] [(.int 3)]))
      obtain ⟨T187, h188, kc189, X190, e191, E192, A193, st194⟩ := newP X0 hx hZ (tw hw 19 rfl) e0 (g := (mkF m 1 #[rv pb, iv 0, iv 3, .unset, .unset, .unset] [(.int 3)])) rfl (hb hby dC31_1) rfl (by decide) (cap := 3) (by decide) (by decide) (by decide) (by decide)
      obtain ⟨a195, g196⟩ : ∃ z, z = h0.size := ⟨_, rfl⟩
      rw [← g196] at A193 st194
      have ne198 : pb ≠ a195 := Nat.ne_of_lt (Nat.lt_of_lt_of_eq H0.lt g196.symm)
      have nw199 : n0 ≤ a195 := Nat.le_trans Z0 (Nat.le_of_eq g196.symm)
      have hk200 : h0.size ≤ a195 := Nat.le_trans (Nat.le_refl h0.size) (Nat.le_of_eq g196.symm)
      have A201 := H0.ext E192
      have Z202 := Nat.le_trans Z0 E192.1
      have O203 := O0.ext E192
      have K204 := (Keep.refl h0 []).ext E192
      have hz205 := Nat.le_trans (Nat.le_refl h0.size) E192.1
      have V197 : Arv Z h188 a195 kc189 .byte (3 : Int32) [] (.int 0) := Arv.new A193 (by decide)
      refine Way.by st194 ?_
      show Way _ _ _ _ (T187.setTop (mkF m 3 #[rv pb, iv 0, iv 3, .unset, .unset, .unset] [(.ref a195)]))
      refine Way.by (fun _ k => XS.astoreN X190.here hx rfl (hb hby dC31_3) rfl rfl (l' := #[rv pb, iv 0, iv 3, rv a195, .unset, .unset]) rfl k) ?_
      show Way _ _ _ _ (T187.setTop (mkF m 4 #[rv pb, iv 0, iv 3, rv a195, .unset, .unset] []))
      refine Way.by (fun _ k => XS.aloadN X190.here hx rfl (hb hby dC31_4) rfl rfl k) ?_
      show Way _ _ _ _ (T187.setTop (mkF m 5 #[rv pb, iv 0, iv 3, rv a195, .unset, .unset] [(.ref pb)]))
      refine Way.by (fun _ k => XS.iloadN X190.here hx rfl (hb hby dC31_5) rfl k) ?_
      show Way _ _ _ _ (T187.setTop (mkF m 6 #[rv pb, iv 0, iv 3, rv a195, .unset, .unset] [(.int 0), (.ref pb)]))
      refine Way.by (fun _ k => XS.aloadN X190.here hx rfl (hb hby dC31_6) rfl rfl k) ?_
      show Way _ _ _ _ (T187.setTop (mkF m 7 #[rv pb, iv 0, iv 3, rv a195, .unset, .unset] [(.ref a195), (.int 0), (.ref pb)]))
      refine Way.by (fun _ k => XS.iconst X190.here hx rfl (hb hby dC31_7) k) ?_
      show Way _ _ _ _ (T187.setTop (mkF m 8 #[rv pb, iv 0, iv 3, rv a195, .unset, .unset] [(.int 0), (.ref a195), (.int 0), (.ref pb)]))
      refine Way.by (fun _ k => XS.iloadN X190.here hx rfl (hb hby dC31_8) rfl k) ?_
      show Way _ _ _ _ (T187.setTop (mkF m 9 #[rv pb, iv 0, iv 3, rv a195, .unset, .unset] [(.int 3), (.int 0), (.ref a195), (.int 0), (.ref pb)]))
      obtain ⟨_, _, ⟨T206, L208, k209, n210⟩, -, X207, ⟨Lc211, hQ212, l213, y214, z215⟩, st216⟩ := Jvm.LawKit.callS X190 hx (y := (⟨"java/lang/StringUTF16", "compress", "([CI[BII)I"⟩ : MethodName)) hown (mvT hZ (tw hw 74 rfl)) (mvT hZ (tw hw 75 rfl)) (mvT hZ (tw hw 72 rfl)) (mvT hZ (tw hw 76 rfl)) (by decide) (backOf (W := 0) (rmC532 l Z a0 hw [] pb kc a195 kc189 cc0 cc1 cc2 h188 n0 Z202 A201 V197 hk0 hk1 hk2 ne198 nw199) hZ (tw hw 76 rfl) (tw hw 72 rfl) (by decide) (by decide)) (g := (mkF m 9 #[rv pb, iv 0, iv 3, rv a195, .unset, .unset] [(.int 3), (.int 0), (.ref a195), (.int 0), (.ref pb)])) rfl (by rw [hml]; rfl) (argsL := [(.ref pb), (.int 0), (.ref a195), (.int 0), (.int 3)]) (rest := []) (lenOf pdC510 rfl) rfl (leW rfl) (hb hby dC31_9) (fun _ _ => ⟨rfl, e191, (leB rfl), (leB rfl)⟩)
      dsimp only [Pt.U, Pt.locs, Pt.cells, Pt.slots] at X207 l213 y214 z215 st216 hQ212
      subst l213 y214 z215
      obtain ⟨rfl, N222, K223⟩ := hQ212
      have N217 := Fr.app N0 N222
      have A224 := A201.keep K223 (ninS ne198 nin0)
      have Z225 := Nat.le_trans Z202 K223.1
      have O226 := O203.keep K223 (allS nw199 all0)
      have K227 := K204.trans K223 (allS (Or.inr hk200) all0)
      have hz228 := Nat.le_trans hz205 K223.1
      refine Way.by st216 ?_
      show Way _ _ _ _ (T206.setTop (mkF m 12 #[rv pb, iv 0, iv 3, rv a195, .unset, .unset] [(.int 2)]))
      refine Way.by (fun _ k => XS.istore X207.here hx rfl (hb hby dC31_12) rfl (l' := #[rv pb, iv 0, iv 3, rv a195, iv 2, .unset]) rfl k) ?_
      show Way _ _ _ _ (T206.setTop (mkF m 14 #[rv pb, iv 0, iv 3, rv a195, iv 2, .unset] []))
      refine Way.by (fun _ k => XS.iload X207.here hx rfl (hb hby dC31_14) rfl k) ?_
      show Way _ _ _ _ (T206.setTop (mkF m 16 #[rv pb, iv 0, iv 3, rv a195, iv 2, .unset] [(.int 2)]))
      refine Way.by (fun _ k => XS.iloadN X207.here hx rfl (hb hby dC31_16) rfl k) ?_
      show Way _ _ _ _ (T206.setTop (mkF m 17 #[rv pb, iv 0, iv 3, rv a195, iv 2, .unset] [(.int 3), (.int 2)]))
      have b229 : ¬ (2 : Int32) = (3 : Int32) := by decide
      refine Way.by (fun _ k => XS.icmpNo X207.here hx rfl (hb hby dC31_17) rfl (feq b229).1 k) ?_
      show Way _ _ _ _ (T206.setTop (mkF m 20 #[rv pb, iv 0, iv 3, rv a195, iv 2, .unset] []))
      refine Way.by (fun _ k => XS.aloadN X207.here hx rfl (hb hby dC31_20) rfl rfl k) ?_
      show Way _ _ _ _ (T206.setTop (mkF m 21 #[rv pb, iv 0, iv 3, rv a195, iv 2, .unset] [(.ref pb)]))
      refine Way.by (fun _ k => XS.iloadN X207.here hx rfl (hb hby dC31_21) rfl k) ?_
      show Way _ _ _ _ (T206.setTop (mkF m 22 #[rv pb, iv 0, iv 3, rv a195, iv 2, .unset] [(.int 0), (.ref pb)]))
      refine Way.by (fun _ k => XS.iloadN X207.here hx rfl (hb hby dC31_22) rfl k) ?_
      show Way _ _ _ _ (T206.setTop (mkF m 23 #[rv pb, iv 0, iv 3, rv a195, iv 2, .unset] [(.int 3), (.int 0), (.ref pb)]))
      obtain ⟨_, _, ⟨T230, L232, k233, n234⟩, -, X231, ⟨Lc235, hQ236, l237, y238, z239⟩, st240⟩ := Jvm.LawKit.callS X207 hx (y := (⟨"java/lang/StringUTF16", "toBytes", "([CII)[B"⟩ : MethodName)) hown (mvT hZ (tw hw 86 rfl)) (mvT hZ (tw hw 87 rfl)) (mvT hZ (tw hw 72 rfl)) (mvT hZ (tw hw 88 rfl)) (by decide) (backOf (W := 0) (rmTB3 l Z a0 hw [] pb kc cc0 cc1 cc2 T206.heap n0 Z225 A224 O226 SV SU) hZ (tw hw 88 rfl) (tw hw 72 rfl) (by decide) (by decide)) (g := (mkF m 23 #[rv pb, iv 0, iv 3, rv a195, iv 2, .unset] [(.int 3), (.int 0), (.ref pb)])) rfl (by rw [hml]; rfl) (argsL := [(.ref pb), (.int 0), (.int 3)]) (rest := []) (lenOf pdTB1 rfl) rfl (leW rfl) (hb hby dC31_23) (fun _ _ => ⟨rfl, rfl, (leB rfl), (leB rfl)⟩)
      dsimp only [Pt.U, Pt.locs, Pt.cells, Pt.slots] at X231 l237 y238 z239 st240 hQ236
      subst l237 y238 z239
      obtain ⟨x_pe251, x_kk250, rfl, N246, K247, fr_pe249, F_0248⟩ := hQ236
      have N241 := Fr.app N217 N246
      have ne252 : pb ≠ x_pe251 := Nat.ne_of_lt (Nat.lt_of_lt_of_le A224.lt fr_pe249)
      have nw253 : n0 ≤ x_pe251 := Nat.le_trans Z225 fr_pe249
      have hk254 : h0.size ≤ x_pe251 := Nat.le_trans hz228 fr_pe249
      have A255 := A224.keep K247 nin0
      have Z256 := Nat.le_trans Z225 K247.1
      have O257 := O226.keep K247 all0
      have K258 := K227.trans K247 all0
      have hz259 := Nat.le_trans hz228 K247.1
      refine Way.by st240 ?_
      show Way _ _ _ _ (T230.setTop (mkF m 26 #[rv pb, iv 0, iv 3, rv a195, iv 2, .unset] [(.ref x_pe251)]))
      refine Way.by (fun _ k => XS.astore X231.here hx rfl (hb hby dC31_26) rfl rfl (l' := #[rv pb, iv 0, iv 3, rv a195, iv 2, rv x_pe251]) rfl k) ?_
      show Way _ _ _ _ (T230.setTop (mkF m 28 #[rv pb, iv 0, iv 3, rv a195, iv 2, rv x_pe251] []))
      refine Way.by (fun _ k => XS.aload X231.here hx rfl (hb hby dC31_28) rfl rfl k) ?_
      show Way _ _ _ _ (T230.setTop (mkF m 30 #[rv pb, iv 0, iv 3, rv a195, iv 2, rv x_pe251] [(.ref x_pe251)]))
      refine Way.by (fun _ k => XS.iload X231.here hx rfl (hb hby dC31_30) rfl k) ?_
      show Way _ _ _ _ (T230.setTop (mkF m 32 #[rv pb, iv 0, iv 3, rv a195, iv 2, rv x_pe251] [(.int 2), (.ref x_pe251)]))
      have GA260 : Arv Z T230.heap x_pe251 x_kk250 .byte (Int32.ofNat (2 * [cc0, cc1, cc2].length)) (StrChars.Road.wideBytes [cc0, cc1, cc2]) (.int 0) := F_0248
      obtain ⟨_, _, ⟨T261, L263, k264, n265⟩, -, X262, ⟨Lc266, hQ267, l268, y269, z270⟩, st271⟩ := Jvm.LawKit.callS X231 hx (y := (⟨"java/lang/StringUTF16", "getChar", "([BI)C"⟩ : MethodName)) hown (mvT hZ (tw hw 102 rfl)) (mvT hZ (tw hw 103 rfl)) (mvT hZ (tw hw 72 rfl)) (mvT hZ (tw hw 104 rfl)) (by decide) (backOf (W := 0) (rmGC l Z a0 hw [] x_pe251 x_kk250 [cc0, cc1, cc2] 2 T230.heap n0 Z256 GA260 (leB rfl) hB (leB rfl) O257 SV SU) hZ (tw hw 104 rfl) (tw hw 72 rfl) (by decide) (by decide)) (g := (mkF m 32 #[rv pb, iv 0, iv 3, rv a195, iv 2, rv x_pe251] [(.int 2), (.ref x_pe251)])) rfl (by rw [hml]; rfl) (argsL := [(.ref x_pe251), (.int 2)]) (rest := []) (lenOf pdGC rfl) rfl (leW rfl) (hb hby dC31_32) (fun _ _ => ⟨rfl, rfl, (leB rfl), (leB rfl)⟩)
      dsimp only [Pt.U, Pt.locs, Pt.cells, Pt.slots] at X262 l268 y269 z270 st271 hQ267
      subst l268 y269 z270
      obtain ⟨rfl, N277, e273⟩ := hQ267
      have N272 := Fr.app N241 N277
      refine Way.by st271 ?_
      show Way _ _ _ _ (T261.setTop (mkF m 35 #[rv pb, iv 0, iv 3, rv a195, iv 2, rv x_pe251] [(.int ([cc0, cc1, cc2].getD 2 0))]))
      show Way _ _ _ _ (T261.setTop (mkF m 35 #[rv pb, iv 0, iv 3, rv a195, iv 2, rv x_pe251] [(.int cc2)]))
      refine Way.by (fun _ k => XS.sipush X262.here hx rfl (hb hby dC31_35) k) ?_
      show Way _ _ _ _ (T261.setTop (mkF m 38 #[rv pb, iv 0, iv 3, rv a195, iv 2, rv x_pe251] [(.int 255), (.int cc2)]))
      have b279 : (255 : Int32) < cc2 := hk2
      refine Way.by (fun _ k => XS.icmpYes X262.here hx rfl (pc0 := 38) (pc' := 54) rfl (hb hby dC31_38) rfl (tlt b279).2.2.1 (by decide) (by decide) k) ?_
      show Way _ _ _ _ (T261.setTop (mkF m 54 #[rv pb, iv 0, iv 3, rv a195, iv 2, rv x_pe251] []))
      refine Way.by (fun _ k => XS.aload X262.here hx rfl (hb hby dC31_54) rfl rfl k) ?_
      show Way _ _ _ _ (T261.setTop (mkF m 56 #[rv pb, iv 0, iv 3, rv a195, iv 2, rv x_pe251] [(.ref x_pe251)]))
      refine Way.ret (v := (some (.ref x_pe251))) X262 hlk (fun h => by rw [Bd.returns] at h; cases h) (fun fs hr => retOut X262 hx Bd.returns rfl (Or.inr (Or.inr (Or.inr (Or.inr ⟨rfl, rfl, rfl⟩)))) (hb hby dC31_56) hr) ?_ (by decide) (by decide)
      show QC33 Z pb kc cc0 cc1 cc2 h0 n0 _ T261.heap _
      rw [e273]
      exact ⟨x_pe251, x_kk250, rfl, N272, K258, hk254, F_0248⟩
def QCL3 (Z : State) (pe : Addr) (kk : ClassId) (cc0 : Int32) (cc1 : Int32) (cc2 : Int32) (h0 : Heap) (n0 : Nat) (v : Option Value) (h : Heap) (L : List Loc) : Prop := v = some (.int 1) ∧ Fr n0 L ∧ h = h0
set_option maxRecDepth 65536 in
set_option maxHeartbeats 40000000 in
theorem rmCL3 (l : Launch) (Z : State) (a0 : Array Value) (hw : ∀ d ∈ tables_1, d.before a0 Z = true) (ws : List Jvm.Cond) (pe : Addr) (kk : ClassId) (cc0 : Int32) (cc1 : Int32) (cc2 : Int32) (h0 : Heap) (n0 : Nat) (Z0 : n0 ≤ h0.size) (H0 : Arv Z h0 pe kk .byte (6 : Int32) [(.int (StrChars.lo8 cc0)), (.int (StrChars.hi8 cc0)), (.int (StrChars.lo8 cc1)), (.int (StrChars.hi8 cc1)), (.int (StrChars.lo8 cc2)), (.int (StrChars.hi8 cc2))] (.int 0)) :
    MetFree l (⟨"java/lang/StringUTF16", "coderFromArrayLen", "([BI)B"⟩ : MethodName) (head1 (Jvm.Cond.code (⟨"java/lang/StringUTF16", "coderFromArrayLen", "([BI)B"⟩ : MethodName) jdk_52_method_15_code 2 (some .byte) :: ws) ({ frames := 0, cells := 0, slots := 0, locals := 0 } : Room)) (fun aa U => aa = #[(.ref pe), (.int 3)] ∧ Z.Warmed39 U.vm ∧ U.heap = h0) (fun _ _ _ _ _ => True) (fun _ U oo U' => ∃ v L, oo = .returned v ∧ QCL3 Z pe kk cc0 cc1 cc2 h0 n0 v U'.heap L ∧ FrameEnd U oo U' L ({ frames := 0, cells := 0, slots := 0, locals := 0 } : Room).cells ({ frames := 0, cells := 0, slots := 0, locals := 0 } : Room).slots) := by
  refine MetFree.of_bodySF (plainFor_of_name pnGC) hisR ?_
  intro p e s m args below meth c s₁ Bd hml0 hP hK
  obtain ⟨rfl, hZ, hh⟩ := hP
  have hx := Bd.exec
  have hby := Bd.bytes
  have hlk : meth.locks = false := BodyLoose.notSynchronized Bd
  have hml : c.maxLocals = 2 := hml0
  have hown : s.vm.findClass "java/lang/StringUTF16" = some m.cls := findClass_of_methodNamed Bd.named
  have hnm := (name_of_methodNamed Bd.named Bd.method).1
  have X0 : Stand p l e ({ frames := 0, cells := 0, slots := 0, locals := 0 } : Room) s m #[(.ref pe), (.int 3)] below meth c s₁ [] 0 0 := Stand.of_body Bd
  have e0 : s₁.heap = h0 := by rw [← hh, Bd.state]; rfl
  have N0 := Fr.nil n0
  have ef : entryFrame m #[(.ref pe), (.int 3)] 2 = mkF m 0 #[rv pe, iv 3] [] := by first | (simp [entryFrame, mkF, argsToLocals, Value.category, maxLocals]; done) | rfl
  show Way p.tables e below (KQ s (QCL3 Z pe kk cc0 cc1 cc2 h0 n0) ({ frames := 0, cells := 0, slots := 0, locals := 0 } : Room).cells ({ frames := 0, cells := 0, slots := 0, locals := 0 } : Room).slots) (s₁.setTop (entryFrame m #[(.ref pe), (.int 3)] 2))
  rw [ef]
  refine Way.by (fun _ k => XS.iloadN X0.here hx rfl (hb hby dCL1_0) rfl k) ?_
  show Way _ _ _ _ (s₁.setTop (mkF m 1 #[rv pe, iv 3] [(.int 3)]))
  refine Way.by (fun _ k => XS.aloadN X0.here hx rfl (hb hby dCL1_1) rfl rfl k) ?_
  show Way _ _ _ _ (s₁.setTop (mkF m 2 #[rv pe, iv 3] [(.ref pe), (.int 3)]))
  obtain ⟨c1, A2, q3, S4, M5, H6, U7⟩ := id H0
  refine Way.by (fun t k => Stand.arraylength X0 hx (hpE e0 A2.1) (arrS hZ A2) (g := (mkF m 2 #[rv pe, iv 3] [(.ref pe), (.int 3)])) rfl rfl (hb hby dCL1_2) t k) ?_
  rw [len_of S4 M5]
  show Way _ _ _ _ (s₁.setTop (mkF m 3 #[rv pe, iv 3] [(.int 6), (.int 3)]))
  refine Way.by (fun _ k => XS.isub X0.here hx rfl (hb hby dCL1_3) rfl k) ?_
  show Way _ _ _ _ (s₁.setTop (mkF m 4 #[rv pe, iv 3] [(.int (-3 : Int32))]))
  refine Way.by (fun _ k => XS.bipush X0.here hx rfl (hb hby dCL1_4) k) ?_
  show Way _ _ _ _ (s₁.setTop (mkF m 6 #[rv pe, iv 3] [(.int 31), (.int (-3 : Int32))]))
  refine Way.by (fun _ k => XT.iushr X0.here hx rfl (hb hby dCL1_6) rfl k) ?_
  show Way _ _ _ _ (s₁.setTop (mkF m 7 #[rv pe, iv 3] [(.int (XT.ushr (-3 : Int32) (31 : Int32)))]))
  refine Way.by (fun _ k => XT.i2b X0.here hx rfl (hb hby dCL1_7) rfl k) ?_
  show Way _ _ _ _ (s₁.setTop (mkF m 8 #[rv pe, iv 3] [(.int (XT.ushr (-3 : Int32) (31 : Int32)).toInt8.toInt32)]))
  refine Way.ret (v := (some (.int (nar .byte (XT.ushr (-3 : Int32) (31 : Int32)).toInt8.toInt32)))) X0 hlk (fun h => by rw [Bd.returns] at h; cases h) (fun fs hr => retN X0 hx (t := .byte) Bd.returns (by simp) (hb hby dCL1_8) hr) ?_ (by decide) (by decide)
  show QCL3 Z pe kk cc0 cc1 cc2 h0 n0 _ s₁.heap _
  rw [e0]
  exact ⟨by first | rfl | decide, N0, rfl⟩
def QI43 (Z : State) (pa : Addr) (pb : Addr) (kc : ClassId) (cc0 : Int32) (cc1 : Int32) (cc2 : Int32) (h0 : Heap) (n0 : Nat) (v : Option Value) (h : Heap) (L : List Loc) : Prop := ∃ (pe : Addr) (kk : ClassId), v = none ∧ Fr n0 L ∧ Keep h0 h [pa] ∧ h0.size ≤ pe ∧ Exa Z h pa "java/lang/String" ∧ Fld Z h pa "java/lang/String" "value" "[B" (.ref pe) ∧ Fld Z h pa "java/lang/String" "coder" "B" (.int 1) ∧ Arv Z h pe kk .byte (6 : Int32) [(.int (StrChars.lo8 cc0)), (.int (StrChars.hi8 cc0)), (.int (StrChars.lo8 cc1)), (.int (StrChars.hi8 cc1)), (.int (StrChars.lo8 cc2)), (.int (StrChars.hi8 cc2))] (.int 0)
set_option maxRecDepth 65536 in
set_option maxHeartbeats 40000000 in
theorem rmI43 (l : Launch) (Z : State) (a0 : Array Value) (hw : ∀ d ∈ tables_1, d.before a0 Z = true) (ws : List Jvm.Cond) (pa : Addr) (pb : Addr) (kc : ClassId) (cc0 : Int32) (cc1 : Int32) (cc2 : Int32) (h0 : Heap) (n0 : Nat) (Z0 : n0 ≤ h0.size) (H0 : Exa Z h0 pa "java/lang/String") (H1 : Fld Z h0 pa "java/lang/String" "value" "[B" .null) (H2 : Fld Z h0 pa "java/lang/String" "coder" "B" (.int 0)) (H3 : Arv Z h0 pb kc .char (3 : Int32) [(.int cc0), (.int cc1), (.int cc2)] (.int 0)) (hB : ∀ c ∈ ([cc0, cc1, cc2] : List Int32), ¬ c < 0 ∧ ¬ (65535 : Int32) < c) (hU : (255 : Int32) < cc0 ∨ ((255 : Int32) < cc1 ∨ (255 : Int32) < cc2)) (ne_pb_pa : pb ≠ pa) (nw_pa : n0 ≤ pa) (O0 : Old Z n0 h0) (SV : own_Env Z) (SU : own_U16 Z) :
    MetFree l (⟨"java/lang/String", "<init>", "([CIILjava/lang/Void;)V"⟩ : MethodName) (head1 (Jvm.Cond.code (⟨"java/lang/String", "<init>", "([CIILjava/lang/Void;)V"⟩ : MethodName) jdk_42_method_149_code 6 none :: ws) ({ frames := 4, cells := 2, slots := 9, locals := 57 } : Room)) (fun aa U => aa = #[(.ref pa), (.ref pb), (.int 0), (.int 3), .null] ∧ Z.Warmed39 U.vm ∧ U.heap = h0) (fun _ _ _ _ _ => True) (fun _ U oo U' => ∃ v L, oo = .returned v ∧ QI43 Z pa pb kc cc0 cc1 cc2 h0 n0 v U'.heap L ∧ FrameEnd U oo U' L ({ frames := 4, cells := 2, slots := 9, locals := 57 } : Room).cells ({ frames := 4, cells := 2, slots := 9, locals := 57 } : Room).slots) := by
  refine MetFree.of_bodySF (plainFor_of_name pnSB) hisR ?_
  intro p e s m args below meth c s₁ Bd hml0 hP hK
  obtain ⟨rfl, hZ, hh⟩ := hP
  have hx := Bd.exec
  have hby := Bd.bytes
  have hlk : meth.locks = false := BodyLoose.notSynchronized Bd
  have hml : c.maxLocals = 6 := hml0
  have hown : s.vm.findClass "java/lang/String" = some m.cls := findClass_of_methodNamed Bd.named
  have hnm := (name_of_methodNamed Bd.named Bd.method).1
  have X0 : Stand p l e ({ frames := 4, cells := 2, slots := 9, locals := 57 } : Room) s m #[(.ref pa), (.ref pb), (.int 0), (.int 3), .null] below meth c s₁ [] 0 0 := Stand.of_body Bd
  have e0 : s₁.heap = h0 := by rw [← hh, Bd.state]; rfl
  have N0 := Fr.nil n0
  have ef : entryFrame m #[(.ref pa), (.ref pb), (.int 0), (.int 3), .null] 6 = mkF m 0 #[rv pa, rv pb, iv 0, iv 3, .val .null, .unset] [] := by first | (simp [entryFrame, mkF, argsToLocals, Value.category, maxLocals]; done) | rfl
  show Way p.tables e below (KQ s (QI43 Z pa pb kc cc0 cc1 cc2 h0 n0) ({ frames := 4, cells := 2, slots := 9, locals := 57 } : Room).cells ({ frames := 4, cells := 2, slots := 9, locals := 57 } : Room).slots) (s₁.setTop (entryFrame m #[(.ref pa), (.ref pb), (.int 0), (.int 3), .null] 6))
  rw [ef]
  obtain ⟨⟨G1, SG1, hG1⟩, G3, SG3, rG3⟩ := id SV
  refine Way.by (fun _ k => XS.aloadN X0.here hx rfl (hb hby dN4_0) rfl rfl k) ?_
  show Way _ _ _ _ (s₁.setTop (mkF m 1 #[rv pa, rv pb, iv 0, iv 3, .val .null, .unset] [(.ref pa)]))
  obtain ⟨T1, X2, e3, st4⟩ := initO X0 hx hZ hown (tw hw 15 rfl) (tw hw 16 rfl) (tw hw 17 rfl) e0 (g := (mkF m 1 #[rv pa, rv pb, iv 0, iv 3, .val .null, .unset] [(.ref pa)])) rfl (by rw [hml]; rfl) rfl (hb hby dN4_1) (by decide) (W := 0) (leW rfl) (by decide)
  refine Way.by st4 ?_
  show Way _ _ _ _ (T1.setTop (mkF m 4 #[rv pa, rv pb, iv 0, iv 3, .val .null, .unset] []))
  refine Way.by (fun _ k => XS.iloadN X2.here hx rfl (hb hby dN4_4) rfl k) ?_
  show Way _ _ _ _ (T1.setTop (mkF m 5 #[rv pa, rv pb, iv 0, iv 3, .val .null, .unset] [(.int 3)]))
  have b5 : ¬ (3 : Int32) = (0 : Int32) := by decide
  refine Way.by (fun _ k => XS.ifYes X2.here hx rfl (pc0 := 5) (pc' := 27) rfl (hb hby dN4_5) rfl ((if0 .ne _).trans (feq b5).2) (by decide) (by decide) k) ?_
  show Way _ _ _ _ (T1.setTop (mkF m 27 #[rv pa, rv pb, iv 0, iv 3, .val .null, .unset] []))
  obtain ⟨T6, X7, e8, st9⟩ := getS X2 hx hZ hown (host := "") (tw hw 45 rfl) Via.refl e3 (Sta.ext O0.2 SG1) (g := (mkF m 27 #[rv pa, rv pb, iv 0, iv 3, .val .null, .unset] [])) rfl (hb hby dI41_27)
  refine Way.by st9 ?_
  show Way _ _ _ _ (T6.setTop (mkF m 30 #[rv pa, rv pb, iv 0, iv 3, .val .null, .unset] [(.int G1)]))
  have b10 : ¬ G1 = (0 : Int32) := hG1
  refine Way.by (fun _ k => XS.ifNo X7.here hx rfl (hb hby dI41_30) rfl ((if0 .eq _).trans (feq b10).1) k) ?_
  show Way _ _ _ _ (T6.setTop (mkF m 33 #[rv pa, rv pb, iv 0, iv 3, .val .null, .unset] []))
  refine Way.by (fun _ k => XS.aloadN X7.here hx rfl (hb hby dI41_33) rfl rfl k) ?_
  show Way _ _ _ _ (T6.setTop (mkF m 34 #[rv pa, rv pb, iv 0, iv 3, .val .null, .unset] [(.ref pb)]))
  refine Way.by (fun _ k => XS.iloadN X7.here hx rfl (hb hby dI41_34) rfl k) ?_
  show Way _ _ _ _ (T6.setTop (mkF m 35 #[rv pa, rv pb, iv 0, iv 3, .val .null, .unset] [(.int 0), (.ref pb)]))
  refine Way.by (fun _ k => XS.iloadN X7.here hx rfl (hb hby dI41_35) rfl k) ?_
  show Way _ _ _ _ (T6.setTop (mkF m 36 #[rv pa, rv pb, iv 0, iv 3, .val .null, .unset] [(.int 3), (.int 0), (.ref pb)]))
  obtain ⟨_, _, ⟨T11, L13, k14, n15⟩, -, X12, ⟨Lc16, hQ17, l18, y19, z20⟩, st21⟩ := Jvm.LawKit.callS X7 hx (y := (⟨"java/lang/StringUTF16", "compress", "([CII)[B"⟩ : MethodName)) hown (mvT hZ (tw hw 70 rfl)) (mvT hZ (tw hw 71 rfl)) (mvT hZ (tw hw 72 rfl)) (mvT hZ (tw hw 73 rfl)) (by decide) (backOf (W := 0) (rmC33 l Z a0 hw [] pb kc cc0 cc1 cc2 h0 n0 Z0 H3 hB hU O0 SV SU) hZ (tw hw 73 rfl) (tw hw 72 rfl) (by decide) (by decide)) (g := (mkF m 36 #[rv pa, rv pb, iv 0, iv 3, .val .null, .unset] [(.int 3), (.int 0), (.ref pb)])) rfl (by rw [hml]; rfl) (argsL := [(.ref pb), (.int 0), (.int 3)]) (rest := []) (lenOf pdTB1 rfl) rfl (leW rfl) (hb hby dI41_36) (fun _ _ => ⟨rfl, e8, (leB rfl), (leB rfl)⟩)
  dsimp only [Pt.U, Pt.locs, Pt.cells, Pt.slots] at X12 l18 y19 z20 st21 hQ17
  subst l18 y19 z20
  obtain ⟨x_pe32, x_kk31, rfl, N27, K28, fr_pe30, F_029⟩ := hQ17
  have N22 := Fr.app N0 N27
  have ne33 : pa ≠ x_pe32 := Nat.ne_of_lt (Nat.lt_of_lt_of_le H0.lt fr_pe30)
  have ne34 : pb ≠ x_pe32 := Nat.ne_of_lt (Nat.lt_of_lt_of_le H3.lt fr_pe30)
  have nw35 : n0 ≤ x_pe32 := Nat.le_trans Z0 fr_pe30
  have hk36 : h0.size ≤ x_pe32 := Nat.le_trans (Nat.le_refl h0.size) fr_pe30
  have E37 := H0.keep K28
  have F38 := H1.keep K28 nin0
  have F39 := H2.keep K28 nin0
  have A40 := H3.keep K28 nin0
  have Z41 := Nat.le_trans Z0 K28.1
  have O42 := O0.keep K28 all0
  have K43 := (Keep.refl h0 [pa]).trans K28 all0
  have hz44 := Nat.le_trans (Nat.le_refl h0.size) K28.1
  refine Way.by st21 ?_
  show Way _ _ _ _ (T11.setTop (mkF m 39 #[rv pa, rv pb, iv 0, iv 3, .val .null, .unset] [(.ref x_pe32)]))
  refine Way.by (fun _ k => XS.astore X12.here hx rfl (hb hby dI41_39) rfl rfl (l' := #[rv pa, rv pb, iv 0, iv 3, .val .null, rv x_pe32]) rfl k) ?_
  show Way _ _ _ _ (T11.setTop (mkF m 41 #[rv pa, rv pb, iv 0, iv 3, .val .null, rv x_pe32] []))
  refine Way.by (fun _ k => XS.aloadN X12.here hx rfl (hb hby dI41_41) rfl rfl k) ?_
  show Way _ _ _ _ (T11.setTop (mkF m 42 #[rv pa, rv pb, iv 0, iv 3, .val .null, rv x_pe32] [(.ref pa)]))
  refine Way.by (fun _ k => XS.aload X12.here hx rfl (hb hby dI41_42) rfl rfl k) ?_
  show Way _ _ _ _ (T11.setTop (mkF m 44 #[rv pa, rv pb, iv 0, iv 3, .val .null, rv x_pe32] [(.ref x_pe32), (.ref pa)]))
  refine Way.by (fun _ k => XS.iloadN X12.here hx rfl (hb hby dI41_44) rfl k) ?_
  show Way _ _ _ _ (T11.setTop (mkF m 45 #[rv pa, rv pb, iv 0, iv 3, .val .null, rv x_pe32] [(.int 3), (.ref x_pe32), (.ref pa)]))
  obtain ⟨_, _, ⟨T45, L47, k48, n49⟩, -, X46, ⟨Lc50, hQ51, l52, y53, z54⟩, st55⟩ := Jvm.LawKit.callS X12 hx (y := (⟨"java/lang/StringUTF16", "coderFromArrayLen", "([BI)B"⟩ : MethodName)) hown (mvT hZ (tw hw 77 rfl)) (mvT hZ (tw hw 78 rfl)) (mvT hZ (tw hw 72 rfl)) (mvT hZ (tw hw 79 rfl)) (by decide) (backOf (W := 1) (rmCL3 l Z a0 hw [] x_pe32 x_kk31 cc0 cc1 cc2 T11.heap n0 Z41 F_029) hZ (tw hw 79 rfl) (tw hw 72 rfl) (by decide) (by decide)) (g := (mkF m 45 #[rv pa, rv pb, iv 0, iv 3, .val .null, rv x_pe32] [(.int 3), (.ref x_pe32), (.ref pa)])) rfl (by rw [hml]; rfl) (argsL := [(.ref x_pe32), (.int 3)]) (rest := [(.ref pa)]) (lenOf pdCL1 rfl) rfl (leW rfl) (hb hby dI41_45) (fun _ _ => ⟨rfl, rfl, (leB rfl), (leB rfl)⟩)
  dsimp only [Pt.U, Pt.locs, Pt.cells, Pt.slots] at X46 l52 y53 z54 st55 hQ51
  subst l52 y53 z54
  obtain ⟨rfl, N61, e57⟩ := hQ51
  have N56 := Fr.app N22 N61
  refine Way.by st55 ?_
  show Way _ _ _ _ (T45.setTop (mkF m 48 #[rv pa, rv pb, iv 0, iv 3, .val .null, rv x_pe32] [(.int 1), (.ref pa)]))
  obtain ⟨T63, h64, X65, e66, W67, st68⟩ := putF X46 hx hZ hown (host := "") (Or.inl (tw hw 25 rfl)) Via.refl e57 F39 E37 (Or.inr ⟨(tw hw 21 rfl), rfl, hnm⟩) (tw hw 6 rfl) (ty := .byte) (by decide) rfl rfl (g := (mkF m 48 #[rv pa, rv pb, iv 0, iv 3, .val .null, rv x_pe32] [(.int 1), (.ref pa)])) rfl rfl (hb hby dI41_48)
  have N69 := Fr.snoc X65 N56 nw_pa
  have E70 := Exa.wr W67 E37
  have F71 := F38.other W67 (Or.inr (slot_ne (Or.inr (tw hw 20 rfl)) (Or.inr (tw hw 21 rfl)) (by decide) (t := (.array .byte)) (t' := .byte) (by decide) (by decide)))
  have F72 : Fld Z h64 pa "java/lang/String" "coder" "B" (.int 1) := F39.same W67
  have A73 := A40.other W67 ne_pb_pa
  have A74 := F_029.other W67 ne33.symm
  have Z75 : n0 ≤ h64.size := by rw [W67.size]; exact Z41
  have O76 := O42.wr W67 nw_pa
  have K77 := K43.wr W67 (Or.inl (List.mem_of_getElem? (i := 0) rfl))
  have hz78 : h0.size ≤ h64.size := by rw [W67.size]; exact hz44
  refine Way.by st68 ?_
  show Way _ _ _ _ (T63.setTop (mkF m 51 #[rv pa, rv pb, iv 0, iv 3, .val .null, rv x_pe32] []))
  refine Way.by (fun _ k => XS.aloadN X65.here hx rfl (hb hby dI41_51) rfl rfl k) ?_
  show Way _ _ _ _ (T63.setTop (mkF m 52 #[rv pa, rv pb, iv 0, iv 3, .val .null, rv x_pe32] [(.ref pa)]))
  refine Way.by (fun _ k => XS.aload X65.here hx rfl (hb hby dI41_52) rfl rfl k) ?_
  show Way _ _ _ _ (T63.setTop (mkF m 54 #[rv pa, rv pb, iv 0, iv 3, .val .null, rv x_pe32] [(.ref x_pe32), (.ref pa)]))
  obtain ⟨T79, h80, X81, e82, W83, st84⟩ := putF X65 hx hZ hown (host := "") (Or.inl (tw hw 24 rfl)) Via.refl e66 F71 E70 (Or.inr ⟨(tw hw 20 rfl), rfl, hnm⟩) (tw hw 6 rfl) (ty := (.array .byte)) (by decide) rfl rfl (g := (mkF m 54 #[rv pa, rv pb, iv 0, iv 3, .val .null, rv x_pe32] [(.ref x_pe32), (.ref pa)])) rfl rfl (hb hby dI41_54)
  have N85 := Fr.snoc X81 N69 nw_pa
  have E86 := Exa.wr W83 E70
  have F87 : Fld Z h80 pa "java/lang/String" "value" "[B" (.ref x_pe32) := F71.same W83
  have F88 := F72.other W83 (Or.inr (slot_ne (Or.inr (tw hw 21 rfl)) (Or.inr (tw hw 20 rfl)) (by decide) (t := .byte) (t' := (.array .byte)) (by decide) (by decide)))
  have A89 := A73.other W83 ne_pb_pa
  have A90 := A74.other W83 ne33.symm
  have Z91 : n0 ≤ h80.size := by rw [W83.size]; exact Z75
  have O92 := O76.wr W83 nw_pa
  have K93 := K77.wr W83 (Or.inl (List.mem_of_getElem? (i := 0) rfl))
  have hz94 : h0.size ≤ h80.size := by rw [W83.size]; exact hz78
  refine Way.by st84 ?_
  show Way _ _ _ _ (T79.setTop (mkF m 57 #[rv pa, rv pb, iv 0, iv 3, .val .null, rv x_pe32] []))
  refine Way.ret (v := none) X81 hlk (fun _ => rfl) (fun fs hr => X81.returnOut hx Bd.returns (hb hby dI41_57) hr) ?_ (by decide) (by decide)
  show QI43 Z pa pb kc cc0 cc1 cc2 h0 n0 _ T79.heap _
  rw [e82]
  exact ⟨x_pe32, x_kk31, rfl, N85, K93, hk36, E86, F87, F88, A90⟩
def QI13 (Z : State) (pa : Addr) (pb : Addr) (kc : ClassId) (cc0 : Int32) (cc1 : Int32) (cc2 : Int32) (h0 : Heap) (n0 : Nat) (v : Option Value) (h : Heap) (L : List Loc) : Prop := ∃ (pe : Addr) (kk : ClassId), v = none ∧ Fr n0 L ∧ Keep h0 h [pa] ∧ h0.size ≤ pe ∧ Exa Z h pa "java/lang/String" ∧ Fld Z h pa "java/lang/String" "value" "[B" (.ref pe) ∧ Fld Z h pa "java/lang/String" "coder" "B" (.int 1) ∧ Arv Z h pe kk .byte (6 : Int32) [(.int (StrChars.lo8 cc0)), (.int (StrChars.hi8 cc0)), (.int (StrChars.lo8 cc1)), (.int (StrChars.hi8 cc1)), (.int (StrChars.lo8 cc2)), (.int (StrChars.hi8 cc2))] (.int 0)
set_option maxRecDepth 65536 in
set_option maxHeartbeats 40000000 in
theorem rmI13 (l : Launch) (Z : State) (a0 : Array Value) (hw : ∀ d ∈ tables_1, d.before a0 Z = true) (ws : List Jvm.Cond) (pa : Addr) (pb : Addr) (kc : ClassId) (cc0 : Int32) (cc1 : Int32) (cc2 : Int32) (h0 : Heap) (n0 : Nat) (Z0 : n0 ≤ h0.size) (H0 : Exa Z h0 pa "java/lang/String") (H1 : Fld Z h0 pa "java/lang/String" "value" "[B" .null) (H2 : Fld Z h0 pa "java/lang/String" "coder" "B" (.int 0)) (H3 : Arv Z h0 pb kc .char (3 : Int32) [(.int cc0), (.int cc1), (.int cc2)] (.int 0)) (hB : ∀ c ∈ ([cc0, cc1, cc2] : List Int32), ¬ c < 0 ∧ ¬ (65535 : Int32) < c) (hU : (255 : Int32) < cc0 ∨ ((255 : Int32) < cc1 ∨ (255 : Int32) < cc2)) (ne_pb_pa : pb ≠ pa) (nw_pa : n0 ≤ pa) (O0 : Old Z n0 h0) (SV : own_Env Z) (SU : own_U16 Z) :
    MetFree l (⟨"java/lang/String", "<init>", "([C)V"⟩ : MethodName) (head1 (Jvm.Cond.code (⟨"java/lang/String", "<init>", "([C)V"⟩ : MethodName) jdk_42_method_3_code 2 none :: ws) ({ frames := 5, cells := 2, slots := 9, locals := 74 } : Room)) (fun aa U => aa = #[(.ref pa), (.ref pb)] ∧ Z.Warmed39 U.vm ∧ U.heap = h0) (fun _ _ _ _ _ => True) (fun _ U oo U' => ∃ v L, oo = .returned v ∧ QI13 Z pa pb kc cc0 cc1 cc2 h0 n0 v U'.heap L ∧ FrameEnd U oo U' L ({ frames := 5, cells := 2, slots := 9, locals := 74 } : Room).cells ({ frames := 5, cells := 2, slots := 9, locals := 74 } : Room).slots) := by
  refine MetFree.of_bodySF (plainFor_of_name pnSB) hisR ?_
  intro p e s m args below meth c s₁ Bd hml0 hP hK
  obtain ⟨rfl, hZ, hh⟩ := hP
  have hx := Bd.exec
  have hby := Bd.bytes
  have hlk : meth.locks = false := BodyLoose.notSynchronized Bd
  have hml : c.maxLocals = 2 := hml0
  have hown : s.vm.findClass "java/lang/String" = some m.cls := findClass_of_methodNamed Bd.named
  have hnm := (name_of_methodNamed Bd.named Bd.method).1
  have X0 : Stand p l e ({ frames := 5, cells := 2, slots := 9, locals := 74 } : Room) s m #[(.ref pa), (.ref pb)] below meth c s₁ [] 0 0 := Stand.of_body Bd
  have e0 : s₁.heap = h0 := by rw [← hh, Bd.state]; rfl
  have N0 := Fr.nil n0
  have ef : entryFrame m #[(.ref pa), (.ref pb)] 2 = mkF m 0 #[rv pa, rv pb] [] := by first | (simp [entryFrame, mkF, argsToLocals, Value.category, maxLocals]; done) | rfl
  show Way p.tables e below (KQ s (QI13 Z pa pb kc cc0 cc1 cc2 h0 n0) ({ frames := 5, cells := 2, slots := 9, locals := 74 } : Room).cells ({ frames := 5, cells := 2, slots := 9, locals := 74 } : Room).slots) (s₁.setTop (entryFrame m #[(.ref pa), (.ref pb)] 2))
  rw [ef]
  refine Way.by (fun _ k => XS.aloadN X0.here hx rfl (hb hby dN1_0) rfl rfl k) ?_
  show Way _ _ _ _ (s₁.setTop (mkF m 1 #[rv pa, rv pb] [(.ref pa)]))
  refine Way.by (fun _ k => XS.aloadN X0.here hx rfl (hb hby dN1_1) rfl rfl k) ?_
  show Way _ _ _ _ (s₁.setTop (mkF m 2 #[rv pa, rv pb] [(.ref pb), (.ref pa)]))
  refine Way.by (fun _ k => XS.iconst X0.here hx rfl (hb hby dN1_2) k) ?_
  show Way _ _ _ _ (s₁.setTop (mkF m 3 #[rv pa, rv pb] [(.int 0), (.ref pb), (.ref pa)]))
  refine Way.by (fun _ k => XS.aloadN X0.here hx rfl (hb hby dN1_3) rfl rfl k) ?_
  show Way _ _ _ _ (s₁.setTop (mkF m 4 #[rv pa, rv pb] [(.ref pb), (.int 0), (.ref pb), (.ref pa)]))
  obtain ⟨c1, A2, q3, S4, M5, H6, U7⟩ := id H3
  refine Way.by (fun t k => Stand.arraylength X0 hx (hpE e0 A2.1) (arrS hZ A2) (g := (mkF m 4 #[rv pa, rv pb] [(.ref pb), (.int 0), (.ref pb), (.ref pa)])) rfl rfl (hb hby dN1_4) t k) ?_
  rw [len_of S4 M5]
  show Way _ _ _ _ (s₁.setTop (mkF m 5 #[rv pa, rv pb] [(.int 3), (.int 0), (.ref pb), (.ref pa)]))
  refine Way.by (fun _ k => XS.aconstNull X0.here hx rfl (hb hby dN1_5) k) ?_
  show Way _ _ _ _ (s₁.setTop (mkF m 6 #[rv pa, rv pb] [.null, (.int 3), (.int 0), (.ref pb), (.ref pa)]))
  obtain ⟨_, _, ⟨T8, L10, k11, n12⟩, -, X9, ⟨Lc13, hQ14, l15, y16, z17⟩, st18⟩ := X0.specialBack hx (y := (⟨"java/lang/String", "<init>", "([CIILjava/lang/Void;)V"⟩ : MethodName)) rfl hown (mvT hZ (tw hw 11 rfl)) (mvT hZ (tw hw 12 rfl)) (mvT hZ (tw hw 14 rfl)) (by decide) (backOf (W := 0) (rmI43 l Z a0 hw [] pa pb kc cc0 cc1 cc2 h0 n0 Z0 H0 H1 H2 H3 hB hU ne_pb_pa nw_pa O0 SV SU) hZ (tw hw 14 rfl) (tw hw 7 rfl) (by decide) (by decide)) (g := (mkF m 6 #[rv pa, rv pb] [.null, (.int 3), (.int 0), (.ref pb), (.ref pa)])) rfl (by rw [hml]; rfl) (Steps.refl _) (a := pa) (argsL := [(.ref pb), (.int 0), (.int 3), .null]) (rest := []) (lenOf pdN4 rfl) rfl (leW rfl) (hb hby dN1_6) (fun _ _ => ⟨rfl, e0, (leB rfl), (leB rfl)⟩)
  dsimp only [Pt.U, Pt.locs, Pt.cells, Pt.slots] at X9 l15 y16 z17 st18 hQ14
  subst l15 y16 z17
  obtain ⟨x_pe32, x_kk31, rfl, N24, K25, fr_pe30, F_026, F_127, F_228, F_329⟩ := hQ14
  have N19 := Fr.app N0 N24
  have ne33 : pa ≠ x_pe32 := Nat.ne_of_lt (Nat.lt_of_lt_of_le H0.lt fr_pe30)
  have ne34 : pb ≠ x_pe32 := Nat.ne_of_lt (Nat.lt_of_lt_of_le H3.lt fr_pe30)
  have nw35 : n0 ≤ x_pe32 := Nat.le_trans Z0 fr_pe30
  have hk36 : h0.size ≤ x_pe32 := Nat.le_trans (Nat.le_refl h0.size) fr_pe30
  have E37 := H0.keep K25
  have A38 := H3.keep K25 (ninS ne_pb_pa nin0)
  have Z39 := Nat.le_trans Z0 K25.1
  have O40 := O0.keep K25 (allS nw_pa all0)
  have K41 := (Keep.refl h0 [pa]).trans K25 (allS (Or.inl (List.mem_of_getElem? (i := 0) rfl)) all0)
  have hz42 := Nat.le_trans (Nat.le_refl h0.size) K25.1
  refine Way.to st18 ?_
  show Way _ _ _ _ (T8.setTop (mkF m 9 #[rv pa, rv pb] []))
  refine Way.ret (v := none) X9 hlk (fun _ => rfl) (fun fs hr => X9.returnOut hx Bd.returns (hb hby dN1_9) hr) ?_ (by decide) (by decide)
  show QI13 Z pa pb kc cc0 cc1 cc2 h0 n0 _ T8.heap _
  skip
  exact ⟨x_pe32, x_kk31, rfl, N19, K41, hk36, F_026, F_127, F_228, F_329⟩
def Q0 (n0 : Nat) (v : Option Value) (h : Heap) (L : List Loc) : Prop := v = some (.int 1) ∧ Fr n0 L
set_option maxRecDepth 65536 in
set_option maxHeartbeats 40000000 in
theorem seg110n0 (l : Launch) (Z : State) (a0 : Array Value) (hw : ∀ d ∈ tables_1, d.before a0 Z = true) (ws : List Jvm.Cond) (p0 p1 p2 p3 : Int32) (h0 : Heap) (n0 : Nat) (Z0 : n0 ≤ h0.size) (O0 : Old Z n0 h0) (SV : own_Env Z) (SU : own_U16 Z)
    (p : Program) (e : Env) (s : State) (m : MethodId) (below : List Frame) (meth : Method) (c : Code) (s₁ : State) (Bd : BodyLoose p l x (head1 (Jvm.Cond.code x code maxLocals ret :: ws) room_1) code maxLocals ret e s m #[(.int p0), (.int p1), (.int p2), (.int p3)] below meth c s₁) (hml : c.maxLocals = 11)
    (vm0 : Vm) (hZ : Z.Warmed39 (s.setVm vm0).vm) (hown : (s.setVm vm0).vm.findClass "raciocinio/cli/RecordWriterCanHoldPinLaw" = some m.cls) (k0 : Nat) (hS : s.Since vm0 k0) (hh : s.heap = h0)
    (T : State) (h : Heap) (locs : List Loc) (X : Stand p l e room_1 (s.setVm vm0) m #[(.int p0), (.int p1), (.int p2), (.int p3)] below meth c T locs 12 60) (eT : T.heap = h) (N : Fr n0 locs) (Zh : n0 ≤ h.size) (hk : k0 ≤ h.size) (H : CHv Z own_EL vm0 h) (CH : CHr Z own_EL s.vm h0 vm0 h) (O : Old Z n0 h) (cc0 : Int32) (cc1 : Int32) (cc2 : Int32) (pb : Addr) (px : Addr) (pt : Addr) (HT : own_Txt Z h px pt []) :
    Way p.tables e below (KQH s Z own_EL (Q0 n0) room_1.cells room_1.slots) (T.setTop (mkF m 110 #[iv p0, iv p1, iv p2, iv p3, iv 0, iv cc0, iv cc1, iv cc2, rv pb, rv px, .unset] [])) := by
  have hx := Bd.exec
  have hby := Bd.bytes
  have hlk : meth.locks = false := BodyLoose.notSynchronized Bd
  have hnm := (name_of_methodNamed Bd.named Bd.method).1
  have wS : ∀ d ∈ Bundle.stringAtoms, d.before a0 Z = true := fun d hd => hw d (own_wS d hd)
  have hEL : EW Z a0 own_EL := own_EW hw
  refine Way.by (fun _ k => XS.iconst X.here hx rfl (hb hby at_110) k) ?_
  show Way _ _ _ _ (T.setTop (mkF m 111 #[iv p0, iv p1, iv p2, iv p3, iv 0, iv cc0, iv cc1, iv cc2, rv pb, rv px, .unset] [(.int 1)]))
  refine Way.by (fun _ k => XS.istore X.here hx rfl (hb hby at_111) rfl (l' := #[iv p0, iv p1, iv p2, iv p3, iv 0, iv cc0, iv cc1, iv cc2, rv pb, rv px, iv 1]) rfl k) ?_
  show Way _ _ _ _ (T.setTop (mkF m 113 #[iv p0, iv p1, iv p2, iv p3, iv 0, iv cc0, iv cc1, iv cc2, rv pb, rv px, iv 1] []))
  refine Way.by (fun _ k => XS.iload X.here hx rfl (hb hby at_113) rfl k) ?_
  show Way _ _ _ _ (T.setTop (mkF m 115 #[iv p0, iv p1, iv p2, iv p3, iv 0, iv cc0, iv cc1, iv cc2, rv pb, rv px, iv 1] [(.int 0)]))
  have b1 : ¬ (0 : Int32) < (0 : Int32) := by decide
  refine Way.by (fun _ k => XS.ifYes X.here hx rfl (pc0 := 115) (pc' := 129) rfl (hb hby at_115) rfl ((if0 .le _).trans (flt b1).2.2.2) (by decide) (by decide) k) ?_
  show Way _ _ _ _ (T.setTop (mkF m 129 #[iv p0, iv p1, iv p2, iv p3, iv 0, iv cc0, iv cc1, iv cc2, rv pb, rv px, iv 1] []))
  refine Way.by (fun _ k => XS.iload X.here hx rfl (hb hby at_129) rfl k) ?_
  show Way _ _ _ _ (T.setTop (mkF m 131 #[iv p0, iv p1, iv p2, iv p3, iv 0, iv cc0, iv cc1, iv cc2, rv pb, rv px, iv 1] [(.int 0)]))
  refine Way.by (fun _ k => XS.iconst X.here hx rfl (hb hby at_131) k) ?_
  show Way _ _ _ _ (T.setTop (mkF m 132 #[iv p0, iv p1, iv p2, iv p3, iv 0, iv cc0, iv cc1, iv cc2, rv pb, rv px, iv 1] [(.int 1), (.int 0)]))
  have b2 : ¬ (1 : Int32) < (0 : Int32) := by decide
  refine Way.by (fun _ k => XS.icmpYes X.here hx rfl (pc0 := 132) (pc' := 146) rfl (hb hby at_132) rfl (flt b2).2.2.2 (by decide) (by decide) k) ?_
  show Way _ _ _ _ (T.setTop (mkF m 146 #[iv p0, iv p1, iv p2, iv p3, iv 0, iv cc0, iv cc1, iv cc2, rv pb, rv px, iv 1] []))
  refine Way.by (fun _ k => XS.iload X.here hx rfl (hb hby at_146) rfl k) ?_
  show Way _ _ _ _ (T.setTop (mkF m 148 #[iv p0, iv p1, iv p2, iv p3, iv 0, iv cc0, iv cc1, iv cc2, rv pb, rv px, iv 1] [(.int 0)]))
  refine Way.by (fun _ k => XS.iconst X.here hx rfl (hb hby at_148) k) ?_
  show Way _ _ _ _ (T.setTop (mkF m 149 #[iv p0, iv p1, iv p2, iv p3, iv 0, iv cc0, iv cc1, iv cc2, rv pb, rv px, iv 1] [(.int 2), (.int 0)]))
  have b3 : ¬ (2 : Int32) < (0 : Int32) := by decide
  refine Way.by (fun _ k => XS.icmpYes X.here hx rfl (pc0 := 149) (pc' := 163) rfl (hb hby at_149) rfl (flt b3).2.2.2 (by decide) (by decide) k) ?_
  show Way _ _ _ _ (T.setTop (mkF m 163 #[iv p0, iv p1, iv p2, iv p3, iv 0, iv cc0, iv cc1, iv cc2, rv pb, rv px, iv 1] []))
  refine Way.by (fun _ k => XS.aload X.here hx rfl (hb hby at_163) rfl rfl k) ?_
  show Way _ _ _ _ (T.setTop (mkF m 165 #[iv p0, iv p1, iv p2, iv p3, iv 0, iv cc0, iv cc1, iv cc2, rv pb, rv px, iv 1] [(.ref px)]))
  obtain ⟨_, _, ⟨T4, L6, k7, n8⟩, -, X5, ⟨Lc9, hQ10, l11, y12, z13⟩, st14⟩ := Jvm.LawKit.callS X hx (y := (⟨"raciocinio/cli/RecordWriter", "canHold", "(Ljava/lang/String;)Z"⟩ : MethodName)) hown (mvT hZ (tw hw 26 rfl)) (mvT hZ (tw hw 27 rfl)) (mvT hZ (tw hw 28 rfl)) (mvT hZ (tw hw 29 rfl)) (by decide) (backOf (W := 0) (rmCN l Z a0 hw [] px pt [] h n0 Zh HT O SV SU) hZ (tw hw 29 rfl) (tw hw 28 rfl) (by decide) (by decide)) (g := (mkF m 165 #[iv p0, iv p1, iv p2, iv p3, iv 0, iv cc0, iv cc1, iv cc2, rv pb, rv px, iv 1] [(.ref px)])) rfl (by rw [hml]; rfl) (argsL := [(.ref px)]) (rest := []) (lenOf pdCN rfl) rfl (leW rfl) (hb hby at_165) (fun _ _ => ⟨rfl, eT, (leB rfl), (leB rfl)⟩)
  dsimp only [Pt.U, Pt.locs, Pt.cells, Pt.slots] at X5 l11 y12 z13 st14 hQ10
  subst l11 y12 z13
  obtain ⟨rfl, N20, e16⟩ := hQ10
  have N15 := Fr.app N N20
  refine Way.by st14 ?_
  show Way _ _ _ _ (T4.setTop (mkF m 168 #[iv p0, iv p1, iv p2, iv p3, iv 0, iv cc0, iv cc1, iv cc2, rv pb, rv px, iv 1] [(.int (own_hold []))]))
  refine Way.by (fun _ k => XS.iload X5.here hx rfl (hb hby at_168) rfl k) ?_
  show Way _ _ _ _ (T4.setTop (mkF m 170 #[iv p0, iv p1, iv p2, iv p3, iv 0, iv cc0, iv cc1, iv cc2, rv pb, rv px, iv 1] [(.int 1), (.int (own_hold []))]))
  have b22 : (own_hold []) = (1 : Int32) := if_pos (by simp)
  refine Way.by (fun _ k => XS.icmpNo X5.here hx rfl (hb hby at_170) rfl (teq b22).2 k) ?_
  show Way _ _ _ _ (T4.setTop (mkF m 173 #[iv p0, iv p1, iv p2, iv p3, iv 0, iv cc0, iv cc1, iv cc2, rv pb, rv px, iv 1] []))
  refine Way.by (fun _ k => XS.iconst X5.here hx rfl (hb hby at_173) k) ?_
  show Way _ _ _ _ (T4.setTop (mkF m 174 #[iv p0, iv p1, iv p2, iv p3, iv 0, iv cc0, iv cc1, iv cc2, rv pb, rv px, iv 1] [(.int 1)]))
  refine Way.by (fun _ k => XS.goto X5.here hx rfl (pc0 := 174) (pc' := 178) rfl (hb hby at_174) (by decide) (by decide) k) ?_
  show Way _ _ _ _ (T4.setTop (mkF m 178 #[iv p0, iv p1, iv p2, iv p3, iv 0, iv cc0, iv cc1, iv cc2, rv pb, rv px, iv 1] [(.int 1)]))
  refine Way.retH (v := (some (.int (nar .boolean (1 : Int32))))) X5 hS (by rw [e16]; exact hk) hZ hEL hh e16 H CH hlk (fun h => by rw [Bd.returns] at h; cases h) (fun fs hr => retN X5 hx (t := .boolean) Bd.returns (by simp) (hb hby at_178) hr) ?_ (by decide) (by decide)
  show Q0 n0 _ T4.heap _
  rw [e16]
  exact ⟨rfl, N15⟩
set_option maxRecDepth 65536 in
set_option maxHeartbeats 40000000 in
theorem seg110n1 (l : Launch) (Z : State) (a0 : Array Value) (hw : ∀ d ∈ tables_1, d.before a0 Z = true) (ws : List Jvm.Cond) (p0 p1 p2 p3 : Int32) (h0 : Heap) (n0 : Nat) (Z0 : n0 ≤ h0.size) (O0 : Old Z n0 h0) (SV : own_Env Z) (SU : own_U16 Z)
    (p : Program) (e : Env) (s : State) (m : MethodId) (below : List Frame) (meth : Method) (c : Code) (s₁ : State) (Bd : BodyLoose p l x (head1 (Jvm.Cond.code x code maxLocals ret :: ws) room_1) code maxLocals ret e s m #[(.int p0), (.int p1), (.int p2), (.int p3)] below meth c s₁) (hml : c.maxLocals = 11)
    (vm0 : Vm) (hZ : Z.Warmed39 (s.setVm vm0).vm) (hown : (s.setVm vm0).vm.findClass "raciocinio/cli/RecordWriterCanHoldPinLaw" = some m.cls) (k0 : Nat) (hS : s.Since vm0 k0) (hh : s.heap = h0)
    (T : State) (h : Heap) (locs : List Loc) (X : Stand p l e room_1 (s.setVm vm0) m #[(.int p0), (.int p1), (.int p2), (.int p3)] below meth c T locs 12 60) (eT : T.heap = h) (N : Fr n0 locs) (Zh : n0 ≤ h.size) (hk : k0 ≤ h.size) (H : CHv Z own_EL vm0 h) (CH : CHr Z own_EL s.vm h0 vm0 h) (O : Old Z n0 h) (cc0 : Int32) (cc1 : Int32) (cc2 : Int32) (pb : Addr) (px : Addr) (pt : Addr) (HT : own_Txt Z h px pt [cc0]) :
    Way p.tables e below (KQH s Z own_EL (Q0 n0) room_1.cells room_1.slots) (T.setTop (mkF m 110 #[iv p0, iv p1, iv p2, iv p3, iv 1, iv cc0, iv cc1, iv cc2, rv pb, rv px, .unset] [])) := by
  have hx := Bd.exec
  have hby := Bd.bytes
  have hlk : meth.locks = false := BodyLoose.notSynchronized Bd
  have hnm := (name_of_methodNamed Bd.named Bd.method).1
  have wS : ∀ d ∈ Bundle.stringAtoms, d.before a0 Z = true := fun d hd => hw d (own_wS d hd)
  have hEL : EW Z a0 own_EL := own_EW hw
  refine Way.by (fun _ k => XS.iconst X.here hx rfl (hb hby at_110) k) ?_
  show Way _ _ _ _ (T.setTop (mkF m 111 #[iv p0, iv p1, iv p2, iv p3, iv 1, iv cc0, iv cc1, iv cc2, rv pb, rv px, .unset] [(.int 1)]))
  refine Way.by (fun _ k => XS.istore X.here hx rfl (hb hby at_111) rfl (l' := #[iv p0, iv p1, iv p2, iv p3, iv 1, iv cc0, iv cc1, iv cc2, rv pb, rv px, iv 1]) rfl k) ?_
  show Way _ _ _ _ (T.setTop (mkF m 113 #[iv p0, iv p1, iv p2, iv p3, iv 1, iv cc0, iv cc1, iv cc2, rv pb, rv px, iv 1] []))
  refine Way.by (fun _ k => XS.iload X.here hx rfl (hb hby at_113) rfl k) ?_
  show Way _ _ _ _ (T.setTop (mkF m 115 #[iv p0, iv p1, iv p2, iv p3, iv 1, iv cc0, iv cc1, iv cc2, rv pb, rv px, iv 1] [(.int 1)]))
  have b1 : (0 : Int32) < (1 : Int32) := by decide
  refine Way.by (fun _ k => XS.ifNo X.here hx rfl (hb hby at_115) rfl ((if0 .le _).trans (tlt b1).2.2.2) k) ?_
  show Way _ _ _ _ (T.setTop (mkF m 118 #[iv p0, iv p1, iv p2, iv p3, iv 1, iv cc0, iv cc1, iv cc2, rv pb, rv px, iv 1] []))
  refine Way.by (fun _ k => XS.iload X.here hx rfl (hb hby at_118) rfl k) ?_
  show Way _ _ _ _ (T.setTop (mkF m 120 #[iv p0, iv p1, iv p2, iv p3, iv 1, iv cc0, iv cc1, iv cc2, rv pb, rv px, iv 1] [(.int cc0)]))
  obtain ⟨_, _, ⟨T2, L4, k5, n6⟩, -, X3, ⟨Lc7, hQ8, l9, y10, z11⟩, st12⟩ := Jvm.LawKit.callS X hx (y := (⟨"raciocinio/cli/RecordWriterCanHoldPinLaw", "bad", "(C)Z"⟩ : MethodName)) hown (mvT hZ (tw hw 80 rfl)) (mvT hZ (tw hw 81 rfl)) (mvT hZ (tw hw 2 rfl)) (mvT hZ (tw hw 82 rfl)) (by decide) (backOf (W := 0) (rmBD l Z a0 hw [] cc0 h n0 Zh ) hZ (tw hw 82 rfl) (tw hw 2 rfl) (by decide) (by decide)) (g := (mkF m 120 #[iv p0, iv p1, iv p2, iv p3, iv 1, iv cc0, iv cc1, iv cc2, rv pb, rv px, iv 1] [(.int cc0)])) rfl (by rw [hml]; rfl) (argsL := [(.int cc0)]) (rest := []) (lenOf pdBD rfl) rfl (leW rfl) (hb hby at_120) (fun _ _ => ⟨rfl, eT, (leB rfl), (leB rfl)⟩)
  dsimp only [Pt.U, Pt.locs, Pt.cells, Pt.slots] at X3 l9 y10 z11 st12 hQ8
  subst l9 y10 z11
  obtain ⟨rfl, N18, e14⟩ := hQ8
  have N13 := Fr.app N N18
  refine Way.by st12 ?_
  show Way _ _ _ _ (T2.setTop (mkF m 123 #[iv p0, iv p1, iv p2, iv p3, iv 1, iv cc0, iv cc1, iv cc2, rv pb, rv px, iv 1] [(.int (own_bad cc0))]))
  by_cases hb0 : (own_bad cc0) = (0 : Int32)
  · skip
    refine Way.by (fun _ k => XS.ifYes X3.here hx rfl (pc0 := 123) (pc' := 129) rfl (hb hby at_123) rfl ((if0 .eq _).trans (teq hb0).1) (by decide) (by decide) k) ?_
    show Way _ _ _ _ (T2.setTop (mkF m 129 #[iv p0, iv p1, iv p2, iv p3, iv 1, iv cc0, iv cc1, iv cc2, rv pb, rv px, iv 1] []))
    refine Way.by (fun _ k => XS.iload X3.here hx rfl (hb hby at_129) rfl k) ?_
    show Way _ _ _ _ (T2.setTop (mkF m 131 #[iv p0, iv p1, iv p2, iv p3, iv 1, iv cc0, iv cc1, iv cc2, rv pb, rv px, iv 1] [(.int 1)]))
    refine Way.by (fun _ k => XS.iconst X3.here hx rfl (hb hby at_131) k) ?_
    show Way _ _ _ _ (T2.setTop (mkF m 132 #[iv p0, iv p1, iv p2, iv p3, iv 1, iv cc0, iv cc1, iv cc2, rv pb, rv px, iv 1] [(.int 1), (.int 1)]))
    have b20 : ¬ (1 : Int32) < (1 : Int32) := by decide
    refine Way.by (fun _ k => XS.icmpYes X3.here hx rfl (pc0 := 132) (pc' := 146) rfl (hb hby at_132) rfl (flt b20).2.2.2 (by decide) (by decide) k) ?_
    show Way _ _ _ _ (T2.setTop (mkF m 146 #[iv p0, iv p1, iv p2, iv p3, iv 1, iv cc0, iv cc1, iv cc2, rv pb, rv px, iv 1] []))
    refine Way.by (fun _ k => XS.iload X3.here hx rfl (hb hby at_146) rfl k) ?_
    show Way _ _ _ _ (T2.setTop (mkF m 148 #[iv p0, iv p1, iv p2, iv p3, iv 1, iv cc0, iv cc1, iv cc2, rv pb, rv px, iv 1] [(.int 1)]))
    refine Way.by (fun _ k => XS.iconst X3.here hx rfl (hb hby at_148) k) ?_
    show Way _ _ _ _ (T2.setTop (mkF m 149 #[iv p0, iv p1, iv p2, iv p3, iv 1, iv cc0, iv cc1, iv cc2, rv pb, rv px, iv 1] [(.int 2), (.int 1)]))
    have b21 : ¬ (2 : Int32) < (1 : Int32) := by decide
    refine Way.by (fun _ k => XS.icmpYes X3.here hx rfl (pc0 := 149) (pc' := 163) rfl (hb hby at_149) rfl (flt b21).2.2.2 (by decide) (by decide) k) ?_
    show Way _ _ _ _ (T2.setTop (mkF m 163 #[iv p0, iv p1, iv p2, iv p3, iv 1, iv cc0, iv cc1, iv cc2, rv pb, rv px, iv 1] []))
    refine Way.by (fun _ k => XS.aload X3.here hx rfl (hb hby at_163) rfl rfl k) ?_
    show Way _ _ _ _ (T2.setTop (mkF m 165 #[iv p0, iv p1, iv p2, iv p3, iv 1, iv cc0, iv cc1, iv cc2, rv pb, rv px, iv 1] [(.ref px)]))
    obtain ⟨_, _, ⟨T22, L24, k25, n26⟩, -, X23, ⟨Lc27, hQ28, l29, y30, z31⟩, st32⟩ := Jvm.LawKit.callS X3 hx (y := (⟨"raciocinio/cli/RecordWriter", "canHold", "(Ljava/lang/String;)Z"⟩ : MethodName)) hown (mvT hZ (tw hw 26 rfl)) (mvT hZ (tw hw 27 rfl)) (mvT hZ (tw hw 28 rfl)) (mvT hZ (tw hw 29 rfl)) (by decide) (backOf (W := 0) (rmCN l Z a0 hw [] px pt [cc0] h n0 Zh HT O SV SU) hZ (tw hw 29 rfl) (tw hw 28 rfl) (by decide) (by decide)) (g := (mkF m 165 #[iv p0, iv p1, iv p2, iv p3, iv 1, iv cc0, iv cc1, iv cc2, rv pb, rv px, iv 1] [(.ref px)])) rfl (by rw [hml]; rfl) (argsL := [(.ref px)]) (rest := []) (lenOf pdCN rfl) rfl (leW rfl) (hb hby at_165) (fun _ _ => ⟨rfl, e14, (leB rfl), (leB rfl)⟩)
    dsimp only [Pt.U, Pt.locs, Pt.cells, Pt.slots] at X23 l29 y30 z31 st32 hQ28
    subst l29 y30 z31
    obtain ⟨rfl, N38, e34⟩ := hQ28
    have N33 := Fr.app N13 N38
    refine Way.by st32 ?_
    show Way _ _ _ _ (T22.setTop (mkF m 168 #[iv p0, iv p1, iv p2, iv p3, iv 1, iv cc0, iv cc1, iv cc2, rv pb, rv px, iv 1] [(.int (own_hold [cc0]))]))
    refine Way.by (fun _ k => XS.iload X23.here hx rfl (hb hby at_168) rfl k) ?_
    show Way _ _ _ _ (T22.setTop (mkF m 170 #[iv p0, iv p1, iv p2, iv p3, iv 1, iv cc0, iv cc1, iv cc2, rv pb, rv px, iv 1] [(.int 1), (.int (own_hold [cc0]))]))
    have b40 : (own_hold [cc0]) = (1 : Int32) := if_pos (by intro c hc; simp only [List.mem_cons, List.not_mem_nil, or_false] at hc; rcases hc with rfl <;> assumption)
    refine Way.by (fun _ k => XS.icmpNo X23.here hx rfl (hb hby at_170) rfl (teq b40).2 k) ?_
    show Way _ _ _ _ (T22.setTop (mkF m 173 #[iv p0, iv p1, iv p2, iv p3, iv 1, iv cc0, iv cc1, iv cc2, rv pb, rv px, iv 1] []))
    refine Way.by (fun _ k => XS.iconst X23.here hx rfl (hb hby at_173) k) ?_
    show Way _ _ _ _ (T22.setTop (mkF m 174 #[iv p0, iv p1, iv p2, iv p3, iv 1, iv cc0, iv cc1, iv cc2, rv pb, rv px, iv 1] [(.int 1)]))
    refine Way.by (fun _ k => XS.goto X23.here hx rfl (pc0 := 174) (pc' := 178) rfl (hb hby at_174) (by decide) (by decide) k) ?_
    show Way _ _ _ _ (T22.setTop (mkF m 178 #[iv p0, iv p1, iv p2, iv p3, iv 1, iv cc0, iv cc1, iv cc2, rv pb, rv px, iv 1] [(.int 1)]))
    refine Way.retH (v := (some (.int (nar .boolean (1 : Int32))))) X23 hS (by rw [e34]; exact hk) hZ hEL hh e34 H CH hlk (fun h => by rw [Bd.returns] at h; cases h) (fun fs hr => retN X23 hx (t := .boolean) Bd.returns (by simp) (hb hby at_178) hr) ?_ (by decide) (by decide)
    show Q0 n0 _ T22.heap _
    rw [e34]
    exact ⟨rfl, N33⟩
  · skip
    refine Way.by (fun _ k => XS.ifNo X3.here hx rfl (hb hby at_123) rfl ((if0 .eq _).trans (feq hb0).1) k) ?_
    show Way _ _ _ _ (T2.setTop (mkF m 126 #[iv p0, iv p1, iv p2, iv p3, iv 1, iv cc0, iv cc1, iv cc2, rv pb, rv px, iv 1] []))
    refine Way.by (fun _ k => XS.iconst X3.here hx rfl (hb hby at_126) k) ?_
    show Way _ _ _ _ (T2.setTop (mkF m 127 #[iv p0, iv p1, iv p2, iv p3, iv 1, iv cc0, iv cc1, iv cc2, rv pb, rv px, iv 1] [(.int 0)]))
    refine Way.by (fun _ k => XS.istore X3.here hx rfl (hb hby at_127) rfl (l' := #[iv p0, iv p1, iv p2, iv p3, iv 1, iv cc0, iv cc1, iv cc2, rv pb, rv px, iv 0]) rfl k) ?_
    show Way _ _ _ _ (T2.setTop (mkF m 129 #[iv p0, iv p1, iv p2, iv p3, iv 1, iv cc0, iv cc1, iv cc2, rv pb, rv px, iv 0] []))
    refine Way.by (fun _ k => XS.iload X3.here hx rfl (hb hby at_129) rfl k) ?_
    show Way _ _ _ _ (T2.setTop (mkF m 131 #[iv p0, iv p1, iv p2, iv p3, iv 1, iv cc0, iv cc1, iv cc2, rv pb, rv px, iv 0] [(.int 1)]))
    refine Way.by (fun _ k => XS.iconst X3.here hx rfl (hb hby at_131) k) ?_
    show Way _ _ _ _ (T2.setTop (mkF m 132 #[iv p0, iv p1, iv p2, iv p3, iv 1, iv cc0, iv cc1, iv cc2, rv pb, rv px, iv 0] [(.int 1), (.int 1)]))
    have b41 : ¬ (1 : Int32) < (1 : Int32) := by decide
    refine Way.by (fun _ k => XS.icmpYes X3.here hx rfl (pc0 := 132) (pc' := 146) rfl (hb hby at_132) rfl (flt b41).2.2.2 (by decide) (by decide) k) ?_
    show Way _ _ _ _ (T2.setTop (mkF m 146 #[iv p0, iv p1, iv p2, iv p3, iv 1, iv cc0, iv cc1, iv cc2, rv pb, rv px, iv 0] []))
    refine Way.by (fun _ k => XS.iload X3.here hx rfl (hb hby at_146) rfl k) ?_
    show Way _ _ _ _ (T2.setTop (mkF m 148 #[iv p0, iv p1, iv p2, iv p3, iv 1, iv cc0, iv cc1, iv cc2, rv pb, rv px, iv 0] [(.int 1)]))
    refine Way.by (fun _ k => XS.iconst X3.here hx rfl (hb hby at_148) k) ?_
    show Way _ _ _ _ (T2.setTop (mkF m 149 #[iv p0, iv p1, iv p2, iv p3, iv 1, iv cc0, iv cc1, iv cc2, rv pb, rv px, iv 0] [(.int 2), (.int 1)]))
    have b42 : ¬ (2 : Int32) < (1 : Int32) := by decide
    refine Way.by (fun _ k => XS.icmpYes X3.here hx rfl (pc0 := 149) (pc' := 163) rfl (hb hby at_149) rfl (flt b42).2.2.2 (by decide) (by decide) k) ?_
    show Way _ _ _ _ (T2.setTop (mkF m 163 #[iv p0, iv p1, iv p2, iv p3, iv 1, iv cc0, iv cc1, iv cc2, rv pb, rv px, iv 0] []))
    refine Way.by (fun _ k => XS.aload X3.here hx rfl (hb hby at_163) rfl rfl k) ?_
    show Way _ _ _ _ (T2.setTop (mkF m 165 #[iv p0, iv p1, iv p2, iv p3, iv 1, iv cc0, iv cc1, iv cc2, rv pb, rv px, iv 0] [(.ref px)]))
    obtain ⟨_, _, ⟨T43, L45, k46, n47⟩, -, X44, ⟨Lc48, hQ49, l50, y51, z52⟩, st53⟩ := Jvm.LawKit.callS X3 hx (y := (⟨"raciocinio/cli/RecordWriter", "canHold", "(Ljava/lang/String;)Z"⟩ : MethodName)) hown (mvT hZ (tw hw 26 rfl)) (mvT hZ (tw hw 27 rfl)) (mvT hZ (tw hw 28 rfl)) (mvT hZ (tw hw 29 rfl)) (by decide) (backOf (W := 0) (rmCN l Z a0 hw [] px pt [cc0] h n0 Zh HT O SV SU) hZ (tw hw 29 rfl) (tw hw 28 rfl) (by decide) (by decide)) (g := (mkF m 165 #[iv p0, iv p1, iv p2, iv p3, iv 1, iv cc0, iv cc1, iv cc2, rv pb, rv px, iv 0] [(.ref px)])) rfl (by rw [hml]; rfl) (argsL := [(.ref px)]) (rest := []) (lenOf pdCN rfl) rfl (leW rfl) (hb hby at_165) (fun _ _ => ⟨rfl, e14, (leB rfl), (leB rfl)⟩)
    dsimp only [Pt.U, Pt.locs, Pt.cells, Pt.slots] at X44 l50 y51 z52 st53 hQ49
    subst l50 y51 z52
    obtain ⟨rfl, N59, e55⟩ := hQ49
    have N54 := Fr.app N13 N59
    refine Way.by st53 ?_
    show Way _ _ _ _ (T43.setTop (mkF m 168 #[iv p0, iv p1, iv p2, iv p3, iv 1, iv cc0, iv cc1, iv cc2, rv pb, rv px, iv 0] [(.int (own_hold [cc0]))]))
    refine Way.by (fun _ k => XS.iload X44.here hx rfl (hb hby at_168) rfl k) ?_
    show Way _ _ _ _ (T43.setTop (mkF m 170 #[iv p0, iv p1, iv p2, iv p3, iv 1, iv cc0, iv cc1, iv cc2, rv pb, rv px, iv 0] [(.int 0), (.int (own_hold [cc0]))]))
    have b61 : (own_hold [cc0]) = (0 : Int32) := if_neg (fun q => hb0 (q cc0 (by simp)))
    refine Way.by (fun _ k => XS.icmpNo X44.here hx rfl (hb hby at_170) rfl (teq b61).2 k) ?_
    show Way _ _ _ _ (T43.setTop (mkF m 173 #[iv p0, iv p1, iv p2, iv p3, iv 1, iv cc0, iv cc1, iv cc2, rv pb, rv px, iv 0] []))
    refine Way.by (fun _ k => XS.iconst X44.here hx rfl (hb hby at_173) k) ?_
    show Way _ _ _ _ (T43.setTop (mkF m 174 #[iv p0, iv p1, iv p2, iv p3, iv 1, iv cc0, iv cc1, iv cc2, rv pb, rv px, iv 0] [(.int 1)]))
    refine Way.by (fun _ k => XS.goto X44.here hx rfl (pc0 := 174) (pc' := 178) rfl (hb hby at_174) (by decide) (by decide) k) ?_
    show Way _ _ _ _ (T43.setTop (mkF m 178 #[iv p0, iv p1, iv p2, iv p3, iv 1, iv cc0, iv cc1, iv cc2, rv pb, rv px, iv 0] [(.int 1)]))
    refine Way.retH (v := (some (.int (nar .boolean (1 : Int32))))) X44 hS (by rw [e55]; exact hk) hZ hEL hh e55 H CH hlk (fun h => by rw [Bd.returns] at h; cases h) (fun fs hr => retN X44 hx (t := .boolean) Bd.returns (by simp) (hb hby at_178) hr) ?_ (by decide) (by decide)
    show Q0 n0 _ T43.heap _
    rw [e55]
    exact ⟨rfl, N54⟩
set_option maxRecDepth 65536 in
set_option maxHeartbeats 40000000 in
theorem seg110n2 (l : Launch) (Z : State) (a0 : Array Value) (hw : ∀ d ∈ tables_1, d.before a0 Z = true) (ws : List Jvm.Cond) (p0 p1 p2 p3 : Int32) (h0 : Heap) (n0 : Nat) (Z0 : n0 ≤ h0.size) (O0 : Old Z n0 h0) (SV : own_Env Z) (SU : own_U16 Z)
    (p : Program) (e : Env) (s : State) (m : MethodId) (below : List Frame) (meth : Method) (c : Code) (s₁ : State) (Bd : BodyLoose p l x (head1 (Jvm.Cond.code x code maxLocals ret :: ws) room_1) code maxLocals ret e s m #[(.int p0), (.int p1), (.int p2), (.int p3)] below meth c s₁) (hml : c.maxLocals = 11)
    (vm0 : Vm) (hZ : Z.Warmed39 (s.setVm vm0).vm) (hown : (s.setVm vm0).vm.findClass "raciocinio/cli/RecordWriterCanHoldPinLaw" = some m.cls) (k0 : Nat) (hS : s.Since vm0 k0) (hh : s.heap = h0)
    (T : State) (h : Heap) (locs : List Loc) (X : Stand p l e room_1 (s.setVm vm0) m #[(.int p0), (.int p1), (.int p2), (.int p3)] below meth c T locs 12 60) (eT : T.heap = h) (N : Fr n0 locs) (Zh : n0 ≤ h.size) (hk : k0 ≤ h.size) (H : CHv Z own_EL vm0 h) (CH : CHr Z own_EL s.vm h0 vm0 h) (O : Old Z n0 h) (cc0 : Int32) (cc1 : Int32) (cc2 : Int32) (pb : Addr) (px : Addr) (pt : Addr) (HT : own_Txt Z h px pt [cc0, cc1]) :
    Way p.tables e below (KQH s Z own_EL (Q0 n0) room_1.cells room_1.slots) (T.setTop (mkF m 110 #[iv p0, iv p1, iv p2, iv p3, iv 2, iv cc0, iv cc1, iv cc2, rv pb, rv px, .unset] [])) := by
  have hx := Bd.exec
  have hby := Bd.bytes
  have hlk : meth.locks = false := BodyLoose.notSynchronized Bd
  have hnm := (name_of_methodNamed Bd.named Bd.method).1
  have wS : ∀ d ∈ Bundle.stringAtoms, d.before a0 Z = true := fun d hd => hw d (own_wS d hd)
  have hEL : EW Z a0 own_EL := own_EW hw
  refine Way.by (fun _ k => XS.iconst X.here hx rfl (hb hby at_110) k) ?_
  show Way _ _ _ _ (T.setTop (mkF m 111 #[iv p0, iv p1, iv p2, iv p3, iv 2, iv cc0, iv cc1, iv cc2, rv pb, rv px, .unset] [(.int 1)]))
  refine Way.by (fun _ k => XS.istore X.here hx rfl (hb hby at_111) rfl (l' := #[iv p0, iv p1, iv p2, iv p3, iv 2, iv cc0, iv cc1, iv cc2, rv pb, rv px, iv 1]) rfl k) ?_
  show Way _ _ _ _ (T.setTop (mkF m 113 #[iv p0, iv p1, iv p2, iv p3, iv 2, iv cc0, iv cc1, iv cc2, rv pb, rv px, iv 1] []))
  refine Way.by (fun _ k => XS.iload X.here hx rfl (hb hby at_113) rfl k) ?_
  show Way _ _ _ _ (T.setTop (mkF m 115 #[iv p0, iv p1, iv p2, iv p3, iv 2, iv cc0, iv cc1, iv cc2, rv pb, rv px, iv 1] [(.int 2)]))
  have b1 : (0 : Int32) < (2 : Int32) := by decide
  refine Way.by (fun _ k => XS.ifNo X.here hx rfl (hb hby at_115) rfl ((if0 .le _).trans (tlt b1).2.2.2) k) ?_
  show Way _ _ _ _ (T.setTop (mkF m 118 #[iv p0, iv p1, iv p2, iv p3, iv 2, iv cc0, iv cc1, iv cc2, rv pb, rv px, iv 1] []))
  refine Way.by (fun _ k => XS.iload X.here hx rfl (hb hby at_118) rfl k) ?_
  show Way _ _ _ _ (T.setTop (mkF m 120 #[iv p0, iv p1, iv p2, iv p3, iv 2, iv cc0, iv cc1, iv cc2, rv pb, rv px, iv 1] [(.int cc0)]))
  obtain ⟨_, _, ⟨T2, L4, k5, n6⟩, -, X3, ⟨Lc7, hQ8, l9, y10, z11⟩, st12⟩ := Jvm.LawKit.callS X hx (y := (⟨"raciocinio/cli/RecordWriterCanHoldPinLaw", "bad", "(C)Z"⟩ : MethodName)) hown (mvT hZ (tw hw 80 rfl)) (mvT hZ (tw hw 81 rfl)) (mvT hZ (tw hw 2 rfl)) (mvT hZ (tw hw 82 rfl)) (by decide) (backOf (W := 0) (rmBD l Z a0 hw [] cc0 h n0 Zh ) hZ (tw hw 82 rfl) (tw hw 2 rfl) (by decide) (by decide)) (g := (mkF m 120 #[iv p0, iv p1, iv p2, iv p3, iv 2, iv cc0, iv cc1, iv cc2, rv pb, rv px, iv 1] [(.int cc0)])) rfl (by rw [hml]; rfl) (argsL := [(.int cc0)]) (rest := []) (lenOf pdBD rfl) rfl (leW rfl) (hb hby at_120) (fun _ _ => ⟨rfl, eT, (leB rfl), (leB rfl)⟩)
  dsimp only [Pt.U, Pt.locs, Pt.cells, Pt.slots] at X3 l9 y10 z11 st12 hQ8
  subst l9 y10 z11
  obtain ⟨rfl, N18, e14⟩ := hQ8
  have N13 := Fr.app N N18
  refine Way.by st12 ?_
  show Way _ _ _ _ (T2.setTop (mkF m 123 #[iv p0, iv p1, iv p2, iv p3, iv 2, iv cc0, iv cc1, iv cc2, rv pb, rv px, iv 1] [(.int (own_bad cc0))]))
  by_cases hb0 : (own_bad cc0) = (0 : Int32)
  · skip
    refine Way.by (fun _ k => XS.ifYes X3.here hx rfl (pc0 := 123) (pc' := 129) rfl (hb hby at_123) rfl ((if0 .eq _).trans (teq hb0).1) (by decide) (by decide) k) ?_
    show Way _ _ _ _ (T2.setTop (mkF m 129 #[iv p0, iv p1, iv p2, iv p3, iv 2, iv cc0, iv cc1, iv cc2, rv pb, rv px, iv 1] []))
    refine Way.by (fun _ k => XS.iload X3.here hx rfl (hb hby at_129) rfl k) ?_
    show Way _ _ _ _ (T2.setTop (mkF m 131 #[iv p0, iv p1, iv p2, iv p3, iv 2, iv cc0, iv cc1, iv cc2, rv pb, rv px, iv 1] [(.int 2)]))
    refine Way.by (fun _ k => XS.iconst X3.here hx rfl (hb hby at_131) k) ?_
    show Way _ _ _ _ (T2.setTop (mkF m 132 #[iv p0, iv p1, iv p2, iv p3, iv 2, iv cc0, iv cc1, iv cc2, rv pb, rv px, iv 1] [(.int 1), (.int 2)]))
    have b20 : (1 : Int32) < (2 : Int32) := by decide
    refine Way.by (fun _ k => XS.icmpNo X3.here hx rfl (hb hby at_132) rfl (tlt b20).2.2.2 k) ?_
    show Way _ _ _ _ (T2.setTop (mkF m 135 #[iv p0, iv p1, iv p2, iv p3, iv 2, iv cc0, iv cc1, iv cc2, rv pb, rv px, iv 1] []))
    refine Way.by (fun _ k => XS.iload X3.here hx rfl (hb hby at_135) rfl k) ?_
    show Way _ _ _ _ (T2.setTop (mkF m 137 #[iv p0, iv p1, iv p2, iv p3, iv 2, iv cc0, iv cc1, iv cc2, rv pb, rv px, iv 1] [(.int cc1)]))
    obtain ⟨_, _, ⟨T21, L23, k24, n25⟩, -, X22, ⟨Lc26, hQ27, l28, y29, z30⟩, st31⟩ := Jvm.LawKit.callS X3 hx (y := (⟨"raciocinio/cli/RecordWriterCanHoldPinLaw", "bad", "(C)Z"⟩ : MethodName)) hown (mvT hZ (tw hw 80 rfl)) (mvT hZ (tw hw 81 rfl)) (mvT hZ (tw hw 2 rfl)) (mvT hZ (tw hw 82 rfl)) (by decide) (backOf (W := 0) (rmBD l Z a0 hw [] cc1 h n0 Zh ) hZ (tw hw 82 rfl) (tw hw 2 rfl) (by decide) (by decide)) (g := (mkF m 137 #[iv p0, iv p1, iv p2, iv p3, iv 2, iv cc0, iv cc1, iv cc2, rv pb, rv px, iv 1] [(.int cc1)])) rfl (by rw [hml]; rfl) (argsL := [(.int cc1)]) (rest := []) (lenOf pdBD rfl) rfl (leW rfl) (hb hby at_137) (fun _ _ => ⟨rfl, e14, (leB rfl), (leB rfl)⟩)
    dsimp only [Pt.U, Pt.locs, Pt.cells, Pt.slots] at X22 l28 y29 z30 st31 hQ27
    subst l28 y29 z30
    obtain ⟨rfl, N37, e33⟩ := hQ27
    have N32 := Fr.app N13 N37
    refine Way.by st31 ?_
    show Way _ _ _ _ (T21.setTop (mkF m 140 #[iv p0, iv p1, iv p2, iv p3, iv 2, iv cc0, iv cc1, iv cc2, rv pb, rv px, iv 1] [(.int (own_bad cc1))]))
    by_cases hb1 : (own_bad cc1) = (0 : Int32)
    · skip
      refine Way.by (fun _ k => XS.ifYes X22.here hx rfl (pc0 := 140) (pc' := 146) rfl (hb hby at_140) rfl ((if0 .eq _).trans (teq hb1).1) (by decide) (by decide) k) ?_
      show Way _ _ _ _ (T21.setTop (mkF m 146 #[iv p0, iv p1, iv p2, iv p3, iv 2, iv cc0, iv cc1, iv cc2, rv pb, rv px, iv 1] []))
      refine Way.by (fun _ k => XS.iload X22.here hx rfl (hb hby at_146) rfl k) ?_
      show Way _ _ _ _ (T21.setTop (mkF m 148 #[iv p0, iv p1, iv p2, iv p3, iv 2, iv cc0, iv cc1, iv cc2, rv pb, rv px, iv 1] [(.int 2)]))
      refine Way.by (fun _ k => XS.iconst X22.here hx rfl (hb hby at_148) k) ?_
      show Way _ _ _ _ (T21.setTop (mkF m 149 #[iv p0, iv p1, iv p2, iv p3, iv 2, iv cc0, iv cc1, iv cc2, rv pb, rv px, iv 1] [(.int 2), (.int 2)]))
      have b39 : ¬ (2 : Int32) < (2 : Int32) := by decide
      refine Way.by (fun _ k => XS.icmpYes X22.here hx rfl (pc0 := 149) (pc' := 163) rfl (hb hby at_149) rfl (flt b39).2.2.2 (by decide) (by decide) k) ?_
      show Way _ _ _ _ (T21.setTop (mkF m 163 #[iv p0, iv p1, iv p2, iv p3, iv 2, iv cc0, iv cc1, iv cc2, rv pb, rv px, iv 1] []))
      refine Way.by (fun _ k => XS.aload X22.here hx rfl (hb hby at_163) rfl rfl k) ?_
      show Way _ _ _ _ (T21.setTop (mkF m 165 #[iv p0, iv p1, iv p2, iv p3, iv 2, iv cc0, iv cc1, iv cc2, rv pb, rv px, iv 1] [(.ref px)]))
      obtain ⟨_, _, ⟨T40, L42, k43, n44⟩, -, X41, ⟨Lc45, hQ46, l47, y48, z49⟩, st50⟩ := Jvm.LawKit.callS X22 hx (y := (⟨"raciocinio/cli/RecordWriter", "canHold", "(Ljava/lang/String;)Z"⟩ : MethodName)) hown (mvT hZ (tw hw 26 rfl)) (mvT hZ (tw hw 27 rfl)) (mvT hZ (tw hw 28 rfl)) (mvT hZ (tw hw 29 rfl)) (by decide) (backOf (W := 0) (rmCN l Z a0 hw [] px pt [cc0, cc1] h n0 Zh HT O SV SU) hZ (tw hw 29 rfl) (tw hw 28 rfl) (by decide) (by decide)) (g := (mkF m 165 #[iv p0, iv p1, iv p2, iv p3, iv 2, iv cc0, iv cc1, iv cc2, rv pb, rv px, iv 1] [(.ref px)])) rfl (by rw [hml]; rfl) (argsL := [(.ref px)]) (rest := []) (lenOf pdCN rfl) rfl (leW rfl) (hb hby at_165) (fun _ _ => ⟨rfl, e33, (leB rfl), (leB rfl)⟩)
      dsimp only [Pt.U, Pt.locs, Pt.cells, Pt.slots] at X41 l47 y48 z49 st50 hQ46
      subst l47 y48 z49
      obtain ⟨rfl, N56, e52⟩ := hQ46
      have N51 := Fr.app N32 N56
      refine Way.by st50 ?_
      show Way _ _ _ _ (T40.setTop (mkF m 168 #[iv p0, iv p1, iv p2, iv p3, iv 2, iv cc0, iv cc1, iv cc2, rv pb, rv px, iv 1] [(.int (own_hold [cc0, cc1]))]))
      refine Way.by (fun _ k => XS.iload X41.here hx rfl (hb hby at_168) rfl k) ?_
      show Way _ _ _ _ (T40.setTop (mkF m 170 #[iv p0, iv p1, iv p2, iv p3, iv 2, iv cc0, iv cc1, iv cc2, rv pb, rv px, iv 1] [(.int 1), (.int (own_hold [cc0, cc1]))]))
      have b58 : (own_hold [cc0, cc1]) = (1 : Int32) := if_pos (by intro c hc; simp only [List.mem_cons, List.not_mem_nil, or_false] at hc; rcases hc with rfl | rfl <;> assumption)
      refine Way.by (fun _ k => XS.icmpNo X41.here hx rfl (hb hby at_170) rfl (teq b58).2 k) ?_
      show Way _ _ _ _ (T40.setTop (mkF m 173 #[iv p0, iv p1, iv p2, iv p3, iv 2, iv cc0, iv cc1, iv cc2, rv pb, rv px, iv 1] []))
      refine Way.by (fun _ k => XS.iconst X41.here hx rfl (hb hby at_173) k) ?_
      show Way _ _ _ _ (T40.setTop (mkF m 174 #[iv p0, iv p1, iv p2, iv p3, iv 2, iv cc0, iv cc1, iv cc2, rv pb, rv px, iv 1] [(.int 1)]))
      refine Way.by (fun _ k => XS.goto X41.here hx rfl (pc0 := 174) (pc' := 178) rfl (hb hby at_174) (by decide) (by decide) k) ?_
      show Way _ _ _ _ (T40.setTop (mkF m 178 #[iv p0, iv p1, iv p2, iv p3, iv 2, iv cc0, iv cc1, iv cc2, rv pb, rv px, iv 1] [(.int 1)]))
      refine Way.retH (v := (some (.int (nar .boolean (1 : Int32))))) X41 hS (by rw [e52]; exact hk) hZ hEL hh e52 H CH hlk (fun h => by rw [Bd.returns] at h; cases h) (fun fs hr => retN X41 hx (t := .boolean) Bd.returns (by simp) (hb hby at_178) hr) ?_ (by decide) (by decide)
      show Q0 n0 _ T40.heap _
      rw [e52]
      exact ⟨rfl, N51⟩
    · skip
      refine Way.by (fun _ k => XS.ifNo X22.here hx rfl (hb hby at_140) rfl ((if0 .eq _).trans (feq hb1).1) k) ?_
      show Way _ _ _ _ (T21.setTop (mkF m 143 #[iv p0, iv p1, iv p2, iv p3, iv 2, iv cc0, iv cc1, iv cc2, rv pb, rv px, iv 1] []))
      refine Way.by (fun _ k => XS.iconst X22.here hx rfl (hb hby at_143) k) ?_
      show Way _ _ _ _ (T21.setTop (mkF m 144 #[iv p0, iv p1, iv p2, iv p3, iv 2, iv cc0, iv cc1, iv cc2, rv pb, rv px, iv 1] [(.int 0)]))
      refine Way.by (fun _ k => XS.istore X22.here hx rfl (hb hby at_144) rfl (l' := #[iv p0, iv p1, iv p2, iv p3, iv 2, iv cc0, iv cc1, iv cc2, rv pb, rv px, iv 0]) rfl k) ?_
      show Way _ _ _ _ (T21.setTop (mkF m 146 #[iv p0, iv p1, iv p2, iv p3, iv 2, iv cc0, iv cc1, iv cc2, rv pb, rv px, iv 0] []))
      refine Way.by (fun _ k => XS.iload X22.here hx rfl (hb hby at_146) rfl k) ?_
      show Way _ _ _ _ (T21.setTop (mkF m 148 #[iv p0, iv p1, iv p2, iv p3, iv 2, iv cc0, iv cc1, iv cc2, rv pb, rv px, iv 0] [(.int 2)]))
      refine Way.by (fun _ k => XS.iconst X22.here hx rfl (hb hby at_148) k) ?_
      show Way _ _ _ _ (T21.setTop (mkF m 149 #[iv p0, iv p1, iv p2, iv p3, iv 2, iv cc0, iv cc1, iv cc2, rv pb, rv px, iv 0] [(.int 2), (.int 2)]))
      have b59 : ¬ (2 : Int32) < (2 : Int32) := by decide
      refine Way.by (fun _ k => XS.icmpYes X22.here hx rfl (pc0 := 149) (pc' := 163) rfl (hb hby at_149) rfl (flt b59).2.2.2 (by decide) (by decide) k) ?_
      show Way _ _ _ _ (T21.setTop (mkF m 163 #[iv p0, iv p1, iv p2, iv p3, iv 2, iv cc0, iv cc1, iv cc2, rv pb, rv px, iv 0] []))
      refine Way.by (fun _ k => XS.aload X22.here hx rfl (hb hby at_163) rfl rfl k) ?_
      show Way _ _ _ _ (T21.setTop (mkF m 165 #[iv p0, iv p1, iv p2, iv p3, iv 2, iv cc0, iv cc1, iv cc2, rv pb, rv px, iv 0] [(.ref px)]))
      obtain ⟨_, _, ⟨T60, L62, k63, n64⟩, -, X61, ⟨Lc65, hQ66, l67, y68, z69⟩, st70⟩ := Jvm.LawKit.callS X22 hx (y := (⟨"raciocinio/cli/RecordWriter", "canHold", "(Ljava/lang/String;)Z"⟩ : MethodName)) hown (mvT hZ (tw hw 26 rfl)) (mvT hZ (tw hw 27 rfl)) (mvT hZ (tw hw 28 rfl)) (mvT hZ (tw hw 29 rfl)) (by decide) (backOf (W := 0) (rmCN l Z a0 hw [] px pt [cc0, cc1] h n0 Zh HT O SV SU) hZ (tw hw 29 rfl) (tw hw 28 rfl) (by decide) (by decide)) (g := (mkF m 165 #[iv p0, iv p1, iv p2, iv p3, iv 2, iv cc0, iv cc1, iv cc2, rv pb, rv px, iv 0] [(.ref px)])) rfl (by rw [hml]; rfl) (argsL := [(.ref px)]) (rest := []) (lenOf pdCN rfl) rfl (leW rfl) (hb hby at_165) (fun _ _ => ⟨rfl, e33, (leB rfl), (leB rfl)⟩)
      dsimp only [Pt.U, Pt.locs, Pt.cells, Pt.slots] at X61 l67 y68 z69 st70 hQ66
      subst l67 y68 z69
      obtain ⟨rfl, N76, e72⟩ := hQ66
      have N71 := Fr.app N32 N76
      refine Way.by st70 ?_
      show Way _ _ _ _ (T60.setTop (mkF m 168 #[iv p0, iv p1, iv p2, iv p3, iv 2, iv cc0, iv cc1, iv cc2, rv pb, rv px, iv 0] [(.int (own_hold [cc0, cc1]))]))
      refine Way.by (fun _ k => XS.iload X61.here hx rfl (hb hby at_168) rfl k) ?_
      show Way _ _ _ _ (T60.setTop (mkF m 170 #[iv p0, iv p1, iv p2, iv p3, iv 2, iv cc0, iv cc1, iv cc2, rv pb, rv px, iv 0] [(.int 0), (.int (own_hold [cc0, cc1]))]))
      have b78 : (own_hold [cc0, cc1]) = (0 : Int32) := if_neg (fun q => hb1 (q cc1 (by simp)))
      refine Way.by (fun _ k => XS.icmpNo X61.here hx rfl (hb hby at_170) rfl (teq b78).2 k) ?_
      show Way _ _ _ _ (T60.setTop (mkF m 173 #[iv p0, iv p1, iv p2, iv p3, iv 2, iv cc0, iv cc1, iv cc2, rv pb, rv px, iv 0] []))
      refine Way.by (fun _ k => XS.iconst X61.here hx rfl (hb hby at_173) k) ?_
      show Way _ _ _ _ (T60.setTop (mkF m 174 #[iv p0, iv p1, iv p2, iv p3, iv 2, iv cc0, iv cc1, iv cc2, rv pb, rv px, iv 0] [(.int 1)]))
      refine Way.by (fun _ k => XS.goto X61.here hx rfl (pc0 := 174) (pc' := 178) rfl (hb hby at_174) (by decide) (by decide) k) ?_
      show Way _ _ _ _ (T60.setTop (mkF m 178 #[iv p0, iv p1, iv p2, iv p3, iv 2, iv cc0, iv cc1, iv cc2, rv pb, rv px, iv 0] [(.int 1)]))
      refine Way.retH (v := (some (.int (nar .boolean (1 : Int32))))) X61 hS (by rw [e72]; exact hk) hZ hEL hh e72 H CH hlk (fun h => by rw [Bd.returns] at h; cases h) (fun fs hr => retN X61 hx (t := .boolean) Bd.returns (by simp) (hb hby at_178) hr) ?_ (by decide) (by decide)
      show Q0 n0 _ T60.heap _
      rw [e72]
      exact ⟨rfl, N71⟩
  · skip
    refine Way.by (fun _ k => XS.ifNo X3.here hx rfl (hb hby at_123) rfl ((if0 .eq _).trans (feq hb0).1) k) ?_
    show Way _ _ _ _ (T2.setTop (mkF m 126 #[iv p0, iv p1, iv p2, iv p3, iv 2, iv cc0, iv cc1, iv cc2, rv pb, rv px, iv 1] []))
    refine Way.by (fun _ k => XS.iconst X3.here hx rfl (hb hby at_126) k) ?_
    show Way _ _ _ _ (T2.setTop (mkF m 127 #[iv p0, iv p1, iv p2, iv p3, iv 2, iv cc0, iv cc1, iv cc2, rv pb, rv px, iv 1] [(.int 0)]))
    refine Way.by (fun _ k => XS.istore X3.here hx rfl (hb hby at_127) rfl (l' := #[iv p0, iv p1, iv p2, iv p3, iv 2, iv cc0, iv cc1, iv cc2, rv pb, rv px, iv 0]) rfl k) ?_
    show Way _ _ _ _ (T2.setTop (mkF m 129 #[iv p0, iv p1, iv p2, iv p3, iv 2, iv cc0, iv cc1, iv cc2, rv pb, rv px, iv 0] []))
    refine Way.by (fun _ k => XS.iload X3.here hx rfl (hb hby at_129) rfl k) ?_
    show Way _ _ _ _ (T2.setTop (mkF m 131 #[iv p0, iv p1, iv p2, iv p3, iv 2, iv cc0, iv cc1, iv cc2, rv pb, rv px, iv 0] [(.int 2)]))
    refine Way.by (fun _ k => XS.iconst X3.here hx rfl (hb hby at_131) k) ?_
    show Way _ _ _ _ (T2.setTop (mkF m 132 #[iv p0, iv p1, iv p2, iv p3, iv 2, iv cc0, iv cc1, iv cc2, rv pb, rv px, iv 0] [(.int 1), (.int 2)]))
    have b79 : (1 : Int32) < (2 : Int32) := by decide
    refine Way.by (fun _ k => XS.icmpNo X3.here hx rfl (hb hby at_132) rfl (tlt b79).2.2.2 k) ?_
    show Way _ _ _ _ (T2.setTop (mkF m 135 #[iv p0, iv p1, iv p2, iv p3, iv 2, iv cc0, iv cc1, iv cc2, rv pb, rv px, iv 0] []))
    refine Way.by (fun _ k => XS.iload X3.here hx rfl (hb hby at_135) rfl k) ?_
    show Way _ _ _ _ (T2.setTop (mkF m 137 #[iv p0, iv p1, iv p2, iv p3, iv 2, iv cc0, iv cc1, iv cc2, rv pb, rv px, iv 0] [(.int cc1)]))
    obtain ⟨_, _, ⟨T80, L82, k83, n84⟩, -, X81, ⟨Lc85, hQ86, l87, y88, z89⟩, st90⟩ := Jvm.LawKit.callS X3 hx (y := (⟨"raciocinio/cli/RecordWriterCanHoldPinLaw", "bad", "(C)Z"⟩ : MethodName)) hown (mvT hZ (tw hw 80 rfl)) (mvT hZ (tw hw 81 rfl)) (mvT hZ (tw hw 2 rfl)) (mvT hZ (tw hw 82 rfl)) (by decide) (backOf (W := 0) (rmBD l Z a0 hw [] cc1 h n0 Zh ) hZ (tw hw 82 rfl) (tw hw 2 rfl) (by decide) (by decide)) (g := (mkF m 137 #[iv p0, iv p1, iv p2, iv p3, iv 2, iv cc0, iv cc1, iv cc2, rv pb, rv px, iv 0] [(.int cc1)])) rfl (by rw [hml]; rfl) (argsL := [(.int cc1)]) (rest := []) (lenOf pdBD rfl) rfl (leW rfl) (hb hby at_137) (fun _ _ => ⟨rfl, e14, (leB rfl), (leB rfl)⟩)
    dsimp only [Pt.U, Pt.locs, Pt.cells, Pt.slots] at X81 l87 y88 z89 st90 hQ86
    subst l87 y88 z89
    obtain ⟨rfl, N96, e92⟩ := hQ86
    have N91 := Fr.app N13 N96
    refine Way.by st90 ?_
    show Way _ _ _ _ (T80.setTop (mkF m 140 #[iv p0, iv p1, iv p2, iv p3, iv 2, iv cc0, iv cc1, iv cc2, rv pb, rv px, iv 0] [(.int (own_bad cc1))]))
    by_cases hb1 : (own_bad cc1) = (0 : Int32)
    · skip
      refine Way.by (fun _ k => XS.ifYes X81.here hx rfl (pc0 := 140) (pc' := 146) rfl (hb hby at_140) rfl ((if0 .eq _).trans (teq hb1).1) (by decide) (by decide) k) ?_
      show Way _ _ _ _ (T80.setTop (mkF m 146 #[iv p0, iv p1, iv p2, iv p3, iv 2, iv cc0, iv cc1, iv cc2, rv pb, rv px, iv 0] []))
      refine Way.by (fun _ k => XS.iload X81.here hx rfl (hb hby at_146) rfl k) ?_
      show Way _ _ _ _ (T80.setTop (mkF m 148 #[iv p0, iv p1, iv p2, iv p3, iv 2, iv cc0, iv cc1, iv cc2, rv pb, rv px, iv 0] [(.int 2)]))
      refine Way.by (fun _ k => XS.iconst X81.here hx rfl (hb hby at_148) k) ?_
      show Way _ _ _ _ (T80.setTop (mkF m 149 #[iv p0, iv p1, iv p2, iv p3, iv 2, iv cc0, iv cc1, iv cc2, rv pb, rv px, iv 0] [(.int 2), (.int 2)]))
      have b98 : ¬ (2 : Int32) < (2 : Int32) := by decide
      refine Way.by (fun _ k => XS.icmpYes X81.here hx rfl (pc0 := 149) (pc' := 163) rfl (hb hby at_149) rfl (flt b98).2.2.2 (by decide) (by decide) k) ?_
      show Way _ _ _ _ (T80.setTop (mkF m 163 #[iv p0, iv p1, iv p2, iv p3, iv 2, iv cc0, iv cc1, iv cc2, rv pb, rv px, iv 0] []))
      refine Way.by (fun _ k => XS.aload X81.here hx rfl (hb hby at_163) rfl rfl k) ?_
      show Way _ _ _ _ (T80.setTop (mkF m 165 #[iv p0, iv p1, iv p2, iv p3, iv 2, iv cc0, iv cc1, iv cc2, rv pb, rv px, iv 0] [(.ref px)]))
      obtain ⟨_, _, ⟨T99, L101, k102, n103⟩, -, X100, ⟨Lc104, hQ105, l106, y107, z108⟩, st109⟩ := Jvm.LawKit.callS X81 hx (y := (⟨"raciocinio/cli/RecordWriter", "canHold", "(Ljava/lang/String;)Z"⟩ : MethodName)) hown (mvT hZ (tw hw 26 rfl)) (mvT hZ (tw hw 27 rfl)) (mvT hZ (tw hw 28 rfl)) (mvT hZ (tw hw 29 rfl)) (by decide) (backOf (W := 0) (rmCN l Z a0 hw [] px pt [cc0, cc1] h n0 Zh HT O SV SU) hZ (tw hw 29 rfl) (tw hw 28 rfl) (by decide) (by decide)) (g := (mkF m 165 #[iv p0, iv p1, iv p2, iv p3, iv 2, iv cc0, iv cc1, iv cc2, rv pb, rv px, iv 0] [(.ref px)])) rfl (by rw [hml]; rfl) (argsL := [(.ref px)]) (rest := []) (lenOf pdCN rfl) rfl (leW rfl) (hb hby at_165) (fun _ _ => ⟨rfl, e92, (leB rfl), (leB rfl)⟩)
      dsimp only [Pt.U, Pt.locs, Pt.cells, Pt.slots] at X100 l106 y107 z108 st109 hQ105
      subst l106 y107 z108
      obtain ⟨rfl, N115, e111⟩ := hQ105
      have N110 := Fr.app N91 N115
      refine Way.by st109 ?_
      show Way _ _ _ _ (T99.setTop (mkF m 168 #[iv p0, iv p1, iv p2, iv p3, iv 2, iv cc0, iv cc1, iv cc2, rv pb, rv px, iv 0] [(.int (own_hold [cc0, cc1]))]))
      refine Way.by (fun _ k => XS.iload X100.here hx rfl (hb hby at_168) rfl k) ?_
      show Way _ _ _ _ (T99.setTop (mkF m 170 #[iv p0, iv p1, iv p2, iv p3, iv 2, iv cc0, iv cc1, iv cc2, rv pb, rv px, iv 0] [(.int 0), (.int (own_hold [cc0, cc1]))]))
      have b117 : (own_hold [cc0, cc1]) = (0 : Int32) := if_neg (fun q => hb0 (q cc0 (by simp)))
      refine Way.by (fun _ k => XS.icmpNo X100.here hx rfl (hb hby at_170) rfl (teq b117).2 k) ?_
      show Way _ _ _ _ (T99.setTop (mkF m 173 #[iv p0, iv p1, iv p2, iv p3, iv 2, iv cc0, iv cc1, iv cc2, rv pb, rv px, iv 0] []))
      refine Way.by (fun _ k => XS.iconst X100.here hx rfl (hb hby at_173) k) ?_
      show Way _ _ _ _ (T99.setTop (mkF m 174 #[iv p0, iv p1, iv p2, iv p3, iv 2, iv cc0, iv cc1, iv cc2, rv pb, rv px, iv 0] [(.int 1)]))
      refine Way.by (fun _ k => XS.goto X100.here hx rfl (pc0 := 174) (pc' := 178) rfl (hb hby at_174) (by decide) (by decide) k) ?_
      show Way _ _ _ _ (T99.setTop (mkF m 178 #[iv p0, iv p1, iv p2, iv p3, iv 2, iv cc0, iv cc1, iv cc2, rv pb, rv px, iv 0] [(.int 1)]))
      refine Way.retH (v := (some (.int (nar .boolean (1 : Int32))))) X100 hS (by rw [e111]; exact hk) hZ hEL hh e111 H CH hlk (fun h => by rw [Bd.returns] at h; cases h) (fun fs hr => retN X100 hx (t := .boolean) Bd.returns (by simp) (hb hby at_178) hr) ?_ (by decide) (by decide)
      show Q0 n0 _ T99.heap _
      rw [e111]
      exact ⟨rfl, N110⟩
    · skip
      refine Way.by (fun _ k => XS.ifNo X81.here hx rfl (hb hby at_140) rfl ((if0 .eq _).trans (feq hb1).1) k) ?_
      show Way _ _ _ _ (T80.setTop (mkF m 143 #[iv p0, iv p1, iv p2, iv p3, iv 2, iv cc0, iv cc1, iv cc2, rv pb, rv px, iv 0] []))
      refine Way.by (fun _ k => XS.iconst X81.here hx rfl (hb hby at_143) k) ?_
      show Way _ _ _ _ (T80.setTop (mkF m 144 #[iv p0, iv p1, iv p2, iv p3, iv 2, iv cc0, iv cc1, iv cc2, rv pb, rv px, iv 0] [(.int 0)]))
      refine Way.by (fun _ k => XS.istore X81.here hx rfl (hb hby at_144) rfl (l' := #[iv p0, iv p1, iv p2, iv p3, iv 2, iv cc0, iv cc1, iv cc2, rv pb, rv px, iv 0]) rfl k) ?_
      show Way _ _ _ _ (T80.setTop (mkF m 146 #[iv p0, iv p1, iv p2, iv p3, iv 2, iv cc0, iv cc1, iv cc2, rv pb, rv px, iv 0] []))
      refine Way.by (fun _ k => XS.iload X81.here hx rfl (hb hby at_146) rfl k) ?_
      show Way _ _ _ _ (T80.setTop (mkF m 148 #[iv p0, iv p1, iv p2, iv p3, iv 2, iv cc0, iv cc1, iv cc2, rv pb, rv px, iv 0] [(.int 2)]))
      refine Way.by (fun _ k => XS.iconst X81.here hx rfl (hb hby at_148) k) ?_
      show Way _ _ _ _ (T80.setTop (mkF m 149 #[iv p0, iv p1, iv p2, iv p3, iv 2, iv cc0, iv cc1, iv cc2, rv pb, rv px, iv 0] [(.int 2), (.int 2)]))
      have b118 : ¬ (2 : Int32) < (2 : Int32) := by decide
      refine Way.by (fun _ k => XS.icmpYes X81.here hx rfl (pc0 := 149) (pc' := 163) rfl (hb hby at_149) rfl (flt b118).2.2.2 (by decide) (by decide) k) ?_
      show Way _ _ _ _ (T80.setTop (mkF m 163 #[iv p0, iv p1, iv p2, iv p3, iv 2, iv cc0, iv cc1, iv cc2, rv pb, rv px, iv 0] []))
      refine Way.by (fun _ k => XS.aload X81.here hx rfl (hb hby at_163) rfl rfl k) ?_
      show Way _ _ _ _ (T80.setTop (mkF m 165 #[iv p0, iv p1, iv p2, iv p3, iv 2, iv cc0, iv cc1, iv cc2, rv pb, rv px, iv 0] [(.ref px)]))
      obtain ⟨_, _, ⟨T119, L121, k122, n123⟩, -, X120, ⟨Lc124, hQ125, l126, y127, z128⟩, st129⟩ := Jvm.LawKit.callS X81 hx (y := (⟨"raciocinio/cli/RecordWriter", "canHold", "(Ljava/lang/String;)Z"⟩ : MethodName)) hown (mvT hZ (tw hw 26 rfl)) (mvT hZ (tw hw 27 rfl)) (mvT hZ (tw hw 28 rfl)) (mvT hZ (tw hw 29 rfl)) (by decide) (backOf (W := 0) (rmCN l Z a0 hw [] px pt [cc0, cc1] h n0 Zh HT O SV SU) hZ (tw hw 29 rfl) (tw hw 28 rfl) (by decide) (by decide)) (g := (mkF m 165 #[iv p0, iv p1, iv p2, iv p3, iv 2, iv cc0, iv cc1, iv cc2, rv pb, rv px, iv 0] [(.ref px)])) rfl (by rw [hml]; rfl) (argsL := [(.ref px)]) (rest := []) (lenOf pdCN rfl) rfl (leW rfl) (hb hby at_165) (fun _ _ => ⟨rfl, e92, (leB rfl), (leB rfl)⟩)
      dsimp only [Pt.U, Pt.locs, Pt.cells, Pt.slots] at X120 l126 y127 z128 st129 hQ125
      subst l126 y127 z128
      obtain ⟨rfl, N135, e131⟩ := hQ125
      have N130 := Fr.app N91 N135
      refine Way.by st129 ?_
      show Way _ _ _ _ (T119.setTop (mkF m 168 #[iv p0, iv p1, iv p2, iv p3, iv 2, iv cc0, iv cc1, iv cc2, rv pb, rv px, iv 0] [(.int (own_hold [cc0, cc1]))]))
      refine Way.by (fun _ k => XS.iload X120.here hx rfl (hb hby at_168) rfl k) ?_
      show Way _ _ _ _ (T119.setTop (mkF m 170 #[iv p0, iv p1, iv p2, iv p3, iv 2, iv cc0, iv cc1, iv cc2, rv pb, rv px, iv 0] [(.int 0), (.int (own_hold [cc0, cc1]))]))
      have b137 : (own_hold [cc0, cc1]) = (0 : Int32) := if_neg (fun q => hb0 (q cc0 (by simp)))
      refine Way.by (fun _ k => XS.icmpNo X120.here hx rfl (hb hby at_170) rfl (teq b137).2 k) ?_
      show Way _ _ _ _ (T119.setTop (mkF m 173 #[iv p0, iv p1, iv p2, iv p3, iv 2, iv cc0, iv cc1, iv cc2, rv pb, rv px, iv 0] []))
      refine Way.by (fun _ k => XS.iconst X120.here hx rfl (hb hby at_173) k) ?_
      show Way _ _ _ _ (T119.setTop (mkF m 174 #[iv p0, iv p1, iv p2, iv p3, iv 2, iv cc0, iv cc1, iv cc2, rv pb, rv px, iv 0] [(.int 1)]))
      refine Way.by (fun _ k => XS.goto X120.here hx rfl (pc0 := 174) (pc' := 178) rfl (hb hby at_174) (by decide) (by decide) k) ?_
      show Way _ _ _ _ (T119.setTop (mkF m 178 #[iv p0, iv p1, iv p2, iv p3, iv 2, iv cc0, iv cc1, iv cc2, rv pb, rv px, iv 0] [(.int 1)]))
      refine Way.retH (v := (some (.int (nar .boolean (1 : Int32))))) X120 hS (by rw [e131]; exact hk) hZ hEL hh e131 H CH hlk (fun h => by rw [Bd.returns] at h; cases h) (fun fs hr => retN X120 hx (t := .boolean) Bd.returns (by simp) (hb hby at_178) hr) ?_ (by decide) (by decide)
      show Q0 n0 _ T119.heap _
      rw [e131]
      exact ⟨rfl, N130⟩
set_option maxRecDepth 65536 in
set_option maxHeartbeats 40000000 in
theorem seg110n3 (l : Launch) (Z : State) (a0 : Array Value) (hw : ∀ d ∈ tables_1, d.before a0 Z = true) (ws : List Jvm.Cond) (p0 p1 p2 p3 : Int32) (h0 : Heap) (n0 : Nat) (Z0 : n0 ≤ h0.size) (O0 : Old Z n0 h0) (SV : own_Env Z) (SU : own_U16 Z)
    (p : Program) (e : Env) (s : State) (m : MethodId) (below : List Frame) (meth : Method) (c : Code) (s₁ : State) (Bd : BodyLoose p l x (head1 (Jvm.Cond.code x code maxLocals ret :: ws) room_1) code maxLocals ret e s m #[(.int p0), (.int p1), (.int p2), (.int p3)] below meth c s₁) (hml : c.maxLocals = 11)
    (vm0 : Vm) (hZ : Z.Warmed39 (s.setVm vm0).vm) (hown : (s.setVm vm0).vm.findClass "raciocinio/cli/RecordWriterCanHoldPinLaw" = some m.cls) (k0 : Nat) (hS : s.Since vm0 k0) (hh : s.heap = h0)
    (T : State) (h : Heap) (locs : List Loc) (X : Stand p l e room_1 (s.setVm vm0) m #[(.int p0), (.int p1), (.int p2), (.int p3)] below meth c T locs 12 60) (eT : T.heap = h) (N : Fr n0 locs) (Zh : n0 ≤ h.size) (hk : k0 ≤ h.size) (H : CHv Z own_EL vm0 h) (CH : CHr Z own_EL s.vm h0 vm0 h) (O : Old Z n0 h) (cc0 : Int32) (cc1 : Int32) (cc2 : Int32) (pb : Addr) (px : Addr) (pt : Addr) (HT : own_Txt Z h px pt [cc0, cc1, cc2]) :
    Way p.tables e below (KQH s Z own_EL (Q0 n0) room_1.cells room_1.slots) (T.setTop (mkF m 110 #[iv p0, iv p1, iv p2, iv p3, iv 3, iv cc0, iv cc1, iv cc2, rv pb, rv px, .unset] [])) := by
  have hx := Bd.exec
  have hby := Bd.bytes
  have hlk : meth.locks = false := BodyLoose.notSynchronized Bd
  have hnm := (name_of_methodNamed Bd.named Bd.method).1
  have wS : ∀ d ∈ Bundle.stringAtoms, d.before a0 Z = true := fun d hd => hw d (own_wS d hd)
  have hEL : EW Z a0 own_EL := own_EW hw
  refine Way.by (fun _ k => XS.iconst X.here hx rfl (hb hby at_110) k) ?_
  show Way _ _ _ _ (T.setTop (mkF m 111 #[iv p0, iv p1, iv p2, iv p3, iv 3, iv cc0, iv cc1, iv cc2, rv pb, rv px, .unset] [(.int 1)]))
  refine Way.by (fun _ k => XS.istore X.here hx rfl (hb hby at_111) rfl (l' := #[iv p0, iv p1, iv p2, iv p3, iv 3, iv cc0, iv cc1, iv cc2, rv pb, rv px, iv 1]) rfl k) ?_
  show Way _ _ _ _ (T.setTop (mkF m 113 #[iv p0, iv p1, iv p2, iv p3, iv 3, iv cc0, iv cc1, iv cc2, rv pb, rv px, iv 1] []))
  refine Way.by (fun _ k => XS.iload X.here hx rfl (hb hby at_113) rfl k) ?_
  show Way _ _ _ _ (T.setTop (mkF m 115 #[iv p0, iv p1, iv p2, iv p3, iv 3, iv cc0, iv cc1, iv cc2, rv pb, rv px, iv 1] [(.int 3)]))
  have b1 : (0 : Int32) < (3 : Int32) := by decide
  refine Way.by (fun _ k => XS.ifNo X.here hx rfl (hb hby at_115) rfl ((if0 .le _).trans (tlt b1).2.2.2) k) ?_
  show Way _ _ _ _ (T.setTop (mkF m 118 #[iv p0, iv p1, iv p2, iv p3, iv 3, iv cc0, iv cc1, iv cc2, rv pb, rv px, iv 1] []))
  refine Way.by (fun _ k => XS.iload X.here hx rfl (hb hby at_118) rfl k) ?_
  show Way _ _ _ _ (T.setTop (mkF m 120 #[iv p0, iv p1, iv p2, iv p3, iv 3, iv cc0, iv cc1, iv cc2, rv pb, rv px, iv 1] [(.int cc0)]))
  obtain ⟨_, _, ⟨T2, L4, k5, n6⟩, -, X3, ⟨Lc7, hQ8, l9, y10, z11⟩, st12⟩ := Jvm.LawKit.callS X hx (y := (⟨"raciocinio/cli/RecordWriterCanHoldPinLaw", "bad", "(C)Z"⟩ : MethodName)) hown (mvT hZ (tw hw 80 rfl)) (mvT hZ (tw hw 81 rfl)) (mvT hZ (tw hw 2 rfl)) (mvT hZ (tw hw 82 rfl)) (by decide) (backOf (W := 0) (rmBD l Z a0 hw [] cc0 h n0 Zh ) hZ (tw hw 82 rfl) (tw hw 2 rfl) (by decide) (by decide)) (g := (mkF m 120 #[iv p0, iv p1, iv p2, iv p3, iv 3, iv cc0, iv cc1, iv cc2, rv pb, rv px, iv 1] [(.int cc0)])) rfl (by rw [hml]; rfl) (argsL := [(.int cc0)]) (rest := []) (lenOf pdBD rfl) rfl (leW rfl) (hb hby at_120) (fun _ _ => ⟨rfl, eT, (leB rfl), (leB rfl)⟩)
  dsimp only [Pt.U, Pt.locs, Pt.cells, Pt.slots] at X3 l9 y10 z11 st12 hQ8
  subst l9 y10 z11
  obtain ⟨rfl, N18, e14⟩ := hQ8
  have N13 := Fr.app N N18
  refine Way.by st12 ?_
  show Way _ _ _ _ (T2.setTop (mkF m 123 #[iv p0, iv p1, iv p2, iv p3, iv 3, iv cc0, iv cc1, iv cc2, rv pb, rv px, iv 1] [(.int (own_bad cc0))]))
  by_cases hb0 : (own_bad cc0) = (0 : Int32)
  · skip
    refine Way.by (fun _ k => XS.ifYes X3.here hx rfl (pc0 := 123) (pc' := 129) rfl (hb hby at_123) rfl ((if0 .eq _).trans (teq hb0).1) (by decide) (by decide) k) ?_
    show Way _ _ _ _ (T2.setTop (mkF m 129 #[iv p0, iv p1, iv p2, iv p3, iv 3, iv cc0, iv cc1, iv cc2, rv pb, rv px, iv 1] []))
    refine Way.by (fun _ k => XS.iload X3.here hx rfl (hb hby at_129) rfl k) ?_
    show Way _ _ _ _ (T2.setTop (mkF m 131 #[iv p0, iv p1, iv p2, iv p3, iv 3, iv cc0, iv cc1, iv cc2, rv pb, rv px, iv 1] [(.int 3)]))
    refine Way.by (fun _ k => XS.iconst X3.here hx rfl (hb hby at_131) k) ?_
    show Way _ _ _ _ (T2.setTop (mkF m 132 #[iv p0, iv p1, iv p2, iv p3, iv 3, iv cc0, iv cc1, iv cc2, rv pb, rv px, iv 1] [(.int 1), (.int 3)]))
    have b20 : (1 : Int32) < (3 : Int32) := by decide
    refine Way.by (fun _ k => XS.icmpNo X3.here hx rfl (hb hby at_132) rfl (tlt b20).2.2.2 k) ?_
    show Way _ _ _ _ (T2.setTop (mkF m 135 #[iv p0, iv p1, iv p2, iv p3, iv 3, iv cc0, iv cc1, iv cc2, rv pb, rv px, iv 1] []))
    refine Way.by (fun _ k => XS.iload X3.here hx rfl (hb hby at_135) rfl k) ?_
    show Way _ _ _ _ (T2.setTop (mkF m 137 #[iv p0, iv p1, iv p2, iv p3, iv 3, iv cc0, iv cc1, iv cc2, rv pb, rv px, iv 1] [(.int cc1)]))
    obtain ⟨_, _, ⟨T21, L23, k24, n25⟩, -, X22, ⟨Lc26, hQ27, l28, y29, z30⟩, st31⟩ := Jvm.LawKit.callS X3 hx (y := (⟨"raciocinio/cli/RecordWriterCanHoldPinLaw", "bad", "(C)Z"⟩ : MethodName)) hown (mvT hZ (tw hw 80 rfl)) (mvT hZ (tw hw 81 rfl)) (mvT hZ (tw hw 2 rfl)) (mvT hZ (tw hw 82 rfl)) (by decide) (backOf (W := 0) (rmBD l Z a0 hw [] cc1 h n0 Zh ) hZ (tw hw 82 rfl) (tw hw 2 rfl) (by decide) (by decide)) (g := (mkF m 137 #[iv p0, iv p1, iv p2, iv p3, iv 3, iv cc0, iv cc1, iv cc2, rv pb, rv px, iv 1] [(.int cc1)])) rfl (by rw [hml]; rfl) (argsL := [(.int cc1)]) (rest := []) (lenOf pdBD rfl) rfl (leW rfl) (hb hby at_137) (fun _ _ => ⟨rfl, e14, (leB rfl), (leB rfl)⟩)
    dsimp only [Pt.U, Pt.locs, Pt.cells, Pt.slots] at X22 l28 y29 z30 st31 hQ27
    subst l28 y29 z30
    obtain ⟨rfl, N37, e33⟩ := hQ27
    have N32 := Fr.app N13 N37
    refine Way.by st31 ?_
    show Way _ _ _ _ (T21.setTop (mkF m 140 #[iv p0, iv p1, iv p2, iv p3, iv 3, iv cc0, iv cc1, iv cc2, rv pb, rv px, iv 1] [(.int (own_bad cc1))]))
    by_cases hb1 : (own_bad cc1) = (0 : Int32)
    · skip
      refine Way.by (fun _ k => XS.ifYes X22.here hx rfl (pc0 := 140) (pc' := 146) rfl (hb hby at_140) rfl ((if0 .eq _).trans (teq hb1).1) (by decide) (by decide) k) ?_
      show Way _ _ _ _ (T21.setTop (mkF m 146 #[iv p0, iv p1, iv p2, iv p3, iv 3, iv cc0, iv cc1, iv cc2, rv pb, rv px, iv 1] []))
      refine Way.by (fun _ k => XS.iload X22.here hx rfl (hb hby at_146) rfl k) ?_
      show Way _ _ _ _ (T21.setTop (mkF m 148 #[iv p0, iv p1, iv p2, iv p3, iv 3, iv cc0, iv cc1, iv cc2, rv pb, rv px, iv 1] [(.int 3)]))
      refine Way.by (fun _ k => XS.iconst X22.here hx rfl (hb hby at_148) k) ?_
      show Way _ _ _ _ (T21.setTop (mkF m 149 #[iv p0, iv p1, iv p2, iv p3, iv 3, iv cc0, iv cc1, iv cc2, rv pb, rv px, iv 1] [(.int 2), (.int 3)]))
      have b39 : (2 : Int32) < (3 : Int32) := by decide
      refine Way.by (fun _ k => XS.icmpNo X22.here hx rfl (hb hby at_149) rfl (tlt b39).2.2.2 k) ?_
      show Way _ _ _ _ (T21.setTop (mkF m 152 #[iv p0, iv p1, iv p2, iv p3, iv 3, iv cc0, iv cc1, iv cc2, rv pb, rv px, iv 1] []))
      refine Way.by (fun _ k => XS.iload X22.here hx rfl (hb hby at_152) rfl k) ?_
      show Way _ _ _ _ (T21.setTop (mkF m 154 #[iv p0, iv p1, iv p2, iv p3, iv 3, iv cc0, iv cc1, iv cc2, rv pb, rv px, iv 1] [(.int cc2)]))
      obtain ⟨_, _, ⟨T40, L42, k43, n44⟩, -, X41, ⟨Lc45, hQ46, l47, y48, z49⟩, st50⟩ := Jvm.LawKit.callS X22 hx (y := (⟨"raciocinio/cli/RecordWriterCanHoldPinLaw", "bad", "(C)Z"⟩ : MethodName)) hown (mvT hZ (tw hw 80 rfl)) (mvT hZ (tw hw 81 rfl)) (mvT hZ (tw hw 2 rfl)) (mvT hZ (tw hw 82 rfl)) (by decide) (backOf (W := 0) (rmBD l Z a0 hw [] cc2 h n0 Zh ) hZ (tw hw 82 rfl) (tw hw 2 rfl) (by decide) (by decide)) (g := (mkF m 154 #[iv p0, iv p1, iv p2, iv p3, iv 3, iv cc0, iv cc1, iv cc2, rv pb, rv px, iv 1] [(.int cc2)])) rfl (by rw [hml]; rfl) (argsL := [(.int cc2)]) (rest := []) (lenOf pdBD rfl) rfl (leW rfl) (hb hby at_154) (fun _ _ => ⟨rfl, e33, (leB rfl), (leB rfl)⟩)
      dsimp only [Pt.U, Pt.locs, Pt.cells, Pt.slots] at X41 l47 y48 z49 st50 hQ46
      subst l47 y48 z49
      obtain ⟨rfl, N56, e52⟩ := hQ46
      have N51 := Fr.app N32 N56
      refine Way.by st50 ?_
      show Way _ _ _ _ (T40.setTop (mkF m 157 #[iv p0, iv p1, iv p2, iv p3, iv 3, iv cc0, iv cc1, iv cc2, rv pb, rv px, iv 1] [(.int (own_bad cc2))]))
      by_cases hb2 : (own_bad cc2) = (0 : Int32)
      · skip
        refine Way.by (fun _ k => XS.ifYes X41.here hx rfl (pc0 := 157) (pc' := 163) rfl (hb hby at_157) rfl ((if0 .eq _).trans (teq hb2).1) (by decide) (by decide) k) ?_
        show Way _ _ _ _ (T40.setTop (mkF m 163 #[iv p0, iv p1, iv p2, iv p3, iv 3, iv cc0, iv cc1, iv cc2, rv pb, rv px, iv 1] []))
        refine Way.by (fun _ k => XS.aload X41.here hx rfl (hb hby at_163) rfl rfl k) ?_
        show Way _ _ _ _ (T40.setTop (mkF m 165 #[iv p0, iv p1, iv p2, iv p3, iv 3, iv cc0, iv cc1, iv cc2, rv pb, rv px, iv 1] [(.ref px)]))
        obtain ⟨_, _, ⟨T58, L60, k61, n62⟩, -, X59, ⟨Lc63, hQ64, l65, y66, z67⟩, st68⟩ := Jvm.LawKit.callS X41 hx (y := (⟨"raciocinio/cli/RecordWriter", "canHold", "(Ljava/lang/String;)Z"⟩ : MethodName)) hown (mvT hZ (tw hw 26 rfl)) (mvT hZ (tw hw 27 rfl)) (mvT hZ (tw hw 28 rfl)) (mvT hZ (tw hw 29 rfl)) (by decide) (backOf (W := 0) (rmCN l Z a0 hw [] px pt [cc0, cc1, cc2] h n0 Zh HT O SV SU) hZ (tw hw 29 rfl) (tw hw 28 rfl) (by decide) (by decide)) (g := (mkF m 165 #[iv p0, iv p1, iv p2, iv p3, iv 3, iv cc0, iv cc1, iv cc2, rv pb, rv px, iv 1] [(.ref px)])) rfl (by rw [hml]; rfl) (argsL := [(.ref px)]) (rest := []) (lenOf pdCN rfl) rfl (leW rfl) (hb hby at_165) (fun _ _ => ⟨rfl, e52, (leB rfl), (leB rfl)⟩)
        dsimp only [Pt.U, Pt.locs, Pt.cells, Pt.slots] at X59 l65 y66 z67 st68 hQ64
        subst l65 y66 z67
        obtain ⟨rfl, N74, e70⟩ := hQ64
        have N69 := Fr.app N51 N74
        refine Way.by st68 ?_
        show Way _ _ _ _ (T58.setTop (mkF m 168 #[iv p0, iv p1, iv p2, iv p3, iv 3, iv cc0, iv cc1, iv cc2, rv pb, rv px, iv 1] [(.int (own_hold [cc0, cc1, cc2]))]))
        refine Way.by (fun _ k => XS.iload X59.here hx rfl (hb hby at_168) rfl k) ?_
        show Way _ _ _ _ (T58.setTop (mkF m 170 #[iv p0, iv p1, iv p2, iv p3, iv 3, iv cc0, iv cc1, iv cc2, rv pb, rv px, iv 1] [(.int 1), (.int (own_hold [cc0, cc1, cc2]))]))
        have b76 : (own_hold [cc0, cc1, cc2]) = (1 : Int32) := if_pos (by intro c hc; simp only [List.mem_cons, List.not_mem_nil, or_false] at hc; rcases hc with rfl | rfl | rfl <;> assumption)
        refine Way.by (fun _ k => XS.icmpNo X59.here hx rfl (hb hby at_170) rfl (teq b76).2 k) ?_
        show Way _ _ _ _ (T58.setTop (mkF m 173 #[iv p0, iv p1, iv p2, iv p3, iv 3, iv cc0, iv cc1, iv cc2, rv pb, rv px, iv 1] []))
        refine Way.by (fun _ k => XS.iconst X59.here hx rfl (hb hby at_173) k) ?_
        show Way _ _ _ _ (T58.setTop (mkF m 174 #[iv p0, iv p1, iv p2, iv p3, iv 3, iv cc0, iv cc1, iv cc2, rv pb, rv px, iv 1] [(.int 1)]))
        refine Way.by (fun _ k => XS.goto X59.here hx rfl (pc0 := 174) (pc' := 178) rfl (hb hby at_174) (by decide) (by decide) k) ?_
        show Way _ _ _ _ (T58.setTop (mkF m 178 #[iv p0, iv p1, iv p2, iv p3, iv 3, iv cc0, iv cc1, iv cc2, rv pb, rv px, iv 1] [(.int 1)]))
        refine Way.retH (v := (some (.int (nar .boolean (1 : Int32))))) X59 hS (by rw [e70]; exact hk) hZ hEL hh e70 H CH hlk (fun h => by rw [Bd.returns] at h; cases h) (fun fs hr => retN X59 hx (t := .boolean) Bd.returns (by simp) (hb hby at_178) hr) ?_ (by decide) (by decide)
        show Q0 n0 _ T58.heap _
        rw [e70]
        exact ⟨rfl, N69⟩
      · skip
        refine Way.by (fun _ k => XS.ifNo X41.here hx rfl (hb hby at_157) rfl ((if0 .eq _).trans (feq hb2).1) k) ?_
        show Way _ _ _ _ (T40.setTop (mkF m 160 #[iv p0, iv p1, iv p2, iv p3, iv 3, iv cc0, iv cc1, iv cc2, rv pb, rv px, iv 1] []))
        refine Way.by (fun _ k => XS.iconst X41.here hx rfl (hb hby at_160) k) ?_
        show Way _ _ _ _ (T40.setTop (mkF m 161 #[iv p0, iv p1, iv p2, iv p3, iv 3, iv cc0, iv cc1, iv cc2, rv pb, rv px, iv 1] [(.int 0)]))
        refine Way.by (fun _ k => XS.istore X41.here hx rfl (hb hby at_161) rfl (l' := #[iv p0, iv p1, iv p2, iv p3, iv 3, iv cc0, iv cc1, iv cc2, rv pb, rv px, iv 0]) rfl k) ?_
        show Way _ _ _ _ (T40.setTop (mkF m 163 #[iv p0, iv p1, iv p2, iv p3, iv 3, iv cc0, iv cc1, iv cc2, rv pb, rv px, iv 0] []))
        refine Way.by (fun _ k => XS.aload X41.here hx rfl (hb hby at_163) rfl rfl k) ?_
        show Way _ _ _ _ (T40.setTop (mkF m 165 #[iv p0, iv p1, iv p2, iv p3, iv 3, iv cc0, iv cc1, iv cc2, rv pb, rv px, iv 0] [(.ref px)]))
        obtain ⟨_, _, ⟨T77, L79, k80, n81⟩, -, X78, ⟨Lc82, hQ83, l84, y85, z86⟩, st87⟩ := Jvm.LawKit.callS X41 hx (y := (⟨"raciocinio/cli/RecordWriter", "canHold", "(Ljava/lang/String;)Z"⟩ : MethodName)) hown (mvT hZ (tw hw 26 rfl)) (mvT hZ (tw hw 27 rfl)) (mvT hZ (tw hw 28 rfl)) (mvT hZ (tw hw 29 rfl)) (by decide) (backOf (W := 0) (rmCN l Z a0 hw [] px pt [cc0, cc1, cc2] h n0 Zh HT O SV SU) hZ (tw hw 29 rfl) (tw hw 28 rfl) (by decide) (by decide)) (g := (mkF m 165 #[iv p0, iv p1, iv p2, iv p3, iv 3, iv cc0, iv cc1, iv cc2, rv pb, rv px, iv 0] [(.ref px)])) rfl (by rw [hml]; rfl) (argsL := [(.ref px)]) (rest := []) (lenOf pdCN rfl) rfl (leW rfl) (hb hby at_165) (fun _ _ => ⟨rfl, e52, (leB rfl), (leB rfl)⟩)
        dsimp only [Pt.U, Pt.locs, Pt.cells, Pt.slots] at X78 l84 y85 z86 st87 hQ83
        subst l84 y85 z86
        obtain ⟨rfl, N93, e89⟩ := hQ83
        have N88 := Fr.app N51 N93
        refine Way.by st87 ?_
        show Way _ _ _ _ (T77.setTop (mkF m 168 #[iv p0, iv p1, iv p2, iv p3, iv 3, iv cc0, iv cc1, iv cc2, rv pb, rv px, iv 0] [(.int (own_hold [cc0, cc1, cc2]))]))
        refine Way.by (fun _ k => XS.iload X78.here hx rfl (hb hby at_168) rfl k) ?_
        show Way _ _ _ _ (T77.setTop (mkF m 170 #[iv p0, iv p1, iv p2, iv p3, iv 3, iv cc0, iv cc1, iv cc2, rv pb, rv px, iv 0] [(.int 0), (.int (own_hold [cc0, cc1, cc2]))]))
        have b95 : (own_hold [cc0, cc1, cc2]) = (0 : Int32) := if_neg (fun q => hb2 (q cc2 (by simp)))
        refine Way.by (fun _ k => XS.icmpNo X78.here hx rfl (hb hby at_170) rfl (teq b95).2 k) ?_
        show Way _ _ _ _ (T77.setTop (mkF m 173 #[iv p0, iv p1, iv p2, iv p3, iv 3, iv cc0, iv cc1, iv cc2, rv pb, rv px, iv 0] []))
        refine Way.by (fun _ k => XS.iconst X78.here hx rfl (hb hby at_173) k) ?_
        show Way _ _ _ _ (T77.setTop (mkF m 174 #[iv p0, iv p1, iv p2, iv p3, iv 3, iv cc0, iv cc1, iv cc2, rv pb, rv px, iv 0] [(.int 1)]))
        refine Way.by (fun _ k => XS.goto X78.here hx rfl (pc0 := 174) (pc' := 178) rfl (hb hby at_174) (by decide) (by decide) k) ?_
        show Way _ _ _ _ (T77.setTop (mkF m 178 #[iv p0, iv p1, iv p2, iv p3, iv 3, iv cc0, iv cc1, iv cc2, rv pb, rv px, iv 0] [(.int 1)]))
        refine Way.retH (v := (some (.int (nar .boolean (1 : Int32))))) X78 hS (by rw [e89]; exact hk) hZ hEL hh e89 H CH hlk (fun h => by rw [Bd.returns] at h; cases h) (fun fs hr => retN X78 hx (t := .boolean) Bd.returns (by simp) (hb hby at_178) hr) ?_ (by decide) (by decide)
        show Q0 n0 _ T77.heap _
        rw [e89]
        exact ⟨rfl, N88⟩
    · skip
      refine Way.by (fun _ k => XS.ifNo X22.here hx rfl (hb hby at_140) rfl ((if0 .eq _).trans (feq hb1).1) k) ?_
      show Way _ _ _ _ (T21.setTop (mkF m 143 #[iv p0, iv p1, iv p2, iv p3, iv 3, iv cc0, iv cc1, iv cc2, rv pb, rv px, iv 1] []))
      refine Way.by (fun _ k => XS.iconst X22.here hx rfl (hb hby at_143) k) ?_
      show Way _ _ _ _ (T21.setTop (mkF m 144 #[iv p0, iv p1, iv p2, iv p3, iv 3, iv cc0, iv cc1, iv cc2, rv pb, rv px, iv 1] [(.int 0)]))
      refine Way.by (fun _ k => XS.istore X22.here hx rfl (hb hby at_144) rfl (l' := #[iv p0, iv p1, iv p2, iv p3, iv 3, iv cc0, iv cc1, iv cc2, rv pb, rv px, iv 0]) rfl k) ?_
      show Way _ _ _ _ (T21.setTop (mkF m 146 #[iv p0, iv p1, iv p2, iv p3, iv 3, iv cc0, iv cc1, iv cc2, rv pb, rv px, iv 0] []))
      refine Way.by (fun _ k => XS.iload X22.here hx rfl (hb hby at_146) rfl k) ?_
      show Way _ _ _ _ (T21.setTop (mkF m 148 #[iv p0, iv p1, iv p2, iv p3, iv 3, iv cc0, iv cc1, iv cc2, rv pb, rv px, iv 0] [(.int 3)]))
      refine Way.by (fun _ k => XS.iconst X22.here hx rfl (hb hby at_148) k) ?_
      show Way _ _ _ _ (T21.setTop (mkF m 149 #[iv p0, iv p1, iv p2, iv p3, iv 3, iv cc0, iv cc1, iv cc2, rv pb, rv px, iv 0] [(.int 2), (.int 3)]))
      have b96 : (2 : Int32) < (3 : Int32) := by decide
      refine Way.by (fun _ k => XS.icmpNo X22.here hx rfl (hb hby at_149) rfl (tlt b96).2.2.2 k) ?_
      show Way _ _ _ _ (T21.setTop (mkF m 152 #[iv p0, iv p1, iv p2, iv p3, iv 3, iv cc0, iv cc1, iv cc2, rv pb, rv px, iv 0] []))
      refine Way.by (fun _ k => XS.iload X22.here hx rfl (hb hby at_152) rfl k) ?_
      show Way _ _ _ _ (T21.setTop (mkF m 154 #[iv p0, iv p1, iv p2, iv p3, iv 3, iv cc0, iv cc1, iv cc2, rv pb, rv px, iv 0] [(.int cc2)]))
      obtain ⟨_, _, ⟨T97, L99, k100, n101⟩, -, X98, ⟨Lc102, hQ103, l104, y105, z106⟩, st107⟩ := Jvm.LawKit.callS X22 hx (y := (⟨"raciocinio/cli/RecordWriterCanHoldPinLaw", "bad", "(C)Z"⟩ : MethodName)) hown (mvT hZ (tw hw 80 rfl)) (mvT hZ (tw hw 81 rfl)) (mvT hZ (tw hw 2 rfl)) (mvT hZ (tw hw 82 rfl)) (by decide) (backOf (W := 0) (rmBD l Z a0 hw [] cc2 h n0 Zh ) hZ (tw hw 82 rfl) (tw hw 2 rfl) (by decide) (by decide)) (g := (mkF m 154 #[iv p0, iv p1, iv p2, iv p3, iv 3, iv cc0, iv cc1, iv cc2, rv pb, rv px, iv 0] [(.int cc2)])) rfl (by rw [hml]; rfl) (argsL := [(.int cc2)]) (rest := []) (lenOf pdBD rfl) rfl (leW rfl) (hb hby at_154) (fun _ _ => ⟨rfl, e33, (leB rfl), (leB rfl)⟩)
      dsimp only [Pt.U, Pt.locs, Pt.cells, Pt.slots] at X98 l104 y105 z106 st107 hQ103
      subst l104 y105 z106
      obtain ⟨rfl, N113, e109⟩ := hQ103
      have N108 := Fr.app N32 N113
      refine Way.by st107 ?_
      show Way _ _ _ _ (T97.setTop (mkF m 157 #[iv p0, iv p1, iv p2, iv p3, iv 3, iv cc0, iv cc1, iv cc2, rv pb, rv px, iv 0] [(.int (own_bad cc2))]))
      by_cases hb2 : (own_bad cc2) = (0 : Int32)
      · skip
        refine Way.by (fun _ k => XS.ifYes X98.here hx rfl (pc0 := 157) (pc' := 163) rfl (hb hby at_157) rfl ((if0 .eq _).trans (teq hb2).1) (by decide) (by decide) k) ?_
        show Way _ _ _ _ (T97.setTop (mkF m 163 #[iv p0, iv p1, iv p2, iv p3, iv 3, iv cc0, iv cc1, iv cc2, rv pb, rv px, iv 0] []))
        refine Way.by (fun _ k => XS.aload X98.here hx rfl (hb hby at_163) rfl rfl k) ?_
        show Way _ _ _ _ (T97.setTop (mkF m 165 #[iv p0, iv p1, iv p2, iv p3, iv 3, iv cc0, iv cc1, iv cc2, rv pb, rv px, iv 0] [(.ref px)]))
        obtain ⟨_, _, ⟨T115, L117, k118, n119⟩, -, X116, ⟨Lc120, hQ121, l122, y123, z124⟩, st125⟩ := Jvm.LawKit.callS X98 hx (y := (⟨"raciocinio/cli/RecordWriter", "canHold", "(Ljava/lang/String;)Z"⟩ : MethodName)) hown (mvT hZ (tw hw 26 rfl)) (mvT hZ (tw hw 27 rfl)) (mvT hZ (tw hw 28 rfl)) (mvT hZ (tw hw 29 rfl)) (by decide) (backOf (W := 0) (rmCN l Z a0 hw [] px pt [cc0, cc1, cc2] h n0 Zh HT O SV SU) hZ (tw hw 29 rfl) (tw hw 28 rfl) (by decide) (by decide)) (g := (mkF m 165 #[iv p0, iv p1, iv p2, iv p3, iv 3, iv cc0, iv cc1, iv cc2, rv pb, rv px, iv 0] [(.ref px)])) rfl (by rw [hml]; rfl) (argsL := [(.ref px)]) (rest := []) (lenOf pdCN rfl) rfl (leW rfl) (hb hby at_165) (fun _ _ => ⟨rfl, e109, (leB rfl), (leB rfl)⟩)
        dsimp only [Pt.U, Pt.locs, Pt.cells, Pt.slots] at X116 l122 y123 z124 st125 hQ121
        subst l122 y123 z124
        obtain ⟨rfl, N131, e127⟩ := hQ121
        have N126 := Fr.app N108 N131
        refine Way.by st125 ?_
        show Way _ _ _ _ (T115.setTop (mkF m 168 #[iv p0, iv p1, iv p2, iv p3, iv 3, iv cc0, iv cc1, iv cc2, rv pb, rv px, iv 0] [(.int (own_hold [cc0, cc1, cc2]))]))
        refine Way.by (fun _ k => XS.iload X116.here hx rfl (hb hby at_168) rfl k) ?_
        show Way _ _ _ _ (T115.setTop (mkF m 170 #[iv p0, iv p1, iv p2, iv p3, iv 3, iv cc0, iv cc1, iv cc2, rv pb, rv px, iv 0] [(.int 0), (.int (own_hold [cc0, cc1, cc2]))]))
        have b133 : (own_hold [cc0, cc1, cc2]) = (0 : Int32) := if_neg (fun q => hb1 (q cc1 (by simp)))
        refine Way.by (fun _ k => XS.icmpNo X116.here hx rfl (hb hby at_170) rfl (teq b133).2 k) ?_
        show Way _ _ _ _ (T115.setTop (mkF m 173 #[iv p0, iv p1, iv p2, iv p3, iv 3, iv cc0, iv cc1, iv cc2, rv pb, rv px, iv 0] []))
        refine Way.by (fun _ k => XS.iconst X116.here hx rfl (hb hby at_173) k) ?_
        show Way _ _ _ _ (T115.setTop (mkF m 174 #[iv p0, iv p1, iv p2, iv p3, iv 3, iv cc0, iv cc1, iv cc2, rv pb, rv px, iv 0] [(.int 1)]))
        refine Way.by (fun _ k => XS.goto X116.here hx rfl (pc0 := 174) (pc' := 178) rfl (hb hby at_174) (by decide) (by decide) k) ?_
        show Way _ _ _ _ (T115.setTop (mkF m 178 #[iv p0, iv p1, iv p2, iv p3, iv 3, iv cc0, iv cc1, iv cc2, rv pb, rv px, iv 0] [(.int 1)]))
        refine Way.retH (v := (some (.int (nar .boolean (1 : Int32))))) X116 hS (by rw [e127]; exact hk) hZ hEL hh e127 H CH hlk (fun h => by rw [Bd.returns] at h; cases h) (fun fs hr => retN X116 hx (t := .boolean) Bd.returns (by simp) (hb hby at_178) hr) ?_ (by decide) (by decide)
        show Q0 n0 _ T115.heap _
        rw [e127]
        exact ⟨rfl, N126⟩
      · skip
        refine Way.by (fun _ k => XS.ifNo X98.here hx rfl (hb hby at_157) rfl ((if0 .eq _).trans (feq hb2).1) k) ?_
        show Way _ _ _ _ (T97.setTop (mkF m 160 #[iv p0, iv p1, iv p2, iv p3, iv 3, iv cc0, iv cc1, iv cc2, rv pb, rv px, iv 0] []))
        refine Way.by (fun _ k => XS.iconst X98.here hx rfl (hb hby at_160) k) ?_
        show Way _ _ _ _ (T97.setTop (mkF m 161 #[iv p0, iv p1, iv p2, iv p3, iv 3, iv cc0, iv cc1, iv cc2, rv pb, rv px, iv 0] [(.int 0)]))
        refine Way.by (fun _ k => XS.istore X98.here hx rfl (hb hby at_161) rfl (l' := #[iv p0, iv p1, iv p2, iv p3, iv 3, iv cc0, iv cc1, iv cc2, rv pb, rv px, iv 0]) rfl k) ?_
        show Way _ _ _ _ (T97.setTop (mkF m 163 #[iv p0, iv p1, iv p2, iv p3, iv 3, iv cc0, iv cc1, iv cc2, rv pb, rv px, iv 0] []))
        refine Way.by (fun _ k => XS.aload X98.here hx rfl (hb hby at_163) rfl rfl k) ?_
        show Way _ _ _ _ (T97.setTop (mkF m 165 #[iv p0, iv p1, iv p2, iv p3, iv 3, iv cc0, iv cc1, iv cc2, rv pb, rv px, iv 0] [(.ref px)]))
        obtain ⟨_, _, ⟨T134, L136, k137, n138⟩, -, X135, ⟨Lc139, hQ140, l141, y142, z143⟩, st144⟩ := Jvm.LawKit.callS X98 hx (y := (⟨"raciocinio/cli/RecordWriter", "canHold", "(Ljava/lang/String;)Z"⟩ : MethodName)) hown (mvT hZ (tw hw 26 rfl)) (mvT hZ (tw hw 27 rfl)) (mvT hZ (tw hw 28 rfl)) (mvT hZ (tw hw 29 rfl)) (by decide) (backOf (W := 0) (rmCN l Z a0 hw [] px pt [cc0, cc1, cc2] h n0 Zh HT O SV SU) hZ (tw hw 29 rfl) (tw hw 28 rfl) (by decide) (by decide)) (g := (mkF m 165 #[iv p0, iv p1, iv p2, iv p3, iv 3, iv cc0, iv cc1, iv cc2, rv pb, rv px, iv 0] [(.ref px)])) rfl (by rw [hml]; rfl) (argsL := [(.ref px)]) (rest := []) (lenOf pdCN rfl) rfl (leW rfl) (hb hby at_165) (fun _ _ => ⟨rfl, e109, (leB rfl), (leB rfl)⟩)
        dsimp only [Pt.U, Pt.locs, Pt.cells, Pt.slots] at X135 l141 y142 z143 st144 hQ140
        subst l141 y142 z143
        obtain ⟨rfl, N150, e146⟩ := hQ140
        have N145 := Fr.app N108 N150
        refine Way.by st144 ?_
        show Way _ _ _ _ (T134.setTop (mkF m 168 #[iv p0, iv p1, iv p2, iv p3, iv 3, iv cc0, iv cc1, iv cc2, rv pb, rv px, iv 0] [(.int (own_hold [cc0, cc1, cc2]))]))
        refine Way.by (fun _ k => XS.iload X135.here hx rfl (hb hby at_168) rfl k) ?_
        show Way _ _ _ _ (T134.setTop (mkF m 170 #[iv p0, iv p1, iv p2, iv p3, iv 3, iv cc0, iv cc1, iv cc2, rv pb, rv px, iv 0] [(.int 0), (.int (own_hold [cc0, cc1, cc2]))]))
        have b152 : (own_hold [cc0, cc1, cc2]) = (0 : Int32) := if_neg (fun q => hb1 (q cc1 (by simp)))
        refine Way.by (fun _ k => XS.icmpNo X135.here hx rfl (hb hby at_170) rfl (teq b152).2 k) ?_
        show Way _ _ _ _ (T134.setTop (mkF m 173 #[iv p0, iv p1, iv p2, iv p3, iv 3, iv cc0, iv cc1, iv cc2, rv pb, rv px, iv 0] []))
        refine Way.by (fun _ k => XS.iconst X135.here hx rfl (hb hby at_173) k) ?_
        show Way _ _ _ _ (T134.setTop (mkF m 174 #[iv p0, iv p1, iv p2, iv p3, iv 3, iv cc0, iv cc1, iv cc2, rv pb, rv px, iv 0] [(.int 1)]))
        refine Way.by (fun _ k => XS.goto X135.here hx rfl (pc0 := 174) (pc' := 178) rfl (hb hby at_174) (by decide) (by decide) k) ?_
        show Way _ _ _ _ (T134.setTop (mkF m 178 #[iv p0, iv p1, iv p2, iv p3, iv 3, iv cc0, iv cc1, iv cc2, rv pb, rv px, iv 0] [(.int 1)]))
        refine Way.retH (v := (some (.int (nar .boolean (1 : Int32))))) X135 hS (by rw [e146]; exact hk) hZ hEL hh e146 H CH hlk (fun h => by rw [Bd.returns] at h; cases h) (fun fs hr => retN X135 hx (t := .boolean) Bd.returns (by simp) (hb hby at_178) hr) ?_ (by decide) (by decide)
        show Q0 n0 _ T134.heap _
        rw [e146]
        exact ⟨rfl, N145⟩
  · skip
    refine Way.by (fun _ k => XS.ifNo X3.here hx rfl (hb hby at_123) rfl ((if0 .eq _).trans (feq hb0).1) k) ?_
    show Way _ _ _ _ (T2.setTop (mkF m 126 #[iv p0, iv p1, iv p2, iv p3, iv 3, iv cc0, iv cc1, iv cc2, rv pb, rv px, iv 1] []))
    refine Way.by (fun _ k => XS.iconst X3.here hx rfl (hb hby at_126) k) ?_
    show Way _ _ _ _ (T2.setTop (mkF m 127 #[iv p0, iv p1, iv p2, iv p3, iv 3, iv cc0, iv cc1, iv cc2, rv pb, rv px, iv 1] [(.int 0)]))
    refine Way.by (fun _ k => XS.istore X3.here hx rfl (hb hby at_127) rfl (l' := #[iv p0, iv p1, iv p2, iv p3, iv 3, iv cc0, iv cc1, iv cc2, rv pb, rv px, iv 0]) rfl k) ?_
    show Way _ _ _ _ (T2.setTop (mkF m 129 #[iv p0, iv p1, iv p2, iv p3, iv 3, iv cc0, iv cc1, iv cc2, rv pb, rv px, iv 0] []))
    refine Way.by (fun _ k => XS.iload X3.here hx rfl (hb hby at_129) rfl k) ?_
    show Way _ _ _ _ (T2.setTop (mkF m 131 #[iv p0, iv p1, iv p2, iv p3, iv 3, iv cc0, iv cc1, iv cc2, rv pb, rv px, iv 0] [(.int 3)]))
    refine Way.by (fun _ k => XS.iconst X3.here hx rfl (hb hby at_131) k) ?_
    show Way _ _ _ _ (T2.setTop (mkF m 132 #[iv p0, iv p1, iv p2, iv p3, iv 3, iv cc0, iv cc1, iv cc2, rv pb, rv px, iv 0] [(.int 1), (.int 3)]))
    have b153 : (1 : Int32) < (3 : Int32) := by decide
    refine Way.by (fun _ k => XS.icmpNo X3.here hx rfl (hb hby at_132) rfl (tlt b153).2.2.2 k) ?_
    show Way _ _ _ _ (T2.setTop (mkF m 135 #[iv p0, iv p1, iv p2, iv p3, iv 3, iv cc0, iv cc1, iv cc2, rv pb, rv px, iv 0] []))
    refine Way.by (fun _ k => XS.iload X3.here hx rfl (hb hby at_135) rfl k) ?_
    show Way _ _ _ _ (T2.setTop (mkF m 137 #[iv p0, iv p1, iv p2, iv p3, iv 3, iv cc0, iv cc1, iv cc2, rv pb, rv px, iv 0] [(.int cc1)]))
    obtain ⟨_, _, ⟨T154, L156, k157, n158⟩, -, X155, ⟨Lc159, hQ160, l161, y162, z163⟩, st164⟩ := Jvm.LawKit.callS X3 hx (y := (⟨"raciocinio/cli/RecordWriterCanHoldPinLaw", "bad", "(C)Z"⟩ : MethodName)) hown (mvT hZ (tw hw 80 rfl)) (mvT hZ (tw hw 81 rfl)) (mvT hZ (tw hw 2 rfl)) (mvT hZ (tw hw 82 rfl)) (by decide) (backOf (W := 0) (rmBD l Z a0 hw [] cc1 h n0 Zh ) hZ (tw hw 82 rfl) (tw hw 2 rfl) (by decide) (by decide)) (g := (mkF m 137 #[iv p0, iv p1, iv p2, iv p3, iv 3, iv cc0, iv cc1, iv cc2, rv pb, rv px, iv 0] [(.int cc1)])) rfl (by rw [hml]; rfl) (argsL := [(.int cc1)]) (rest := []) (lenOf pdBD rfl) rfl (leW rfl) (hb hby at_137) (fun _ _ => ⟨rfl, e14, (leB rfl), (leB rfl)⟩)
    dsimp only [Pt.U, Pt.locs, Pt.cells, Pt.slots] at X155 l161 y162 z163 st164 hQ160
    subst l161 y162 z163
    obtain ⟨rfl, N170, e166⟩ := hQ160
    have N165 := Fr.app N13 N170
    refine Way.by st164 ?_
    show Way _ _ _ _ (T154.setTop (mkF m 140 #[iv p0, iv p1, iv p2, iv p3, iv 3, iv cc0, iv cc1, iv cc2, rv pb, rv px, iv 0] [(.int (own_bad cc1))]))
    by_cases hb1 : (own_bad cc1) = (0 : Int32)
    · skip
      refine Way.by (fun _ k => XS.ifYes X155.here hx rfl (pc0 := 140) (pc' := 146) rfl (hb hby at_140) rfl ((if0 .eq _).trans (teq hb1).1) (by decide) (by decide) k) ?_
      show Way _ _ _ _ (T154.setTop (mkF m 146 #[iv p0, iv p1, iv p2, iv p3, iv 3, iv cc0, iv cc1, iv cc2, rv pb, rv px, iv 0] []))
      refine Way.by (fun _ k => XS.iload X155.here hx rfl (hb hby at_146) rfl k) ?_
      show Way _ _ _ _ (T154.setTop (mkF m 148 #[iv p0, iv p1, iv p2, iv p3, iv 3, iv cc0, iv cc1, iv cc2, rv pb, rv px, iv 0] [(.int 3)]))
      refine Way.by (fun _ k => XS.iconst X155.here hx rfl (hb hby at_148) k) ?_
      show Way _ _ _ _ (T154.setTop (mkF m 149 #[iv p0, iv p1, iv p2, iv p3, iv 3, iv cc0, iv cc1, iv cc2, rv pb, rv px, iv 0] [(.int 2), (.int 3)]))
      have b172 : (2 : Int32) < (3 : Int32) := by decide
      refine Way.by (fun _ k => XS.icmpNo X155.here hx rfl (hb hby at_149) rfl (tlt b172).2.2.2 k) ?_
      show Way _ _ _ _ (T154.setTop (mkF m 152 #[iv p0, iv p1, iv p2, iv p3, iv 3, iv cc0, iv cc1, iv cc2, rv pb, rv px, iv 0] []))
      refine Way.by (fun _ k => XS.iload X155.here hx rfl (hb hby at_152) rfl k) ?_
      show Way _ _ _ _ (T154.setTop (mkF m 154 #[iv p0, iv p1, iv p2, iv p3, iv 3, iv cc0, iv cc1, iv cc2, rv pb, rv px, iv 0] [(.int cc2)]))
      obtain ⟨_, _, ⟨T173, L175, k176, n177⟩, -, X174, ⟨Lc178, hQ179, l180, y181, z182⟩, st183⟩ := Jvm.LawKit.callS X155 hx (y := (⟨"raciocinio/cli/RecordWriterCanHoldPinLaw", "bad", "(C)Z"⟩ : MethodName)) hown (mvT hZ (tw hw 80 rfl)) (mvT hZ (tw hw 81 rfl)) (mvT hZ (tw hw 2 rfl)) (mvT hZ (tw hw 82 rfl)) (by decide) (backOf (W := 0) (rmBD l Z a0 hw [] cc2 h n0 Zh ) hZ (tw hw 82 rfl) (tw hw 2 rfl) (by decide) (by decide)) (g := (mkF m 154 #[iv p0, iv p1, iv p2, iv p3, iv 3, iv cc0, iv cc1, iv cc2, rv pb, rv px, iv 0] [(.int cc2)])) rfl (by rw [hml]; rfl) (argsL := [(.int cc2)]) (rest := []) (lenOf pdBD rfl) rfl (leW rfl) (hb hby at_154) (fun _ _ => ⟨rfl, e166, (leB rfl), (leB rfl)⟩)
      dsimp only [Pt.U, Pt.locs, Pt.cells, Pt.slots] at X174 l180 y181 z182 st183 hQ179
      subst l180 y181 z182
      obtain ⟨rfl, N189, e185⟩ := hQ179
      have N184 := Fr.app N165 N189
      refine Way.by st183 ?_
      show Way _ _ _ _ (T173.setTop (mkF m 157 #[iv p0, iv p1, iv p2, iv p3, iv 3, iv cc0, iv cc1, iv cc2, rv pb, rv px, iv 0] [(.int (own_bad cc2))]))
      by_cases hb2 : (own_bad cc2) = (0 : Int32)
      · skip
        refine Way.by (fun _ k => XS.ifYes X174.here hx rfl (pc0 := 157) (pc' := 163) rfl (hb hby at_157) rfl ((if0 .eq _).trans (teq hb2).1) (by decide) (by decide) k) ?_
        show Way _ _ _ _ (T173.setTop (mkF m 163 #[iv p0, iv p1, iv p2, iv p3, iv 3, iv cc0, iv cc1, iv cc2, rv pb, rv px, iv 0] []))
        refine Way.by (fun _ k => XS.aload X174.here hx rfl (hb hby at_163) rfl rfl k) ?_
        show Way _ _ _ _ (T173.setTop (mkF m 165 #[iv p0, iv p1, iv p2, iv p3, iv 3, iv cc0, iv cc1, iv cc2, rv pb, rv px, iv 0] [(.ref px)]))
        obtain ⟨_, _, ⟨T191, L193, k194, n195⟩, -, X192, ⟨Lc196, hQ197, l198, y199, z200⟩, st201⟩ := Jvm.LawKit.callS X174 hx (y := (⟨"raciocinio/cli/RecordWriter", "canHold", "(Ljava/lang/String;)Z"⟩ : MethodName)) hown (mvT hZ (tw hw 26 rfl)) (mvT hZ (tw hw 27 rfl)) (mvT hZ (tw hw 28 rfl)) (mvT hZ (tw hw 29 rfl)) (by decide) (backOf (W := 0) (rmCN l Z a0 hw [] px pt [cc0, cc1, cc2] h n0 Zh HT O SV SU) hZ (tw hw 29 rfl) (tw hw 28 rfl) (by decide) (by decide)) (g := (mkF m 165 #[iv p0, iv p1, iv p2, iv p3, iv 3, iv cc0, iv cc1, iv cc2, rv pb, rv px, iv 0] [(.ref px)])) rfl (by rw [hml]; rfl) (argsL := [(.ref px)]) (rest := []) (lenOf pdCN rfl) rfl (leW rfl) (hb hby at_165) (fun _ _ => ⟨rfl, e185, (leB rfl), (leB rfl)⟩)
        dsimp only [Pt.U, Pt.locs, Pt.cells, Pt.slots] at X192 l198 y199 z200 st201 hQ197
        subst l198 y199 z200
        obtain ⟨rfl, N207, e203⟩ := hQ197
        have N202 := Fr.app N184 N207
        refine Way.by st201 ?_
        show Way _ _ _ _ (T191.setTop (mkF m 168 #[iv p0, iv p1, iv p2, iv p3, iv 3, iv cc0, iv cc1, iv cc2, rv pb, rv px, iv 0] [(.int (own_hold [cc0, cc1, cc2]))]))
        refine Way.by (fun _ k => XS.iload X192.here hx rfl (hb hby at_168) rfl k) ?_
        show Way _ _ _ _ (T191.setTop (mkF m 170 #[iv p0, iv p1, iv p2, iv p3, iv 3, iv cc0, iv cc1, iv cc2, rv pb, rv px, iv 0] [(.int 0), (.int (own_hold [cc0, cc1, cc2]))]))
        have b209 : (own_hold [cc0, cc1, cc2]) = (0 : Int32) := if_neg (fun q => hb0 (q cc0 (by simp)))
        refine Way.by (fun _ k => XS.icmpNo X192.here hx rfl (hb hby at_170) rfl (teq b209).2 k) ?_
        show Way _ _ _ _ (T191.setTop (mkF m 173 #[iv p0, iv p1, iv p2, iv p3, iv 3, iv cc0, iv cc1, iv cc2, rv pb, rv px, iv 0] []))
        refine Way.by (fun _ k => XS.iconst X192.here hx rfl (hb hby at_173) k) ?_
        show Way _ _ _ _ (T191.setTop (mkF m 174 #[iv p0, iv p1, iv p2, iv p3, iv 3, iv cc0, iv cc1, iv cc2, rv pb, rv px, iv 0] [(.int 1)]))
        refine Way.by (fun _ k => XS.goto X192.here hx rfl (pc0 := 174) (pc' := 178) rfl (hb hby at_174) (by decide) (by decide) k) ?_
        show Way _ _ _ _ (T191.setTop (mkF m 178 #[iv p0, iv p1, iv p2, iv p3, iv 3, iv cc0, iv cc1, iv cc2, rv pb, rv px, iv 0] [(.int 1)]))
        refine Way.retH (v := (some (.int (nar .boolean (1 : Int32))))) X192 hS (by rw [e203]; exact hk) hZ hEL hh e203 H CH hlk (fun h => by rw [Bd.returns] at h; cases h) (fun fs hr => retN X192 hx (t := .boolean) Bd.returns (by simp) (hb hby at_178) hr) ?_ (by decide) (by decide)
        show Q0 n0 _ T191.heap _
        rw [e203]
        exact ⟨rfl, N202⟩
      · skip
        refine Way.by (fun _ k => XS.ifNo X174.here hx rfl (hb hby at_157) rfl ((if0 .eq _).trans (feq hb2).1) k) ?_
        show Way _ _ _ _ (T173.setTop (mkF m 160 #[iv p0, iv p1, iv p2, iv p3, iv 3, iv cc0, iv cc1, iv cc2, rv pb, rv px, iv 0] []))
        refine Way.by (fun _ k => XS.iconst X174.here hx rfl (hb hby at_160) k) ?_
        show Way _ _ _ _ (T173.setTop (mkF m 161 #[iv p0, iv p1, iv p2, iv p3, iv 3, iv cc0, iv cc1, iv cc2, rv pb, rv px, iv 0] [(.int 0)]))
        refine Way.by (fun _ k => XS.istore X174.here hx rfl (hb hby at_161) rfl (l' := #[iv p0, iv p1, iv p2, iv p3, iv 3, iv cc0, iv cc1, iv cc2, rv pb, rv px, iv 0]) rfl k) ?_
        show Way _ _ _ _ (T173.setTop (mkF m 163 #[iv p0, iv p1, iv p2, iv p3, iv 3, iv cc0, iv cc1, iv cc2, rv pb, rv px, iv 0] []))
        refine Way.by (fun _ k => XS.aload X174.here hx rfl (hb hby at_163) rfl rfl k) ?_
        show Way _ _ _ _ (T173.setTop (mkF m 165 #[iv p0, iv p1, iv p2, iv p3, iv 3, iv cc0, iv cc1, iv cc2, rv pb, rv px, iv 0] [(.ref px)]))
        obtain ⟨_, _, ⟨T210, L212, k213, n214⟩, -, X211, ⟨Lc215, hQ216, l217, y218, z219⟩, st220⟩ := Jvm.LawKit.callS X174 hx (y := (⟨"raciocinio/cli/RecordWriter", "canHold", "(Ljava/lang/String;)Z"⟩ : MethodName)) hown (mvT hZ (tw hw 26 rfl)) (mvT hZ (tw hw 27 rfl)) (mvT hZ (tw hw 28 rfl)) (mvT hZ (tw hw 29 rfl)) (by decide) (backOf (W := 0) (rmCN l Z a0 hw [] px pt [cc0, cc1, cc2] h n0 Zh HT O SV SU) hZ (tw hw 29 rfl) (tw hw 28 rfl) (by decide) (by decide)) (g := (mkF m 165 #[iv p0, iv p1, iv p2, iv p3, iv 3, iv cc0, iv cc1, iv cc2, rv pb, rv px, iv 0] [(.ref px)])) rfl (by rw [hml]; rfl) (argsL := [(.ref px)]) (rest := []) (lenOf pdCN rfl) rfl (leW rfl) (hb hby at_165) (fun _ _ => ⟨rfl, e185, (leB rfl), (leB rfl)⟩)
        dsimp only [Pt.U, Pt.locs, Pt.cells, Pt.slots] at X211 l217 y218 z219 st220 hQ216
        subst l217 y218 z219
        obtain ⟨rfl, N226, e222⟩ := hQ216
        have N221 := Fr.app N184 N226
        refine Way.by st220 ?_
        show Way _ _ _ _ (T210.setTop (mkF m 168 #[iv p0, iv p1, iv p2, iv p3, iv 3, iv cc0, iv cc1, iv cc2, rv pb, rv px, iv 0] [(.int (own_hold [cc0, cc1, cc2]))]))
        refine Way.by (fun _ k => XS.iload X211.here hx rfl (hb hby at_168) rfl k) ?_
        show Way _ _ _ _ (T210.setTop (mkF m 170 #[iv p0, iv p1, iv p2, iv p3, iv 3, iv cc0, iv cc1, iv cc2, rv pb, rv px, iv 0] [(.int 0), (.int (own_hold [cc0, cc1, cc2]))]))
        have b228 : (own_hold [cc0, cc1, cc2]) = (0 : Int32) := if_neg (fun q => hb0 (q cc0 (by simp)))
        refine Way.by (fun _ k => XS.icmpNo X211.here hx rfl (hb hby at_170) rfl (teq b228).2 k) ?_
        show Way _ _ _ _ (T210.setTop (mkF m 173 #[iv p0, iv p1, iv p2, iv p3, iv 3, iv cc0, iv cc1, iv cc2, rv pb, rv px, iv 0] []))
        refine Way.by (fun _ k => XS.iconst X211.here hx rfl (hb hby at_173) k) ?_
        show Way _ _ _ _ (T210.setTop (mkF m 174 #[iv p0, iv p1, iv p2, iv p3, iv 3, iv cc0, iv cc1, iv cc2, rv pb, rv px, iv 0] [(.int 1)]))
        refine Way.by (fun _ k => XS.goto X211.here hx rfl (pc0 := 174) (pc' := 178) rfl (hb hby at_174) (by decide) (by decide) k) ?_
        show Way _ _ _ _ (T210.setTop (mkF m 178 #[iv p0, iv p1, iv p2, iv p3, iv 3, iv cc0, iv cc1, iv cc2, rv pb, rv px, iv 0] [(.int 1)]))
        refine Way.retH (v := (some (.int (nar .boolean (1 : Int32))))) X211 hS (by rw [e222]; exact hk) hZ hEL hh e222 H CH hlk (fun h => by rw [Bd.returns] at h; cases h) (fun fs hr => retN X211 hx (t := .boolean) Bd.returns (by simp) (hb hby at_178) hr) ?_ (by decide) (by decide)
        show Q0 n0 _ T210.heap _
        rw [e222]
        exact ⟨rfl, N221⟩
    · skip
      refine Way.by (fun _ k => XS.ifNo X155.here hx rfl (hb hby at_140) rfl ((if0 .eq _).trans (feq hb1).1) k) ?_
      show Way _ _ _ _ (T154.setTop (mkF m 143 #[iv p0, iv p1, iv p2, iv p3, iv 3, iv cc0, iv cc1, iv cc2, rv pb, rv px, iv 0] []))
      refine Way.by (fun _ k => XS.iconst X155.here hx rfl (hb hby at_143) k) ?_
      show Way _ _ _ _ (T154.setTop (mkF m 144 #[iv p0, iv p1, iv p2, iv p3, iv 3, iv cc0, iv cc1, iv cc2, rv pb, rv px, iv 0] [(.int 0)]))
      refine Way.by (fun _ k => XS.istore X155.here hx rfl (hb hby at_144) rfl (l' := #[iv p0, iv p1, iv p2, iv p3, iv 3, iv cc0, iv cc1, iv cc2, rv pb, rv px, iv 0]) rfl k) ?_
      show Way _ _ _ _ (T154.setTop (mkF m 146 #[iv p0, iv p1, iv p2, iv p3, iv 3, iv cc0, iv cc1, iv cc2, rv pb, rv px, iv 0] []))
      refine Way.by (fun _ k => XS.iload X155.here hx rfl (hb hby at_146) rfl k) ?_
      show Way _ _ _ _ (T154.setTop (mkF m 148 #[iv p0, iv p1, iv p2, iv p3, iv 3, iv cc0, iv cc1, iv cc2, rv pb, rv px, iv 0] [(.int 3)]))
      refine Way.by (fun _ k => XS.iconst X155.here hx rfl (hb hby at_148) k) ?_
      show Way _ _ _ _ (T154.setTop (mkF m 149 #[iv p0, iv p1, iv p2, iv p3, iv 3, iv cc0, iv cc1, iv cc2, rv pb, rv px, iv 0] [(.int 2), (.int 3)]))
      have b229 : (2 : Int32) < (3 : Int32) := by decide
      refine Way.by (fun _ k => XS.icmpNo X155.here hx rfl (hb hby at_149) rfl (tlt b229).2.2.2 k) ?_
      show Way _ _ _ _ (T154.setTop (mkF m 152 #[iv p0, iv p1, iv p2, iv p3, iv 3, iv cc0, iv cc1, iv cc2, rv pb, rv px, iv 0] []))
      refine Way.by (fun _ k => XS.iload X155.here hx rfl (hb hby at_152) rfl k) ?_
      show Way _ _ _ _ (T154.setTop (mkF m 154 #[iv p0, iv p1, iv p2, iv p3, iv 3, iv cc0, iv cc1, iv cc2, rv pb, rv px, iv 0] [(.int cc2)]))
      obtain ⟨_, _, ⟨T230, L232, k233, n234⟩, -, X231, ⟨Lc235, hQ236, l237, y238, z239⟩, st240⟩ := Jvm.LawKit.callS X155 hx (y := (⟨"raciocinio/cli/RecordWriterCanHoldPinLaw", "bad", "(C)Z"⟩ : MethodName)) hown (mvT hZ (tw hw 80 rfl)) (mvT hZ (tw hw 81 rfl)) (mvT hZ (tw hw 2 rfl)) (mvT hZ (tw hw 82 rfl)) (by decide) (backOf (W := 0) (rmBD l Z a0 hw [] cc2 h n0 Zh ) hZ (tw hw 82 rfl) (tw hw 2 rfl) (by decide) (by decide)) (g := (mkF m 154 #[iv p0, iv p1, iv p2, iv p3, iv 3, iv cc0, iv cc1, iv cc2, rv pb, rv px, iv 0] [(.int cc2)])) rfl (by rw [hml]; rfl) (argsL := [(.int cc2)]) (rest := []) (lenOf pdBD rfl) rfl (leW rfl) (hb hby at_154) (fun _ _ => ⟨rfl, e166, (leB rfl), (leB rfl)⟩)
      dsimp only [Pt.U, Pt.locs, Pt.cells, Pt.slots] at X231 l237 y238 z239 st240 hQ236
      subst l237 y238 z239
      obtain ⟨rfl, N246, e242⟩ := hQ236
      have N241 := Fr.app N165 N246
      refine Way.by st240 ?_
      show Way _ _ _ _ (T230.setTop (mkF m 157 #[iv p0, iv p1, iv p2, iv p3, iv 3, iv cc0, iv cc1, iv cc2, rv pb, rv px, iv 0] [(.int (own_bad cc2))]))
      by_cases hb2 : (own_bad cc2) = (0 : Int32)
      · skip
        refine Way.by (fun _ k => XS.ifYes X231.here hx rfl (pc0 := 157) (pc' := 163) rfl (hb hby at_157) rfl ((if0 .eq _).trans (teq hb2).1) (by decide) (by decide) k) ?_
        show Way _ _ _ _ (T230.setTop (mkF m 163 #[iv p0, iv p1, iv p2, iv p3, iv 3, iv cc0, iv cc1, iv cc2, rv pb, rv px, iv 0] []))
        refine Way.by (fun _ k => XS.aload X231.here hx rfl (hb hby at_163) rfl rfl k) ?_
        show Way _ _ _ _ (T230.setTop (mkF m 165 #[iv p0, iv p1, iv p2, iv p3, iv 3, iv cc0, iv cc1, iv cc2, rv pb, rv px, iv 0] [(.ref px)]))
        obtain ⟨_, _, ⟨T248, L250, k251, n252⟩, -, X249, ⟨Lc253, hQ254, l255, y256, z257⟩, st258⟩ := Jvm.LawKit.callS X231 hx (y := (⟨"raciocinio/cli/RecordWriter", "canHold", "(Ljava/lang/String;)Z"⟩ : MethodName)) hown (mvT hZ (tw hw 26 rfl)) (mvT hZ (tw hw 27 rfl)) (mvT hZ (tw hw 28 rfl)) (mvT hZ (tw hw 29 rfl)) (by decide) (backOf (W := 0) (rmCN l Z a0 hw [] px pt [cc0, cc1, cc2] h n0 Zh HT O SV SU) hZ (tw hw 29 rfl) (tw hw 28 rfl) (by decide) (by decide)) (g := (mkF m 165 #[iv p0, iv p1, iv p2, iv p3, iv 3, iv cc0, iv cc1, iv cc2, rv pb, rv px, iv 0] [(.ref px)])) rfl (by rw [hml]; rfl) (argsL := [(.ref px)]) (rest := []) (lenOf pdCN rfl) rfl (leW rfl) (hb hby at_165) (fun _ _ => ⟨rfl, e242, (leB rfl), (leB rfl)⟩)
        dsimp only [Pt.U, Pt.locs, Pt.cells, Pt.slots] at X249 l255 y256 z257 st258 hQ254
        subst l255 y256 z257
        obtain ⟨rfl, N264, e260⟩ := hQ254
        have N259 := Fr.app N241 N264
        refine Way.by st258 ?_
        show Way _ _ _ _ (T248.setTop (mkF m 168 #[iv p0, iv p1, iv p2, iv p3, iv 3, iv cc0, iv cc1, iv cc2, rv pb, rv px, iv 0] [(.int (own_hold [cc0, cc1, cc2]))]))
        refine Way.by (fun _ k => XS.iload X249.here hx rfl (hb hby at_168) rfl k) ?_
        show Way _ _ _ _ (T248.setTop (mkF m 170 #[iv p0, iv p1, iv p2, iv p3, iv 3, iv cc0, iv cc1, iv cc2, rv pb, rv px, iv 0] [(.int 0), (.int (own_hold [cc0, cc1, cc2]))]))
        have b266 : (own_hold [cc0, cc1, cc2]) = (0 : Int32) := if_neg (fun q => hb0 (q cc0 (by simp)))
        refine Way.by (fun _ k => XS.icmpNo X249.here hx rfl (hb hby at_170) rfl (teq b266).2 k) ?_
        show Way _ _ _ _ (T248.setTop (mkF m 173 #[iv p0, iv p1, iv p2, iv p3, iv 3, iv cc0, iv cc1, iv cc2, rv pb, rv px, iv 0] []))
        refine Way.by (fun _ k => XS.iconst X249.here hx rfl (hb hby at_173) k) ?_
        show Way _ _ _ _ (T248.setTop (mkF m 174 #[iv p0, iv p1, iv p2, iv p3, iv 3, iv cc0, iv cc1, iv cc2, rv pb, rv px, iv 0] [(.int 1)]))
        refine Way.by (fun _ k => XS.goto X249.here hx rfl (pc0 := 174) (pc' := 178) rfl (hb hby at_174) (by decide) (by decide) k) ?_
        show Way _ _ _ _ (T248.setTop (mkF m 178 #[iv p0, iv p1, iv p2, iv p3, iv 3, iv cc0, iv cc1, iv cc2, rv pb, rv px, iv 0] [(.int 1)]))
        refine Way.retH (v := (some (.int (nar .boolean (1 : Int32))))) X249 hS (by rw [e260]; exact hk) hZ hEL hh e260 H CH hlk (fun h => by rw [Bd.returns] at h; cases h) (fun fs hr => retN X249 hx (t := .boolean) Bd.returns (by simp) (hb hby at_178) hr) ?_ (by decide) (by decide)
        show Q0 n0 _ T248.heap _
        rw [e260]
        exact ⟨rfl, N259⟩
      · skip
        refine Way.by (fun _ k => XS.ifNo X231.here hx rfl (hb hby at_157) rfl ((if0 .eq _).trans (feq hb2).1) k) ?_
        show Way _ _ _ _ (T230.setTop (mkF m 160 #[iv p0, iv p1, iv p2, iv p3, iv 3, iv cc0, iv cc1, iv cc2, rv pb, rv px, iv 0] []))
        refine Way.by (fun _ k => XS.iconst X231.here hx rfl (hb hby at_160) k) ?_
        show Way _ _ _ _ (T230.setTop (mkF m 161 #[iv p0, iv p1, iv p2, iv p3, iv 3, iv cc0, iv cc1, iv cc2, rv pb, rv px, iv 0] [(.int 0)]))
        refine Way.by (fun _ k => XS.istore X231.here hx rfl (hb hby at_161) rfl (l' := #[iv p0, iv p1, iv p2, iv p3, iv 3, iv cc0, iv cc1, iv cc2, rv pb, rv px, iv 0]) rfl k) ?_
        show Way _ _ _ _ (T230.setTop (mkF m 163 #[iv p0, iv p1, iv p2, iv p3, iv 3, iv cc0, iv cc1, iv cc2, rv pb, rv px, iv 0] []))
        refine Way.by (fun _ k => XS.aload X231.here hx rfl (hb hby at_163) rfl rfl k) ?_
        show Way _ _ _ _ (T230.setTop (mkF m 165 #[iv p0, iv p1, iv p2, iv p3, iv 3, iv cc0, iv cc1, iv cc2, rv pb, rv px, iv 0] [(.ref px)]))
        obtain ⟨_, _, ⟨T267, L269, k270, n271⟩, -, X268, ⟨Lc272, hQ273, l274, y275, z276⟩, st277⟩ := Jvm.LawKit.callS X231 hx (y := (⟨"raciocinio/cli/RecordWriter", "canHold", "(Ljava/lang/String;)Z"⟩ : MethodName)) hown (mvT hZ (tw hw 26 rfl)) (mvT hZ (tw hw 27 rfl)) (mvT hZ (tw hw 28 rfl)) (mvT hZ (tw hw 29 rfl)) (by decide) (backOf (W := 0) (rmCN l Z a0 hw [] px pt [cc0, cc1, cc2] h n0 Zh HT O SV SU) hZ (tw hw 29 rfl) (tw hw 28 rfl) (by decide) (by decide)) (g := (mkF m 165 #[iv p0, iv p1, iv p2, iv p3, iv 3, iv cc0, iv cc1, iv cc2, rv pb, rv px, iv 0] [(.ref px)])) rfl (by rw [hml]; rfl) (argsL := [(.ref px)]) (rest := []) (lenOf pdCN rfl) rfl (leW rfl) (hb hby at_165) (fun _ _ => ⟨rfl, e242, (leB rfl), (leB rfl)⟩)
        dsimp only [Pt.U, Pt.locs, Pt.cells, Pt.slots] at X268 l274 y275 z276 st277 hQ273
        subst l274 y275 z276
        obtain ⟨rfl, N283, e279⟩ := hQ273
        have N278 := Fr.app N241 N283
        refine Way.by st277 ?_
        show Way _ _ _ _ (T267.setTop (mkF m 168 #[iv p0, iv p1, iv p2, iv p3, iv 3, iv cc0, iv cc1, iv cc2, rv pb, rv px, iv 0] [(.int (own_hold [cc0, cc1, cc2]))]))
        refine Way.by (fun _ k => XS.iload X268.here hx rfl (hb hby at_168) rfl k) ?_
        show Way _ _ _ _ (T267.setTop (mkF m 170 #[iv p0, iv p1, iv p2, iv p3, iv 3, iv cc0, iv cc1, iv cc2, rv pb, rv px, iv 0] [(.int 0), (.int (own_hold [cc0, cc1, cc2]))]))
        have b285 : (own_hold [cc0, cc1, cc2]) = (0 : Int32) := if_neg (fun q => hb0 (q cc0 (by simp)))
        refine Way.by (fun _ k => XS.icmpNo X268.here hx rfl (hb hby at_170) rfl (teq b285).2 k) ?_
        show Way _ _ _ _ (T267.setTop (mkF m 173 #[iv p0, iv p1, iv p2, iv p3, iv 3, iv cc0, iv cc1, iv cc2, rv pb, rv px, iv 0] []))
        refine Way.by (fun _ k => XS.iconst X268.here hx rfl (hb hby at_173) k) ?_
        show Way _ _ _ _ (T267.setTop (mkF m 174 #[iv p0, iv p1, iv p2, iv p3, iv 3, iv cc0, iv cc1, iv cc2, rv pb, rv px, iv 0] [(.int 1)]))
        refine Way.by (fun _ k => XS.goto X268.here hx rfl (pc0 := 174) (pc' := 178) rfl (hb hby at_174) (by decide) (by decide) k) ?_
        show Way _ _ _ _ (T267.setTop (mkF m 178 #[iv p0, iv p1, iv p2, iv p3, iv 3, iv cc0, iv cc1, iv cc2, rv pb, rv px, iv 0] [(.int 1)]))
        refine Way.retH (v := (some (.int (nar .boolean (1 : Int32))))) X268 hS (by rw [e279]; exact hk) hZ hEL hh e279 H CH hlk (fun h => by rw [Bd.returns] at h; cases h) (fun fs hr => retN X268 hx (t := .boolean) Bd.returns (by simp) (hb hby at_178) hr) ?_ (by decide) (by decide)
        show Q0 n0 _ T267.heap _
        rw [e279]
        exact ⟨rfl, N278⟩
theorem pd0 : parseMethodDescriptor "(IIII)Z" = some ⟨[.int, .int, .int, .int], some .boolean⟩ := by decide +kernel
set_option maxRecDepth 65536 in
set_option maxHeartbeats 40000000 in
theorem rm0 (l : Launch) (Z : State) (a0 : Array Value) (hw : ∀ d ∈ tables_1, d.before a0 Z = true) (ws : List Jvm.Cond) (p0 p1 p2 p3 : Int32) (h0 : Heap) (n0 : Nat) (Z0 : n0 ≤ h0.size) (O0 : Old Z n0 h0) (SV : own_Env Z) (SU : own_U16 Z) :
    MetFree l x (head1 (Jvm.Cond.code x code maxLocals ret :: ws) room_1) (fun aa U => aa = #[(.int p0), (.int p1), (.int p2), (.int p3)] ∧ Z.Warmed39 U.vm ∧ U.heap = h0 ∧ CHv Z own_EL U.vm h0) (fun _ _ _ _ _ => True) (fun _ U oo U' => ∃ v L, oo = .returned v ∧ Q0 n0 v U'.heap L ∧ CHr Z own_EL U.vm U.heap U'.vm U'.heap ∧ ReturnedEndW U oo U' L room_1.cells room_1.slots) := by
  refine MetFree.of_bodySF (plainFor_of_name pnDR) hisR ?_
  intro p e s m args below meth c s₁ Bd hml0 hP hK
  obtain ⟨rfl, hZ, hh, HV0⟩ := hP
  have hx := Bd.exec
  have hby := Bd.bytes
  have hlk : meth.locks = false := BodyLoose.notSynchronized Bd
  have hml : c.maxLocals = 11 := hml0
  have hown : s.vm.findClass "raciocinio/cli/RecordWriterCanHoldPinLaw" = some m.cls := findClass_of_methodNamed Bd.named
  have hnm := (name_of_methodNamed Bd.named Bd.method).1
  have X0 : Stand p l e room_1 s m #[(.int p0), (.int p1), (.int p2), (.int p3)] below meth c s₁ [] 0 0 := Stand.of_body Bd
  have e0 : s₁.heap = h0 := by rw [← hh, Bd.state]; rfl
  have N0 := Fr.nil n0
  have ef : entryFrame m #[(.int p0), (.int p1), (.int p2), (.int p3)] maxLocals = mkF m 0 #[iv p0, iv p1, iv p2, iv p3, .unset, .unset, .unset, .unset, .unset, .unset, .unset] [] := by first | (simp [entryFrame, mkF, argsToLocals, Value.category, maxLocals]; done) | rfl
  have XW : Stand p l e room_1 (s.setVm s.vm) m #[(.int p0), (.int p1), (.int p2), (.int p3)] below meth c s₁ [] 0 0 := X0
  have hS0 : s.Since s.vm 0 := (State.WarmedH.refl s).since 0
  have hZ0 : Z.Warmed39 (s.setVm s.vm).vm := hZ
  have hown0 : (s.setVm s.vm).vm.findClass "raciocinio/cli/RecordWriterCanHoldPinLaw" = some m.cls := hown
  have wS : ∀ d ∈ Bundle.stringAtoms, d.before a0 Z = true := fun d hd => hw d (own_wS d hd)
  have hEL : EW Z a0 own_EL := own_EW hw
  have CH0 : CHr Z own_EL s.vm h0 s.vm h0 := CHr.refl HV0
  show Way p.tables e below (KQH s Z own_EL (Q0 n0) room_1.cells room_1.slots) (s₁.setTop (entryFrame m #[(.int p0), (.int p1), (.int p2), (.int p3)] maxLocals))
  rw [ef]
  refine Way.by (fun _ k => XS.iloadN XW.here hx rfl (hb hby at_0) rfl k) ?_
  show Way _ _ _ _ (s₁.setTop (mkF m 1 #[iv p0, iv p1, iv p2, iv p3, .unset, .unset, .unset, .unset, .unset, .unset, .unset] [(.int p0)]))
  refine Way.by (fun _ k => XS.iconst XW.here hx rfl (hb hby at_1) k) ?_
  show Way _ _ _ _ (s₁.setTop (mkF m 2 #[iv p0, iv p1, iv p2, iv p3, .unset, .unset, .unset, .unset, .unset, .unset, .unset] [(.int 3), (.int p0)]))
  refine Way.by (fun _ k => XS.iand XW.here hx rfl (hb hby at_2) rfl k) ?_
  show Way _ _ _ _ (s₁.setTop (mkF m 3 #[iv p0, iv p1, iv p2, iv p3, .unset, .unset, .unset, .unset, .unset, .unset, .unset] [(.int (p0 &&& (3 : Int32)))]))
  refine Way.by (fun _ k => XS.istore XW.here hx rfl (hb hby at_3) rfl (l' := #[iv p0, iv p1, iv p2, iv p3, iv (p0 &&& (3 : Int32)), .unset, .unset, .unset, .unset, .unset, .unset]) rfl k) ?_
  show Way _ _ _ _ (s₁.setTop (mkF m 5 #[iv p0, iv p1, iv p2, iv p3, iv (p0 &&& (3 : Int32)), .unset, .unset, .unset, .unset, .unset, .unset] []))
  refine Way.by (fun _ k => XS.iloadN XW.here hx rfl (hb hby at_5) rfl k) ?_
  show Way _ _ _ _ (s₁.setTop (mkF m 6 #[iv p0, iv p1, iv p2, iv p3, iv (p0 &&& (3 : Int32)), .unset, .unset, .unset, .unset, .unset, .unset] [(.int p1)]))
  obtain ⟨_, _, ⟨T1, L3, k4, n5⟩, -, X2, ⟨Lc6, hQ7, l8, y9, z10⟩, st11⟩ := Jvm.LawKit.callS XW hx (y := (⟨"raciocinio/cli/RecordWriterCanHoldPinLaw", "draw", "(I)C"⟩ : MethodName)) hown0 (mvT hZ0 (tw hw 0 rfl)) (mvT hZ0 (tw hw 1 rfl)) (mvT hZ0 (tw hw 2 rfl)) (mvT hZ0 (tw hw 3 rfl)) (by decide) (backOf (W := 0) (rmDR l Z a0 hw [] p1 h0 n0 Z0 ) hZ0 (tw hw 3 rfl) (tw hw 2 rfl) (by decide) (by decide)) (g := (mkF m 6 #[iv p0, iv p1, iv p2, iv p3, iv (p0 &&& (3 : Int32)), .unset, .unset, .unset, .unset, .unset, .unset] [(.int p1)])) rfl (by rw [hml]; rfl) (argsL := [(.int p1)]) (rest := []) (lenOf pdDR rfl) rfl (leW rfl) (hb hby at_6) (fun _ _ => ⟨rfl, e0, (leB rfl), (leB rfl)⟩)
  dsimp only [Pt.U, Pt.locs, Pt.cells, Pt.slots] at X2 l8 y9 z10 st11 hQ7
  subst l8 y9 z10
  obtain ⟨x_pv20, rfl, N17, K18, pu_OK19⟩ := hQ7
  have N12 := Fr.app N0 N17
  have hr23 := CHr.keep K18 sf0 HV0
  have H21 := hr23.1
  have CH22 := CH0.trans hr23
  have Z24 := Nat.le_trans Z0 K18.1
  have hk25 := Nat.le_trans (Nat.zero_le _) K18.1
  have O26 := O0.keep K18 all0
  refine Way.by st11 ?_
  show Way _ _ _ _ (T1.setTop (mkF m 9 #[iv p0, iv p1, iv p2, iv p3, iv (p0 &&& (3 : Int32)), .unset, .unset, .unset, .unset, .unset, .unset] [(.int x_pv20)]))
  refine Way.by (fun _ k => XS.istore X2.here hx rfl (hb hby at_9) rfl (l' := #[iv p0, iv p1, iv p2, iv p3, iv (p0 &&& (3 : Int32)), iv x_pv20, .unset, .unset, .unset, .unset, .unset]) rfl k) ?_
  show Way _ _ _ _ (T1.setTop (mkF m 11 #[iv p0, iv p1, iv p2, iv p3, iv (p0 &&& (3 : Int32)), iv x_pv20, .unset, .unset, .unset, .unset, .unset] []))
  refine Way.by (fun _ k => XS.iloadN X2.here hx rfl (hb hby at_11) rfl k) ?_
  show Way _ _ _ _ (T1.setTop (mkF m 12 #[iv p0, iv p1, iv p2, iv p3, iv (p0 &&& (3 : Int32)), iv x_pv20, .unset, .unset, .unset, .unset, .unset] [(.int p2)]))
  obtain ⟨_, _, ⟨T27, L29, k30, n31⟩, -, X28, ⟨Lc32, hQ33, l34, y35, z36⟩, st37⟩ := Jvm.LawKit.callS X2 hx (y := (⟨"raciocinio/cli/RecordWriterCanHoldPinLaw", "draw", "(I)C"⟩ : MethodName)) hown0 (mvT hZ0 (tw hw 0 rfl)) (mvT hZ0 (tw hw 1 rfl)) (mvT hZ0 (tw hw 2 rfl)) (mvT hZ0 (tw hw 3 rfl)) (by decide) (backOf (W := 0) (rmDR l Z a0 hw [] p2 T1.heap n0 Z24 ) hZ0 (tw hw 3 rfl) (tw hw 2 rfl) (by decide) (by decide)) (g := (mkF m 12 #[iv p0, iv p1, iv p2, iv p3, iv (p0 &&& (3 : Int32)), iv x_pv20, .unset, .unset, .unset, .unset, .unset] [(.int p2)])) rfl (by rw [hml]; rfl) (argsL := [(.int p2)]) (rest := []) (lenOf pdDR rfl) rfl (leW rfl) (hb hby at_12) (fun _ _ => ⟨rfl, rfl, (leB rfl), (leB rfl)⟩)
  dsimp only [Pt.U, Pt.locs, Pt.cells, Pt.slots] at X28 l34 y35 z36 st37 hQ33
  subst l34 y35 z36
  obtain ⟨x_pv46, rfl, N43, K44, pu_OK45⟩ := hQ33
  have N38 := Fr.app N12 N43
  have hr49 := CHr.keep K44 sf0 H21
  have H47 := hr49.1
  have CH48 := CH22.trans hr49
  have Z50 := Nat.le_trans Z24 K44.1
  have hk51 := Nat.le_trans hk25 K44.1
  have O52 := O26.keep K44 all0
  refine Way.by st37 ?_
  show Way _ _ _ _ (T27.setTop (mkF m 15 #[iv p0, iv p1, iv p2, iv p3, iv (p0 &&& (3 : Int32)), iv x_pv20, .unset, .unset, .unset, .unset, .unset] [(.int x_pv46)]))
  refine Way.by (fun _ k => XS.istore X28.here hx rfl (hb hby at_15) rfl (l' := #[iv p0, iv p1, iv p2, iv p3, iv (p0 &&& (3 : Int32)), iv x_pv20, iv x_pv46, .unset, .unset, .unset, .unset]) rfl k) ?_
  show Way _ _ _ _ (T27.setTop (mkF m 17 #[iv p0, iv p1, iv p2, iv p3, iv (p0 &&& (3 : Int32)), iv x_pv20, iv x_pv46, .unset, .unset, .unset, .unset] []))
  refine Way.by (fun _ k => XS.iloadN X28.here hx rfl (hb hby at_17) rfl k) ?_
  show Way _ _ _ _ (T27.setTop (mkF m 18 #[iv p0, iv p1, iv p2, iv p3, iv (p0 &&& (3 : Int32)), iv x_pv20, iv x_pv46, .unset, .unset, .unset, .unset] [(.int p3)]))
  obtain ⟨_, _, ⟨T53, L55, k56, n57⟩, -, X54, ⟨Lc58, hQ59, l60, y61, z62⟩, st63⟩ := Jvm.LawKit.callS X28 hx (y := (⟨"raciocinio/cli/RecordWriterCanHoldPinLaw", "draw", "(I)C"⟩ : MethodName)) hown0 (mvT hZ0 (tw hw 0 rfl)) (mvT hZ0 (tw hw 1 rfl)) (mvT hZ0 (tw hw 2 rfl)) (mvT hZ0 (tw hw 3 rfl)) (by decide) (backOf (W := 0) (rmDR l Z a0 hw [] p3 T27.heap n0 Z50 ) hZ0 (tw hw 3 rfl) (tw hw 2 rfl) (by decide) (by decide)) (g := (mkF m 18 #[iv p0, iv p1, iv p2, iv p3, iv (p0 &&& (3 : Int32)), iv x_pv20, iv x_pv46, .unset, .unset, .unset, .unset] [(.int p3)])) rfl (by rw [hml]; rfl) (argsL := [(.int p3)]) (rest := []) (lenOf pdDR rfl) rfl (leW rfl) (hb hby at_18) (fun _ _ => ⟨rfl, rfl, (leB rfl), (leB rfl)⟩)
  dsimp only [Pt.U, Pt.locs, Pt.cells, Pt.slots] at X54 l60 y61 z62 st63 hQ59
  subst l60 y61 z62
  obtain ⟨x_pv72, rfl, N69, K70, pu_OK71⟩ := hQ59
  have N64 := Fr.app N38 N69
  have hr75 := CHr.keep K70 sf0 H47
  have H73 := hr75.1
  have CH74 := CH48.trans hr75
  have Z76 := Nat.le_trans Z50 K70.1
  have hk77 := Nat.le_trans hk51 K70.1
  have O78 := O52.keep K70 all0
  refine Way.by st63 ?_
  show Way _ _ _ _ (T53.setTop (mkF m 21 #[iv p0, iv p1, iv p2, iv p3, iv (p0 &&& (3 : Int32)), iv x_pv20, iv x_pv46, .unset, .unset, .unset, .unset] [(.int x_pv72)]))
  refine Way.by (fun _ k => XS.istore X54.here hx rfl (hb hby at_21) rfl (l' := #[iv p0, iv p1, iv p2, iv p3, iv (p0 &&& (3 : Int32)), iv x_pv20, iv x_pv46, iv x_pv72, .unset, .unset, .unset]) rfl k) ?_
  show Way _ _ _ _ (T53.setTop (mkF m 23 #[iv p0, iv p1, iv p2, iv p3, iv (p0 &&& (3 : Int32)), iv x_pv20, iv x_pv46, iv x_pv72, .unset, .unset, .unset] []))
  obtain ⟨k, qk⟩ : ∃ z, z = (p0 &&& (3 : Int32)) := ⟨_, rfl⟩
  rw [← qk]
  have hk : 0 ≤ k.toInt ∧ k.toInt < 4 := by rw [qk]; have q := c_and p0 3 (by decide); have e3 : (3 : Int32).toInt = 3 := (by decide); omega
  rcases cases4 hk with rfl | rfl | rfl | rfl
  · skip
    show Way _ _ _ _ (T53.setTop (mkF m 23 #[iv p0, iv p1, iv p2, iv p3, iv 0, iv x_pv20, iv x_pv46, iv x_pv72, .unset, .unset, .unset] []))
    refine Way.by (fun _ k => XS.iload X54.here hx rfl (hb hby at_23) rfl k) ?_
    show Way _ _ _ _ (T53.setTop (mkF m 25 #[iv p0, iv p1, iv p2, iv p3, iv 0, iv x_pv20, iv x_pv46, iv x_pv72, .unset, .unset, .unset] [(.int 0)]))
    have b79 : (0 : Int32) = (0 : Int32) := by decide
    refine Way.by (fun _ k => XS.ifNo X54.here hx rfl (hb hby at_25) rfl ((if0 .ne _).trans (teq b79).2) k) ?_
    show Way _ _ _ _ (T53.setTop (mkF m 28 #[iv p0, iv p1, iv p2, iv p3, iv 0, iv x_pv20, iv x_pv46, iv x_pv72, .unset, .unset, .unset] []))
    refine Way.by (fun _ k => XS.iconst X54.here hx rfl (hb hby at_28) k) ?_
    show Way _ _ _ _ (T53.setTop (mkF m 29 #[iv p0, iv p1, iv p2, iv p3, iv 0, iv x_pv20, iv x_pv46, iv x_pv72, .unset, .unset, .unset] [(.int 0)]))
    obtain ⟨T80, h81, kc82, X83, e84, E85, A86, st87⟩ := newP X54 hx hZ0 (tw hw 4 rfl) rfl (g := (mkF m 29 #[iv p0, iv p1, iv p2, iv p3, iv 0, iv x_pv20, iv x_pv46, iv x_pv72, .unset, .unset, .unset] [(.int 0)])) rfl (hb hby at_29) rfl (by decide) (cap := 0) (by decide) (by decide) (by decide) (by decide)
    obtain ⟨a88, g89⟩ : ∃ z, z = T53.heap.size := ⟨_, rfl⟩
    rw [← g89] at A86 st87
    have nw91 : n0 ≤ a88 := Nat.le_trans Z76 (Nat.le_of_eq g89.symm)
    have hr94 := CHr.ext E85 H73
    have H92 := hr94.1
    have CH93 := CH74.trans hr94
    have Z95 := Nat.le_trans Z76 E85.1
    have hk96 := Nat.le_trans hk77 E85.1
    have O97 := O78.ext E85
    have V90 : Arv Z h81 a88 kc82 .char (0 : Int32) [] (.int 0) := Arv.new A86 (by decide)
    refine Way.by st87 ?_
    show Way _ _ _ _ (T80.setTop (mkF m 31 #[iv p0, iv p1, iv p2, iv p3, iv 0, iv x_pv20, iv x_pv46, iv x_pv72, .unset, .unset, .unset] [(.ref a88)]))
    refine Way.by (fun _ k => XS.astore X83.here hx rfl (hb hby at_31) rfl rfl (l' := #[iv p0, iv p1, iv p2, iv p3, iv 0, iv x_pv20, iv x_pv46, iv x_pv72, rv a88, .unset, .unset]) rfl k) ?_
    show Way _ _ _ _ (T80.setTop (mkF m 33 #[iv p0, iv p1, iv p2, iv p3, iv 0, iv x_pv20, iv x_pv46, iv x_pv72, rv a88, .unset, .unset] []))
    refine Way.by (fun _ k => XS.goto X83.here hx rfl (pc0 := 33) (pc' := 99) rfl (hb hby at_33) (by decide) (by decide) k) ?_
    show Way _ _ _ _ (T80.setTop (mkF m 99 #[iv p0, iv p1, iv p2, iv p3, iv 0, iv x_pv20, iv x_pv46, iv x_pv72, rv a88, .unset, .unset] []))
    obtain ⟨T98, h99, X100, e101, E102, A103, D104, -, st105⟩ := newO X83 hx hZ0 hown0 (tw hw 5 rfl) (tw hw 6 rfl) (tw hw 7 rfl) e84 (g := (mkF m 99 #[iv p0, iv p1, iv p2, iv p3, iv 0, iv x_pv20, iv x_pv46, iv x_pv72, rv a88, .unset, .unset] [])) rfl (hb hby at_99) (by decide) (by decide)
    obtain ⟨a106, g107⟩ : ∃ z, z = h81.size := ⟨_, rfl⟩
    rw [← g107] at A103 D104 st105
    have ne108 : a88 ≠ a106 := Nat.ne_of_lt (Nat.lt_of_lt_of_eq V90.lt g107.symm)
    have nw109 : n0 ≤ a106 := Nat.le_trans Z95 (Nat.le_of_eq g107.symm)
    have Sf110 : Safe Z own_EL s.vm h81 a106 := Safe.new (Nat.le_of_eq g107.symm)
    have hr113 := CHr.ext E102 H92
    have Sf114 := Safe.ext E102 H92 Sf110
    have H111 := hr113.1
    have CH112 := CH93.trans hr113
    have A115 := V90.ext E102
    have Z116 := Nat.le_trans Z95 E102.1
    have hk117 := Nat.le_trans hk96 E102.1
    have O118 := O97.ext E102
    have F119 : Fld Z h99 a106 "java/lang/String" "value" "[B" .null := D104 (Or.inr (tw hw 20 rfl)) (ty := (.array .byte)) (by decide)
    have F120 : Fld Z h99 a106 "java/lang/String" "coder" "B" (.int 0) := D104 (Or.inr (tw hw 21 rfl)) (ty := .byte) (by decide)
    refine Way.by st105 ?_
    show Way _ _ _ _ (T98.setTop (mkF m 102 #[iv p0, iv p1, iv p2, iv p3, iv 0, iv x_pv20, iv x_pv46, iv x_pv72, rv a88, .unset, .unset] [(.ref a106)]))
    refine Way.by (fun _ k => XS.dup X100.here hx rfl (hb hby at_102) rfl rfl k) ?_
    show Way _ _ _ _ (T98.setTop (mkF m 103 #[iv p0, iv p1, iv p2, iv p3, iv 0, iv x_pv20, iv x_pv46, iv x_pv72, rv a88, .unset, .unset] [(.ref a106), (.ref a106)]))
    refine Way.by (fun _ k => XS.aload X100.here hx rfl (hb hby at_103) rfl rfl k) ?_
    show Way _ _ _ _ (T98.setTop (mkF m 105 #[iv p0, iv p1, iv p2, iv p3, iv 0, iv x_pv20, iv x_pv46, iv x_pv72, rv a88, .unset, .unset] [(.ref a88), (.ref a106), (.ref a106)]))
    obtain ⟨_, _, ⟨T121, L123, k124, n125⟩, -, X122, hS134, hg135, ⟨Lc126, hQ127, l128, y129, z130, hr136⟩, st131⟩ := X100.specialBackS hx (y := (⟨"java/lang/String", "<init>", "([C)V"⟩ : MethodName)) rfl hown0 (mvT hZ0 (tw hw 8 rfl)) (mvT hZ0 (tw hw 9 rfl)) (mvT hZ0 (tw hw 10 rfl)) (by decide) (backOfSH (W := 1) (rmN1 l Z a0 hw [] a106 a88 kc82 h99 n0 Z116 A103 F119 F120 A115 ne108 nw109) hZ0 (tw hw 10 rfl) (tw hw 7 rfl) (by decide) (by decide) hEL H111) (g := (mkF m 105 #[iv p0, iv p1, iv p2, iv p3, iv 0, iv x_pv20, iv x_pv46, iv x_pv72, rv a88, .unset, .unset] [(.ref a88), (.ref a106), (.ref a106)])) rfl (by rw [hml]; rfl) (Steps.refl _) (a := a106) (argsL := [(.ref a88)]) (rest := [(.ref a106)]) (lenOf pdN1 rfl) rfl (leW rfl) (hb hby at_105) (fun _ _ => ⟨rfl, e101, (leB rfl), (leB rfl)⟩)
    dsimp only [Pt.U, Pt.locs, Pt.cells, Pt.slots] at X122 l128 y129 z130 st131 hQ127 hS134 hg135 hr136
    subst l128 y129 z130
    obtain ⟨X137, hS138, hZ139, hown140⟩ := rebS hS0 (by rw [e101]; exact hk117) X122 hS134 hg135 hZ0 hown0
    obtain ⟨x_pt144, rfl, N141, K142, F_0143⟩ := hQ127
    have N132 := Fr.app N64 N141
    have Sf148 := CHr.safe hr136 A103.lt Sf114
    have H145 := hr136.1
    have CH146 := CH112.trans hr136
    have A149 := A115.keep K142 (ninS ne108 nin0)
    have E150 := A103.keep K142
    have Z151 := Nat.le_trans Z116 K142.1
    have O152 := O118.keep K142 (allS nw109 all0)
    refine Way.to st131 ?_
    show Way _ _ _ _ (T121.setTop (mkF m 108 #[iv p0, iv p1, iv p2, iv p3, iv 0, iv x_pv20, iv x_pv46, iv x_pv72, rv a88, .unset, .unset] [(.ref a106)]))
    refine Way.by (fun _ k => XS.astore X137.here hx rfl (hb hby at_108) rfl rfl (l' := #[iv p0, iv p1, iv p2, iv p3, iv 0, iv x_pv20, iv x_pv46, iv x_pv72, rv a88, rv a106, .unset]) rfl k) ?_
    show Way _ _ _ _ (T121.setTop (mkF m 110 #[iv p0, iv p1, iv p2, iv p3, iv 0, iv x_pv20, iv x_pv46, iv x_pv72, rv a88, rv a106, .unset] []))
    have HT : own_Txt Z T121.heap a106 x_pt144 [] := F_0143.txt
    exact seg110n0 l Z a0 hw ws p0 p1 p2 p3 h0 n0 Z0 O0 SV SU p e s m below meth c s₁ Bd hml _ hZ139 hown140 _ hS138 hh T121 T121.heap _ (X137.mono (by decide) (by decide)) rfl N132 Z151 (Nat.le_refl _) H145 CH146 O152 x_pv20 x_pv46 x_pv72 a88 a106 x_pt144 HT
  · skip
    show Way _ _ _ _ (T53.setTop (mkF m 23 #[iv p0, iv p1, iv p2, iv p3, iv 1, iv x_pv20, iv x_pv46, iv x_pv72, .unset, .unset, .unset] []))
    refine Way.by (fun _ k => XS.iload X54.here hx rfl (hb hby at_23) rfl k) ?_
    show Way _ _ _ _ (T53.setTop (mkF m 25 #[iv p0, iv p1, iv p2, iv p3, iv 1, iv x_pv20, iv x_pv46, iv x_pv72, .unset, .unset, .unset] [(.int 1)]))
    have b153 : ¬ (1 : Int32) = (0 : Int32) := by decide
    refine Way.by (fun _ k => XS.ifYes X54.here hx rfl (pc0 := 25) (pc' := 36) rfl (hb hby at_25) rfl ((if0 .ne _).trans (feq b153).2) (by decide) (by decide) k) ?_
    show Way _ _ _ _ (T53.setTop (mkF m 36 #[iv p0, iv p1, iv p2, iv p3, iv 1, iv x_pv20, iv x_pv46, iv x_pv72, .unset, .unset, .unset] []))
    refine Way.by (fun _ k => XS.iload X54.here hx rfl (hb hby at_36) rfl k) ?_
    show Way _ _ _ _ (T53.setTop (mkF m 38 #[iv p0, iv p1, iv p2, iv p3, iv 1, iv x_pv20, iv x_pv46, iv x_pv72, .unset, .unset, .unset] [(.int 1)]))
    refine Way.by (fun _ k => XS.iconst X54.here hx rfl (hb hby at_38) k) ?_
    show Way _ _ _ _ (T53.setTop (mkF m 39 #[iv p0, iv p1, iv p2, iv p3, iv 1, iv x_pv20, iv x_pv46, iv x_pv72, .unset, .unset, .unset] [(.int 1), (.int 1)]))
    have b154 : (1 : Int32) = (1 : Int32) := by decide
    refine Way.by (fun _ k => XS.icmpNo X54.here hx rfl (hb hby at_39) rfl (teq b154).2 k) ?_
    show Way _ _ _ _ (T53.setTop (mkF m 42 #[iv p0, iv p1, iv p2, iv p3, iv 1, iv x_pv20, iv x_pv46, iv x_pv72, .unset, .unset, .unset] []))
    refine Way.by (fun _ k => XS.iconst X54.here hx rfl (hb hby at_42) k) ?_
    show Way _ _ _ _ (T53.setTop (mkF m 43 #[iv p0, iv p1, iv p2, iv p3, iv 1, iv x_pv20, iv x_pv46, iv x_pv72, .unset, .unset, .unset] [(.int 1)]))
    obtain ⟨T155, h156, kc157, X158, e159, E160, A161, st162⟩ := newP X54 hx hZ0 (tw hw 4 rfl) rfl (g := (mkF m 43 #[iv p0, iv p1, iv p2, iv p3, iv 1, iv x_pv20, iv x_pv46, iv x_pv72, .unset, .unset, .unset] [(.int 1)])) rfl (hb hby at_43) rfl (by decide) (cap := 1) (by decide) (by decide) (by decide) (by decide)
    obtain ⟨a163, g164⟩ : ∃ z, z = T53.heap.size := ⟨_, rfl⟩
    rw [← g164] at A161 st162
    have nw166 : n0 ≤ a163 := Nat.le_trans Z76 (Nat.le_of_eq g164.symm)
    have hr169 := CHr.ext E160 H73
    have H167 := hr169.1
    have CH168 := CH74.trans hr169
    have Z170 := Nat.le_trans Z76 E160.1
    have hk171 := Nat.le_trans hk77 E160.1
    have O172 := O78.ext E160
    have V165 : Arv Z h156 a163 kc157 .char (1 : Int32) [] (.int 0) := Arv.new A161 (by decide)
    refine Way.by st162 ?_
    show Way _ _ _ _ (T155.setTop (mkF m 45 #[iv p0, iv p1, iv p2, iv p3, iv 1, iv x_pv20, iv x_pv46, iv x_pv72, .unset, .unset, .unset] [(.ref a163)]))
    refine Way.by (fun _ k => XS.dup X158.here hx rfl (hb hby at_45) rfl rfl k) ?_
    show Way _ _ _ _ (T155.setTop (mkF m 46 #[iv p0, iv p1, iv p2, iv p3, iv 1, iv x_pv20, iv x_pv46, iv x_pv72, .unset, .unset, .unset] [(.ref a163), (.ref a163)]))
    refine Way.by (fun _ k => XS.iconst X158.here hx rfl (hb hby at_46) k) ?_
    show Way _ _ _ _ (T155.setTop (mkF m 47 #[iv p0, iv p1, iv p2, iv p3, iv 1, iv x_pv20, iv x_pv46, iv x_pv72, .unset, .unset, .unset] [(.int 0), (.ref a163), (.ref a163)]))
    refine Way.by (fun _ k => XS.iload X158.here hx rfl (hb hby at_47) rfl k) ?_
    show Way _ _ _ _ (T155.setTop (mkF m 49 #[iv p0, iv p1, iv p2, iv p3, iv 1, iv x_pv20, iv x_pv46, iv x_pv72, .unset, .unset, .unset] [(.int x_pv20), (.int 0), (.ref a163), (.ref a163)]))
    have V173 : Arv Z h156 a163 kc157 .char (1 : Int32) [(.int 0)] (.int 0) := V165.pad (pad_rep [] (.int 0) 1)
    obtain ⟨c174, A175, q176, S177, M178, H179, U180⟩ := id V173
    obtain ⟨T181, h182, X183, e184, W185, st186⟩ := stC X158 hx hZ0 e159 A175 (j := (0 : Int32)) (inb_of S177 ⟨(by decide), (by decide)⟩) (g := (mkF m 49 #[iv p0, iv p1, iv p2, iv p3, iv 1, iv x_pv20, iv x_pv46, iv x_pv72, .unset, .unset, .unset] [(.int x_pv20), (.int 0), (.ref a163), (.ref a163)])) rfl rfl (hb hby at_49)
    have N187 := Fr.snoc X183 N64 nw166
    have V188 : Arv Z h182 a163 kc157 .char (1 : Int32) [(.int (nar .char x_pv20))] (.int 0) := Arv.set A175 q176 S177 M178 H179 U180 (fits_nar_char _) W185 0 rfl (leB rfl)
    have nq190 : nar .char x_pv20 = x_pv20 := own_narC pu_OK19
    have V189 : Arv Z h182 a163 kc157 .char (1 : Int32) [(.int x_pv20)] (.int 0) := by rw [nq190] at V188; exact V188
    have hr193 := CHr.wr W185 (Safe.arv hZ0.alike V165 (by decide)) H167
    have H191 := hr193.1
    have CH192 := CH168.trans hr193
    have Z194 : n0 ≤ h182.size := by rw [W185.size]; exact Z170
    have hk195 := Nat.le_trans hk171 (Nat.le_of_eq W185.size.symm)
    have O196 := O172.wr W185 nw166
    refine Way.by st186 ?_
    show Way _ _ _ _ (T181.setTop (mkF m 50 #[iv p0, iv p1, iv p2, iv p3, iv 1, iv x_pv20, iv x_pv46, iv x_pv72, .unset, .unset, .unset] [(.ref a163)]))
    refine Way.by (fun _ k => XS.astore X183.here hx rfl (hb hby at_50) rfl rfl (l' := #[iv p0, iv p1, iv p2, iv p3, iv 1, iv x_pv20, iv x_pv46, iv x_pv72, rv a163, .unset, .unset]) rfl k) ?_
    show Way _ _ _ _ (T181.setTop (mkF m 52 #[iv p0, iv p1, iv p2, iv p3, iv 1, iv x_pv20, iv x_pv46, iv x_pv72, rv a163, .unset, .unset] []))
    refine Way.by (fun _ k => XS.goto X183.here hx rfl (pc0 := 52) (pc' := 99) rfl (hb hby at_52) (by decide) (by decide) k) ?_
    show Way _ _ _ _ (T181.setTop (mkF m 99 #[iv p0, iv p1, iv p2, iv p3, iv 1, iv x_pv20, iv x_pv46, iv x_pv72, rv a163, .unset, .unset] []))
    have hBL : ∀ c ∈ ([x_pv20] : List Int32), ¬ c < 0 ∧ ¬ (65535 : Int32) < c := by intro c hc; simp only [List.mem_cons, List.not_mem_nil, or_false] at hc; rcases hc with rfl <;> assumption
    by_cases hL : ∀ c ∈ ([x_pv20] : List Int32), ¬ (255 : Int32) < c
    · skip
      show Way _ _ _ _ (T181.setTop (mkF m 99 #[iv p0, iv p1, iv p2, iv p3, iv 1, iv x_pv20, iv x_pv46, iv x_pv72, rv a163, .unset, .unset] []))
      obtain ⟨T197, h198, X199, e200, E201, A202, D203, -, st204⟩ := newO X183 hx hZ0 hown0 (tw hw 5 rfl) (tw hw 6 rfl) (tw hw 7 rfl) e184 (g := (mkF m 99 #[iv p0, iv p1, iv p2, iv p3, iv 1, iv x_pv20, iv x_pv46, iv x_pv72, rv a163, .unset, .unset] [])) rfl (hb hby at_99) (by decide) (by decide)
      obtain ⟨a205, g206⟩ : ∃ z, z = h182.size := ⟨_, rfl⟩
      rw [← g206] at A202 D203 st204
      have ne207 : a163 ≠ a205 := Nat.ne_of_lt (Nat.lt_of_lt_of_eq V189.lt g206.symm)
      have nw208 : n0 ≤ a205 := Nat.le_trans Z194 (Nat.le_of_eq g206.symm)
      have Sf209 : Safe Z own_EL s.vm h182 a205 := Safe.new (Nat.le_of_eq g206.symm)
      have hr212 := CHr.ext E201 H191
      have Sf213 := Safe.ext E201 H191 Sf209
      have H210 := hr212.1
      have CH211 := CH192.trans hr212
      have A214 := V189.ext E201
      have Z215 := Nat.le_trans Z194 E201.1
      have hk216 := Nat.le_trans hk195 E201.1
      have O217 := O196.ext E201
      have F218 : Fld Z h198 a205 "java/lang/String" "value" "[B" .null := D203 (Or.inr (tw hw 20 rfl)) (ty := (.array .byte)) (by decide)
      have F219 : Fld Z h198 a205 "java/lang/String" "coder" "B" (.int 0) := D203 (Or.inr (tw hw 21 rfl)) (ty := .byte) (by decide)
      refine Way.by st204 ?_
      show Way _ _ _ _ (T197.setTop (mkF m 102 #[iv p0, iv p1, iv p2, iv p3, iv 1, iv x_pv20, iv x_pv46, iv x_pv72, rv a163, .unset, .unset] [(.ref a205)]))
      refine Way.by (fun _ k => XS.dup X199.here hx rfl (hb hby at_102) rfl rfl k) ?_
      show Way _ _ _ _ (T197.setTop (mkF m 103 #[iv p0, iv p1, iv p2, iv p3, iv 1, iv x_pv20, iv x_pv46, iv x_pv72, rv a163, .unset, .unset] [(.ref a205), (.ref a205)]))
      refine Way.by (fun _ k => XS.aload X199.here hx rfl (hb hby at_103) rfl rfl k) ?_
      show Way _ _ _ _ (T197.setTop (mkF m 105 #[iv p0, iv p1, iv p2, iv p3, iv 1, iv x_pv20, iv x_pv46, iv x_pv72, rv a163, .unset, .unset] [(.ref a163), (.ref a205), (.ref a205)]))
      have hp220 : ∀ c ∈ ([x_pv20] : List Int32), ¬ c < 0 ∧ ¬ (255 : Int32) < c := fun c hc => ⟨(hBL c hc).1, hL c hc⟩
      obtain ⟨_, _, ⟨T221, L223, k224, n225⟩, -, X222, ⟨Lc226, hQ227, l228, y229, z230⟩, st231⟩ := X199.specialBack hx (y := (⟨"java/lang/String", "<init>", "([C)V"⟩ : MethodName)) rfl hown0 (mvT hZ0 (tw hw 8 rfl)) (mvT hZ0 (tw hw 9 rfl)) (mvT hZ0 (tw hw 10 rfl)) (by decide) (own_new (W := 1) (n0 := n0) hZ0 hw SV O217 (cs := [x_pv20]) (n := 1) nw208 Z215 A202 F218 F219 A214 rfl rfl (by decide) (by decide) hp220 (by decide) (by decide)) (g := (mkF m 105 #[iv p0, iv p1, iv p2, iv p3, iv 1, iv x_pv20, iv x_pv46, iv x_pv72, rv a163, .unset, .unset] [(.ref a163), (.ref a205), (.ref a205)])) rfl (by rw [hml]; rfl) (Steps.refl _) (a := a205) (argsL := [(.ref a163)]) (rest := [(.ref a205)]) (lenOf own_pdNew rfl) rfl (leW rfl) (hb hby at_105) (fun _ _ => ⟨rfl, e200, (leB rfl), (leB rfl)⟩)
      dsimp only [Pt.U, Pt.locs, Pt.cells, Pt.slots] at X222 l228 y229 z230 st231 hQ227
      subst l228 y229 z230
      obtain ⟨rfl, N237, K238, x_t241, fr_t240, F239⟩ := hQ227
      have N232 := Fr.app N187 N237
      have ne242 : a163 ≠ x_t241 := Nat.ne_of_lt (Nat.lt_of_lt_of_le A214.lt fr_t240)
      have ne243 : a205 ≠ x_t241 := Nat.ne_of_lt (Nat.lt_of_lt_of_le A202.lt fr_t240)
      have nw244 : n0 ≤ x_t241 := Nat.le_trans Z215 fr_t240
      have Sf245 : Safe Z own_EL s.vm h198 x_t241 := Safe.new fr_t240
      have hr248 := CHr.keep K238 (sfS Sf213 sf0) H210
      have Sf249 := Safe.keep K238 (sfS Sf213 sf0) H210 Sf213
      have Sf250 := Safe.keep K238 (sfS Sf213 sf0) H210 Sf245
      have H246 := hr248.1
      have CH247 := CH211.trans hr248
      have A251 := A214.keep K238 (ninS ne207 nin0)
      have E252 := A202.keep K238
      have Z253 := Nat.le_trans Z215 K238.1
      have hk254 := Nat.le_trans hk216 K238.1
      have O255 := O217.keep K238 (allS nw208 all0)
      refine Way.to st231 ?_
      show Way _ _ _ _ (T221.setTop (mkF m 108 #[iv p0, iv p1, iv p2, iv p3, iv 1, iv x_pv20, iv x_pv46, iv x_pv72, rv a163, .unset, .unset] [(.ref a205)]))
      refine Way.by (fun _ k => XS.astore X222.here hx rfl (hb hby at_108) rfl rfl (l' := #[iv p0, iv p1, iv p2, iv p3, iv 1, iv x_pv20, iv x_pv46, iv x_pv72, rv a163, rv a205, .unset]) rfl k) ?_
      show Way _ _ _ _ (T221.setTop (mkF m 110 #[iv p0, iv p1, iv p2, iv p3, iv 1, iv x_pv20, iv x_pv46, iv x_pv72, rv a163, rv a205, .unset] []))
      have HT : own_Txt Z T221.heap a205 x_t241 [x_pv20] := F239.txt
      exact seg110n1 l Z a0 hw ws p0 p1 p2 p3 h0 n0 Z0 O0 SV SU p e s m below meth c s₁ Bd hml _ hZ0 hown0 _ hS0 hh T221 T221.heap _ (X222.mono (by decide) (by decide)) rfl N232 Z253 hk254 H246 CH247 O255 x_pv20 x_pv46 x_pv72 a163 a205 x_t241 HT
    · skip
      have hE := own_ex hL
      have hU : (255 : Int32) < x_pv20 := by obtain ⟨c, hc, q⟩ := id hE; simp only [List.mem_cons, List.not_mem_nil, or_false] at hc; rcases hc with rfl <;> simp only [q, true_or, or_true]
      show Way _ _ _ _ (T181.setTop (mkF m 99 #[iv p0, iv p1, iv p2, iv p3, iv 1, iv x_pv20, iv x_pv46, iv x_pv72, rv a163, .unset, .unset] []))
      obtain ⟨T256, h257, X258, e259, E260, A261, D262, -, st263⟩ := newO X183 hx hZ0 hown0 (tw hw 5 rfl) (tw hw 6 rfl) (tw hw 7 rfl) e184 (g := (mkF m 99 #[iv p0, iv p1, iv p2, iv p3, iv 1, iv x_pv20, iv x_pv46, iv x_pv72, rv a163, .unset, .unset] [])) rfl (hb hby at_99) (by decide) (by decide)
      obtain ⟨a264, g265⟩ : ∃ z, z = h182.size := ⟨_, rfl⟩
      rw [← g265] at A261 D262 st263
      have ne266 : a163 ≠ a264 := Nat.ne_of_lt (Nat.lt_of_lt_of_eq V189.lt g265.symm)
      have nw267 : n0 ≤ a264 := Nat.le_trans Z194 (Nat.le_of_eq g265.symm)
      have Sf268 : Safe Z own_EL s.vm h182 a264 := Safe.new (Nat.le_of_eq g265.symm)
      have hr271 := CHr.ext E260 H191
      have Sf272 := Safe.ext E260 H191 Sf268
      have H269 := hr271.1
      have CH270 := CH192.trans hr271
      have A273 := V189.ext E260
      have Z274 := Nat.le_trans Z194 E260.1
      have hk275 := Nat.le_trans hk195 E260.1
      have O276 := O196.ext E260
      have F277 : Fld Z h257 a264 "java/lang/String" "value" "[B" .null := D262 (Or.inr (tw hw 20 rfl)) (ty := (.array .byte)) (by decide)
      have F278 : Fld Z h257 a264 "java/lang/String" "coder" "B" (.int 0) := D262 (Or.inr (tw hw 21 rfl)) (ty := .byte) (by decide)
      refine Way.by st263 ?_
      show Way _ _ _ _ (T256.setTop (mkF m 102 #[iv p0, iv p1, iv p2, iv p3, iv 1, iv x_pv20, iv x_pv46, iv x_pv72, rv a163, .unset, .unset] [(.ref a264)]))
      refine Way.by (fun _ k => XS.dup X258.here hx rfl (hb hby at_102) rfl rfl k) ?_
      show Way _ _ _ _ (T256.setTop (mkF m 103 #[iv p0, iv p1, iv p2, iv p3, iv 1, iv x_pv20, iv x_pv46, iv x_pv72, rv a163, .unset, .unset] [(.ref a264), (.ref a264)]))
      refine Way.by (fun _ k => XS.aload X258.here hx rfl (hb hby at_103) rfl rfl k) ?_
      show Way _ _ _ _ (T256.setTop (mkF m 105 #[iv p0, iv p1, iv p2, iv p3, iv 1, iv x_pv20, iv x_pv46, iv x_pv72, rv a163, .unset, .unset] [(.ref a163), (.ref a264), (.ref a264)]))
      obtain ⟨_, _, ⟨T279, L281, k282, n283⟩, -, X280, ⟨Lc284, hQ285, l286, y287, z288⟩, st289⟩ := X258.specialBack hx (y := (⟨"java/lang/String", "<init>", "([C)V"⟩ : MethodName)) rfl hown0 (mvT hZ0 (tw hw 8 rfl)) (mvT hZ0 (tw hw 9 rfl)) (mvT hZ0 (tw hw 10 rfl)) (by decide) (backOf (W := 1) (rmI11 l Z a0 hw [] a264 a163 kc157 x_pv20 h257 n0 Z274 A261 F277 F278 A273 hBL hU ne266 nw267 O276 SV SU) hZ0 (tw hw 10 rfl) (tw hw 7 rfl) (by decide) (by decide)) (g := (mkF m 105 #[iv p0, iv p1, iv p2, iv p3, iv 1, iv x_pv20, iv x_pv46, iv x_pv72, rv a163, .unset, .unset] [(.ref a163), (.ref a264), (.ref a264)])) rfl (by rw [hml]; rfl) (Steps.refl _) (a := a264) (argsL := [(.ref a163)]) (rest := [(.ref a264)]) (lenOf pdN1 rfl) rfl (leW rfl) (hb hby at_105) (fun _ _ => ⟨rfl, e259, (leB rfl), (leB rfl)⟩)
      dsimp only [Pt.U, Pt.locs, Pt.cells, Pt.slots] at X280 l286 y287 z288 st289 hQ285
      subst l286 y287 z288
      obtain ⟨x_pe303, x_kk302, rfl, N295, K296, fr_pe301, F_0297, F_1298, F_2299, F_3300⟩ := hQ285
      have N290 := Fr.app N187 N295
      have ne304 : a163 ≠ x_pe303 := Nat.ne_of_lt (Nat.lt_of_lt_of_le A273.lt fr_pe301)
      have ne305 : a264 ≠ x_pe303 := Nat.ne_of_lt (Nat.lt_of_lt_of_le A261.lt fr_pe301)
      have nw306 : n0 ≤ x_pe303 := Nat.le_trans Z274 fr_pe301
      have Sf307 : Safe Z own_EL s.vm h257 x_pe303 := Safe.new fr_pe301
      have hr310 := CHr.keep K296 (sfS Sf272 sf0) H269
      have Sf311 := Safe.keep K296 (sfS Sf272 sf0) H269 Sf272
      have Sf312 := Safe.keep K296 (sfS Sf272 sf0) H269 Sf307
      have H308 := hr310.1
      have CH309 := CH270.trans hr310
      have A313 := A273.keep K296 (ninS ne266 nin0)
      have E314 := A261.keep K296
      have Z315 := Nat.le_trans Z274 K296.1
      have hk316 := Nat.le_trans hk275 K296.1
      have O317 := O276.keep K296 (allS nw267 all0)
      refine Way.to st289 ?_
      show Way _ _ _ _ (T279.setTop (mkF m 108 #[iv p0, iv p1, iv p2, iv p3, iv 1, iv x_pv20, iv x_pv46, iv x_pv72, rv a163, .unset, .unset] [(.ref a264)]))
      refine Way.by (fun _ k => XS.astore X280.here hx rfl (hb hby at_108) rfl rfl (l' := #[iv p0, iv p1, iv p2, iv p3, iv 1, iv x_pv20, iv x_pv46, iv x_pv72, rv a163, rv a264, .unset]) rfl k) ?_
      show Way _ _ _ _ (T279.setTop (mkF m 110 #[iv p0, iv p1, iv p2, iv p3, iv 1, iv x_pv20, iv x_pv46, iv x_pv72, rv a163, rv a264, .unset] []))
      have HT : own_Txt Z T279.heap a264 x_pe303 [x_pv20] := ⟨F_0297, F_1298, ⟨1, F_2299, x_kk302, _, _, F_3300, Or.inr ⟨rfl, rfl, rfl, hE⟩⟩, hBL, (leB rfl)⟩
      exact seg110n1 l Z a0 hw ws p0 p1 p2 p3 h0 n0 Z0 O0 SV SU p e s m below meth c s₁ Bd hml _ hZ0 hown0 _ hS0 hh T279 T279.heap _ (X280.mono (by decide) (by decide)) rfl N290 Z315 hk316 H308 CH309 O317 x_pv20 x_pv46 x_pv72 a163 a264 x_pe303 HT
  · skip
    show Way _ _ _ _ (T53.setTop (mkF m 23 #[iv p0, iv p1, iv p2, iv p3, iv 2, iv x_pv20, iv x_pv46, iv x_pv72, .unset, .unset, .unset] []))
    refine Way.by (fun _ k => XS.iload X54.here hx rfl (hb hby at_23) rfl k) ?_
    show Way _ _ _ _ (T53.setTop (mkF m 25 #[iv p0, iv p1, iv p2, iv p3, iv 2, iv x_pv20, iv x_pv46, iv x_pv72, .unset, .unset, .unset] [(.int 2)]))
    have b318 : ¬ (2 : Int32) = (0 : Int32) := by decide
    refine Way.by (fun _ k => XS.ifYes X54.here hx rfl (pc0 := 25) (pc' := 36) rfl (hb hby at_25) rfl ((if0 .ne _).trans (feq b318).2) (by decide) (by decide) k) ?_
    show Way _ _ _ _ (T53.setTop (mkF m 36 #[iv p0, iv p1, iv p2, iv p3, iv 2, iv x_pv20, iv x_pv46, iv x_pv72, .unset, .unset, .unset] []))
    refine Way.by (fun _ k => XS.iload X54.here hx rfl (hb hby at_36) rfl k) ?_
    show Way _ _ _ _ (T53.setTop (mkF m 38 #[iv p0, iv p1, iv p2, iv p3, iv 2, iv x_pv20, iv x_pv46, iv x_pv72, .unset, .unset, .unset] [(.int 2)]))
    refine Way.by (fun _ k => XS.iconst X54.here hx rfl (hb hby at_38) k) ?_
    show Way _ _ _ _ (T53.setTop (mkF m 39 #[iv p0, iv p1, iv p2, iv p3, iv 2, iv x_pv20, iv x_pv46, iv x_pv72, .unset, .unset, .unset] [(.int 1), (.int 2)]))
    have b319 : ¬ (2 : Int32) = (1 : Int32) := by decide
    refine Way.by (fun _ k => XS.icmpYes X54.here hx rfl (pc0 := 39) (pc' := 55) rfl (hb hby at_39) rfl (feq b319).2 (by decide) (by decide) k) ?_
    show Way _ _ _ _ (T53.setTop (mkF m 55 #[iv p0, iv p1, iv p2, iv p3, iv 2, iv x_pv20, iv x_pv46, iv x_pv72, .unset, .unset, .unset] []))
    refine Way.by (fun _ k => XS.iload X54.here hx rfl (hb hby at_55) rfl k) ?_
    show Way _ _ _ _ (T53.setTop (mkF m 57 #[iv p0, iv p1, iv p2, iv p3, iv 2, iv x_pv20, iv x_pv46, iv x_pv72, .unset, .unset, .unset] [(.int 2)]))
    refine Way.by (fun _ k => XS.iconst X54.here hx rfl (hb hby at_57) k) ?_
    show Way _ _ _ _ (T53.setTop (mkF m 58 #[iv p0, iv p1, iv p2, iv p3, iv 2, iv x_pv20, iv x_pv46, iv x_pv72, .unset, .unset, .unset] [(.int 2), (.int 2)]))
    have b320 : (2 : Int32) = (2 : Int32) := by decide
    refine Way.by (fun _ k => XS.icmpNo X54.here hx rfl (hb hby at_58) rfl (teq b320).2 k) ?_
    show Way _ _ _ _ (T53.setTop (mkF m 61 #[iv p0, iv p1, iv p2, iv p3, iv 2, iv x_pv20, iv x_pv46, iv x_pv72, .unset, .unset, .unset] []))
    refine Way.by (fun _ k => XS.iconst X54.here hx rfl (hb hby at_61) k) ?_
    show Way _ _ _ _ (T53.setTop (mkF m 62 #[iv p0, iv p1, iv p2, iv p3, iv 2, iv x_pv20, iv x_pv46, iv x_pv72, .unset, .unset, .unset] [(.int 2)]))
    obtain ⟨T321, h322, kc323, X324, e325, E326, A327, st328⟩ := newP X54 hx hZ0 (tw hw 4 rfl) rfl (g := (mkF m 62 #[iv p0, iv p1, iv p2, iv p3, iv 2, iv x_pv20, iv x_pv46, iv x_pv72, .unset, .unset, .unset] [(.int 2)])) rfl (hb hby at_62) rfl (by decide) (cap := 2) (by decide) (by decide) (by decide) (by decide)
    obtain ⟨a329, g330⟩ : ∃ z, z = T53.heap.size := ⟨_, rfl⟩
    rw [← g330] at A327 st328
    have nw332 : n0 ≤ a329 := Nat.le_trans Z76 (Nat.le_of_eq g330.symm)
    have hr335 := CHr.ext E326 H73
    have H333 := hr335.1
    have CH334 := CH74.trans hr335
    have Z336 := Nat.le_trans Z76 E326.1
    have hk337 := Nat.le_trans hk77 E326.1
    have O338 := O78.ext E326
    have V331 : Arv Z h322 a329 kc323 .char (2 : Int32) [] (.int 0) := Arv.new A327 (by decide)
    refine Way.by st328 ?_
    show Way _ _ _ _ (T321.setTop (mkF m 64 #[iv p0, iv p1, iv p2, iv p3, iv 2, iv x_pv20, iv x_pv46, iv x_pv72, .unset, .unset, .unset] [(.ref a329)]))
    refine Way.by (fun _ k => XS.dup X324.here hx rfl (hb hby at_64) rfl rfl k) ?_
    show Way _ _ _ _ (T321.setTop (mkF m 65 #[iv p0, iv p1, iv p2, iv p3, iv 2, iv x_pv20, iv x_pv46, iv x_pv72, .unset, .unset, .unset] [(.ref a329), (.ref a329)]))
    refine Way.by (fun _ k => XS.iconst X324.here hx rfl (hb hby at_65) k) ?_
    show Way _ _ _ _ (T321.setTop (mkF m 66 #[iv p0, iv p1, iv p2, iv p3, iv 2, iv x_pv20, iv x_pv46, iv x_pv72, .unset, .unset, .unset] [(.int 0), (.ref a329), (.ref a329)]))
    refine Way.by (fun _ k => XS.iload X324.here hx rfl (hb hby at_66) rfl k) ?_
    show Way _ _ _ _ (T321.setTop (mkF m 68 #[iv p0, iv p1, iv p2, iv p3, iv 2, iv x_pv20, iv x_pv46, iv x_pv72, .unset, .unset, .unset] [(.int x_pv20), (.int 0), (.ref a329), (.ref a329)]))
    have V339 : Arv Z h322 a329 kc323 .char (2 : Int32) [(.int 0)] (.int 0) := V331.pad (pad_rep [] (.int 0) 1)
    obtain ⟨c340, A341, q342, S343, M344, H345, U346⟩ := id V339
    obtain ⟨T347, h348, X349, e350, W351, st352⟩ := stC X324 hx hZ0 e325 A341 (j := (0 : Int32)) (inb_of S343 ⟨(by decide), (by decide)⟩) (g := (mkF m 68 #[iv p0, iv p1, iv p2, iv p3, iv 2, iv x_pv20, iv x_pv46, iv x_pv72, .unset, .unset, .unset] [(.int x_pv20), (.int 0), (.ref a329), (.ref a329)])) rfl rfl (hb hby at_68)
    have N353 := Fr.snoc X349 N64 nw332
    have V354 : Arv Z h348 a329 kc323 .char (2 : Int32) [(.int (nar .char x_pv20))] (.int 0) := Arv.set A341 q342 S343 M344 H345 U346 (fits_nar_char _) W351 0 rfl (leB rfl)
    have nq356 : nar .char x_pv20 = x_pv20 := own_narC pu_OK19
    have V355 : Arv Z h348 a329 kc323 .char (2 : Int32) [(.int x_pv20)] (.int 0) := by rw [nq356] at V354; exact V354
    have hr359 := CHr.wr W351 (Safe.arv hZ0.alike V331 (by decide)) H333
    have H357 := hr359.1
    have CH358 := CH334.trans hr359
    have Z360 : n0 ≤ h348.size := by rw [W351.size]; exact Z336
    have hk361 := Nat.le_trans hk337 (Nat.le_of_eq W351.size.symm)
    have O362 := O338.wr W351 nw332
    refine Way.by st352 ?_
    show Way _ _ _ _ (T347.setTop (mkF m 69 #[iv p0, iv p1, iv p2, iv p3, iv 2, iv x_pv20, iv x_pv46, iv x_pv72, .unset, .unset, .unset] [(.ref a329)]))
    refine Way.by (fun _ k => XS.dup X349.here hx rfl (hb hby at_69) rfl rfl k) ?_
    show Way _ _ _ _ (T347.setTop (mkF m 70 #[iv p0, iv p1, iv p2, iv p3, iv 2, iv x_pv20, iv x_pv46, iv x_pv72, .unset, .unset, .unset] [(.ref a329), (.ref a329)]))
    refine Way.by (fun _ k => XS.iconst X349.here hx rfl (hb hby at_70) k) ?_
    show Way _ _ _ _ (T347.setTop (mkF m 71 #[iv p0, iv p1, iv p2, iv p3, iv 2, iv x_pv20, iv x_pv46, iv x_pv72, .unset, .unset, .unset] [(.int 1), (.ref a329), (.ref a329)]))
    refine Way.by (fun _ k => XS.iload X349.here hx rfl (hb hby at_71) rfl k) ?_
    show Way _ _ _ _ (T347.setTop (mkF m 73 #[iv p0, iv p1, iv p2, iv p3, iv 2, iv x_pv20, iv x_pv46, iv x_pv72, .unset, .unset, .unset] [(.int x_pv46), (.int 1), (.ref a329), (.ref a329)]))
    have V363 : Arv Z h348 a329 kc323 .char (2 : Int32) [(.int x_pv20), (.int 0)] (.int 0) := V355.pad (pad_rep [(.int x_pv20)] (.int 0) 1)
    obtain ⟨c364, A365, q366, S367, M368, H369, U370⟩ := id V363
    obtain ⟨T371, h372, X373, e374, W375, st376⟩ := stC X349 hx hZ0 e350 A365 (j := (1 : Int32)) (inb_of S367 ⟨(by decide), (by decide)⟩) (g := (mkF m 73 #[iv p0, iv p1, iv p2, iv p3, iv 2, iv x_pv20, iv x_pv46, iv x_pv72, .unset, .unset, .unset] [(.int x_pv46), (.int 1), (.ref a329), (.ref a329)])) rfl rfl (hb hby at_73)
    have N377 := Fr.snoc X373 N353 nw332
    have V378 : Arv Z h372 a329 kc323 .char (2 : Int32) [(.int x_pv20), (.int (nar .char x_pv46))] (.int 0) := Arv.set A365 q366 S367 M368 H369 U370 (fits_nar_char _) W375 1 rfl (leB rfl)
    have nq380 : nar .char x_pv46 = x_pv46 := own_narC pu_OK45
    have V379 : Arv Z h372 a329 kc323 .char (2 : Int32) [(.int x_pv20), (.int x_pv46)] (.int 0) := by rw [nq380] at V378; exact V378
    have hr383 := CHr.wr W375 (Safe.arv hZ0.alike V355 (by decide)) H357
    have H381 := hr383.1
    have CH382 := CH358.trans hr383
    have Z384 : n0 ≤ h372.size := by rw [W375.size]; exact Z360
    have hk385 := Nat.le_trans hk361 (Nat.le_of_eq W375.size.symm)
    have O386 := O362.wr W375 nw332
    refine Way.by st376 ?_
    show Way _ _ _ _ (T371.setTop (mkF m 74 #[iv p0, iv p1, iv p2, iv p3, iv 2, iv x_pv20, iv x_pv46, iv x_pv72, .unset, .unset, .unset] [(.ref a329)]))
    refine Way.by (fun _ k => XS.astore X373.here hx rfl (hb hby at_74) rfl rfl (l' := #[iv p0, iv p1, iv p2, iv p3, iv 2, iv x_pv20, iv x_pv46, iv x_pv72, rv a329, .unset, .unset]) rfl k) ?_
    show Way _ _ _ _ (T371.setTop (mkF m 76 #[iv p0, iv p1, iv p2, iv p3, iv 2, iv x_pv20, iv x_pv46, iv x_pv72, rv a329, .unset, .unset] []))
    refine Way.by (fun _ k => XS.goto X373.here hx rfl (pc0 := 76) (pc' := 99) rfl (hb hby at_76) (by decide) (by decide) k) ?_
    show Way _ _ _ _ (T371.setTop (mkF m 99 #[iv p0, iv p1, iv p2, iv p3, iv 2, iv x_pv20, iv x_pv46, iv x_pv72, rv a329, .unset, .unset] []))
    have hBL : ∀ c ∈ ([x_pv20, x_pv46] : List Int32), ¬ c < 0 ∧ ¬ (65535 : Int32) < c := by intro c hc; simp only [List.mem_cons, List.not_mem_nil, or_false] at hc; rcases hc with rfl | rfl <;> assumption
    by_cases hL : ∀ c ∈ ([x_pv20, x_pv46] : List Int32), ¬ (255 : Int32) < c
    · skip
      show Way _ _ _ _ (T371.setTop (mkF m 99 #[iv p0, iv p1, iv p2, iv p3, iv 2, iv x_pv20, iv x_pv46, iv x_pv72, rv a329, .unset, .unset] []))
      obtain ⟨T387, h388, X389, e390, E391, A392, D393, -, st394⟩ := newO X373 hx hZ0 hown0 (tw hw 5 rfl) (tw hw 6 rfl) (tw hw 7 rfl) e374 (g := (mkF m 99 #[iv p0, iv p1, iv p2, iv p3, iv 2, iv x_pv20, iv x_pv46, iv x_pv72, rv a329, .unset, .unset] [])) rfl (hb hby at_99) (by decide) (by decide)
      obtain ⟨a395, g396⟩ : ∃ z, z = h372.size := ⟨_, rfl⟩
      rw [← g396] at A392 D393 st394
      have ne397 : a329 ≠ a395 := Nat.ne_of_lt (Nat.lt_of_lt_of_eq V379.lt g396.symm)
      have nw398 : n0 ≤ a395 := Nat.le_trans Z384 (Nat.le_of_eq g396.symm)
      have Sf399 : Safe Z own_EL s.vm h372 a395 := Safe.new (Nat.le_of_eq g396.symm)
      have hr402 := CHr.ext E391 H381
      have Sf403 := Safe.ext E391 H381 Sf399
      have H400 := hr402.1
      have CH401 := CH382.trans hr402
      have A404 := V379.ext E391
      have Z405 := Nat.le_trans Z384 E391.1
      have hk406 := Nat.le_trans hk385 E391.1
      have O407 := O386.ext E391
      have F408 : Fld Z h388 a395 "java/lang/String" "value" "[B" .null := D393 (Or.inr (tw hw 20 rfl)) (ty := (.array .byte)) (by decide)
      have F409 : Fld Z h388 a395 "java/lang/String" "coder" "B" (.int 0) := D393 (Or.inr (tw hw 21 rfl)) (ty := .byte) (by decide)
      refine Way.by st394 ?_
      show Way _ _ _ _ (T387.setTop (mkF m 102 #[iv p0, iv p1, iv p2, iv p3, iv 2, iv x_pv20, iv x_pv46, iv x_pv72, rv a329, .unset, .unset] [(.ref a395)]))
      refine Way.by (fun _ k => XS.dup X389.here hx rfl (hb hby at_102) rfl rfl k) ?_
      show Way _ _ _ _ (T387.setTop (mkF m 103 #[iv p0, iv p1, iv p2, iv p3, iv 2, iv x_pv20, iv x_pv46, iv x_pv72, rv a329, .unset, .unset] [(.ref a395), (.ref a395)]))
      refine Way.by (fun _ k => XS.aload X389.here hx rfl (hb hby at_103) rfl rfl k) ?_
      show Way _ _ _ _ (T387.setTop (mkF m 105 #[iv p0, iv p1, iv p2, iv p3, iv 2, iv x_pv20, iv x_pv46, iv x_pv72, rv a329, .unset, .unset] [(.ref a329), (.ref a395), (.ref a395)]))
      have hp410 : ∀ c ∈ ([x_pv20, x_pv46] : List Int32), ¬ c < 0 ∧ ¬ (255 : Int32) < c := fun c hc => ⟨(hBL c hc).1, hL c hc⟩
      obtain ⟨_, _, ⟨T411, L413, k414, n415⟩, -, X412, ⟨Lc416, hQ417, l418, y419, z420⟩, st421⟩ := X389.specialBack hx (y := (⟨"java/lang/String", "<init>", "([C)V"⟩ : MethodName)) rfl hown0 (mvT hZ0 (tw hw 8 rfl)) (mvT hZ0 (tw hw 9 rfl)) (mvT hZ0 (tw hw 10 rfl)) (by decide) (own_new (W := 1) (n0 := n0) hZ0 hw SV O407 (cs := [x_pv20, x_pv46]) (n := 2) nw398 Z405 A392 F408 F409 A404 rfl rfl (by decide) (by decide) hp410 (by decide) (by decide)) (g := (mkF m 105 #[iv p0, iv p1, iv p2, iv p3, iv 2, iv x_pv20, iv x_pv46, iv x_pv72, rv a329, .unset, .unset] [(.ref a329), (.ref a395), (.ref a395)])) rfl (by rw [hml]; rfl) (Steps.refl _) (a := a395) (argsL := [(.ref a329)]) (rest := [(.ref a395)]) (lenOf own_pdNew rfl) rfl (leW rfl) (hb hby at_105) (fun _ _ => ⟨rfl, e390, (leB rfl), (leB rfl)⟩)
      dsimp only [Pt.U, Pt.locs, Pt.cells, Pt.slots] at X412 l418 y419 z420 st421 hQ417
      subst l418 y419 z420
      obtain ⟨rfl, N427, K428, x_t431, fr_t430, F429⟩ := hQ417
      have N422 := Fr.app N377 N427
      have ne432 : a329 ≠ x_t431 := Nat.ne_of_lt (Nat.lt_of_lt_of_le A404.lt fr_t430)
      have ne433 : a395 ≠ x_t431 := Nat.ne_of_lt (Nat.lt_of_lt_of_le A392.lt fr_t430)
      have nw434 : n0 ≤ x_t431 := Nat.le_trans Z405 fr_t430
      have Sf435 : Safe Z own_EL s.vm h388 x_t431 := Safe.new fr_t430
      have hr438 := CHr.keep K428 (sfS Sf403 sf0) H400
      have Sf439 := Safe.keep K428 (sfS Sf403 sf0) H400 Sf403
      have Sf440 := Safe.keep K428 (sfS Sf403 sf0) H400 Sf435
      have H436 := hr438.1
      have CH437 := CH401.trans hr438
      have A441 := A404.keep K428 (ninS ne397 nin0)
      have E442 := A392.keep K428
      have Z443 := Nat.le_trans Z405 K428.1
      have hk444 := Nat.le_trans hk406 K428.1
      have O445 := O407.keep K428 (allS nw398 all0)
      refine Way.to st421 ?_
      show Way _ _ _ _ (T411.setTop (mkF m 108 #[iv p0, iv p1, iv p2, iv p3, iv 2, iv x_pv20, iv x_pv46, iv x_pv72, rv a329, .unset, .unset] [(.ref a395)]))
      refine Way.by (fun _ k => XS.astore X412.here hx rfl (hb hby at_108) rfl rfl (l' := #[iv p0, iv p1, iv p2, iv p3, iv 2, iv x_pv20, iv x_pv46, iv x_pv72, rv a329, rv a395, .unset]) rfl k) ?_
      show Way _ _ _ _ (T411.setTop (mkF m 110 #[iv p0, iv p1, iv p2, iv p3, iv 2, iv x_pv20, iv x_pv46, iv x_pv72, rv a329, rv a395, .unset] []))
      have HT : own_Txt Z T411.heap a395 x_t431 [x_pv20, x_pv46] := F429.txt
      exact seg110n2 l Z a0 hw ws p0 p1 p2 p3 h0 n0 Z0 O0 SV SU p e s m below meth c s₁ Bd hml _ hZ0 hown0 _ hS0 hh T411 T411.heap _ (X412.mono (by decide) (by decide)) rfl N422 Z443 hk444 H436 CH437 O445 x_pv20 x_pv46 x_pv72 a329 a395 x_t431 HT
    · skip
      have hE := own_ex hL
      have hU : (255 : Int32) < x_pv20 ∨ (255 : Int32) < x_pv46 := by obtain ⟨c, hc, q⟩ := id hE; simp only [List.mem_cons, List.not_mem_nil, or_false] at hc; rcases hc with rfl | rfl <;> simp only [q, true_or, or_true]
      show Way _ _ _ _ (T371.setTop (mkF m 99 #[iv p0, iv p1, iv p2, iv p3, iv 2, iv x_pv20, iv x_pv46, iv x_pv72, rv a329, .unset, .unset] []))
      obtain ⟨T446, h447, X448, e449, E450, A451, D452, -, st453⟩ := newO X373 hx hZ0 hown0 (tw hw 5 rfl) (tw hw 6 rfl) (tw hw 7 rfl) e374 (g := (mkF m 99 #[iv p0, iv p1, iv p2, iv p3, iv 2, iv x_pv20, iv x_pv46, iv x_pv72, rv a329, .unset, .unset] [])) rfl (hb hby at_99) (by decide) (by decide)
      obtain ⟨a454, g455⟩ : ∃ z, z = h372.size := ⟨_, rfl⟩
      rw [← g455] at A451 D452 st453
      have ne456 : a329 ≠ a454 := Nat.ne_of_lt (Nat.lt_of_lt_of_eq V379.lt g455.symm)
      have nw457 : n0 ≤ a454 := Nat.le_trans Z384 (Nat.le_of_eq g455.symm)
      have Sf458 : Safe Z own_EL s.vm h372 a454 := Safe.new (Nat.le_of_eq g455.symm)
      have hr461 := CHr.ext E450 H381
      have Sf462 := Safe.ext E450 H381 Sf458
      have H459 := hr461.1
      have CH460 := CH382.trans hr461
      have A463 := V379.ext E450
      have Z464 := Nat.le_trans Z384 E450.1
      have hk465 := Nat.le_trans hk385 E450.1
      have O466 := O386.ext E450
      have F467 : Fld Z h447 a454 "java/lang/String" "value" "[B" .null := D452 (Or.inr (tw hw 20 rfl)) (ty := (.array .byte)) (by decide)
      have F468 : Fld Z h447 a454 "java/lang/String" "coder" "B" (.int 0) := D452 (Or.inr (tw hw 21 rfl)) (ty := .byte) (by decide)
      refine Way.by st453 ?_
      show Way _ _ _ _ (T446.setTop (mkF m 102 #[iv p0, iv p1, iv p2, iv p3, iv 2, iv x_pv20, iv x_pv46, iv x_pv72, rv a329, .unset, .unset] [(.ref a454)]))
      refine Way.by (fun _ k => XS.dup X448.here hx rfl (hb hby at_102) rfl rfl k) ?_
      show Way _ _ _ _ (T446.setTop (mkF m 103 #[iv p0, iv p1, iv p2, iv p3, iv 2, iv x_pv20, iv x_pv46, iv x_pv72, rv a329, .unset, .unset] [(.ref a454), (.ref a454)]))
      refine Way.by (fun _ k => XS.aload X448.here hx rfl (hb hby at_103) rfl rfl k) ?_
      show Way _ _ _ _ (T446.setTop (mkF m 105 #[iv p0, iv p1, iv p2, iv p3, iv 2, iv x_pv20, iv x_pv46, iv x_pv72, rv a329, .unset, .unset] [(.ref a329), (.ref a454), (.ref a454)]))
      obtain ⟨_, _, ⟨T469, L471, k472, n473⟩, -, X470, ⟨Lc474, hQ475, l476, y477, z478⟩, st479⟩ := X448.specialBack hx (y := (⟨"java/lang/String", "<init>", "([C)V"⟩ : MethodName)) rfl hown0 (mvT hZ0 (tw hw 8 rfl)) (mvT hZ0 (tw hw 9 rfl)) (mvT hZ0 (tw hw 10 rfl)) (by decide) (backOf (W := 1) (rmI12 l Z a0 hw [] a454 a329 kc323 x_pv20 x_pv46 h447 n0 Z464 A451 F467 F468 A463 hBL hU ne456 nw457 O466 SV SU) hZ0 (tw hw 10 rfl) (tw hw 7 rfl) (by decide) (by decide)) (g := (mkF m 105 #[iv p0, iv p1, iv p2, iv p3, iv 2, iv x_pv20, iv x_pv46, iv x_pv72, rv a329, .unset, .unset] [(.ref a329), (.ref a454), (.ref a454)])) rfl (by rw [hml]; rfl) (Steps.refl _) (a := a454) (argsL := [(.ref a329)]) (rest := [(.ref a454)]) (lenOf pdN1 rfl) rfl (leW rfl) (hb hby at_105) (fun _ _ => ⟨rfl, e449, (leB rfl), (leB rfl)⟩)
      dsimp only [Pt.U, Pt.locs, Pt.cells, Pt.slots] at X470 l476 y477 z478 st479 hQ475
      subst l476 y477 z478
      obtain ⟨x_pe493, x_kk492, rfl, N485, K486, fr_pe491, F_0487, F_1488, F_2489, F_3490⟩ := hQ475
      have N480 := Fr.app N377 N485
      have ne494 : a329 ≠ x_pe493 := Nat.ne_of_lt (Nat.lt_of_lt_of_le A463.lt fr_pe491)
      have ne495 : a454 ≠ x_pe493 := Nat.ne_of_lt (Nat.lt_of_lt_of_le A451.lt fr_pe491)
      have nw496 : n0 ≤ x_pe493 := Nat.le_trans Z464 fr_pe491
      have Sf497 : Safe Z own_EL s.vm h447 x_pe493 := Safe.new fr_pe491
      have hr500 := CHr.keep K486 (sfS Sf462 sf0) H459
      have Sf501 := Safe.keep K486 (sfS Sf462 sf0) H459 Sf462
      have Sf502 := Safe.keep K486 (sfS Sf462 sf0) H459 Sf497
      have H498 := hr500.1
      have CH499 := CH460.trans hr500
      have A503 := A463.keep K486 (ninS ne456 nin0)
      have E504 := A451.keep K486
      have Z505 := Nat.le_trans Z464 K486.1
      have hk506 := Nat.le_trans hk465 K486.1
      have O507 := O466.keep K486 (allS nw457 all0)
      refine Way.to st479 ?_
      show Way _ _ _ _ (T469.setTop (mkF m 108 #[iv p0, iv p1, iv p2, iv p3, iv 2, iv x_pv20, iv x_pv46, iv x_pv72, rv a329, .unset, .unset] [(.ref a454)]))
      refine Way.by (fun _ k => XS.astore X470.here hx rfl (hb hby at_108) rfl rfl (l' := #[iv p0, iv p1, iv p2, iv p3, iv 2, iv x_pv20, iv x_pv46, iv x_pv72, rv a329, rv a454, .unset]) rfl k) ?_
      show Way _ _ _ _ (T469.setTop (mkF m 110 #[iv p0, iv p1, iv p2, iv p3, iv 2, iv x_pv20, iv x_pv46, iv x_pv72, rv a329, rv a454, .unset] []))
      have HT : own_Txt Z T469.heap a454 x_pe493 [x_pv20, x_pv46] := ⟨F_0487, F_1488, ⟨1, F_2489, x_kk492, _, _, F_3490, Or.inr ⟨rfl, rfl, rfl, hE⟩⟩, hBL, (leB rfl)⟩
      exact seg110n2 l Z a0 hw ws p0 p1 p2 p3 h0 n0 Z0 O0 SV SU p e s m below meth c s₁ Bd hml _ hZ0 hown0 _ hS0 hh T469 T469.heap _ (X470.mono (by decide) (by decide)) rfl N480 Z505 hk506 H498 CH499 O507 x_pv20 x_pv46 x_pv72 a329 a454 x_pe493 HT
  · skip
    show Way _ _ _ _ (T53.setTop (mkF m 23 #[iv p0, iv p1, iv p2, iv p3, iv 3, iv x_pv20, iv x_pv46, iv x_pv72, .unset, .unset, .unset] []))
    refine Way.by (fun _ k => XS.iload X54.here hx rfl (hb hby at_23) rfl k) ?_
    show Way _ _ _ _ (T53.setTop (mkF m 25 #[iv p0, iv p1, iv p2, iv p3, iv 3, iv x_pv20, iv x_pv46, iv x_pv72, .unset, .unset, .unset] [(.int 3)]))
    have b508 : ¬ (3 : Int32) = (0 : Int32) := by decide
    refine Way.by (fun _ k => XS.ifYes X54.here hx rfl (pc0 := 25) (pc' := 36) rfl (hb hby at_25) rfl ((if0 .ne _).trans (feq b508).2) (by decide) (by decide) k) ?_
    show Way _ _ _ _ (T53.setTop (mkF m 36 #[iv p0, iv p1, iv p2, iv p3, iv 3, iv x_pv20, iv x_pv46, iv x_pv72, .unset, .unset, .unset] []))
    refine Way.by (fun _ k => XS.iload X54.here hx rfl (hb hby at_36) rfl k) ?_
    show Way _ _ _ _ (T53.setTop (mkF m 38 #[iv p0, iv p1, iv p2, iv p3, iv 3, iv x_pv20, iv x_pv46, iv x_pv72, .unset, .unset, .unset] [(.int 3)]))
    refine Way.by (fun _ k => XS.iconst X54.here hx rfl (hb hby at_38) k) ?_
    show Way _ _ _ _ (T53.setTop (mkF m 39 #[iv p0, iv p1, iv p2, iv p3, iv 3, iv x_pv20, iv x_pv46, iv x_pv72, .unset, .unset, .unset] [(.int 1), (.int 3)]))
    have b509 : ¬ (3 : Int32) = (1 : Int32) := by decide
    refine Way.by (fun _ k => XS.icmpYes X54.here hx rfl (pc0 := 39) (pc' := 55) rfl (hb hby at_39) rfl (feq b509).2 (by decide) (by decide) k) ?_
    show Way _ _ _ _ (T53.setTop (mkF m 55 #[iv p0, iv p1, iv p2, iv p3, iv 3, iv x_pv20, iv x_pv46, iv x_pv72, .unset, .unset, .unset] []))
    refine Way.by (fun _ k => XS.iload X54.here hx rfl (hb hby at_55) rfl k) ?_
    show Way _ _ _ _ (T53.setTop (mkF m 57 #[iv p0, iv p1, iv p2, iv p3, iv 3, iv x_pv20, iv x_pv46, iv x_pv72, .unset, .unset, .unset] [(.int 3)]))
    refine Way.by (fun _ k => XS.iconst X54.here hx rfl (hb hby at_57) k) ?_
    show Way _ _ _ _ (T53.setTop (mkF m 58 #[iv p0, iv p1, iv p2, iv p3, iv 3, iv x_pv20, iv x_pv46, iv x_pv72, .unset, .unset, .unset] [(.int 2), (.int 3)]))
    have b510 : ¬ (3 : Int32) = (2 : Int32) := by decide
    refine Way.by (fun _ k => XS.icmpYes X54.here hx rfl (pc0 := 58) (pc' := 79) rfl (hb hby at_58) rfl (feq b510).2 (by decide) (by decide) k) ?_
    show Way _ _ _ _ (T53.setTop (mkF m 79 #[iv p0, iv p1, iv p2, iv p3, iv 3, iv x_pv20, iv x_pv46, iv x_pv72, .unset, .unset, .unset] []))
    refine Way.by (fun _ k => XS.iconst X54.here hx rfl (hb hby at_79) k) ?_
    show Way _ _ _ _ (T53.setTop (mkF m 80 #[iv p0, iv p1, iv p2, iv p3, iv 3, iv x_pv20, iv x_pv46, iv x_pv72, .unset, .unset, .unset] [(.int 3)]))
    obtain ⟨T511, h512, kc513, X514, e515, E516, A517, st518⟩ := newP X54 hx hZ0 (tw hw 4 rfl) rfl (g := (mkF m 80 #[iv p0, iv p1, iv p2, iv p3, iv 3, iv x_pv20, iv x_pv46, iv x_pv72, .unset, .unset, .unset] [(.int 3)])) rfl (hb hby at_80) rfl (by decide) (cap := 3) (by decide) (by decide) (by decide) (by decide)
    obtain ⟨a519, g520⟩ : ∃ z, z = T53.heap.size := ⟨_, rfl⟩
    rw [← g520] at A517 st518
    have nw522 : n0 ≤ a519 := Nat.le_trans Z76 (Nat.le_of_eq g520.symm)
    have hr525 := CHr.ext E516 H73
    have H523 := hr525.1
    have CH524 := CH74.trans hr525
    have Z526 := Nat.le_trans Z76 E516.1
    have hk527 := Nat.le_trans hk77 E516.1
    have O528 := O78.ext E516
    have V521 : Arv Z h512 a519 kc513 .char (3 : Int32) [] (.int 0) := Arv.new A517 (by decide)
    refine Way.by st518 ?_
    show Way _ _ _ _ (T511.setTop (mkF m 82 #[iv p0, iv p1, iv p2, iv p3, iv 3, iv x_pv20, iv x_pv46, iv x_pv72, .unset, .unset, .unset] [(.ref a519)]))
    refine Way.by (fun _ k => XS.dup X514.here hx rfl (hb hby at_82) rfl rfl k) ?_
    show Way _ _ _ _ (T511.setTop (mkF m 83 #[iv p0, iv p1, iv p2, iv p3, iv 3, iv x_pv20, iv x_pv46, iv x_pv72, .unset, .unset, .unset] [(.ref a519), (.ref a519)]))
    refine Way.by (fun _ k => XS.iconst X514.here hx rfl (hb hby at_83) k) ?_
    show Way _ _ _ _ (T511.setTop (mkF m 84 #[iv p0, iv p1, iv p2, iv p3, iv 3, iv x_pv20, iv x_pv46, iv x_pv72, .unset, .unset, .unset] [(.int 0), (.ref a519), (.ref a519)]))
    refine Way.by (fun _ k => XS.iload X514.here hx rfl (hb hby at_84) rfl k) ?_
    show Way _ _ _ _ (T511.setTop (mkF m 86 #[iv p0, iv p1, iv p2, iv p3, iv 3, iv x_pv20, iv x_pv46, iv x_pv72, .unset, .unset, .unset] [(.int x_pv20), (.int 0), (.ref a519), (.ref a519)]))
    have V529 : Arv Z h512 a519 kc513 .char (3 : Int32) [(.int 0)] (.int 0) := V521.pad (pad_rep [] (.int 0) 1)
    obtain ⟨c530, A531, q532, S533, M534, H535, U536⟩ := id V529
    obtain ⟨T537, h538, X539, e540, W541, st542⟩ := stC X514 hx hZ0 e515 A531 (j := (0 : Int32)) (inb_of S533 ⟨(by decide), (by decide)⟩) (g := (mkF m 86 #[iv p0, iv p1, iv p2, iv p3, iv 3, iv x_pv20, iv x_pv46, iv x_pv72, .unset, .unset, .unset] [(.int x_pv20), (.int 0), (.ref a519), (.ref a519)])) rfl rfl (hb hby at_86)
    have N543 := Fr.snoc X539 N64 nw522
    have V544 : Arv Z h538 a519 kc513 .char (3 : Int32) [(.int (nar .char x_pv20))] (.int 0) := Arv.set A531 q532 S533 M534 H535 U536 (fits_nar_char _) W541 0 rfl (leB rfl)
    have nq546 : nar .char x_pv20 = x_pv20 := own_narC pu_OK19
    have V545 : Arv Z h538 a519 kc513 .char (3 : Int32) [(.int x_pv20)] (.int 0) := by rw [nq546] at V544; exact V544
    have hr549 := CHr.wr W541 (Safe.arv hZ0.alike V521 (by decide)) H523
    have H547 := hr549.1
    have CH548 := CH524.trans hr549
    have Z550 : n0 ≤ h538.size := by rw [W541.size]; exact Z526
    have hk551 := Nat.le_trans hk527 (Nat.le_of_eq W541.size.symm)
    have O552 := O528.wr W541 nw522
    refine Way.by st542 ?_
    show Way _ _ _ _ (T537.setTop (mkF m 87 #[iv p0, iv p1, iv p2, iv p3, iv 3, iv x_pv20, iv x_pv46, iv x_pv72, .unset, .unset, .unset] [(.ref a519)]))
    refine Way.by (fun _ k => XS.dup X539.here hx rfl (hb hby at_87) rfl rfl k) ?_
    show Way _ _ _ _ (T537.setTop (mkF m 88 #[iv p0, iv p1, iv p2, iv p3, iv 3, iv x_pv20, iv x_pv46, iv x_pv72, .unset, .unset, .unset] [(.ref a519), (.ref a519)]))
    refine Way.by (fun _ k => XS.iconst X539.here hx rfl (hb hby at_88) k) ?_
    show Way _ _ _ _ (T537.setTop (mkF m 89 #[iv p0, iv p1, iv p2, iv p3, iv 3, iv x_pv20, iv x_pv46, iv x_pv72, .unset, .unset, .unset] [(.int 1), (.ref a519), (.ref a519)]))
    refine Way.by (fun _ k => XS.iload X539.here hx rfl (hb hby at_89) rfl k) ?_
    show Way _ _ _ _ (T537.setTop (mkF m 91 #[iv p0, iv p1, iv p2, iv p3, iv 3, iv x_pv20, iv x_pv46, iv x_pv72, .unset, .unset, .unset] [(.int x_pv46), (.int 1), (.ref a519), (.ref a519)]))
    have V553 : Arv Z h538 a519 kc513 .char (3 : Int32) [(.int x_pv20), (.int 0)] (.int 0) := V545.pad (pad_rep [(.int x_pv20)] (.int 0) 1)
    obtain ⟨c554, A555, q556, S557, M558, H559, U560⟩ := id V553
    obtain ⟨T561, h562, X563, e564, W565, st566⟩ := stC X539 hx hZ0 e540 A555 (j := (1 : Int32)) (inb_of S557 ⟨(by decide), (by decide)⟩) (g := (mkF m 91 #[iv p0, iv p1, iv p2, iv p3, iv 3, iv x_pv20, iv x_pv46, iv x_pv72, .unset, .unset, .unset] [(.int x_pv46), (.int 1), (.ref a519), (.ref a519)])) rfl rfl (hb hby at_91)
    have N567 := Fr.snoc X563 N543 nw522
    have V568 : Arv Z h562 a519 kc513 .char (3 : Int32) [(.int x_pv20), (.int (nar .char x_pv46))] (.int 0) := Arv.set A555 q556 S557 M558 H559 U560 (fits_nar_char _) W565 1 rfl (leB rfl)
    have nq570 : nar .char x_pv46 = x_pv46 := own_narC pu_OK45
    have V569 : Arv Z h562 a519 kc513 .char (3 : Int32) [(.int x_pv20), (.int x_pv46)] (.int 0) := by rw [nq570] at V568; exact V568
    have hr573 := CHr.wr W565 (Safe.arv hZ0.alike V545 (by decide)) H547
    have H571 := hr573.1
    have CH572 := CH548.trans hr573
    have Z574 : n0 ≤ h562.size := by rw [W565.size]; exact Z550
    have hk575 := Nat.le_trans hk551 (Nat.le_of_eq W565.size.symm)
    have O576 := O552.wr W565 nw522
    refine Way.by st566 ?_
    show Way _ _ _ _ (T561.setTop (mkF m 92 #[iv p0, iv p1, iv p2, iv p3, iv 3, iv x_pv20, iv x_pv46, iv x_pv72, .unset, .unset, .unset] [(.ref a519)]))
    refine Way.by (fun _ k => XS.dup X563.here hx rfl (hb hby at_92) rfl rfl k) ?_
    show Way _ _ _ _ (T561.setTop (mkF m 93 #[iv p0, iv p1, iv p2, iv p3, iv 3, iv x_pv20, iv x_pv46, iv x_pv72, .unset, .unset, .unset] [(.ref a519), (.ref a519)]))
    refine Way.by (fun _ k => XS.iconst X563.here hx rfl (hb hby at_93) k) ?_
    show Way _ _ _ _ (T561.setTop (mkF m 94 #[iv p0, iv p1, iv p2, iv p3, iv 3, iv x_pv20, iv x_pv46, iv x_pv72, .unset, .unset, .unset] [(.int 2), (.ref a519), (.ref a519)]))
    refine Way.by (fun _ k => XS.iload X563.here hx rfl (hb hby at_94) rfl k) ?_
    show Way _ _ _ _ (T561.setTop (mkF m 96 #[iv p0, iv p1, iv p2, iv p3, iv 3, iv x_pv20, iv x_pv46, iv x_pv72, .unset, .unset, .unset] [(.int x_pv72), (.int 2), (.ref a519), (.ref a519)]))
    have V577 : Arv Z h562 a519 kc513 .char (3 : Int32) [(.int x_pv20), (.int x_pv46), (.int 0)] (.int 0) := V569.pad (pad_rep [(.int x_pv20), (.int x_pv46)] (.int 0) 1)
    obtain ⟨c578, A579, q580, S581, M582, H583, U584⟩ := id V577
    obtain ⟨T585, h586, X587, e588, W589, st590⟩ := stC X563 hx hZ0 e564 A579 (j := (2 : Int32)) (inb_of S581 ⟨(by decide), (by decide)⟩) (g := (mkF m 96 #[iv p0, iv p1, iv p2, iv p3, iv 3, iv x_pv20, iv x_pv46, iv x_pv72, .unset, .unset, .unset] [(.int x_pv72), (.int 2), (.ref a519), (.ref a519)])) rfl rfl (hb hby at_96)
    have N591 := Fr.snoc X587 N567 nw522
    have V592 : Arv Z h586 a519 kc513 .char (3 : Int32) [(.int x_pv20), (.int x_pv46), (.int (nar .char x_pv72))] (.int 0) := Arv.set A579 q580 S581 M582 H583 U584 (fits_nar_char _) W589 2 rfl (leB rfl)
    have nq594 : nar .char x_pv72 = x_pv72 := own_narC pu_OK71
    have V593 : Arv Z h586 a519 kc513 .char (3 : Int32) [(.int x_pv20), (.int x_pv46), (.int x_pv72)] (.int 0) := by rw [nq594] at V592; exact V592
    have hr597 := CHr.wr W589 (Safe.arv hZ0.alike V569 (by decide)) H571
    have H595 := hr597.1
    have CH596 := CH572.trans hr597
    have Z598 : n0 ≤ h586.size := by rw [W589.size]; exact Z574
    have hk599 := Nat.le_trans hk575 (Nat.le_of_eq W589.size.symm)
    have O600 := O576.wr W589 nw522
    refine Way.by st590 ?_
    show Way _ _ _ _ (T585.setTop (mkF m 97 #[iv p0, iv p1, iv p2, iv p3, iv 3, iv x_pv20, iv x_pv46, iv x_pv72, .unset, .unset, .unset] [(.ref a519)]))
    refine Way.by (fun _ k => XS.astore X587.here hx rfl (hb hby at_97) rfl rfl (l' := #[iv p0, iv p1, iv p2, iv p3, iv 3, iv x_pv20, iv x_pv46, iv x_pv72, rv a519, .unset, .unset]) rfl k) ?_
    show Way _ _ _ _ (T585.setTop (mkF m 99 #[iv p0, iv p1, iv p2, iv p3, iv 3, iv x_pv20, iv x_pv46, iv x_pv72, rv a519, .unset, .unset] []))
    have hBL : ∀ c ∈ ([x_pv20, x_pv46, x_pv72] : List Int32), ¬ c < 0 ∧ ¬ (65535 : Int32) < c := by intro c hc; simp only [List.mem_cons, List.not_mem_nil, or_false] at hc; rcases hc with rfl | rfl | rfl <;> assumption
    by_cases hL : ∀ c ∈ ([x_pv20, x_pv46, x_pv72] : List Int32), ¬ (255 : Int32) < c
    · skip
      show Way _ _ _ _ (T585.setTop (mkF m 99 #[iv p0, iv p1, iv p2, iv p3, iv 3, iv x_pv20, iv x_pv46, iv x_pv72, rv a519, .unset, .unset] []))
      obtain ⟨T601, h602, X603, e604, E605, A606, D607, -, st608⟩ := newO X587 hx hZ0 hown0 (tw hw 5 rfl) (tw hw 6 rfl) (tw hw 7 rfl) e588 (g := (mkF m 99 #[iv p0, iv p1, iv p2, iv p3, iv 3, iv x_pv20, iv x_pv46, iv x_pv72, rv a519, .unset, .unset] [])) rfl (hb hby at_99) (by decide) (by decide)
      obtain ⟨a609, g610⟩ : ∃ z, z = h586.size := ⟨_, rfl⟩
      rw [← g610] at A606 D607 st608
      have ne611 : a519 ≠ a609 := Nat.ne_of_lt (Nat.lt_of_lt_of_eq V593.lt g610.symm)
      have nw612 : n0 ≤ a609 := Nat.le_trans Z598 (Nat.le_of_eq g610.symm)
      have Sf613 : Safe Z own_EL s.vm h586 a609 := Safe.new (Nat.le_of_eq g610.symm)
      have hr616 := CHr.ext E605 H595
      have Sf617 := Safe.ext E605 H595 Sf613
      have H614 := hr616.1
      have CH615 := CH596.trans hr616
      have A618 := V593.ext E605
      have Z619 := Nat.le_trans Z598 E605.1
      have hk620 := Nat.le_trans hk599 E605.1
      have O621 := O600.ext E605
      have F622 : Fld Z h602 a609 "java/lang/String" "value" "[B" .null := D607 (Or.inr (tw hw 20 rfl)) (ty := (.array .byte)) (by decide)
      have F623 : Fld Z h602 a609 "java/lang/String" "coder" "B" (.int 0) := D607 (Or.inr (tw hw 21 rfl)) (ty := .byte) (by decide)
      refine Way.by st608 ?_
      show Way _ _ _ _ (T601.setTop (mkF m 102 #[iv p0, iv p1, iv p2, iv p3, iv 3, iv x_pv20, iv x_pv46, iv x_pv72, rv a519, .unset, .unset] [(.ref a609)]))
      refine Way.by (fun _ k => XS.dup X603.here hx rfl (hb hby at_102) rfl rfl k) ?_
      show Way _ _ _ _ (T601.setTop (mkF m 103 #[iv p0, iv p1, iv p2, iv p3, iv 3, iv x_pv20, iv x_pv46, iv x_pv72, rv a519, .unset, .unset] [(.ref a609), (.ref a609)]))
      refine Way.by (fun _ k => XS.aload X603.here hx rfl (hb hby at_103) rfl rfl k) ?_
      show Way _ _ _ _ (T601.setTop (mkF m 105 #[iv p0, iv p1, iv p2, iv p3, iv 3, iv x_pv20, iv x_pv46, iv x_pv72, rv a519, .unset, .unset] [(.ref a519), (.ref a609), (.ref a609)]))
      have hp624 : ∀ c ∈ ([x_pv20, x_pv46, x_pv72] : List Int32), ¬ c < 0 ∧ ¬ (255 : Int32) < c := fun c hc => ⟨(hBL c hc).1, hL c hc⟩
      obtain ⟨_, _, ⟨T625, L627, k628, n629⟩, -, X626, ⟨Lc630, hQ631, l632, y633, z634⟩, st635⟩ := X603.specialBack hx (y := (⟨"java/lang/String", "<init>", "([C)V"⟩ : MethodName)) rfl hown0 (mvT hZ0 (tw hw 8 rfl)) (mvT hZ0 (tw hw 9 rfl)) (mvT hZ0 (tw hw 10 rfl)) (by decide) (own_new (W := 1) (n0 := n0) hZ0 hw SV O621 (cs := [x_pv20, x_pv46, x_pv72]) (n := 3) nw612 Z619 A606 F622 F623 A618 rfl rfl (by decide) (by decide) hp624 (by decide) (by decide)) (g := (mkF m 105 #[iv p0, iv p1, iv p2, iv p3, iv 3, iv x_pv20, iv x_pv46, iv x_pv72, rv a519, .unset, .unset] [(.ref a519), (.ref a609), (.ref a609)])) rfl (by rw [hml]; rfl) (Steps.refl _) (a := a609) (argsL := [(.ref a519)]) (rest := [(.ref a609)]) (lenOf own_pdNew rfl) rfl (leW rfl) (hb hby at_105) (fun _ _ => ⟨rfl, e604, (leB rfl), (leB rfl)⟩)
      dsimp only [Pt.U, Pt.locs, Pt.cells, Pt.slots] at X626 l632 y633 z634 st635 hQ631
      subst l632 y633 z634
      obtain ⟨rfl, N641, K642, x_t645, fr_t644, F643⟩ := hQ631
      have N636 := Fr.app N591 N641
      have ne646 : a519 ≠ x_t645 := Nat.ne_of_lt (Nat.lt_of_lt_of_le A618.lt fr_t644)
      have ne647 : a609 ≠ x_t645 := Nat.ne_of_lt (Nat.lt_of_lt_of_le A606.lt fr_t644)
      have nw648 : n0 ≤ x_t645 := Nat.le_trans Z619 fr_t644
      have Sf649 : Safe Z own_EL s.vm h602 x_t645 := Safe.new fr_t644
      have hr652 := CHr.keep K642 (sfS Sf617 sf0) H614
      have Sf653 := Safe.keep K642 (sfS Sf617 sf0) H614 Sf617
      have Sf654 := Safe.keep K642 (sfS Sf617 sf0) H614 Sf649
      have H650 := hr652.1
      have CH651 := CH615.trans hr652
      have A655 := A618.keep K642 (ninS ne611 nin0)
      have E656 := A606.keep K642
      have Z657 := Nat.le_trans Z619 K642.1
      have hk658 := Nat.le_trans hk620 K642.1
      have O659 := O621.keep K642 (allS nw612 all0)
      refine Way.to st635 ?_
      show Way _ _ _ _ (T625.setTop (mkF m 108 #[iv p0, iv p1, iv p2, iv p3, iv 3, iv x_pv20, iv x_pv46, iv x_pv72, rv a519, .unset, .unset] [(.ref a609)]))
      refine Way.by (fun _ k => XS.astore X626.here hx rfl (hb hby at_108) rfl rfl (l' := #[iv p0, iv p1, iv p2, iv p3, iv 3, iv x_pv20, iv x_pv46, iv x_pv72, rv a519, rv a609, .unset]) rfl k) ?_
      show Way _ _ _ _ (T625.setTop (mkF m 110 #[iv p0, iv p1, iv p2, iv p3, iv 3, iv x_pv20, iv x_pv46, iv x_pv72, rv a519, rv a609, .unset] []))
      have HT : own_Txt Z T625.heap a609 x_t645 [x_pv20, x_pv46, x_pv72] := F643.txt
      exact seg110n3 l Z a0 hw ws p0 p1 p2 p3 h0 n0 Z0 O0 SV SU p e s m below meth c s₁ Bd hml _ hZ0 hown0 _ hS0 hh T625 T625.heap _ (X626.mono (by decide) (by decide)) rfl N636 Z657 hk658 H650 CH651 O659 x_pv20 x_pv46 x_pv72 a519 a609 x_t645 HT
    · skip
      have hE := own_ex hL
      have hU : (255 : Int32) < x_pv20 ∨ (255 : Int32) < x_pv46 ∨ (255 : Int32) < x_pv72 := by obtain ⟨c, hc, q⟩ := id hE; simp only [List.mem_cons, List.not_mem_nil, or_false] at hc; rcases hc with rfl | rfl | rfl <;> simp only [q, true_or, or_true]
      show Way _ _ _ _ (T585.setTop (mkF m 99 #[iv p0, iv p1, iv p2, iv p3, iv 3, iv x_pv20, iv x_pv46, iv x_pv72, rv a519, .unset, .unset] []))
      obtain ⟨T660, h661, X662, e663, E664, A665, D666, -, st667⟩ := newO X587 hx hZ0 hown0 (tw hw 5 rfl) (tw hw 6 rfl) (tw hw 7 rfl) e588 (g := (mkF m 99 #[iv p0, iv p1, iv p2, iv p3, iv 3, iv x_pv20, iv x_pv46, iv x_pv72, rv a519, .unset, .unset] [])) rfl (hb hby at_99) (by decide) (by decide)
      obtain ⟨a668, g669⟩ : ∃ z, z = h586.size := ⟨_, rfl⟩
      rw [← g669] at A665 D666 st667
      have ne670 : a519 ≠ a668 := Nat.ne_of_lt (Nat.lt_of_lt_of_eq V593.lt g669.symm)
      have nw671 : n0 ≤ a668 := Nat.le_trans Z598 (Nat.le_of_eq g669.symm)
      have Sf672 : Safe Z own_EL s.vm h586 a668 := Safe.new (Nat.le_of_eq g669.symm)
      have hr675 := CHr.ext E664 H595
      have Sf676 := Safe.ext E664 H595 Sf672
      have H673 := hr675.1
      have CH674 := CH596.trans hr675
      have A677 := V593.ext E664
      have Z678 := Nat.le_trans Z598 E664.1
      have hk679 := Nat.le_trans hk599 E664.1
      have O680 := O600.ext E664
      have F681 : Fld Z h661 a668 "java/lang/String" "value" "[B" .null := D666 (Or.inr (tw hw 20 rfl)) (ty := (.array .byte)) (by decide)
      have F682 : Fld Z h661 a668 "java/lang/String" "coder" "B" (.int 0) := D666 (Or.inr (tw hw 21 rfl)) (ty := .byte) (by decide)
      refine Way.by st667 ?_
      show Way _ _ _ _ (T660.setTop (mkF m 102 #[iv p0, iv p1, iv p2, iv p3, iv 3, iv x_pv20, iv x_pv46, iv x_pv72, rv a519, .unset, .unset] [(.ref a668)]))
      refine Way.by (fun _ k => XS.dup X662.here hx rfl (hb hby at_102) rfl rfl k) ?_
      show Way _ _ _ _ (T660.setTop (mkF m 103 #[iv p0, iv p1, iv p2, iv p3, iv 3, iv x_pv20, iv x_pv46, iv x_pv72, rv a519, .unset, .unset] [(.ref a668), (.ref a668)]))
      refine Way.by (fun _ k => XS.aload X662.here hx rfl (hb hby at_103) rfl rfl k) ?_
      show Way _ _ _ _ (T660.setTop (mkF m 105 #[iv p0, iv p1, iv p2, iv p3, iv 3, iv x_pv20, iv x_pv46, iv x_pv72, rv a519, .unset, .unset] [(.ref a519), (.ref a668), (.ref a668)]))
      obtain ⟨_, _, ⟨T683, L685, k686, n687⟩, -, X684, ⟨Lc688, hQ689, l690, y691, z692⟩, st693⟩ := X662.specialBack hx (y := (⟨"java/lang/String", "<init>", "([C)V"⟩ : MethodName)) rfl hown0 (mvT hZ0 (tw hw 8 rfl)) (mvT hZ0 (tw hw 9 rfl)) (mvT hZ0 (tw hw 10 rfl)) (by decide) (backOf (W := 1) (rmI13 l Z a0 hw [] a668 a519 kc513 x_pv20 x_pv46 x_pv72 h661 n0 Z678 A665 F681 F682 A677 hBL hU ne670 nw671 O680 SV SU) hZ0 (tw hw 10 rfl) (tw hw 7 rfl) (by decide) (by decide)) (g := (mkF m 105 #[iv p0, iv p1, iv p2, iv p3, iv 3, iv x_pv20, iv x_pv46, iv x_pv72, rv a519, .unset, .unset] [(.ref a519), (.ref a668), (.ref a668)])) rfl (by rw [hml]; rfl) (Steps.refl _) (a := a668) (argsL := [(.ref a519)]) (rest := [(.ref a668)]) (lenOf pdN1 rfl) rfl (leW rfl) (hb hby at_105) (fun _ _ => ⟨rfl, e663, (leB rfl), (leB rfl)⟩)
      dsimp only [Pt.U, Pt.locs, Pt.cells, Pt.slots] at X684 l690 y691 z692 st693 hQ689
      subst l690 y691 z692
      obtain ⟨x_pe707, x_kk706, rfl, N699, K700, fr_pe705, F_0701, F_1702, F_2703, F_3704⟩ := hQ689
      have N694 := Fr.app N591 N699
      have ne708 : a519 ≠ x_pe707 := Nat.ne_of_lt (Nat.lt_of_lt_of_le A677.lt fr_pe705)
      have ne709 : a668 ≠ x_pe707 := Nat.ne_of_lt (Nat.lt_of_lt_of_le A665.lt fr_pe705)
      have nw710 : n0 ≤ x_pe707 := Nat.le_trans Z678 fr_pe705
      have Sf711 : Safe Z own_EL s.vm h661 x_pe707 := Safe.new fr_pe705
      have hr714 := CHr.keep K700 (sfS Sf676 sf0) H673
      have Sf715 := Safe.keep K700 (sfS Sf676 sf0) H673 Sf676
      have Sf716 := Safe.keep K700 (sfS Sf676 sf0) H673 Sf711
      have H712 := hr714.1
      have CH713 := CH674.trans hr714
      have A717 := A677.keep K700 (ninS ne670 nin0)
      have E718 := A665.keep K700
      have Z719 := Nat.le_trans Z678 K700.1
      have hk720 := Nat.le_trans hk679 K700.1
      have O721 := O680.keep K700 (allS nw671 all0)
      refine Way.to st693 ?_
      show Way _ _ _ _ (T683.setTop (mkF m 108 #[iv p0, iv p1, iv p2, iv p3, iv 3, iv x_pv20, iv x_pv46, iv x_pv72, rv a519, .unset, .unset] [(.ref a668)]))
      refine Way.by (fun _ k => XS.astore X684.here hx rfl (hb hby at_108) rfl rfl (l' := #[iv p0, iv p1, iv p2, iv p3, iv 3, iv x_pv20, iv x_pv46, iv x_pv72, rv a519, rv a668, .unset]) rfl k) ?_
      show Way _ _ _ _ (T683.setTop (mkF m 110 #[iv p0, iv p1, iv p2, iv p3, iv 3, iv x_pv20, iv x_pv46, iv x_pv72, rv a519, rv a668, .unset] []))
      have HT : own_Txt Z T683.heap a668 x_pe707 [x_pv20, x_pv46, x_pv72] := ⟨F_0701, F_1702, ⟨1, F_2703, x_kk706, _, _, F_3704, Or.inr ⟨rfl, rfl, rfl, hE⟩⟩, hBL, (leB rfl)⟩
      exact seg110n3 l Z a0 hw ws p0 p1 p2 p3 h0 n0 Z0 O0 SV SU p e s m below meth c s₁ Bd hml _ hZ0 hown0 _ hS0 hh T683 T683.heap _ (X684.mono (by decide) (by decide)) rfl N694 Z719 hk720 H712 CH713 O721 x_pv20 x_pv46 x_pv72 a519 a668 x_pe707 HT
set_option maxRecDepth 65536 in
set_option maxHeartbeats 40000000 in
theorem comes_1 {Post : Tables → Env → Array Value → State → Outcome → State → Prop} (hpost : ∀ tb e args s v u, (limb_1_1.after args s (.returned v) u = true ∧ limb_1_2.after args s (.returned v) u = true ∧ True) → ReturnedEndW s (.returned v) u (Jvm.fieldLocs frame_1_writes args s ++ Jvm.arrayLocs frame_1_arrays args s ++ Jvm.staticLocs frame_1_statics s) 24 1216 → Post tb e args s (.returned v) u) :
    ArmFor flags0 classFile x code maxLocals ret World_1 tables_1 room_1 Calls_1 rest_1 Pre_1 Post := by
  intro l hfl _ _ p e ha hc hk s m args below hf hA hF happ hP
  obtain ⟨hcalls, hrest, hpre⟩ := hP
  obtain ⟨-, -, -, hnamed, -, -, -, hat⟩ := (Spec.applies_iff hf).mp happ
  obtain ⟨hg, hn⟩ := and_e (Cond.before_iff.mp (show (Jvm.Cond.and given_1 narrow_1).before args s = true from hpre))
  obtain ⟨hg0, hgr0⟩ := and_e hg
  obtain ⟨hg1, hgr1⟩ := and_e hgr0
  obtain ⟨hg2, hgr2⟩ := and_e hgr1
  obtain ⟨hg3, hgr3⟩ := and_e hgr2
  obtain ⟨w0, w1, w2, w3, rfl⟩ : ∃ w0 w1 w2 w3 : Value, args = #[w0, w1, w2, w3] := by
    have hs : args.size = 4 := by simpa [Cond.value, given_1] using hg0
    obtain ⟨L⟩ := args
    match L, hs with
    | [w0, w1, w2, w3], _ => exact ⟨w0, w1, w2, w3, rfl⟩
  have hw := fun d (hd : d ∈ tables_1) => atoms_spec (ws := Jvm.Cond.code x code maxLocals ret :: tables_1) hat d (List.mem_cons_of_mem _ hd)
  have hfit : Fit s := fun {y c} hc i hi => by
    obtain ⟨ha, rfl⟩ := Array.getElem?_eq_some_iff.mp hc
    have q := List.all_eq_true.mp ((Array.all_eq_true_iff_forall_mem.mp hF) _ (Array.getElem_mem ha)) i (List.mem_range.mpr hi)
    simpa [Array.getElem?_eq_getElem hi] using q
  obtain ⟨i0, ei0⟩ := is_v hg1
  obtain rfl : w0 = (.int i0) := Option.some.inj ei0
  obtain ⟨i1, ei1⟩ := is_v hg2
  obtain rfl : w1 = (.int i1) := Option.some.inj ei1
  obtain ⟨i2, ei2⟩ := is_v hg3
  obtain rfl : w2 = (.int i2) := Option.some.inj ei2
  obtain ⟨i3, ei3⟩ := is_v hgr3
  obtain rfl : w3 = (.int i3) := Option.some.inj ei3
  have hs := atoms_of jdkStatics_1 (show (jdkStatics_1.foldr Jvm.Cond.and restOwn_1).before _ s = true from hrest)
  have SV : own_Env s := by
    refine ⟨?_, ?_⟩
    · obtain ⟨G1, ev⟩ := is_v (Cond.before_iff.mp (hs.1 _ (List.mem_of_getElem? (i := 1) rfl)))
      exact ⟨G1, Sta.start ev (Or.inl (hs.1 _ (List.mem_of_getElem? (i := 0) rfl))), envNe ev (hs.1 _ (List.mem_of_getElem? (i := 2) rfl))⟩
    · obtain ⟨G3, ev, rG⟩ := envRef (hs.1 _ (List.mem_of_getElem? (i := 8) rfl))
      exact ⟨G3, Sta.start ev (Or.inl (hs.1 _ (List.mem_of_getElem? (i := 7) rfl))), rG⟩

  have HC : CHv s own_EL s.vm s.heap := CHv.start (own_EW hw) (fun q hq => hcalls.1 q hq) (hs.1 _ (List.mem_of_getElem? (i := 2) rfl)) (tw hw 19 rfl) (tw hw 6 rfl)
  have SU : own_U16 s := ⟨Sta.start (evInt (Cond.before_iff.mp (hs.1 _ (List.mem_of_getElem? (i := 12) rfl)))) (Or.inl (hs.1 _ (List.mem_of_getElem? (i := 11) rfl))), Sta.start (evInt (Cond.before_iff.mp (hs.1 _ (List.mem_of_getElem? (i := 15) rfl)))) (Or.inl (hs.1 _ (List.mem_of_getElem? (i := 14) rfl))), Sta.start (evInt (Cond.before_iff.mp (hs.1 _ (List.mem_of_getElem? (i := 18) rfl)))) (Or.inl (hs.1 _ (List.mem_of_getElem? (i := 17) rfl)))⟩
  obtain ⟨n, o, h1, h2, h3, _, L, rfl, ⟨rfl, N⟩, -, hq⟩ := rm0 l s _ hw tables_1 i0 i1 i2 i3  s.heap s.heap.size (Nat.le_refl _) (Old.start s) SV SU p e ha hc hk s m _ below hf ((Spec.applies_iff_loose hf).mp happ).1 ⟨rfl, State.Warmed39.refl s, rfl, HC⟩ trivial
  refine ⟨n, _, h1, h2, h3, hpost _ _ _ _ _ _ ⟨Cond.after_iff.mpr rfl, Cond.after_iff.mpr (eq_i res_at (Term.int_eval (1)) rfl), trivial⟩ ⟨hq.1, hq.2.1, hq.2.2.1, (hq.2.2.2.sift fun y hy => Or.inr (N y hy)).mono (by decide) (by decide)⟩⟩
theorem main_1_1 : Claimed_1_1 := comes_1 fun _ _ _ _ _ _ h hF => ⟨h.1, hF⟩
theorem main_1_2 : Claimed_1_2 := comes_1 fun _ _ _ _ _ _ h hF => ⟨h.2.1, hF⟩
end Jvm.Pilot.@@N@@
namespace Jvm.Pilot.@@N@@
open Jvm Jvm.ClassFile Sem Op Lib Jvm.Free Jvm.Stand Jvm.Pilot.@@N@@.Jvm.D
/-! MADE BY PROGRAM (witnessworld.py) out of the Statement's table words and the real class files: 22 classes; the members and pool entries that the words name. The judged class is class 1, her method 3. -/
namespace start1
open Jvm.ClassFile
def u (s : String) : CpInfo := .utf8 (stringToUtf16 s)
/-- a pool by its gaps: so many unusable entries, then the entry; so many at the end -/
def gap : Nat → List CpInfo → List CpInfo
  | 0, r => r
  | n + 1, r => .unusable :: gap n r
def poolList (es : List (Nat × CpInfo)) (last : Nat) : List CpInfo := es.foldr (fun e r => gap e.1 (e.2 :: r)) (gap last [])
def pool (es : List (Nat × CpInfo)) (last : Nat) : Array CpInfo := ⟨poolList es last⟩
def fileOf (pool : Array CpInfo) (this : Nat) (attrs : Array Attribute := #[]) (ms : Array MethodInfo := #[]) (fl : Nat := 33) (sup : Nat := 0) (ifs : Array Nat := #[]) (fds : Array FieldInfo := #[]) : ClassFile where
  minorVersion := 0
  majorVersion := 65
  constantPool := pool
  accessFlags := fl
  thisClass := this
  superClass := sup
  interfaces := ifs
  fields := fds
  methods := ms
  attributes := attrs
def plain (name : String) (sup : Option ClassId) : Class where
  name := name
  kind := .ordinary
  loader := none
  accessFlags := 33
  super := sup
  interfaces := #[]
  cf := none
  fields := #[]
  methods := #[]
  instanceTypes := #[]
  staticTypes := #[]
  resolved := #[]
  callSites := []
  init := .initialized
  statics := none
  mirror := none

def pool0 : Array CpInfo := pool [(5, u "<init>"), (0, u "()V"), (1, .class_ 10), (1, u "java/lang/Object")] 113

def k0c0 : Code := { maxStack := 0, maxLocals := 1, code := object_method_1_code, exceptionTable := #[], attributes := #[] }
def k0m0 : Method := { name := "<init>", desc := "()V", sig := { parameters := [], returnType := none }, accessFlags := 1, code := some k0c0 }
/-- java/lang/Object -/
def k0 : Class := { plain "java/lang/Object" none with
  accessFlags := 33
  interfaces := #[]
  cf := some (fileOf pool0 8 #[] #[{ accessFlags := 1, nameIndex := 5, descriptorIndex := 6, attributes := #[] }] 33 0 #[] #[])
  fields := #[]
  methods := #[k0m0]
  instanceTypes := #[]
  staticTypes := #[]
  resolved := Array.replicate 124 none
  statics := none }

def pool1 : Array CpInfo := pool [(2, .class_ 4), (1, u "java/lang/Object"), (0, u "<init>"), (0, u "()V"), (0, .methodref 8 9), (0, .class_ 10), (0, .nameAndType 11 12), (0, u "raciocinio/cli/RecordWriterCanHoldPinLaw"), (0, u "draw"), (0, u "(I)C"), (0, .class_ 14), (0, u "java/lang/String"), (0, .methodref 13 16), (0, .nameAndType 5 17), (0, u "([C)V"), (0, .methodref 8 19), (0, .nameAndType 20 21), (0, u "bad"), (0, u "(C)Z"), (0, .methodref 23 24), (0, .class_ 25), (0, .nameAndType 26 27), (0, u "raciocinio/cli/RecordWriter"), (0, u "canHold"), (0, u "(Ljava/lang/String;)Z"), (3, u "law"), (0, u "(IIII)Z")] 4

def k1m0 : Method := { name := "<init>", desc := "()V", sig := { parameters := [], returnType := none }, accessFlags := 1, code := none }
def k1c1 : Code := { maxStack := 4, maxLocals := 2, code := method_2_code, exceptionTable := #[], attributes := #[] }
def k1m1 : Method := { name := "draw", desc := "(I)C", sig := { parameters := [.int], returnType := some .char }, accessFlags := 10, code := some k1c1 }
def k1c2 : Code := { maxStack := 2, maxLocals := 1, code := method_3_code, exceptionTable := #[], attributes := #[] }
def k1m2 : Method := { name := "bad", desc := "(C)Z", sig := { parameters := [.char], returnType := some .boolean }, accessFlags := 10, code := some k1c2 }
def k1c3 : Code := { maxStack := 4, maxLocals := 11, code := code, exceptionTable := #[], attributes := #[] }
def k1m3 : Method := { name := "law", desc := "(IIII)Z", sig := { parameters := [.int, .int, .int, .int], returnType := some .boolean }, accessFlags := 9, code := some k1c3 }
/-- raciocinio/cli/RecordWriterCanHoldPinLaw -/
def k1 : Class := { plain "raciocinio/cli/RecordWriterCanHoldPinLaw" (some 0) with
  accessFlags := 49
  interfaces := #[]
  cf := some (fileOf pool1 8 #[] #[{ accessFlags := 1, nameIndex := 5, descriptorIndex := 6, attributes := #[] }, { accessFlags := 10, nameIndex := 11, descriptorIndex := 12, attributes := #[] }, { accessFlags := 10, nameIndex := 20, descriptorIndex := 21, attributes := #[] }, { accessFlags := 9, nameIndex := 31, descriptorIndex := 32, attributes := #[] }] 49 2 #[] #[])
  fields := #[]
  methods := #[k1m0, k1m1, k1m2, k1m3]
  instanceTypes := #[]
  staticTypes := #[]
  resolved := Array.replicate 37 none
  statics := none }

def pool2 : Array CpInfo := pool [(1, .class_ 2), (0, u "java/io/Serializable"), (0, .class_ 4), (0, u "java/lang/Object")] 2

/-- java/io/Serializable -/
def k2 : Class := { plain "java/io/Serializable" (some 0) with
  accessFlags := 1537
  interfaces := #[]
  cf := some (fileOf pool2 1 #[] #[] 1537 3 #[] #[])
  fields := #[]
  methods := #[]
  instanceTypes := #[]
  staticTypes := #[]
  resolved := Array.replicate 7 none
  statics := none }

def pool3 : Array CpInfo := pool [(1, .class_ 2), (0, u "java/lang/Comparable"), (0, .class_ 4), (0, u "java/lang/Object")] 7

/-- java/lang/Comparable -/
def k3 : Class := { plain "java/lang/Comparable" (some 0) with
  accessFlags := 1537
  interfaces := #[]
  cf := some (fileOf pool3 1 #[] #[] 1537 3 #[] #[])
  fields := #[]
  methods := #[]
  instanceTypes := #[]
  staticTypes := #[]
  resolved := Array.replicate 12 none
  statics := none }

def pool4 : Array CpInfo := pool [(2, .class_ 4), (1, u "java/lang/CharSequence"), (42, .class_ 48), (0, u "java/lang/CharSequence$1CodePointIterator"), (10, .class_ 60), (0, u "java/lang/CharSequence$1CharIterator"), (5, .class_ 67), (0, u "java/lang/Object")] 63

/-- java/lang/CharSequence -/
def k4 : Class := { plain "java/lang/CharSequence" (some 0) with
  accessFlags := 1537
  interfaces := #[]
  cf := some (fileOf pool4 2 #[.nestMembers #[47, 59]] #[] 1537 66 #[] #[])
  fields := #[]
  methods := #[]
  instanceTypes := #[]
  staticTypes := #[]
  resolved := Array.replicate 131 none
  statics := none }

def pool5 : Array CpInfo := pool [(1, .class_ 2), (0, u "java/lang/constant/Constable"), (0, .class_ 4), (0, u "java/lang/Object")] 6

/-- java/lang/constant/Constable -/
def k5 : Class := { plain "java/lang/constant/Constable" (some 0) with
  accessFlags := 1537
  interfaces := #[]
  cf := some (fileOf pool5 1 #[] #[] 1537 3 #[] #[])
  fields := #[]
  methods := #[]
  instanceTypes := #[]
  staticTypes := #[]
  resolved := Array.replicate 11 none
  statics := none }

def pool6 : Array CpInfo := pool [(1, .class_ 2), (0, u "java/lang/constant/ConstantDesc"), (0, .class_ 4), (0, u "java/lang/Object")] 32

/-- java/lang/constant/ConstantDesc -/
def k6 : Class := { plain "java/lang/constant/ConstantDesc" (some 0) with
  accessFlags := 1537
  interfaces := #[]
  cf := some (fileOf pool6 1 #[] #[] 1537 3 #[] #[])
  fields := #[]
  methods := #[]
  instanceTypes := #[]
  staticTypes := #[]
  resolved := Array.replicate 37 none
  statics := none }

def pool7 : Array CpInfo := pool [(1, .methodref 2 3), (0, .class_ 4), (0, .nameAndType 5 6), (0, u "java/lang/Object"), (0, u "<init>"), (0, u "()V"), (0, .string 8), (0, u ""), (0, .fieldref 10 11), (0, .class_ 12), (0, .nameAndType 13 14), (0, u "java/lang/String"), (0, u "value"), (0, u "[B"), (0, .fieldref 10 16), (0, .nameAndType 17 18), (0, u "coder"), (0, u "B"), (2, u "hash"), (0, u "I"), (2, u "hashIsZero"), (0, u "Z"), (0, .methodref 10 28), (0, .nameAndType 5 29), (0, u "([CIILjava/lang/Void;)V"), (8, .fieldref 10 39), (0, .nameAndType 40 26), (0, u "COMPACT_STRINGS"), (1, .class_ 44), (1, u "java/lang/StringUTF16"), (0, u "compress"), (1, .methodref 42 48), (0, .nameAndType 49 50), (0, u "coderFromArrayLen"), (0, u "([BI)B"), (56, .class_ 109), (1, u "java/lang/StringLatin1"), (32, u "()Z"), (34, .methodref 42 178), (0, .nameAndType 45 179), (0, u "([CII)[B"), (154, u "()I"), (0, .methodref 10 336), (0, .nameAndType 17 337), (0, u "()B"), (154, .methodref 10 493), (0, .nameAndType 494 142), (0, u "isLatin1"), (10, .methodref 10 506), (0, .nameAndType 507 334), (0, u "length"), (5, u "checkFromToIndex"), (9, u "checkBoundsBeginEnd"), (0, u "(III)V"), (50, .class_ 576), (0, u "java/lang/CharSequence"), (22, u "CASE_INSENSITIVE_ORDER"), (0, u "Ljava/util/Comparator;"), (32, .methodref 10 634), (0, .nameAndType 635 636), (0, u "indexOf"), (0, u "(II)I"), (0, .methodref 107 638), (0, .nameAndType 635 639), (0, u "([BIII)I"), (0, .methodref 42 638), (124, u "(I)I"), (244, u "([C)V"), (42, .fieldref 1054 1055), (0, .class_ 1056), (0, .nameAndType 1057 1058), (0, u "jdk/internal/util/Preconditions"), (0, u "SIOOBE_FORMATTER"), (0, u "Ljava/util/function/BiFunction;"), (3, .methodref 1054 1063), (0, .nameAndType 513 1064), (0, u "(IIILjava/util/function/BiFunction;)I"), (36, u "serialPersistentFields"), (0, u "[Ljava/io/ObjectStreamField;"), (0, .class_ 1104), (0, u "java/lang/String$CaseInsensitiveComparator"), (1, .class_ 1107), (0, u "java/io/Serializable"), (0, .class_ 1109), (0, u "java/lang/Comparable"), (0, .class_ 1111), (0, u "java/lang/constant/Constable"), (0, .class_ 1113), (0, u "java/lang/constant/ConstantDesc"), (2, u "serialVersionUID"), (0, u "J"), (3, u "REPL"), (0, u "C"), (2, u "LATIN1"), (1, u "UTF16")] 323

def k7m0 : Method := { name := "<init>", desc := "()V", sig := { parameters := [], returnType := none }, accessFlags := 1, code := none }
def k7c1 : Code := { maxStack := 5, maxLocals := 2, code := jdk_42_method_3_code, exceptionTable := #[], attributes := #[] }
def k7m1 : Method := { name := "<init>", desc := "([C)V", sig := { parameters := [(.array .char)], returnType := none }, accessFlags := 1, code := some k7c1 }
def k7c2 : Code := { maxStack := 2, maxLocals := 1, code := jdk_42_method_54_code, exceptionTable := #[], attributes := #[] }
def k7m2 : Method := { name := "length", desc := "()I", sig := { parameters := [], returnType := some .int }, accessFlags := 1, code := some k7c2 }
def k7c3 : Code := { maxStack := 3, maxLocals := 2, code := jdk_42_method_79_code, exceptionTable := #[], attributes := #[] }
def k7m3 : Method := { name := "indexOf", desc := "(I)I", sig := { parameters := [.int], returnType := some .int }, accessFlags := 1, code := some k7c3 }
def k7c4 : Code := { maxStack := 4, maxLocals := 3, code := jdk_42_method_80_code, exceptionTable := #[], attributes := #[] }
def k7m4 : Method := { name := "indexOf", desc := "(II)I", sig := { parameters := [.int, .int], returnType := some .int }, accessFlags := 1, code := some k7c4 }
def k7c5 : Code := { maxStack := 4, maxLocals := 6, code := jdk_42_method_149_code, exceptionTable := #[], attributes := #[] }
def k7m5 : Method := { name := "<init>", desc := "([CIILjava/lang/Void;)V", sig := { parameters := [(.array .char), .int, .int, (.object "java/lang/Void")], returnType := none }, accessFlags := 2, code := some k7c5 }
def k7c6 : Code := { maxStack := 1, maxLocals := 1, code := jdk_42_method_152_code, exceptionTable := #[], attributes := #[] }
def k7m6 : Method := { name := "coder", desc := "()B", sig := { parameters := [], returnType := some .byte }, accessFlags := 0, code := some k7c6 }
def k7c7 : Code := { maxStack := 1, maxLocals := 1, code := jdk_42_method_154_code, exceptionTable := #[], attributes := #[] }
def k7m7 : Method := { name := "isLatin1", desc := "()Z", sig := { parameters := [], returnType := some .boolean }, accessFlags := 0, code := some k7c7 }
def k7c8 : Code := { maxStack := 4, maxLocals := 3, code := jdk_42_method_158_code, exceptionTable := #[], attributes := #[] }
def k7m8 : Method := { name := "checkBoundsBeginEnd", desc := "(III)V", sig := { parameters := [.int, .int, .int], returnType := none }, accessFlags := 8, code := some k7c8 }
/-- java/lang/String -/
def k7 : Class := { plain "java/lang/String" (some 0) with
  accessFlags := 49
  interfaces := #[2, 3, 4, 5, 6]
  cf := some (fileOf pool7 10 #[.nestMembers #[1103]] #[{ accessFlags := 1, nameIndex := 5, descriptorIndex := 6, attributes := #[] }, { accessFlags := 1, nameIndex := 5, descriptorIndex := 1010, attributes := #[] }, { accessFlags := 1, nameIndex := 507, descriptorIndex := 334, attributes := #[] }, { accessFlags := 1, nameIndex := 635, descriptorIndex := 765, attributes := #[] }, { accessFlags := 1, nameIndex := 635, descriptorIndex := 636, attributes := #[] }, { accessFlags := 2, nameIndex := 5, descriptorIndex := 29, attributes := #[] }, { accessFlags := 0, nameIndex := 17, descriptorIndex := 337, attributes := #[] }, { accessFlags := 0, nameIndex := 494, descriptorIndex := 142, attributes := #[] }, { accessFlags := 8, nameIndex := 523, descriptorIndex := 524, attributes := #[] }] 49 2 #[1106, 1108, 575, 1110, 1112] #[{ accessFlags := 18, nameIndex := 13, descriptorIndex := 14, attributes := #[] }, { accessFlags := 18, nameIndex := 17, descriptorIndex := 18, attributes := #[] }, { accessFlags := 2, nameIndex := 21, descriptorIndex := 22, attributes := #[] }, { accessFlags := 2, nameIndex := 25, descriptorIndex := 26, attributes := #[] }, { accessFlags := 26, nameIndex := 1116, descriptorIndex := 1117, attributes := #[] }, { accessFlags := 24, nameIndex := 40, descriptorIndex := 26, attributes := #[] }, { accessFlags := 26, nameIndex := 1101, descriptorIndex := 1102, attributes := #[] }, { accessFlags := 26, nameIndex := 1121, descriptorIndex := 1122, attributes := #[] }, { accessFlags := 25, nameIndex := 599, descriptorIndex := 600, attributes := #[] }, { accessFlags := 24, nameIndex := 1125, descriptorIndex := 18, attributes := #[] }, { accessFlags := 24, nameIndex := 1127, descriptorIndex := 18, attributes := #[] }])
  fields := #[{ name := "value", type := (.array .byte), accessFlags := 18, slot := 0, constantValue := 0 }, { name := "coder", type := .byte, accessFlags := 18, slot := 1, constantValue := 0 }, { name := "hash", type := .int, accessFlags := 2, slot := 2, constantValue := 0 }, { name := "hashIsZero", type := .boolean, accessFlags := 2, slot := 3, constantValue := 0 }, { name := "serialVersionUID", type := .long, accessFlags := 26, slot := 0, constantValue := 0 }, { name := "COMPACT_STRINGS", type := .boolean, accessFlags := 24, slot := 1, constantValue := 0 }, { name := "serialPersistentFields", type := (.array (.object "java/io/ObjectStreamField")), accessFlags := 26, slot := 2, constantValue := 0 }, { name := "REPL", type := .char, accessFlags := 26, slot := 3, constantValue := 0 }, { name := "CASE_INSENSITIVE_ORDER", type := (.object "java/util/Comparator"), accessFlags := 25, slot := 4, constantValue := 0 }, { name := "LATIN1", type := .byte, accessFlags := 24, slot := 5, constantValue := 0 }, { name := "UTF16", type := .byte, accessFlags := 24, slot := 6, constantValue := 0 }]
  methods := #[k7m0, k7m1, k7m2, k7m3, k7m4, k7m5, k7m6, k7m7, k7m8]
  instanceTypes := #[(.array .byte), .byte, .int, .boolean]
  staticTypes := #[.long, .boolean, (.array (.object "java/io/ObjectStreamField")), .char, (.object "java/util/Comparator"), .byte, .byte]
  resolved := Array.replicate 1451 none
  statics := some 0 }

def pool8 : Array CpInfo := pool [(1, .class_ 2), (0, u "java/io/Flushable"), (0, .class_ 4), (0, u "java/lang/Object")] 7

/-- java/io/Flushable -/
def k8 : Class := { plain "java/io/Flushable" (some 0) with
  accessFlags := 1537
  interfaces := #[]
  cf := some (fileOf pool8 1 #[] #[] 1537 3 #[] #[])
  fields := #[]
  methods := #[]
  instanceTypes := #[]
  staticTypes := #[]
  resolved := Array.replicate 12 none
  statics := none }

def pool9 : Array CpInfo := pool [(2, .class_ 4), (1, u "java/lang/Object"), (19, .class_ 26), (1, u "raciocinio/cli/RecordWriter"), (0, u "out"), (0, u "Ljava/io/Writer;"), (9, u "canHold"), (0, u "(Ljava/lang/String;)Z"), (7, .class_ 49), (1, u "java/lang/String"), (10, .methodref 47 61), (0, .nameAndType 62 63), (0, u "indexOf"), (0, u "(I)I"), (15, .class_ 80), (0, u "java/io/Flushable")] 27

def k9c0 : Code := { maxStack := 2, maxLocals := 1, code := prog_3_method_3_code, exceptionTable := #[], attributes := #[] }
def k9m0 : Method := { name := "canHold", desc := "(Ljava/lang/String;)Z", sig := { parameters := [(.object "java/lang/String")], returnType := some .boolean }, accessFlags := 9, code := some k9c0 }
/-- raciocinio/cli/RecordWriter -/
def k9 : Class := { plain "raciocinio/cli/RecordWriter" (some 0) with
  accessFlags := 49
  interfaces := #[8]
  cf := some (fileOf pool9 24 #[] #[{ accessFlags := 9, nameIndex := 38, descriptorIndex := 39, attributes := #[] }] 49 2 #[79] #[{ accessFlags := 18, nameIndex := 27, descriptorIndex := 28, attributes := #[] }])
  fields := #[{ name := "out", type := (.object "java/io/Writer"), accessFlags := 18, slot := 0, constantValue := 0 }]
  methods := #[k9m0]
  instanceTypes := #[(.object "java/io/Writer")]
  staticTypes := #[]
  resolved := Array.replicate 108 none
  statics := none }

def pool10 : Array CpInfo := pool [(4, .class_ 6), (1, u "java/lang/Object"), (0, u "<init>"), (0, u "()V"), (5, .class_ 16), (1, u "java/lang/StringLatin1"), (21, .methodref 39 40), (0, .class_ 41), (0, .nameAndType 42 43), (0, u "java/lang/Math"), (0, u "min"), (0, u "(II)I"), (44, .methodref 14 89), (0, .nameAndType 90 91), (0, u "canEncode"), (0, u "(I)Z"), (0, .methodref 39 93), (0, .nameAndType 94 43), (0, u "max"), (0, .methodref 14 96), (0, .nameAndType 97 98), (0, u "indexOfChar"), (0, u "([BIII)I"), (2, u "indexOf"), (19, u "$assertionsDisabled"), (0, u "Z"), (98, .class_ 223), (1, u "java/lang/StringLatin1$LinesSpliterator"), (166, .class_ 391), (0, u "java/lang/StringLatin1$CharsSpliterator")] 3

def k10m0 : Method := { name := "<init>", desc := "()V", sig := { parameters := [], returnType := none }, accessFlags := 0, code := none }
def k10c1 : Code := { maxStack := 2, maxLocals := 1, code := jdk_43_method_4_code, exceptionTable := #[], attributes := #[] }
def k10m1 : Method := { name := "canEncode", desc := "(I)Z", sig := { parameters := [.int], returnType := some .boolean }, accessFlags := 9, code := some k10c1 }
def k10c2 : Code := { maxStack := 4, maxLocals := 4, code := jdk_43_method_22_code, exceptionTable := #[], attributes := #[] }
def k10m2 : Method := { name := "indexOf", desc := "([BIII)I", sig := { parameters := [(.array .byte), .int, .int, .int], returnType := some .int }, accessFlags := 9, code := some k10c2 }
def k10c3 : Code := { maxStack := 2, maxLocals := 6, code := jdk_43_method_23_code, exceptionTable := #[], attributes := #[] }
def k10m3 : Method := { name := "indexOfChar", desc := "([BIII)I", sig := { parameters := [(.array .byte), .int, .int, .int], returnType := some .int }, accessFlags := 10, code := some k10c3 }
/-- java/lang/StringLatin1 -/
def k10 : Class := { plain "java/lang/StringLatin1" (some 0) with
  accessFlags := 48
  interfaces := #[]
  cf := some (fileOf pool10 14 #[.nestMembers #[390, 221]] #[{ accessFlags := 0, nameIndex := 7, descriptorIndex := 8, attributes := #[] }, { accessFlags := 9, nameIndex := 90, descriptorIndex := 91, attributes := #[] }, { accessFlags := 9, nameIndex := 101, descriptorIndex := 98, attributes := #[] }, { accessFlags := 10, nameIndex := 97, descriptorIndex := 98, attributes := #[] }] 48 4 #[] #[{ accessFlags := 4120, nameIndex := 121, descriptorIndex := 122, attributes := #[] }])
  fields := #[{ name := "$assertionsDisabled", type := .boolean, accessFlags := 4120, slot := 0, constantValue := 0 }]
  methods := #[k10m0, k10m1, k10m2, k10m3]
  instanceTypes := #[]
  staticTypes := #[.boolean]
  resolved := Array.replicate 395 none
  statics := none }

def pool11 : Array CpInfo := pool [(1, .class_ 2), (0, u "java/lang/Math"), (1, .class_ 6), (1, u "java/lang/Object"), (0, u "<init>"), (0, u "()V"), (89, .class_ 100), (1, u "java/lang/Math$RandomNumberGeneratorHolder"), (71, u "negativeZeroFloatBits"), (0, u "J"), (2, u "negativeZeroDoubleBits"), (21, u "max"), (2, u "min"), (43, u "$assertionsDisabled"), (0, u "Z"), (88, u "(II)I"), (2, u "twoToTheDoubleScaleDown"), (0, u "D"), (4, u "twoToTheDoubleScaleUp"), (9, u "E"), (3, u "PI"), (2, u "TAU"), (2, u "DEGREES_TO_RADIANS"), (0, u "RADIANS_TO_DEGREES")] 94

def k11m0 : Method := { name := "<init>", desc := "()V", sig := { parameters := [], returnType := none }, accessFlags := 2, code := none }
def k11c1 : Code := { maxStack := 2, maxLocals := 2, code := jdk_29_method_65_code, exceptionTable := #[], attributes := #[] }
def k11m1 : Method := { name := "max", desc := "(II)I", sig := { parameters := [.int, .int], returnType := some .int }, accessFlags := 9, code := some k11c1 }
def k11c2 : Code := { maxStack := 2, maxLocals := 2, code := jdk_29_method_69_code, exceptionTable := #[], attributes := #[] }
def k11m2 : Method := { name := "min", desc := "(II)I", sig := { parameters := [.int, .int], returnType := some .int }, accessFlags := 9, code := some k11c2 }
/-- java/lang/Math -/
def k11 : Class := { plain "java/lang/Math" (some 0) with
  accessFlags := 49
  interfaces := #[]
  cf := some (fileOf pool11 1 #[.nestMembers #[98]] #[{ accessFlags := 2, nameIndex := 7, descriptorIndex := 8, attributes := #[] }, { accessFlags := 9, nameIndex := 198, descriptorIndex := 335, attributes := #[] }, { accessFlags := 9, nameIndex := 201, descriptorIndex := 335, attributes := #[] }] 49 4 #[] #[{ accessFlags := 25, nameIndex := 354, descriptorIndex := 339, attributes := #[] }, { accessFlags := 25, nameIndex := 358, descriptorIndex := 339, attributes := #[] }, { accessFlags := 25, nameIndex := 361, descriptorIndex := 339, attributes := #[] }, { accessFlags := 26, nameIndex := 364, descriptorIndex := 339, attributes := #[] }, { accessFlags := 26, nameIndex := 365, descriptorIndex := 339, attributes := #[] }, { accessFlags := 26, nameIndex := 172, descriptorIndex := 173, attributes := #[] }, { accessFlags := 26, nameIndex := 176, descriptorIndex := 173, attributes := #[] }, { accessFlags := 8, nameIndex := 344, descriptorIndex := 339, attributes := #[] }, { accessFlags := 8, nameIndex := 338, descriptorIndex := 339, attributes := #[] }, { accessFlags := 4120, nameIndex := 245, descriptorIndex := 246, attributes := #[] }])
  fields := #[{ name := "E", type := .double, accessFlags := 25, slot := 0, constantValue := 0 }, { name := "PI", type := .double, accessFlags := 25, slot := 1, constantValue := 0 }, { name := "TAU", type := .double, accessFlags := 25, slot := 2, constantValue := 0 }, { name := "DEGREES_TO_RADIANS", type := .double, accessFlags := 26, slot := 3, constantValue := 0 }, { name := "RADIANS_TO_DEGREES", type := .double, accessFlags := 26, slot := 4, constantValue := 0 }, { name := "negativeZeroFloatBits", type := .long, accessFlags := 26, slot := 5, constantValue := 0 }, { name := "negativeZeroDoubleBits", type := .long, accessFlags := 26, slot := 6, constantValue := 0 }, { name := "twoToTheDoubleScaleUp", type := .double, accessFlags := 8, slot := 7, constantValue := 0 }, { name := "twoToTheDoubleScaleDown", type := .double, accessFlags := 8, slot := 8, constantValue := 0 }, { name := "$assertionsDisabled", type := .boolean, accessFlags := 4120, slot := 9, constantValue := 0 }]
  methods := #[k11m0, k11m1, k11m2]
  instanceTypes := #[]
  staticTypes := #[.double, .double, .double, .double, .double, .long, .long, .double, .double, .boolean]
  resolved := Array.replicate 460 none
  statics := none }

def pool12 : Array CpInfo := pool [(3, .class_ 4), (0, u "java/lang/String"), (1, .class_ 8), (1, u "java/lang/Object"), (0, u "<init>"), (0, u "()V"), (0, .methodref 12 13), (0, .class_ 14), (0, .nameAndType 15 16), (0, u "java/lang/StringUTF16"), (0, u "newBytesLength"), (0, u "(I)I"), (3, .integer 1073741823), (23, .fieldref 12 45), (0, .nameAndType 46 47), (0, u "$assertionsDisabled"), (0, u "Z"), (0, .methodref 12 49), (0, .nameAndType 50 51), (0, u "length"), (0, u "([B)I"), (7, .fieldref 12 60), (0, .nameAndType 61 62), (0, u "HI_BYTE_SHIFT"), (0, u "I"), (0, .fieldref 12 64), (0, .nameAndType 65 62), (0, u "LO_BYTE_SHIFT"), (5, .methodref 12 72), (0, .nameAndType 73 74), (0, u "getChar"), (0, u "([BI)C"), (21, .methodref 12 97), (0, .nameAndType 98 99), (0, u "checkBoundsBeginEnd"), (0, u "(II[B)V"), (7, .methodref 12 108), (0, .nameAndType 109 110), (0, u "newBytesFor"), (0, u "(I)[B"), (0, .methodref 12 112), (0, .nameAndType 113 114), (0, u "putChar"), (0, u "([BII)V"), (0, .methodref 12 116), (0, .nameAndType 117 118), (0, u "compress"), (0, u "([CI[BII)I"), (0, .methodref 12 120), (0, .nameAndType 121 122), (0, u "toBytes"), (0, u "([CII)[B"), (60, .methodref 184 185), (0, .class_ 186), (0, .nameAndType 187 188), (0, u "java/lang/Math"), (0, u "min"), (0, u "(II)I"), (35, .methodref 184 225), (0, .nameAndType 226 188), (0, u "max"), (0, .integer 65536), (0, .methodref 12 229), (0, .nameAndType 230 231), (0, u "indexOfChar"), (0, u "([BIII)I"), (9, .methodref 3 242), (0, .nameAndType 98 243), (0, u "(III)V"), (0, .methodref 12 245), (0, .nameAndType 246 231), (0, u "indexOfCharUnsafe"), (14, u "coderFromArrayLen"), (0, u "([BI)B"), (5, u "indexOf"), (100, .class_ 371), (1, u "java/lang/StringUTF16$LinesSpliterator"), (58, u "MAX_LENGTH"), (196, .class_ 628), (0, u "java/lang/StringUTF16$CodePointsSpliterator"), (0, .class_ 630), (0, u "java/lang/StringUTF16$CharsSpliterator")] 4

def k12m0 : Method := { name := "<init>", desc := "()V", sig := { parameters := [], returnType := none }, accessFlags := 0, code := none }
def k12c1 : Code := { maxStack := 1, maxLocals := 1, code := jdk_52_method_2_code, exceptionTable := #[], attributes := #[] }
def k12m1 : Method := { name := "newBytesFor", desc := "(I)[B", sig := { parameters := [.int], returnType := some (.array .byte) }, accessFlags := 9, code := some k12c1 }
def k12c2 : Code := { maxStack := 4, maxLocals := 1, code := jdk_52_method_3_code, exceptionTable := #[], attributes := #[] }
def k12m2 : Method := { name := "newBytesLength", desc := "(I)I", sig := { parameters := [.int], returnType := some .int }, accessFlags := 9, code := some k12c2 }
def k12c3 : Code := { maxStack := 4, maxLocals := 3, code := jdk_52_method_4_code, exceptionTable := #[], attributes := #[] }
def k12m3 : Method := { name := "putChar", desc := "([BII)V", sig := { parameters := [(.array .byte), .int, .int], returnType := none }, accessFlags := 8, code := some k12c3 }
def k12c4 : Code := { maxStack := 3, maxLocals := 2, code := jdk_52_method_5_code, exceptionTable := #[], attributes := #[] }
def k12m4 : Method := { name := "getChar", desc := "([BI)C", sig := { parameters := [(.array .byte), .int], returnType := some .char }, accessFlags := 8, code := some k12c4 }
def k12c5 : Code := { maxStack := 2, maxLocals := 1, code := jdk_52_method_6_code, exceptionTable := #[], attributes := #[] }
def k12m5 : Method := { name := "length", desc := "([B)I", sig := { parameters := [(.array .byte)], returnType := some .int }, accessFlags := 9, code := some k12c5 }
def k12c6 : Code := { maxStack := 4, maxLocals := 5, code := jdk_52_method_14_code, exceptionTable := #[], attributes := #[] }
def k12m6 : Method := { name := "toBytes", desc := "([CII)[B", sig := { parameters := [(.array .char), .int, .int], returnType := some (.array .byte) }, accessFlags := 9, code := some k12c6 }
def k12c7 : Code := { maxStack := 2, maxLocals := 2, code := jdk_52_method_15_code, exceptionTable := #[], attributes := #[] }
def k12m7 : Method := { name := "coderFromArrayLen", desc := "([BI)B", sig := { parameters := [(.array .byte), .int], returnType := some .byte }, accessFlags := 8, code := some k12c7 }
def k12c8 : Code := { maxStack := 5, maxLocals := 6, code := jdk_52_method_16_code, exceptionTable := #[], attributes := #[] }
def k12m8 : Method := { name := "compress", desc := "([CII)[B", sig := { parameters := [(.array .char), .int, .int], returnType := some (.array .byte) }, accessFlags := 9, code := some k12c8 }
def k12c9 : Code := { maxStack := 3, maxLocals := 7, code := jdk_52_method_21_code, exceptionTable := #[], attributes := #[] }
def k12m9 : Method := { name := "compress", desc := "([CI[BII)I", sig := { parameters := [(.array .char), .int, (.array .byte), .int, .int], returnType := some .int }, accessFlags := 9, code := some k12c9 }
def k12c10 : Code := { maxStack := 4, maxLocals := 4, code := jdk_52_method_40_code, exceptionTable := #[], attributes := #[] }
def k12m10 : Method := { name := "indexOf", desc := "([BIII)I", sig := { parameters := [(.array .byte), .int, .int, .int], returnType := some .int }, accessFlags := 9, code := some k12c10 }
def k12c11 : Code := { maxStack := 4, maxLocals := 4, code := jdk_52_method_47_code, exceptionTable := #[], attributes := #[] }
def k12m11 : Method := { name := "indexOfChar", desc := "([BIII)I", sig := { parameters := [(.array .byte), .int, .int, .int], returnType := some .int }, accessFlags := 10, code := some k12c11 }
def k12c12 : Code := { maxStack := 2, maxLocals := 5, code := jdk_52_method_48_code, exceptionTable := #[], attributes := #[] }
def k12m12 : Method := { name := "indexOfCharUnsafe", desc := "([BIII)I", sig := { parameters := [(.array .byte), .int, .int, .int], returnType := some .int }, accessFlags := 10, code := some k12c12 }
def k12c13 : Code := { maxStack := 3, maxLocals := 3, code := jdk_52_method_93_code, exceptionTable := #[], attributes := #[] }
def k12m13 : Method := { name := "checkBoundsBeginEnd", desc := "(II[B)V", sig := { parameters := [.int, .int, (.array .byte)], returnType := none }, accessFlags := 9, code := some k12c13 }
/-- java/lang/StringUTF16 -/
def k12 : Class := { plain "java/lang/StringUTF16" (some 0) with
  accessFlags := 48
  interfaces := #[]
  cf := some (fileOf pool12 12 #[.nestMembers #[627, 629, 369]] #[{ accessFlags := 0, nameIndex := 9, descriptorIndex := 10, attributes := #[] }, { accessFlags := 9, nameIndex := 109, descriptorIndex := 110, attributes := #[] }, { accessFlags := 9, nameIndex := 15, descriptorIndex := 16, attributes := #[] }, { accessFlags := 8, nameIndex := 113, descriptorIndex := 114, attributes := #[] }, { accessFlags := 8, nameIndex := 73, descriptorIndex := 74, attributes := #[] }, { accessFlags := 9, nameIndex := 50, descriptorIndex := 51, attributes := #[] }, { accessFlags := 9, nameIndex := 121, descriptorIndex := 122, attributes := #[] }, { accessFlags := 8, nameIndex := 261, descriptorIndex := 262, attributes := #[] }, { accessFlags := 9, nameIndex := 117, descriptorIndex := 122, attributes := #[] }, { accessFlags := 9, nameIndex := 117, descriptorIndex := 118, attributes := #[] }, { accessFlags := 9, nameIndex := 268, descriptorIndex := 231, attributes := #[] }, { accessFlags := 10, nameIndex := 230, descriptorIndex := 231, attributes := #[] }, { accessFlags := 10, nameIndex := 246, descriptorIndex := 231, attributes := #[] }, { accessFlags := 9, nameIndex := 98, descriptorIndex := 99, attributes := #[] }] 48 6 #[] #[{ accessFlags := 26, nameIndex := 61, descriptorIndex := 62, attributes := #[] }, { accessFlags := 26, nameIndex := 65, descriptorIndex := 62, attributes := #[] }, { accessFlags := 24, nameIndex := 430, descriptorIndex := 62, attributes := #[] }, { accessFlags := 4120, nameIndex := 46, descriptorIndex := 47, attributes := #[] }])
  fields := #[{ name := "HI_BYTE_SHIFT", type := .int, accessFlags := 26, slot := 0, constantValue := 0 }, { name := "LO_BYTE_SHIFT", type := .int, accessFlags := 26, slot := 1, constantValue := 0 }, { name := "MAX_LENGTH", type := .int, accessFlags := 24, slot := 2, constantValue := 0 }, { name := "$assertionsDisabled", type := .boolean, accessFlags := 4120, slot := 3, constantValue := 0 }]
  methods := #[k12m0, k12m1, k12m2, k12m3, k12m4, k12m5, k12m6, k12m7, k12m8, k12m9, k12m10, k12m11, k12m12, k12m13]
  instanceTypes := #[]
  staticTypes := #[.int, .int, .int, .boolean]
  resolved := Array.replicate 635 none
  statics := some 1 }

def pool13 : Array CpInfo := pool [(2, .class_ 4), (1, u "java/lang/Object"), (0, u "<init>"), (0, u "()V"), (17, .class_ 26), (1, u "jdk/internal/util/Preconditions"), (20, u "checkFromToIndex"), (7, .class_ 56), (0, u "jdk/internal/util/Preconditions$4"), (57, .class_ 115), (0, u "jdk/internal/util/Preconditions$1"), (7, u "SIOOBE_FORMATTER"), (0, u "Ljava/util/function/BiFunction;"), (0, .class_ 126), (0, u "jdk/internal/util/Preconditions$2"), (3, u "AIOOBE_FORMATTER"), (0, .class_ 132), (0, u "jdk/internal/util/Preconditions$3"), (3, u "IOOBE_FORMATTER"), (46, u "(IIILjava/util/function/BiFunction;)I")] 10

def k13m0 : Method := { name := "<init>", desc := "()V", sig := { parameters := [], returnType := none }, accessFlags := 1, code := none }
def k13c1 : Code := { maxStack := 4, maxLocals := 4, code := jdk_41_method_12_code, exceptionTable := #[], attributes := #[] }
def k13m1 : Method := { name := "checkFromToIndex", desc := "(IIILjava/util/function/BiFunction;)I", sig := { parameters := [.int, .int, .int, (.object "java/util/function/BiFunction")], returnType := some .int }, accessFlags := 9, code := some k13c1 }
/-- jdk/internal/util/Preconditions -/
def k13 : Class := { plain "jdk/internal/util/Preconditions" (some 0) with
  accessFlags := 33
  interfaces := #[]
  cf := some (fileOf pool13 24 #[.nestMembers #[55, 131, 125, 114]] #[{ accessFlags := 1, nameIndex := 5, descriptorIndex := 6, attributes := #[] }, { accessFlags := 9, nameIndex := 47, descriptorIndex := 183, attributes := #[] }] 33 2 #[] #[{ accessFlags := 25, nameIndex := 123, descriptorIndex := 124, attributes := #[] }, { accessFlags := 25, nameIndex := 130, descriptorIndex := 124, attributes := #[] }, { accessFlags := 25, nameIndex := 136, descriptorIndex := 124, attributes := #[] }])
  fields := #[{ name := "SIOOBE_FORMATTER", type := (.object "java/util/function/BiFunction"), accessFlags := 25, slot := 0, constantValue := 0 }, { name := "AIOOBE_FORMATTER", type := (.object "java/util/function/BiFunction"), accessFlags := 25, slot := 1, constantValue := 0 }, { name := "IOOBE_FORMATTER", type := (.object "java/util/function/BiFunction"), accessFlags := 25, slot := 2, constantValue := 0 }]
  methods := #[k13m0, k13m1]
  instanceTypes := #[]
  staticTypes := #[(.object "java/util/function/BiFunction"), (.object "java/util/function/BiFunction"), (.object "java/util/function/BiFunction")]
  resolved := Array.replicate 194 none
  statics := some 2 }

def pool14 : Array CpInfo := pool [(9, u "<init>"), (6, .class_ 18), (1, u "java/lang/Object"), (0, u "()V"), (1, .class_ 23), (1, u "jdk/internal/util/ArraysSupport"), (0, u "LOG2_ARRAY_LONG_INDEX_SCALE"), (0, u "I"), (2, u "U"), (0, u "Ljdk/internal/misc/Unsafe;"), (8, u "BIG_ENDIAN"), (0, u "Z"), (8, u "LOG2_BYTE_BIT_SIZE"), (4, u "LOG2_ARRAY_INT_INDEX_SCALE"), (54, u "JLA"), (0, u "Ljdk/internal/access/JavaLangAccess;"), (11, u "LOG2_ARRAY_BOOLEAN_INDEX_SCALE"), (9, u "LOG2_ARRAY_BYTE_INDEX_SCALE"), (5, u "LOG2_ARRAY_CHAR_INDEX_SCALE"), (5, u "LOG2_ARRAY_SHORT_INDEX_SCALE"), (18, u "LOG2_ARRAY_FLOAT_INDEX_SCALE"), (24, u "LOG2_ARRAY_DOUBLE_INDEX_SCALE"), (89, u "T_BOOLEAN"), (2, u "T_CHAR"), (1, u "T_FLOAT"), (1, u "T_DOUBLE"), (1, u "T_BYTE"), (1, u "T_SHORT"), (1, u "T_INT"), (1, u "T_LONG"), (1, u "SOFT_MAX_ARRAY_LENGTH")] 83

def k14m0 : Method := { name := "<init>", desc := "()V", sig := { parameters := [], returnType := none }, accessFlags := 2, code := none }
/-- jdk/internal/util/ArraysSupport -/
def k14 : Class := { plain "jdk/internal/util/ArraysSupport" (some 0) with
  accessFlags := 33
  interfaces := #[]
  cf := some (fileOf pool14 21 #[] #[{ accessFlags := 2, nameIndex := 9, descriptorIndex := 19, attributes := #[] }] 33 16 #[] #[{ accessFlags := 24, nameIndex := 28, descriptorIndex := 29, attributes := #[] }, { accessFlags := 26, nameIndex := 38, descriptorIndex := 39, attributes := #[] }, { accessFlags := 25, nameIndex := 121, descriptorIndex := 25, attributes := #[] }, { accessFlags := 25, nameIndex := 131, descriptorIndex := 25, attributes := #[] }, { accessFlags := 25, nameIndex := 137, descriptorIndex := 25, attributes := #[] }, { accessFlags := 25, nameIndex := 143, descriptorIndex := 25, attributes := #[] }, { accessFlags := 25, nameIndex := 53, descriptorIndex := 25, attributes := #[] }, { accessFlags := 25, nameIndex := 24, descriptorIndex := 25, attributes := #[] }, { accessFlags := 25, nameIndex := 162, descriptorIndex := 25, attributes := #[] }, { accessFlags := 25, nameIndex := 187, descriptorIndex := 25, attributes := #[] }, { accessFlags := 26, nameIndex := 48, descriptorIndex := 25, attributes := #[] }, { accessFlags := 25, nameIndex := 277, descriptorIndex := 25, attributes := #[] }, { accessFlags := 25, nameIndex := 280, descriptorIndex := 25, attributes := #[] }, { accessFlags := 25, nameIndex := 282, descriptorIndex := 25, attributes := #[] }, { accessFlags := 25, nameIndex := 284, descriptorIndex := 25, attributes := #[] }, { accessFlags := 25, nameIndex := 286, descriptorIndex := 25, attributes := #[] }, { accessFlags := 25, nameIndex := 288, descriptorIndex := 25, attributes := #[] }, { accessFlags := 25, nameIndex := 290, descriptorIndex := 25, attributes := #[] }, { accessFlags := 25, nameIndex := 292, descriptorIndex := 25, attributes := #[] }, { accessFlags := 26, nameIndex := 108, descriptorIndex := 109, attributes := #[] }, { accessFlags := 25, nameIndex := 294, descriptorIndex := 25, attributes := #[] }])
  fields := #[{ name := "U", type := (.object "jdk/internal/misc/Unsafe"), accessFlags := 24, slot := 0, constantValue := 0 }, { name := "BIG_ENDIAN", type := .boolean, accessFlags := 26, slot := 1, constantValue := 0 }, { name := "LOG2_ARRAY_BOOLEAN_INDEX_SCALE", type := .int, accessFlags := 25, slot := 2, constantValue := 0 }, { name := "LOG2_ARRAY_BYTE_INDEX_SCALE", type := .int, accessFlags := 25, slot := 3, constantValue := 0 }, { name := "LOG2_ARRAY_CHAR_INDEX_SCALE", type := .int, accessFlags := 25, slot := 4, constantValue := 0 }, { name := "LOG2_ARRAY_SHORT_INDEX_SCALE", type := .int, accessFlags := 25, slot := 5, constantValue := 0 }, { name := "LOG2_ARRAY_INT_INDEX_SCALE", type := .int, accessFlags := 25, slot := 6, constantValue := 0 }, { name := "LOG2_ARRAY_LONG_INDEX_SCALE", type := .int, accessFlags := 25, slot := 7, constantValue := 0 }, { name := "LOG2_ARRAY_FLOAT_INDEX_SCALE", type := .int, accessFlags := 25, slot := 8, constantValue := 0 }, { name := "LOG2_ARRAY_DOUBLE_INDEX_SCALE", type := .int, accessFlags := 25, slot := 9, constantValue := 0 }, { name := "LOG2_BYTE_BIT_SIZE", type := .int, accessFlags := 26, slot := 10, constantValue := 0 }, { name := "T_BOOLEAN", type := .int, accessFlags := 25, slot := 11, constantValue := 0 }, { name := "T_CHAR", type := .int, accessFlags := 25, slot := 12, constantValue := 0 }, { name := "T_FLOAT", type := .int, accessFlags := 25, slot := 13, constantValue := 0 }, { name := "T_DOUBLE", type := .int, accessFlags := 25, slot := 14, constantValue := 0 }, { name := "T_BYTE", type := .int, accessFlags := 25, slot := 15, constantValue := 0 }, { name := "T_SHORT", type := .int, accessFlags := 25, slot := 16, constantValue := 0 }, { name := "T_INT", type := .int, accessFlags := 25, slot := 17, constantValue := 0 }, { name := "T_LONG", type := .int, accessFlags := 25, slot := 18, constantValue := 0 }, { name := "JLA", type := (.object "jdk/internal/access/JavaLangAccess"), accessFlags := 26, slot := 19, constantValue := 0 }, { name := "SOFT_MAX_ARRAY_LENGTH", type := .int, accessFlags := 25, slot := 20, constantValue := 0 }]
  methods := #[k14m0]
  instanceTypes := #[]
  staticTypes := #[(.object "jdk/internal/misc/Unsafe"), .boolean, .int, .int, .int, .int, .int, .int, .int, .int, .int, .int, .int, .int, .int, .int, .int, .int, .int, (.object "jdk/internal/access/JavaLangAccess"), .int]
  resolved := Array.replicate 378 none
  statics := none }

def pool15 : Array CpInfo := pool [(1, u "java/lang/Cloneable"), (0, .class_ 1), (0, u "java/lang/Object"), (0, .class_ 3)] 3

/-- java/lang/Cloneable -/
def k15 : Class := { plain "java/lang/Cloneable" (some 0) with
  accessFlags := 1537
  interfaces := #[]
  cf := some (fileOf pool15 2 #[] #[] 1537 4 #[] #[])
  fields := #[]
  methods := #[]
  instanceTypes := #[]
  staticTypes := #[]
  resolved := Array.replicate 8 none
  statics := none }

/-- the primitive byte -/
def k16 : Class := { plain "byte" none with kind := .primitive 'B', accessFlags := 0x411 }
/-- [B -/
def k17 : Class := { plain "[B" (some 0) with kind := .array 16 .byte, interfaces := #[15, 2], accessFlags := 1041 }

/-- the primitive char -/
def k18 : Class := { plain "char" none with kind := .primitive 'C', accessFlags := 0x411 }
/-- [C -/
def k19 : Class := { plain "[C" (some 0) with kind := .array 18 .char, interfaces := #[15, 2], accessFlags := 1041 }

/-- the primitive int -/
def k20 : Class := { plain "int" none with kind := .primitive 'I', accessFlags := 0x411 }
/-- [I -/
def k21 : Class := { plain "[I" (some 0) with kind := .array 20 .int, interfaces := #[15, 2], accessFlags := 1041 }

def heap : Heap := #[{ cls := 7, slots := #[.long 0, .int 1, .null, .int 0, .null, .int 0, .int 0], vm := .statics 7 },
  { cls := 12, slots := #[.int 0, .int 8, .int 0, .int 1], vm := .statics 12 },
  { cls := 13, slots := #[.null, .null, .null], vm := .statics 13 }]
def classes : Array Class := #[k0, k1, k2, k3, k4, k5, k6, k7, k8, k9, k10, k11, k12, k13, k14, k15, k16, k17, k18, k19, k20, k21]
def interned : List (Array UInt16 × Addr) := []
def slotsUsed : Nat := 14
def theMethod : MethodId := ⟨1, 3⟩
def args0 : Array Value := #[.int 4, .int 7, .int 8, .int 9]
def aboutOver (below : List Frame) : State where
  vm := { classes := classes, interned := interned.toArray }
  heap := heap
  slotsUsed := slotsUsed
  threads := #[{ frames := .invoking theMethod args0 :: below }]
def below0 : List Frame := [.native { method := ⟨0, 0⟩, args := #[] }]
def about1 : State := aboutOver below0
def p0 : Program := .bare "" "" ""
def e0 : Env := launch0.env 0 0 0
theorem w_frames : about1.frames = Frame.invoking theMethod args0 :: below0 := rfl
set_option maxRecDepth 65536 in
theorem w_args : argsFit about1.vm theMethod args0 = true := by decide +kernel
set_option maxRecDepth 65536 in
theorem w_heap : heapFits about1 = true := by decide +kernel
set_option maxRecDepth 65536 in
theorem w_runnable : about1.curStatus? = some .runnable := by decide +kernel
set_option maxRecDepth 65536 in
theorem w_alone : about1.alone = true := by decide +kernel
set_option maxRecDepth 65536 in
theorem w_named : about1.methodNamed? x = some theMethod := by decide +kernel
set_option maxRecDepth 65536 in
theorem w_hears : about1.hears theMethod below0 = true := by decide +kernel
set_option maxRecDepth 65536 in
theorem w_ripe : about1.ripe theMethod args0 below0 = true := by decide +kernel
theorem w_running : about1.status = .running := rfl
set_option maxRecDepth 65536 in
theorem w_room : about1.hasRoom e0.platform room_1 = true :=
  launch0.hasRoom_least _ room_1 (by decide +kernel) (by decide +kernel) (by decide +kernel) (by decide +kernel) (by decide +kernel) (by decide +kernel)
theorem allAtoms_all (ts : List Jvm.Cond) (a : Array Jvm.Value) (st : Jvm.State) : (allAtoms ts).before a st = ts.all (fun c => c.before a st) := by
  induction ts with
  | nil => rfl
  | cons c t ih =>
    show (Jvm.Cond.and c (allAtoms t)).before a st = _
    rw [Jvm.Cond.before_and, ih, List.all_cons]
def words1 : List Jvm.Cond := Jvm.Cond.code x code maxLocals ret :: tables_1
/-- a 'code' word, met by the world's own term for the bytes: nothing is compared byte by byte -/
theorem code_word {y : MethodName} {bytes : ByteArray} {mx : Nat} {rt : Option FieldType} {a : Array Value} {s : State} {m : MethodId} {meth : Method} {c : Code} (h1 : s.methodNamed? y = some m) (h2 : s.vm.method? m = some meth) (h3 : meth.code = some c) (h4 : c.code = bytes)
    (h5 : (c.maxLocals == mx && c.exceptionTable.isEmpty && decide (c.maxStack ≤ mostOperands) && decide (meth.sig.returnType = rt) && !meth.locks && decide (parseMethodDescriptor y.desc = some meth.sig)) = true) : (Jvm.Cond.code y bytes mx rt).before a s = true := by
  simp only [Bool.and_eq_true, beq_iff_eq, Bool.not_eq_true', decide_eq_true_eq] at h5
  obtain ⟨⟨⟨⟨⟨g1, g2⟩, g3⟩, g4⟩, g5⟩, g6⟩ := h5
  simp [Cond.before, Cond.holds, Cond.value, h1, h2, h3, h4, g1, g2, g3, g4, g5, g6]
def isCode : Jvm.Cond → Bool
  | .code _ _ _ _ => true
  | _ => false
theorem all_split {L : List Jvm.Cond} {P : Jvm.Cond → Bool} (h1 : L.all (fun c => isCode c || P c) = true) (h2 : ∀ c ∈ L.filter isCode, P c = true) : L.all P = true := by
  refine List.all_eq_true.mpr fun c hc => ?_
  have h := List.all_eq_true.mp h1 c hc
  rcases Bool.eq_false_or_eq_true (isCode c) with hi | hi
  · exact h2 c (List.mem_filter.mpr ⟨hc, hi⟩)
  · simpa [hi] using h
set_option maxRecDepth 65536 in
theorem w_c0 : (Jvm.Cond.code x code maxLocals ret).before args0 about1 = true := code_word (m := ⟨1, 3⟩) (meth := k1m3) (c := k1c3) (by decide +kernel) rfl rfl rfl (by decide +kernel)
set_option maxRecDepth 65536 in
theorem w_c1 : (Jvm.Cond.code ({ cls := "raciocinio/cli/RecordWriterCanHoldPinLaw", name := "draw", desc := "(I)C" } : Jvm.MethodName) method_2_code (2 : Nat) (Option.some Jvm.ClassFile.FieldType.char)).before args0 about1 = true := code_word (m := ⟨1, 1⟩) (meth := k1m1) (c := k1c1) (by decide +kernel) rfl rfl rfl (by decide +kernel)
set_option maxRecDepth 65536 in
theorem w_c2 : (Jvm.Cond.code ({ cls := "java/lang/String", name := "<init>", desc := "([C)V" } : Jvm.MethodName) jdk_42_method_3_code (2 : Nat) (Option.none : Option Jvm.ClassFile.FieldType)).before args0 about1 = true := code_word (m := ⟨7, 1⟩) (meth := k7m1) (c := k7c1) (by decide +kernel) rfl rfl rfl (by decide +kernel)
set_option maxRecDepth 65536 in
theorem w_c3 : (Jvm.Cond.code ({ cls := "java/lang/String", name := "<init>", desc := "([CIILjava/lang/Void;)V" } : Jvm.MethodName) jdk_42_method_149_code (6 : Nat) (Option.none : Option Jvm.ClassFile.FieldType)).before args0 about1 = true := code_word (m := ⟨7, 5⟩) (meth := k7m5) (c := k7c5) (by decide +kernel) rfl rfl rfl (by decide +kernel)
set_option maxRecDepth 65536 in
theorem w_c4 : (Jvm.Cond.code ({ cls := "java/lang/Object", name := "<init>", desc := "()V" } : Jvm.MethodName) object_method_1_code (1 : Nat) (Option.none : Option Jvm.ClassFile.FieldType)).before args0 about1 = true := code_word (m := ⟨0, 0⟩) (meth := k0m0) (c := k0c0) (by decide +kernel) rfl rfl rfl (by decide +kernel)
set_option maxRecDepth 65536 in
theorem w_c5 : (Jvm.Cond.code ({ cls := "raciocinio/cli/RecordWriter", name := "canHold", desc := "(Ljava/lang/String;)Z" } : Jvm.MethodName) prog_3_method_3_code (1 : Nat) (Option.some Jvm.ClassFile.FieldType.boolean)).before args0 about1 = true := code_word (m := ⟨9, 0⟩) (meth := k9m0) (c := k9c0) (by decide +kernel) rfl rfl rfl (by decide +kernel)
set_option maxRecDepth 65536 in
theorem w_c6 : (Jvm.Cond.code ({ cls := "java/lang/String", name := "indexOf", desc := "(I)I" } : Jvm.MethodName) jdk_42_method_79_code (2 : Nat) (Option.some Jvm.ClassFile.FieldType.int)).before args0 about1 = true := code_word (m := ⟨7, 3⟩) (meth := k7m3) (c := k7c3) (by decide +kernel) rfl rfl rfl (by decide +kernel)
set_option maxRecDepth 65536 in
theorem w_c7 : (Jvm.Cond.code ({ cls := "java/lang/String", name := "indexOf", desc := "(II)I" } : Jvm.MethodName) jdk_42_method_80_code (3 : Nat) (Option.some Jvm.ClassFile.FieldType.int)).before args0 about1 = true := code_word (m := ⟨7, 4⟩) (meth := k7m4) (c := k7c4) (by decide +kernel) rfl rfl rfl (by decide +kernel)
set_option maxRecDepth 65536 in
theorem w_c8 : (Jvm.Cond.code ({ cls := "java/lang/String", name := "isLatin1", desc := "()Z" } : Jvm.MethodName) jdk_42_method_154_code (1 : Nat) (Option.some Jvm.ClassFile.FieldType.boolean)).before args0 about1 = true := code_word (m := ⟨7, 7⟩) (meth := k7m7) (c := k7c7) (by decide +kernel) rfl rfl rfl (by decide +kernel)
set_option maxRecDepth 65536 in
theorem w_c9 : (Jvm.Cond.code ({ cls := "java/lang/String", name := "length", desc := "()I" } : Jvm.MethodName) jdk_42_method_54_code (1 : Nat) (Option.some Jvm.ClassFile.FieldType.int)).before args0 about1 = true := code_word (m := ⟨7, 2⟩) (meth := k7m2) (c := k7c2) (by decide +kernel) rfl rfl rfl (by decide +kernel)
set_option maxRecDepth 65536 in
theorem w_c10 : (Jvm.Cond.code ({ cls := "java/lang/String", name := "coder", desc := "()B" } : Jvm.MethodName) jdk_42_method_152_code (1 : Nat) (Option.some Jvm.ClassFile.FieldType.byte)).before args0 about1 = true := code_word (m := ⟨7, 6⟩) (meth := k7m6) (c := k7c6) (by decide +kernel) rfl rfl rfl (by decide +kernel)
set_option maxRecDepth 65536 in
theorem w_c11 : (Jvm.Cond.code ({ cls := "java/lang/StringLatin1", name := "indexOf", desc := "([BIII)I" } : Jvm.MethodName) jdk_43_method_22_code (4 : Nat) (Option.some Jvm.ClassFile.FieldType.int)).before args0 about1 = true := code_word (m := ⟨10, 2⟩) (meth := k10m2) (c := k10c2) (by decide +kernel) rfl rfl rfl (by decide +kernel)
set_option maxRecDepth 65536 in
theorem w_c12 : (Jvm.Cond.code ({ cls := "java/lang/StringLatin1", name := "canEncode", desc := "(I)Z" } : Jvm.MethodName) jdk_43_method_4_code (1 : Nat) (Option.some Jvm.ClassFile.FieldType.boolean)).before args0 about1 = true := code_word (m := ⟨10, 1⟩) (meth := k10m1) (c := k10c1) (by decide +kernel) rfl rfl rfl (by decide +kernel)
set_option maxRecDepth 65536 in
theorem w_c13 : (Jvm.Cond.code ({ cls := "java/lang/Math", name := "max", desc := "(II)I" } : Jvm.MethodName) jdk_29_method_65_code (2 : Nat) (Option.some Jvm.ClassFile.FieldType.int)).before args0 about1 = true := code_word (m := ⟨11, 1⟩) (meth := k11m1) (c := k11c1) (by decide +kernel) rfl rfl rfl (by decide +kernel)
set_option maxRecDepth 65536 in
theorem w_c14 : (Jvm.Cond.code ({ cls := "java/lang/Math", name := "min", desc := "(II)I" } : Jvm.MethodName) jdk_29_method_69_code (2 : Nat) (Option.some Jvm.ClassFile.FieldType.int)).before args0 about1 = true := code_word (m := ⟨11, 2⟩) (meth := k11m2) (c := k11c2) (by decide +kernel) rfl rfl rfl (by decide +kernel)
set_option maxRecDepth 65536 in
theorem w_c15 : (Jvm.Cond.code ({ cls := "java/lang/StringUTF16", name := "compress", desc := "([CII)[B" } : Jvm.MethodName) jdk_52_method_16_code (6 : Nat) (Option.some (Jvm.ClassFile.FieldType.array Jvm.ClassFile.FieldType.byte))).before args0 about1 = true := code_word (m := ⟨12, 8⟩) (meth := k12m8) (c := k12c8) (by decide +kernel) rfl rfl rfl (by decide +kernel)
set_option maxRecDepth 65536 in
theorem w_c16 : (Jvm.Cond.code ({ cls := "java/lang/StringUTF16", name := "compress", desc := "([CI[BII)I" } : Jvm.MethodName) jdk_52_method_21_code (7 : Nat) (Option.some Jvm.ClassFile.FieldType.int)).before args0 about1 = true := code_word (m := ⟨12, 9⟩) (meth := k12m9) (c := k12c9) (by decide +kernel) rfl rfl rfl (by decide +kernel)
set_option maxRecDepth 65536 in
theorem w_c17 : (Jvm.Cond.code ({ cls := "java/lang/StringUTF16", name := "coderFromArrayLen", desc := "([BI)B" } : Jvm.MethodName) jdk_52_method_15_code (2 : Nat) (Option.some Jvm.ClassFile.FieldType.byte)).before args0 about1 = true := code_word (m := ⟨12, 7⟩) (meth := k12m7) (c := k12c7) (by decide +kernel) rfl rfl rfl (by decide +kernel)
set_option maxRecDepth 65536 in
theorem w_c18 : (Jvm.Cond.code ({ cls := "raciocinio/cli/RecordWriterCanHoldPinLaw", name := "bad", desc := "(C)Z" } : Jvm.MethodName) method_3_code (1 : Nat) (Option.some Jvm.ClassFile.FieldType.boolean)).before args0 about1 = true := code_word (m := ⟨1, 2⟩) (meth := k1m2) (c := k1c2) (by decide +kernel) rfl rfl rfl (by decide +kernel)
set_option maxRecDepth 65536 in
theorem w_c19 : (Jvm.Cond.code ({ cls := "java/lang/StringLatin1", name := "indexOfChar", desc := "([BIII)I" } : Jvm.MethodName) jdk_43_method_23_code (6 : Nat) (Option.some Jvm.ClassFile.FieldType.int)).before args0 about1 = true := code_word (m := ⟨10, 3⟩) (meth := k10m3) (c := k10c3) (by decide +kernel) rfl rfl rfl (by decide +kernel)
set_option maxRecDepth 65536 in
theorem w_c20 : (Jvm.Cond.code ({ cls := "java/lang/StringUTF16", name := "toBytes", desc := "([CII)[B" } : Jvm.MethodName) jdk_52_method_14_code (5 : Nat) (Option.some (Jvm.ClassFile.FieldType.array Jvm.ClassFile.FieldType.byte))).before args0 about1 = true := code_word (m := ⟨12, 6⟩) (meth := k12m6) (c := k12c6) (by decide +kernel) rfl rfl rfl (by decide +kernel)
set_option maxRecDepth 65536 in
theorem w_c21 : (Jvm.Cond.code ({ cls := "java/lang/StringUTF16", name := "newBytesFor", desc := "(I)[B" } : Jvm.MethodName) jdk_52_method_2_code (1 : Nat) (Option.some (Jvm.ClassFile.FieldType.array Jvm.ClassFile.FieldType.byte))).before args0 about1 = true := code_word (m := ⟨12, 1⟩) (meth := k12m1) (c := k12c1) (by decide +kernel) rfl rfl rfl (by decide +kernel)
set_option maxRecDepth 65536 in
theorem w_c22 : (Jvm.Cond.code ({ cls := "java/lang/StringUTF16", name := "newBytesLength", desc := "(I)I" } : Jvm.MethodName) jdk_52_method_3_code (1 : Nat) (Option.some Jvm.ClassFile.FieldType.int)).before args0 about1 = true := code_word (m := ⟨12, 2⟩) (meth := k12m2) (c := k12c2) (by decide +kernel) rfl rfl rfl (by decide +kernel)
set_option maxRecDepth 65536 in
theorem w_c23 : (Jvm.Cond.code ({ cls := "java/lang/StringUTF16", name := "putChar", desc := "([BII)V" } : Jvm.MethodName) jdk_52_method_4_code (3 : Nat) (Option.none : Option Jvm.ClassFile.FieldType)).before args0 about1 = true := code_word (m := ⟨12, 3⟩) (meth := k12m3) (c := k12c3) (by decide +kernel) rfl rfl rfl (by decide +kernel)
set_option maxRecDepth 65536 in
theorem w_c24 : (Jvm.Cond.code ({ cls := "java/lang/StringUTF16", name := "getChar", desc := "([BI)C" } : Jvm.MethodName) jdk_52_method_5_code (2 : Nat) (Option.some Jvm.ClassFile.FieldType.char)).before args0 about1 = true := code_word (m := ⟨12, 4⟩) (meth := k12m4) (c := k12c4) (by decide +kernel) rfl rfl rfl (by decide +kernel)
set_option maxRecDepth 65536 in
theorem w_c25 : (Jvm.Cond.code ({ cls := "java/lang/StringUTF16", name := "indexOf", desc := "([BIII)I" } : Jvm.MethodName) jdk_52_method_40_code (4 : Nat) (Option.some Jvm.ClassFile.FieldType.int)).before args0 about1 = true := code_word (m := ⟨12, 10⟩) (meth := k12m10) (c := k12c10) (by decide +kernel) rfl rfl rfl (by decide +kernel)
set_option maxRecDepth 65536 in
theorem w_c26 : (Jvm.Cond.code ({ cls := "java/lang/StringUTF16", name := "indexOfChar", desc := "([BIII)I" } : Jvm.MethodName) jdk_52_method_47_code (4 : Nat) (Option.some Jvm.ClassFile.FieldType.int)).before args0 about1 = true := code_word (m := ⟨12, 11⟩) (meth := k12m11) (c := k12c11) (by decide +kernel) rfl rfl rfl (by decide +kernel)
set_option maxRecDepth 65536 in
theorem w_c27 : (Jvm.Cond.code ({ cls := "java/lang/StringUTF16", name := "checkBoundsBeginEnd", desc := "(II[B)V" } : Jvm.MethodName) jdk_52_method_93_code (3 : Nat) (Option.none : Option Jvm.ClassFile.FieldType)).before args0 about1 = true := code_word (m := ⟨12, 13⟩) (meth := k12m13) (c := k12c13) (by decide +kernel) rfl rfl rfl (by decide +kernel)
set_option maxRecDepth 65536 in
theorem w_c28 : (Jvm.Cond.code ({ cls := "java/lang/StringUTF16", name := "length", desc := "([B)I" } : Jvm.MethodName) jdk_52_method_6_code (1 : Nat) (Option.some Jvm.ClassFile.FieldType.int)).before args0 about1 = true := code_word (m := ⟨12, 5⟩) (meth := k12m5) (c := k12c5) (by decide +kernel) rfl rfl rfl (by decide +kernel)
set_option maxRecDepth 65536 in
theorem w_c29 : (Jvm.Cond.code ({ cls := "java/lang/String", name := "checkBoundsBeginEnd", desc := "(III)V" } : Jvm.MethodName) jdk_42_method_158_code (3 : Nat) (Option.none : Option Jvm.ClassFile.FieldType)).before args0 about1 = true := code_word (m := ⟨7, 8⟩) (meth := k7m8) (c := k7c8) (by decide +kernel) rfl rfl rfl (by decide +kernel)
set_option maxRecDepth 65536 in
theorem w_c30 : (Jvm.Cond.code ({ cls := "jdk/internal/util/Preconditions", name := "checkFromToIndex", desc := "(IIILjava/util/function/BiFunction;)I" } : Jvm.MethodName) jdk_41_method_12_code (4 : Nat) (Option.some Jvm.ClassFile.FieldType.int)).before args0 about1 = true := code_word (m := ⟨13, 1⟩) (meth := k13m1) (c := k13c1) (by decide +kernel) rfl rfl rfl (by decide +kernel)
set_option maxRecDepth 65536 in
theorem w_c31 : (Jvm.Cond.code ({ cls := "java/lang/StringUTF16", name := "indexOfCharUnsafe", desc := "([BIII)I" } : Jvm.MethodName) jdk_52_method_48_code (5 : Nat) (Option.some Jvm.ClassFile.FieldType.int)).before args0 about1 = true := code_word (m := ⟨12, 12⟩) (meth := k12m12) (c := k12c12) (by decide +kernel) rfl rfl rfl (by decide +kernel)
def codes1 : List Jvm.Cond := [Jvm.Cond.code x code maxLocals ret, Jvm.Cond.code ({ cls := "raciocinio/cli/RecordWriterCanHoldPinLaw", name := "draw", desc := "(I)C" } : Jvm.MethodName) method_2_code (2 : Nat) (Option.some Jvm.ClassFile.FieldType.char), Jvm.Cond.code ({ cls := "java/lang/String", name := "<init>", desc := "([C)V" } : Jvm.MethodName) jdk_42_method_3_code (2 : Nat) (Option.none : Option Jvm.ClassFile.FieldType), Jvm.Cond.code ({ cls := "java/lang/String", name := "<init>", desc := "([CIILjava/lang/Void;)V" } : Jvm.MethodName) jdk_42_method_149_code (6 : Nat) (Option.none : Option Jvm.ClassFile.FieldType), Jvm.Cond.code ({ cls := "java/lang/Object", name := "<init>", desc := "()V" } : Jvm.MethodName) object_method_1_code (1 : Nat) (Option.none : Option Jvm.ClassFile.FieldType), Jvm.Cond.code ({ cls := "raciocinio/cli/RecordWriter", name := "canHold", desc := "(Ljava/lang/String;)Z" } : Jvm.MethodName) prog_3_method_3_code (1 : Nat) (Option.some Jvm.ClassFile.FieldType.boolean), Jvm.Cond.code ({ cls := "java/lang/String", name := "indexOf", desc := "(I)I" } : Jvm.MethodName) jdk_42_method_79_code (2 : Nat) (Option.some Jvm.ClassFile.FieldType.int), Jvm.Cond.code ({ cls := "java/lang/String", name := "indexOf", desc := "(II)I" } : Jvm.MethodName) jdk_42_method_80_code (3 : Nat) (Option.some Jvm.ClassFile.FieldType.int), Jvm.Cond.code ({ cls := "java/lang/String", name := "isLatin1", desc := "()Z" } : Jvm.MethodName) jdk_42_method_154_code (1 : Nat) (Option.some Jvm.ClassFile.FieldType.boolean), Jvm.Cond.code ({ cls := "java/lang/String", name := "length", desc := "()I" } : Jvm.MethodName) jdk_42_method_54_code (1 : Nat) (Option.some Jvm.ClassFile.FieldType.int), Jvm.Cond.code ({ cls := "java/lang/String", name := "coder", desc := "()B" } : Jvm.MethodName) jdk_42_method_152_code (1 : Nat) (Option.some Jvm.ClassFile.FieldType.byte), Jvm.Cond.code ({ cls := "java/lang/StringLatin1", name := "indexOf", desc := "([BIII)I" } : Jvm.MethodName) jdk_43_method_22_code (4 : Nat) (Option.some Jvm.ClassFile.FieldType.int), Jvm.Cond.code ({ cls := "java/lang/StringLatin1", name := "canEncode", desc := "(I)Z" } : Jvm.MethodName) jdk_43_method_4_code (1 : Nat) (Option.some Jvm.ClassFile.FieldType.boolean), Jvm.Cond.code ({ cls := "java/lang/Math", name := "max", desc := "(II)I" } : Jvm.MethodName) jdk_29_method_65_code (2 : Nat) (Option.some Jvm.ClassFile.FieldType.int), Jvm.Cond.code ({ cls := "java/lang/Math", name := "min", desc := "(II)I" } : Jvm.MethodName) jdk_29_method_69_code (2 : Nat) (Option.some Jvm.ClassFile.FieldType.int), Jvm.Cond.code ({ cls := "java/lang/StringUTF16", name := "compress", desc := "([CII)[B" } : Jvm.MethodName) jdk_52_method_16_code (6 : Nat) (Option.some (Jvm.ClassFile.FieldType.array Jvm.ClassFile.FieldType.byte)), Jvm.Cond.code ({ cls := "java/lang/StringUTF16", name := "compress", desc := "([CI[BII)I" } : Jvm.MethodName) jdk_52_method_21_code (7 : Nat) (Option.some Jvm.ClassFile.FieldType.int), Jvm.Cond.code ({ cls := "java/lang/StringUTF16", name := "coderFromArrayLen", desc := "([BI)B" } : Jvm.MethodName) jdk_52_method_15_code (2 : Nat) (Option.some Jvm.ClassFile.FieldType.byte), Jvm.Cond.code ({ cls := "raciocinio/cli/RecordWriterCanHoldPinLaw", name := "bad", desc := "(C)Z" } : Jvm.MethodName) method_3_code (1 : Nat) (Option.some Jvm.ClassFile.FieldType.boolean), Jvm.Cond.code ({ cls := "java/lang/StringLatin1", name := "indexOfChar", desc := "([BIII)I" } : Jvm.MethodName) jdk_43_method_23_code (6 : Nat) (Option.some Jvm.ClassFile.FieldType.int), Jvm.Cond.code ({ cls := "java/lang/StringUTF16", name := "toBytes", desc := "([CII)[B" } : Jvm.MethodName) jdk_52_method_14_code (5 : Nat) (Option.some (Jvm.ClassFile.FieldType.array Jvm.ClassFile.FieldType.byte)), Jvm.Cond.code ({ cls := "java/lang/StringUTF16", name := "newBytesFor", desc := "(I)[B" } : Jvm.MethodName) jdk_52_method_2_code (1 : Nat) (Option.some (Jvm.ClassFile.FieldType.array Jvm.ClassFile.FieldType.byte)), Jvm.Cond.code ({ cls := "java/lang/StringUTF16", name := "newBytesLength", desc := "(I)I" } : Jvm.MethodName) jdk_52_method_3_code (1 : Nat) (Option.some Jvm.ClassFile.FieldType.int), Jvm.Cond.code ({ cls := "java/lang/StringUTF16", name := "putChar", desc := "([BII)V" } : Jvm.MethodName) jdk_52_method_4_code (3 : Nat) (Option.none : Option Jvm.ClassFile.FieldType), Jvm.Cond.code ({ cls := "java/lang/StringUTF16", name := "getChar", desc := "([BI)C" } : Jvm.MethodName) jdk_52_method_5_code (2 : Nat) (Option.some Jvm.ClassFile.FieldType.char), Jvm.Cond.code ({ cls := "java/lang/StringUTF16", name := "indexOf", desc := "([BIII)I" } : Jvm.MethodName) jdk_52_method_40_code (4 : Nat) (Option.some Jvm.ClassFile.FieldType.int), Jvm.Cond.code ({ cls := "java/lang/StringUTF16", name := "indexOfChar", desc := "([BIII)I" } : Jvm.MethodName) jdk_52_method_47_code (4 : Nat) (Option.some Jvm.ClassFile.FieldType.int), Jvm.Cond.code ({ cls := "java/lang/StringUTF16", name := "checkBoundsBeginEnd", desc := "(II[B)V" } : Jvm.MethodName) jdk_52_method_93_code (3 : Nat) (Option.none : Option Jvm.ClassFile.FieldType), Jvm.Cond.code ({ cls := "java/lang/StringUTF16", name := "length", desc := "([B)I" } : Jvm.MethodName) jdk_52_method_6_code (1 : Nat) (Option.some Jvm.ClassFile.FieldType.int), Jvm.Cond.code ({ cls := "java/lang/String", name := "checkBoundsBeginEnd", desc := "(III)V" } : Jvm.MethodName) jdk_42_method_158_code (3 : Nat) (Option.none : Option Jvm.ClassFile.FieldType), Jvm.Cond.code ({ cls := "jdk/internal/util/Preconditions", name := "checkFromToIndex", desc := "(IIILjava/util/function/BiFunction;)I" } : Jvm.MethodName) jdk_41_method_12_code (4 : Nat) (Option.some Jvm.ClassFile.FieldType.int), Jvm.Cond.code ({ cls := "java/lang/StringUTF16", name := "indexOfCharUnsafe", desc := "([BIII)I" } : Jvm.MethodName) jdk_52_method_48_code (5 : Nat) (Option.some Jvm.ClassFile.FieldType.int)]
set_option maxRecDepth 65536 in
theorem codes_eq : words1.filter isCode = codes1 := rfl
theorem w_codes : ∀ c ∈ words1.filter isCode, c.before args0 about1 = true := by
  rw [codes_eq]
  intro c hc
  simp only [codes1, List.mem_cons, List.not_mem_nil, or_false] at hc
  rcases hc with rfl | rfl | rfl | rfl | rfl | rfl | rfl | rfl | rfl | rfl | rfl | rfl | rfl | rfl | rfl | rfl | rfl | rfl | rfl | rfl | rfl | rfl | rfl | rfl | rfl | rfl | rfl | rfl | rfl | rfl | rfl | rfl
  · exact w_c0
  · exact w_c1
  · exact w_c2
  · exact w_c3
  · exact w_c4
  · exact w_c5
  · exact w_c6
  · exact w_c7
  · exact w_c8
  · exact w_c9
  · exact w_c10
  · exact w_c11
  · exact w_c12
  · exact w_c13
  · exact w_c14
  · exact w_c15
  · exact w_c16
  · exact w_c17
  · exact w_c18
  · exact w_c19
  · exact w_c20
  · exact w_c21
  · exact w_c22
  · exact w_c23
  · exact w_c24
  · exact w_c25
  · exact w_c26
  · exact w_c27
  · exact w_c28
  · exact w_c29
  · exact w_c30
  · exact w_c31
set_option maxRecDepth 65536 in
theorem w_t1 : (words1.take 24).all (fun c => isCode c || c.before args0 about1) = true := by decide +kernel
set_option maxRecDepth 65536 in
theorem w_t2 : ((words1.drop 24).take 24).all (fun c => isCode c || c.before args0 about1) = true := by decide +kernel
set_option maxRecDepth 65536 in
theorem w_t3 : (((words1.drop 24).drop 24).take 24).all (fun c => isCode c || c.before args0 about1) = true := by decide +kernel
set_option maxRecDepth 65536 in
theorem w_t4 : ((((words1.drop 24).drop 24).drop 24).take 24).all (fun c => isCode c || c.before args0 about1) = true := by decide +kernel
set_option maxRecDepth 65536 in
theorem w_t5 : (((((words1.drop 24).drop 24).drop 24).drop 24).take 24).all (fun c => isCode c || c.before args0 about1) = true := by decide +kernel
set_option maxRecDepth 65536 in
theorem w_t6 : (((((words1.drop 24).drop 24).drop 24).drop 24).drop 24).all (fun c => isCode c || c.before args0 about1) = true := by decide +kernel
theorem w_tables : (allAtoms (Jvm.Cond.code x code maxLocals ret :: tables_1)).before args0 about1 = true := by
  rw [allAtoms_all]
  show words1.all (fun c => c.before args0 about1) = true
  refine all_split ?_ w_codes
  rw [← List.take_append_drop 24 words1, List.all_append, w_t1, ← List.take_append_drop 24 (words1.drop 24), List.all_append, w_t2, ← List.take_append_drop 24 ((words1.drop 24).drop 24), List.all_append, w_t3, ← List.take_append_drop 24 (((words1.drop 24).drop 24).drop 24), List.all_append, w_t4, ← List.take_append_drop 24 ((((words1.drop 24).drop 24).drop 24).drop 24), List.all_append, w_t5, w_t6]
  rfl
set_option maxRecDepth 65536 in
theorem w_rest : rest_1_c.before args0 about1 = true := by decide +kernel
set_option maxRecDepth 65536 in
theorem w_case : (Jvm.Cond.and given_1 narrow_1).before args0 about1 = true := by decide +kernel
set_option maxRecDepth 65536 in
theorem w_consts : constsHeld consts_1 about1 := Jvm.Lit.constsHeldB_iff.mp (by decide +kernel)
theorem w_applies : (headSpec (Jvm.Cond.code x code maxLocals ret :: tables_1) room_1).applies x e0.platform about1 = true :=
  (Spec.applies_iff w_frames).mpr ⟨w_running, w_runnable, w_alone, w_named, w_hears, w_ripe, w_room, w_tables⟩
theorem atStart : AtStart classFile x code maxLocals ret World_1 tables_1 room_1 Calls_1 rest_1 Pre_1 launch0 p0 e0 about1 theMethod args0 below0 :=
  ⟨lists_1, trivial, launch0.admits_env _ _ _, launch0.least_env, fairChoices_fair.cas, fairChoices_fair.clock, w_frames, w_args, w_heap, w_applies, ⟨w_consts, trivial⟩, w_rest, w_case⟩
end start1
theorem witness_1 : WitnessClaimed_1 := ⟨start1.p0, start1.e0, start1.about1, start1.theMethod, start1.args0, start1.below0, start1.atStart⟩
end Jvm.Pilot.@@N@@
