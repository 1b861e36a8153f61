import JvmDerived
import JvmDerived.Pilot.@@N@@Statement
import JvmDerived.Pilot.@@N@@Code
set_option linter.unusedVariables false
set_option linter.unusedSimpArgs false
@@BLOCK:NumsL.lean.txt@@
namespace Jvm.Pilot.@@N@@
open Jvm Jvm.ClassFile Sem Op Lib Jvm.Free Jvm.Stand Jvm.LawKit Jvm.RoadKit Bundle Jvm.Pilot.@@N@@.Jvm.D
section Own
variable {p : Program} {l : Launch} {e : Env} {R : Room} {s : State} {m : MethodId} {args : Array Value} {below : List Frame} {meth : Method} {c : Code} {T : State} {locs : List Loc} {cells slots : Nat} {Z : State} {a0 : Array Value} {h : Heap}
/-- from t the run comes to an end that P speaks of -/
def Goes (p : Program) (e : Env) (below : List Frame) (P : State → Outcome → Prop) (t : State) : Prop :=
  ∃ s₂ o, Steps p.tables e below t s₂ ∧ s₂.status = .running ∧ Ended s₂ below o ∧ P s₂ o
/-- it returned, what Q says, and the frame -/
def Aim (s : State) (Q : Option Value → Heap → List Loc → Prop) (k n : Nat) (s₂ : State) (o : Outcome) : Prop :=
  ∃ v L, o = .returned v ∧ Q v s₂.heap L ∧ FrameEnd s o s₂ L k n
theorem Goes.step {P : State → Outcome → Prop} {t t' : State} (st : ∀ tgt, Steps p.tables e below t' tgt → Steps p.tables e below t tgt) (q : Goes p e below P t') : Goes p e below P t := by
  obtain ⟨s₂, o, k, r⟩ := q
  exact ⟨s₂, o, st _ k, r⟩
theorem Goes.tr {P : State → Outcome → Prop} {t t' : State} (st : Steps p.tables e below t t') (q : Goes p e below P t') : Goes p e below P t := by
  obtain ⟨s₂, o, k, r⟩ := q
  exact ⟨s₂, o, st.trans k, r⟩
theorem Goes.retN (X : Stand p l e R s m args below meth c T locs cells slots) (hx : p.tables.exec = Jvm.exec) (hlk : meth.locks = false) {t : FieldType} (hret : meth.sig.returnType = some t) (ht : t = .boolean ∨ t = .byte ∨ t = .char ∨ t = .short) {pc : Nat} {Ls : Array Slot} {z : Int32} {rest : List Value}
    (hd : decode c.code pc = .ok (.ireturn, 1)) {Q : Option Value → Heap → List Loc → Prop} {k n : Nat} (hk : cells ≤ k) (hn : slots ≤ n) (hQ : Q (some (.int (nar t z))) T.heap locs) :
    Goes p e below (Aim s Q k n) (T.setTop (mkF m pc Ls (.int z :: rest))) := by
  obtain ⟨fs, hr, hrun, hended, hW, hsame⟩ := X.leave (v := some (.int (nar t z))) (fun h => by rw [hret] at h; cases h) hlk
  exact ⟨_, _, Jvm.RoadKit.retN X hx hret ht hd hr, hrun, hended, _, _, rfl, hQ, ⟨_, rfl⟩, hW, hsame.mono hk hn⟩
theorem Goes.ret (X : Stand p l e R s m args below meth c T locs cells slots) (hx : p.tables.exec = Jvm.exec) (hlk : meth.locks = false) {t : FieldType} (hret : meth.sig.returnType = some t) {w : Value} (hnr : narrow t w = w) {i : Instr} {pc : Nat} {Ls : Array Slot} {rest : List Value}
    (hi : (i = .ireturn ∧ (t = .int ∨ t = .boolean ∨ t = .byte ∨ t = .char ∨ t = .short) ∧ ∃ z, w = .int z) ∨ (i = .lreturn ∧ t = .long ∧ ∃ z, w = .long z) ∨ (i = .dreturn ∧ t = .double ∧ ∃ z, w = .double z) ∨ (i = .freturn ∧ t = .float ∧ ∃ z, w = .float z) ∨ (i = .areturn ∧ t.isReference = true ∧ w.isRef = true))
    (hd : decode c.code pc = .ok (i, 1)) {Q : Option Value → Heap → List Loc → Prop} {k n : Nat} (hk : cells ≤ k) (hn : slots ≤ n) (hQ : Q (some w) T.heap locs) :
    Goes p e below (Aim s Q k n) (T.setTop (mkF m pc Ls (w :: rest))) := by
  obtain ⟨fs, hr, hrun, hended, hW, hsame⟩ := X.leave (v := some w) (fun h => by rw [hret] at h; cases h) hlk
  exact ⟨_, _, Jvm.RoadKit.retOut X hx hret hnr hi hd hr, hrun, hended, _, _, rfl, hQ, ⟨_, rfl⟩, hW, hsame.mono hk hn⟩
theorem Goes.ret0 (X : Stand p l e R s m args below meth c T locs cells slots) (hx : p.tables.exec = Jvm.exec) (hlk : meth.locks = false) (hret : meth.sig.returnType = none) {pc : Nat} {Ls : Array Slot}
    (hd : decode c.code pc = .ok (.return_, 1)) {Q : Option Value → Heap → List Loc → Prop} {k n : Nat} (hk : cells ≤ k) (hn : slots ≤ n) (hQ : Q none T.heap locs) :
    Goes p e below (Aim s Q k n) (T.setTop (mkF m pc Ls [])) := by
  obtain ⟨fs, hr, hrun, hended, hW, hsame⟩ := X.leave (v := none) (fun _ => rfl) hlk
  exact ⟨_, _, X.returnOut hx hret hd hr, hrun, hended, _, _, rfl, hQ, ⟨_, rfl⟩, hW, hsame.mono hk hn⟩
/-- a body's contract: called with these arguments over the heap h0 it returns, and Q says what it leaves -/
def Con (l : Launch) (Z : State) (y : MethodName) (bytes : ByteArray) (maxL : Nat) (ret : Option FieldType) (rm : Room) (as : Array Value) (h0 : Heap) (Q : Option Value → Heap → List Loc → Prop) : Prop :=
  ∀ ws : List Jvm.Cond, MetFree l y (head1 (Jvm.Cond.code y bytes maxL ret :: ws) rm) (fun a U => a = as ∧ Z.Warmed39 U.vm ∧ U.heap = h0) (fun _ _ _ _ _ => True) (fun _ U o U' => ∃ v L, o = .returned v ∧ Q v U'.heap L ∧ FrameEnd U o U' L rm.cells rm.slots)
theorem Con.body {y : MethodName} {bytes : ByteArray} {maxL : Nat} {ret : Option FieldType} {rm : Room} {as : Array Value} {h0 : Heap} {Q : Option Value → Heap → List Loc → Prop} (hp : plainFor y = true)
    (H : ∀ (p : Program) (e : Env) (s : State) (m : MethodId) (below : List Frame) (meth : Method) (c : Code) (s₁ : State), p.tables.exec = Jvm.exec → c.code = bytes → c.maxLocals = maxL → Z.Warmed39 s.vm → s.vm.findClass y.cls = some m.cls → meth.name = y.name → meth.sig.returnType = ret → meth.locks = false →
      Stand p l e rm s m as below meth c s₁ [] 0 0 → s₁.heap = h0 → Goes p e below (Aim s Q rm.cells rm.slots) (s₁.setTop (entryFrame m as maxL))) :
    Con l Z y bytes maxL ret rm as h0 Q := by
  intro ws
  refine MetFree.of_bodySF hp hisR ?_
  intro p e s m args below meth c s₁ Bd hml0 hP hK
  obtain ⟨rfl, hZ, hh⟩ := hP
  exact H p e s m below meth c s₁ Bd.exec Bd.bytes hml0 hZ (findClass_of_methodNamed Bd.named) (name_of_methodNamed Bd.named Bd.method).1 Bd.returns Bd.notSynchronized (Stand.of_body Bd) (by rw [← hh, Bd.state]; rfl)
theorem Goes.callS (X : Stand p l e R s m args below meth c T locs cells slots) (hx : p.tables.exec = Jvm.exec) (hZ : Z.Warmed39 s.vm) {own : String} {index : Nat} {y : MethodName} {bytes : ByteArray} {maxL : Nat} {ret : Option FieldType} {rm : Room} {as : List Value} {Q : Option Value → Heap → List Loc → Prop} (hown : s.vm.findClass own = some m.cls)
    (w1 : (Jvm.Cond.methodLink own index y).before a0 Z = true) (w2 : (Jvm.Cond.static y).before a0 Z = true) (w3 : (Jvm.Cond.initialized y.cls).before a0 Z = true) (w4 : (Jvm.Cond.code y bytes maxL ret).before a0 Z = true) (hy : y.cls ≠ "java/lang/invoke/MethodHandle" ∧ y.cls ≠ "java/lang/invoke/VarHandle")
    (eT : T.heap = h) (hM : Con l Z y bytes maxL ret rm as.toArray h Q) {W : Nat} (hf : rm.frames + 1 ≤ R.frames) (hl : W + (maxL + 11) + rm.locals ≤ R.locals) (hc : cells + rm.cells ≤ R.cells) (hs : slots + rm.slots ≤ R.slots)
    {g : JFrame} (hg : g.method = m) (hsize : g.locals.size = c.maxLocals) {rest : List Value} {ps : List FieldType} {r : Option FieldType} (hd : parseMethodDescriptor y.desc = some ⟨ps, r⟩) (hlen : as.length = ps.length) (hstack : g.stack = as.reverse ++ rest) (hW : 2 * g.monitorRoom + (rest.map fun v => v.category).sum ≤ W) (hdg : decode c.code g.pc = .ok (.invokestatic index, 3))
    {P : State → Outcome → Prop} (k : ∀ v T' L, Stand p l e R s m args below meth c T' (locs ++ L) (cells + rm.cells) (slots + rm.slots) → Q v T'.heap L → Goes p e below P (T'.setTop { g with pc := g.pc + 3, stack := v.toList ++ rest })) :
    Goes p e below P (T.setTop g) := by
  obtain ⟨v, vm₁, ⟨T', L', k', n'⟩, -, X', ⟨L, hQ, l', y', z'⟩, st⟩ := Jvm.LawKit.callS X hx hown (mvT hZ w1) (mvT hZ w2) (mvT hZ w3) (mvT hZ w4) hy (backOf (W := W) (hM []) hZ w4 w3 hf hl) (g := g) hg hsize (argsL := as) (rest := rest) (lenOf hd hlen) hstack hW hdg (fun _ _ => ⟨rfl, eT, hc, hs⟩)
  try dsimp only at X' hQ l' y' z' st
  subst l' y' z'
  exact Goes.step st (k v T' L X' hQ)
theorem Goes.callV (X : Stand p l e R s m args below meth c T locs cells slots) (hx : p.tables.exec = Jvm.exec) (hZ : Z.Warmed39 s.vm) {own C : String} {index : Nat} {y z : MethodName} {bytes : ByteArray} {maxL : Nat} {ret : Option FieldType} {rm : Room} {as : List Value} {Q : Option Value → Heap → List Loc → Prop} (hown : s.vm.findClass own = some m.cls)
    (w1 : (Jvm.Cond.methodLink own index y).before a0 Z = true) (w2 : (Jvm.Cond.declares y).before a0 Z = true) (hnf : NotFace s y) (w3 : (Jvm.Cond.selects C y z).before a0 Z = true) (w4 : (Jvm.Cond.instanceMethod z).before a0 Z = true) (w5 : (Jvm.Cond.code z bytes maxL ret).before a0 Z = true) (w6 : (Jvm.Cond.initialized z.cls).before a0 Z = true) (hy : y.cls ≠ "java/lang/invoke/MethodHandle" ∧ y.cls ≠ "java/lang/invoke/VarHandle")
    (eT : T.heap = h) {b : Addr} (E : Exa Z h b C) (hM : Con l Z z bytes maxL ret rm (.ref b :: as).toArray h Q) {W : Nat} (hf : rm.frames + 1 ≤ R.frames) (hl : W + (maxL + 11) + rm.locals ≤ R.locals) (hc : cells + rm.cells ≤ R.cells) (hs : slots + rm.slots ≤ R.slots)
    {g : JFrame} (hg : g.method = m) (hsize : g.locals.size = c.maxLocals) {rest : List Value} {ps : List FieldType} {r : Option FieldType} (hd : parseMethodDescriptor y.desc = some ⟨ps, r⟩) (hlen : as.length = ps.length) (hstack : g.stack = as.reverse ++ .ref b :: rest) (hW : 2 * g.monitorRoom + (rest.map fun v => v.category).sum ≤ W) (hdg : decode c.code g.pc = .ok (.invokevirtual index, 3))
    {P : State → Outcome → Prop} (k : ∀ v T' L, Stand p l e R s m args below meth c T' (locs ++ L) (cells + rm.cells) (slots + rm.slots) → Q v T'.heap L → Goes p e below P (T'.setTop { g with pc := g.pc + 3, stack := v.toList ++ rest })) :
    Goes p e below P (T.setTop g) := by
  obtain ⟨cB, kB, q1, -, q3⟩ := isOf hZ eT E
  obtain ⟨v, vm₁, ⟨T', L', k', n'⟩, -, X', ⟨L, hQ, l', y', z'⟩, st⟩ := X.virtualBack hx (y := y) (z := z) hown (mvT hZ w1) (mvT hZ w2) hnf (mvT hZ w3) (mvT hZ w4) hy (backOf (W := W) (hM []) hZ w5 w6 hf hl) q1 q3 (g := g) hg hsize (Steps.refl _) (argsL := as) (rest := rest) (lenOf hd hlen) hstack hW hdg (fun _ _ => ⟨rfl, eT, hc, hs⟩)
  try dsimp only at X' hQ l' y' z' st
  subst l' y' z'
  exact Goes.tr st (k v T' L X' hQ)
theorem Goes.callI (X : Stand p l e R s m args below meth c T locs cells slots) (hx : p.tables.exec = Jvm.exec) (hZ : Z.Warmed39 s.vm) {own : String} {index : Nat} {y : MethodName} {bytes : ByteArray} {maxL : Nat} {rm : Room} {as : List Value} {Q : Option Value → Heap → List Loc → Prop} (hy1 : y.name = "<init>") (hown : s.vm.findClass own = some m.cls)
    (w1 : (Jvm.Cond.methodLink own index y).before a0 Z = true) (w2 : (Jvm.Cond.instanceMethod y).before a0 Z = true) (w3 : (Jvm.Cond.code y bytes maxL none).before a0 Z = true) (w4 : (Jvm.Cond.initialized y.cls).before a0 Z = true) (hy : y.cls ≠ "java/lang/invoke/MethodHandle" ∧ y.cls ≠ "java/lang/invoke/VarHandle")
    (eT : T.heap = h) {b : Addr} (hM : Con l Z y bytes maxL none rm (.ref b :: as).toArray h Q) {W : Nat} (hf : rm.frames + 1 ≤ R.frames) (hl : W + (maxL + 11) + rm.locals ≤ R.locals) (hc : cells + rm.cells ≤ R.cells) (hs : slots + rm.slots ≤ R.slots)
    {g : JFrame} (hg : g.method = m) (hsize : g.locals.size = c.maxLocals) {rest : List Value} {ps : List FieldType} {r : Option FieldType} (hd : parseMethodDescriptor y.desc = some ⟨ps, r⟩) (hlen : as.length = ps.length) (hstack : g.stack = as.reverse ++ .ref b :: rest) (hW : 2 * g.monitorRoom + (rest.map fun v => v.category).sum ≤ W) (hdg : decode c.code g.pc = .ok (.invokespecial index, 3))
    {P : State → Outcome → Prop} (k : ∀ v T' L, Stand p l e R s m args below meth c T' (locs ++ L) (cells + rm.cells) (slots + rm.slots) → Q v T'.heap L → Goes p e below P (T'.setTop { g with pc := g.pc + 3, stack := v.toList ++ rest })) :
    Goes p e below P (T.setTop g) := by
  obtain ⟨v, vm₁, ⟨T', L', k', n'⟩, -, X', ⟨L, hQ, l', y', z'⟩, st⟩ := X.specialBack hx (y := y) hy1 hown (mvT hZ w1) (mvT hZ w2) (mvT hZ w3) hy (backOf (W := W) (hM []) hZ w3 w4 hf hl) (g := g) hg hsize (Steps.refl _) (a := b) (argsL := as) (rest := rest) (lenOf hd hlen) hstack hW hdg (fun _ _ => ⟨rfl, eT, hc, hs⟩)
  try dsimp only at X' hQ l' y' z' st
  subst l' y' z'
  exact Goes.tr st (k v T' L X' hQ)
theorem own_refR {v : Value} (h : v.isRef = true) : v = .null ∨ ∃ a, v = .ref a := by
  cases v <;> first | exact Or.inl rfl | exact Or.inr ⟨_, rfl⟩ | cases h
theorem jlt {a b : Int64} : lcmpW a b < 0 ↔ a < b := by rw [lcW]; exact lc_lt a b
theorem jgt {a b : Int64} : 0 < lcmpW a b ↔ b < a := by rw [lcW]; exact lc_gt a b
theorem jeq {a b : Int64} : lcmpW a b = 0 ↔ a = b := by rw [lcW]; exact lc_eq a b
end Own
section OwnHeap
variable {p : Program} {l : Launch} {e : Env} {R : Room} {s : State} {m : MethodId} {args : Array Value} {below : List Frame} {meth : Method} {c : Code} {T : State} {locs : List Loc} {cells slots : Nat} {Z : State} {a0 : Array Value} {h h' : Heap} {a b : Addr} {ty : FieldType} {n : Nat} {f f' : Nat → Value} {sl : Nat} {v : Value} {ws : List Addr}
theorem own_ix {j : Int32} {i n : Nat} (hj : j.toInt = (i : Int)) (hi : i < n) : ¬ (j < 0 ∨ n ≤ j.toNatClampNeg) := by
  simp only [Int32.lt_iff_toInt_lt, Int32.toNatClampNeg, hj, Int32.reduceToInt]; omega
theorem own_ixn {j : Int32} {i : Nat} (hj : j.toInt = (i : Int)) : j.toNatClampNeg = i := by
  simp only [Int32.toNatClampNeg, hj]; omega
/-- the array at a holds n places, the i-th f i -/
def Afn (Z : State) (h : Heap) (a : Addr) (ty : FieldType) (n : Nat) (f : Nat → Value) : Prop :=
  ∃ c : Cell, Arr Z h a c ty ∧ c.slots.size = n ∧ n < 2 ^ 31 ∧ (∀ i, i < n → c.slots[i]? = some (f i)) ∧ ∀ i, i < n → fits ty (f i) = true
theorem Afn.lt (F : Afn Z h a ty n f) : a < h.size := by obtain ⟨c, A, -⟩ := F; exact A.lt
theorem Afn.ext (F : Afn Z h a ty n f) (E : Ext h h') : Afn Z h' a ty n f := by obtain ⟨c, A, r⟩ := F; exact ⟨c, A.ext E, r⟩
theorem Afn.other (F : Afn Z h b ty n f) (W : Wr h h' a sl v) (q : b ≠ a) : Afn Z h' b ty n f := by obtain ⟨c, A, r⟩ := F; exact ⟨c, A.other W q, r⟩
theorem Afn.keep (F : Afn Z h a ty n f) (K : Keep h h' ws) (q : a ∉ ws) : Afn Z h' a ty n f := by obtain ⟨c, A, r⟩ := F; exact ⟨c, ⟨K.2.1 a c A.1 q, A.2⟩, r⟩
theorem Afn.congr (F : Afn Z h a ty n f) (q : ∀ i, i < n → f i = f' i) : Afn Z h a ty n f' := by
  obtain ⟨c, A, S, B, H, G⟩ := F
  exact ⟨c, A, S, B, fun i hi => by rw [← q i hi]; exact H i hi, fun i hi => by rw [← q i hi]; exact G i hi⟩
theorem Afn.new {k : ClassId} {z : Int32} (A : Arr Z h a (newA k ty z) ty) (q : z.toInt = (n : Int)) : Afn Z h a ty n (fun _ => defaultValue ty) := by
  obtain ⟨c, A', -, S, q3, H, G⟩ := Arv.new A (by rw [Int32.lt_iff_toInt_lt, q]; simp only [Int32.reduceToInt]; omega)
  rw [own_ixn q] at S
  refine ⟨c, A', S, ?_, fun i hi => H i (by rw [S]; exact hi), fun i hi => G i (by rw [S]; exact hi)⟩
  have := z.toInt_lt
  omega
theorem Afn.set {i : Nat} (F : Afn Z h a ty n f) (W : Wr h h' a i v) (hv : fits ty v = true) : Afn Z h' a ty n (fun x => if x = i then v else f x) := by
  obtain ⟨c, A, S, B, H, G⟩ := F
  refine ⟨_, A.same W, by rw [sz_set]; exact S, B, fun x hx => ?_, fun x hx => ?_⟩
  · show _ = some (if x = i then v else f x)
    by_cases q : x = i
    · subst q
      rw [if_pos rfl]
      have hx' : x < c.slots.size := by rw [S]; exact hx
      simp [Cell.setSlot, hx']
    · rw [if_neg q, ← H x hx]
      exact Array.getElem?_setIfInBounds_ne (Ne.symm q)
  · by_cases q : x = i
    · simp only [q, if_true]; exact hv
    · simp only [if_neg q]; exact G x hx
theorem Goes.iastore (X : Stand p l e R s m args below meth c T locs cells slots) (hx : p.tables.exec = Jvm.exec) (hZ : Z.Warmed39 s.vm) (eT : T.heap = h) (A : Afn Z h a .int n f) {j : Int32} {i : Nat} (hj : j.toInt = (i : Int)) (hi : i < n) {x : Int32} {g : JFrame} (hg : g.method = m) {rest : List Value} (hs : g.stack = .int x :: .int j :: .ref a :: rest) (hd : decode c.code g.pc = .ok (.iastore, 1)) {P : State → Outcome → Prop}
    (k : ∀ T' h', Stand p l e R s m args below meth c T' (locs ++ [⟨a, i⟩]) cells slots → T'.heap = h' → Wr h h' a i (.int x) → Afn Z h' a .int n (fun z => if z = i then .int x else f z) → Goes p e below P (T'.setTop { g with pc := g.pc + 1, stack := rest })) : Goes p e below P (T.setTop g) := by
  obtain ⟨cl, A1, S, -⟩ := id A
  obtain ⟨T', h', X', e', W, st⟩ := stI X hx hZ eT A1 (j := j) (by rw [S]; exact own_ix hj hi) hg hs hd
  rw [own_ixn hj] at X' W
  exact Goes.step st (k T' h' X' e' W (A.set W rfl))
theorem Goes.lastore (X : Stand p l e R s m args below meth c T locs cells slots) (hx : p.tables.exec = Jvm.exec) (hZ : Z.Warmed39 s.vm) (eT : T.heap = h) (A : Afn Z h a .long n f) {j : Int32} {i : Nat} (hj : j.toInt = (i : Int)) (hi : i < n) {x : Int64} {g : JFrame} (hg : g.method = m) {rest : List Value} (hs : g.stack = .long x :: .int j :: .ref a :: rest) (hd : decode c.code g.pc = .ok (.lastore, 1)) {P : State → Outcome → Prop}
    (k : ∀ T' h', Stand p l e R s m args below meth c T' (locs ++ [⟨a, i⟩]) cells slots → T'.heap = h' → Wr h h' a i (.long x) → Afn Z h' a .long n (fun z => if z = i then .long x else f z) → Goes p e below P (T'.setTop { g with pc := g.pc + 1, stack := rest })) : Goes p e below P (T.setTop g) := by
  obtain ⟨cl, A1, S, -⟩ := id A
  obtain ⟨T', h', X', e', W, st⟩ := stJ X hx hZ eT A1 (j := j) (by rw [S]; exact own_ix hj hi) hg hs hd
  rw [own_ixn hj] at X' W
  exact Goes.step st (k T' h' X' e' W (A.set W rfl))
theorem Goes.bastore (X : Stand p l e R s m args below meth c T locs cells slots) (hx : p.tables.exec = Jvm.exec) (hZ : Z.Warmed39 s.vm) (eT : T.heap = h) (A : Afn Z h a .byte n f) {j : Int32} {i : Nat} (hj : j.toInt = (i : Int)) (hi : i < n) {x : Int32} {g : JFrame} (hg : g.method = m) {rest : List Value} (hs : g.stack = .int x :: .int j :: .ref a :: rest) (hd : decode c.code g.pc = .ok (.bastore, 1)) {P : State → Outcome → Prop}
    (k : ∀ T' h', Stand p l e R s m args below meth c T' (locs ++ [⟨a, i⟩]) cells slots → T'.heap = h' → Wr h h' a i (.int x.toInt8.toInt32) → Afn Z h' a .byte n (fun z => if z = i then .int x.toInt8.toInt32 else f z) → Goes p e below P (T'.setTop { g with pc := g.pc + 1, stack := rest })) : Goes p e below P (T.setTop g) := by
  obtain ⟨cl, A1, S, -⟩ := id A
  obtain ⟨T', h', X', e', W, st⟩ := stB X hx hZ eT A1 (j := j) (by rw [S]; exact own_ix hj hi) hg hs hd
  rw [own_ixn hj] at X' W
  exact Goes.step st (k T' h' X' e' W (A.set W (fits_nar_byte x)))
theorem Goes.castore (X : Stand p l e R s m args below meth c T locs cells slots) (hx : p.tables.exec = Jvm.exec) (hZ : Z.Warmed39 s.vm) (eT : T.heap = h) (A : Afn Z h a .char n f) {j : Int32} {i : Nat} (hj : j.toInt = (i : Int)) (hi : i < n) {x : Int32} {g : JFrame} (hg : g.method = m) {rest : List Value} (hs : g.stack = .int x :: .int j :: .ref a :: rest) (hd : decode c.code g.pc = .ok (.castore, 1)) {P : State → Outcome → Prop}
    (k : ∀ T' h', Stand p l e R s m args below meth c T' (locs ++ [⟨a, i⟩]) cells slots → T'.heap = h' → Wr h h' a i (.int (nar .char x)) → Afn Z h' a .char n (fun z => if z = i then .int (nar .char x) else f z) → Goes p e below P (T'.setTop { g with pc := g.pc + 1, stack := rest })) : Goes p e below P (T.setTop g) := by
  obtain ⟨cl, A1, S, -⟩ := id A
  obtain ⟨T', h', X', e', W, st⟩ := stC X hx hZ eT A1 (j := j) (by rw [S]; exact own_ix hj hi) hg hs hd
  rw [own_ixn hj] at X' W
  exact Goes.step st (k T' h' X' e' W (A.set W (fits_nar_char x)))
theorem Goes.iaload (X : Stand p l e R s m args below meth c T locs cells slots) (hx : p.tables.exec = Jvm.exec) (hZ : Z.Warmed39 s.vm) (eT : T.heap = h) (A : Afn Z h a .int n f) {j : Int32} {i : Nat} (hj : j.toInt = (i : Int)) (hi : i < n) (hv : f i = v) {g : JFrame} (hg : g.method = m) {rest : List Value} (hs : g.stack = .int j :: .ref a :: rest) (hd : decode c.code g.pc = .ok (.iaload, 1)) {P : State → Outcome → Prop}
    (k : Goes p e below P (T.setTop { g with pc := g.pc + 1, stack := v :: rest })) : Goes p e below P (T.setTop g) := by
  obtain ⟨cl, A1, S, B, H, G⟩ := A
  exact Goes.step (fun tgt q => X.iaload hx (j := j) (v := v) (by rw [eT]; exact A1.1) (State.isArrayOf_alike hZ.alike A1.2.1) A1.2.2 (by rw [S]; exact own_ix hj hi) (by rw [own_ixn hj, ← hv]; exact H i hi) hg hs hd tgt q) k
theorem Goes.laload (X : Stand p l e R s m args below meth c T locs cells slots) (hx : p.tables.exec = Jvm.exec) (hZ : Z.Warmed39 s.vm) (eT : T.heap = h) (A : Afn Z h a .long n f) {j : Int32} {i : Nat} (hj : j.toInt = (i : Int)) (hi : i < n) (hv : f i = v) {g : JFrame} (hg : g.method = m) {rest : List Value} (hs : g.stack = .int j :: .ref a :: rest) (hd : decode c.code g.pc = .ok (.laload, 1)) {P : State → Outcome → Prop}
    (k : Goes p e below P (T.setTop { g with pc := g.pc + 1, stack := v :: rest })) : Goes p e below P (T.setTop g) := by
  obtain ⟨cl, A1, S, B, H, G⟩ := A
  exact Goes.step (fun tgt q => X.laload hx (j := j) (v := v) (by rw [eT]; exact A1.1) (State.isArrayOf_alike hZ.alike A1.2.1) A1.2.2 (by rw [S]; exact own_ix hj hi) (by rw [own_ixn hj, ← hv]; exact H i hi) hg hs hd tgt q) k
theorem Goes.baload (X : Stand p l e R s m args below meth c T locs cells slots) (hx : p.tables.exec = Jvm.exec) (hZ : Z.Warmed39 s.vm) (eT : T.heap = h) (A : Afn Z h a .byte n f) {j : Int32} {i : Nat} (hj : j.toInt = (i : Int)) (hi : i < n) (hv : f i = v) {g : JFrame} (hg : g.method = m) {rest : List Value} (hs : g.stack = .int j :: .ref a :: rest) (hd : decode c.code g.pc = .ok (.baload, 1)) {P : State → Outcome → Prop}
    (k : Goes p e below P (T.setTop { g with pc := g.pc + 1, stack := v :: rest })) : Goes p e below P (T.setTop g) := by
  obtain ⟨cl, A1, S, B, H, G⟩ := A
  exact Goes.step (fun tgt q => X.baloadBytes hx (j := j) (v := v) (by rw [eT]; exact A1.1) (State.isArrayOf_alike hZ.alike A1.2.1) A1.2.2 (by rw [S]; exact own_ix hj hi) (by rw [own_ixn hj, ← hv]; exact H i hi) hg hs hd tgt q) k
theorem Goes.caload (X : Stand p l e R s m args below meth c T locs cells slots) (hx : p.tables.exec = Jvm.exec) (hZ : Z.Warmed39 s.vm) (eT : T.heap = h) (A : Afn Z h a .char n f) {j : Int32} {i : Nat} (hj : j.toInt = (i : Int)) (hi : i < n) (hv : f i = v) {g : JFrame} (hg : g.method = m) {rest : List Value} (hs : g.stack = .int j :: .ref a :: rest) (hd : decode c.code g.pc = .ok (.caload, 1)) {P : State → Outcome → Prop}
    (k : Goes p e below P (T.setTop { g with pc := g.pc + 1, stack := v :: rest })) : Goes p e below P (T.setTop g) := by
  obtain ⟨cl, A1, S, B, H, G⟩ := A
  exact Goes.step (fun tgt q => X.caload hx (j := j) (v := v) (by rw [eT]; exact A1.1) (State.isArrayOf_alike hZ.alike A1.2.1) A1.2.2 (by rw [S]; exact own_ix hj hi) (by rw [own_ixn hj, ← hv]; exact H i hi) hg hs hd tgt q) k
theorem Goes.aaload {C : FieldType} (X : Stand p l e R s m args below meth c T locs cells slots) (hx : p.tables.exec = Jvm.exec) (hZ : Z.Warmed39 s.vm) (eT : T.heap = h) (A : Afn Z h a C n f) (hC : C.isReference = true) {j : Int32} {i : Nat} (hj : j.toInt = (i : Int)) (hi : i < n) (hv : f i = v) {g : JFrame} (hg : g.method = m) {rest : List Value} (hs : g.stack = .int j :: .ref a :: rest) (hd : decode c.code g.pc = .ok (.aaload, 1)) {P : State → Outcome → Prop}
    (k : Goes p e below P (T.setTop { g with pc := g.pc + 1, stack := v :: rest })) : Goes p e below P (T.setTop g) := by
  obtain ⟨cl, A1, S, B, H, G⟩ := A
  exact Goes.step (fun tgt q => X.aaload hx (j := j) (v := v) (by rw [eT]; exact A1.1) (State.isArrayOf_alike hZ.alike A1.2.1) hC A1.2.2 (by rw [S]; exact own_ix hj hi) (by rw [own_ixn hj, ← hv]; exact H i hi) hg hs hd tgt q) k
theorem Goes.alen (X : Stand p l e R s m args below meth c T locs cells slots) (hx : p.tables.exec = Jvm.exec) (hZ : Z.Warmed39 s.vm) (eT : T.heap = h) (A : Afn Z h a ty n f) {z : Int32} (hz : z.toInt = (n : Int)) {g : JFrame} (hg : g.method = m) {rest : List Value} (hs : g.stack = .ref a :: rest) (hd : decode c.code g.pc = .ok (.arraylength, 1)) {P : State → Outcome → Prop}
    (k : Goes p e below P (T.setTop { g with pc := g.pc + 1, stack := .int z :: rest })) : Goes p e below P (T.setTop g) := by
  obtain ⟨cl, A1, S, B, H, G⟩ := A
  have q : cl.slots.size.toInt32 = z := by rw [S, ← Int32.toInt_inj, hz]; exact len_toInt B
  exact Goes.step (fun tgt r => X.arraylength hx (by rw [eT]; exact A1.1) (State.isArrayOf_alike hZ.alike A1.2.1) hg hs hd tgt (by rw [q]; exact r)) k
theorem Goes.clone (X : Stand p l e R s m args below meth c T locs cells slots) (hx : p.tables.exec = Jvm.exec) (hZ : Z.Warmed39 s.vm) {own ad : String} {index : Nat} (hown : s.vm.findClass own = some m.cls)
    (w1 : (Jvm.Cond.methodLink own index ⟨ad, "clone", "()Ljava/lang/Object;"⟩).before a0 Z = true) (w2 : (Jvm.Cond.sameMethod ad "java/lang/Object" "clone" "()Ljava/lang/Object;").before a0 Z = true) (w3 : (Jvm.Cond.native ⟨"java/lang/Object", "clone", "()Ljava/lang/Object;"⟩).before a0 Z = true)
    (w4 : (Jvm.Cond.instanceMethod ⟨"java/lang/Object", "clone", "()Ljava/lang/Object;"⟩).before a0 Z = true) (w5 : (Jvm.Cond.selects ad ⟨ad, "clone", "()Ljava/lang/Object;"⟩ ⟨"java/lang/Object", "clone", "()Ljava/lang/Object;"⟩).before a0 Z = true) (w6 : (Jvm.Cond.castable ad "java/lang/Cloneable").before a0 Z = true)
    (eT : T.heap = h) (A : Afn Z h a ty n f) (E : Exa Z h a ad) {g : JFrame} (hg : g.method = m) (hsize : g.locals.size = c.maxLocals) {rest : List Value} (hs : g.stack = .ref a :: rest) (hd : decode c.code g.pc = .ok (.invokevirtual index, 3))
    (hf : 1 ≤ R.frames) {W cap : Nat} (hW : 2 * g.monitorRoom + (rest.map fun v => v.category).sum ≤ W) (hl : W + 14 ≤ R.locals) (hcap : n ≤ cap) (hc : cells + 1 ≤ R.cells) (hsl : slots + cap ≤ R.slots) {P : State → Outcome → Prop}
    (k : ∀ T' h' b, b = h.size → Stand p l e R s m args below meth c T' locs (cells + 1) (slots + cap) → T'.heap = h' → Ext h h' → Afn Z h' b ty n f → Exa Z h' b ad → Goes p e below P (T'.setTop { g with pc := g.pc + 3, stack := .ref b :: rest })) : Goes p e below P (T.setTop g) := by
  obtain ⟨cl, A1, S, B, H, G⟩ := id A
  have FC : FitC Z cl := fitC_of A1 fun i hi v hv => by
    rw [S] at hi
    rw [H i hi] at hv
    cases hv
    exact G i hi
  obtain ⟨T', h', X', e', ex, A', E', st⟩ := cloneA X hx hZ hown w1 w2 w3 w4 w5 w6 eT A1 E FC hg hsize hs hd hf hW hl (by rw [S]; exact hcap) hc hsl
  exact Goes.step st (k T' h' _ rfl X' e' ex ⟨cloneOf cl, A', S, B, H, G⟩ E')
theorem Goes.callP (X : Stand p l e R s m args below meth c T locs cells slots) (hx : p.tables.exec = Jvm.exec) (hZ : Z.Warmed39 s.vm) {own C0 C1 : String} {index : Nat} {y z : MethodName} {bytes : ByteArray} {maxL : Nat} {ret : Option FieldType} {rm : Room} {as : List Value} {Q : Option Value → Heap → List Loc → Prop} (hown : s.vm.findClass own = some m.cls)
    (w1 : (Jvm.Cond.methodLink own index y).before a0 Z = true) (w2 : (Jvm.Cond.instanceMethod y).before a0 Z = true) (w3 : (Jvm.Cond.privateMethod y).before a0 Z = true) (w4 : (Jvm.Cond.selects C0 z z).before a0 Z = true) (hz : z.cls = y.cls) (w5 : (Jvm.Cond.code y bytes maxL ret).before a0 Z = true) (w6 : (Jvm.Cond.initialized y.cls).before a0 Z = true) (hy : y.cls ≠ "java/lang/invoke/MethodHandle" ∧ y.cls ≠ "java/lang/invoke/VarHandle")
    (eT : T.heap = h) {b : Addr} (E : Exa Z h b C1) (hM : Con l Z y bytes maxL ret rm (.ref b :: as).toArray h Q) {W : Nat} (hf : rm.frames + 1 ≤ R.frames) (hl : W + (maxL + 11) + rm.locals ≤ R.locals) (hc : cells + rm.cells ≤ R.cells) (hs : slots + rm.slots ≤ R.slots)
    {g : JFrame} (hg : g.method = m) (hsize : g.locals.size = c.maxLocals) {rest : List Value} {ps : List FieldType} {r : Option FieldType} (hd : parseMethodDescriptor y.desc = some ⟨ps, r⟩) (hlen : as.length = ps.length) (hstack : g.stack = as.reverse ++ .ref b :: rest) (hW : 2 * g.monitorRoom + (rest.map fun v => v.category).sum ≤ W) (hdg : decode c.code g.pc = .ok (.invokevirtual index, 3))
    {P : State → Outcome → Prop} (k : ∀ v T' L, Stand p l e R s m args below meth c T' (locs ++ L) (cells + rm.cells) (slots + rm.slots) → Q v T'.heap L → Goes p e below P (T'.setTop { g with pc := g.pc + 3, stack := v.toList ++ rest })) :
    Goes p e below P (T.setTop g) := by
  have hpr := Cond.privateMethod_at (mvP hZ w3 (args := args))
  have hsel : (Jvm.Cond.selects y.cls y y).before args s = true := by
    obtain ⟨c2, r2, m2, -, -, q3, -, kP, hkP, hkPi⟩ := Cond.selects_spec (mvT (args := args) hZ w4)
    exact selects_self_of_private (hz ▸ findClass_of_methodNamed q3) hkP hkPi hpr (mvT hZ w2) hy
  obtain ⟨cell, hcell, hobj⟩ := E.cell
  obtain ⟨v, vm₁, ⟨T', L', k', n'⟩, -, X', ⟨L, hQ, l', y', z'⟩, st⟩ := X.privateBack hx (y := y) hown (mvT hZ w1) (mvT hZ w2) hsel hpr (mvT hZ w5) hy (backOf (W := W) (hM []) hZ w5 w6 hf hl) (g := g) hg hsize (Steps.refl _) (a := b) (by rw [eT]; exact hcell) hobj (argsL := as) (rest := rest) (lenOf hd hlen) hstack hW hdg (fun _ _ => ⟨rfl, eT, hc, hs⟩)
  try dsimp only at X' hQ l' y' z' st
  subst l' y' z'
  exact Goes.tr st (k v T' L X' hQ)
theorem Afn.of_arv {k : ClassId} {z : Int32} {vs : List Value} {d : Value} (F : Arv Z h a k ty z vs d) (q : z.toInt = (n : Int)) : Afn Z h a ty n (fun i => vs.getD i d) := by
  obtain ⟨c, A', -, S, q3, H, G⟩ := F
  rw [own_ixn q] at S
  refine ⟨c, A', S, ?_, fun i hi => H i (by rw [S]; exact hi), fun i hi => G i (by rw [S]; exact hi)⟩
  have := z.toInt_lt
  omega
theorem Afn.to_arv {z : Int32} {d : Value} (F : Afn Z h a ty n f) (q : z.toInt = (n : Int)) : ∃ k, Arv Z h a k ty z ((List.range n).map f) d := by
  obtain ⟨c, A, S, B, H, G⟩ := F
  have e : ∀ i, i < n → ((List.range n).map f).getD i d = f i := fun i hi => by simp [List.getD_eq_getElem?_getD, hi]
  refine ⟨c.cls, c, A, rfl, by rw [S, own_ixn q], by rw [Int32.lt_iff_toInt_lt, q]; simp only [Int32.reduceToInt]; omega, fun i hi => ?_, fun i hi => ?_⟩
  · rw [e i (S ▸ hi)]; exact H i (S ▸ hi)
  · rw [e i (S ▸ hi)]; exact G i (S ▸ hi)
theorem own_cp {n n' sp dp nn : Nat} {f g : Nat → Value} {d d' : Value} (h1 : sp + nn ≤ n) (h2 : dp + nn ≤ n') : ∀ i, i < n' →
    (((List.range n').map g).take dp ++ (List.range nn).map (fun i => ((List.range n).map f).getD (sp + i) d) ++ ((List.range n').map g).drop (dp + nn)).getD i d' = if dp ≤ i ∧ i < dp + nn then f (sp + (i - dp)) else g i := fun i hi => by
  have e : ∀ j, j < nn → ((List.range n).map f).getD (sp + j) d = f (sp + j) := fun j hj => by
    have hh : sp + j < n := by omega
    simp [List.getD_eq_getElem?_getD, hh]
  rw [List.getD_eq_getElem?_getD]
  by_cases q1 : i < dp
  · have q2 : ¬ (dp ≤ i ∧ i < dp + nn) := by omega
    rw [if_neg q2, List.append_assoc, List.getElem?_append_left (by simp; omega)]
    simp [List.getElem?_take, q1, hi]
  · by_cases q2 : i < dp + nn
    · rw [if_pos ⟨by omega, q2⟩, List.getElem?_append_left (by simp; omega), List.getElem?_append_right (by simp; omega)]
      have hl : (((List.range n').map g).take dp).length = dp := by simp; omega
      rw [hl, List.getElem?_map, List.getElem?_range (by omega : i - dp < nn)]
      simp only [Option.map_some, Option.getD_some]
      exact e _ (by omega)
    · rw [if_neg (by omega), List.getElem?_append_right (by simp; omega)]
      have hl : (((List.range n').map g).take dp ++ (List.range nn).map (fun i => ((List.range n).map f).getD (sp + i) d)).length = dp + nn := by simp; omega
      rw [hl, List.getElem?_drop, show dp + nn + (i - (dp + nn)) = i from by omega]
      simp [hi]
/-- System.arraycopy between two arrays of one primitive kind -/
theorem Goes.acopy {n' sp dp nn : Nat} {g' : Nat → Value} {z z' zs zd zn : Int32} (X : Stand p l e R s m args below meth c T locs cells slots) (hx : p.tables.exec = Jvm.exec) (hZ : Z.Warmed39 s.vm) {own : String} {index : Nat} (hown : s.vm.findClass own = some m.cls)
    (w1 : (Jvm.Cond.methodLink own index Jvm.Stand.acN).before a0 Z = true) (w2 : (Jvm.Cond.native Jvm.Stand.acN).before a0 Z = true) (w3 : (Jvm.Cond.static Jvm.Stand.acN).before a0 Z = true) (w4 : (Jvm.Cond.initialized "java/lang/System").before a0 Z = true) (eT : T.heap = h)
    (A : Afn Z h a ty n f) (B : Afn Z h b ty n' g') (hty : refKind ty = false) (hz : z.toInt = (n : Int)) (hz' : z'.toInt = (n' : Int)) (hzs : zs.toInt = (sp : Int)) (hzd : zd.toInt = (dp : Int)) (hzn : zn.toInt = (nn : Int)) (h4 : sp + nn ≤ n) (h5 : dp + nn ≤ n') {n0 : Nat} (N : Fr n0 locs) (ge : n0 ≤ b)
    {g : JFrame} (hg : g.method = m) (hsize : g.locals.size = c.maxLocals) {rest : List Value} (hs : g.stack = .int zn :: .int zd :: .ref b :: .int zs :: .ref a :: rest) (hd : decode c.code g.pc = .ok (.invokestatic index, 3))
    (hf : 1 ≤ R.frames) {W : Nat} (hW : 2 * g.monitorRoom + (rest.map fun v => v.category).sum ≤ W) (hlo : W + (nativeFrameWords "java/lang/System" "arraycopy" 5 + 11) ≤ R.locals) {P : State → Outcome → Prop}
    (k : ∀ T' h' L, Stand p l e R s m args below meth c T' L cells slots → T'.heap = h' → Fr n0 L → Keep h h' [b] → Afn Z h' b ty n' (fun i => if dp ≤ i ∧ i < dp + nn then f (sp + (i - dp)) else g' i) → Goes p e below P (T'.setTop { g with pc := g.pc + 3, stack := rest })) : Goes p e below P (T.setTop g) := by
  have ng : ∀ {x : Int32} {i : Nat}, x.toInt = (i : Int) → ¬ x < 0 := fun {x i} q => by rw [Int32.lt_iff_toInt_lt, q]; simp only [Int32.reduceToInt]; omega
  obtain ⟨k1, A'⟩ := A.to_arv (d := .null) hz
  obtain ⟨k2, B'⟩ := B.to_arv (d := .null) hz'
  obtain ⟨T', h', L, X', e', N', K, C, st⟩ := cpA X hx hZ hown w1 w2 w3 w4 eT A' B' (Or.inl ⟨rfl, hty⟩) (sp := zs) (dp := zd) (nn := zn) (ng hzs) (ng hzd) (ng hzn) (by rw [own_ixn hz, own_ixn hzs, own_ixn hzn]; exact h4) (by rw [own_ixn hz', own_ixn hzd, own_ixn hzn]; exact h5) rfl (by simp [own_ixn hzd, own_ixn hzn]; exact h5) N ge hg hsize hs hd hf hW hlo
  rw [own_ixn hzd, own_ixn hzn, own_ixn hzs] at C
  exact Goes.step st (k T' h' L X' e' N' K ((Afn.of_arv C hz').congr (own_cp h4 h5)))
theorem own_len {t : Term} {cl : Cell} {z : Int32} (ev : t.eval args Z none [] Z = some (.ref a)) (ha : Z.arrayAt? a = some cl) (q : (Term.length t).eval args Z none [] Z = some (.int z)) : cl.slots.size < 2 ^ 31 ∧ cl.slots.size.toInt32 = z := by
  by_cases hl : cl.slots.size < 2 ^ 31
  · rw [len_f ev ha hl] at q
    exact ⟨hl, Value.int.inj (Option.some.inj q)⟩
  · simp [Term.eval, ev, ha, hl] at q
theorem own_eqR {t u : Term} (hb : u.eval args Z none [] Z = some (.ref a)) (q : (Jvm.Cond.eq t u).value args Z none Z [] = some true) : t.eval args Z none [] Z = some (.ref a) := by
  obtain ⟨x, y, e1, e2, k1, k2⟩ := cmp_v (Or.inl q)
  cases hb.symm.trans e2
  have hx : x.isRef = true := k2.2
  have hh := gotT (eq_R e1 e2 hx rfl) q
  rw [e1, hh]
end OwnHeap
theorem own_d5_0 : decode jdk_92_method_1_code 0 = .ok (.iload_n 0, 1) := by decide +kernel
theorem own_d5_1 : decode jdk_92_method_1_code 1 = .ok (.bipush 6, 2) := by decide +kernel
theorem own_d5_3 : decode jdk_92_method_1_code 3 = .ok (.ishr, 1) := by decide +kernel
theorem own_d5_4 : decode jdk_92_method_1_code 4 = .ok (.ireturn, 1) := by decide +kernel
theorem own_d10_0 : decode jdk_29_method_69_code 0 = .ok (.iload_n 0, 1) := by decide +kernel
theorem own_d10_1 : decode jdk_29_method_69_code 1 = .ok (.iload_n 1, 1) := by decide +kernel
theorem own_d10_2 : decode jdk_29_method_69_code 2 = .ok (.if_icmp .gt 7, 3) := by decide +kernel
theorem own_d10_9 : decode jdk_29_method_69_code 9 = .ok (.iload_n 1, 1) := by decide +kernel
theorem own_d10_10 : decode jdk_29_method_69_code 10 = .ok (.ireturn, 1) := by decide +kernel
theorem own_d10_5 : decode jdk_29_method_69_code 5 = .ok (.iload_n 0, 1) := by decide +kernel
theorem own_d10_6 : decode jdk_29_method_69_code 6 = .ok (.goto 4, 3) := by decide +kernel
theorem own_d11_0 : decode jdk_29_method_65_code 0 = .ok (.iload_n 0, 1) := by decide +kernel
theorem own_d11_1 : decode jdk_29_method_65_code 1 = .ok (.iload_n 1, 1) := by decide +kernel
theorem own_d11_2 : decode jdk_29_method_65_code 2 = .ok (.if_icmp .lt 7, 3) := by decide +kernel
theorem own_d11_9 : decode jdk_29_method_65_code 9 = .ok (.iload_n 1, 1) := by decide +kernel
theorem own_d11_10 : decode jdk_29_method_65_code 10 = .ok (.ireturn, 1) := by decide +kernel
theorem own_d11_5 : decode jdk_29_method_65_code 5 = .ok (.iload_n 0, 1) := by decide +kernel
theorem own_d11_6 : decode jdk_29_method_65_code 6 = .ok (.goto 4, 3) := by decide +kernel
theorem own_d7_0 : decode prog_26_method_10_code 0 = .ok (.iload_n 0, 1) := by decide +kernel
theorem own_d7_1 : decode prog_26_method_10_code 1 = .ok (.bipush 64, 2) := by decide +kernel
theorem own_d7_3 : decode prog_26_method_10_code 3 = .ok (.iadd, 1) := by decide +kernel
theorem own_d7_4 : decode prog_26_method_10_code 4 = .ok (.iconst 1, 1) := by decide +kernel
theorem own_d7_5 : decode prog_26_method_10_code 5 = .ok (.isub, 1) := by decide +kernel
theorem own_d7_6 : decode prog_26_method_10_code 6 = .ok (.bipush 64, 2) := by decide +kernel
theorem own_d7_8 : decode prog_26_method_10_code 8 = .ok (.idiv, 1) := by decide +kernel
theorem own_d7_9 : decode prog_26_method_10_code 9 = .ok (.ireturn, 1) := by decide +kernel
theorem own_d15_0 : decode jdk_33_method_46_code 0 = .ok (.iload_n 0, 1) := by decide +kernel
theorem own_d15_1 : decode jdk_33_method_46_code 1 = .ok (.iload_n 0, 1) := by decide +kernel
theorem own_d15_2 : decode jdk_33_method_46_code 2 = .ok (.ineg, 1) := by decide +kernel
theorem own_d15_3 : decode jdk_33_method_46_code 3 = .ok (.iand, 1) := by decide +kernel
theorem own_d15_4 : decode jdk_33_method_46_code 4 = .ok (.ireturn, 1) := by decide +kernel
theorem own_d4_0 : decode jdk_92_method_6_code 0 = .ok (.aload_n 0, 1) := by decide +kernel
theorem own_d4_1 : decode jdk_92_method_6_code 1 = .ok (.iload_n 1, 1) := by decide +kernel
theorem own_d4_2 : decode jdk_92_method_6_code 2 = .ok (.iconst 1, 1) := by decide +kernel
theorem own_d4_3 : decode jdk_92_method_6_code 3 = .ok (.isub, 1) := by decide +kernel
theorem own_d4_4 : decode jdk_92_method_6_code 4 = .ok (.invokestatic 52, 3) := by decide +kernel
theorem own_d4_7 : decode jdk_92_method_6_code 7 = .ok (.iconst 1, 1) := by decide +kernel
theorem own_d4_8 : decode jdk_92_method_6_code 8 = .ok (.iadd, 1) := by decide +kernel
theorem own_d4_9 : decode jdk_92_method_6_code 9 = .ok (.newarray .long, 2) := by decide +kernel
theorem own_d4_11 : decode jdk_92_method_6_code 11 = .ok (.putfield 11, 3) := by decide +kernel
theorem own_d4_14 : decode jdk_92_method_6_code 14 = .ok (.return_, 1) := by decide +kernel
theorem own_d2_0 : decode jdk_92_method_4_code 0 = .ok (.aload_n 0, 1) := by decide +kernel
theorem own_d2_1 : decode jdk_92_method_4_code 1 = .ok (.invokespecial 21, 3) := by decide +kernel
theorem own_d2_4 : decode jdk_92_method_4_code 4 = .ok (.aload_n 0, 1) := by decide +kernel
theorem own_d2_5 : decode jdk_92_method_4_code 5 = .ok (.iconst 0, 1) := by decide +kernel
theorem own_d2_6 : decode jdk_92_method_4_code 6 = .ok (.putfield 7, 3) := by decide +kernel
theorem own_d2_9 : decode jdk_92_method_4_code 9 = .ok (.aload_n 0, 1) := by decide +kernel
theorem own_d2_10 : decode jdk_92_method_4_code 10 = .ok (.iconst 0, 1) := by decide +kernel
theorem own_d2_11 : decode jdk_92_method_4_code 11 = .ok (.putfield 24, 3) := by decide +kernel
theorem own_d2_14 : decode jdk_92_method_4_code 14 = .ok (.aload_n 0, 1) := by decide +kernel
theorem own_d2_15 : decode jdk_92_method_4_code 15 = .ok (.bipush 64, 2) := by decide +kernel
theorem own_d2_17 : decode jdk_92_method_4_code 17 = .ok (.invokevirtual 27, 3) := by decide +kernel
theorem own_d2_20 : decode jdk_92_method_4_code 20 = .ok (.aload_n 0, 1) := by decide +kernel
theorem own_d2_21 : decode jdk_92_method_4_code 21 = .ok (.iconst 0, 1) := by decide +kernel
theorem own_d2_22 : decode jdk_92_method_4_code 22 = .ok (.putfield 24, 3) := by decide +kernel
theorem own_d2_25 : decode jdk_92_method_4_code 25 = .ok (.return_, 1) := by decide +kernel
theorem own_d9_0 : decode jdk_65_method_124_code 0 = .ok (.iload_n 1, 1) := by decide +kernel
theorem own_d9_1 : decode jdk_65_method_124_code 1 = .ok (.aload_n 0, 1) := by decide +kernel
theorem own_d9_2 : decode jdk_65_method_124_code 2 = .ok (.arraylength, 1) := by decide +kernel
theorem own_d9_3 : decode jdk_65_method_124_code 3 = .ok (.if_icmp .ne 11, 3) := by decide +kernel
theorem own_d9_14 : decode jdk_65_method_124_code 14 = .ok (.iload_n 1, 1) := by decide +kernel
theorem own_d9_15 : decode jdk_65_method_124_code 15 = .ok (.newarray .long, 2) := by decide +kernel
theorem own_d9_17 : decode jdk_65_method_124_code 17 = .ok (.astore_n 2, 1) := by decide +kernel
theorem own_d9_18 : decode jdk_65_method_124_code 18 = .ok (.aload_n 0, 1) := by decide +kernel
theorem own_d9_19 : decode jdk_65_method_124_code 19 = .ok (.iconst 0, 1) := by decide +kernel
theorem own_d9_20 : decode jdk_65_method_124_code 20 = .ok (.aload_n 2, 1) := by decide +kernel
theorem own_d9_21 : decode jdk_65_method_124_code 21 = .ok (.iconst 0, 1) := by decide +kernel
theorem own_d9_22 : decode jdk_65_method_124_code 22 = .ok (.aload_n 0, 1) := by decide +kernel
theorem own_d9_23 : decode jdk_65_method_124_code 23 = .ok (.arraylength, 1) := by decide +kernel
theorem own_d9_24 : decode jdk_65_method_124_code 24 = .ok (.iload_n 1, 1) := by decide +kernel
theorem own_d9_25 : decode jdk_65_method_124_code 25 = .ok (.invokestatic 304, 3) := by decide +kernel
theorem own_d9_28 : decode jdk_65_method_124_code 28 = .ok (.invokestatic 150, 3) := by decide +kernel
theorem own_d9_31 : decode jdk_65_method_124_code 31 = .ok (.aload_n 2, 1) := by decide +kernel
theorem own_d9_32 : decode jdk_65_method_124_code 32 = .ok (.areturn, 1) := by decide +kernel
theorem own_d8_0 : decode jdk_92_method_13_code 0 = .ok (.aload_n 0, 1) := by decide +kernel
theorem own_d8_1 : decode jdk_92_method_13_code 1 = .ok (.getfield 11, 3) := by decide +kernel
theorem own_d8_4 : decode jdk_92_method_13_code 4 = .ok (.aload_n 0, 1) := by decide +kernel
theorem own_d8_5 : decode jdk_92_method_13_code 5 = .ok (.getfield 7, 3) := by decide +kernel
theorem own_d8_8 : decode jdk_92_method_13_code 8 = .ok (.invokestatic 59, 3) := by decide +kernel
theorem own_d8_11 : decode jdk_92_method_13_code 11 = .ok (.areturn, 1) := by decide +kernel
theorem own_d6_0 : decode prog_26_method_2_code 0 = .ok (.aload_n 0, 1) := by decide +kernel
theorem own_d6_1 : decode prog_26_method_2_code 1 = .ok (.invokespecial 12, 3) := by decide +kernel
theorem own_d6_4 : decode prog_26_method_2_code 4 = .ok (.iload_n 2, 1) := by decide +kernel
theorem own_d6_5 : decode prog_26_method_2_code 5 = .ok (.invokestatic 15, 3) := by decide +kernel
theorem own_d6_8 : decode prog_26_method_2_code 8 = .ok (.istore_n 3, 1) := by decide +kernel
theorem own_d6_9 : decode prog_26_method_2_code 9 = .ok (.aload_n 0, 1) := by decide +kernel
theorem own_d6_10 : decode prog_26_method_2_code 10 = .ok (.aload_n 1, 1) := by decide +kernel
theorem own_d6_11 : decode prog_26_method_2_code 11 = .ok (.invokevirtual 19, 3) := by decide +kernel
theorem own_d6_14 : decode prog_26_method_2_code 14 = .ok (.iconst 1, 1) := by decide +kernel
theorem own_d6_15 : decode prog_26_method_2_code 15 = .ok (.iload_n 3, 1) := by decide +kernel
theorem own_d6_16 : decode prog_26_method_2_code 16 = .ok (.invokestatic 23, 3) := by decide +kernel
theorem own_d6_19 : decode prog_26_method_2_code 19 = .ok (.invokestatic 29, 3) := by decide +kernel
theorem own_d6_22 : decode prog_26_method_2_code 22 = .ok (.putfield 35, 3) := by decide +kernel
theorem own_d6_25 : decode prog_26_method_2_code 25 = .ok (.aload_n 0, 1) := by decide +kernel
theorem own_d6_26 : decode prog_26_method_2_code 26 = .ok (.aload_n 0, 1) := by decide +kernel
theorem own_d6_27 : decode prog_26_method_2_code 27 = .ok (.getfield 35, 3) := by decide +kernel
theorem own_d6_30 : decode prog_26_method_2_code 30 = .ok (.arraylength, 1) := by decide +kernel
theorem own_d6_31 : decode prog_26_method_2_code 31 = .ok (.iconst 1, 1) := by decide +kernel
theorem own_d6_32 : decode prog_26_method_2_code 32 = .ok (.iadd, 1) := by decide +kernel
theorem own_d6_33 : decode prog_26_method_2_code 33 = .ok (.newarray .int, 2) := by decide +kernel
theorem own_d6_35 : decode prog_26_method_2_code 35 = .ok (.putfield 39, 3) := by decide +kernel
theorem own_d6_38 : decode prog_26_method_2_code 38 = .ok (.aload_n 0, 1) := by decide +kernel
theorem own_d6_39 : decode prog_26_method_2_code 39 = .ok (.iload_n 2, 1) := by decide +kernel
theorem own_d6_40 : decode prog_26_method_2_code 40 = .ok (.putfield 43, 3) := by decide +kernel
theorem own_d6_43 : decode prog_26_method_2_code 43 = .ok (.iconst 0, 1) := by decide +kernel
theorem own_d6_44 : decode prog_26_method_2_code 44 = .ok (.istore 4, 2) := by decide +kernel
theorem own_d6_46 : decode prog_26_method_2_code 46 = .ok (.iload 4, 2) := by decide +kernel
theorem own_d6_48 : decode prog_26_method_2_code 48 = .ok (.iload_n 3, 1) := by decide +kernel
theorem own_d6_49 : decode prog_26_method_2_code 49 = .ok (.if_icmp .ge 28, 3) := by decide +kernel
theorem own_d6_77 : decode prog_26_method_2_code 77 = .ok (.iconst 1, 1) := by decide +kernel
theorem own_d6_78 : decode prog_26_method_2_code 78 = .ok (.istore 4, 2) := by decide +kernel
theorem own_d6_80 : decode prog_26_method_2_code 80 = .ok (.iload 4, 2) := by decide +kernel
theorem own_d6_82 : decode prog_26_method_2_code 82 = .ok (.iload_n 3, 1) := by decide +kernel
theorem own_d6_83 : decode prog_26_method_2_code 83 = .ok (.if_icmp .gt 42, 3) := by decide +kernel
theorem own_d6_125 : decode prog_26_method_2_code 125 = .ok (.return_, 1) := by decide +kernel
theorem own_d1_0 : decode prog_26_method_1_code 0 = .ok (.aload_n 0, 1) := by decide +kernel
theorem own_d1_1 : decode prog_26_method_1_code 1 = .ok (.new 1, 3) := by decide +kernel
theorem own_d1_4 : decode prog_26_method_1_code 4 = .ok (.dup, 1) := by decide +kernel
theorem own_d1_5 : decode prog_26_method_1_code 5 = .ok (.invokespecial 3, 3) := by decide +kernel
theorem own_d1_8 : decode prog_26_method_1_code 8 = .ok (.iconst 0, 1) := by decide +kernel
theorem own_d1_9 : decode prog_26_method_1_code 9 = .ok (.invokespecial 7, 3) := by decide +kernel
theorem own_d1_12 : decode prog_26_method_1_code 12 = .ok (.return_, 1) := by decide +kernel
theorem own_d17_0 : decode prog_26_method_4_code 0 = .ok (.aload_n 0, 1) := by decide +kernel
theorem own_d17_1 : decode prog_26_method_4_code 1 = .ok (.getfield 35, 3) := by decide +kernel
theorem own_d17_4 : decode prog_26_method_4_code 4 = .ok (.iload_n 1, 1) := by decide +kernel
theorem own_d17_5 : decode prog_26_method_4_code 5 = .ok (.bipush 64, 2) := by decide +kernel
theorem own_d17_7 : decode prog_26_method_4_code 7 = .ok (.idiv, 1) := by decide +kernel
theorem own_d17_8 : decode prog_26_method_4_code 8 = .ok (.laload, 1) := by decide +kernel
theorem own_d17_9 : decode prog_26_method_4_code 9 = .ok (.lconst 1, 1) := by decide +kernel
theorem own_d17_10 : decode prog_26_method_4_code 10 = .ok (.iload_n 1, 1) := by decide +kernel
theorem own_d17_11 : decode prog_26_method_4_code 11 = .ok (.lshl, 1) := by decide +kernel
theorem own_d17_12 : decode prog_26_method_4_code 12 = .ok (.land, 1) := by decide +kernel
theorem own_d17_13 : decode prog_26_method_4_code 13 = .ok (.lconst 0, 1) := by decide +kernel
theorem own_d17_14 : decode prog_26_method_4_code 14 = .ok (.lcmp, 1) := by decide +kernel
theorem own_d17_15 : decode prog_26_method_4_code 15 = .ok (.ifCond .eq 7, 3) := by decide +kernel
theorem own_d17_22 : decode prog_26_method_4_code 22 = .ok (.iconst 0, 1) := by decide +kernel
theorem own_d17_23 : decode prog_26_method_4_code 23 = .ok (.ireturn, 1) := by decide +kernel
theorem own_d17_18 : decode prog_26_method_4_code 18 = .ok (.iconst 1, 1) := by decide +kernel
theorem own_d17_19 : decode prog_26_method_4_code 19 = .ok (.goto 4, 3) := by decide +kernel
theorem own_d16_0 : decode prog_26_method_7_code 0 = .ok (.aload_n 0, 1) := by decide +kernel
theorem own_d16_1 : decode prog_26_method_7_code 1 = .ok (.iload_n 1, 1) := by decide +kernel
theorem own_d16_2 : decode prog_26_method_7_code 2 = .ok (.invokevirtual 69, 3) := by decide +kernel
theorem own_d16_5 : decode prog_26_method_7_code 5 = .ok (.iload_n 2, 1) := by decide +kernel
theorem own_d16_6 : decode prog_26_method_7_code 6 = .ok (.if_icmp .eq 76, 3) := by decide +kernel
theorem own_d16_82 : decode prog_26_method_7_code 82 = .ok (.return_, 1) := by decide +kernel
theorem own_d16_9 : decode prog_26_method_7_code 9 = .ok (.aload_n 0, 1) := by decide +kernel
theorem own_d16_10 : decode prog_26_method_7_code 10 = .ok (.getfield 35, 3) := by decide +kernel
theorem own_d16_13 : decode prog_26_method_7_code 13 = .ok (.iload_n 1, 1) := by decide +kernel
theorem own_d16_14 : decode prog_26_method_7_code 14 = .ok (.bipush 64, 2) := by decide +kernel
theorem own_d16_16 : decode prog_26_method_7_code 16 = .ok (.idiv, 1) := by decide +kernel
theorem own_d16_17 : decode prog_26_method_7_code 17 = .ok (.dup2, 1) := by decide +kernel
theorem own_d16_18 : decode prog_26_method_7_code 18 = .ok (.laload, 1) := by decide +kernel
theorem own_d16_19 : decode prog_26_method_7_code 19 = .ok (.lconst 1, 1) := by decide +kernel
theorem own_d16_20 : decode prog_26_method_7_code 20 = .ok (.iload_n 1, 1) := by decide +kernel
theorem own_d16_21 : decode prog_26_method_7_code 21 = .ok (.lshl, 1) := by decide +kernel
theorem own_d16_22 : decode prog_26_method_7_code 22 = .ok (.lxor, 1) := by decide +kernel
theorem own_d16_23 : decode prog_26_method_7_code 23 = .ok (.lastore, 1) := by decide +kernel
theorem own_d16_24 : decode prog_26_method_7_code 24 = .ok (.iload_n 2, 1) := by decide +kernel
theorem own_d16_25 : decode prog_26_method_7_code 25 = .ok (.ifCond .eq 7, 3) := by decide +kernel
theorem own_d16_32 : decode prog_26_method_7_code 32 = .ok (.iconst (-1), 1) := by decide +kernel
theorem own_d16_33 : decode prog_26_method_7_code 33 = .ok (.istore_n 3, 1) := by decide +kernel
theorem own_d16_34 : decode prog_26_method_7_code 34 = .ok (.aload_n 0, 1) := by decide +kernel
theorem own_d16_35 : decode prog_26_method_7_code 35 = .ok (.getfield 43, 3) := by decide +kernel
theorem own_d16_38 : decode prog_26_method_7_code 38 = .ok (.invokestatic 15, 3) := by decide +kernel
theorem own_d16_41 : decode prog_26_method_7_code 41 = .ok (.istore 4, 2) := by decide +kernel
theorem own_d16_43 : decode prog_26_method_7_code 43 = .ok (.iload_n 1, 1) := by decide +kernel
theorem own_d16_44 : decode prog_26_method_7_code 44 = .ok (.bipush 64, 2) := by decide +kernel
theorem own_d16_46 : decode prog_26_method_7_code 46 = .ok (.idiv, 1) := by decide +kernel
theorem own_d16_47 : decode prog_26_method_7_code 47 = .ok (.iconst 1, 1) := by decide +kernel
theorem own_d16_48 : decode prog_26_method_7_code 48 = .ok (.iadd, 1) := by decide +kernel
theorem own_d16_49 : decode prog_26_method_7_code 49 = .ok (.istore 5, 2) := by decide +kernel
theorem own_d16_51 : decode prog_26_method_7_code 51 = .ok (.iload 5, 2) := by decide +kernel
theorem own_d16_53 : decode prog_26_method_7_code 53 = .ok (.iload 4, 2) := by decide +kernel
theorem own_d16_55 : decode prog_26_method_7_code 55 = .ok (.if_icmp .gt 27, 3) := by decide +kernel
theorem own_d16_58 : decode prog_26_method_7_code 58 = .ok (.aload_n 0, 1) := by decide +kernel
theorem own_d16_59 : decode prog_26_method_7_code 59 = .ok (.getfield 39, 3) := by decide +kernel
theorem own_d16_62 : decode prog_26_method_7_code 62 = .ok (.iload 5, 2) := by decide +kernel
theorem own_d16_64 : decode prog_26_method_7_code 64 = .ok (.dup2, 1) := by decide +kernel
theorem own_d16_65 : decode prog_26_method_7_code 65 = .ok (.iaload, 1) := by decide +kernel
theorem own_d16_66 : decode prog_26_method_7_code 66 = .ok (.iload_n 3, 1) := by decide +kernel
theorem own_d16_67 : decode prog_26_method_7_code 67 = .ok (.iadd, 1) := by decide +kernel
theorem own_d16_68 : decode prog_26_method_7_code 68 = .ok (.iastore, 1) := by decide +kernel
theorem own_d16_69 : decode prog_26_method_7_code 69 = .ok (.iload 5, 2) := by decide +kernel
theorem own_d16_71 : decode prog_26_method_7_code 71 = .ok (.iload 5, 2) := by decide +kernel
theorem own_d16_73 : decode prog_26_method_7_code 73 = .ok (.invokestatic 53, 3) := by decide +kernel
theorem own_d16_76 : decode prog_26_method_7_code 76 = .ok (.iadd, 1) := by decide +kernel
theorem own_d16_77 : decode prog_26_method_7_code 77 = .ok (.istore 5, 2) := by decide +kernel
theorem own_d16_79 : decode prog_26_method_7_code 79 = .ok (.goto (-28), 3) := by decide +kernel
theorem own_d16_28 : decode prog_26_method_7_code 28 = .ok (.iconst 1, 1) := by decide +kernel
theorem own_d16_29 : decode prog_26_method_7_code 29 = .ok (.goto 4, 3) := by decide +kernel
theorem own_d14_0 : decode prog_26_method_8_code 0 = .ok (.iconst 0, 1) := by decide +kernel
theorem own_d14_1 : decode prog_26_method_8_code 1 = .ok (.istore_n 2, 1) := by decide +kernel
theorem own_d14_2 : decode prog_26_method_8_code 2 = .ok (.iload_n 1, 1) := by decide +kernel
theorem own_d14_3 : decode prog_26_method_8_code 3 = .ok (.istore_n 3, 1) := by decide +kernel
theorem own_d14_4 : decode prog_26_method_8_code 4 = .ok (.iload_n 3, 1) := by decide +kernel
theorem own_d14_5 : decode prog_26_method_8_code 5 = .ok (.ifCond .le 22, 3) := by decide +kernel
theorem own_d14_27 : decode prog_26_method_8_code 27 = .ok (.iload_n 2, 1) := by decide +kernel
theorem own_d14_28 : decode prog_26_method_8_code 28 = .ok (.ireturn, 1) := by decide +kernel
theorem own_d13_0 : decode prog_26_method_9_code 0 = .ok (.iload_n 1, 1) := by decide +kernel
theorem own_d13_1 : decode prog_26_method_9_code 1 = .ok (.aload_n 0, 1) := by decide +kernel
theorem own_d13_2 : decode prog_26_method_9_code 2 = .ok (.getfield 35, 3) := by decide +kernel
theorem own_d13_5 : decode prog_26_method_9_code 5 = .ok (.arraylength, 1) := by decide +kernel
theorem own_d13_6 : decode prog_26_method_9_code 6 = .ok (.if_icmp .ne 39, 3) := by decide +kernel
theorem own_d13_45 : decode prog_26_method_9_code 45 = .ok (.iload_n 1, 1) := by decide +kernel
theorem own_d13_46 : decode prog_26_method_9_code 46 = .ok (.iconst 1, 1) := by decide +kernel
theorem own_d13_47 : decode prog_26_method_9_code 47 = .ok (.iadd, 1) := by decide +kernel
theorem own_d13_48 : decode prog_26_method_9_code 48 = .ok (.istore_n 2, 1) := by decide +kernel
theorem own_d13_49 : decode prog_26_method_9_code 49 = .ok (.aload_n 0, 1) := by decide +kernel
theorem own_d13_50 : decode prog_26_method_9_code 50 = .ok (.getfield 39, 3) := by decide +kernel
theorem own_d13_53 : decode prog_26_method_9_code 53 = .ok (.iload_n 2, 1) := by decide +kernel
theorem own_d13_54 : decode prog_26_method_9_code 54 = .ok (.aload_n 0, 1) := by decide +kernel
theorem own_d13_55 : decode prog_26_method_9_code 55 = .ok (.iload_n 1, 1) := by decide +kernel
theorem own_d13_56 : decode prog_26_method_9_code 56 = .ok (.invokevirtual 58, 3) := by decide +kernel
theorem own_d13_59 : decode prog_26_method_9_code 59 = .ok (.aload_n 0, 1) := by decide +kernel
theorem own_d13_60 : decode prog_26_method_9_code 60 = .ok (.iload_n 2, 1) := by decide +kernel
theorem own_d13_61 : decode prog_26_method_9_code 61 = .ok (.iload_n 2, 1) := by decide +kernel
theorem own_d13_62 : decode prog_26_method_9_code 62 = .ok (.invokestatic 53, 3) := by decide +kernel
theorem own_d13_65 : decode prog_26_method_9_code 65 = .ok (.isub, 1) := by decide +kernel
theorem own_d13_66 : decode prog_26_method_9_code 66 = .ok (.invokevirtual 58, 3) := by decide +kernel
theorem own_d13_69 : decode prog_26_method_9_code 69 = .ok (.isub, 1) := by decide +kernel
theorem own_d13_70 : decode prog_26_method_9_code 70 = .ok (.iastore, 1) := by decide +kernel
theorem own_d13_71 : decode prog_26_method_9_code 71 = .ok (.return_, 1) := by decide +kernel
theorem own_d12_0 : decode prog_26_method_6_code 0 = .ok (.aload_n 0, 1) := by decide +kernel
theorem own_d12_1 : decode prog_26_method_6_code 1 = .ok (.getfield 43, 3) := by decide +kernel
theorem own_d12_4 : decode prog_26_method_6_code 4 = .ok (.istore_n 2, 1) := by decide +kernel
theorem own_d12_5 : decode prog_26_method_6_code 5 = .ok (.iload_n 2, 1) := by decide +kernel
theorem own_d12_6 : decode prog_26_method_6_code 6 = .ok (.bipush 64, 2) := by decide +kernel
theorem own_d12_8 : decode prog_26_method_6_code 8 = .ok (.irem, 1) := by decide +kernel
theorem own_d12_9 : decode prog_26_method_6_code 9 = .ok (.ifCond .ne 11, 3) := by decide +kernel
theorem own_d12_12 : decode prog_26_method_6_code 12 = .ok (.aload_n 0, 1) := by decide +kernel
theorem own_d12_13 : decode prog_26_method_6_code 13 = .ok (.iload_n 2, 1) := by decide +kernel
theorem own_d12_14 : decode prog_26_method_6_code 14 = .ok (.bipush 64, 2) := by decide +kernel
theorem own_d12_16 : decode prog_26_method_6_code 16 = .ok (.idiv, 1) := by decide +kernel
theorem own_d12_17 : decode prog_26_method_6_code 17 = .ok (.invokevirtual 61, 3) := by decide +kernel
theorem own_d12_20 : decode prog_26_method_6_code 20 = .ok (.aload_n 0, 1) := by decide +kernel
theorem own_d12_21 : decode prog_26_method_6_code 21 = .ok (.dup, 1) := by decide +kernel
theorem own_d12_22 : decode prog_26_method_6_code 22 = .ok (.getfield 43, 3) := by decide +kernel
theorem own_d12_25 : decode prog_26_method_6_code 25 = .ok (.iconst 1, 1) := by decide +kernel
theorem own_d12_26 : decode prog_26_method_6_code 26 = .ok (.iadd, 1) := by decide +kernel
theorem own_d12_27 : decode prog_26_method_6_code 27 = .ok (.putfield 43, 3) := by decide +kernel
theorem own_d12_30 : decode prog_26_method_6_code 30 = .ok (.iload_n 1, 1) := by decide +kernel
theorem own_d12_31 : decode prog_26_method_6_code 31 = .ok (.ifCond .eq 9, 3) := by decide +kernel
theorem own_d12_40 : decode prog_26_method_6_code 40 = .ok (.return_, 1) := by decide +kernel
theorem own_d12_34 : decode prog_26_method_6_code 34 = .ok (.aload_n 0, 1) := by decide +kernel
theorem own_d12_35 : decode prog_26_method_6_code 35 = .ok (.iload_n 2, 1) := by decide +kernel
theorem own_d12_36 : decode prog_26_method_6_code 36 = .ok (.iconst 1, 1) := by decide +kernel
theorem own_d12_37 : decode prog_26_method_6_code 37 = .ok (.invokevirtual 65, 3) := by decide +kernel
theorem own_pd0 : parseMethodDescriptor "(I)I" = some ⟨[.int], some .int⟩ := by decide +kernel
theorem own_pd1 : parseMethodDescriptor "(I)V" = some ⟨[.int], none⟩ := by decide +kernel
theorem own_pd2 : parseMethodDescriptor "(II)I" = some ⟨[.int, .int], some .int⟩ := by decide +kernel
theorem own_pd3 : parseMethodDescriptor "([JI)[J" = some ⟨[(.array .long), .int], some (.array .long)⟩ := by decide +kernel
theorem own_pd4 : parseMethodDescriptor "()[J" = some ⟨[], some (.array .long)⟩ := by decide +kernel
theorem own_pd5 : parseMethodDescriptor "()V" = some ⟨[], none⟩ := by decide +kernel
theorem own_pd6 : parseMethodDescriptor "(Ljava/util/BitSet;I)V" = some ⟨[(.object "java/util/BitSet"), .int], none⟩ := by decide +kernel
theorem own_pd7 : parseMethodDescriptor "(I)Z" = some ⟨[.int], some .boolean⟩ := by decide +kernel
theorem own_pd8 : parseMethodDescriptor "(IZ)V" = some ⟨[.int, .boolean], none⟩ := by decide +kernel
theorem own_pd9 : parseMethodDescriptor "(Z)V" = some ⟨[.boolean], none⟩ := by decide +kernel
theorem own_pn0 : plainName "java/util/BitSet" = true := by first | (simp [plainName, overriddenIn]; done) | decide +kernel
theorem own_pn1 : plainName "com/example/orderly_seats/orderlyseats/model/MarkedRow" = true := by first | (simp [plainName, overriddenIn]; done) | decide +kernel
theorem own_pn2 : plainName "java/lang/Integer" = true := by first | (simp [plainName, overriddenIn]; done) | decide +kernel
theorem own_pn3 : plainName "java/util/Arrays" = true := by first | (simp [plainName, overriddenIn]; done) | decide +kernel
theorem own_pn4 : plainName "com/example/orderly_seats/orderlyseats/model/MarkedRowIsMarkedPinLaw" = true := by first | (simp [plainName, overriddenIn]; done) | decide +kernel
def own_v_wi (p1 : Int32) : Int32 := (p1 >>> ((6 : Int32) &&& 31))
set_option maxRecDepth 65536 in
set_option maxHeartbeats 40000000 in
theorem rm_wi (l : Launch) (Z : State) (a0 : Array Value) (hw : ∀ d ∈ tables_1, d.before a0 Z = true) (p1 : Int32) (h0 : Heap) (n0 : Nat) (Z0 : n0 ≤ h0.size) :
    Con l Z (⟨"java/util/BitSet", "wordIndex", "(I)I"⟩ : MethodName) jdk_92_method_1_code 1 (some .int) ({ frames := 0, cells := 0, slots := 0, locals := 0 } : Room) #[(.int p1)] h0 (fun v h L => v = some (.int (own_v_wi p1)) ∧ Fr n0 L ∧ h = h0) := by
  refine Con.body (plainFor_of_name own_pn0) ?_
  intro pP eE sS mM bB mT cC s₁ hx hby hml hZ hown hnm hret hlk X0 e0
  have hown : sS.vm.findClass "java/util/BitSet" = some mM.cls := hown
  have hml : cC.maxLocals = 1 := hml
  have N0 := Fr.nil n0
  have ef : entryFrame mM #[(.int p1)] 1 = mkF mM 0 #[.val (.int p1)] [] := by first | (simp [entryFrame, mkF, argsToLocals, Value.category]; done) | rfl
  rw [ef]
  show Goes pP eE bB _ (s₁.setTop (mkF mM 0 #[.val (.int p1)] []))
  refine Goes.step (fun _ kK => XS.iloadN X0.here hx rfl (hb hby own_d5_0) rfl kK) ?_
  show Goes pP eE bB _ (s₁.setTop (mkF mM 1 #[.val (.int p1)] [(.int p1)]))
  refine Goes.step (fun _ kK => XS.bipush X0.here hx rfl (hb hby own_d5_1) kK) ?_
  show Goes pP eE bB _ (s₁.setTop (mkF mM 3 #[.val (.int p1)] [(.int (6 : Int32)), (.int p1)]))
  refine Goes.step (fun _ kK => XS.ishr X0.here hx rfl (hb hby own_d5_3) rfl kK) ?_
  show Goes pP eE bB _ (s₁.setTop (mkF mM 4 #[.val (.int p1)] [(.int (p1 >>> ((6 : Int32) &&& 31)))]))
  refine Goes.ret X0 hx hlk hret rfl (Or.inl ⟨rfl, Or.inl rfl, _, rfl⟩) (hb hby own_d5_4) (by decide) (by decide) ?_
  exact ⟨by rw [own_v_wi] <;> rfl, N0, e0⟩
def own_v_min (p1 : Int32) (p2 : Int32) : Int32 := (if p2 < p1 then p2 else p1)
set_option maxRecDepth 65536 in
set_option maxHeartbeats 40000000 in
theorem rm_min (l : Launch) (Z : State) (a0 : Array Value) (hw : ∀ d ∈ tables_1, d.before a0 Z = true) (p1 : Int32) (p2 : Int32) (h0 : Heap) (n0 : Nat) (Z0 : n0 ≤ h0.size) :
    Con l Z (⟨"java/lang/Math", "min", "(II)I"⟩ : MethodName) jdk_29_method_69_code 2 (some .int) ({ frames := 0, cells := 0, slots := 0, locals := 0 } : Room) #[(.int p1), (.int p2)] h0 (fun v h L => v = some (.int (own_v_min p1 p2)) ∧ Fr n0 L ∧ h = h0) := by
  refine Con.body (Jvm.Free.JP.mathPlain rfl (by decide +kernel)) ?_
  intro pP eE sS mM bB mT cC s₁ hx hby hml hZ hown hnm hret hlk X0 e0
  have hown : sS.vm.findClass "java/lang/Math" = some mM.cls := hown
  have hml : cC.maxLocals = 2 := hml
  have N0 := Fr.nil n0
  have ef : entryFrame mM #[(.int p1), (.int p2)] 2 = mkF mM 0 #[.val (.int p1), .val (.int p2)] [] := by first | (simp [entryFrame, mkF, argsToLocals, Value.category]; done) | rfl
  rw [ef]
  show Goes pP eE bB _ (s₁.setTop (mkF mM 0 #[.val (.int p1), .val (.int p2)] []))
  refine Goes.step (fun _ kK => XS.iloadN X0.here hx rfl (hb hby own_d10_0) rfl kK) ?_
  show Goes pP eE bB _ (s₁.setTop (mkF mM 1 #[.val (.int p1), .val (.int p2)] [(.int p1)]))
  refine Goes.step (fun _ kK => XS.iloadN X0.here hx rfl (hb hby own_d10_1) rfl kK) ?_
  show Goes pP eE bB _ (s₁.setTop (mkF mM 2 #[.val (.int p1), .val (.int p2)] [(.int p2), (.int p1)]))
  by_cases hc_1 : p2 < p1
  · refine Goes.step (fun _ kK => XS.icmpYes X0.here hx rfl (pc0 := 2) (pc' := 9) rfl (hb hby own_d10_2) rfl (tlt hc_1).2.2.1 (by decide) (by decide) kK) ?_
    show Goes pP eE bB _ (s₁.setTop (mkF mM 9 #[.val (.int p1), .val (.int p2)] []))
    refine Goes.step (fun _ kK => XS.iloadN X0.here hx rfl (hb hby own_d10_9) rfl kK) ?_
    show Goes pP eE bB _ (s₁.setTop (mkF mM 10 #[.val (.int p1), .val (.int p2)] [(.int p2)]))
    refine Goes.ret X0 hx hlk hret rfl (Or.inl ⟨rfl, Or.inl rfl, _, rfl⟩) (hb hby own_d10_10) (by decide) (by decide) ?_
    exact ⟨by rw [own_v_min, if_pos hc_1] <;> rfl, N0, e0⟩
  · refine Goes.step (fun _ kK => XS.icmpNo X0.here hx rfl (hb hby own_d10_2) rfl (flt hc_1).2.2.1 kK) ?_
    show Goes pP eE bB _ (s₁.setTop (mkF mM 5 #[.val (.int p1), .val (.int p2)] []))
    refine Goes.step (fun _ kK => XS.iloadN X0.here hx rfl (hb hby own_d10_5) rfl kK) ?_
    show Goes pP eE bB _ (s₁.setTop (mkF mM 6 #[.val (.int p1), .val (.int p2)] [(.int p1)]))
    refine Goes.step (fun _ kK => XS.goto X0.here hx rfl (pc0 := 6) (pc' := 10) rfl (hb hby own_d10_6) (by decide) (by decide) kK) ?_
    show Goes pP eE bB _ (s₁.setTop (mkF mM 10 #[.val (.int p1), .val (.int p2)] [(.int p1)]))
    refine Goes.ret X0 hx hlk hret rfl (Or.inl ⟨rfl, Or.inl rfl, _, rfl⟩) (hb hby own_d10_10) (by decide) (by decide) ?_
    exact ⟨by rw [own_v_min, if_neg hc_1] <;> rfl, N0, e0⟩
def own_v_max (p1 : Int32) (p2 : Int32) : Int32 := (if p1 < p2 then p2 else p1)
set_option maxRecDepth 65536 in
set_option maxHeartbeats 40000000 in
theorem rm_max (l : Launch) (Z : State) (a0 : Array Value) (hw : ∀ d ∈ tables_1, d.before a0 Z = true) (p1 : Int32) (p2 : Int32) (h0 : Heap) (n0 : Nat) (Z0 : n0 ≤ h0.size) :
    Con l Z (⟨"java/lang/Math", "max", "(II)I"⟩ : MethodName) jdk_29_method_65_code 2 (some .int) ({ frames := 0, cells := 0, slots := 0, locals := 0 } : Room) #[(.int p1), (.int p2)] h0 (fun v h L => v = some (.int (own_v_max p1 p2)) ∧ Fr n0 L ∧ h = h0) := by
  refine Con.body (Jvm.Free.JP.mathPlain rfl (by decide +kernel)) ?_
  intro pP eE sS mM bB mT cC s₁ hx hby hml hZ hown hnm hret hlk X0 e0
  have hown : sS.vm.findClass "java/lang/Math" = some mM.cls := hown
  have hml : cC.maxLocals = 2 := hml
  have N0 := Fr.nil n0
  have ef : entryFrame mM #[(.int p1), (.int p2)] 2 = mkF mM 0 #[.val (.int p1), .val (.int p2)] [] := by first | (simp [entryFrame, mkF, argsToLocals, Value.category]; done) | rfl
  rw [ef]
  show Goes pP eE bB _ (s₁.setTop (mkF mM 0 #[.val (.int p1), .val (.int p2)] []))
  refine Goes.step (fun _ kK => XS.iloadN X0.here hx rfl (hb hby own_d11_0) rfl kK) ?_
  show Goes pP eE bB _ (s₁.setTop (mkF mM 1 #[.val (.int p1), .val (.int p2)] [(.int p1)]))
  refine Goes.step (fun _ kK => XS.iloadN X0.here hx rfl (hb hby own_d11_1) rfl kK) ?_
  show Goes pP eE bB _ (s₁.setTop (mkF mM 2 #[.val (.int p1), .val (.int p2)] [(.int p2), (.int p1)]))
  by_cases hc_1 : p1 < p2
  · refine Goes.step (fun _ kK => XS.icmpYes X0.here hx rfl (pc0 := 2) (pc' := 9) rfl (hb hby own_d11_2) rfl (tlt hc_1).1 (by decide) (by decide) kK) ?_
    show Goes pP eE bB _ (s₁.setTop (mkF mM 9 #[.val (.int p1), .val (.int p2)] []))
    refine Goes.step (fun _ kK => XS.iloadN X0.here hx rfl (hb hby own_d11_9) rfl kK) ?_
    show Goes pP eE bB _ (s₁.setTop (mkF mM 10 #[.val (.int p1), .val (.int p2)] [(.int p2)]))
    refine Goes.ret X0 hx hlk hret rfl (Or.inl ⟨rfl, Or.inl rfl, _, rfl⟩) (hb hby own_d11_10) (by decide) (by decide) ?_
    exact ⟨by rw [own_v_max, if_pos hc_1] <;> rfl, N0, e0⟩
  · refine Goes.step (fun _ kK => XS.icmpNo X0.here hx rfl (hb hby own_d11_2) rfl (flt hc_1).1 kK) ?_
    show Goes pP eE bB _ (s₁.setTop (mkF mM 5 #[.val (.int p1), .val (.int p2)] []))
    refine Goes.step (fun _ kK => XS.iloadN X0.here hx rfl (hb hby own_d11_5) rfl kK) ?_
    show Goes pP eE bB _ (s₁.setTop (mkF mM 6 #[.val (.int p1), .val (.int p2)] [(.int p1)]))
    refine Goes.step (fun _ kK => XS.goto X0.here hx rfl (pc0 := 6) (pc' := 10) rfl (hb hby own_d11_6) (by decide) (by decide) kK) ?_
    show Goes pP eE bB _ (s₁.setTop (mkF mM 10 #[.val (.int p1), .val (.int p2)] [(.int p1)]))
    refine Goes.ret X0 hx hlk hret rfl (Or.inl ⟨rfl, Or.inl rfl, _, rfl⟩) (hb hby own_d11_10) (by decide) (by decide) ?_
    exact ⟨by rw [own_v_max, if_neg hc_1] <;> rfl, N0, e0⟩
def own_v_wo (p1 : Int32) : Int32 := (((p1 + (64 : Int32)) - (1 : Int32)) / (64 : Int32))
set_option maxRecDepth 65536 in
set_option maxHeartbeats 40000000 in
theorem rm_wo (l : Launch) (Z : State) (a0 : Array Value) (hw : ∀ d ∈ tables_1, d.before a0 Z = true) (p1 : Int32) (h0 : Heap) (n0 : Nat) (Z0 : n0 ≤ h0.size) :
    Con l Z (⟨"com/example/orderly_seats/orderlyseats/model/MarkedRow", "wordsOf", "(I)I"⟩ : MethodName) prog_26_method_10_code 1 (some .int) ({ frames := 0, cells := 0, slots := 0, locals := 0 } : Room) #[(.int p1)] h0 (fun v h L => v = some (.int (own_v_wo p1)) ∧ Fr n0 L ∧ h = h0) := by
  refine Con.body (plainFor_of_name own_pn1) ?_
  intro pP eE sS mM bB mT cC s₁ hx hby hml hZ hown hnm hret hlk X0 e0
  have hown : sS.vm.findClass "com/example/orderly_seats/orderlyseats/model/MarkedRow" = some mM.cls := hown
  have hml : cC.maxLocals = 1 := hml
  have N0 := Fr.nil n0
  have ef : entryFrame mM #[(.int p1)] 1 = mkF mM 0 #[.val (.int p1)] [] := by first | (simp [entryFrame, mkF, argsToLocals, Value.category]; done) | rfl
  rw [ef]
  show Goes pP eE bB _ (s₁.setTop (mkF mM 0 #[.val (.int p1)] []))
  refine Goes.step (fun _ kK => XS.iloadN X0.here hx rfl (hb hby own_d7_0) rfl kK) ?_
  show Goes pP eE bB _ (s₁.setTop (mkF mM 1 #[.val (.int p1)] [(.int p1)]))
  refine Goes.step (fun _ kK => XS.bipush X0.here hx rfl (hb hby own_d7_1) kK) ?_
  show Goes pP eE bB _ (s₁.setTop (mkF mM 3 #[.val (.int p1)] [(.int (64 : Int32)), (.int p1)]))
  refine Goes.step (fun _ kK => XS.iadd X0.here hx rfl (hb hby own_d7_3) rfl kK) ?_
  show Goes pP eE bB _ (s₁.setTop (mkF mM 4 #[.val (.int p1)] [(.int (p1 + (64 : Int32)))]))
  refine Goes.step (fun _ kK => XS.iconst X0.here hx rfl (hb hby own_d7_4) kK) ?_
  show Goes pP eE bB _ (s₁.setTop (mkF mM 5 #[.val (.int p1)] [(.int (1 : Int32)), (.int (p1 + (64 : Int32)))]))
  refine Goes.step (fun _ kK => XS.isub X0.here hx rfl (hb hby own_d7_5) rfl kK) ?_
  show Goes pP eE bB _ (s₁.setTop (mkF mM 6 #[.val (.int p1)] [(.int ((p1 + (64 : Int32)) - (1 : Int32)))]))
  refine Goes.step (fun _ kK => XS.bipush X0.here hx rfl (hb hby own_d7_6) kK) ?_
  show Goes pP eE bB _ (s₁.setTop (mkF mM 8 #[.val (.int p1)] [(.int (64 : Int32)), (.int ((p1 + (64 : Int32)) - (1 : Int32)))]))
  refine Goes.step (fun _ kK => XS.idiv X0.here hx rfl (hb hby own_d7_8) rfl (by decide) kK) ?_
  show Goes pP eE bB _ (s₁.setTop (mkF mM 9 #[.val (.int p1)] [(.int (((p1 + (64 : Int32)) - (1 : Int32)) / (64 : Int32)))]))
  refine Goes.ret X0 hx hlk hret rfl (Or.inl ⟨rfl, Or.inl rfl, _, rfl⟩) (hb hby own_d7_9) (by decide) (by decide) ?_
  exact ⟨by rw [own_v_wo] <;> rfl, N0, e0⟩
def own_v_lb (p1 : Int32) : Int32 := (p1 &&& (-p1))
set_option maxRecDepth 65536 in
set_option maxHeartbeats 40000000 in
theorem rm_lb (l : Launch) (Z : State) (a0 : Array Value) (hw : ∀ d ∈ tables_1, d.before a0 Z = true) (p1 : Int32) (h0 : Heap) (n0 : Nat) (Z0 : n0 ≤ h0.size) :
    Con l Z (⟨"java/lang/Integer", "lowestOneBit", "(I)I"⟩ : MethodName) jdk_33_method_46_code 1 (some .int) ({ frames := 0, cells := 0, slots := 0, locals := 0 } : Room) #[(.int p1)] h0 (fun v h L => v = some (.int (own_v_lb p1)) ∧ Fr n0 L ∧ h = h0) := by
  refine Con.body (plainFor_of_name own_pn2) ?_
  intro pP eE sS mM bB mT cC s₁ hx hby hml hZ hown hnm hret hlk X0 e0
  have hown : sS.vm.findClass "java/lang/Integer" = some mM.cls := hown
  have hml : cC.maxLocals = 1 := hml
  have N0 := Fr.nil n0
  have ef : entryFrame mM #[(.int p1)] 1 = mkF mM 0 #[.val (.int p1)] [] := by first | (simp [entryFrame, mkF, argsToLocals, Value.category]; done) | rfl
  rw [ef]
  show Goes pP eE bB _ (s₁.setTop (mkF mM 0 #[.val (.int p1)] []))
  refine Goes.step (fun _ kK => XS.iloadN X0.here hx rfl (hb hby own_d15_0) rfl kK) ?_
  show Goes pP eE bB _ (s₁.setTop (mkF mM 1 #[.val (.int p1)] [(.int p1)]))
  refine Goes.step (fun _ kK => XS.iloadN X0.here hx rfl (hb hby own_d15_1) rfl kK) ?_
  show Goes pP eE bB _ (s₁.setTop (mkF mM 2 #[.val (.int p1)] [(.int p1), (.int p1)]))
  refine Goes.step (fun _ kK => XS.ineg X0.here hx rfl (hb hby own_d15_2) rfl kK) ?_
  show Goes pP eE bB _ (s₁.setTop (mkF mM 3 #[.val (.int p1)] [(.int (-p1)), (.int p1)]))
  refine Goes.step (fun _ kK => XS.iand X0.here hx rfl (hb hby own_d15_3) rfl kK) ?_
  show Goes pP eE bB _ (s₁.setTop (mkF mM 4 #[.val (.int p1)] [(.int (p1 &&& (-p1)))]))
  refine Goes.ret X0 hx hlk hret rfl (Or.inl ⟨rfl, Or.inl rfl, _, rfl⟩) (hb hby own_d15_4) (by decide) (by decide) ?_
  exact ⟨by rw [own_v_lb] <;> rfl, N0, e0⟩
set_option maxRecDepth 65536 in
set_option maxHeartbeats 40000000 in
theorem rmIW (l : Launch) (Z : State) (a0 : Array Value) (hw : ∀ d ∈ tables_1, d.before a0 Z = true) (a1 : Addr) (h0 : Heap) (n0 : Nat) (Z0 : n0 ≤ h0.size) (E1 : Exa Z h0 a1 "java/util/BitSet") (g1 : n0 ≤ a1) (F_wordsInUse : Fld Z h0 a1 "java/util/BitSet" "wordsInUse" "I" (.int (0 : Int32))) (F_sizeIsSticky : Fld Z h0 a1 "java/util/BitSet" "sizeIsSticky" "Z" (.int (0 : Int32))) (F_words : Fld Z h0 a1 "java/util/BitSet" "words" "[J" .null) :
    Con l Z (⟨"java/util/BitSet", "initWords", "(I)V"⟩ : MethodName) jdk_92_method_6_code 2 none ({ frames := 1, cells := 1, slots := 1, locals := 13 } : Room) #[(.ref a1), (.int (64 : Int32))] h0 (fun v h L => v = none ∧ Fr n0 L ∧ Keep h0 h [a1] ∧ Fld Z h a1 "java/util/BitSet" "wordsInUse" "I" (.int (0 : Int32)) ∧ Fld Z h a1 "java/util/BitSet" "sizeIsSticky" "Z" (.int (0 : Int32)) ∧ ∃ x, Fld Z h a1 "java/util/BitSet" "words" "[J" (.ref x) ∧ h0.size ≤ x ∧ Afn Z h x .long 1 (fun _ => (.long (0 : Int64)))) := by
  refine Con.body (plainFor_of_name own_pn0) ?_
  intro pP eE sS mM bB mT cC s₁ hx hby hml hZ hown hnm hret hlk X0 e0
  have hown : sS.vm.findClass "java/util/BitSet" = some mM.cls := hown
  have hml : cC.maxLocals = 2 := hml
  have N0 := Fr.nil n0
  have ef : entryFrame mM #[(.ref a1), (.int (64 : Int32))] 2 = mkF mM 0 #[.val (.ref a1), .val (.int (64 : Int32))] [] := by first | (simp [entryFrame, mkF, argsToLocals, Value.category]; done) | rfl
  rw [ef]
  show Goes pP eE bB _ (s₁.setTop (mkF mM 0 #[.val (.ref a1), .val (.int (64 : Int32))] []))
  refine Goes.step (fun _ kK => XS.aloadN X0.here hx rfl (hb hby own_d4_0) rfl rfl kK) ?_
  show Goes pP eE bB _ (s₁.setTop (mkF mM 1 #[.val (.ref a1), .val (.int (64 : Int32))] [(.ref a1)]))
  refine Goes.step (fun _ kK => XS.iloadN X0.here hx rfl (hb hby own_d4_1) rfl kK) ?_
  show Goes pP eE bB _ (s₁.setTop (mkF mM 2 #[.val (.ref a1), .val (.int (64 : Int32))] [(.int (64 : Int32)), (.ref a1)]))
  refine Goes.step (fun _ kK => XS.iconst X0.here hx rfl (hb hby own_d4_2) kK) ?_
  show Goes pP eE bB _ (s₁.setTop (mkF mM 3 #[.val (.ref a1), .val (.int (64 : Int32))] [(.int (1 : Int32)), (.int (64 : Int32)), (.ref a1)]))
  refine Goes.step (fun _ kK => XS.isub X0.here hx rfl (hb hby own_d4_3) rfl kK) ?_
  show Goes pP eE bB _ (s₁.setTop (mkF mM 4 #[.val (.ref a1), .val (.int (64 : Int32))] [(.int ((64 : Int32) - (1 : Int32))), (.ref a1)]))
  refine Goes.callS X0 hx hZ hown (hw _ (List.mem_of_getElem? (i := 24) rfl)) (hw _ (List.mem_of_getElem? (i := 25) rfl)) (hw _ (List.mem_of_getElem? (i := 8) rfl)) (hw _ (List.mem_of_getElem? (i := 26) rfl)) (by decide) e0 (rm_wi l Z a0 hw ((64 : Int32) - (1 : Int32)) h0 n0 Z0) (W := 1) (by decide) (by decide) (by decide) (by decide) (g := (mkF mM 4 #[.val (.ref a1), .val (.int (64 : Int32))] [(.int ((64 : Int32) - (1 : Int32))), (.ref a1)])) rfl (by rw [hml]; rfl) (rest := [(.ref a1)]) own_pd0 rfl rfl (by show 2 * 0 + _ ≤ _; exact Nat.le_of_eq rfl) (hb hby own_d4_4) ?_
  intro v_1 T_1 L_1 X_1 hQ_1
  obtain ⟨rfl, N_1q, e_1⟩ := hQ_1
  have N_1 := Fr.app N0 N_1q
  show Goes pP eE bB _ (T_1.setTop (mkF mM 7 #[.val (.ref a1), .val (.int (64 : Int32))] [(.int (own_v_wi ((64 : Int32) - (1 : Int32)))), (.ref a1)]))
  refine Goes.step (fun _ kK => XS.iconst X_1.here hx rfl (hb hby own_d4_7) kK) ?_
  show Goes pP eE bB _ (T_1.setTop (mkF mM 8 #[.val (.ref a1), .val (.int (64 : Int32))] [(.int (1 : Int32)), (.int (own_v_wi ((64 : Int32) - (1 : Int32)))), (.ref a1)]))
  refine Goes.step (fun _ kK => XS.iadd X_1.here hx rfl (hb hby own_d4_8) rfl kK) ?_
  show Goes pP eE bB _ (T_1.setTop (mkF mM 9 #[.val (.ref a1), .val (.int (64 : Int32))] [(.int ((own_v_wi ((64 : Int32) - (1 : Int32))) + (1 : Int32))), (.ref a1)]))
  obtain ⟨T_2, h_2, k_2, X_2, e_2, E_2, A_2, M_2, st_2⟩ := newPE X_1 hx hZ (hw _ (List.mem_of_getElem? (i := 27) rfl)) e_1 (g := (mkF mM 9 #[.val (.ref a1), .val (.int (64 : Int32))] [(.int ((own_v_wi ((64 : Int32) - (1 : Int32))) + (1 : Int32))), (.ref a1)])) rfl (hb hby own_d4_9) rfl (by decide) (cap := 1) (by decide) (by decide) (by decide) (by decide) (ad := "[J") rfl
  obtain ⟨b_2, g_2⟩ : ∃ z, z = h0.size := ⟨_, rfl⟩
  rw [← g_2] at A_2 M_2 st_2
  have u_3 : a1 < b_2 := Nat.lt_of_lt_of_le (E1).lt (Nat.le_of_eq g_2.symm)
  have u_4 : n0 ≤ b_2 := Nat.le_trans Z0 (Nat.le_of_eq g_2.symm)
  have u_5 : h0.size ≤ b_2 := Nat.le_trans ((Keep.refl h0 [a1])).1 (Nat.le_of_eq g_2.symm)
  have u_6 : Afn Z h_2 b_2 .long 1 (fun _ => (.long (0 : Int64))) := Afn.new (n := 1) A_2 (by decide)
  refine Goes.step st_2 ?_
  show Goes pP eE bB _ (T_2.setTop (mkF mM 11 #[.val (.ref a1), .val (.int (64 : Int32))] [(.ref b_2), (.ref a1)]))
  have u_7 := F_words.ext E_2
  have u_8 := E1.ext E_2
  obtain ⟨T_9, h_9, X_9, e_9, W_9, st_9⟩ := putF X_2 hx hZ hown (host := "") (Or.inl (hw _ (List.mem_of_getElem? (i := 28) rfl))) Via.refl e_2 u_7 u_8 (Or.inl (hw _ (List.mem_of_getElem? (i := 29) rfl))) (hw _ (List.mem_of_getElem? (i := 7) rfl)) (ty := (.array .long)) (by decide) rfl rfl (g := (mkF mM 11 #[.val (.ref a1), .val (.int (64 : Int32))] [(.ref b_2), (.ref a1)])) rfl rfl (hb hby own_d4_11)
  have u_10 := u_7.same W_9
  have N_9 := Fr.snoc X_9 N_1 g1
  refine Goes.step st_9 ?_
  show Goes pP eE bB _ (T_9.setTop (mkF mM 14 #[.val (.ref a1), .val (.int (64 : Int32))] []))
  refine Goes.ret0 X_9 hx hlk hret (hb hby own_d4_14) (by decide) (by decide) ?_
  have u_11 := (Keep.refl h0 [a1]).ext E_2
  have u_12 := u_11.wr W_9 (Or.inl (List.mem_of_getElem? (i := 0) rfl))
  have u_13 := F_wordsInUse.ext E_2
  have u_14 := u_13.other W_9 (Or.inr (slot_ne (Or.inl (hw _ (List.mem_of_getElem? (i := 16) rfl))) (Or.inl (hw _ (List.mem_of_getElem? (i := 29) rfl))) (by decide) (t := .int) (t' := (.array .long)) (by decide) (by decide)))
  have u_15 := F_sizeIsSticky.ext E_2
  have u_16 := u_15.other W_9 (Or.inr (slot_ne (Or.inl (hw _ (List.mem_of_getElem? (i := 18) rfl))) (Or.inl (hw _ (List.mem_of_getElem? (i := 29) rfl))) (by decide) (t := .boolean) (t' := (.array .long)) (by decide) (by decide)))
  have u_17 := u_6.other W_9 (Nat.ne_of_gt u_3)
  exact ⟨rfl, N_9, by rw [e_9]; exact u_12, by rw [e_9]; exact u_14, by rw [e_9]; exact u_16, b_2, by rw [e_9]; exact u_10, u_5, by rw [e_9]; exact u_17⟩
set_option maxRecDepth 65536 in
set_option maxHeartbeats 40000000 in
theorem rmBI (l : Launch) (Z : State) (a0 : Array Value) (hw : ∀ d ∈ tables_1, d.before a0 Z = true) (a1 : Addr) (h0 : Heap) (n0 : Nat) (Z0 : n0 ≤ h0.size) (E1 : Exa Z h0 a1 "java/util/BitSet") (g1 : n0 ≤ a1) (F_wordsInUse : Fld Z h0 a1 "java/util/BitSet" "wordsInUse" "I" (.int (0 : Int32))) (F_sizeIsSticky : Fld Z h0 a1 "java/util/BitSet" "sizeIsSticky" "Z" (.int (0 : Int32))) (F_words : Fld Z h0 a1 "java/util/BitSet" "words" "[J" .null) :
    Con l Z (⟨"java/util/BitSet", "<init>", "()V"⟩ : MethodName) jdk_92_method_4_code 1 none ({ frames := 2, cells := 1, slots := 1, locals := 26 } : Room) #[(.ref a1)] h0 (fun v h L => v = none ∧ Fr n0 L ∧ Keep h0 h [a1] ∧ Fld Z h a1 "java/util/BitSet" "wordsInUse" "I" (.int (0 : Int32)) ∧ ∃ x, Fld Z h a1 "java/util/BitSet" "words" "[J" (.ref x) ∧ h0.size ≤ x ∧ Afn Z h x .long 1 (fun _ => (.long (0 : Int64)))) := by
  refine Con.body (plainFor_of_name own_pn0) ?_
  intro pP eE sS mM bB mT cC s₁ hx hby hml hZ hown hnm hret hlk X0 e0
  have hown : sS.vm.findClass "java/util/BitSet" = some mM.cls := hown
  have hml : cC.maxLocals = 1 := hml
  have N0 := Fr.nil n0
  have ef : entryFrame mM #[(.ref a1)] 1 = mkF mM 0 #[.val (.ref a1)] [] := by first | (simp [entryFrame, mkF, argsToLocals, Value.category]; done) | rfl
  rw [ef]
  show Goes pP eE bB _ (s₁.setTop (mkF mM 0 #[.val (.ref a1)] []))
  refine Goes.step (fun _ kK => XS.aloadN X0.here hx rfl (hb hby own_d2_0) rfl rfl kK) ?_
  show Goes pP eE bB _ (s₁.setTop (mkF mM 1 #[.val (.ref a1)] [(.ref a1)]))
  obtain ⟨T_1, X_1, e_1, st_1⟩ := initO X0 hx hZ hown (hw _ (List.mem_of_getElem? (i := 12) rfl)) (hw _ (List.mem_of_getElem? (i := 13) rfl)) (hw _ (List.mem_of_getElem? (i := 14) rfl)) e0 (g := (mkF mM 1 #[.val (.ref a1)] [(.ref a1)])) rfl (by rw [hml]; rfl) rfl (hb hby own_d2_1) (by decide) (W := 0) (by show 2 * 0 + _ ≤ _; exact Nat.le_of_eq rfl) (by decide)
  refine Goes.step st_1 ?_
  show Goes pP eE bB _ (T_1.setTop (mkF mM 4 #[.val (.ref a1)] []))
  refine Goes.step (fun _ kK => XS.aloadN X_1.here hx rfl (hb hby own_d2_4) rfl rfl kK) ?_
  show Goes pP eE bB _ (T_1.setTop (mkF mM 5 #[.val (.ref a1)] [(.ref a1)]))
  refine Goes.step (fun _ kK => XS.iconst X_1.here hx rfl (hb hby own_d2_5) kK) ?_
  show Goes pP eE bB _ (T_1.setTop (mkF mM 6 #[.val (.ref a1)] [(.int (0 : Int32)), (.ref a1)]))
  obtain ⟨T_2, h_2, X_2, e_2, W_2, st_2⟩ := putF X_1 hx hZ hown (host := "") (Or.inl (hw _ (List.mem_of_getElem? (i := 15) rfl))) Via.refl e_1 F_wordsInUse E1 (Or.inl (hw _ (List.mem_of_getElem? (i := 16) rfl))) (hw _ (List.mem_of_getElem? (i := 7) rfl)) (ty := .int) (by decide) rfl rfl (g := (mkF mM 6 #[.val (.ref a1)] [(.int (0 : Int32)), (.ref a1)])) rfl rfl (hb hby own_d2_6)
  have u_3 := F_wordsInUse.same W_2
  have N_2 := Fr.snoc X_2 N0 g1
  refine Goes.step st_2 ?_
  show Goes pP eE bB _ (T_2.setTop (mkF mM 9 #[.val (.ref a1)] []))
  refine Goes.step (fun _ kK => XS.aloadN X_2.here hx rfl (hb hby own_d2_9) rfl rfl kK) ?_
  show Goes pP eE bB _ (T_2.setTop (mkF mM 10 #[.val (.ref a1)] [(.ref a1)]))
  refine Goes.step (fun _ kK => XS.iconst X_2.here hx rfl (hb hby own_d2_10) kK) ?_
  show Goes pP eE bB _ (T_2.setTop (mkF mM 11 #[.val (.ref a1)] [(.int (0 : Int32)), (.ref a1)]))
  have u_4 := F_sizeIsSticky.other W_2 (Or.inr (slot_ne (Or.inl (hw _ (List.mem_of_getElem? (i := 18) rfl))) (Or.inl (hw _ (List.mem_of_getElem? (i := 16) rfl))) (by decide) (t := .boolean) (t' := .int) (by decide) (by decide)))
  have u_5 := E1.wr W_2
  obtain ⟨T_6, h_6, X_6, e_6, W_6, st_6⟩ := putF X_2 hx hZ hown (host := "") (Or.inl (hw _ (List.mem_of_getElem? (i := 17) rfl))) Via.refl e_2 u_4 u_5 (Or.inl (hw _ (List.mem_of_getElem? (i := 18) rfl))) (hw _ (List.mem_of_getElem? (i := 7) rfl)) (ty := .boolean) (by decide) rfl rfl (g := (mkF mM 11 #[.val (.ref a1)] [(.int (0 : Int32)), (.ref a1)])) rfl rfl (hb hby own_d2_11)
  have u_7 := u_4.same W_6
  have N_6 := Fr.snoc X_6 N_2 g1
  refine Goes.step st_6 ?_
  show Goes pP eE bB _ (T_6.setTop (mkF mM 14 #[.val (.ref a1)] []))
  refine Goes.step (fun _ kK => XS.aloadN X_6.here hx rfl (hb hby own_d2_14) rfl rfl kK) ?_
  show Goes pP eE bB _ (T_6.setTop (mkF mM 15 #[.val (.ref a1)] [(.ref a1)]))
  refine Goes.step (fun _ kK => XS.bipush X_6.here hx rfl (hb hby own_d2_15) kK) ?_
  show Goes pP eE bB _ (T_6.setTop (mkF mM 17 #[.val (.ref a1)] [(.int (64 : Int32)), (.ref a1)]))
  have u_8 := Nat.le_trans Z0 (Keep.of_wr W_2).1
  have u_9 := Nat.le_trans u_8 (Keep.of_wr W_6).1
  have u_10 := u_5.wr W_6
  have u_11 := u_3.other W_6 (Or.inr (slot_ne (Or.inl (hw _ (List.mem_of_getElem? (i := 16) rfl))) (Or.inl (hw _ (List.mem_of_getElem? (i := 18) rfl))) (by decide) (t := .int) (t' := .boolean) (by decide) (by decide)))
  have u_12 := F_words.other W_2 (Or.inr (slot_ne (Or.inl (hw _ (List.mem_of_getElem? (i := 29) rfl))) (Or.inl (hw _ (List.mem_of_getElem? (i := 16) rfl))) (by decide) (t := (.array .long)) (t' := .int) (by decide) (by decide)))
  have u_13 := u_12.other W_6 (Or.inr (slot_ne (Or.inl (hw _ (List.mem_of_getElem? (i := 29) rfl))) (Or.inl (hw _ (List.mem_of_getElem? (i := 18) rfl))) (by decide) (t := (.array .long)) (t' := .boolean) (by decide) (by decide)))
  refine Goes.callP X_6 hx hZ hown (hw _ (List.mem_of_getElem? (i := 19) rfl)) (hw _ (List.mem_of_getElem? (i := 20) rfl)) (hw _ (List.mem_of_getElem? (i := 21) rfl)) (hw _ (List.mem_of_getElem? (i := 22) rfl)) rfl (hw _ (List.mem_of_getElem? (i := 23) rfl)) (hw _ (List.mem_of_getElem? (i := 8) rfl)) (by decide) e_6 u_10 (rmIW l Z a0 hw a1 h_6 n0 u_9 u_10 g1 u_11 u_7 u_13) (W := 0) (by decide) (by decide) (by decide) (by decide) (g := (mkF mM 17 #[.val (.ref a1)] [(.int (64 : Int32)), (.ref a1)])) rfl (by rw [hml]; rfl) (rest := []) own_pd1 rfl rfl (by show 2 * 0 + _ ≤ _; exact Nat.le_of_eq rfl) (hb hby own_d2_17) ?_
  intro v_14 T_14 L_14 X_14 hQ_14
  generalize e_14 : T_14.heap = h_14 at hQ_14
  obtain ⟨rfl, N_14q, K_14, F_14i, F_14s, b_14, F_14w, s_14, A_14⟩ := hQ_14
  have N_14 := Fr.app N_6 N_14q
  have u_15 : a1 < b_14 := Nat.lt_of_lt_of_le (u_10).lt s_14
  have u_16 : n0 ≤ b_14 := Nat.le_trans u_9 s_14
  have u_17 := (Keep.refl h0 [a1]).wr W_2 (Or.inl (List.mem_of_getElem? (i := 0) rfl))
  have u_18 := u_17.wr W_6 (Or.inl (List.mem_of_getElem? (i := 0) rfl))
  have u_19 : h0.size ≤ b_14 := Nat.le_trans (u_18).1 s_14
  show Goes pP eE bB _ (T_14.setTop (mkF mM 20 #[.val (.ref a1)] []))
  refine Goes.step (fun _ kK => XS.aloadN X_14.here hx rfl (hb hby own_d2_20) rfl rfl kK) ?_
  show Goes pP eE bB _ (T_14.setTop (mkF mM 21 #[.val (.ref a1)] [(.ref a1)]))
  refine Goes.step (fun _ kK => XS.iconst X_14.here hx rfl (hb hby own_d2_21) kK) ?_
  show Goes pP eE bB _ (T_14.setTop (mkF mM 22 #[.val (.ref a1)] [(.int (0 : Int32)), (.ref a1)]))
  have u_20 := u_10.keep K_14
  obtain ⟨T_21, h_21, X_21, e_21, W_21, st_21⟩ := putF X_14 hx hZ hown (host := "") (Or.inl (hw _ (List.mem_of_getElem? (i := 17) rfl))) Via.refl e_14 F_14s u_20 (Or.inl (hw _ (List.mem_of_getElem? (i := 18) rfl))) (hw _ (List.mem_of_getElem? (i := 7) rfl)) (ty := .boolean) (by decide) rfl rfl (g := (mkF mM 22 #[.val (.ref a1)] [(.int (0 : Int32)), (.ref a1)])) rfl rfl (hb hby own_d2_22)
  have u_22 := F_14s.same W_21
  have N_21 := Fr.snoc X_21 N_14 g1
  refine Goes.step st_21 ?_
  show Goes pP eE bB _ (T_21.setTop (mkF mM 25 #[.val (.ref a1)] []))
  refine Goes.ret0 X_21 hx hlk hret (hb hby own_d2_25) (by decide) (by decide) ?_
  have u_23 := u_18.trans K_14 (allS (Or.inl (List.mem_of_getElem? (i := 0) rfl)) all0)
  have u_24 := u_23.wr W_21 (Or.inl (List.mem_of_getElem? (i := 0) rfl))
  have u_25 := F_14i.other W_21 (Or.inr (slot_ne (Or.inl (hw _ (List.mem_of_getElem? (i := 16) rfl))) (Or.inl (hw _ (List.mem_of_getElem? (i := 18) rfl))) (by decide) (t := .int) (t' := .boolean) (by decide) (by decide)))
  have u_26 := F_14w.other W_21 (Or.inr (slot_ne (Or.inl (hw _ (List.mem_of_getElem? (i := 29) rfl))) (Or.inl (hw _ (List.mem_of_getElem? (i := 18) rfl))) (by decide) (t := (.array .long)) (t' := .boolean) (by decide) (by decide)))
  have u_27 := A_14.other W_21 (Nat.ne_of_gt u_15)
  exact ⟨rfl, N_21, by rw [e_21]; exact u_24, by rw [e_21]; exact u_25, b_14, by rw [e_21]; exact u_26, u_19, by rw [e_21]; exact u_27⟩
set_option maxRecDepth 65536 in
set_option maxHeartbeats 40000000 in
theorem rmCp0 (l : Launch) (Z : State) (a0 : Array Value) (hw : ∀ d ∈ tables_1, d.before a0 Z = true) (a1 : Addr) (h0 : Heap) (n0 : Nat) (Z0 : n0 ≤ h0.size) (f : Nat → Value) (A1 : Afn Z h0 a1 .long 1 f) :
    Con l Z (⟨"java/util/Arrays", "copyOf", "([JI)[J"⟩ : MethodName) jdk_65_method_124_code 3 (some (.array .long)) ({ frames := 1, cells := 1, slots := 0, locals := 18 } : Room) #[(.ref a1), (.int (0 : Int32))] h0 (fun v h L => ∃ x, v = some (.ref x) ∧ Fr n0 L ∧ Keep h0 h [] ∧ h0.size ≤ x ∧ Afn Z h x .long 0 (fun _ => (.long (0 : Int64)))) := by
  refine Con.body (plainFor_of_name own_pn3) ?_
  intro pP eE sS mM bB mT cC s₁ hx hby hml hZ hown hnm hret hlk X0 e0
  have hown : sS.vm.findClass "java/util/Arrays" = some mM.cls := hown
  have hml : cC.maxLocals = 3 := hml
  have N0 := Fr.nil n0
  have ef : entryFrame mM #[(.ref a1), (.int (0 : Int32))] 3 = mkF mM 0 #[.val (.ref a1), .val (.int (0 : Int32)), .unset] [] := by first | (simp [entryFrame, mkF, argsToLocals, Value.category]; done) | rfl
  rw [ef]
  show Goes pP eE bB _ (s₁.setTop (mkF mM 0 #[.val (.ref a1), .val (.int (0 : Int32)), .unset] []))
  refine Goes.step (fun _ kK => XS.iloadN X0.here hx rfl (hb hby own_d9_0) rfl kK) ?_
  show Goes pP eE bB _ (s₁.setTop (mkF mM 1 #[.val (.ref a1), .val (.int (0 : Int32)), .unset] [(.int (0 : Int32))]))
  refine Goes.step (fun _ kK => XS.aloadN X0.here hx rfl (hb hby own_d9_1) rfl rfl kK) ?_
  show Goes pP eE bB _ (s₁.setTop (mkF mM 2 #[.val (.ref a1), .val (.int (0 : Int32)), .unset] [(.ref a1), (.int (0 : Int32))]))
  refine Goes.alen X0 hx hZ e0 A1 (z := (1 : Int32)) (by decide) (g := (mkF mM 2 #[.val (.ref a1), .val (.int (0 : Int32)), .unset] [(.ref a1), (.int (0 : Int32))])) rfl rfl (hb hby own_d9_2) ?_
  show Goes pP eE bB _ (s₁.setTop (mkF mM 3 #[.val (.ref a1), .val (.int (0 : Int32)), .unset] [(.int (1 : Int32)), (.int (0 : Int32))]))
  refine Goes.step (fun _ kK => XS.icmpYes X0.here hx rfl (pc0 := 3) (pc' := 14) rfl (hb hby own_d9_3) rfl (feq (by decide)).2 (by decide) (by decide) kK) ?_
  show Goes pP eE bB _ (s₁.setTop (mkF mM 14 #[.val (.ref a1), .val (.int (0 : Int32)), .unset] []))
  refine Goes.step (fun _ kK => XS.iloadN X0.here hx rfl (hb hby own_d9_14) rfl kK) ?_
  show Goes pP eE bB _ (s₁.setTop (mkF mM 15 #[.val (.ref a1), .val (.int (0 : Int32)), .unset] [(.int (0 : Int32))]))
  obtain ⟨T_1, h_1, k_1, X_1, e_1, E_1, A_1, M_1, st_1⟩ := newPE X0 hx hZ (hw _ (List.mem_of_getElem? (i := 27) rfl)) e0 (g := (mkF mM 15 #[.val (.ref a1), .val (.int (0 : Int32)), .unset] [(.int (0 : Int32))])) rfl (hb hby own_d9_15) rfl (by decide) (cap := 0) (by decide) (by decide) (by decide) (by decide) (ad := "[J") rfl
  obtain ⟨b_1, g_1⟩ : ∃ z, z = h0.size := ⟨_, rfl⟩
  rw [← g_1] at A_1 M_1 st_1
  have u_2 : a1 < b_1 := Nat.lt_of_lt_of_le (A1).lt (Nat.le_of_eq g_1.symm)
  have u_3 : n0 ≤ b_1 := Nat.le_trans Z0 (Nat.le_of_eq g_1.symm)
  have u_4 : h0.size ≤ b_1 := Nat.le_trans ((Keep.refl h0 [])).1 (Nat.le_of_eq g_1.symm)
  have u_5 : Afn Z h_1 b_1 .long 0 (fun _ => (.long (0 : Int64))) := Afn.new (n := 0) A_1 (by decide)
  refine Goes.step st_1 ?_
  show Goes pP eE bB _ (T_1.setTop (mkF mM 17 #[.val (.ref a1), .val (.int (0 : Int32)), .unset] [(.ref b_1)]))
  refine Goes.step (fun _ kK => XS.astoreN X_1.here hx rfl (hb hby own_d9_17) rfl rfl (l' := #[.val (.ref a1), .val (.int (0 : Int32)), .val (.ref b_1)]) rfl kK) ?_
  show Goes pP eE bB _ (T_1.setTop (mkF mM 18 #[.val (.ref a1), .val (.int (0 : Int32)), .val (.ref b_1)] []))
  refine Goes.step (fun _ kK => XS.aloadN X_1.here hx rfl (hb hby own_d9_18) rfl rfl kK) ?_
  show Goes pP eE bB _ (T_1.setTop (mkF mM 19 #[.val (.ref a1), .val (.int (0 : Int32)), .val (.ref b_1)] [(.ref a1)]))
  refine Goes.step (fun _ kK => XS.iconst X_1.here hx rfl (hb hby own_d9_19) kK) ?_
  show Goes pP eE bB _ (T_1.setTop (mkF mM 20 #[.val (.ref a1), .val (.int (0 : Int32)), .val (.ref b_1)] [(.int (0 : Int32)), (.ref a1)]))
  refine Goes.step (fun _ kK => XS.aloadN X_1.here hx rfl (hb hby own_d9_20) rfl rfl kK) ?_
  show Goes pP eE bB _ (T_1.setTop (mkF mM 21 #[.val (.ref a1), .val (.int (0 : Int32)), .val (.ref b_1)] [(.ref b_1), (.int (0 : Int32)), (.ref a1)]))
  refine Goes.step (fun _ kK => XS.iconst X_1.here hx rfl (hb hby own_d9_21) kK) ?_
  show Goes pP eE bB _ (T_1.setTop (mkF mM 22 #[.val (.ref a1), .val (.int (0 : Int32)), .val (.ref b_1)] [(.int (0 : Int32)), (.ref b_1), (.int (0 : Int32)), (.ref a1)]))
  refine Goes.step (fun _ kK => XS.aloadN X_1.here hx rfl (hb hby own_d9_22) rfl rfl kK) ?_
  show Goes pP eE bB _ (T_1.setTop (mkF mM 23 #[.val (.ref a1), .val (.int (0 : Int32)), .val (.ref b_1)] [(.ref a1), (.int (0 : Int32)), (.ref b_1), (.int (0 : Int32)), (.ref a1)]))
  have u_6 := A1.ext E_1
  refine Goes.alen X_1 hx hZ e_1 u_6 (z := (1 : Int32)) (by decide) (g := (mkF mM 23 #[.val (.ref a1), .val (.int (0 : Int32)), .val (.ref b_1)] [(.ref a1), (.int (0 : Int32)), (.ref b_1), (.int (0 : Int32)), (.ref a1)])) rfl rfl (hb hby own_d9_23) ?_
  show Goes pP eE bB _ (T_1.setTop (mkF mM 24 #[.val (.ref a1), .val (.int (0 : Int32)), .val (.ref b_1)] [(.int (1 : Int32)), (.int (0 : Int32)), (.ref b_1), (.int (0 : Int32)), (.ref a1)]))
  refine Goes.step (fun _ kK => XS.iloadN X_1.here hx rfl (hb hby own_d9_24) rfl kK) ?_
  show Goes pP eE bB _ (T_1.setTop (mkF mM 25 #[.val (.ref a1), .val (.int (0 : Int32)), .val (.ref b_1)] [(.int (0 : Int32)), (.int (1 : Int32)), (.int (0 : Int32)), (.ref b_1), (.int (0 : Int32)), (.ref a1)]))
  have u_7 := Nat.le_trans Z0 E_1.1
  refine Goes.callS X_1 hx hZ hown (hw _ (List.mem_of_getElem? (i := 46) rfl)) (hw _ (List.mem_of_getElem? (i := 47) rfl)) (hw _ (List.mem_of_getElem? (i := 48) rfl)) (hw _ (List.mem_of_getElem? (i := 49) rfl)) (by decide) e_1 (rm_min l Z a0 hw (1 : Int32) (0 : Int32) h_1 n0 u_7) (W := 4) (by decide) (by decide) (by decide) (by decide) (g := (mkF mM 25 #[.val (.ref a1), .val (.int (0 : Int32)), .val (.ref b_1)] [(.int (0 : Int32)), (.int (1 : Int32)), (.int (0 : Int32)), (.ref b_1), (.int (0 : Int32)), (.ref a1)])) rfl (by rw [hml]; rfl) (rest := [(.int (0 : Int32)), (.ref b_1), (.int (0 : Int32)), (.ref a1)]) own_pd2 rfl rfl (by show 2 * 0 + _ ≤ _; exact Nat.le_of_eq rfl) (hb hby own_d9_25) ?_
  intro v_8 T_8 L_8 X_8 hQ_8
  obtain ⟨rfl, N_8q, e_8⟩ := hQ_8
  have N_8 := Fr.app N0 N_8q
  show Goes pP eE bB _ (T_8.setTop (mkF mM 28 #[.val (.ref a1), .val (.int (0 : Int32)), .val (.ref b_1)] [(.int (own_v_min (1 : Int32) (0 : Int32))), (.int (0 : Int32)), (.ref b_1), (.int (0 : Int32)), (.ref a1)]))
  refine Goes.acopy X_8 hx hZ hown (hw _ (List.mem_of_getElem? (i := 50) rfl)) (hw _ (List.mem_of_getElem? (i := 53) rfl)) (hw _ (List.mem_of_getElem? (i := 51) rfl)) (hw _ (List.mem_of_getElem? (i := 52) rfl)) e_8 u_6 u_5 rfl (z := (1 : Int32)) (z' := (0 : Int32)) (sp := 0) (dp := 0) (nn := 0) (by decide) (by decide) (by decide) (by decide) (by decide) (by decide) (by decide) N_8 u_3 (g := (mkF mM 28 #[.val (.ref a1), .val (.int (0 : Int32)), .val (.ref b_1)] [(.int (own_v_min (1 : Int32) (0 : Int32))), (.int (0 : Int32)), (.ref b_1), (.int (0 : Int32)), (.ref a1)])) rfl (by rw [hml]; rfl) rfl (hb hby own_d9_28) (by decide) (W := 0) (by show 2 * 0 + _ ≤ _; exact Nat.le_of_eq rfl) (by decide) ?_
  intro T_9 h_9 L_9 X_9 e_9 N_9 K_9 A_9
  show Goes pP eE bB _ (T_9.setTop (mkF mM 31 #[.val (.ref a1), .val (.int (0 : Int32)), .val (.ref b_1)] []))
  refine Goes.step (fun _ kK => XS.aloadN X_9.here hx rfl (hb hby own_d9_31) rfl rfl kK) ?_
  show Goes pP eE bB _ (T_9.setTop (mkF mM 32 #[.val (.ref a1), .val (.int (0 : Int32)), .val (.ref b_1)] [(.ref b_1)]))
  refine Goes.ret X_9 hx hlk hret rfl (Or.inr (Or.inr (Or.inr (Or.inr ⟨rfl, rfl, rfl⟩)))) (hb hby own_d9_32) (by decide) (by decide) ?_
  have u_10 := (Keep.refl h0 []).ext E_1
  have u_11 := u_10.trans K_9 (allS (Or.inr u_4) all0)
  exact ⟨_, rfl, N_9, by rw [e_9]; exact u_11, u_4, by rw [e_9]; exact (A_9).congr (fun i hi => by simp)⟩
set_option maxRecDepth 65536 in
set_option maxHeartbeats 40000000 in
theorem rmCp1 (l : Launch) (Z : State) (a0 : Array Value) (hw : ∀ d ∈ tables_1, d.before a0 Z = true) (a1 : Addr) (h0 : Heap) (n0 : Nat) (Z0 : n0 ≤ h0.size) (f : Nat → Value) (A1 : Afn Z h0 a1 .long 0 f) :
    Con l Z (⟨"java/util/Arrays", "copyOf", "([JI)[J"⟩ : MethodName) jdk_65_method_124_code 3 (some (.array .long)) ({ frames := 1, cells := 1, slots := 1, locals := 18 } : Room) #[(.ref a1), (.int (1 : Int32))] h0 (fun v h L => ∃ x, v = some (.ref x) ∧ Fr n0 L ∧ Keep h0 h [] ∧ h0.size ≤ x ∧ Afn Z h x .long 1 (fun _ => (.long (0 : Int64)))) := by
  refine Con.body (plainFor_of_name own_pn3) ?_
  intro pP eE sS mM bB mT cC s₁ hx hby hml hZ hown hnm hret hlk X0 e0
  have hown : sS.vm.findClass "java/util/Arrays" = some mM.cls := hown
  have hml : cC.maxLocals = 3 := hml
  have N0 := Fr.nil n0
  have ef : entryFrame mM #[(.ref a1), (.int (1 : Int32))] 3 = mkF mM 0 #[.val (.ref a1), .val (.int (1 : Int32)), .unset] [] := by first | (simp [entryFrame, mkF, argsToLocals, Value.category]; done) | rfl
  rw [ef]
  show Goes pP eE bB _ (s₁.setTop (mkF mM 0 #[.val (.ref a1), .val (.int (1 : Int32)), .unset] []))
  refine Goes.step (fun _ kK => XS.iloadN X0.here hx rfl (hb hby own_d9_0) rfl kK) ?_
  show Goes pP eE bB _ (s₁.setTop (mkF mM 1 #[.val (.ref a1), .val (.int (1 : Int32)), .unset] [(.int (1 : Int32))]))
  refine Goes.step (fun _ kK => XS.aloadN X0.here hx rfl (hb hby own_d9_1) rfl rfl kK) ?_
  show Goes pP eE bB _ (s₁.setTop (mkF mM 2 #[.val (.ref a1), .val (.int (1 : Int32)), .unset] [(.ref a1), (.int (1 : Int32))]))
  refine Goes.alen X0 hx hZ e0 A1 (z := (0 : Int32)) (by decide) (g := (mkF mM 2 #[.val (.ref a1), .val (.int (1 : Int32)), .unset] [(.ref a1), (.int (1 : Int32))])) rfl rfl (hb hby own_d9_2) ?_
  show Goes pP eE bB _ (s₁.setTop (mkF mM 3 #[.val (.ref a1), .val (.int (1 : Int32)), .unset] [(.int (0 : Int32)), (.int (1 : Int32))]))
  refine Goes.step (fun _ kK => XS.icmpYes X0.here hx rfl (pc0 := 3) (pc' := 14) rfl (hb hby own_d9_3) rfl (feq (by decide)).2 (by decide) (by decide) kK) ?_
  show Goes pP eE bB _ (s₁.setTop (mkF mM 14 #[.val (.ref a1), .val (.int (1 : Int32)), .unset] []))
  refine Goes.step (fun _ kK => XS.iloadN X0.here hx rfl (hb hby own_d9_14) rfl kK) ?_
  show Goes pP eE bB _ (s₁.setTop (mkF mM 15 #[.val (.ref a1), .val (.int (1 : Int32)), .unset] [(.int (1 : Int32))]))
  obtain ⟨T_1, h_1, k_1, X_1, e_1, E_1, A_1, M_1, st_1⟩ := newPE X0 hx hZ (hw _ (List.mem_of_getElem? (i := 27) rfl)) e0 (g := (mkF mM 15 #[.val (.ref a1), .val (.int (1 : Int32)), .unset] [(.int (1 : Int32))])) rfl (hb hby own_d9_15) rfl (by decide) (cap := 1) (by decide) (by decide) (by decide) (by decide) (ad := "[J") rfl
  obtain ⟨b_1, g_1⟩ : ∃ z, z = h0.size := ⟨_, rfl⟩
  rw [← g_1] at A_1 M_1 st_1
  have u_2 : a1 < b_1 := Nat.lt_of_lt_of_le (A1).lt (Nat.le_of_eq g_1.symm)
  have u_3 : n0 ≤ b_1 := Nat.le_trans Z0 (Nat.le_of_eq g_1.symm)
  have u_4 : h0.size ≤ b_1 := Nat.le_trans ((Keep.refl h0 [])).1 (Nat.le_of_eq g_1.symm)
  have u_5 : Afn Z h_1 b_1 .long 1 (fun _ => (.long (0 : Int64))) := Afn.new (n := 1) A_1 (by decide)
  refine Goes.step st_1 ?_
  show Goes pP eE bB _ (T_1.setTop (mkF mM 17 #[.val (.ref a1), .val (.int (1 : Int32)), .unset] [(.ref b_1)]))
  refine Goes.step (fun _ kK => XS.astoreN X_1.here hx rfl (hb hby own_d9_17) rfl rfl (l' := #[.val (.ref a1), .val (.int (1 : Int32)), .val (.ref b_1)]) rfl kK) ?_
  show Goes pP eE bB _ (T_1.setTop (mkF mM 18 #[.val (.ref a1), .val (.int (1 : Int32)), .val (.ref b_1)] []))
  refine Goes.step (fun _ kK => XS.aloadN X_1.here hx rfl (hb hby own_d9_18) rfl rfl kK) ?_
  show Goes pP eE bB _ (T_1.setTop (mkF mM 19 #[.val (.ref a1), .val (.int (1 : Int32)), .val (.ref b_1)] [(.ref a1)]))
  refine Goes.step (fun _ kK => XS.iconst X_1.here hx rfl (hb hby own_d9_19) kK) ?_
  show Goes pP eE bB _ (T_1.setTop (mkF mM 20 #[.val (.ref a1), .val (.int (1 : Int32)), .val (.ref b_1)] [(.int (0 : Int32)), (.ref a1)]))
  refine Goes.step (fun _ kK => XS.aloadN X_1.here hx rfl (hb hby own_d9_20) rfl rfl kK) ?_
  show Goes pP eE bB _ (T_1.setTop (mkF mM 21 #[.val (.ref a1), .val (.int (1 : Int32)), .val (.ref b_1)] [(.ref b_1), (.int (0 : Int32)), (.ref a1)]))
  refine Goes.step (fun _ kK => XS.iconst X_1.here hx rfl (hb hby own_d9_21) kK) ?_
  show Goes pP eE bB _ (T_1.setTop (mkF mM 22 #[.val (.ref a1), .val (.int (1 : Int32)), .val (.ref b_1)] [(.int (0 : Int32)), (.ref b_1), (.int (0 : Int32)), (.ref a1)]))
  refine Goes.step (fun _ kK => XS.aloadN X_1.here hx rfl (hb hby own_d9_22) rfl rfl kK) ?_
  show Goes pP eE bB _ (T_1.setTop (mkF mM 23 #[.val (.ref a1), .val (.int (1 : Int32)), .val (.ref b_1)] [(.ref a1), (.int (0 : Int32)), (.ref b_1), (.int (0 : Int32)), (.ref a1)]))
  have u_6 := A1.ext E_1
  refine Goes.alen X_1 hx hZ e_1 u_6 (z := (0 : Int32)) (by decide) (g := (mkF mM 23 #[.val (.ref a1), .val (.int (1 : Int32)), .val (.ref b_1)] [(.ref a1), (.int (0 : Int32)), (.ref b_1), (.int (0 : Int32)), (.ref a1)])) rfl rfl (hb hby own_d9_23) ?_
  show Goes pP eE bB _ (T_1.setTop (mkF mM 24 #[.val (.ref a1), .val (.int (1 : Int32)), .val (.ref b_1)] [(.int (0 : Int32)), (.int (0 : Int32)), (.ref b_1), (.int (0 : Int32)), (.ref a1)]))
  refine Goes.step (fun _ kK => XS.iloadN X_1.here hx rfl (hb hby own_d9_24) rfl kK) ?_
  show Goes pP eE bB _ (T_1.setTop (mkF mM 25 #[.val (.ref a1), .val (.int (1 : Int32)), .val (.ref b_1)] [(.int (1 : Int32)), (.int (0 : Int32)), (.int (0 : Int32)), (.ref b_1), (.int (0 : Int32)), (.ref a1)]))
  have u_7 := Nat.le_trans Z0 E_1.1
  refine Goes.callS X_1 hx hZ hown (hw _ (List.mem_of_getElem? (i := 46) rfl)) (hw _ (List.mem_of_getElem? (i := 47) rfl)) (hw _ (List.mem_of_getElem? (i := 48) rfl)) (hw _ (List.mem_of_getElem? (i := 49) rfl)) (by decide) e_1 (rm_min l Z a0 hw (0 : Int32) (1 : Int32) h_1 n0 u_7) (W := 4) (by decide) (by decide) (by decide) (by decide) (g := (mkF mM 25 #[.val (.ref a1), .val (.int (1 : Int32)), .val (.ref b_1)] [(.int (1 : Int32)), (.int (0 : Int32)), (.int (0 : Int32)), (.ref b_1), (.int (0 : Int32)), (.ref a1)])) rfl (by rw [hml]; rfl) (rest := [(.int (0 : Int32)), (.ref b_1), (.int (0 : Int32)), (.ref a1)]) own_pd2 rfl rfl (by show 2 * 0 + _ ≤ _; exact Nat.le_of_eq rfl) (hb hby own_d9_25) ?_
  intro v_8 T_8 L_8 X_8 hQ_8
  obtain ⟨rfl, N_8q, e_8⟩ := hQ_8
  have N_8 := Fr.app N0 N_8q
  show Goes pP eE bB _ (T_8.setTop (mkF mM 28 #[.val (.ref a1), .val (.int (1 : Int32)), .val (.ref b_1)] [(.int (own_v_min (0 : Int32) (1 : Int32))), (.int (0 : Int32)), (.ref b_1), (.int (0 : Int32)), (.ref a1)]))
  refine Goes.acopy X_8 hx hZ hown (hw _ (List.mem_of_getElem? (i := 50) rfl)) (hw _ (List.mem_of_getElem? (i := 53) rfl)) (hw _ (List.mem_of_getElem? (i := 51) rfl)) (hw _ (List.mem_of_getElem? (i := 52) rfl)) e_8 u_6 u_5 rfl (z := (0 : Int32)) (z' := (1 : Int32)) (sp := 0) (dp := 0) (nn := 0) (by decide) (by decide) (by decide) (by decide) (by decide) (by decide) (by decide) N_8 u_3 (g := (mkF mM 28 #[.val (.ref a1), .val (.int (1 : Int32)), .val (.ref b_1)] [(.int (own_v_min (0 : Int32) (1 : Int32))), (.int (0 : Int32)), (.ref b_1), (.int (0 : Int32)), (.ref a1)])) rfl (by rw [hml]; rfl) rfl (hb hby own_d9_28) (by decide) (W := 0) (by show 2 * 0 + _ ≤ _; exact Nat.le_of_eq rfl) (by decide) ?_
  intro T_9 h_9 L_9 X_9 e_9 N_9 K_9 A_9
  show Goes pP eE bB _ (T_9.setTop (mkF mM 31 #[.val (.ref a1), .val (.int (1 : Int32)), .val (.ref b_1)] []))
  refine Goes.step (fun _ kK => XS.aloadN X_9.here hx rfl (hb hby own_d9_31) rfl rfl kK) ?_
  show Goes pP eE bB _ (T_9.setTop (mkF mM 32 #[.val (.ref a1), .val (.int (1 : Int32)), .val (.ref b_1)] [(.ref b_1)]))
  refine Goes.ret X_9 hx hlk hret rfl (Or.inr (Or.inr (Or.inr (Or.inr ⟨rfl, rfl, rfl⟩)))) (hb hby own_d9_32) (by decide) (by decide) ?_
  have u_10 := (Keep.refl h0 []).ext E_1
  have u_11 := u_10.trans K_9 (allS (Or.inr u_4) all0)
  exact ⟨_, rfl, N_9, by rw [e_9]; exact u_11, u_4, by rw [e_9]; exact (A_9).congr (fun i hi => by simp)⟩
set_option maxRecDepth 65536 in
set_option maxHeartbeats 40000000 in
theorem rmTL (l : Launch) (Z : State) (a0 : Array Value) (hw : ∀ d ∈ tables_1, d.before a0 Z = true) (a1 b : Addr) (h0 : Heap) (n0 : Nat) (Z0 : n0 ≤ h0.size) (f : Nat → Value) (Ab : Afn Z h0 b .long 1 f) (Fw : Fld Z h0 a1 "java/util/BitSet" "words" "[J" (.ref b)) (Fi : Fld Z h0 a1 "java/util/BitSet" "wordsInUse" "I" (.int (0 : Int32))) :
    Con l Z (⟨"java/util/BitSet", "toLongArray", "()[J"⟩ : MethodName) jdk_92_method_13_code 1 (some (.array .long)) ({ frames := 2, cells := 1, slots := 0, locals := 32 } : Room) #[(.ref a1)] h0 (fun v h L => ∃ x, v = some (.ref x) ∧ Fr n0 L ∧ Keep h0 h [] ∧ h0.size ≤ x ∧ Afn Z h x .long 0 (fun _ => (.long (0 : Int64)))) := by
  refine Con.body (plainFor_of_name own_pn0) ?_
  intro pP eE sS mM bB mT cC s₁ hx hby hml hZ hown hnm hret hlk X0 e0
  have hown : sS.vm.findClass "java/util/BitSet" = some mM.cls := hown
  have hml : cC.maxLocals = 1 := hml
  have N0 := Fr.nil n0
  have ef : entryFrame mM #[(.ref a1)] 1 = mkF mM 0 #[.val (.ref a1)] [] := by first | (simp [entryFrame, mkF, argsToLocals, Value.category]; done) | rfl
  rw [ef]
  show Goes pP eE bB _ (s₁.setTop (mkF mM 0 #[.val (.ref a1)] []))
  refine Goes.step (fun _ kK => XS.aloadN X0.here hx rfl (hb hby own_d8_0) rfl rfl kK) ?_
  show Goes pP eE bB _ (s₁.setTop (mkF mM 1 #[.val (.ref a1)] [(.ref a1)]))
  obtain ⟨T_1, X_1, e_1, st_1⟩ := getF X0 hx hZ hown (host := "") (Or.inl (hw _ (List.mem_of_getElem? (i := 28) rfl))) Via.refl e0 Fw (g := (mkF mM 1 #[.val (.ref a1)] [(.ref a1)])) rfl rfl (hb hby own_d8_1)
  refine Goes.step st_1 ?_
  show Goes pP eE bB _ (T_1.setTop (mkF mM 4 #[.val (.ref a1)] [(.ref b)]))
  refine Goes.step (fun _ kK => XS.aloadN X_1.here hx rfl (hb hby own_d8_4) rfl rfl kK) ?_
  show Goes pP eE bB _ (T_1.setTop (mkF mM 5 #[.val (.ref a1)] [(.ref a1), (.ref b)]))
  obtain ⟨T_2, X_2, e_2, st_2⟩ := getF X_1 hx hZ hown (host := "") (Or.inl (hw _ (List.mem_of_getElem? (i := 15) rfl))) Via.refl e_1 Fi (g := (mkF mM 5 #[.val (.ref a1)] [(.ref a1), (.ref b)])) rfl rfl (hb hby own_d8_5)
  refine Goes.step st_2 ?_
  show Goes pP eE bB _ (T_2.setTop (mkF mM 8 #[.val (.ref a1)] [(.int (0 : Int32)), (.ref b)]))
  refine Goes.callS X_2 hx hZ hown (hw _ (List.mem_of_getElem? (i := 42) rfl)) (hw _ (List.mem_of_getElem? (i := 43) rfl)) (hw _ (List.mem_of_getElem? (i := 44) rfl)) (hw _ (List.mem_of_getElem? (i := 45) rfl)) (by decide) e_2 (rmCp0 l Z a0 hw b h0 n0 Z0 _ Ab) (W := 0) (by decide) (by decide) (by decide) (by decide) (g := (mkF mM 8 #[.val (.ref a1)] [(.int (0 : Int32)), (.ref b)])) rfl (by rw [hml]; rfl) (rest := []) own_pd3 rfl rfl (by show 2 * 0 + _ ≤ _; exact Nat.le_of_eq rfl) (hb hby own_d8_8) ?_
  intro v_3 T_3 L_3 X_3 hQ_3
  generalize e_3 : T_3.heap = h_3 at hQ_3
  obtain ⟨b_3, rfl, N_3q, K_3, s_3, A_3⟩ := hQ_3
  have N_3 := Fr.app N0 N_3q
  have u_4 : a1 < b_3 := Nat.lt_of_lt_of_le (Fw).lt s_3
  have u_5 : b < b_3 := Nat.lt_of_lt_of_le (Ab).lt s_3
  have u_6 : n0 ≤ b_3 := Nat.le_trans Z0 s_3
  have u_7 : h0.size ≤ b_3 := Nat.le_trans ((Keep.refl h0 [])).1 s_3
  show Goes pP eE bB _ (T_3.setTop (mkF mM 11 #[.val (.ref a1)] [(.ref b_3)]))
  refine Goes.ret X_3 hx hlk hret rfl (Or.inr (Or.inr (Or.inr (Or.inr ⟨rfl, rfl, rfl⟩)))) (hb hby own_d8_11) (by decide) (by decide) ?_
  have u_8 := (Keep.refl h0 []).trans K_3 all0
  exact ⟨_, rfl, N_3, by rw [e_3]; exact u_8, u_7, by rw [e_3]; exact A_3⟩
/-- the row r: its words array w holds W alone, its tree t two ints, its length len -/
def own_Row (Z : State) (h : Heap) (r w t : Addr) (W : Int64) (len : Int32) : Prop :=
  Fld Z h r "com/example/orderly_seats/orderlyseats/model/MarkedRow" "words" "[J" (.ref w) ∧ Fld Z h r "com/example/orderly_seats/orderlyseats/model/MarkedRow" "tree" "[I" (.ref t) ∧ Fld Z h r "com/example/orderly_seats/orderlyseats/model/MarkedRow" "length" "I" (.int len) ∧ Afn Z h w .long 1 (fun _ => .long W) ∧ ∃ f c, Afn Z h t .int 2 f ∧ f 1 = .int c
set_option maxRecDepth 65536 in
set_option maxHeartbeats 40000000 in
theorem rmR2 (l : Launch) (Z : State) (a0 : Array Value) (hw : ∀ d ∈ tables_1, d.before a0 Z = true) (a1 a2 b : Addr) (h0 : Heap) (n0 : Nat) (Z0 : n0 ≤ h0.size) (E1 : Exa Z h0 a1 "com/example/orderly_seats/orderlyseats/model/MarkedRow") (g1 : n0 ≤ a1) (F_words : Fld Z h0 a1 "com/example/orderly_seats/orderlyseats/model/MarkedRow" "words" "[J" .null) (F_tree : Fld Z h0 a1 "com/example/orderly_seats/orderlyseats/model/MarkedRow" "tree" "[I" .null) (F_length : Fld Z h0 a1 "com/example/orderly_seats/orderlyseats/model/MarkedRow" "length" "I" (.int (0 : Int32))) (E2 : Exa Z h0 a2 "java/util/BitSet") (f : Nat → Value) (Ab : Afn Z h0 b .long 1 f) (Fw : Fld Z h0 a2 "java/util/BitSet" "words" "[J" (.ref b)) (Fi : Fld Z h0 a2 "java/util/BitSet" "wordsInUse" "I" (.int (0 : Int32))) :
    Con l Z (⟨"com/example/orderly_seats/orderlyseats/model/MarkedRow", "<init>", "(Ljava/util/BitSet;I)V"⟩ : MethodName) prog_26_method_2_code 6 none ({ frames := 3, cells := 3, slots := 3, locals := 45 } : Room) #[(.ref a1), (.ref a2), (.int (0 : Int32))] h0 (fun v h L => v = none ∧ Fr n0 L ∧ Keep h0 h [a1] ∧ ∃ w t, own_Row Z h a1 w t 0 (0 : Int32) ∧ h0.size ≤ w ∧ h0.size ≤ t ∧ w ≠ t) := by
  refine Con.body (plainFor_of_name own_pn1) ?_
  intro pP eE sS mM bB mT cC s₁ hx hby hml hZ hown hnm hret hlk X0 e0
  have hown : sS.vm.findClass "com/example/orderly_seats/orderlyseats/model/MarkedRow" = some mM.cls := hown
  have hml : cC.maxLocals = 6 := hml
  have N0 := Fr.nil n0
  have ef : entryFrame mM #[(.ref a1), (.ref a2), (.int (0 : Int32))] 6 = mkF mM 0 #[.val (.ref a1), .val (.ref a2), .val (.int (0 : Int32)), .unset, .unset, .unset] [] := by first | (simp [entryFrame, mkF, argsToLocals, Value.category]; done) | rfl
  rw [ef]
  show Goes pP eE bB _ (s₁.setTop (mkF mM 0 #[.val (.ref a1), .val (.ref a2), .val (.int (0 : Int32)), .unset, .unset, .unset] []))
  refine Goes.step (fun _ kK => XS.aloadN X0.here hx rfl (hb hby own_d6_0) rfl rfl kK) ?_
  show Goes pP eE bB _ (s₁.setTop (mkF mM 1 #[.val (.ref a1), .val (.ref a2), .val (.int (0 : Int32)), .unset, .unset, .unset] [(.ref a1)]))
  obtain ⟨T_1, X_1, e_1, st_1⟩ := initO X0 hx hZ hown (hw _ (List.mem_of_getElem? (i := 33) rfl)) (hw _ (List.mem_of_getElem? (i := 13) rfl)) (hw _ (List.mem_of_getElem? (i := 14) rfl)) e0 (g := (mkF mM 1 #[.val (.ref a1), .val (.ref a2), .val (.int (0 : Int32)), .unset, .unset, .unset] [(.ref a1)])) rfl (by rw [hml]; rfl) rfl (hb hby own_d6_1) (by decide) (W := 0) (by show 2 * 0 + _ ≤ _; exact Nat.le_of_eq rfl) (by decide)
  refine Goes.step st_1 ?_
  show Goes pP eE bB _ (T_1.setTop (mkF mM 4 #[.val (.ref a1), .val (.ref a2), .val (.int (0 : Int32)), .unset, .unset, .unset] []))
  refine Goes.step (fun _ kK => XS.iloadN X_1.here hx rfl (hb hby own_d6_4) rfl kK) ?_
  show Goes pP eE bB _ (T_1.setTop (mkF mM 5 #[.val (.ref a1), .val (.ref a2), .val (.int (0 : Int32)), .unset, .unset, .unset] [(.int (0 : Int32))]))
  refine Goes.callS X_1 hx hZ hown (hw _ (List.mem_of_getElem? (i := 34) rfl)) (hw _ (List.mem_of_getElem? (i := 35) rfl)) (hw _ (List.mem_of_getElem? (i := 2) rfl)) (hw _ (List.mem_of_getElem? (i := 36) rfl)) (by decide) e_1 (rm_wo l Z a0 hw (0 : Int32) h0 n0 Z0) (W := 0) (by decide) (by decide) (by decide) (by decide) (g := (mkF mM 5 #[.val (.ref a1), .val (.ref a2), .val (.int (0 : Int32)), .unset, .unset, .unset] [(.int (0 : Int32))])) rfl (by rw [hml]; rfl) (rest := []) own_pd0 rfl rfl (by show 2 * 0 + _ ≤ _; exact Nat.le_of_eq rfl) (hb hby own_d6_5) ?_
  intro v_2 T_2 L_2 X_2 hQ_2
  obtain ⟨rfl, N_2q, e_2⟩ := hQ_2
  have N_2 := Fr.app N0 N_2q
  show Goes pP eE bB _ (T_2.setTop (mkF mM 8 #[.val (.ref a1), .val (.ref a2), .val (.int (0 : Int32)), .unset, .unset, .unset] [(.int (own_v_wo (0 : Int32)))]))
  refine Goes.step (fun _ kK => XS.istoreN X_2.here hx rfl (hb hby own_d6_8) rfl (l' := #[.val (.ref a1), .val (.ref a2), .val (.int (0 : Int32)), .val (.int (own_v_wo (0 : Int32))), .unset, .unset]) rfl kK) ?_
  show Goes pP eE bB _ (T_2.setTop (mkF mM 9 #[.val (.ref a1), .val (.ref a2), .val (.int (0 : Int32)), .val (.int (own_v_wo (0 : Int32))), .unset, .unset] []))
  refine Goes.step (fun _ kK => XS.aloadN X_2.here hx rfl (hb hby own_d6_9) rfl rfl kK) ?_
  show Goes pP eE bB _ (T_2.setTop (mkF mM 10 #[.val (.ref a1), .val (.ref a2), .val (.int (0 : Int32)), .val (.int (own_v_wo (0 : Int32))), .unset, .unset] [(.ref a1)]))
  refine Goes.step (fun _ kK => XS.aloadN X_2.here hx rfl (hb hby own_d6_10) rfl rfl kK) ?_
  show Goes pP eE bB _ (T_2.setTop (mkF mM 11 #[.val (.ref a1), .val (.ref a2), .val (.int (0 : Int32)), .val (.int (own_v_wo (0 : Int32))), .unset, .unset] [(.ref a2), (.ref a1)]))
  refine Goes.callV X_2 hx hZ hown (hw _ (List.mem_of_getElem? (i := 37) rfl)) (hw _ (List.mem_of_getElem? (i := 38) rfl)) (notFace_of_selects (args := #[]) (mvT hZ (hw _ (List.mem_of_getElem? (i := 40) rfl)))) (hw _ (List.mem_of_getElem? (i := 40) rfl)) (hw _ (List.mem_of_getElem? (i := 39) rfl)) (hw _ (List.mem_of_getElem? (i := 41) rfl)) (hw _ (List.mem_of_getElem? (i := 8) rfl)) (by decide) e_2 E2 (rmTL l Z a0 hw a2 b h0 n0 Z0 _ Ab Fw Fi) (W := 1) (by decide) (by decide) (by decide) (by decide) (g := (mkF mM 11 #[.val (.ref a1), .val (.ref a2), .val (.int (0 : Int32)), .val (.int (own_v_wo (0 : Int32))), .unset, .unset] [(.ref a2), (.ref a1)])) rfl (by rw [hml]; rfl) (rest := [(.ref a1)]) own_pd4 rfl rfl (by show 2 * 0 + _ ≤ _; exact Nat.le_of_eq rfl) (hb hby own_d6_11) ?_
  intro v_3 T_3 L_3 X_3 hQ_3
  generalize e_3 : T_3.heap = h_3 at hQ_3
  obtain ⟨b_3, rfl, N_3q, K_3, s_3, A_3⟩ := hQ_3
  have N_3 := Fr.app N_2 N_3q
  have u_4 : a1 < b_3 := Nat.lt_of_lt_of_le (E1).lt s_3
  have u_5 : a2 < b_3 := Nat.lt_of_lt_of_le (E2).lt s_3
  have u_6 : b < b_3 := Nat.lt_of_lt_of_le (Ab).lt s_3
  have u_7 : n0 ≤ b_3 := Nat.le_trans Z0 s_3
  have u_8 : h0.size ≤ b_3 := Nat.le_trans ((Keep.refl h0 [a1])).1 s_3
  show Goes pP eE bB _ (T_3.setTop (mkF mM 14 #[.val (.ref a1), .val (.ref a2), .val (.int (0 : Int32)), .val (.int (own_v_wo (0 : Int32))), .unset, .unset] [(.ref b_3), (.ref a1)]))
  refine Goes.step (fun _ kK => XS.iconst X_3.here hx rfl (hb hby own_d6_14) kK) ?_
  show Goes pP eE bB _ (T_3.setTop (mkF mM 15 #[.val (.ref a1), .val (.ref a2), .val (.int (0 : Int32)), .val (.int (own_v_wo (0 : Int32))), .unset, .unset] [(.int (1 : Int32)), (.ref b_3), (.ref a1)]))
  refine Goes.step (fun _ kK => XS.iloadN X_3.here hx rfl (hb hby own_d6_15) rfl kK) ?_
  show Goes pP eE bB _ (T_3.setTop (mkF mM 16 #[.val (.ref a1), .val (.ref a2), .val (.int (0 : Int32)), .val (.int (own_v_wo (0 : Int32))), .unset, .unset] [(.int (own_v_wo (0 : Int32))), (.int (1 : Int32)), (.ref b_3), (.ref a1)]))
  have u_9 := Nat.le_trans Z0 K_3.1
  refine Goes.callS X_3 hx hZ hown (hw _ (List.mem_of_getElem? (i := 54) rfl)) (hw _ (List.mem_of_getElem? (i := 55) rfl)) (hw _ (List.mem_of_getElem? (i := 48) rfl)) (hw _ (List.mem_of_getElem? (i := 56) rfl)) (by decide) e_3 (rm_max l Z a0 hw (1 : Int32) (own_v_wo (0 : Int32)) h_3 n0 u_9) (W := 2) (by decide) (by decide) (by decide) (by decide) (g := (mkF mM 16 #[.val (.ref a1), .val (.ref a2), .val (.int (0 : Int32)), .val (.int (own_v_wo (0 : Int32))), .unset, .unset] [(.int (own_v_wo (0 : Int32))), (.int (1 : Int32)), (.ref b_3), (.ref a1)])) rfl (by rw [hml]; rfl) (rest := [(.ref b_3), (.ref a1)]) own_pd2 rfl rfl (by show 2 * 0 + _ ≤ _; exact Nat.le_of_eq rfl) (hb hby own_d6_16) ?_
  intro v_10 T_10 L_10 X_10 hQ_10
  obtain ⟨rfl, N_10q, e_10⟩ := hQ_10
  have N_10 := Fr.app N_3 N_10q
  show Goes pP eE bB _ (T_10.setTop (mkF mM 19 #[.val (.ref a1), .val (.ref a2), .val (.int (0 : Int32)), .val (.int (own_v_wo (0 : Int32))), .unset, .unset] [(.int (own_v_max (1 : Int32) (own_v_wo (0 : Int32)))), (.ref b_3), (.ref a1)]))
  have hm1 : (own_v_max (1 : Int32) (own_v_wo (0 : Int32))) = (1 : Int32) := by decide
  refine Goes.callS X_10 hx hZ hown (hw _ (List.mem_of_getElem? (i := 57) rfl)) (hw _ (List.mem_of_getElem? (i := 43) rfl)) (hw _ (List.mem_of_getElem? (i := 44) rfl)) (hw _ (List.mem_of_getElem? (i := 45) rfl)) (by decide) e_10 ((by decide : (1 : Int32) = (own_v_max (1 : Int32) (own_v_wo (0 : Int32)))) ▸ rmCp1 l Z a0 hw b_3 h_3 n0 u_9 _ A_3) (W := 1) (by decide) (by decide) (by decide) (by decide) (g := (mkF mM 19 #[.val (.ref a1), .val (.ref a2), .val (.int (0 : Int32)), .val (.int (own_v_wo (0 : Int32))), .unset, .unset] [(.int (own_v_max (1 : Int32) (own_v_wo (0 : Int32)))), (.ref b_3), (.ref a1)])) rfl (by rw [hml]; rfl) (rest := [(.ref a1)]) own_pd3 rfl rfl (by show 2 * 0 + _ ≤ _; exact Nat.le_of_eq rfl) (hb hby own_d6_19) ?_
  intro v_11 T_11 L_11 X_11 hQ_11
  generalize e_11 : T_11.heap = h_11 at hQ_11
  obtain ⟨b_11, rfl, N_11q, K_11, s_11, A_11⟩ := hQ_11
  have N_11 := Fr.app N_10 N_11q
  have u_12 := Nat.lt_of_lt_of_le (E1).lt K_3.1
  have u_13 : a1 < b_11 := Nat.lt_of_lt_of_le u_12 s_11
  have u_14 := Nat.lt_of_lt_of_le (E2).lt K_3.1
  have u_15 : a2 < b_11 := Nat.lt_of_lt_of_le u_14 s_11
  have u_16 := Nat.lt_of_lt_of_le (Ab).lt K_3.1
  have u_17 : b < b_11 := Nat.lt_of_lt_of_le u_16 s_11
  have u_18 : b_3 < b_11 := Nat.lt_of_lt_of_le (A_3).lt s_11
  have u_19 : n0 ≤ b_11 := Nat.le_trans u_9 s_11
  have u_20 := (Keep.refl h0 [a1]).trans K_3 all0
  have u_21 : h0.size ≤ b_11 := Nat.le_trans (u_20).1 s_11
  show Goes pP eE bB _ (T_11.setTop (mkF mM 22 #[.val (.ref a1), .val (.ref a2), .val (.int (0 : Int32)), .val (.int (own_v_wo (0 : Int32))), .unset, .unset] [(.ref b_11), (.ref a1)]))
  have u_22 := F_words.keep K_3 nin0
  have u_23 := u_22.keep K_11 nin0
  have u_24 := E1.keep K_3
  have u_25 := u_24.keep K_11
  obtain ⟨T_26, h_26, X_26, e_26, W_26, st_26⟩ := putF X_11 hx hZ hown (host := "") (Or.inl (hw _ (List.mem_of_getElem? (i := 58) rfl))) Via.refl e_11 u_23 u_25 (Or.inl (hw _ (List.mem_of_getElem? (i := 59) rfl))) (hw _ (List.mem_of_getElem? (i := 1) rfl)) (ty := (.array .long)) (by decide) rfl rfl (g := (mkF mM 22 #[.val (.ref a1), .val (.ref a2), .val (.int (0 : Int32)), .val (.int (own_v_wo (0 : Int32))), .unset, .unset] [(.ref b_11), (.ref a1)])) rfl rfl (hb hby own_d6_22)
  have u_27 := u_23.same W_26
  have N_26 := Fr.snoc X_26 N_11 g1
  refine Goes.step st_26 ?_
  show Goes pP eE bB _ (T_26.setTop (mkF mM 25 #[.val (.ref a1), .val (.ref a2), .val (.int (0 : Int32)), .val (.int (own_v_wo (0 : Int32))), .unset, .unset] []))
  refine Goes.step (fun _ kK => XS.aloadN X_26.here hx rfl (hb hby own_d6_25) rfl rfl kK) ?_
  show Goes pP eE bB _ (T_26.setTop (mkF mM 26 #[.val (.ref a1), .val (.ref a2), .val (.int (0 : Int32)), .val (.int (own_v_wo (0 : Int32))), .unset, .unset] [(.ref a1)]))
  refine Goes.step (fun _ kK => XS.aloadN X_26.here hx rfl (hb hby own_d6_26) rfl rfl kK) ?_
  show Goes pP eE bB _ (T_26.setTop (mkF mM 27 #[.val (.ref a1), .val (.ref a2), .val (.int (0 : Int32)), .val (.int (own_v_wo (0 : Int32))), .unset, .unset] [(.ref a1), (.ref a1)]))
  obtain ⟨T_28, X_28, e_28, st_28⟩ := getF X_26 hx hZ hown (host := "") (Or.inl (hw _ (List.mem_of_getElem? (i := 58) rfl))) Via.refl e_26 u_27 (g := (mkF mM 27 #[.val (.ref a1), .val (.ref a2), .val (.int (0 : Int32)), .val (.int (own_v_wo (0 : Int32))), .unset, .unset] [(.ref a1), (.ref a1)])) rfl rfl (hb hby own_d6_27)
  refine Goes.step st_28 ?_
  show Goes pP eE bB _ (T_28.setTop (mkF mM 30 #[.val (.ref a1), .val (.ref a2), .val (.int (0 : Int32)), .val (.int (own_v_wo (0 : Int32))), .unset, .unset] [(.ref b_11), (.ref a1)]))
  have u_29 := A_11.other W_26 (Nat.ne_of_gt u_13)
  refine Goes.alen X_28 hx hZ e_28 u_29 (z := (1 : Int32)) (by decide) (g := (mkF mM 30 #[.val (.ref a1), .val (.ref a2), .val (.int (0 : Int32)), .val (.int (own_v_wo (0 : Int32))), .unset, .unset] [(.ref b_11), (.ref a1)])) rfl rfl (hb hby own_d6_30) ?_
  show Goes pP eE bB _ (T_28.setTop (mkF mM 31 #[.val (.ref a1), .val (.ref a2), .val (.int (0 : Int32)), .val (.int (own_v_wo (0 : Int32))), .unset, .unset] [(.int (1 : Int32)), (.ref a1)]))
  refine Goes.step (fun _ kK => XS.iconst X_28.here hx rfl (hb hby own_d6_31) kK) ?_
  show Goes pP eE bB _ (T_28.setTop (mkF mM 32 #[.val (.ref a1), .val (.ref a2), .val (.int (0 : Int32)), .val (.int (own_v_wo (0 : Int32))), .unset, .unset] [(.int (1 : Int32)), (.int (1 : Int32)), (.ref a1)]))
  refine Goes.step (fun _ kK => XS.iadd X_28.here hx rfl (hb hby own_d6_32) rfl kK) ?_
  show Goes pP eE bB _ (T_28.setTop (mkF mM 33 #[.val (.ref a1), .val (.ref a2), .val (.int (0 : Int32)), .val (.int (own_v_wo (0 : Int32))), .unset, .unset] [(.int ((1 : Int32) + (1 : Int32))), (.ref a1)]))
  obtain ⟨T_30, h_30, k_30, X_30, e_30, E_30, A_30, M_30, st_30⟩ := newPE X_28 hx hZ (hw _ (List.mem_of_getElem? (i := 60) rfl)) e_28 (g := (mkF mM 33 #[.val (.ref a1), .val (.ref a2), .val (.int (0 : Int32)), .val (.int (own_v_wo (0 : Int32))), .unset, .unset] [(.int ((1 : Int32) + (1 : Int32))), (.ref a1)])) rfl (hb hby own_d6_33) rfl (by decide) (cap := 2) (by decide) (by decide) (by decide) (by decide) (ad := "[I") rfl
  obtain ⟨b_30, g_30⟩ : ∃ z, z = h_26.size := ⟨_, rfl⟩
  rw [← g_30] at A_30 M_30 st_30
  have u_31 := Nat.lt_of_lt_of_le u_12 K_11.1
  have u_32 := Nat.lt_of_lt_of_le u_31 (Keep.of_wr W_26).1
  have u_33 : a1 < b_30 := Nat.lt_of_lt_of_le u_32 (Nat.le_of_eq g_30.symm)
  have u_34 := Nat.lt_of_lt_of_le u_14 K_11.1
  have u_35 := Nat.lt_of_lt_of_le u_34 (Keep.of_wr W_26).1
  have u_36 : a2 < b_30 := Nat.lt_of_lt_of_le u_35 (Nat.le_of_eq g_30.symm)
  have u_37 := Nat.lt_of_lt_of_le u_16 K_11.1
  have u_38 := Nat.lt_of_lt_of_le u_37 (Keep.of_wr W_26).1
  have u_39 : b < b_30 := Nat.lt_of_lt_of_le u_38 (Nat.le_of_eq g_30.symm)
  have u_40 := Nat.lt_of_lt_of_le (A_3).lt K_11.1
  have u_41 := Nat.lt_of_lt_of_le u_40 (Keep.of_wr W_26).1
  have u_42 : b_3 < b_30 := Nat.lt_of_lt_of_le u_41 (Nat.le_of_eq g_30.symm)
  have u_43 : b_11 < b_30 := Nat.lt_of_lt_of_le (u_29).lt (Nat.le_of_eq g_30.symm)
  have u_44 := Nat.le_trans u_9 K_11.1
  have u_45 := Nat.le_trans u_44 (Keep.of_wr W_26).1
  have u_46 : n0 ≤ b_30 := Nat.le_trans u_45 (Nat.le_of_eq g_30.symm)
  have u_47 := u_20.trans K_11 all0
  have u_48 := u_47.wr W_26 (Or.inl (List.mem_of_getElem? (i := 0) rfl))
  have u_49 : h0.size ≤ b_30 := Nat.le_trans (u_48).1 (Nat.le_of_eq g_30.symm)
  have u_50 : Afn Z h_30 b_30 .int 2 (fun _ => (.int (0 : Int32))) := Afn.new (n := 2) A_30 (by decide)
  refine Goes.step st_30 ?_
  show Goes pP eE bB _ (T_30.setTop (mkF mM 35 #[.val (.ref a1), .val (.ref a2), .val (.int (0 : Int32)), .val (.int (own_v_wo (0 : Int32))), .unset, .unset] [(.ref b_30), (.ref a1)]))
  have u_51 := F_tree.keep K_3 nin0
  have u_52 := u_51.keep K_11 nin0
  have u_53 := u_52.other W_26 (Or.inr (slot_ne (Or.inl (hw _ (List.mem_of_getElem? (i := 62) rfl))) (Or.inl (hw _ (List.mem_of_getElem? (i := 59) rfl))) (by decide) (t := (.array .int)) (t' := (.array .long)) (by decide) (by decide)))
  have u_54 := u_53.ext E_30
  have u_55 := u_25.wr W_26
  have u_56 := u_55.ext E_30
  obtain ⟨T_57, h_57, X_57, e_57, W_57, st_57⟩ := putF X_30 hx hZ hown (host := "") (Or.inl (hw _ (List.mem_of_getElem? (i := 61) rfl))) Via.refl e_30 u_54 u_56 (Or.inl (hw _ (List.mem_of_getElem? (i := 62) rfl))) (hw _ (List.mem_of_getElem? (i := 1) rfl)) (ty := (.array .int)) (by decide) rfl rfl (g := (mkF mM 35 #[.val (.ref a1), .val (.ref a2), .val (.int (0 : Int32)), .val (.int (own_v_wo (0 : Int32))), .unset, .unset] [(.ref b_30), (.ref a1)])) rfl rfl (hb hby own_d6_35)
  have u_58 := u_54.same W_57
  have N_57 := Fr.snoc X_57 N_26 g1
  refine Goes.step st_57 ?_
  show Goes pP eE bB _ (T_57.setTop (mkF mM 38 #[.val (.ref a1), .val (.ref a2), .val (.int (0 : Int32)), .val (.int (own_v_wo (0 : Int32))), .unset, .unset] []))
  refine Goes.step (fun _ kK => XS.aloadN X_57.here hx rfl (hb hby own_d6_38) rfl rfl kK) ?_
  show Goes pP eE bB _ (T_57.setTop (mkF mM 39 #[.val (.ref a1), .val (.ref a2), .val (.int (0 : Int32)), .val (.int (own_v_wo (0 : Int32))), .unset, .unset] [(.ref a1)]))
  refine Goes.step (fun _ kK => XS.iloadN X_57.here hx rfl (hb hby own_d6_39) rfl kK) ?_
  show Goes pP eE bB _ (T_57.setTop (mkF mM 40 #[.val (.ref a1), .val (.ref a2), .val (.int (0 : Int32)), .val (.int (own_v_wo (0 : Int32))), .unset, .unset] [(.int (0 : Int32)), (.ref a1)]))
  have u_59 := F_length.keep K_3 nin0
  have u_60 := u_59.keep K_11 nin0
  have u_61 := u_60.other W_26 (Or.inr (slot_ne (Or.inl (hw _ (List.mem_of_getElem? (i := 64) rfl))) (Or.inl (hw _ (List.mem_of_getElem? (i := 59) rfl))) (by decide) (t := .int) (t' := (.array .long)) (by decide) (by decide)))
  have u_62 := u_61.ext E_30
  have u_63 := u_62.other W_57 (Or.inr (slot_ne (Or.inl (hw _ (List.mem_of_getElem? (i := 64) rfl))) (Or.inl (hw _ (List.mem_of_getElem? (i := 62) rfl))) (by decide) (t := .int) (t' := (.array .int)) (by decide) (by decide)))
  have u_64 := u_56.wr W_57
  obtain ⟨T_65, h_65, X_65, e_65, W_65, st_65⟩ := putF X_57 hx hZ hown (host := "") (Or.inl (hw _ (List.mem_of_getElem? (i := 63) rfl))) Via.refl e_57 u_63 u_64 (Or.inl (hw _ (List.mem_of_getElem? (i := 64) rfl))) (hw _ (List.mem_of_getElem? (i := 1) rfl)) (ty := .int) (by decide) rfl rfl (g := (mkF mM 40 #[.val (.ref a1), .val (.ref a2), .val (.int (0 : Int32)), .val (.int (own_v_wo (0 : Int32))), .unset, .unset] [(.int (0 : Int32)), (.ref a1)])) rfl rfl (hb hby own_d6_40)
  have u_66 := u_63.same W_65
  have N_65 := Fr.snoc X_65 N_57 g1
  refine Goes.step st_65 ?_
  show Goes pP eE bB _ (T_65.setTop (mkF mM 43 #[.val (.ref a1), .val (.ref a2), .val (.int (0 : Int32)), .val (.int (own_v_wo (0 : Int32))), .unset, .unset] []))
  refine Goes.step (fun _ kK => XS.iconst X_65.here hx rfl (hb hby own_d6_43) kK) ?_
  show Goes pP eE bB _ (T_65.setTop (mkF mM 44 #[.val (.ref a1), .val (.ref a2), .val (.int (0 : Int32)), .val (.int (own_v_wo (0 : Int32))), .unset, .unset] [(.int (0 : Int32))]))
  refine Goes.step (fun _ kK => XS.istore X_65.here hx rfl (hb hby own_d6_44) rfl (l' := #[.val (.ref a1), .val (.ref a2), .val (.int (0 : Int32)), .val (.int (own_v_wo (0 : Int32))), .val (.int (0 : Int32)), .unset]) rfl kK) ?_
  show Goes pP eE bB _ (T_65.setTop (mkF mM 46 #[.val (.ref a1), .val (.ref a2), .val (.int (0 : Int32)), .val (.int (own_v_wo (0 : Int32))), .val (.int (0 : Int32)), .unset] []))
  refine Goes.step (fun _ kK => XS.iload X_65.here hx rfl (hb hby own_d6_46) rfl kK) ?_
  show Goes pP eE bB _ (T_65.setTop (mkF mM 48 #[.val (.ref a1), .val (.ref a2), .val (.int (0 : Int32)), .val (.int (own_v_wo (0 : Int32))), .val (.int (0 : Int32)), .unset] [(.int (0 : Int32))]))
  refine Goes.step (fun _ kK => XS.iloadN X_65.here hx rfl (hb hby own_d6_48) rfl kK) ?_
  show Goes pP eE bB _ (T_65.setTop (mkF mM 49 #[.val (.ref a1), .val (.ref a2), .val (.int (0 : Int32)), .val (.int (own_v_wo (0 : Int32))), .val (.int (0 : Int32)), .unset] [(.int (own_v_wo (0 : Int32))), (.int (0 : Int32))]))
  refine Goes.step (fun _ kK => XS.icmpYes X_65.here hx rfl (pc0 := 49) (pc' := 77) rfl (hb hby own_d6_49) rfl (flt (by decide)).2.1 (by decide) (by decide) kK) ?_
  show Goes pP eE bB _ (T_65.setTop (mkF mM 77 #[.val (.ref a1), .val (.ref a2), .val (.int (0 : Int32)), .val (.int (own_v_wo (0 : Int32))), .val (.int (0 : Int32)), .unset] []))
  refine Goes.step (fun _ kK => XS.iconst X_65.here hx rfl (hb hby own_d6_77) kK) ?_
  show Goes pP eE bB _ (T_65.setTop (mkF mM 78 #[.val (.ref a1), .val (.ref a2), .val (.int (0 : Int32)), .val (.int (own_v_wo (0 : Int32))), .val (.int (0 : Int32)), .unset] [(.int (1 : Int32))]))
  refine Goes.step (fun _ kK => XS.istore X_65.here hx rfl (hb hby own_d6_78) rfl (l' := #[.val (.ref a1), .val (.ref a2), .val (.int (0 : Int32)), .val (.int (own_v_wo (0 : Int32))), .val (.int (1 : Int32)), .unset]) rfl kK) ?_
  show Goes pP eE bB _ (T_65.setTop (mkF mM 80 #[.val (.ref a1), .val (.ref a2), .val (.int (0 : Int32)), .val (.int (own_v_wo (0 : Int32))), .val (.int (1 : Int32)), .unset] []))
  refine Goes.step (fun _ kK => XS.iload X_65.here hx rfl (hb hby own_d6_80) rfl kK) ?_
  show Goes pP eE bB _ (T_65.setTop (mkF mM 82 #[.val (.ref a1), .val (.ref a2), .val (.int (0 : Int32)), .val (.int (own_v_wo (0 : Int32))), .val (.int (1 : Int32)), .unset] [(.int (1 : Int32))]))
  refine Goes.step (fun _ kK => XS.iloadN X_65.here hx rfl (hb hby own_d6_82) rfl kK) ?_
  show Goes pP eE bB _ (T_65.setTop (mkF mM 83 #[.val (.ref a1), .val (.ref a2), .val (.int (0 : Int32)), .val (.int (own_v_wo (0 : Int32))), .val (.int (1 : Int32)), .unset] [(.int (own_v_wo (0 : Int32))), (.int (1 : Int32))]))
  refine Goes.step (fun _ kK => XS.icmpYes X_65.here hx rfl (pc0 := 83) (pc' := 125) rfl (hb hby own_d6_83) rfl (tlt (by decide)).2.2.1 (by decide) (by decide) kK) ?_
  show Goes pP eE bB _ (T_65.setTop (mkF mM 125 #[.val (.ref a1), .val (.ref a2), .val (.int (0 : Int32)), .val (.int (own_v_wo (0 : Int32))), .val (.int (1 : Int32)), .unset] []))
  refine Goes.ret0 X_65 hx hlk hret (hb hby own_d6_125) (by decide) (by decide) ?_
  have u_67 := u_48.ext E_30
  have u_68 := u_67.wr W_57 (Or.inl (List.mem_of_getElem? (i := 0) rfl))
  have u_69 := u_68.wr W_65 (Or.inl (List.mem_of_getElem? (i := 0) rfl))
  have u_70 := u_27.ext E_30
  have u_71 := u_70.other W_57 (Or.inr (slot_ne (Or.inl (hw _ (List.mem_of_getElem? (i := 59) rfl))) (Or.inl (hw _ (List.mem_of_getElem? (i := 62) rfl))) (by decide) (t := (.array .long)) (t' := (.array .int)) (by decide) (by decide)))
  have u_72 := u_71.other W_65 (Or.inr (slot_ne (Or.inl (hw _ (List.mem_of_getElem? (i := 59) rfl))) (Or.inl (hw _ (List.mem_of_getElem? (i := 64) rfl))) (by decide) (t := (.array .long)) (t' := .int) (by decide) (by decide)))
  have u_73 := u_58.other W_65 (Or.inr (slot_ne (Or.inl (hw _ (List.mem_of_getElem? (i := 62) rfl))) (Or.inl (hw _ (List.mem_of_getElem? (i := 64) rfl))) (by decide) (t := (.array .int)) (t' := .int) (by decide) (by decide)))
  have u_74 := u_29.ext E_30
  have u_75 := u_74.other W_57 (Nat.ne_of_gt u_13)
  have u_76 := u_75.other W_65 (Nat.ne_of_gt u_13)
  have u_77 := u_50.other W_57 (Nat.ne_of_gt u_33)
  have u_78 := u_77.other W_65 (Nat.ne_of_gt u_33)
  exact ⟨rfl, N_65, by rw [e_65]; exact u_69, b_11, b_30, ⟨by rw [e_65]; exact u_72, by rw [e_65]; exact u_73, by rw [e_65]; exact u_66, by rw [e_65]; exact u_76, _, _, by rw [e_65]; exact u_78, rfl⟩, u_21, u_49, (Nat.ne_of_lt u_43)⟩
set_option maxRecDepth 65536 in
set_option maxHeartbeats 40000000 in
theorem rmR1 (l : Launch) (Z : State) (a0 : Array Value) (hw : ∀ d ∈ tables_1, d.before a0 Z = true) (a1 : Addr) (h0 : Heap) (n0 : Nat) (Z0 : n0 ≤ h0.size) (E1 : Exa Z h0 a1 "com/example/orderly_seats/orderlyseats/model/MarkedRow") (g1 : n0 ≤ a1) (F_words : Fld Z h0 a1 "com/example/orderly_seats/orderlyseats/model/MarkedRow" "words" "[J" .null) (F_tree : Fld Z h0 a1 "com/example/orderly_seats/orderlyseats/model/MarkedRow" "tree" "[I" .null) (F_length : Fld Z h0 a1 "com/example/orderly_seats/orderlyseats/model/MarkedRow" "length" "I" (.int (0 : Int32))) :
    Con l Z (⟨"com/example/orderly_seats/orderlyseats/model/MarkedRow", "<init>", "()V"⟩ : MethodName) prog_26_method_1_code 1 none ({ frames := 4, cells := 5, slots := 7, locals := 62 } : Room) #[(.ref a1)] h0 (fun v h L => v = none ∧ Fr n0 L ∧ Keep h0 h [a1] ∧ ∃ w t, own_Row Z h a1 w t 0 (0 : Int32) ∧ h0.size ≤ w ∧ h0.size ≤ t ∧ w ≠ t) := by
  refine Con.body (plainFor_of_name own_pn1) ?_
  intro pP eE sS mM bB mT cC s₁ hx hby hml hZ hown hnm hret hlk X0 e0
  have hown : sS.vm.findClass "com/example/orderly_seats/orderlyseats/model/MarkedRow" = some mM.cls := hown
  have hml : cC.maxLocals = 1 := hml
  have N0 := Fr.nil n0
  have ef : entryFrame mM #[(.ref a1)] 1 = mkF mM 0 #[.val (.ref a1)] [] := by first | (simp [entryFrame, mkF, argsToLocals, Value.category]; done) | rfl
  rw [ef]
  show Goes pP eE bB _ (s₁.setTop (mkF mM 0 #[.val (.ref a1)] []))
  refine Goes.step (fun _ kK => XS.aloadN X0.here hx rfl (hb hby own_d1_0) rfl rfl kK) ?_
  show Goes pP eE bB _ (s₁.setTop (mkF mM 1 #[.val (.ref a1)] [(.ref a1)]))
  obtain ⟨T_1, h_1, X_1, e_1, E_1, A_1, D_1, -, st_1⟩ := newO X0 hx hZ hown (hw _ (List.mem_of_getElem? (i := 6) rfl)) (hw _ (List.mem_of_getElem? (i := 7) rfl)) (hw _ (List.mem_of_getElem? (i := 8) rfl)) e0 (g := (mkF mM 1 #[.val (.ref a1)] [(.ref a1)])) rfl (hb hby own_d1_1) (by decide) (by decide)
  obtain ⟨b_1, g_1⟩ : ∃ z, z = h0.size := ⟨_, rfl⟩
  rw [← g_1] at A_1 D_1 st_1
  have u_2 : a1 < b_1 := Nat.lt_of_lt_of_le (E1).lt (Nat.le_of_eq g_1.symm)
  have u_3 : n0 ≤ b_1 := Nat.le_trans Z0 (Nat.le_of_eq g_1.symm)
  have u_4 : h0.size ≤ b_1 := Nat.le_trans ((Keep.refl h0 [a1])).1 (Nat.le_of_eq g_1.symm)
  have u_5 : Fld Z h_1 b_1 "java/util/BitSet" "wordsInUse" "I" (.int (0 : Int32)) := D_1 (Or.inl (hw _ (List.mem_of_getElem? (i := 16) rfl))) (ty := .int) (by decide)
  have u_6 : Fld Z h_1 b_1 "java/util/BitSet" "sizeIsSticky" "Z" (.int (0 : Int32)) := D_1 (Or.inl (hw _ (List.mem_of_getElem? (i := 18) rfl))) (ty := .boolean) (by decide)
  have u_7 : Fld Z h_1 b_1 "java/util/BitSet" "words" "[J" .null := D_1 (Or.inl (hw _ (List.mem_of_getElem? (i := 29) rfl))) (ty := (.array .long)) (by decide)
  refine Goes.step st_1 ?_
  show Goes pP eE bB _ (T_1.setTop (mkF mM 4 #[.val (.ref a1)] [(.ref b_1), (.ref a1)]))
  refine Goes.step (fun _ kK => XS.dup X_1.here hx rfl (hb hby own_d1_4) rfl rfl kK) ?_
  show Goes pP eE bB _ (T_1.setTop (mkF mM 5 #[.val (.ref a1)] [(.ref b_1), (.ref b_1), (.ref a1)]))
  have u_8 := Nat.le_trans Z0 E_1.1
  refine Goes.callI X_1 hx hZ rfl hown (hw _ (List.mem_of_getElem? (i := 9) rfl)) (hw _ (List.mem_of_getElem? (i := 10) rfl)) (hw _ (List.mem_of_getElem? (i := 11) rfl)) (hw _ (List.mem_of_getElem? (i := 8) rfl)) (by decide) e_1 (rmBI l Z a0 hw b_1 h_1 n0 u_8 A_1 u_3 u_5 u_6 u_7) (W := 2) (by decide) (by decide) (by decide) (by decide) (g := (mkF mM 5 #[.val (.ref a1)] [(.ref b_1), (.ref b_1), (.ref a1)])) rfl (by rw [hml]; rfl) (rest := [(.ref b_1), (.ref a1)]) own_pd5 rfl rfl (by show 2 * 0 + _ ≤ _; exact Nat.le_of_eq rfl) (hb hby own_d1_5) ?_
  intro v_9 T_9 L_9 X_9 hQ_9
  generalize e_9 : T_9.heap = h_9 at hQ_9
  obtain ⟨rfl, N_9q, K_9, F_9i, b_9, F_9w, s_9, A_9⟩ := hQ_9
  have N_9 := Fr.app N0 N_9q
  have u_10 := Nat.lt_of_lt_of_le (E1).lt E_1.1
  have u_11 : a1 < b_9 := Nat.lt_of_lt_of_le u_10 s_9
  have u_12 : b_1 < b_9 := Nat.lt_of_lt_of_le (A_1).lt s_9
  have u_13 : n0 ≤ b_9 := Nat.le_trans u_8 s_9
  have u_14 := (Keep.refl h0 [a1]).ext E_1
  have u_15 : h0.size ≤ b_9 := Nat.le_trans (u_14).1 s_9
  show Goes pP eE bB _ (T_9.setTop (mkF mM 8 #[.val (.ref a1)] [(.ref b_1), (.ref a1)]))
  refine Goes.step (fun _ kK => XS.iconst X_9.here hx rfl (hb hby own_d1_8) kK) ?_
  show Goes pP eE bB _ (T_9.setTop (mkF mM 9 #[.val (.ref a1)] [(.int (0 : Int32)), (.ref b_1), (.ref a1)]))
  have u_16 := Nat.le_trans u_8 K_9.1
  have u_17 := E1.ext E_1
  have u_18 := u_17.keep K_9
  have u_19 := F_words.ext E_1
  have u_20 := u_19.keep K_9 (ninS (Nat.ne_of_lt u_2) nin0)
  have u_21 := F_tree.ext E_1
  have u_22 := u_21.keep K_9 (ninS (Nat.ne_of_lt u_2) nin0)
  have u_23 := F_length.ext E_1
  have u_24 := u_23.keep K_9 (ninS (Nat.ne_of_lt u_2) nin0)
  have u_25 := A_1.keep K_9
  refine Goes.callI X_9 hx hZ rfl hown (hw _ (List.mem_of_getElem? (i := 30) rfl)) (hw _ (List.mem_of_getElem? (i := 31) rfl)) (hw _ (List.mem_of_getElem? (i := 32) rfl)) (hw _ (List.mem_of_getElem? (i := 2) rfl)) (by decide) e_9 (rmR2 l Z a0 hw a1 b_1 b_9 h_9 n0 u_16 u_18 g1 u_20 u_22 u_24 u_25 _ A_9 F_9w F_9i) (W := 0) (by decide) (by decide) (by decide) (by decide) (g := (mkF mM 9 #[.val (.ref a1)] [(.int (0 : Int32)), (.ref b_1), (.ref a1)])) rfl (by rw [hml]; rfl) (rest := []) own_pd6 rfl rfl (by show 2 * 0 + _ ≤ _; exact Nat.le_of_eq rfl) (hb hby own_d1_9) ?_
  intro v_26 T_26 L_26 X_26 hQ_26
  generalize e_26 : T_26.heap = h_26 at hQ_26
  obtain ⟨rfl, N_26q, K_26, w_26, t_26, R_26, sw_26, st_26, d_26⟩ := hQ_26
  have N_26 := Fr.app N_9 N_26q
  have u_27 := Nat.lt_of_lt_of_le u_10 K_9.1
  have u_28 : a1 < w_26 := Nat.lt_of_lt_of_le u_27 sw_26
  have u_29 := Nat.lt_of_lt_of_le (A_1).lt K_9.1
  have u_30 : b_1 < w_26 := Nat.lt_of_lt_of_le u_29 sw_26
  have u_31 : b_9 < w_26 := Nat.lt_of_lt_of_le (A_9).lt sw_26
  have u_32 : n0 ≤ w_26 := Nat.le_trans u_16 sw_26
  have u_33 := u_14.trans K_9 (allS (Or.inr u_4) all0)
  have u_34 : h0.size ≤ w_26 := Nat.le_trans (u_33).1 sw_26
  have u_35 : a1 < t_26 := Nat.lt_of_lt_of_le u_27 st_26
  have u_36 : b_1 < t_26 := Nat.lt_of_lt_of_le u_29 st_26
  have u_37 : b_9 < t_26 := Nat.lt_of_lt_of_le (A_9).lt st_26
  have u_38 : n0 ≤ t_26 := Nat.le_trans u_16 st_26
  have u_39 : h0.size ≤ t_26 := Nat.le_trans (u_33).1 st_26
  show Goes pP eE bB _ (T_26.setTop (mkF mM 12 #[.val (.ref a1)] []))
  refine Goes.ret0 X_26 hx hlk hret (hb hby own_d1_12) (by decide) (by decide) ?_
  have u_40 := u_33.trans K_26 (allS (Or.inl (List.mem_of_getElem? (i := 0) rfl)) all0)
  exact ⟨rfl, N_26, by rw [e_26]; exact u_40, w_26, t_26, by rw [e_26]; exact R_26, u_34, u_39, d_26⟩
/-- the bit p of W, as isMarked says it -/
def own_bt (W : Int64) (p : Int32) : Int32 := if (W &&& ((1 : Int64) <<< (p &&& 0x3f).toInt64)) = (0 : Int64) then 0 else 1
/-- W behind mark(p, m) -/
def own_mk (W : Int64) (p m : Int32) : Int64 := if own_bt W p = m then W else W ^^^ ((1 : Int64) <<< (p &&& 0x3f).toInt64)
set_option maxRecDepth 65536 in
set_option maxHeartbeats 40000000 in
theorem rmM (l : Launch) (Z : State) (a0 : Array Value) (hw : ∀ d ∈ tables_1, d.before a0 Z = true) (a1 w t : Addr) (p2 : Int32) (W : Int64) (len : Int32) (h0 : Heap) (n0 : Nat) (Z0 : n0 ≤ h0.size) (R0 : own_Row Z h0 a1 w t W len) (hq : p2 / (64 : Int32) = (0 : Int32)) :
    Con l Z (⟨"com/example/orderly_seats/orderlyseats/model/MarkedRow", "isMarked", "(I)Z"⟩ : MethodName) prog_26_method_4_code 2 (some .boolean) ({ frames := 0, cells := 0, slots := 0, locals := 0 } : Room) #[(.ref a1), (.int p2)] h0 (fun v h L => v = some (.int (own_bt W p2)) ∧ Fr n0 L ∧ h = h0) := by
  refine Con.body (plainFor_of_name own_pn1) ?_
  intro pP eE sS mM bB mT cC s₁ hx hby hml hZ hown hnm hret hlk X0 e0
  have hown : sS.vm.findClass "com/example/orderly_seats/orderlyseats/model/MarkedRow" = some mM.cls := hown
  have hml : cC.maxLocals = 2 := hml
  have N0 := Fr.nil n0
  have ef : entryFrame mM #[(.ref a1), (.int p2)] 2 = mkF mM 0 #[.val (.ref a1), .val (.int p2)] [] := by first | (simp [entryFrame, mkF, argsToLocals, Value.category]; done) | rfl
  rw [ef]
  obtain ⟨Fw, Ft, Fl, Aw, f, c0, At, hf1⟩ := R0
  show Goes pP eE bB _ (s₁.setTop (mkF mM 0 #[.val (.ref a1), .val (.int p2)] []))
  refine Goes.step (fun _ kK => XS.aloadN X0.here hx rfl (hb hby own_d17_0) rfl rfl kK) ?_
  show Goes pP eE bB _ (s₁.setTop (mkF mM 1 #[.val (.ref a1), .val (.int p2)] [(.ref a1)]))
  obtain ⟨T_1, X_1, e_1, st_1⟩ := getF X0 hx hZ hown (host := "") (Or.inl (hw _ (List.mem_of_getElem? (i := 58) rfl))) Via.refl e0 Fw (g := (mkF mM 1 #[.val (.ref a1), .val (.int p2)] [(.ref a1)])) rfl rfl (hb hby own_d17_1)
  refine Goes.step st_1 ?_
  show Goes pP eE bB _ (T_1.setTop (mkF mM 4 #[.val (.ref a1), .val (.int p2)] [(.ref w)]))
  refine Goes.step (fun _ kK => XS.iloadN X_1.here hx rfl (hb hby own_d17_4) rfl kK) ?_
  show Goes pP eE bB _ (T_1.setTop (mkF mM 5 #[.val (.ref a1), .val (.int p2)] [(.int p2), (.ref w)]))
  refine Goes.step (fun _ kK => XS.bipush X_1.here hx rfl (hb hby own_d17_5) kK) ?_
  show Goes pP eE bB _ (T_1.setTop (mkF mM 7 #[.val (.ref a1), .val (.int p2)] [(.int (64 : Int32)), (.int p2), (.ref w)]))
  refine Goes.step (fun _ kK => XS.idiv X_1.here hx rfl (hb hby own_d17_7) rfl (by decide) kK) ?_
  show Goes pP eE bB _ (T_1.setTop (mkF mM 8 #[.val (.ref a1), .val (.int p2)] [(.int (p2 / (64 : Int32))), (.ref w)]))
  rw [hq]
  show Goes pP eE bB _ (T_1.setTop (mkF mM 8 #[.val (.ref a1), .val (.int p2)] [(.int (0 : Int32)), (.ref w)]))
  refine Goes.laload X_1 hx hZ e_1 Aw (i := 0) (by decide) (by decide) rfl (g := (mkF mM 8 #[.val (.ref a1), .val (.int p2)] [(.int (0 : Int32)), (.ref w)])) rfl rfl (hb hby own_d17_8) ?_
  show Goes pP eE bB _ (T_1.setTop (mkF mM 9 #[.val (.ref a1), .val (.int p2)] [(.long W)]))
  refine Goes.step (fun _ kK => XS.lconst X_1.here hx rfl (hb hby own_d17_9) kK) ?_
  show Goes pP eE bB _ (T_1.setTop (mkF mM 10 #[.val (.ref a1), .val (.int p2)] [(.long (1 : Int64)), (.long W)]))
  refine Goes.step (fun _ kK => XS.iloadN X_1.here hx rfl (hb hby own_d17_10) rfl kK) ?_
  show Goes pP eE bB _ (T_1.setTop (mkF mM 11 #[.val (.ref a1), .val (.int p2)] [(.int p2), (.long (1 : Int64)), (.long W)]))
  refine Goes.step (fun _ kK => XS.lshl X_1.here hx rfl (hb hby own_d17_11) rfl kK) ?_
  show Goes pP eE bB _ (T_1.setTop (mkF mM 12 #[.val (.ref a1), .val (.int p2)] [(.long ((1 : Int64) <<< (p2 &&& 0x3f).toInt64)), (.long W)]))
  refine Goes.step (fun _ kK => XS.land X_1.here hx rfl (hb hby own_d17_12) rfl kK) ?_
  show Goes pP eE bB _ (T_1.setTop (mkF mM 13 #[.val (.ref a1), .val (.int p2)] [(.long (W &&& ((1 : Int64) <<< (p2 &&& 0x3f).toInt64)))]))
  refine Goes.step (fun _ kK => XS.lconst X_1.here hx rfl (hb hby own_d17_13) kK) ?_
  show Goes pP eE bB _ (T_1.setTop (mkF mM 14 #[.val (.ref a1), .val (.int p2)] [(.long (0 : Int64)), (.long (W &&& ((1 : Int64) <<< (p2 &&& 0x3f).toInt64)))]))
  refine Goes.step (fun _ kK => XS.lcmp X_1.here hx rfl (hb hby own_d17_14) rfl kK) ?_
  show Goes pP eE bB _ (T_1.setTop (mkF mM 15 #[.val (.ref a1), .val (.int p2)] [(.int (lcmpW (W &&& ((1 : Int64) <<< (p2 &&& 0x3f).toInt64)) (0 : Int64)))]))
  by_cases hc_2 : (W &&& ((1 : Int64) <<< (p2 &&& 0x3f).toInt64)) = (0 : Int64)
  · refine Goes.step (fun _ kK => XS.ifYes X_1.here hx rfl (pc0 := 15) (pc' := 22) rfl (hb hby own_d17_15) rfl ((if0 _ _).trans (teq (jeq.mpr hc_2)).1) (by decide) (by decide) kK) ?_
    show Goes pP eE bB _ (T_1.setTop (mkF mM 22 #[.val (.ref a1), .val (.int p2)] []))
    refine Goes.step (fun _ kK => XS.iconst X_1.here hx rfl (hb hby own_d17_22) kK) ?_
    show Goes pP eE bB _ (T_1.setTop (mkF mM 23 #[.val (.ref a1), .val (.int p2)] [(.int (0 : Int32))]))
    refine Goes.retN X_1 hx hlk (t := .boolean) hret (by simp) (hb hby own_d17_23) (by decide) (by decide) ?_
    exact ⟨by rw [own_bt, if_pos hc_2] <;> rfl, N0, e_1⟩
  · refine Goes.step (fun _ kK => XS.ifNo X_1.here hx rfl (hb hby own_d17_15) rfl ((if0 _ _).trans (feq (fun q => hc_2 (jeq.mp q))).1) kK) ?_
    show Goes pP eE bB _ (T_1.setTop (mkF mM 18 #[.val (.ref a1), .val (.int p2)] []))
    refine Goes.step (fun _ kK => XS.iconst X_1.here hx rfl (hb hby own_d17_18) kK) ?_
    show Goes pP eE bB _ (T_1.setTop (mkF mM 19 #[.val (.ref a1), .val (.int p2)] [(.int (1 : Int32))]))
    refine Goes.step (fun _ kK => XS.goto X_1.here hx rfl (pc0 := 19) (pc' := 23) rfl (hb hby own_d17_19) (by decide) (by decide) kK) ?_
    show Goes pP eE bB _ (T_1.setTop (mkF mM 23 #[.val (.ref a1), .val (.int p2)] [(.int (1 : Int32))]))
    refine Goes.retN X_1 hx hlk (t := .boolean) hret (by simp) (hb hby own_d17_23) (by decide) (by decide) ?_
    exact ⟨by rw [own_bt, if_neg hc_2] <;> rfl, N0, e_1⟩
set_option maxRecDepth 65536 in
set_option maxHeartbeats 40000000 in
theorem rmK (l : Launch) (Z : State) (a0 : Array Value) (hw : ∀ d ∈ tables_1, d.before a0 Z = true) (a1 w t : Addr) (p2 p3 : Int32) (W : Int64) (len : Int32) (h0 : Heap) (n0 : Nat) (Z0 : n0 ≤ h0.size) (R0 : own_Row Z h0 a1 w t W len) (E1 : Exa Z h0 a1 "com/example/orderly_seats/orderlyseats/model/MarkedRow") (g1 : n0 ≤ a1) (gw : n0 ≤ w) (gt : n0 ≤ t) (d1w : a1 ≠ w) (d1t : a1 ≠ t) (dwt : w ≠ t) (hq : p2 / (64 : Int32) = (0 : Int32)) (hlen : own_v_wo len = (1 : Int32)) :
    Con l Z (⟨"com/example/orderly_seats/orderlyseats/model/MarkedRow", "mark", "(IZ)V"⟩ : MethodName) prog_26_method_7_code 6 none ({ frames := 1, cells := 0, slots := 0, locals := 13 } : Room) #[(.ref a1), (.int p2), (.int p3)] h0 (fun v h L => v = none ∧ Fr n0 L ∧ Keep h0 h [w, t] ∧ own_Row Z h a1 w t (own_mk W p2 p3) len) := by
  refine Con.body (plainFor_of_name own_pn1) ?_
  intro pP eE sS mM bB mT cC s₁ hx hby hml hZ hown hnm hret hlk X0 e0
  have hown : sS.vm.findClass "com/example/orderly_seats/orderlyseats/model/MarkedRow" = some mM.cls := hown
  have hml : cC.maxLocals = 6 := hml
  have N0 := Fr.nil n0
  have ef : entryFrame mM #[(.ref a1), (.int p2), (.int p3)] 6 = mkF mM 0 #[.val (.ref a1), .val (.int p2), .val (.int p3), .unset, .unset, .unset] [] := by first | (simp [entryFrame, mkF, argsToLocals, Value.category]; done) | rfl
  rw [ef]
  have R0' := R0
  obtain ⟨Fw, Ft, Fl, Aw, f, c0, At, hf1⟩ := R0
  show Goes pP eE bB _ (s₁.setTop (mkF mM 0 #[.val (.ref a1), .val (.int p2), .val (.int p3), .unset, .unset, .unset] []))
  refine Goes.step (fun _ kK => XS.aloadN X0.here hx rfl (hb hby own_d16_0) rfl rfl kK) ?_
  show Goes pP eE bB _ (s₁.setTop (mkF mM 1 #[.val (.ref a1), .val (.int p2), .val (.int p3), .unset, .unset, .unset] [(.ref a1)]))
  refine Goes.step (fun _ kK => XS.iloadN X0.here hx rfl (hb hby own_d16_1) rfl kK) ?_
  show Goes pP eE bB _ (s₁.setTop (mkF mM 2 #[.val (.ref a1), .val (.int p2), .val (.int p3), .unset, .unset, .unset] [(.int p2), (.ref a1)]))
  refine Goes.callV X0 hx hZ hown (hw _ (List.mem_of_getElem? (i := 88) rfl)) (hw _ (List.mem_of_getElem? (i := 89) rfl)) (notFace_of_selects (args := #[]) (mvT hZ (hw _ (List.mem_of_getElem? (i := 91) rfl)))) (hw _ (List.mem_of_getElem? (i := 91) rfl)) (hw _ (List.mem_of_getElem? (i := 90) rfl)) (hw _ (List.mem_of_getElem? (i := 92) rfl)) (hw _ (List.mem_of_getElem? (i := 2) rfl)) (by decide) e0 E1 (rmM l Z a0 hw a1 w t p2 W len h0 n0 Z0 R0' hq) (W := 0) (by decide) (by decide) (by decide) (by decide) (g := (mkF mM 2 #[.val (.ref a1), .val (.int p2), .val (.int p3), .unset, .unset, .unset] [(.int p2), (.ref a1)])) rfl (by rw [hml]; rfl) (rest := []) own_pd7 rfl rfl (by show 2 * 0 + _ ≤ _; exact Nat.le_of_eq rfl) (hb hby own_d16_2) ?_
  intro v_1 T_1 L_1 X_1 hQ_1
  obtain ⟨rfl, N_1q, e_1⟩ := hQ_1
  have N_1 := Fr.app N0 N_1q
  show Goes pP eE bB _ (T_1.setTop (mkF mM 5 #[.val (.ref a1), .val (.int p2), .val (.int p3), .unset, .unset, .unset] [(.int (own_bt W p2))]))
  refine Goes.step (fun _ kK => XS.iloadN X_1.here hx rfl (hb hby own_d16_5) rfl kK) ?_
  show Goes pP eE bB _ (T_1.setTop (mkF mM 6 #[.val (.ref a1), .val (.int p2), .val (.int p3), .unset, .unset, .unset] [(.int p3), (.int (own_bt W p2))]))
  by_cases hc_2 : (own_bt W p2) = p3
  · refine Goes.step (fun _ kK => XS.icmpYes X_1.here hx rfl (pc0 := 6) (pc' := 82) rfl (hb hby own_d16_6) rfl (teq hc_2).1 (by decide) (by decide) kK) ?_
    show Goes pP eE bB _ (T_1.setTop (mkF mM 82 #[.val (.ref a1), .val (.int p2), .val (.int p3), .unset, .unset, .unset] []))
    refine Goes.ret0 X_1 hx hlk hret (hb hby own_d16_82) (by decide) (by decide) ?_
    have hW : own_mk W p2 p3 = W := if_pos hc_2
    exact ⟨rfl, N_1, by rw [e_1]; exact (Keep.refl h0 [w, t]), by rw [e_1]; exact Fw, by rw [e_1]; exact Ft, by rw [e_1]; exact Fl, by rw [e_1, hW]; exact Aw, ⟨_, _, by rw [e_1]; exact At, hf1⟩⟩
  · refine Goes.step (fun _ kK => XS.icmpNo X_1.here hx rfl (hb hby own_d16_6) rfl (feq hc_2).1 kK) ?_
    show Goes pP eE bB _ (T_1.setTop (mkF mM 9 #[.val (.ref a1), .val (.int p2), .val (.int p3), .unset, .unset, .unset] []))
    refine Goes.step (fun _ kK => XS.aloadN X_1.here hx rfl (hb hby own_d16_9) rfl rfl kK) ?_
    show Goes pP eE bB _ (T_1.setTop (mkF mM 10 #[.val (.ref a1), .val (.int p2), .val (.int p3), .unset, .unset, .unset] [(.ref a1)]))
    obtain ⟨T_3, X_3, e_3, st_3⟩ := getF X_1 hx hZ hown (host := "") (Or.inl (hw _ (List.mem_of_getElem? (i := 58) rfl))) Via.refl e_1 Fw (g := (mkF mM 10 #[.val (.ref a1), .val (.int p2), .val (.int p3), .unset, .unset, .unset] [(.ref a1)])) rfl rfl (hb hby own_d16_10)
    refine Goes.step st_3 ?_
    show Goes pP eE bB _ (T_3.setTop (mkF mM 13 #[.val (.ref a1), .val (.int p2), .val (.int p3), .unset, .unset, .unset] [(.ref w)]))
    refine Goes.step (fun _ kK => XS.iloadN X_3.here hx rfl (hb hby own_d16_13) rfl kK) ?_
    show Goes pP eE bB _ (T_3.setTop (mkF mM 14 #[.val (.ref a1), .val (.int p2), .val (.int p3), .unset, .unset, .unset] [(.int p2), (.ref w)]))
    refine Goes.step (fun _ kK => XS.bipush X_3.here hx rfl (hb hby own_d16_14) kK) ?_
    show Goes pP eE bB _ (T_3.setTop (mkF mM 16 #[.val (.ref a1), .val (.int p2), .val (.int p3), .unset, .unset, .unset] [(.int (64 : Int32)), (.int p2), (.ref w)]))
    refine Goes.step (fun _ kK => XS.idiv X_3.here hx rfl (hb hby own_d16_16) rfl (by decide) kK) ?_
    show Goes pP eE bB _ (T_3.setTop (mkF mM 17 #[.val (.ref a1), .val (.int p2), .val (.int p3), .unset, .unset, .unset] [(.int (p2 / (64 : Int32))), (.ref w)]))
    rw [hq]
    show Goes pP eE bB _ (T_3.setTop (mkF mM 17 #[.val (.ref a1), .val (.int p2), .val (.int p3), .unset, .unset, .unset] [(.int (0 : Int32)), (.ref w)]))
    refine Goes.step (fun _ kK => Jvm.Free.XT.dup2 X_3.here hx rfl (hb hby own_d16_17) rfl rfl rfl kK) ?_
    show Goes pP eE bB _ (T_3.setTop (mkF mM 18 #[.val (.ref a1), .val (.int p2), .val (.int p3), .unset, .unset, .unset] [(.int (0 : Int32)), (.ref w), (.int (0 : Int32)), (.ref w)]))
    refine Goes.laload X_3 hx hZ e_3 Aw (i := 0) (by decide) (by decide) rfl (g := (mkF mM 18 #[.val (.ref a1), .val (.int p2), .val (.int p3), .unset, .unset, .unset] [(.int (0 : Int32)), (.ref w), (.int (0 : Int32)), (.ref w)])) rfl rfl (hb hby own_d16_18) ?_
    show Goes pP eE bB _ (T_3.setTop (mkF mM 19 #[.val (.ref a1), .val (.int p2), .val (.int p3), .unset, .unset, .unset] [(.long W), (.int (0 : Int32)), (.ref w)]))
    refine Goes.step (fun _ kK => XS.lconst X_3.here hx rfl (hb hby own_d16_19) kK) ?_
    show Goes pP eE bB _ (T_3.setTop (mkF mM 20 #[.val (.ref a1), .val (.int p2), .val (.int p3), .unset, .unset, .unset] [(.long (1 : Int64)), (.long W), (.int (0 : Int32)), (.ref w)]))
    refine Goes.step (fun _ kK => XS.iloadN X_3.here hx rfl (hb hby own_d16_20) rfl kK) ?_
    show Goes pP eE bB _ (T_3.setTop (mkF mM 21 #[.val (.ref a1), .val (.int p2), .val (.int p3), .unset, .unset, .unset] [(.int p2), (.long (1 : Int64)), (.long W), (.int (0 : Int32)), (.ref w)]))
    refine Goes.step (fun _ kK => XS.lshl X_3.here hx rfl (hb hby own_d16_21) rfl kK) ?_
    show Goes pP eE bB _ (T_3.setTop (mkF mM 22 #[.val (.ref a1), .val (.int p2), .val (.int p3), .unset, .unset, .unset] [(.long ((1 : Int64) <<< (p2 &&& 0x3f).toInt64)), (.long W), (.int (0 : Int32)), (.ref w)]))
    refine Goes.step (fun _ kK => XS.lxor X_3.here hx rfl (hb hby own_d16_22) rfl kK) ?_
    show Goes pP eE bB _ (T_3.setTop (mkF mM 23 #[.val (.ref a1), .val (.int p2), .val (.int p3), .unset, .unset, .unset] [(.long (W ^^^ ((1 : Int64) <<< (p2 &&& 0x3f).toInt64))), (.int (0 : Int32)), (.ref w)]))
    refine Goes.lastore X_3 hx hZ e_3 Aw (i := 0) (by decide) (by decide) (g := (mkF mM 23 #[.val (.ref a1), .val (.int p2), .val (.int p3), .unset, .unset, .unset] [(.long (W ^^^ ((1 : Int64) <<< (p2 &&& 0x3f).toInt64))), (.int (0 : Int32)), (.ref w)])) rfl rfl (hb hby own_d16_23) ?_
    intro T_4 h_4 X_4 e_4 W_4 A_4
    have N_4 := Fr.snoc X_4 N_1 gw
    show Goes pP eE bB _ (T_4.setTop (mkF mM 24 #[.val (.ref a1), .val (.int p2), .val (.int p3), .unset, .unset, .unset] []))
    refine Goes.step (fun _ kK => XS.iloadN X_4.here hx rfl (hb hby own_d16_24) rfl kK) ?_
    show Goes pP eE bB _ (T_4.setTop (mkF mM 25 #[.val (.ref a1), .val (.int p2), .val (.int p3), .unset, .unset, .unset] [(.int p3)]))
    by_cases hc_5 : p3 = (0 : Int32)
    · refine Goes.step (fun _ kK => XS.ifYes X_4.here hx rfl (pc0 := 25) (pc' := 32) rfl (hb hby own_d16_25) rfl ((if0 _ _).trans (teq hc_5).1) (by decide) (by decide) kK) ?_
      show Goes pP eE bB _ (T_4.setTop (mkF mM 32 #[.val (.ref a1), .val (.int p2), .val (.int p3), .unset, .unset, .unset] []))
      refine Goes.step (fun _ kK => XS.iconst X_4.here hx rfl (hb hby own_d16_32) kK) ?_
      show Goes pP eE bB _ (T_4.setTop (mkF mM 33 #[.val (.ref a1), .val (.int p2), .val (.int p3), .unset, .unset, .unset] [(.int (-1 : Int32))]))
      refine Goes.step (fun _ kK => XS.istoreN X_4.here hx rfl (hb hby own_d16_33) rfl (l' := #[.val (.ref a1), .val (.int p2), .val (.int p3), .val (.int (-1 : Int32)), .unset, .unset]) rfl kK) ?_
      show Goes pP eE bB _ (T_4.setTop (mkF mM 34 #[.val (.ref a1), .val (.int p2), .val (.int p3), .val (.int (-1 : Int32)), .unset, .unset] []))
      refine Goes.step (fun _ kK => XS.aloadN X_4.here hx rfl (hb hby own_d16_34) rfl rfl kK) ?_
      show Goes pP eE bB _ (T_4.setTop (mkF mM 35 #[.val (.ref a1), .val (.int p2), .val (.int p3), .val (.int (-1 : Int32)), .unset, .unset] [(.ref a1)]))
      have u_6 := Fl.other W_4 (Or.inl d1w)
      obtain ⟨T_7, X_7, e_7, st_7⟩ := getF X_4 hx hZ hown (host := "") (Or.inl (hw _ (List.mem_of_getElem? (i := 63) rfl))) Via.refl e_4 u_6 (g := (mkF mM 35 #[.val (.ref a1), .val (.int p2), .val (.int p3), .val (.int (-1 : Int32)), .unset, .unset] [(.ref a1)])) rfl rfl (hb hby own_d16_35)
      refine Goes.step st_7 ?_
      show Goes pP eE bB _ (T_7.setTop (mkF mM 38 #[.val (.ref a1), .val (.int p2), .val (.int p3), .val (.int (-1 : Int32)), .unset, .unset] [(.int len)]))
      have u_8 := Nat.le_trans Z0 (Keep.of_wr W_4).1
      refine Goes.callS X_7 hx hZ hown (hw _ (List.mem_of_getElem? (i := 34) rfl)) (hw _ (List.mem_of_getElem? (i := 35) rfl)) (hw _ (List.mem_of_getElem? (i := 2) rfl)) (hw _ (List.mem_of_getElem? (i := 36) rfl)) (by decide) e_7 (rm_wo l Z a0 hw len h_4 n0 u_8) (W := 0) (by decide) (by decide) (by decide) (by decide) (g := (mkF mM 38 #[.val (.ref a1), .val (.int p2), .val (.int p3), .val (.int (-1 : Int32)), .unset, .unset] [(.int len)])) rfl (by rw [hml]; rfl) (rest := []) own_pd0 rfl rfl (by show 2 * 0 + _ ≤ _; exact Nat.le_of_eq rfl) (hb hby own_d16_38) ?_
      intro v_9 T_9 L_9 X_9 hQ_9
      obtain ⟨rfl, N_9q, e_9⟩ := hQ_9
      have N_9 := Fr.app N_4 N_9q
      show Goes pP eE bB _ (T_9.setTop (mkF mM 41 #[.val (.ref a1), .val (.int p2), .val (.int p3), .val (.int (-1 : Int32)), .unset, .unset] [(.int (own_v_wo len))]))
      rw [hlen]
      show Goes pP eE bB _ (T_9.setTop (mkF mM 41 #[.val (.ref a1), .val (.int p2), .val (.int p3), .val (.int (-1 : Int32)), .unset, .unset] [(.int (1 : Int32))]))
      refine Goes.step (fun _ kK => XS.istore X_9.here hx rfl (hb hby own_d16_41) rfl (l' := #[.val (.ref a1), .val (.int p2), .val (.int p3), .val (.int (-1 : Int32)), .val (.int (1 : Int32)), .unset]) rfl kK) ?_
      show Goes pP eE bB _ (T_9.setTop (mkF mM 43 #[.val (.ref a1), .val (.int p2), .val (.int p3), .val (.int (-1 : Int32)), .val (.int (1 : Int32)), .unset] []))
      refine Goes.step (fun _ kK => XS.iloadN X_9.here hx rfl (hb hby own_d16_43) rfl kK) ?_
      show Goes pP eE bB _ (T_9.setTop (mkF mM 44 #[.val (.ref a1), .val (.int p2), .val (.int p3), .val (.int (-1 : Int32)), .val (.int (1 : Int32)), .unset] [(.int p2)]))
      refine Goes.step (fun _ kK => XS.bipush X_9.here hx rfl (hb hby own_d16_44) kK) ?_
      show Goes pP eE bB _ (T_9.setTop (mkF mM 46 #[.val (.ref a1), .val (.int p2), .val (.int p3), .val (.int (-1 : Int32)), .val (.int (1 : Int32)), .unset] [(.int (64 : Int32)), (.int p2)]))
      refine Goes.step (fun _ kK => XS.idiv X_9.here hx rfl (hb hby own_d16_46) rfl (by decide) kK) ?_
      show Goes pP eE bB _ (T_9.setTop (mkF mM 47 #[.val (.ref a1), .val (.int p2), .val (.int p3), .val (.int (-1 : Int32)), .val (.int (1 : Int32)), .unset] [(.int (p2 / (64 : Int32)))]))
      rw [hq]
      show Goes pP eE bB _ (T_9.setTop (mkF mM 47 #[.val (.ref a1), .val (.int p2), .val (.int p3), .val (.int (-1 : Int32)), .val (.int (1 : Int32)), .unset] [(.int (0 : Int32))]))
      refine Goes.step (fun _ kK => XS.iconst X_9.here hx rfl (hb hby own_d16_47) kK) ?_
      show Goes pP eE bB _ (T_9.setTop (mkF mM 48 #[.val (.ref a1), .val (.int p2), .val (.int p3), .val (.int (-1 : Int32)), .val (.int (1 : Int32)), .unset] [(.int (1 : Int32)), (.int (0 : Int32))]))
      refine Goes.step (fun _ kK => XS.iadd X_9.here hx rfl (hb hby own_d16_48) rfl kK) ?_
      show Goes pP eE bB _ (T_9.setTop (mkF mM 49 #[.val (.ref a1), .val (.int p2), .val (.int p3), .val (.int (-1 : Int32)), .val (.int (1 : Int32)), .unset] [(.int ((0 : Int32) + (1 : Int32)))]))
      refine Goes.step (fun _ kK => XS.istore X_9.here hx rfl (hb hby own_d16_49) rfl (l' := #[.val (.ref a1), .val (.int p2), .val (.int p3), .val (.int (-1 : Int32)), .val (.int (1 : Int32)), .val (.int ((0 : Int32) + (1 : Int32)))]) rfl kK) ?_
      show Goes pP eE bB _ (T_9.setTop (mkF mM 51 #[.val (.ref a1), .val (.int p2), .val (.int p3), .val (.int (-1 : Int32)), .val (.int (1 : Int32)), .val (.int ((0 : Int32) + (1 : Int32)))] []))
      refine Goes.step (fun _ kK => XS.iload X_9.here hx rfl (hb hby own_d16_51) rfl kK) ?_
      show Goes pP eE bB _ (T_9.setTop (mkF mM 53 #[.val (.ref a1), .val (.int p2), .val (.int p3), .val (.int (-1 : Int32)), .val (.int (1 : Int32)), .val (.int ((0 : Int32) + (1 : Int32)))] [(.int ((0 : Int32) + (1 : Int32)))]))
      refine Goes.step (fun _ kK => XS.iload X_9.here hx rfl (hb hby own_d16_53) rfl kK) ?_
      show Goes pP eE bB _ (T_9.setTop (mkF mM 55 #[.val (.ref a1), .val (.int p2), .val (.int p3), .val (.int (-1 : Int32)), .val (.int (1 : Int32)), .val (.int ((0 : Int32) + (1 : Int32)))] [(.int (1 : Int32)), (.int ((0 : Int32) + (1 : Int32)))]))
      refine Goes.step (fun _ kK => XS.icmpNo X_9.here hx rfl (hb hby own_d16_55) rfl (flt (by decide)).2.2.1 kK) ?_
      show Goes pP eE bB _ (T_9.setTop (mkF mM 58 #[.val (.ref a1), .val (.int p2), .val (.int p3), .val (.int (-1 : Int32)), .val (.int (1 : Int32)), .val (.int ((0 : Int32) + (1 : Int32)))] []))
      refine Goes.step (fun _ kK => XS.aloadN X_9.here hx rfl (hb hby own_d16_58) rfl rfl kK) ?_
      show Goes pP eE bB _ (T_9.setTop (mkF mM 59 #[.val (.ref a1), .val (.int p2), .val (.int p3), .val (.int (-1 : Int32)), .val (.int (1 : Int32)), .val (.int ((0 : Int32) + (1 : Int32)))] [(.ref a1)]))
      have u_10 := Ft.other W_4 (Or.inl d1w)
      obtain ⟨T_11, X_11, e_11, st_11⟩ := getF X_9 hx hZ hown (host := "") (Or.inl (hw _ (List.mem_of_getElem? (i := 61) rfl))) Via.refl e_9 u_10 (g := (mkF mM 59 #[.val (.ref a1), .val (.int p2), .val (.int p3), .val (.int (-1 : Int32)), .val (.int (1 : Int32)), .val (.int ((0 : Int32) + (1 : Int32)))] [(.ref a1)])) rfl rfl (hb hby own_d16_59)
      refine Goes.step st_11 ?_
      show Goes pP eE bB _ (T_11.setTop (mkF mM 62 #[.val (.ref a1), .val (.int p2), .val (.int p3), .val (.int (-1 : Int32)), .val (.int (1 : Int32)), .val (.int ((0 : Int32) + (1 : Int32)))] [(.ref t)]))
      refine Goes.step (fun _ kK => XS.iload X_11.here hx rfl (hb hby own_d16_62) rfl kK) ?_
      show Goes pP eE bB _ (T_11.setTop (mkF mM 64 #[.val (.ref a1), .val (.int p2), .val (.int p3), .val (.int (-1 : Int32)), .val (.int (1 : Int32)), .val (.int ((0 : Int32) + (1 : Int32)))] [(.int ((0 : Int32) + (1 : Int32))), (.ref t)]))
      refine Goes.step (fun _ kK => Jvm.Free.XT.dup2 X_11.here hx rfl (hb hby own_d16_64) rfl rfl rfl kK) ?_
      show Goes pP eE bB _ (T_11.setTop (mkF mM 65 #[.val (.ref a1), .val (.int p2), .val (.int p3), .val (.int (-1 : Int32)), .val (.int (1 : Int32)), .val (.int ((0 : Int32) + (1 : Int32)))] [(.int ((0 : Int32) + (1 : Int32))), (.ref t), (.int ((0 : Int32) + (1 : Int32))), (.ref t)]))
      have u_12 := At.other W_4 (Ne.symm dwt)
      refine Goes.iaload X_11 hx hZ e_11 u_12 (i := 1) (by decide) (by decide) hf1 (g := (mkF mM 65 #[.val (.ref a1), .val (.int p2), .val (.int p3), .val (.int (-1 : Int32)), .val (.int (1 : Int32)), .val (.int ((0 : Int32) + (1 : Int32)))] [(.int ((0 : Int32) + (1 : Int32))), (.ref t), (.int ((0 : Int32) + (1 : Int32))), (.ref t)])) rfl rfl (hb hby own_d16_65) ?_
      show Goes pP eE bB _ (T_11.setTop (mkF mM 66 #[.val (.ref a1), .val (.int p2), .val (.int p3), .val (.int (-1 : Int32)), .val (.int (1 : Int32)), .val (.int ((0 : Int32) + (1 : Int32)))] [(.int c0), (.int ((0 : Int32) + (1 : Int32))), (.ref t)]))
      refine Goes.step (fun _ kK => XS.iloadN X_11.here hx rfl (hb hby own_d16_66) rfl kK) ?_
      show Goes pP eE bB _ (T_11.setTop (mkF mM 67 #[.val (.ref a1), .val (.int p2), .val (.int p3), .val (.int (-1 : Int32)), .val (.int (1 : Int32)), .val (.int ((0 : Int32) + (1 : Int32)))] [(.int (-1 : Int32)), (.int c0), (.int ((0 : Int32) + (1 : Int32))), (.ref t)]))
      refine Goes.step (fun _ kK => XS.iadd X_11.here hx rfl (hb hby own_d16_67) rfl kK) ?_
      show Goes pP eE bB _ (T_11.setTop (mkF mM 68 #[.val (.ref a1), .val (.int p2), .val (.int p3), .val (.int (-1 : Int32)), .val (.int (1 : Int32)), .val (.int ((0 : Int32) + (1 : Int32)))] [(.int (c0 + (-1 : Int32))), (.int ((0 : Int32) + (1 : Int32))), (.ref t)]))
      refine Goes.iastore X_11 hx hZ e_11 u_12 (i := 1) (by decide) (by decide) (g := (mkF mM 68 #[.val (.ref a1), .val (.int p2), .val (.int p3), .val (.int (-1 : Int32)), .val (.int (1 : Int32)), .val (.int ((0 : Int32) + (1 : Int32)))] [(.int (c0 + (-1 : Int32))), (.int ((0 : Int32) + (1 : Int32))), (.ref t)])) rfl rfl (hb hby own_d16_68) ?_
      intro T_13 h_13 X_13 e_13 W_13 A_13
      have N_13 := Fr.snoc X_13 N_9 gt
      show Goes pP eE bB _ (T_13.setTop (mkF mM 69 #[.val (.ref a1), .val (.int p2), .val (.int p3), .val (.int (-1 : Int32)), .val (.int (1 : Int32)), .val (.int ((0 : Int32) + (1 : Int32)))] []))
      refine Goes.step (fun _ kK => XS.iload X_13.here hx rfl (hb hby own_d16_69) rfl kK) ?_
      show Goes pP eE bB _ (T_13.setTop (mkF mM 71 #[.val (.ref a1), .val (.int p2), .val (.int p3), .val (.int (-1 : Int32)), .val (.int (1 : Int32)), .val (.int ((0 : Int32) + (1 : Int32)))] [(.int ((0 : Int32) + (1 : Int32)))]))
      refine Goes.step (fun _ kK => XS.iload X_13.here hx rfl (hb hby own_d16_71) rfl kK) ?_
      show Goes pP eE bB _ (T_13.setTop (mkF mM 73 #[.val (.ref a1), .val (.int p2), .val (.int p3), .val (.int (-1 : Int32)), .val (.int (1 : Int32)), .val (.int ((0 : Int32) + (1 : Int32)))] [(.int ((0 : Int32) + (1 : Int32))), (.int ((0 : Int32) + (1 : Int32)))]))
      have u_14 := Nat.le_trans u_8 (Keep.of_wr W_13).1
      refine Goes.callS X_13 hx hZ hown (hw _ (List.mem_of_getElem? (i := 78) rfl)) (hw _ (List.mem_of_getElem? (i := 79) rfl)) (hw _ (List.mem_of_getElem? (i := 80) rfl)) (hw _ (List.mem_of_getElem? (i := 81) rfl)) (by decide) e_13 (rm_lb l Z a0 hw ((0 : Int32) + (1 : Int32)) h_13 n0 u_14) (W := 1) (by decide) (by decide) (by decide) (by decide) (g := (mkF mM 73 #[.val (.ref a1), .val (.int p2), .val (.int p3), .val (.int (-1 : Int32)), .val (.int (1 : Int32)), .val (.int ((0 : Int32) + (1 : Int32)))] [(.int ((0 : Int32) + (1 : Int32))), (.int ((0 : Int32) + (1 : Int32)))])) rfl (by rw [hml]; rfl) (rest := [(.int ((0 : Int32) + (1 : Int32)))]) own_pd0 rfl rfl (by show 2 * 0 + _ ≤ _; exact Nat.le_of_eq rfl) (hb hby own_d16_73) ?_
      intro v_15 T_15 L_15 X_15 hQ_15
      obtain ⟨rfl, N_15q, e_15⟩ := hQ_15
      have N_15 := Fr.app N_13 N_15q
      show Goes pP eE bB _ (T_15.setTop (mkF mM 76 #[.val (.ref a1), .val (.int p2), .val (.int p3), .val (.int (-1 : Int32)), .val (.int (1 : Int32)), .val (.int ((0 : Int32) + (1 : Int32)))] [(.int (own_v_lb ((0 : Int32) + (1 : Int32)))), (.int ((0 : Int32) + (1 : Int32)))]))
      refine Goes.step (fun _ kK => XS.iadd X_15.here hx rfl (hb hby own_d16_76) rfl kK) ?_
      show Goes pP eE bB _ (T_15.setTop (mkF mM 77 #[.val (.ref a1), .val (.int p2), .val (.int p3), .val (.int (-1 : Int32)), .val (.int (1 : Int32)), .val (.int ((0 : Int32) + (1 : Int32)))] [(.int (((0 : Int32) + (1 : Int32)) + (own_v_lb ((0 : Int32) + (1 : Int32)))))]))
      refine Goes.step (fun _ kK => XS.istore X_15.here hx rfl (hb hby own_d16_77) rfl (l' := #[.val (.ref a1), .val (.int p2), .val (.int p3), .val (.int (-1 : Int32)), .val (.int (1 : Int32)), .val (.int (((0 : Int32) + (1 : Int32)) + (own_v_lb ((0 : Int32) + (1 : Int32)))))]) rfl kK) ?_
      show Goes pP eE bB _ (T_15.setTop (mkF mM 79 #[.val (.ref a1), .val (.int p2), .val (.int p3), .val (.int (-1 : Int32)), .val (.int (1 : Int32)), .val (.int (((0 : Int32) + (1 : Int32)) + (own_v_lb ((0 : Int32) + (1 : Int32)))))] []))
      refine Goes.step (fun _ kK => XS.goto X_15.here hx rfl (pc0 := 79) (pc' := 51) rfl (hb hby own_d16_79) (by decide) (by decide) kK) ?_
      show Goes pP eE bB _ (T_15.setTop (mkF mM 51 #[.val (.ref a1), .val (.int p2), .val (.int p3), .val (.int (-1 : Int32)), .val (.int (1 : Int32)), .val (.int (((0 : Int32) + (1 : Int32)) + (own_v_lb ((0 : Int32) + (1 : Int32)))))] []))
      refine Goes.step (fun _ kK => XS.iload X_15.here hx rfl (hb hby own_d16_51) rfl kK) ?_
      show Goes pP eE bB _ (T_15.setTop (mkF mM 53 #[.val (.ref a1), .val (.int p2), .val (.int p3), .val (.int (-1 : Int32)), .val (.int (1 : Int32)), .val (.int (((0 : Int32) + (1 : Int32)) + (own_v_lb ((0 : Int32) + (1 : Int32)))))] [(.int (((0 : Int32) + (1 : Int32)) + (own_v_lb ((0 : Int32) + (1 : Int32)))))]))
      refine Goes.step (fun _ kK => XS.iload X_15.here hx rfl (hb hby own_d16_53) rfl kK) ?_
      show Goes pP eE bB _ (T_15.setTop (mkF mM 55 #[.val (.ref a1), .val (.int p2), .val (.int p3), .val (.int (-1 : Int32)), .val (.int (1 : Int32)), .val (.int (((0 : Int32) + (1 : Int32)) + (own_v_lb ((0 : Int32) + (1 : Int32)))))] [(.int (1 : Int32)), (.int (((0 : Int32) + (1 : Int32)) + (own_v_lb ((0 : Int32) + (1 : Int32)))))]))
      refine Goes.step (fun _ kK => XS.icmpYes X_15.here hx rfl (pc0 := 55) (pc' := 82) rfl (hb hby own_d16_55) rfl (tlt (by decide)).2.2.1 (by decide) (by decide) kK) ?_
      show Goes pP eE bB _ (T_15.setTop (mkF mM 82 #[.val (.ref a1), .val (.int p2), .val (.int p3), .val (.int (-1 : Int32)), .val (.int (1 : Int32)), .val (.int (((0 : Int32) + (1 : Int32)) + (own_v_lb ((0 : Int32) + (1 : Int32)))))] []))
      refine Goes.ret0 X_15 hx hlk hret (hb hby own_d16_82) (by decide) (by decide) ?_
      have hW : own_mk W p2 p3 = W ^^^ ((1 : Int64) <<< (p2 &&& 0x3f).toInt64) := if_neg hc_2
      have u_16 := A_4.other W_13 dwt
      have u_17 := (Keep.refl h0 [w, t]).wr W_4 (Or.inl (List.mem_of_getElem? (i := 0) rfl))
      have u_18 := u_17.wr W_13 (Or.inl (List.mem_of_getElem? (i := 1) rfl))
      have u_19 := Fw.other W_4 (Or.inl d1w)
      have u_20 := u_19.other W_13 (Or.inl d1t)
      have u_21 := u_10.other W_13 (Or.inl d1t)
      have u_22 := u_6.other W_13 (Or.inl d1t)
      exact ⟨rfl, N_15, by rw [e_15]; exact u_18, by rw [e_15]; exact u_20, by rw [e_15]; exact u_21, by rw [e_15]; exact u_22, by rw [e_15, hW]; exact (u_16).congr (fun i hi => by simp [show i = 0 from by omega]), ⟨_, _, by rw [e_15]; exact A_13, by simp; rfl⟩⟩
    · refine Goes.step (fun _ kK => XS.ifNo X_4.here hx rfl (hb hby own_d16_25) rfl ((if0 _ _).trans (feq hc_5).1) kK) ?_
      show Goes pP eE bB _ (T_4.setTop (mkF mM 28 #[.val (.ref a1), .val (.int p2), .val (.int p3), .unset, .unset, .unset] []))
      refine Goes.step (fun _ kK => XS.iconst X_4.here hx rfl (hb hby own_d16_28) kK) ?_
      show Goes pP eE bB _ (T_4.setTop (mkF mM 29 #[.val (.ref a1), .val (.int p2), .val (.int p3), .unset, .unset, .unset] [(.int (1 : Int32))]))
      refine Goes.step (fun _ kK => XS.goto X_4.here hx rfl (pc0 := 29) (pc' := 33) rfl (hb hby own_d16_29) (by decide) (by decide) kK) ?_
      show Goes pP eE bB _ (T_4.setTop (mkF mM 33 #[.val (.ref a1), .val (.int p2), .val (.int p3), .unset, .unset, .unset] [(.int (1 : Int32))]))
      refine Goes.step (fun _ kK => XS.istoreN X_4.here hx rfl (hb hby own_d16_33) rfl (l' := #[.val (.ref a1), .val (.int p2), .val (.int p3), .val (.int (1 : Int32)), .unset, .unset]) rfl kK) ?_
      show Goes pP eE bB _ (T_4.setTop (mkF mM 34 #[.val (.ref a1), .val (.int p2), .val (.int p3), .val (.int (1 : Int32)), .unset, .unset] []))
      refine Goes.step (fun _ kK => XS.aloadN X_4.here hx rfl (hb hby own_d16_34) rfl rfl kK) ?_
      show Goes pP eE bB _ (T_4.setTop (mkF mM 35 #[.val (.ref a1), .val (.int p2), .val (.int p3), .val (.int (1 : Int32)), .unset, .unset] [(.ref a1)]))
      have u_23 := Fl.other W_4 (Or.inl d1w)
      obtain ⟨T_24, X_24, e_24, st_24⟩ := getF X_4 hx hZ hown (host := "") (Or.inl (hw _ (List.mem_of_getElem? (i := 63) rfl))) Via.refl e_4 u_23 (g := (mkF mM 35 #[.val (.ref a1), .val (.int p2), .val (.int p3), .val (.int (1 : Int32)), .unset, .unset] [(.ref a1)])) rfl rfl (hb hby own_d16_35)
      refine Goes.step st_24 ?_
      show Goes pP eE bB _ (T_24.setTop (mkF mM 38 #[.val (.ref a1), .val (.int p2), .val (.int p3), .val (.int (1 : Int32)), .unset, .unset] [(.int len)]))
      have u_25 := Nat.le_trans Z0 (Keep.of_wr W_4).1
      refine Goes.callS X_24 hx hZ hown (hw _ (List.mem_of_getElem? (i := 34) rfl)) (hw _ (List.mem_of_getElem? (i := 35) rfl)) (hw _ (List.mem_of_getElem? (i := 2) rfl)) (hw _ (List.mem_of_getElem? (i := 36) rfl)) (by decide) e_24 (rm_wo l Z a0 hw len h_4 n0 u_25) (W := 0) (by decide) (by decide) (by decide) (by decide) (g := (mkF mM 38 #[.val (.ref a1), .val (.int p2), .val (.int p3), .val (.int (1 : Int32)), .unset, .unset] [(.int len)])) rfl (by rw [hml]; rfl) (rest := []) own_pd0 rfl rfl (by show 2 * 0 + _ ≤ _; exact Nat.le_of_eq rfl) (hb hby own_d16_38) ?_
      intro v_26 T_26 L_26 X_26 hQ_26
      obtain ⟨rfl, N_26q, e_26⟩ := hQ_26
      have N_26 := Fr.app N_4 N_26q
      show Goes pP eE bB _ (T_26.setTop (mkF mM 41 #[.val (.ref a1), .val (.int p2), .val (.int p3), .val (.int (1 : Int32)), .unset, .unset] [(.int (own_v_wo len))]))
      rw [hlen]
      show Goes pP eE bB _ (T_26.setTop (mkF mM 41 #[.val (.ref a1), .val (.int p2), .val (.int p3), .val (.int (1 : Int32)), .unset, .unset] [(.int (1 : Int32))]))
      refine Goes.step (fun _ kK => XS.istore X_26.here hx rfl (hb hby own_d16_41) rfl (l' := #[.val (.ref a1), .val (.int p2), .val (.int p3), .val (.int (1 : Int32)), .val (.int (1 : Int32)), .unset]) rfl kK) ?_
      show Goes pP eE bB _ (T_26.setTop (mkF mM 43 #[.val (.ref a1), .val (.int p2), .val (.int p3), .val (.int (1 : Int32)), .val (.int (1 : Int32)), .unset] []))
      refine Goes.step (fun _ kK => XS.iloadN X_26.here hx rfl (hb hby own_d16_43) rfl kK) ?_
      show Goes pP eE bB _ (T_26.setTop (mkF mM 44 #[.val (.ref a1), .val (.int p2), .val (.int p3), .val (.int (1 : Int32)), .val (.int (1 : Int32)), .unset] [(.int p2)]))
      refine Goes.step (fun _ kK => XS.bipush X_26.here hx rfl (hb hby own_d16_44) kK) ?_
      show Goes pP eE bB _ (T_26.setTop (mkF mM 46 #[.val (.ref a1), .val (.int p2), .val (.int p3), .val (.int (1 : Int32)), .val (.int (1 : Int32)), .unset] [(.int (64 : Int32)), (.int p2)]))
      refine Goes.step (fun _ kK => XS.idiv X_26.here hx rfl (hb hby own_d16_46) rfl (by decide) kK) ?_
      show Goes pP eE bB _ (T_26.setTop (mkF mM 47 #[.val (.ref a1), .val (.int p2), .val (.int p3), .val (.int (1 : Int32)), .val (.int (1 : Int32)), .unset] [(.int (p2 / (64 : Int32)))]))
      rw [hq]
      show Goes pP eE bB _ (T_26.setTop (mkF mM 47 #[.val (.ref a1), .val (.int p2), .val (.int p3), .val (.int (1 : Int32)), .val (.int (1 : Int32)), .unset] [(.int (0 : Int32))]))
      refine Goes.step (fun _ kK => XS.iconst X_26.here hx rfl (hb hby own_d16_47) kK) ?_
      show Goes pP eE bB _ (T_26.setTop (mkF mM 48 #[.val (.ref a1), .val (.int p2), .val (.int p3), .val (.int (1 : Int32)), .val (.int (1 : Int32)), .unset] [(.int (1 : Int32)), (.int (0 : Int32))]))
      refine Goes.step (fun _ kK => XS.iadd X_26.here hx rfl (hb hby own_d16_48) rfl kK) ?_
      show Goes pP eE bB _ (T_26.setTop (mkF mM 49 #[.val (.ref a1), .val (.int p2), .val (.int p3), .val (.int (1 : Int32)), .val (.int (1 : Int32)), .unset] [(.int ((0 : Int32) + (1 : Int32)))]))
      refine Goes.step (fun _ kK => XS.istore X_26.here hx rfl (hb hby own_d16_49) rfl (l' := #[.val (.ref a1), .val (.int p2), .val (.int p3), .val (.int (1 : Int32)), .val (.int (1 : Int32)), .val (.int ((0 : Int32) + (1 : Int32)))]) rfl kK) ?_
      show Goes pP eE bB _ (T_26.setTop (mkF mM 51 #[.val (.ref a1), .val (.int p2), .val (.int p3), .val (.int (1 : Int32)), .val (.int (1 : Int32)), .val (.int ((0 : Int32) + (1 : Int32)))] []))
      refine Goes.step (fun _ kK => XS.iload X_26.here hx rfl (hb hby own_d16_51) rfl kK) ?_
      show Goes pP eE bB _ (T_26.setTop (mkF mM 53 #[.val (.ref a1), .val (.int p2), .val (.int p3), .val (.int (1 : Int32)), .val (.int (1 : Int32)), .val (.int ((0 : Int32) + (1 : Int32)))] [(.int ((0 : Int32) + (1 : Int32)))]))
      refine Goes.step (fun _ kK => XS.iload X_26.here hx rfl (hb hby own_d16_53) rfl kK) ?_
      show Goes pP eE bB _ (T_26.setTop (mkF mM 55 #[.val (.ref a1), .val (.int p2), .val (.int p3), .val (.int (1 : Int32)), .val (.int (1 : Int32)), .val (.int ((0 : Int32) + (1 : Int32)))] [(.int (1 : Int32)), (.int ((0 : Int32) + (1 : Int32)))]))
      refine Goes.step (fun _ kK => XS.icmpNo X_26.here hx rfl (hb hby own_d16_55) rfl (flt (by decide)).2.2.1 kK) ?_
      show Goes pP eE bB _ (T_26.setTop (mkF mM 58 #[.val (.ref a1), .val (.int p2), .val (.int p3), .val (.int (1 : Int32)), .val (.int (1 : Int32)), .val (.int ((0 : Int32) + (1 : Int32)))] []))
      refine Goes.step (fun _ kK => XS.aloadN X_26.here hx rfl (hb hby own_d16_58) rfl rfl kK) ?_
      show Goes pP eE bB _ (T_26.setTop (mkF mM 59 #[.val (.ref a1), .val (.int p2), .val (.int p3), .val (.int (1 : Int32)), .val (.int (1 : Int32)), .val (.int ((0 : Int32) + (1 : Int32)))] [(.ref a1)]))
      have u_27 := Ft.other W_4 (Or.inl d1w)
      obtain ⟨T_28, X_28, e_28, st_28⟩ := getF X_26 hx hZ hown (host := "") (Or.inl (hw _ (List.mem_of_getElem? (i := 61) rfl))) Via.refl e_26 u_27 (g := (mkF mM 59 #[.val (.ref a1), .val (.int p2), .val (.int p3), .val (.int (1 : Int32)), .val (.int (1 : Int32)), .val (.int ((0 : Int32) + (1 : Int32)))] [(.ref a1)])) rfl rfl (hb hby own_d16_59)
      refine Goes.step st_28 ?_
      show Goes pP eE bB _ (T_28.setTop (mkF mM 62 #[.val (.ref a1), .val (.int p2), .val (.int p3), .val (.int (1 : Int32)), .val (.int (1 : Int32)), .val (.int ((0 : Int32) + (1 : Int32)))] [(.ref t)]))
      refine Goes.step (fun _ kK => XS.iload X_28.here hx rfl (hb hby own_d16_62) rfl kK) ?_
      show Goes pP eE bB _ (T_28.setTop (mkF mM 64 #[.val (.ref a1), .val (.int p2), .val (.int p3), .val (.int (1 : Int32)), .val (.int (1 : Int32)), .val (.int ((0 : Int32) + (1 : Int32)))] [(.int ((0 : Int32) + (1 : Int32))), (.ref t)]))
      refine Goes.step (fun _ kK => Jvm.Free.XT.dup2 X_28.here hx rfl (hb hby own_d16_64) rfl rfl rfl kK) ?_
      show Goes pP eE bB _ (T_28.setTop (mkF mM 65 #[.val (.ref a1), .val (.int p2), .val (.int p3), .val (.int (1 : Int32)), .val (.int (1 : Int32)), .val (.int ((0 : Int32) + (1 : Int32)))] [(.int ((0 : Int32) + (1 : Int32))), (.ref t), (.int ((0 : Int32) + (1 : Int32))), (.ref t)]))
      have u_29 := At.other W_4 (Ne.symm dwt)
      refine Goes.iaload X_28 hx hZ e_28 u_29 (i := 1) (by decide) (by decide) hf1 (g := (mkF mM 65 #[.val (.ref a1), .val (.int p2), .val (.int p3), .val (.int (1 : Int32)), .val (.int (1 : Int32)), .val (.int ((0 : Int32) + (1 : Int32)))] [(.int ((0 : Int32) + (1 : Int32))), (.ref t), (.int ((0 : Int32) + (1 : Int32))), (.ref t)])) rfl rfl (hb hby own_d16_65) ?_
      show Goes pP eE bB _ (T_28.setTop (mkF mM 66 #[.val (.ref a1), .val (.int p2), .val (.int p3), .val (.int (1 : Int32)), .val (.int (1 : Int32)), .val (.int ((0 : Int32) + (1 : Int32)))] [(.int c0), (.int ((0 : Int32) + (1 : Int32))), (.ref t)]))
      refine Goes.step (fun _ kK => XS.iloadN X_28.here hx rfl (hb hby own_d16_66) rfl kK) ?_
      show Goes pP eE bB _ (T_28.setTop (mkF mM 67 #[.val (.ref a1), .val (.int p2), .val (.int p3), .val (.int (1 : Int32)), .val (.int (1 : Int32)), .val (.int ((0 : Int32) + (1 : Int32)))] [(.int (1 : Int32)), (.int c0), (.int ((0 : Int32) + (1 : Int32))), (.ref t)]))
      refine Goes.step (fun _ kK => XS.iadd X_28.here hx rfl (hb hby own_d16_67) rfl kK) ?_
      show Goes pP eE bB _ (T_28.setTop (mkF mM 68 #[.val (.ref a1), .val (.int p2), .val (.int p3), .val (.int (1 : Int32)), .val (.int (1 : Int32)), .val (.int ((0 : Int32) + (1 : Int32)))] [(.int (c0 + (1 : Int32))), (.int ((0 : Int32) + (1 : Int32))), (.ref t)]))
      refine Goes.iastore X_28 hx hZ e_28 u_29 (i := 1) (by decide) (by decide) (g := (mkF mM 68 #[.val (.ref a1), .val (.int p2), .val (.int p3), .val (.int (1 : Int32)), .val (.int (1 : Int32)), .val (.int ((0 : Int32) + (1 : Int32)))] [(.int (c0 + (1 : Int32))), (.int ((0 : Int32) + (1 : Int32))), (.ref t)])) rfl rfl (hb hby own_d16_68) ?_
      intro T_30 h_30 X_30 e_30 W_30 A_30
      have N_30 := Fr.snoc X_30 N_26 gt
      show Goes pP eE bB _ (T_30.setTop (mkF mM 69 #[.val (.ref a1), .val (.int p2), .val (.int p3), .val (.int (1 : Int32)), .val (.int (1 : Int32)), .val (.int ((0 : Int32) + (1 : Int32)))] []))
      refine Goes.step (fun _ kK => XS.iload X_30.here hx rfl (hb hby own_d16_69) rfl kK) ?_
      show Goes pP eE bB _ (T_30.setTop (mkF mM 71 #[.val (.ref a1), .val (.int p2), .val (.int p3), .val (.int (1 : Int32)), .val (.int (1 : Int32)), .val (.int ((0 : Int32) + (1 : Int32)))] [(.int ((0 : Int32) + (1 : Int32)))]))
      refine Goes.step (fun _ kK => XS.iload X_30.here hx rfl (hb hby own_d16_71) rfl kK) ?_
      show Goes pP eE bB _ (T_30.setTop (mkF mM 73 #[.val (.ref a1), .val (.int p2), .val (.int p3), .val (.int (1 : Int32)), .val (.int (1 : Int32)), .val (.int ((0 : Int32) + (1 : Int32)))] [(.int ((0 : Int32) + (1 : Int32))), (.int ((0 : Int32) + (1 : Int32)))]))
      have u_31 := Nat.le_trans u_25 (Keep.of_wr W_30).1
      refine Goes.callS X_30 hx hZ hown (hw _ (List.mem_of_getElem? (i := 78) rfl)) (hw _ (List.mem_of_getElem? (i := 79) rfl)) (hw _ (List.mem_of_getElem? (i := 80) rfl)) (hw _ (List.mem_of_getElem? (i := 81) rfl)) (by decide) e_30 (rm_lb l Z a0 hw ((0 : Int32) + (1 : Int32)) h_30 n0 u_31) (W := 1) (by decide) (by decide) (by decide) (by decide) (g := (mkF mM 73 #[.val (.ref a1), .val (.int p2), .val (.int p3), .val (.int (1 : Int32)), .val (.int (1 : Int32)), .val (.int ((0 : Int32) + (1 : Int32)))] [(.int ((0 : Int32) + (1 : Int32))), (.int ((0 : Int32) + (1 : Int32)))])) rfl (by rw [hml]; rfl) (rest := [(.int ((0 : Int32) + (1 : Int32)))]) own_pd0 rfl rfl (by show 2 * 0 + _ ≤ _; exact Nat.le_of_eq rfl) (hb hby own_d16_73) ?_
      intro v_32 T_32 L_32 X_32 hQ_32
      obtain ⟨rfl, N_32q, e_32⟩ := hQ_32
      have N_32 := Fr.app N_30 N_32q
      show Goes pP eE bB _ (T_32.setTop (mkF mM 76 #[.val (.ref a1), .val (.int p2), .val (.int p3), .val (.int (1 : Int32)), .val (.int (1 : Int32)), .val (.int ((0 : Int32) + (1 : Int32)))] [(.int (own_v_lb ((0 : Int32) + (1 : Int32)))), (.int ((0 : Int32) + (1 : Int32)))]))
      refine Goes.step (fun _ kK => XS.iadd X_32.here hx rfl (hb hby own_d16_76) rfl kK) ?_
      show Goes pP eE bB _ (T_32.setTop (mkF mM 77 #[.val (.ref a1), .val (.int p2), .val (.int p3), .val (.int (1 : Int32)), .val (.int (1 : Int32)), .val (.int ((0 : Int32) + (1 : Int32)))] [(.int (((0 : Int32) + (1 : Int32)) + (own_v_lb ((0 : Int32) + (1 : Int32)))))]))
      refine Goes.step (fun _ kK => XS.istore X_32.here hx rfl (hb hby own_d16_77) rfl (l' := #[.val (.ref a1), .val (.int p2), .val (.int p3), .val (.int (1 : Int32)), .val (.int (1 : Int32)), .val (.int (((0 : Int32) + (1 : Int32)) + (own_v_lb ((0 : Int32) + (1 : Int32)))))]) rfl kK) ?_
      show Goes pP eE bB _ (T_32.setTop (mkF mM 79 #[.val (.ref a1), .val (.int p2), .val (.int p3), .val (.int (1 : Int32)), .val (.int (1 : Int32)), .val (.int (((0 : Int32) + (1 : Int32)) + (own_v_lb ((0 : Int32) + (1 : Int32)))))] []))
      refine Goes.step (fun _ kK => XS.goto X_32.here hx rfl (pc0 := 79) (pc' := 51) rfl (hb hby own_d16_79) (by decide) (by decide) kK) ?_
      show Goes pP eE bB _ (T_32.setTop (mkF mM 51 #[.val (.ref a1), .val (.int p2), .val (.int p3), .val (.int (1 : Int32)), .val (.int (1 : Int32)), .val (.int (((0 : Int32) + (1 : Int32)) + (own_v_lb ((0 : Int32) + (1 : Int32)))))] []))
      refine Goes.step (fun _ kK => XS.iload X_32.here hx rfl (hb hby own_d16_51) rfl kK) ?_
      show Goes pP eE bB _ (T_32.setTop (mkF mM 53 #[.val (.ref a1), .val (.int p2), .val (.int p3), .val (.int (1 : Int32)), .val (.int (1 : Int32)), .val (.int (((0 : Int32) + (1 : Int32)) + (own_v_lb ((0 : Int32) + (1 : Int32)))))] [(.int (((0 : Int32) + (1 : Int32)) + (own_v_lb ((0 : Int32) + (1 : Int32)))))]))
      refine Goes.step (fun _ kK => XS.iload X_32.here hx rfl (hb hby own_d16_53) rfl kK) ?_
      show Goes pP eE bB _ (T_32.setTop (mkF mM 55 #[.val (.ref a1), .val (.int p2), .val (.int p3), .val (.int (1 : Int32)), .val (.int (1 : Int32)), .val (.int (((0 : Int32) + (1 : Int32)) + (own_v_lb ((0 : Int32) + (1 : Int32)))))] [(.int (1 : Int32)), (.int (((0 : Int32) + (1 : Int32)) + (own_v_lb ((0 : Int32) + (1 : Int32)))))]))
      refine Goes.step (fun _ kK => XS.icmpYes X_32.here hx rfl (pc0 := 55) (pc' := 82) rfl (hb hby own_d16_55) rfl (tlt (by decide)).2.2.1 (by decide) (by decide) kK) ?_
      show Goes pP eE bB _ (T_32.setTop (mkF mM 82 #[.val (.ref a1), .val (.int p2), .val (.int p3), .val (.int (1 : Int32)), .val (.int (1 : Int32)), .val (.int (((0 : Int32) + (1 : Int32)) + (own_v_lb ((0 : Int32) + (1 : Int32)))))] []))
      refine Goes.ret0 X_32 hx hlk hret (hb hby own_d16_82) (by decide) (by decide) ?_
      have hW : own_mk W p2 p3 = W ^^^ ((1 : Int64) <<< (p2 &&& 0x3f).toInt64) := if_neg hc_2
      have u_33 := A_4.other W_30 dwt
      have u_34 := (Keep.refl h0 [w, t]).wr W_4 (Or.inl (List.mem_of_getElem? (i := 0) rfl))
      have u_35 := u_34.wr W_30 (Or.inl (List.mem_of_getElem? (i := 1) rfl))
      have u_36 := Fw.other W_4 (Or.inl d1w)
      have u_37 := u_36.other W_30 (Or.inl d1t)
      have u_38 := u_27.other W_30 (Or.inl d1t)
      have u_39 := u_23.other W_30 (Or.inl d1t)
      exact ⟨rfl, N_32, by rw [e_32]; exact u_35, by rw [e_32]; exact u_37, by rw [e_32]; exact u_38, by rw [e_32]; exact u_39, by rw [e_32, hW]; exact (u_33).congr (fun i hi => by simp [show i = 0 from by omega]), ⟨_, _, by rw [e_32]; exact A_30, by simp; rfl⟩⟩
set_option maxRecDepth 65536 in
set_option maxHeartbeats 40000000 in
theorem rmIn (l : Launch) (Z : State) (a0 : Array Value) (hw : ∀ d ∈ tables_1, d.before a0 Z = true) (a1 w t : Addr) (W : Int64) (len : Int32) (h0 : Heap) (n0 : Nat) (Z0 : n0 ≤ h0.size) (R0 : own_Row Z h0 a1 w t W len) :
    Con l Z (⟨"com/example/orderly_seats/orderlyseats/model/MarkedRow", "inWords", "(I)I"⟩ : MethodName) prog_26_method_8_code 4 (some .int) ({ frames := 0, cells := 0, slots := 0, locals := 0 } : Room) #[(.ref a1), (.int (0 : Int32))] h0 (fun v h L => v = some (.int (0 : Int32)) ∧ Fr n0 L ∧ h = h0) := by
  refine Con.body (plainFor_of_name own_pn1) ?_
  intro pP eE sS mM bB mT cC s₁ hx hby hml hZ hown hnm hret hlk X0 e0
  have hown : sS.vm.findClass "com/example/orderly_seats/orderlyseats/model/MarkedRow" = some mM.cls := hown
  have hml : cC.maxLocals = 4 := hml
  have N0 := Fr.nil n0
  have ef : entryFrame mM #[(.ref a1), (.int (0 : Int32))] 4 = mkF mM 0 #[.val (.ref a1), .val (.int (0 : Int32)), .unset, .unset] [] := by first | (simp [entryFrame, mkF, argsToLocals, Value.category]; done) | rfl
  rw [ef]
  obtain ⟨Fw, Ft, Fl, Aw, f, c0, At, hf1⟩ := R0
  show Goes pP eE bB _ (s₁.setTop (mkF mM 0 #[.val (.ref a1), .val (.int (0 : Int32)), .unset, .unset] []))
  refine Goes.step (fun _ kK => XS.iconst X0.here hx rfl (hb hby own_d14_0) kK) ?_
  show Goes pP eE bB _ (s₁.setTop (mkF mM 1 #[.val (.ref a1), .val (.int (0 : Int32)), .unset, .unset] [(.int (0 : Int32))]))
  refine Goes.step (fun _ kK => XS.istoreN X0.here hx rfl (hb hby own_d14_1) rfl (l' := #[.val (.ref a1), .val (.int (0 : Int32)), .val (.int (0 : Int32)), .unset]) rfl kK) ?_
  show Goes pP eE bB _ (s₁.setTop (mkF mM 2 #[.val (.ref a1), .val (.int (0 : Int32)), .val (.int (0 : Int32)), .unset] []))
  refine Goes.step (fun _ kK => XS.iloadN X0.here hx rfl (hb hby own_d14_2) rfl kK) ?_
  show Goes pP eE bB _ (s₁.setTop (mkF mM 3 #[.val (.ref a1), .val (.int (0 : Int32)), .val (.int (0 : Int32)), .unset] [(.int (0 : Int32))]))
  refine Goes.step (fun _ kK => XS.istoreN X0.here hx rfl (hb hby own_d14_3) rfl (l' := #[.val (.ref a1), .val (.int (0 : Int32)), .val (.int (0 : Int32)), .val (.int (0 : Int32))]) rfl kK) ?_
  show Goes pP eE bB _ (s₁.setTop (mkF mM 4 #[.val (.ref a1), .val (.int (0 : Int32)), .val (.int (0 : Int32)), .val (.int (0 : Int32))] []))
  refine Goes.step (fun _ kK => XS.iloadN X0.here hx rfl (hb hby own_d14_4) rfl kK) ?_
  show Goes pP eE bB _ (s₁.setTop (mkF mM 5 #[.val (.ref a1), .val (.int (0 : Int32)), .val (.int (0 : Int32)), .val (.int (0 : Int32))] [(.int (0 : Int32))]))
  refine Goes.step (fun _ kK => XS.ifYes X0.here hx rfl (pc0 := 5) (pc' := 27) rfl (hb hby own_d14_5) rfl ((if0 _ _).trans (flt (by decide)).2.2.2) (by decide) (by decide) kK) ?_
  show Goes pP eE bB _ (s₁.setTop (mkF mM 27 #[.val (.ref a1), .val (.int (0 : Int32)), .val (.int (0 : Int32)), .val (.int (0 : Int32))] []))
  refine Goes.step (fun _ kK => XS.iloadN X0.here hx rfl (hb hby own_d14_27) rfl kK) ?_
  show Goes pP eE bB _ (s₁.setTop (mkF mM 28 #[.val (.ref a1), .val (.int (0 : Int32)), .val (.int (0 : Int32)), .val (.int (0 : Int32))] [(.int (0 : Int32))]))
  refine Goes.ret X0 hx hlk hret rfl (Or.inl ⟨rfl, Or.inl rfl, _, rfl⟩) (hb hby own_d14_28) (by decide) (by decide) ?_
  exact ⟨rfl, N0, e0⟩
set_option maxRecDepth 65536 in
set_option maxHeartbeats 40000000 in
theorem rmW (l : Launch) (Z : State) (a0 : Array Value) (hw : ∀ d ∈ tables_1, d.before a0 Z = true) (a1 w t : Addr) (W : Int64) (len : Int32) (h0 : Heap) (n0 : Nat) (Z0 : n0 ≤ h0.size) (R0 : own_Row Z h0 a1 w t W len) (E1 : Exa Z h0 a1 "com/example/orderly_seats/orderlyseats/model/MarkedRow") (g1 : n0 ≤ a1) (gw : n0 ≤ w) (gt : n0 ≤ t) (d1w : a1 ≠ w) (d1t : a1 ≠ t) (dwt : w ≠ t) :
    Con l Z (⟨"com/example/orderly_seats/orderlyseats/model/MarkedRow", "startWord", "(I)V"⟩ : MethodName) prog_26_method_9_code 3 none ({ frames := 1, cells := 0, slots := 0, locals := 18 } : Room) #[(.ref a1), (.int (0 : Int32))] h0 (fun v h L => v = none ∧ Fr n0 L ∧ Keep h0 h [t] ∧ own_Row Z h a1 w t W len) := by
  refine Con.body (plainFor_of_name own_pn1) ?_
  intro pP eE sS mM bB mT cC s₁ hx hby hml hZ hown hnm hret hlk X0 e0
  have hown : sS.vm.findClass "com/example/orderly_seats/orderlyseats/model/MarkedRow" = some mM.cls := hown
  have hml : cC.maxLocals = 3 := hml
  have N0 := Fr.nil n0
  have ef : entryFrame mM #[(.ref a1), (.int (0 : Int32))] 3 = mkF mM 0 #[.val (.ref a1), .val (.int (0 : Int32)), .unset] [] := by first | (simp [entryFrame, mkF, argsToLocals, Value.category]; done) | rfl
  rw [ef]
  have R0' := R0
  obtain ⟨Fw, Ft, Fl, Aw, f, c0, At, hf1⟩ := R0
  show Goes pP eE bB _ (s₁.setTop (mkF mM 0 #[.val (.ref a1), .val (.int (0 : Int32)), .unset] []))
  refine Goes.step (fun _ kK => XS.iloadN X0.here hx rfl (hb hby own_d13_0) rfl kK) ?_
  show Goes pP eE bB _ (s₁.setTop (mkF mM 1 #[.val (.ref a1), .val (.int (0 : Int32)), .unset] [(.int (0 : Int32))]))
  refine Goes.step (fun _ kK => XS.aloadN X0.here hx rfl (hb hby own_d13_1) rfl rfl kK) ?_
  show Goes pP eE bB _ (s₁.setTop (mkF mM 2 #[.val (.ref a1), .val (.int (0 : Int32)), .unset] [(.ref a1), (.int (0 : Int32))]))
  obtain ⟨T_1, X_1, e_1, st_1⟩ := getF X0 hx hZ hown (host := "") (Or.inl (hw _ (List.mem_of_getElem? (i := 58) rfl))) Via.refl e0 Fw (g := (mkF mM 2 #[.val (.ref a1), .val (.int (0 : Int32)), .unset] [(.ref a1), (.int (0 : Int32))])) rfl rfl (hb hby own_d13_2)
  refine Goes.step st_1 ?_
  show Goes pP eE bB _ (T_1.setTop (mkF mM 5 #[.val (.ref a1), .val (.int (0 : Int32)), .unset] [(.ref w), (.int (0 : Int32))]))
  refine Goes.alen X_1 hx hZ e_1 Aw (z := (1 : Int32)) (by decide) (g := (mkF mM 5 #[.val (.ref a1), .val (.int (0 : Int32)), .unset] [(.ref w), (.int (0 : Int32))])) rfl rfl (hb hby own_d13_5) ?_
  show Goes pP eE bB _ (T_1.setTop (mkF mM 6 #[.val (.ref a1), .val (.int (0 : Int32)), .unset] [(.int (1 : Int32)), (.int (0 : Int32))]))
  refine Goes.step (fun _ kK => XS.icmpYes X_1.here hx rfl (pc0 := 6) (pc' := 45) rfl (hb hby own_d13_6) rfl (feq (by decide)).2 (by decide) (by decide) kK) ?_
  show Goes pP eE bB _ (T_1.setTop (mkF mM 45 #[.val (.ref a1), .val (.int (0 : Int32)), .unset] []))
  refine Goes.step (fun _ kK => XS.iloadN X_1.here hx rfl (hb hby own_d13_45) rfl kK) ?_
  show Goes pP eE bB _ (T_1.setTop (mkF mM 46 #[.val (.ref a1), .val (.int (0 : Int32)), .unset] [(.int (0 : Int32))]))
  refine Goes.step (fun _ kK => XS.iconst X_1.here hx rfl (hb hby own_d13_46) kK) ?_
  show Goes pP eE bB _ (T_1.setTop (mkF mM 47 #[.val (.ref a1), .val (.int (0 : Int32)), .unset] [(.int (1 : Int32)), (.int (0 : Int32))]))
  refine Goes.step (fun _ kK => XS.iadd X_1.here hx rfl (hb hby own_d13_47) rfl kK) ?_
  show Goes pP eE bB _ (T_1.setTop (mkF mM 48 #[.val (.ref a1), .val (.int (0 : Int32)), .unset] [(.int ((0 : Int32) + (1 : Int32)))]))
  refine Goes.step (fun _ kK => XS.istoreN X_1.here hx rfl (hb hby own_d13_48) rfl (l' := #[.val (.ref a1), .val (.int (0 : Int32)), .val (.int ((0 : Int32) + (1 : Int32)))]) rfl kK) ?_
  show Goes pP eE bB _ (T_1.setTop (mkF mM 49 #[.val (.ref a1), .val (.int (0 : Int32)), .val (.int ((0 : Int32) + (1 : Int32)))] []))
  refine Goes.step (fun _ kK => XS.aloadN X_1.here hx rfl (hb hby own_d13_49) rfl rfl kK) ?_
  show Goes pP eE bB _ (T_1.setTop (mkF mM 50 #[.val (.ref a1), .val (.int (0 : Int32)), .val (.int ((0 : Int32) + (1 : Int32)))] [(.ref a1)]))
  obtain ⟨T_2, X_2, e_2, st_2⟩ := getF X_1 hx hZ hown (host := "") (Or.inl (hw _ (List.mem_of_getElem? (i := 61) rfl))) Via.refl e_1 Ft (g := (mkF mM 50 #[.val (.ref a1), .val (.int (0 : Int32)), .val (.int ((0 : Int32) + (1 : Int32)))] [(.ref a1)])) rfl rfl (hb hby own_d13_50)
  refine Goes.step st_2 ?_
  show Goes pP eE bB _ (T_2.setTop (mkF mM 53 #[.val (.ref a1), .val (.int (0 : Int32)), .val (.int ((0 : Int32) + (1 : Int32)))] [(.ref t)]))
  refine Goes.step (fun _ kK => XS.iloadN X_2.here hx rfl (hb hby own_d13_53) rfl kK) ?_
  show Goes pP eE bB _ (T_2.setTop (mkF mM 54 #[.val (.ref a1), .val (.int (0 : Int32)), .val (.int ((0 : Int32) + (1 : Int32)))] [(.int ((0 : Int32) + (1 : Int32))), (.ref t)]))
  refine Goes.step (fun _ kK => XS.aloadN X_2.here hx rfl (hb hby own_d13_54) rfl rfl kK) ?_
  show Goes pP eE bB _ (T_2.setTop (mkF mM 55 #[.val (.ref a1), .val (.int (0 : Int32)), .val (.int ((0 : Int32) + (1 : Int32)))] [(.ref a1), (.int ((0 : Int32) + (1 : Int32))), (.ref t)]))
  refine Goes.step (fun _ kK => XS.iloadN X_2.here hx rfl (hb hby own_d13_55) rfl kK) ?_
  show Goes pP eE bB _ (T_2.setTop (mkF mM 56 #[.val (.ref a1), .val (.int (0 : Int32)), .val (.int ((0 : Int32) + (1 : Int32)))] [(.int (0 : Int32)), (.ref a1), (.int ((0 : Int32) + (1 : Int32))), (.ref t)]))
  refine Goes.callP X_2 hx hZ hown (hw _ (List.mem_of_getElem? (i := 74) rfl)) (hw _ (List.mem_of_getElem? (i := 75) rfl)) (hw _ (List.mem_of_getElem? (i := 76) rfl)) (hw _ (List.mem_of_getElem? (i := 68) rfl)) rfl (hw _ (List.mem_of_getElem? (i := 77) rfl)) (hw _ (List.mem_of_getElem? (i := 2) rfl)) (by decide) e_2 E1 (rmIn l Z a0 hw a1 w t W len h0 n0 Z0 R0') (W := 2) (by decide) (by decide) (by decide) (by decide) (g := (mkF mM 56 #[.val (.ref a1), .val (.int (0 : Int32)), .val (.int ((0 : Int32) + (1 : Int32)))] [(.int (0 : Int32)), (.ref a1), (.int ((0 : Int32) + (1 : Int32))), (.ref t)])) rfl (by rw [hml]; rfl) (rest := [(.int ((0 : Int32) + (1 : Int32))), (.ref t)]) own_pd0 rfl rfl (by show 2 * 0 + _ ≤ _; exact Nat.le_of_eq rfl) (hb hby own_d13_56) ?_
  intro v_3 T_3 L_3 X_3 hQ_3
  obtain ⟨rfl, N_3q, e_3⟩ := hQ_3
  have N_3 := Fr.app N0 N_3q
  show Goes pP eE bB _ (T_3.setTop (mkF mM 59 #[.val (.ref a1), .val (.int (0 : Int32)), .val (.int ((0 : Int32) + (1 : Int32)))] [(.int (0 : Int32)), (.int ((0 : Int32) + (1 : Int32))), (.ref t)]))
  refine Goes.step (fun _ kK => XS.aloadN X_3.here hx rfl (hb hby own_d13_59) rfl rfl kK) ?_
  show Goes pP eE bB _ (T_3.setTop (mkF mM 60 #[.val (.ref a1), .val (.int (0 : Int32)), .val (.int ((0 : Int32) + (1 : Int32)))] [(.ref a1), (.int (0 : Int32)), (.int ((0 : Int32) + (1 : Int32))), (.ref t)]))
  refine Goes.step (fun _ kK => XS.iloadN X_3.here hx rfl (hb hby own_d13_60) rfl kK) ?_
  show Goes pP eE bB _ (T_3.setTop (mkF mM 61 #[.val (.ref a1), .val (.int (0 : Int32)), .val (.int ((0 : Int32) + (1 : Int32)))] [(.int ((0 : Int32) + (1 : Int32))), (.ref a1), (.int (0 : Int32)), (.int ((0 : Int32) + (1 : Int32))), (.ref t)]))
  refine Goes.step (fun _ kK => XS.iloadN X_3.here hx rfl (hb hby own_d13_61) rfl kK) ?_
  show Goes pP eE bB _ (T_3.setTop (mkF mM 62 #[.val (.ref a1), .val (.int (0 : Int32)), .val (.int ((0 : Int32) + (1 : Int32)))] [(.int ((0 : Int32) + (1 : Int32))), (.int ((0 : Int32) + (1 : Int32))), (.ref a1), (.int (0 : Int32)), (.int ((0 : Int32) + (1 : Int32))), (.ref t)]))
  refine Goes.callS X_3 hx hZ hown (hw _ (List.mem_of_getElem? (i := 78) rfl)) (hw _ (List.mem_of_getElem? (i := 79) rfl)) (hw _ (List.mem_of_getElem? (i := 80) rfl)) (hw _ (List.mem_of_getElem? (i := 81) rfl)) (by decide) e_3 (rm_lb l Z a0 hw ((0 : Int32) + (1 : Int32)) h0 n0 Z0) (W := 5) (by decide) (by decide) (by decide) (by decide) (g := (mkF mM 62 #[.val (.ref a1), .val (.int (0 : Int32)), .val (.int ((0 : Int32) + (1 : Int32)))] [(.int ((0 : Int32) + (1 : Int32))), (.int ((0 : Int32) + (1 : Int32))), (.ref a1), (.int (0 : Int32)), (.int ((0 : Int32) + (1 : Int32))), (.ref t)])) rfl (by rw [hml]; rfl) (rest := [(.int ((0 : Int32) + (1 : Int32))), (.ref a1), (.int (0 : Int32)), (.int ((0 : Int32) + (1 : Int32))), (.ref t)]) own_pd0 rfl rfl (by show 2 * 0 + _ ≤ _; exact Nat.le_of_eq rfl) (hb hby own_d13_62) ?_
  intro v_4 T_4 L_4 X_4 hQ_4
  obtain ⟨rfl, N_4q, e_4⟩ := hQ_4
  have N_4 := Fr.app N_3 N_4q
  show Goes pP eE bB _ (T_4.setTop (mkF mM 65 #[.val (.ref a1), .val (.int (0 : Int32)), .val (.int ((0 : Int32) + (1 : Int32)))] [(.int (own_v_lb ((0 : Int32) + (1 : Int32)))), (.int ((0 : Int32) + (1 : Int32))), (.ref a1), (.int (0 : Int32)), (.int ((0 : Int32) + (1 : Int32))), (.ref t)]))
  refine Goes.step (fun _ kK => XS.isub X_4.here hx rfl (hb hby own_d13_65) rfl kK) ?_
  show Goes pP eE bB _ (T_4.setTop (mkF mM 66 #[.val (.ref a1), .val (.int (0 : Int32)), .val (.int ((0 : Int32) + (1 : Int32)))] [(.int (((0 : Int32) + (1 : Int32)) - (own_v_lb ((0 : Int32) + (1 : Int32))))), (.ref a1), (.int (0 : Int32)), (.int ((0 : Int32) + (1 : Int32))), (.ref t)]))
  refine Goes.callP X_4 hx hZ hown (hw _ (List.mem_of_getElem? (i := 74) rfl)) (hw _ (List.mem_of_getElem? (i := 75) rfl)) (hw _ (List.mem_of_getElem? (i := 76) rfl)) (hw _ (List.mem_of_getElem? (i := 68) rfl)) rfl (hw _ (List.mem_of_getElem? (i := 77) rfl)) (hw _ (List.mem_of_getElem? (i := 2) rfl)) (by decide) e_4 E1 ((by decide : (0 : Int32) = (((0 : Int32) + (1 : Int32)) - (own_v_lb ((0 : Int32) + (1 : Int32))))) ▸ rmIn l Z a0 hw a1 w t W len h0 n0 Z0 R0') (W := 3) (by decide) (by decide) (by decide) (by decide) (g := (mkF mM 66 #[.val (.ref a1), .val (.int (0 : Int32)), .val (.int ((0 : Int32) + (1 : Int32)))] [(.int (((0 : Int32) + (1 : Int32)) - (own_v_lb ((0 : Int32) + (1 : Int32))))), (.ref a1), (.int (0 : Int32)), (.int ((0 : Int32) + (1 : Int32))), (.ref t)])) rfl (by rw [hml]; rfl) (rest := [(.int (0 : Int32)), (.int ((0 : Int32) + (1 : Int32))), (.ref t)]) own_pd0 rfl rfl (by show 2 * 0 + _ ≤ _; exact Nat.le_of_eq rfl) (hb hby own_d13_66) ?_
  intro v_5 T_5 L_5 X_5 hQ_5
  obtain ⟨rfl, N_5q, e_5⟩ := hQ_5
  have N_5 := Fr.app N_4 N_5q
  show Goes pP eE bB _ (T_5.setTop (mkF mM 69 #[.val (.ref a1), .val (.int (0 : Int32)), .val (.int ((0 : Int32) + (1 : Int32)))] [(.int (0 : Int32)), (.int (0 : Int32)), (.int ((0 : Int32) + (1 : Int32))), (.ref t)]))
  refine Goes.step (fun _ kK => XS.isub X_5.here hx rfl (hb hby own_d13_69) rfl kK) ?_
  show Goes pP eE bB _ (T_5.setTop (mkF mM 70 #[.val (.ref a1), .val (.int (0 : Int32)), .val (.int ((0 : Int32) + (1 : Int32)))] [(.int ((0 : Int32) - (0 : Int32))), (.int ((0 : Int32) + (1 : Int32))), (.ref t)]))
  refine Goes.iastore X_5 hx hZ e_5 At (i := 1) (by decide) (by decide) (g := (mkF mM 70 #[.val (.ref a1), .val (.int (0 : Int32)), .val (.int ((0 : Int32) + (1 : Int32)))] [(.int ((0 : Int32) - (0 : Int32))), (.int ((0 : Int32) + (1 : Int32))), (.ref t)])) rfl rfl (hb hby own_d13_70) ?_
  intro T_6 h_6 X_6 e_6 W_6 A_6
  have N_6 := Fr.snoc X_6 N_5 gt
  show Goes pP eE bB _ (T_6.setTop (mkF mM 71 #[.val (.ref a1), .val (.int (0 : Int32)), .val (.int ((0 : Int32) + (1 : Int32)))] []))
  refine Goes.ret0 X_6 hx hlk hret (hb hby own_d13_71) (by decide) (by decide) ?_
  have u_7 := (Keep.refl h0 [t]).wr W_6 (Or.inl (List.mem_of_getElem? (i := 0) rfl))
  have u_8 := Fw.other W_6 (Or.inl d1t)
  have u_9 := Ft.other W_6 (Or.inl d1t)
  have u_10 := Fl.other W_6 (Or.inl d1t)
  have u_11 := Aw.other W_6 dwt
  exact ⟨rfl, N_6, by rw [e_6]; exact u_7, by rw [e_6]; exact u_8, by rw [e_6]; exact u_9, by rw [e_6]; exact u_10, by rw [e_6]; exact u_11, _, _, by rw [e_6]; exact A_6, by simp; rfl⟩
set_option maxRecDepth 65536 in
set_option maxHeartbeats 40000000 in
theorem rmA0 (l : Launch) (Z : State) (a0 : Array Value) (hw : ∀ d ∈ tables_1, d.before a0 Z = true) (a1 w t : Addr) (p2 : Int32) (W : Int64) (h0 : Heap) (n0 : Nat) (Z0 : n0 ≤ h0.size) (R0 : own_Row Z h0 a1 w t W (0 : Int32)) (E1 : Exa Z h0 a1 "com/example/orderly_seats/orderlyseats/model/MarkedRow") (g1 : n0 ≤ a1) (gw : n0 ≤ w) (gt : n0 ≤ t) (d1w : a1 ≠ w) (d1t : a1 ≠ t) (dwt : w ≠ t) :
    Con l Z (⟨"com/example/orderly_seats/orderlyseats/model/MarkedRow", "add", "(Z)V"⟩ : MethodName) prog_26_method_6_code 3 none ({ frames := 2, cells := 0, slots := 0, locals := 32 } : Room) #[(.ref a1), (.int p2)] h0 (fun v h L => v = none ∧ Fr n0 L ∧ Keep h0 h [a1, w, t] ∧ own_Row Z h a1 w t (if p2 = (0 : Int32) then W else own_mk W (0 : Int32) (1 : Int32)) (1 : Int32)) := by
  refine Con.body (plainFor_of_name own_pn1) ?_
  intro pP eE sS mM bB mT cC s₁ hx hby hml hZ hown hnm hret hlk X0 e0
  have hown : sS.vm.findClass "com/example/orderly_seats/orderlyseats/model/MarkedRow" = some mM.cls := hown
  have hml : cC.maxLocals = 3 := hml
  have N0 := Fr.nil n0
  have ef : entryFrame mM #[(.ref a1), (.int p2)] 3 = mkF mM 0 #[.val (.ref a1), .val (.int p2), .unset] [] := by first | (simp [entryFrame, mkF, argsToLocals, Value.category]; done) | rfl
  rw [ef]
  have R0' := R0
  obtain ⟨Fw, Ft, Fl, Aw, f, c0, At, hf1⟩ := R0
  show Goes pP eE bB _ (s₁.setTop (mkF mM 0 #[.val (.ref a1), .val (.int p2), .unset] []))
  refine Goes.step (fun _ kK => XS.aloadN X0.here hx rfl (hb hby own_d12_0) rfl rfl kK) ?_
  show Goes pP eE bB _ (s₁.setTop (mkF mM 1 #[.val (.ref a1), .val (.int p2), .unset] [(.ref a1)]))
  obtain ⟨T_1, X_1, e_1, st_1⟩ := getF X0 hx hZ hown (host := "") (Or.inl (hw _ (List.mem_of_getElem? (i := 63) rfl))) Via.refl e0 Fl (g := (mkF mM 1 #[.val (.ref a1), .val (.int p2), .unset] [(.ref a1)])) rfl rfl (hb hby own_d12_1)
  refine Goes.step st_1 ?_
  show Goes pP eE bB _ (T_1.setTop (mkF mM 4 #[.val (.ref a1), .val (.int p2), .unset] [(.int (0 : Int32))]))
  refine Goes.step (fun _ kK => XS.istoreN X_1.here hx rfl (hb hby own_d12_4) rfl (l' := #[.val (.ref a1), .val (.int p2), .val (.int (0 : Int32))]) rfl kK) ?_
  show Goes pP eE bB _ (T_1.setTop (mkF mM 5 #[.val (.ref a1), .val (.int p2), .val (.int (0 : Int32))] []))
  refine Goes.step (fun _ kK => XS.iloadN X_1.here hx rfl (hb hby own_d12_5) rfl kK) ?_
  show Goes pP eE bB _ (T_1.setTop (mkF mM 6 #[.val (.ref a1), .val (.int p2), .val (.int (0 : Int32))] [(.int (0 : Int32))]))
  refine Goes.step (fun _ kK => XS.bipush X_1.here hx rfl (hb hby own_d12_6) kK) ?_
  show Goes pP eE bB _ (T_1.setTop (mkF mM 8 #[.val (.ref a1), .val (.int p2), .val (.int (0 : Int32))] [(.int (64 : Int32)), (.int (0 : Int32))]))
  refine Goes.step (fun _ kK => Jvm.RoadKit.iremM X_1 hx rfl (hb hby own_d12_8) rfl (by decide) kK) ?_
  show Goes pP eE bB _ (T_1.setTop (mkF mM 9 #[.val (.ref a1), .val (.int p2), .val (.int (0 : Int32))] [(.int ((0 : Int32) % (64 : Int32)))]))
  refine Goes.step (fun _ kK => XS.ifNo X_1.here hx rfl (hb hby own_d12_9) rfl ((if0 _ _).trans (teq (by decide)).2) kK) ?_
  show Goes pP eE bB _ (T_1.setTop (mkF mM 12 #[.val (.ref a1), .val (.int p2), .val (.int (0 : Int32))] []))
  refine Goes.step (fun _ kK => XS.aloadN X_1.here hx rfl (hb hby own_d12_12) rfl rfl kK) ?_
  show Goes pP eE bB _ (T_1.setTop (mkF mM 13 #[.val (.ref a1), .val (.int p2), .val (.int (0 : Int32))] [(.ref a1)]))
  refine Goes.step (fun _ kK => XS.iloadN X_1.here hx rfl (hb hby own_d12_13) rfl kK) ?_
  show Goes pP eE bB _ (T_1.setTop (mkF mM 14 #[.val (.ref a1), .val (.int p2), .val (.int (0 : Int32))] [(.int (0 : Int32)), (.ref a1)]))
  refine Goes.step (fun _ kK => XS.bipush X_1.here hx rfl (hb hby own_d12_14) kK) ?_
  show Goes pP eE bB _ (T_1.setTop (mkF mM 16 #[.val (.ref a1), .val (.int p2), .val (.int (0 : Int32))] [(.int (64 : Int32)), (.int (0 : Int32)), (.ref a1)]))
  refine Goes.step (fun _ kK => XS.idiv X_1.here hx rfl (hb hby own_d12_16) rfl (by decide) kK) ?_
  show Goes pP eE bB _ (T_1.setTop (mkF mM 17 #[.val (.ref a1), .val (.int p2), .val (.int (0 : Int32))] [(.int ((0 : Int32) / (64 : Int32))), (.ref a1)]))
  refine Goes.callP X_1 hx hZ hown (hw _ (List.mem_of_getElem? (i := 70) rfl)) (hw _ (List.mem_of_getElem? (i := 71) rfl)) (hw _ (List.mem_of_getElem? (i := 72) rfl)) (hw _ (List.mem_of_getElem? (i := 68) rfl)) rfl (hw _ (List.mem_of_getElem? (i := 73) rfl)) (hw _ (List.mem_of_getElem? (i := 2) rfl)) (by decide) e_1 E1 ((by decide : (0 : Int32) = ((0 : Int32) / (64 : Int32))) ▸ rmW l Z a0 hw a1 w t W (0 : Int32) h0 n0 Z0 R0' E1 g1 gw gt d1w d1t dwt) (W := 0) (by decide) (by decide) (by decide) (by decide) (g := (mkF mM 17 #[.val (.ref a1), .val (.int p2), .val (.int (0 : Int32))] [(.int ((0 : Int32) / (64 : Int32))), (.ref a1)])) rfl (by rw [hml]; rfl) (rest := []) own_pd1 rfl rfl (by show 2 * 0 + _ ≤ _; exact Nat.le_of_eq rfl) (hb hby own_d12_17) ?_
  intro v_2 T_2 L_2 X_2 hQ_2
  generalize e_2 : T_2.heap = h_2 at hQ_2
  obtain ⟨rfl, N_2q, K_2, R_2⟩ := hQ_2
  have N_2 := Fr.app N0 N_2q
  obtain ⟨Fw_2, Ft_2, Fl_2, Aw_2, f_2, c_2, At_2, hf_2⟩ := R_2
  show Goes pP eE bB _ (T_2.setTop (mkF mM 20 #[.val (.ref a1), .val (.int p2), .val (.int (0 : Int32))] []))
  refine Goes.step (fun _ kK => XS.aloadN X_2.here hx rfl (hb hby own_d12_20) rfl rfl kK) ?_
  show Goes pP eE bB _ (T_2.setTop (mkF mM 21 #[.val (.ref a1), .val (.int p2), .val (.int (0 : Int32))] [(.ref a1)]))
  refine Goes.step (fun _ kK => XS.dup X_2.here hx rfl (hb hby own_d12_21) rfl rfl kK) ?_
  show Goes pP eE bB _ (T_2.setTop (mkF mM 22 #[.val (.ref a1), .val (.int p2), .val (.int (0 : Int32))] [(.ref a1), (.ref a1)]))
  obtain ⟨T_3, X_3, e_3, st_3⟩ := getF X_2 hx hZ hown (host := "") (Or.inl (hw _ (List.mem_of_getElem? (i := 63) rfl))) Via.refl e_2 Fl_2 (g := (mkF mM 22 #[.val (.ref a1), .val (.int p2), .val (.int (0 : Int32))] [(.ref a1), (.ref a1)])) rfl rfl (hb hby own_d12_22)
  refine Goes.step st_3 ?_
  show Goes pP eE bB _ (T_3.setTop (mkF mM 25 #[.val (.ref a1), .val (.int p2), .val (.int (0 : Int32))] [(.int (0 : Int32)), (.ref a1)]))
  refine Goes.step (fun _ kK => XS.iconst X_3.here hx rfl (hb hby own_d12_25) kK) ?_
  show Goes pP eE bB _ (T_3.setTop (mkF mM 26 #[.val (.ref a1), .val (.int p2), .val (.int (0 : Int32))] [(.int (1 : Int32)), (.int (0 : Int32)), (.ref a1)]))
  refine Goes.step (fun _ kK => XS.iadd X_3.here hx rfl (hb hby own_d12_26) rfl kK) ?_
  show Goes pP eE bB _ (T_3.setTop (mkF mM 27 #[.val (.ref a1), .val (.int p2), .val (.int (0 : Int32))] [(.int ((0 : Int32) + (1 : Int32))), (.ref a1)]))
  have u_4 := E1.keep K_2
  obtain ⟨T_5, h_5, X_5, e_5, W_5, st_5⟩ := putF X_3 hx hZ hown (host := "") (Or.inl (hw _ (List.mem_of_getElem? (i := 63) rfl))) Via.refl e_3 Fl_2 u_4 (Or.inl (hw _ (List.mem_of_getElem? (i := 64) rfl))) (hw _ (List.mem_of_getElem? (i := 1) rfl)) (ty := .int) (by decide) rfl rfl (g := (mkF mM 27 #[.val (.ref a1), .val (.int p2), .val (.int (0 : Int32))] [(.int ((0 : Int32) + (1 : Int32))), (.ref a1)])) rfl rfl (hb hby own_d12_27)
  have u_6 := Fl_2.same W_5
  have N_5 := Fr.snoc X_5 N_2 g1
  refine Goes.step st_5 ?_
  show Goes pP eE bB _ (T_5.setTop (mkF mM 30 #[.val (.ref a1), .val (.int p2), .val (.int (0 : Int32))] []))
  refine Goes.step (fun _ kK => XS.iloadN X_5.here hx rfl (hb hby own_d12_30) rfl kK) ?_
  show Goes pP eE bB _ (T_5.setTop (mkF mM 31 #[.val (.ref a1), .val (.int p2), .val (.int (0 : Int32))] [(.int p2)]))
  by_cases hc_7 : p2 = (0 : Int32)
  · refine Goes.step (fun _ kK => XS.ifYes X_5.here hx rfl (pc0 := 31) (pc' := 40) rfl (hb hby own_d12_31) rfl ((if0 _ _).trans (teq hc_7).1) (by decide) (by decide) kK) ?_
    show Goes pP eE bB _ (T_5.setTop (mkF mM 40 #[.val (.ref a1), .val (.int p2), .val (.int (0 : Int32))] []))
    refine Goes.ret0 X_5 hx hlk hret (hb hby own_d12_40) (by decide) (by decide) ?_
    have hW : (if p2 = (0 : Int32) then W else own_mk W (0 : Int32) (1 : Int32)) = W := if_pos hc_7
    have u_8 := (Keep.refl h0 [a1, w, t]).trans K_2 (allS (Or.inl (List.mem_of_getElem? (i := 2) rfl)) all0)
    have u_9 := u_8.wr W_5 (Or.inl (List.mem_of_getElem? (i := 0) rfl))
    have u_10 := Fw_2.other W_5 (Or.inr (slot_ne (Or.inl (hw _ (List.mem_of_getElem? (i := 59) rfl))) (Or.inl (hw _ (List.mem_of_getElem? (i := 64) rfl))) (by decide) (t := (.array .long)) (t' := .int) (by decide) (by decide)))
    have u_11 := Ft_2.other W_5 (Or.inr (slot_ne (Or.inl (hw _ (List.mem_of_getElem? (i := 62) rfl))) (Or.inl (hw _ (List.mem_of_getElem? (i := 64) rfl))) (by decide) (t := (.array .int)) (t' := .int) (by decide) (by decide)))
    have u_12 := Aw_2.other W_5 (Ne.symm d1w)
    have u_13 := At_2.other W_5 (Ne.symm d1t)
    exact ⟨rfl, N_5, by rw [e_5]; exact u_9, by rw [e_5]; exact u_10, by rw [e_5]; exact u_11, by rw [e_5, show (1 : Int32) = (0 : Int32) + (1 : Int32) from by decide]; exact u_6, by rw [e_5, hW]; exact u_12, _, _, by rw [e_5]; exact u_13, hf_2⟩
  · refine Goes.step (fun _ kK => XS.ifNo X_5.here hx rfl (hb hby own_d12_31) rfl ((if0 _ _).trans (feq hc_7).1) kK) ?_
    show Goes pP eE bB _ (T_5.setTop (mkF mM 34 #[.val (.ref a1), .val (.int p2), .val (.int (0 : Int32))] []))
    refine Goes.step (fun _ kK => XS.aloadN X_5.here hx rfl (hb hby own_d12_34) rfl rfl kK) ?_
    show Goes pP eE bB _ (T_5.setTop (mkF mM 35 #[.val (.ref a1), .val (.int p2), .val (.int (0 : Int32))] [(.ref a1)]))
    refine Goes.step (fun _ kK => XS.iloadN X_5.here hx rfl (hb hby own_d12_35) rfl kK) ?_
    show Goes pP eE bB _ (T_5.setTop (mkF mM 36 #[.val (.ref a1), .val (.int p2), .val (.int (0 : Int32))] [(.int (0 : Int32)), (.ref a1)]))
    refine Goes.step (fun _ kK => XS.iconst X_5.here hx rfl (hb hby own_d12_36) kK) ?_
    show Goes pP eE bB _ (T_5.setTop (mkF mM 37 #[.val (.ref a1), .val (.int p2), .val (.int (0 : Int32))] [(.int (1 : Int32)), (.int (0 : Int32)), (.ref a1)]))
    have u_14 := Fw_2.other W_5 (Or.inr (slot_ne (Or.inl (hw _ (List.mem_of_getElem? (i := 59) rfl))) (Or.inl (hw _ (List.mem_of_getElem? (i := 64) rfl))) (by decide) (t := (.array .long)) (t' := .int) (by decide) (by decide)))
    have u_15 := Ft_2.other W_5 (Or.inr (slot_ne (Or.inl (hw _ (List.mem_of_getElem? (i := 62) rfl))) (Or.inl (hw _ (List.mem_of_getElem? (i := 64) rfl))) (by decide) (t := (.array .int)) (t' := .int) (by decide) (by decide)))
    have u_16 := Aw_2.other W_5 (Ne.symm d1w)
    have u_17 := At_2.other W_5 (Ne.symm d1t)
    have u_18 : own_Row Z h_5 a1 w t W ((0 : Int32) + (1 : Int32)) := ⟨u_14, u_15, u_6, u_16, _, _, u_17, hf_2⟩
    have u_19 := Nat.le_trans Z0 K_2.1
    have u_20 := Nat.le_trans u_19 (Keep.of_wr W_5).1
    have u_21 := u_4.wr W_5
    refine Goes.callV X_5 hx hZ hown (hw _ (List.mem_of_getElem? (i := 94) rfl)) (hw _ (List.mem_of_getElem? (i := 84) rfl)) (notFace_of_selects (args := #[]) (mvT hZ (hw _ (List.mem_of_getElem? (i := 86) rfl)))) (hw _ (List.mem_of_getElem? (i := 86) rfl)) (hw _ (List.mem_of_getElem? (i := 85) rfl)) (hw _ (List.mem_of_getElem? (i := 87) rfl)) (hw _ (List.mem_of_getElem? (i := 2) rfl)) (by decide) e_5 u_21 (rmK l Z a0 hw a1 w t (0 : Int32) (1 : Int32) W ((0 : Int32) + (1 : Int32)) h_5 n0 u_20 u_18 u_21 g1 gw gt d1w d1t dwt (by decide) (by decide)) (W := 0) (by decide) (by decide) (by decide) (by decide) (g := (mkF mM 37 #[.val (.ref a1), .val (.int p2), .val (.int (0 : Int32))] [(.int (1 : Int32)), (.int (0 : Int32)), (.ref a1)])) rfl (by rw [hml]; rfl) (rest := []) own_pd8 rfl rfl (by show 2 * 0 + _ ≤ _; exact Nat.le_of_eq rfl) (hb hby own_d12_37) ?_
    intro v_22 T_22 L_22 X_22 hQ_22
    generalize e_22 : T_22.heap = h_22 at hQ_22
    obtain ⟨rfl, N_22q, K_22, R_22⟩ := hQ_22
    have N_22 := Fr.app N_5 N_22q
    obtain ⟨Fw_22, Ft_22, Fl_22, Aw_22, f_22, c_22, At_22, hf_22⟩ := R_22
    show Goes pP eE bB _ (T_22.setTop (mkF mM 40 #[.val (.ref a1), .val (.int p2), .val (.int (0 : Int32))] []))
    refine Goes.ret0 X_22 hx hlk hret (hb hby own_d12_40) (by decide) (by decide) ?_
    have hW : (if p2 = (0 : Int32) then W else own_mk W (0 : Int32) (1 : Int32)) = own_mk W (0 : Int32) (1 : Int32) := if_neg hc_7
    have u_23 := (Keep.refl h0 [a1, w, t]).trans K_2 (allS (Or.inl (List.mem_of_getElem? (i := 2) rfl)) all0)
    have u_24 := u_23.wr W_5 (Or.inl (List.mem_of_getElem? (i := 0) rfl))
    have u_25 := u_24.trans K_22 (allS (Or.inl (List.mem_of_getElem? (i := 1) rfl)) (allS (Or.inl (List.mem_of_getElem? (i := 2) rfl)) all0))
    exact ⟨rfl, N_22, by rw [e_22]; exact u_25, by rw [e_22]; exact Fw_22, by rw [e_22]; exact Ft_22, by rw [e_22, show (1 : Int32) = (0 : Int32) + (1 : Int32) from by decide]; exact Fl_22, by rw [e_22, hW]; exact Aw_22, _, _, by rw [e_22]; exact At_22, hf_22⟩
set_option maxRecDepth 65536 in
set_option maxHeartbeats 40000000 in
theorem rmA1 (l : Launch) (Z : State) (a0 : Array Value) (hw : ∀ d ∈ tables_1, d.before a0 Z = true) (a1 w t : Addr) (p2 : Int32) (W : Int64) (h0 : Heap) (n0 : Nat) (Z0 : n0 ≤ h0.size) (R0 : own_Row Z h0 a1 w t W (1 : Int32)) (E1 : Exa Z h0 a1 "com/example/orderly_seats/orderlyseats/model/MarkedRow") (g1 : n0 ≤ a1) (gw : n0 ≤ w) (gt : n0 ≤ t) (d1w : a1 ≠ w) (d1t : a1 ≠ t) (dwt : w ≠ t) :
    Con l Z (⟨"com/example/orderly_seats/orderlyseats/model/MarkedRow", "add", "(Z)V"⟩ : MethodName) prog_26_method_6_code 3 none ({ frames := 2, cells := 0, slots := 0, locals := 30 } : Room) #[(.ref a1), (.int p2)] h0 (fun v h L => v = none ∧ Fr n0 L ∧ Keep h0 h [a1, w, t] ∧ own_Row Z h a1 w t (if p2 = (0 : Int32) then W else own_mk W (1 : Int32) (1 : Int32)) (2 : Int32)) := by
  refine Con.body (plainFor_of_name own_pn1) ?_
  intro pP eE sS mM bB mT cC s₁ hx hby hml hZ hown hnm hret hlk X0 e0
  have hown : sS.vm.findClass "com/example/orderly_seats/orderlyseats/model/MarkedRow" = some mM.cls := hown
  have hml : cC.maxLocals = 3 := hml
  have N0 := Fr.nil n0
  have ef : entryFrame mM #[(.ref a1), (.int p2)] 3 = mkF mM 0 #[.val (.ref a1), .val (.int p2), .unset] [] := by first | (simp [entryFrame, mkF, argsToLocals, Value.category]; done) | rfl
  rw [ef]
  have R0' := R0
  obtain ⟨Fw, Ft, Fl, Aw, f, c0, At, hf1⟩ := R0
  show Goes pP eE bB _ (s₁.setTop (mkF mM 0 #[.val (.ref a1), .val (.int p2), .unset] []))
  refine Goes.step (fun _ kK => XS.aloadN X0.here hx rfl (hb hby own_d12_0) rfl rfl kK) ?_
  show Goes pP eE bB _ (s₁.setTop (mkF mM 1 #[.val (.ref a1), .val (.int p2), .unset] [(.ref a1)]))
  obtain ⟨T_1, X_1, e_1, st_1⟩ := getF X0 hx hZ hown (host := "") (Or.inl (hw _ (List.mem_of_getElem? (i := 63) rfl))) Via.refl e0 Fl (g := (mkF mM 1 #[.val (.ref a1), .val (.int p2), .unset] [(.ref a1)])) rfl rfl (hb hby own_d12_1)
  refine Goes.step st_1 ?_
  show Goes pP eE bB _ (T_1.setTop (mkF mM 4 #[.val (.ref a1), .val (.int p2), .unset] [(.int (1 : Int32))]))
  refine Goes.step (fun _ kK => XS.istoreN X_1.here hx rfl (hb hby own_d12_4) rfl (l' := #[.val (.ref a1), .val (.int p2), .val (.int (1 : Int32))]) rfl kK) ?_
  show Goes pP eE bB _ (T_1.setTop (mkF mM 5 #[.val (.ref a1), .val (.int p2), .val (.int (1 : Int32))] []))
  refine Goes.step (fun _ kK => XS.iloadN X_1.here hx rfl (hb hby own_d12_5) rfl kK) ?_
  show Goes pP eE bB _ (T_1.setTop (mkF mM 6 #[.val (.ref a1), .val (.int p2), .val (.int (1 : Int32))] [(.int (1 : Int32))]))
  refine Goes.step (fun _ kK => XS.bipush X_1.here hx rfl (hb hby own_d12_6) kK) ?_
  show Goes pP eE bB _ (T_1.setTop (mkF mM 8 #[.val (.ref a1), .val (.int p2), .val (.int (1 : Int32))] [(.int (64 : Int32)), (.int (1 : Int32))]))
  refine Goes.step (fun _ kK => Jvm.RoadKit.iremM X_1 hx rfl (hb hby own_d12_8) rfl (by decide) kK) ?_
  show Goes pP eE bB _ (T_1.setTop (mkF mM 9 #[.val (.ref a1), .val (.int p2), .val (.int (1 : Int32))] [(.int ((1 : Int32) % (64 : Int32)))]))
  refine Goes.step (fun _ kK => XS.ifYes X_1.here hx rfl (pc0 := 9) (pc' := 20) rfl (hb hby own_d12_9) rfl ((if0 _ _).trans (feq (by decide)).2) (by decide) (by decide) kK) ?_
  show Goes pP eE bB _ (T_1.setTop (mkF mM 20 #[.val (.ref a1), .val (.int p2), .val (.int (1 : Int32))] []))
  refine Goes.step (fun _ kK => XS.aloadN X_1.here hx rfl (hb hby own_d12_20) rfl rfl kK) ?_
  show Goes pP eE bB _ (T_1.setTop (mkF mM 21 #[.val (.ref a1), .val (.int p2), .val (.int (1 : Int32))] [(.ref a1)]))
  refine Goes.step (fun _ kK => XS.dup X_1.here hx rfl (hb hby own_d12_21) rfl rfl kK) ?_
  show Goes pP eE bB _ (T_1.setTop (mkF mM 22 #[.val (.ref a1), .val (.int p2), .val (.int (1 : Int32))] [(.ref a1), (.ref a1)]))
  obtain ⟨T_2, X_2, e_2, st_2⟩ := getF X_1 hx hZ hown (host := "") (Or.inl (hw _ (List.mem_of_getElem? (i := 63) rfl))) Via.refl e_1 Fl (g := (mkF mM 22 #[.val (.ref a1), .val (.int p2), .val (.int (1 : Int32))] [(.ref a1), (.ref a1)])) rfl rfl (hb hby own_d12_22)
  refine Goes.step st_2 ?_
  show Goes pP eE bB _ (T_2.setTop (mkF mM 25 #[.val (.ref a1), .val (.int p2), .val (.int (1 : Int32))] [(.int (1 : Int32)), (.ref a1)]))
  refine Goes.step (fun _ kK => XS.iconst X_2.here hx rfl (hb hby own_d12_25) kK) ?_
  show Goes pP eE bB _ (T_2.setTop (mkF mM 26 #[.val (.ref a1), .val (.int p2), .val (.int (1 : Int32))] [(.int (1 : Int32)), (.int (1 : Int32)), (.ref a1)]))
  refine Goes.step (fun _ kK => XS.iadd X_2.here hx rfl (hb hby own_d12_26) rfl kK) ?_
  show Goes pP eE bB _ (T_2.setTop (mkF mM 27 #[.val (.ref a1), .val (.int p2), .val (.int (1 : Int32))] [(.int ((1 : Int32) + (1 : Int32))), (.ref a1)]))
  obtain ⟨T_3, h_3, X_3, e_3, W_3, st_3⟩ := putF X_2 hx hZ hown (host := "") (Or.inl (hw _ (List.mem_of_getElem? (i := 63) rfl))) Via.refl e_2 Fl E1 (Or.inl (hw _ (List.mem_of_getElem? (i := 64) rfl))) (hw _ (List.mem_of_getElem? (i := 1) rfl)) (ty := .int) (by decide) rfl rfl (g := (mkF mM 27 #[.val (.ref a1), .val (.int p2), .val (.int (1 : Int32))] [(.int ((1 : Int32) + (1 : Int32))), (.ref a1)])) rfl rfl (hb hby own_d12_27)
  have u_4 := Fl.same W_3
  have N_3 := Fr.snoc X_3 N0 g1
  refine Goes.step st_3 ?_
  show Goes pP eE bB _ (T_3.setTop (mkF mM 30 #[.val (.ref a1), .val (.int p2), .val (.int (1 : Int32))] []))
  refine Goes.step (fun _ kK => XS.iloadN X_3.here hx rfl (hb hby own_d12_30) rfl kK) ?_
  show Goes pP eE bB _ (T_3.setTop (mkF mM 31 #[.val (.ref a1), .val (.int p2), .val (.int (1 : Int32))] [(.int p2)]))
  by_cases hc_5 : p2 = (0 : Int32)
  · refine Goes.step (fun _ kK => XS.ifYes X_3.here hx rfl (pc0 := 31) (pc' := 40) rfl (hb hby own_d12_31) rfl ((if0 _ _).trans (teq hc_5).1) (by decide) (by decide) kK) ?_
    show Goes pP eE bB _ (T_3.setTop (mkF mM 40 #[.val (.ref a1), .val (.int p2), .val (.int (1 : Int32))] []))
    refine Goes.ret0 X_3 hx hlk hret (hb hby own_d12_40) (by decide) (by decide) ?_
    have hW : (if p2 = (0 : Int32) then W else own_mk W (1 : Int32) (1 : Int32)) = W := if_pos hc_5
    have u_6 := (Keep.refl h0 [a1, w, t]).wr W_3 (Or.inl (List.mem_of_getElem? (i := 0) rfl))
    have u_7 := Fw.other W_3 (Or.inr (slot_ne (Or.inl (hw _ (List.mem_of_getElem? (i := 59) rfl))) (Or.inl (hw _ (List.mem_of_getElem? (i := 64) rfl))) (by decide) (t := (.array .long)) (t' := .int) (by decide) (by decide)))
    have u_8 := Ft.other W_3 (Or.inr (slot_ne (Or.inl (hw _ (List.mem_of_getElem? (i := 62) rfl))) (Or.inl (hw _ (List.mem_of_getElem? (i := 64) rfl))) (by decide) (t := (.array .int)) (t' := .int) (by decide) (by decide)))
    have u_9 := Aw.other W_3 (Ne.symm d1w)
    have u_10 := At.other W_3 (Ne.symm d1t)
    exact ⟨rfl, N_3, by rw [e_3]; exact u_6, by rw [e_3]; exact u_7, by rw [e_3]; exact u_8, by rw [e_3, show (2 : Int32) = (1 : Int32) + (1 : Int32) from by decide]; exact u_4, by rw [e_3, hW]; exact u_9, _, _, by rw [e_3]; exact u_10, hf1⟩
  · refine Goes.step (fun _ kK => XS.ifNo X_3.here hx rfl (hb hby own_d12_31) rfl ((if0 _ _).trans (feq hc_5).1) kK) ?_
    show Goes pP eE bB _ (T_3.setTop (mkF mM 34 #[.val (.ref a1), .val (.int p2), .val (.int (1 : Int32))] []))
    refine Goes.step (fun _ kK => XS.aloadN X_3.here hx rfl (hb hby own_d12_34) rfl rfl kK) ?_
    show Goes pP eE bB _ (T_3.setTop (mkF mM 35 #[.val (.ref a1), .val (.int p2), .val (.int (1 : Int32))] [(.ref a1)]))
    refine Goes.step (fun _ kK => XS.iloadN X_3.here hx rfl (hb hby own_d12_35) rfl kK) ?_
    show Goes pP eE bB _ (T_3.setTop (mkF mM 36 #[.val (.ref a1), .val (.int p2), .val (.int (1 : Int32))] [(.int (1 : Int32)), (.ref a1)]))
    refine Goes.step (fun _ kK => XS.iconst X_3.here hx rfl (hb hby own_d12_36) kK) ?_
    show Goes pP eE bB _ (T_3.setTop (mkF mM 37 #[.val (.ref a1), .val (.int p2), .val (.int (1 : Int32))] [(.int (1 : Int32)), (.int (1 : Int32)), (.ref a1)]))
    have u_11 := Fw.other W_3 (Or.inr (slot_ne (Or.inl (hw _ (List.mem_of_getElem? (i := 59) rfl))) (Or.inl (hw _ (List.mem_of_getElem? (i := 64) rfl))) (by decide) (t := (.array .long)) (t' := .int) (by decide) (by decide)))
    have u_12 := Ft.other W_3 (Or.inr (slot_ne (Or.inl (hw _ (List.mem_of_getElem? (i := 62) rfl))) (Or.inl (hw _ (List.mem_of_getElem? (i := 64) rfl))) (by decide) (t := (.array .int)) (t' := .int) (by decide) (by decide)))
    have u_13 := Aw.other W_3 (Ne.symm d1w)
    have u_14 := At.other W_3 (Ne.symm d1t)
    have u_15 : own_Row Z h_3 a1 w t W ((1 : Int32) + (1 : Int32)) := ⟨u_11, u_12, u_4, u_13, _, _, u_14, hf1⟩
    have u_16 := Nat.le_trans Z0 (Keep.of_wr W_3).1
    have u_17 := E1.wr W_3
    refine Goes.callV X_3 hx hZ hown (hw _ (List.mem_of_getElem? (i := 94) rfl)) (hw _ (List.mem_of_getElem? (i := 84) rfl)) (notFace_of_selects (args := #[]) (mvT hZ (hw _ (List.mem_of_getElem? (i := 86) rfl)))) (hw _ (List.mem_of_getElem? (i := 86) rfl)) (hw _ (List.mem_of_getElem? (i := 85) rfl)) (hw _ (List.mem_of_getElem? (i := 87) rfl)) (hw _ (List.mem_of_getElem? (i := 2) rfl)) (by decide) e_3 u_17 (rmK l Z a0 hw a1 w t (1 : Int32) (1 : Int32) W ((1 : Int32) + (1 : Int32)) h_3 n0 u_16 u_15 u_17 g1 gw gt d1w d1t dwt (by decide) (by decide)) (W := 0) (by decide) (by decide) (by decide) (by decide) (g := (mkF mM 37 #[.val (.ref a1), .val (.int p2), .val (.int (1 : Int32))] [(.int (1 : Int32)), (.int (1 : Int32)), (.ref a1)])) rfl (by rw [hml]; rfl) (rest := []) own_pd8 rfl rfl (by show 2 * 0 + _ ≤ _; exact Nat.le_of_eq rfl) (hb hby own_d12_37) ?_
    intro v_18 T_18 L_18 X_18 hQ_18
    generalize e_18 : T_18.heap = h_18 at hQ_18
    obtain ⟨rfl, N_18q, K_18, R_18⟩ := hQ_18
    have N_18 := Fr.app N_3 N_18q
    obtain ⟨Fw_18, Ft_18, Fl_18, Aw_18, f_18, c_18, At_18, hf_18⟩ := R_18
    show Goes pP eE bB _ (T_18.setTop (mkF mM 40 #[.val (.ref a1), .val (.int p2), .val (.int (1 : Int32))] []))
    refine Goes.ret0 X_18 hx hlk hret (hb hby own_d12_40) (by decide) (by decide) ?_
    have hW : (if p2 = (0 : Int32) then W else own_mk W (1 : Int32) (1 : Int32)) = own_mk W (1 : Int32) (1 : Int32) := if_neg hc_5
    have u_19 := (Keep.refl h0 [a1, w, t]).wr W_3 (Or.inl (List.mem_of_getElem? (i := 0) rfl))
    have u_20 := u_19.trans K_18 (allS (Or.inl (List.mem_of_getElem? (i := 1) rfl)) (allS (Or.inl (List.mem_of_getElem? (i := 2) rfl)) all0))
    exact ⟨rfl, N_18, by rw [e_18]; exact u_20, by rw [e_18]; exact Fw_18, by rw [e_18]; exact Ft_18, by rw [e_18, show (2 : Int32) = (1 : Int32) + (1 : Int32) from by decide]; exact Fl_18, by rw [e_18, hW]; exact Aw_18, _, _, by rw [e_18]; exact At_18, hf_18⟩
set_option maxRecDepth 65536 in
set_option maxHeartbeats 40000000 in
theorem rmA2 (l : Launch) (Z : State) (a0 : Array Value) (hw : ∀ d ∈ tables_1, d.before a0 Z = true) (a1 w t : Addr) (p2 : Int32) (W : Int64) (h0 : Heap) (n0 : Nat) (Z0 : n0 ≤ h0.size) (R0 : own_Row Z h0 a1 w t W (2 : Int32)) (E1 : Exa Z h0 a1 "com/example/orderly_seats/orderlyseats/model/MarkedRow") (g1 : n0 ≤ a1) (gw : n0 ≤ w) (gt : n0 ≤ t) (d1w : a1 ≠ w) (d1t : a1 ≠ t) (dwt : w ≠ t) :
    Con l Z (⟨"com/example/orderly_seats/orderlyseats/model/MarkedRow", "add", "(Z)V"⟩ : MethodName) prog_26_method_6_code 3 none ({ frames := 2, cells := 0, slots := 0, locals := 30 } : Room) #[(.ref a1), (.int p2)] h0 (fun v h L => v = none ∧ Fr n0 L ∧ Keep h0 h [a1, w, t] ∧ own_Row Z h a1 w t (if p2 = (0 : Int32) then W else own_mk W (2 : Int32) (1 : Int32)) (3 : Int32)) := by
  refine Con.body (plainFor_of_name own_pn1) ?_
  intro pP eE sS mM bB mT cC s₁ hx hby hml hZ hown hnm hret hlk X0 e0
  have hown : sS.vm.findClass "com/example/orderly_seats/orderlyseats/model/MarkedRow" = some mM.cls := hown
  have hml : cC.maxLocals = 3 := hml
  have N0 := Fr.nil n0
  have ef : entryFrame mM #[(.ref a1), (.int p2)] 3 = mkF mM 0 #[.val (.ref a1), .val (.int p2), .unset] [] := by first | (simp [entryFrame, mkF, argsToLocals, Value.category]; done) | rfl
  rw [ef]
  have R0' := R0
  obtain ⟨Fw, Ft, Fl, Aw, f, c0, At, hf1⟩ := R0
  show Goes pP eE bB _ (s₁.setTop (mkF mM 0 #[.val (.ref a1), .val (.int p2), .unset] []))
  refine Goes.step (fun _ kK => XS.aloadN X0.here hx rfl (hb hby own_d12_0) rfl rfl kK) ?_
  show Goes pP eE bB _ (s₁.setTop (mkF mM 1 #[.val (.ref a1), .val (.int p2), .unset] [(.ref a1)]))
  obtain ⟨T_1, X_1, e_1, st_1⟩ := getF X0 hx hZ hown (host := "") (Or.inl (hw _ (List.mem_of_getElem? (i := 63) rfl))) Via.refl e0 Fl (g := (mkF mM 1 #[.val (.ref a1), .val (.int p2), .unset] [(.ref a1)])) rfl rfl (hb hby own_d12_1)
  refine Goes.step st_1 ?_
  show Goes pP eE bB _ (T_1.setTop (mkF mM 4 #[.val (.ref a1), .val (.int p2), .unset] [(.int (2 : Int32))]))
  refine Goes.step (fun _ kK => XS.istoreN X_1.here hx rfl (hb hby own_d12_4) rfl (l' := #[.val (.ref a1), .val (.int p2), .val (.int (2 : Int32))]) rfl kK) ?_
  show Goes pP eE bB _ (T_1.setTop (mkF mM 5 #[.val (.ref a1), .val (.int p2), .val (.int (2 : Int32))] []))
  refine Goes.step (fun _ kK => XS.iloadN X_1.here hx rfl (hb hby own_d12_5) rfl kK) ?_
  show Goes pP eE bB _ (T_1.setTop (mkF mM 6 #[.val (.ref a1), .val (.int p2), .val (.int (2 : Int32))] [(.int (2 : Int32))]))
  refine Goes.step (fun _ kK => XS.bipush X_1.here hx rfl (hb hby own_d12_6) kK) ?_
  show Goes pP eE bB _ (T_1.setTop (mkF mM 8 #[.val (.ref a1), .val (.int p2), .val (.int (2 : Int32))] [(.int (64 : Int32)), (.int (2 : Int32))]))
  refine Goes.step (fun _ kK => Jvm.RoadKit.iremM X_1 hx rfl (hb hby own_d12_8) rfl (by decide) kK) ?_
  show Goes pP eE bB _ (T_1.setTop (mkF mM 9 #[.val (.ref a1), .val (.int p2), .val (.int (2 : Int32))] [(.int ((2 : Int32) % (64 : Int32)))]))
  refine Goes.step (fun _ kK => XS.ifYes X_1.here hx rfl (pc0 := 9) (pc' := 20) rfl (hb hby own_d12_9) rfl ((if0 _ _).trans (feq (by decide)).2) (by decide) (by decide) kK) ?_
  show Goes pP eE bB _ (T_1.setTop (mkF mM 20 #[.val (.ref a1), .val (.int p2), .val (.int (2 : Int32))] []))
  refine Goes.step (fun _ kK => XS.aloadN X_1.here hx rfl (hb hby own_d12_20) rfl rfl kK) ?_
  show Goes pP eE bB _ (T_1.setTop (mkF mM 21 #[.val (.ref a1), .val (.int p2), .val (.int (2 : Int32))] [(.ref a1)]))
  refine Goes.step (fun _ kK => XS.dup X_1.here hx rfl (hb hby own_d12_21) rfl rfl kK) ?_
  show Goes pP eE bB _ (T_1.setTop (mkF mM 22 #[.val (.ref a1), .val (.int p2), .val (.int (2 : Int32))] [(.ref a1), (.ref a1)]))
  obtain ⟨T_2, X_2, e_2, st_2⟩ := getF X_1 hx hZ hown (host := "") (Or.inl (hw _ (List.mem_of_getElem? (i := 63) rfl))) Via.refl e_1 Fl (g := (mkF mM 22 #[.val (.ref a1), .val (.int p2), .val (.int (2 : Int32))] [(.ref a1), (.ref a1)])) rfl rfl (hb hby own_d12_22)
  refine Goes.step st_2 ?_
  show Goes pP eE bB _ (T_2.setTop (mkF mM 25 #[.val (.ref a1), .val (.int p2), .val (.int (2 : Int32))] [(.int (2 : Int32)), (.ref a1)]))
  refine Goes.step (fun _ kK => XS.iconst X_2.here hx rfl (hb hby own_d12_25) kK) ?_
  show Goes pP eE bB _ (T_2.setTop (mkF mM 26 #[.val (.ref a1), .val (.int p2), .val (.int (2 : Int32))] [(.int (1 : Int32)), (.int (2 : Int32)), (.ref a1)]))
  refine Goes.step (fun _ kK => XS.iadd X_2.here hx rfl (hb hby own_d12_26) rfl kK) ?_
  show Goes pP eE bB _ (T_2.setTop (mkF mM 27 #[.val (.ref a1), .val (.int p2), .val (.int (2 : Int32))] [(.int ((2 : Int32) + (1 : Int32))), (.ref a1)]))
  obtain ⟨T_3, h_3, X_3, e_3, W_3, st_3⟩ := putF X_2 hx hZ hown (host := "") (Or.inl (hw _ (List.mem_of_getElem? (i := 63) rfl))) Via.refl e_2 Fl E1 (Or.inl (hw _ (List.mem_of_getElem? (i := 64) rfl))) (hw _ (List.mem_of_getElem? (i := 1) rfl)) (ty := .int) (by decide) rfl rfl (g := (mkF mM 27 #[.val (.ref a1), .val (.int p2), .val (.int (2 : Int32))] [(.int ((2 : Int32) + (1 : Int32))), (.ref a1)])) rfl rfl (hb hby own_d12_27)
  have u_4 := Fl.same W_3
  have N_3 := Fr.snoc X_3 N0 g1
  refine Goes.step st_3 ?_
  show Goes pP eE bB _ (T_3.setTop (mkF mM 30 #[.val (.ref a1), .val (.int p2), .val (.int (2 : Int32))] []))
  refine Goes.step (fun _ kK => XS.iloadN X_3.here hx rfl (hb hby own_d12_30) rfl kK) ?_
  show Goes pP eE bB _ (T_3.setTop (mkF mM 31 #[.val (.ref a1), .val (.int p2), .val (.int (2 : Int32))] [(.int p2)]))
  by_cases hc_5 : p2 = (0 : Int32)
  · refine Goes.step (fun _ kK => XS.ifYes X_3.here hx rfl (pc0 := 31) (pc' := 40) rfl (hb hby own_d12_31) rfl ((if0 _ _).trans (teq hc_5).1) (by decide) (by decide) kK) ?_
    show Goes pP eE bB _ (T_3.setTop (mkF mM 40 #[.val (.ref a1), .val (.int p2), .val (.int (2 : Int32))] []))
    refine Goes.ret0 X_3 hx hlk hret (hb hby own_d12_40) (by decide) (by decide) ?_
    have hW : (if p2 = (0 : Int32) then W else own_mk W (2 : Int32) (1 : Int32)) = W := if_pos hc_5
    have u_6 := (Keep.refl h0 [a1, w, t]).wr W_3 (Or.inl (List.mem_of_getElem? (i := 0) rfl))
    have u_7 := Fw.other W_3 (Or.inr (slot_ne (Or.inl (hw _ (List.mem_of_getElem? (i := 59) rfl))) (Or.inl (hw _ (List.mem_of_getElem? (i := 64) rfl))) (by decide) (t := (.array .long)) (t' := .int) (by decide) (by decide)))
    have u_8 := Ft.other W_3 (Or.inr (slot_ne (Or.inl (hw _ (List.mem_of_getElem? (i := 62) rfl))) (Or.inl (hw _ (List.mem_of_getElem? (i := 64) rfl))) (by decide) (t := (.array .int)) (t' := .int) (by decide) (by decide)))
    have u_9 := Aw.other W_3 (Ne.symm d1w)
    have u_10 := At.other W_3 (Ne.symm d1t)
    exact ⟨rfl, N_3, by rw [e_3]; exact u_6, by rw [e_3]; exact u_7, by rw [e_3]; exact u_8, by rw [e_3, show (3 : Int32) = (2 : Int32) + (1 : Int32) from by decide]; exact u_4, by rw [e_3, hW]; exact u_9, _, _, by rw [e_3]; exact u_10, hf1⟩
  · refine Goes.step (fun _ kK => XS.ifNo X_3.here hx rfl (hb hby own_d12_31) rfl ((if0 _ _).trans (feq hc_5).1) kK) ?_
    show Goes pP eE bB _ (T_3.setTop (mkF mM 34 #[.val (.ref a1), .val (.int p2), .val (.int (2 : Int32))] []))
    refine Goes.step (fun _ kK => XS.aloadN X_3.here hx rfl (hb hby own_d12_34) rfl rfl kK) ?_
    show Goes pP eE bB _ (T_3.setTop (mkF mM 35 #[.val (.ref a1), .val (.int p2), .val (.int (2 : Int32))] [(.ref a1)]))
    refine Goes.step (fun _ kK => XS.iloadN X_3.here hx rfl (hb hby own_d12_35) rfl kK) ?_
    show Goes pP eE bB _ (T_3.setTop (mkF mM 36 #[.val (.ref a1), .val (.int p2), .val (.int (2 : Int32))] [(.int (2 : Int32)), (.ref a1)]))
    refine Goes.step (fun _ kK => XS.iconst X_3.here hx rfl (hb hby own_d12_36) kK) ?_
    show Goes pP eE bB _ (T_3.setTop (mkF mM 37 #[.val (.ref a1), .val (.int p2), .val (.int (2 : Int32))] [(.int (1 : Int32)), (.int (2 : Int32)), (.ref a1)]))
    have u_11 := Fw.other W_3 (Or.inr (slot_ne (Or.inl (hw _ (List.mem_of_getElem? (i := 59) rfl))) (Or.inl (hw _ (List.mem_of_getElem? (i := 64) rfl))) (by decide) (t := (.array .long)) (t' := .int) (by decide) (by decide)))
    have u_12 := Ft.other W_3 (Or.inr (slot_ne (Or.inl (hw _ (List.mem_of_getElem? (i := 62) rfl))) (Or.inl (hw _ (List.mem_of_getElem? (i := 64) rfl))) (by decide) (t := (.array .int)) (t' := .int) (by decide) (by decide)))
    have u_13 := Aw.other W_3 (Ne.symm d1w)
    have u_14 := At.other W_3 (Ne.symm d1t)
    have u_15 : own_Row Z h_3 a1 w t W ((2 : Int32) + (1 : Int32)) := ⟨u_11, u_12, u_4, u_13, _, _, u_14, hf1⟩
    have u_16 := Nat.le_trans Z0 (Keep.of_wr W_3).1
    have u_17 := E1.wr W_3
    refine Goes.callV X_3 hx hZ hown (hw _ (List.mem_of_getElem? (i := 94) rfl)) (hw _ (List.mem_of_getElem? (i := 84) rfl)) (notFace_of_selects (args := #[]) (mvT hZ (hw _ (List.mem_of_getElem? (i := 86) rfl)))) (hw _ (List.mem_of_getElem? (i := 86) rfl)) (hw _ (List.mem_of_getElem? (i := 85) rfl)) (hw _ (List.mem_of_getElem? (i := 87) rfl)) (hw _ (List.mem_of_getElem? (i := 2) rfl)) (by decide) e_3 u_17 (rmK l Z a0 hw a1 w t (2 : Int32) (1 : Int32) W ((2 : Int32) + (1 : Int32)) h_3 n0 u_16 u_15 u_17 g1 gw gt d1w d1t dwt (by decide) (by decide)) (W := 0) (by decide) (by decide) (by decide) (by decide) (g := (mkF mM 37 #[.val (.ref a1), .val (.int p2), .val (.int (2 : Int32))] [(.int (1 : Int32)), (.int (2 : Int32)), (.ref a1)])) rfl (by rw [hml]; rfl) (rest := []) own_pd8 rfl rfl (by show 2 * 0 + _ ≤ _; exact Nat.le_of_eq rfl) (hb hby own_d12_37) ?_
    intro v_18 T_18 L_18 X_18 hQ_18
    generalize e_18 : T_18.heap = h_18 at hQ_18
    obtain ⟨rfl, N_18q, K_18, R_18⟩ := hQ_18
    have N_18 := Fr.app N_3 N_18q
    obtain ⟨Fw_18, Ft_18, Fl_18, Aw_18, f_18, c_18, At_18, hf_18⟩ := R_18
    show Goes pP eE bB _ (T_18.setTop (mkF mM 40 #[.val (.ref a1), .val (.int p2), .val (.int (2 : Int32))] []))
    refine Goes.ret0 X_18 hx hlk hret (hb hby own_d12_40) (by decide) (by decide) ?_
    have hW : (if p2 = (0 : Int32) then W else own_mk W (2 : Int32) (1 : Int32)) = own_mk W (2 : Int32) (1 : Int32) := if_neg hc_5
    have u_19 := (Keep.refl h0 [a1, w, t]).wr W_3 (Or.inl (List.mem_of_getElem? (i := 0) rfl))
    have u_20 := u_19.trans K_18 (allS (Or.inl (List.mem_of_getElem? (i := 1) rfl)) (allS (Or.inl (List.mem_of_getElem? (i := 2) rfl)) all0))
    exact ⟨rfl, N_18, by rw [e_18]; exact u_20, by rw [e_18]; exact Fw_18, by rw [e_18]; exact Ft_18, by rw [e_18, show (3 : Int32) = (2 : Int32) + (1 : Int32) from by decide]; exact Fl_18, by rw [e_18, hW]; exact Aw_18, _, _, by rw [e_18]; exact At_18, hf_18⟩
set_option maxRecDepth 65536 in
set_option maxHeartbeats 40000000 in
theorem rmA3 (l : Launch) (Z : State) (a0 : Array Value) (hw : ∀ d ∈ tables_1, d.before a0 Z = true) (a1 w t : Addr) (p2 : Int32) (W : Int64) (h0 : Heap) (n0 : Nat) (Z0 : n0 ≤ h0.size) (R0 : own_Row Z h0 a1 w t W (3 : Int32)) (E1 : Exa Z h0 a1 "com/example/orderly_seats/orderlyseats/model/MarkedRow") (g1 : n0 ≤ a1) (gw : n0 ≤ w) (gt : n0 ≤ t) (d1w : a1 ≠ w) (d1t : a1 ≠ t) (dwt : w ≠ t) :
    Con l Z (⟨"com/example/orderly_seats/orderlyseats/model/MarkedRow", "add", "(Z)V"⟩ : MethodName) prog_26_method_6_code 3 none ({ frames := 2, cells := 0, slots := 0, locals := 30 } : Room) #[(.ref a1), (.int p2)] h0 (fun v h L => v = none ∧ Fr n0 L ∧ Keep h0 h [a1, w, t] ∧ own_Row Z h a1 w t (if p2 = (0 : Int32) then W else own_mk W (3 : Int32) (1 : Int32)) (4 : Int32)) := by
  refine Con.body (plainFor_of_name own_pn1) ?_
  intro pP eE sS mM bB mT cC s₁ hx hby hml hZ hown hnm hret hlk X0 e0
  have hown : sS.vm.findClass "com/example/orderly_seats/orderlyseats/model/MarkedRow" = some mM.cls := hown
  have hml : cC.maxLocals = 3 := hml
  have N0 := Fr.nil n0
  have ef : entryFrame mM #[(.ref a1), (.int p2)] 3 = mkF mM 0 #[.val (.ref a1), .val (.int p2), .unset] [] := by first | (simp [entryFrame, mkF, argsToLocals, Value.category]; done) | rfl
  rw [ef]
  have R0' := R0
  obtain ⟨Fw, Ft, Fl, Aw, f, c0, At, hf1⟩ := R0
  show Goes pP eE bB _ (s₁.setTop (mkF mM 0 #[.val (.ref a1), .val (.int p2), .unset] []))
  refine Goes.step (fun _ kK => XS.aloadN X0.here hx rfl (hb hby own_d12_0) rfl rfl kK) ?_
  show Goes pP eE bB _ (s₁.setTop (mkF mM 1 #[.val (.ref a1), .val (.int p2), .unset] [(.ref a1)]))
  obtain ⟨T_1, X_1, e_1, st_1⟩ := getF X0 hx hZ hown (host := "") (Or.inl (hw _ (List.mem_of_getElem? (i := 63) rfl))) Via.refl e0 Fl (g := (mkF mM 1 #[.val (.ref a1), .val (.int p2), .unset] [(.ref a1)])) rfl rfl (hb hby own_d12_1)
  refine Goes.step st_1 ?_
  show Goes pP eE bB _ (T_1.setTop (mkF mM 4 #[.val (.ref a1), .val (.int p2), .unset] [(.int (3 : Int32))]))
  refine Goes.step (fun _ kK => XS.istoreN X_1.here hx rfl (hb hby own_d12_4) rfl (l' := #[.val (.ref a1), .val (.int p2), .val (.int (3 : Int32))]) rfl kK) ?_
  show Goes pP eE bB _ (T_1.setTop (mkF mM 5 #[.val (.ref a1), .val (.int p2), .val (.int (3 : Int32))] []))
  refine Goes.step (fun _ kK => XS.iloadN X_1.here hx rfl (hb hby own_d12_5) rfl kK) ?_
  show Goes pP eE bB _ (T_1.setTop (mkF mM 6 #[.val (.ref a1), .val (.int p2), .val (.int (3 : Int32))] [(.int (3 : Int32))]))
  refine Goes.step (fun _ kK => XS.bipush X_1.here hx rfl (hb hby own_d12_6) kK) ?_
  show Goes pP eE bB _ (T_1.setTop (mkF mM 8 #[.val (.ref a1), .val (.int p2), .val (.int (3 : Int32))] [(.int (64 : Int32)), (.int (3 : Int32))]))
  refine Goes.step (fun _ kK => Jvm.RoadKit.iremM X_1 hx rfl (hb hby own_d12_8) rfl (by decide) kK) ?_
  show Goes pP eE bB _ (T_1.setTop (mkF mM 9 #[.val (.ref a1), .val (.int p2), .val (.int (3 : Int32))] [(.int ((3 : Int32) % (64 : Int32)))]))
  refine Goes.step (fun _ kK => XS.ifYes X_1.here hx rfl (pc0 := 9) (pc' := 20) rfl (hb hby own_d12_9) rfl ((if0 _ _).trans (feq (by decide)).2) (by decide) (by decide) kK) ?_
  show Goes pP eE bB _ (T_1.setTop (mkF mM 20 #[.val (.ref a1), .val (.int p2), .val (.int (3 : Int32))] []))
  refine Goes.step (fun _ kK => XS.aloadN X_1.here hx rfl (hb hby own_d12_20) rfl rfl kK) ?_
  show Goes pP eE bB _ (T_1.setTop (mkF mM 21 #[.val (.ref a1), .val (.int p2), .val (.int (3 : Int32))] [(.ref a1)]))
  refine Goes.step (fun _ kK => XS.dup X_1.here hx rfl (hb hby own_d12_21) rfl rfl kK) ?_
  show Goes pP eE bB _ (T_1.setTop (mkF mM 22 #[.val (.ref a1), .val (.int p2), .val (.int (3 : Int32))] [(.ref a1), (.ref a1)]))
  obtain ⟨T_2, X_2, e_2, st_2⟩ := getF X_1 hx hZ hown (host := "") (Or.inl (hw _ (List.mem_of_getElem? (i := 63) rfl))) Via.refl e_1 Fl (g := (mkF mM 22 #[.val (.ref a1), .val (.int p2), .val (.int (3 : Int32))] [(.ref a1), (.ref a1)])) rfl rfl (hb hby own_d12_22)
  refine Goes.step st_2 ?_
  show Goes pP eE bB _ (T_2.setTop (mkF mM 25 #[.val (.ref a1), .val (.int p2), .val (.int (3 : Int32))] [(.int (3 : Int32)), (.ref a1)]))
  refine Goes.step (fun _ kK => XS.iconst X_2.here hx rfl (hb hby own_d12_25) kK) ?_
  show Goes pP eE bB _ (T_2.setTop (mkF mM 26 #[.val (.ref a1), .val (.int p2), .val (.int (3 : Int32))] [(.int (1 : Int32)), (.int (3 : Int32)), (.ref a1)]))
  refine Goes.step (fun _ kK => XS.iadd X_2.here hx rfl (hb hby own_d12_26) rfl kK) ?_
  show Goes pP eE bB _ (T_2.setTop (mkF mM 27 #[.val (.ref a1), .val (.int p2), .val (.int (3 : Int32))] [(.int ((3 : Int32) + (1 : Int32))), (.ref a1)]))
  obtain ⟨T_3, h_3, X_3, e_3, W_3, st_3⟩ := putF X_2 hx hZ hown (host := "") (Or.inl (hw _ (List.mem_of_getElem? (i := 63) rfl))) Via.refl e_2 Fl E1 (Or.inl (hw _ (List.mem_of_getElem? (i := 64) rfl))) (hw _ (List.mem_of_getElem? (i := 1) rfl)) (ty := .int) (by decide) rfl rfl (g := (mkF mM 27 #[.val (.ref a1), .val (.int p2), .val (.int (3 : Int32))] [(.int ((3 : Int32) + (1 : Int32))), (.ref a1)])) rfl rfl (hb hby own_d12_27)
  have u_4 := Fl.same W_3
  have N_3 := Fr.snoc X_3 N0 g1
  refine Goes.step st_3 ?_
  show Goes pP eE bB _ (T_3.setTop (mkF mM 30 #[.val (.ref a1), .val (.int p2), .val (.int (3 : Int32))] []))
  refine Goes.step (fun _ kK => XS.iloadN X_3.here hx rfl (hb hby own_d12_30) rfl kK) ?_
  show Goes pP eE bB _ (T_3.setTop (mkF mM 31 #[.val (.ref a1), .val (.int p2), .val (.int (3 : Int32))] [(.int p2)]))
  by_cases hc_5 : p2 = (0 : Int32)
  · refine Goes.step (fun _ kK => XS.ifYes X_3.here hx rfl (pc0 := 31) (pc' := 40) rfl (hb hby own_d12_31) rfl ((if0 _ _).trans (teq hc_5).1) (by decide) (by decide) kK) ?_
    show Goes pP eE bB _ (T_3.setTop (mkF mM 40 #[.val (.ref a1), .val (.int p2), .val (.int (3 : Int32))] []))
    refine Goes.ret0 X_3 hx hlk hret (hb hby own_d12_40) (by decide) (by decide) ?_
    have hW : (if p2 = (0 : Int32) then W else own_mk W (3 : Int32) (1 : Int32)) = W := if_pos hc_5
    have u_6 := (Keep.refl h0 [a1, w, t]).wr W_3 (Or.inl (List.mem_of_getElem? (i := 0) rfl))
    have u_7 := Fw.other W_3 (Or.inr (slot_ne (Or.inl (hw _ (List.mem_of_getElem? (i := 59) rfl))) (Or.inl (hw _ (List.mem_of_getElem? (i := 64) rfl))) (by decide) (t := (.array .long)) (t' := .int) (by decide) (by decide)))
    have u_8 := Ft.other W_3 (Or.inr (slot_ne (Or.inl (hw _ (List.mem_of_getElem? (i := 62) rfl))) (Or.inl (hw _ (List.mem_of_getElem? (i := 64) rfl))) (by decide) (t := (.array .int)) (t' := .int) (by decide) (by decide)))
    have u_9 := Aw.other W_3 (Ne.symm d1w)
    have u_10 := At.other W_3 (Ne.symm d1t)
    exact ⟨rfl, N_3, by rw [e_3]; exact u_6, by rw [e_3]; exact u_7, by rw [e_3]; exact u_8, by rw [e_3, show (4 : Int32) = (3 : Int32) + (1 : Int32) from by decide]; exact u_4, by rw [e_3, hW]; exact u_9, _, _, by rw [e_3]; exact u_10, hf1⟩
  · refine Goes.step (fun _ kK => XS.ifNo X_3.here hx rfl (hb hby own_d12_31) rfl ((if0 _ _).trans (feq hc_5).1) kK) ?_
    show Goes pP eE bB _ (T_3.setTop (mkF mM 34 #[.val (.ref a1), .val (.int p2), .val (.int (3 : Int32))] []))
    refine Goes.step (fun _ kK => XS.aloadN X_3.here hx rfl (hb hby own_d12_34) rfl rfl kK) ?_
    show Goes pP eE bB _ (T_3.setTop (mkF mM 35 #[.val (.ref a1), .val (.int p2), .val (.int (3 : Int32))] [(.ref a1)]))
    refine Goes.step (fun _ kK => XS.iloadN X_3.here hx rfl (hb hby own_d12_35) rfl kK) ?_
    show Goes pP eE bB _ (T_3.setTop (mkF mM 36 #[.val (.ref a1), .val (.int p2), .val (.int (3 : Int32))] [(.int (3 : Int32)), (.ref a1)]))
    refine Goes.step (fun _ kK => XS.iconst X_3.here hx rfl (hb hby own_d12_36) kK) ?_
    show Goes pP eE bB _ (T_3.setTop (mkF mM 37 #[.val (.ref a1), .val (.int p2), .val (.int (3 : Int32))] [(.int (1 : Int32)), (.int (3 : Int32)), (.ref a1)]))
    have u_11 := Fw.other W_3 (Or.inr (slot_ne (Or.inl (hw _ (List.mem_of_getElem? (i := 59) rfl))) (Or.inl (hw _ (List.mem_of_getElem? (i := 64) rfl))) (by decide) (t := (.array .long)) (t' := .int) (by decide) (by decide)))
    have u_12 := Ft.other W_3 (Or.inr (slot_ne (Or.inl (hw _ (List.mem_of_getElem? (i := 62) rfl))) (Or.inl (hw _ (List.mem_of_getElem? (i := 64) rfl))) (by decide) (t := (.array .int)) (t' := .int) (by decide) (by decide)))
    have u_13 := Aw.other W_3 (Ne.symm d1w)
    have u_14 := At.other W_3 (Ne.symm d1t)
    have u_15 : own_Row Z h_3 a1 w t W ((3 : Int32) + (1 : Int32)) := ⟨u_11, u_12, u_4, u_13, _, _, u_14, hf1⟩
    have u_16 := Nat.le_trans Z0 (Keep.of_wr W_3).1
    have u_17 := E1.wr W_3
    refine Goes.callV X_3 hx hZ hown (hw _ (List.mem_of_getElem? (i := 94) rfl)) (hw _ (List.mem_of_getElem? (i := 84) rfl)) (notFace_of_selects (args := #[]) (mvT hZ (hw _ (List.mem_of_getElem? (i := 86) rfl)))) (hw _ (List.mem_of_getElem? (i := 86) rfl)) (hw _ (List.mem_of_getElem? (i := 85) rfl)) (hw _ (List.mem_of_getElem? (i := 87) rfl)) (hw _ (List.mem_of_getElem? (i := 2) rfl)) (by decide) e_3 u_17 (rmK l Z a0 hw a1 w t (3 : Int32) (1 : Int32) W ((3 : Int32) + (1 : Int32)) h_3 n0 u_16 u_15 u_17 g1 gw gt d1w d1t dwt (by decide) (by decide)) (W := 0) (by decide) (by decide) (by decide) (by decide) (g := (mkF mM 37 #[.val (.ref a1), .val (.int p2), .val (.int (3 : Int32))] [(.int (1 : Int32)), (.int (3 : Int32)), (.ref a1)])) rfl (by rw [hml]; rfl) (rest := []) own_pd8 rfl rfl (by show 2 * 0 + _ ≤ _; exact Nat.le_of_eq rfl) (hb hby own_d12_37) ?_
    intro v_18 T_18 L_18 X_18 hQ_18
    generalize e_18 : T_18.heap = h_18 at hQ_18
    obtain ⟨rfl, N_18q, K_18, R_18⟩ := hQ_18
    have N_18 := Fr.app N_3 N_18q
    obtain ⟨Fw_18, Ft_18, Fl_18, Aw_18, f_18, c_18, At_18, hf_18⟩ := R_18
    show Goes pP eE bB _ (T_18.setTop (mkF mM 40 #[.val (.ref a1), .val (.int p2), .val (.int (3 : Int32))] []))
    refine Goes.ret0 X_18 hx hlk hret (hb hby own_d12_40) (by decide) (by decide) ?_
    have hW : (if p2 = (0 : Int32) then W else own_mk W (3 : Int32) (1 : Int32)) = own_mk W (3 : Int32) (1 : Int32) := if_neg hc_5
    have u_19 := (Keep.refl h0 [a1, w, t]).wr W_3 (Or.inl (List.mem_of_getElem? (i := 0) rfl))
    have u_20 := u_19.trans K_18 (allS (Or.inl (List.mem_of_getElem? (i := 1) rfl)) (allS (Or.inl (List.mem_of_getElem? (i := 2) rfl)) all0))
    exact ⟨rfl, N_18, by rw [e_18]; exact u_20, by rw [e_18]; exact Fw_18, by rw [e_18]; exact Ft_18, by rw [e_18, show (4 : Int32) = (3 : Int32) + (1 : Int32) from by decide]; exact Fl_18, by rw [e_18, hW]; exact Aw_18, _, _, by rw [e_18]; exact At_18, hf_18⟩
set_option maxRecDepth 65536 in
set_option maxHeartbeats 40000000 in
theorem rmA4 (l : Launch) (Z : State) (a0 : Array Value) (hw : ∀ d ∈ tables_1, d.before a0 Z = true) (a1 w t : Addr) (p2 : Int32) (W : Int64) (h0 : Heap) (n0 : Nat) (Z0 : n0 ≤ h0.size) (R0 : own_Row Z h0 a1 w t W (4 : Int32)) (E1 : Exa Z h0 a1 "com/example/orderly_seats/orderlyseats/model/MarkedRow") (g1 : n0 ≤ a1) (gw : n0 ≤ w) (gt : n0 ≤ t) (d1w : a1 ≠ w) (d1t : a1 ≠ t) (dwt : w ≠ t) :
    Con l Z (⟨"com/example/orderly_seats/orderlyseats/model/MarkedRow", "add", "(Z)V"⟩ : MethodName) prog_26_method_6_code 3 none ({ frames := 2, cells := 0, slots := 0, locals := 30 } : Room) #[(.ref a1), (.int p2)] h0 (fun v h L => v = none ∧ Fr n0 L ∧ Keep h0 h [a1, w, t] ∧ own_Row Z h a1 w t (if p2 = (0 : Int32) then W else own_mk W (4 : Int32) (1 : Int32)) (5 : Int32)) := by
  refine Con.body (plainFor_of_name own_pn1) ?_
  intro pP eE sS mM bB mT cC s₁ hx hby hml hZ hown hnm hret hlk X0 e0
  have hown : sS.vm.findClass "com/example/orderly_seats/orderlyseats/model/MarkedRow" = some mM.cls := hown
  have hml : cC.maxLocals = 3 := hml
  have N0 := Fr.nil n0
  have ef : entryFrame mM #[(.ref a1), (.int p2)] 3 = mkF mM 0 #[.val (.ref a1), .val (.int p2), .unset] [] := by first | (simp [entryFrame, mkF, argsToLocals, Value.category]; done) | rfl
  rw [ef]
  have R0' := R0
  obtain ⟨Fw, Ft, Fl, Aw, f, c0, At, hf1⟩ := R0
  show Goes pP eE bB _ (s₁.setTop (mkF mM 0 #[.val (.ref a1), .val (.int p2), .unset] []))
  refine Goes.step (fun _ kK => XS.aloadN X0.here hx rfl (hb hby own_d12_0) rfl rfl kK) ?_
  show Goes pP eE bB _ (s₁.setTop (mkF mM 1 #[.val (.ref a1), .val (.int p2), .unset] [(.ref a1)]))
  obtain ⟨T_1, X_1, e_1, st_1⟩ := getF X0 hx hZ hown (host := "") (Or.inl (hw _ (List.mem_of_getElem? (i := 63) rfl))) Via.refl e0 Fl (g := (mkF mM 1 #[.val (.ref a1), .val (.int p2), .unset] [(.ref a1)])) rfl rfl (hb hby own_d12_1)
  refine Goes.step st_1 ?_
  show Goes pP eE bB _ (T_1.setTop (mkF mM 4 #[.val (.ref a1), .val (.int p2), .unset] [(.int (4 : Int32))]))
  refine Goes.step (fun _ kK => XS.istoreN X_1.here hx rfl (hb hby own_d12_4) rfl (l' := #[.val (.ref a1), .val (.int p2), .val (.int (4 : Int32))]) rfl kK) ?_
  show Goes pP eE bB _ (T_1.setTop (mkF mM 5 #[.val (.ref a1), .val (.int p2), .val (.int (4 : Int32))] []))
  refine Goes.step (fun _ kK => XS.iloadN X_1.here hx rfl (hb hby own_d12_5) rfl kK) ?_
  show Goes pP eE bB _ (T_1.setTop (mkF mM 6 #[.val (.ref a1), .val (.int p2), .val (.int (4 : Int32))] [(.int (4 : Int32))]))
  refine Goes.step (fun _ kK => XS.bipush X_1.here hx rfl (hb hby own_d12_6) kK) ?_
  show Goes pP eE bB _ (T_1.setTop (mkF mM 8 #[.val (.ref a1), .val (.int p2), .val (.int (4 : Int32))] [(.int (64 : Int32)), (.int (4 : Int32))]))
  refine Goes.step (fun _ kK => Jvm.RoadKit.iremM X_1 hx rfl (hb hby own_d12_8) rfl (by decide) kK) ?_
  show Goes pP eE bB _ (T_1.setTop (mkF mM 9 #[.val (.ref a1), .val (.int p2), .val (.int (4 : Int32))] [(.int ((4 : Int32) % (64 : Int32)))]))
  refine Goes.step (fun _ kK => XS.ifYes X_1.here hx rfl (pc0 := 9) (pc' := 20) rfl (hb hby own_d12_9) rfl ((if0 _ _).trans (feq (by decide)).2) (by decide) (by decide) kK) ?_
  show Goes pP eE bB _ (T_1.setTop (mkF mM 20 #[.val (.ref a1), .val (.int p2), .val (.int (4 : Int32))] []))
  refine Goes.step (fun _ kK => XS.aloadN X_1.here hx rfl (hb hby own_d12_20) rfl rfl kK) ?_
  show Goes pP eE bB _ (T_1.setTop (mkF mM 21 #[.val (.ref a1), .val (.int p2), .val (.int (4 : Int32))] [(.ref a1)]))
  refine Goes.step (fun _ kK => XS.dup X_1.here hx rfl (hb hby own_d12_21) rfl rfl kK) ?_
  show Goes pP eE bB _ (T_1.setTop (mkF mM 22 #[.val (.ref a1), .val (.int p2), .val (.int (4 : Int32))] [(.ref a1), (.ref a1)]))
  obtain ⟨T_2, X_2, e_2, st_2⟩ := getF X_1 hx hZ hown (host := "") (Or.inl (hw _ (List.mem_of_getElem? (i := 63) rfl))) Via.refl e_1 Fl (g := (mkF mM 22 #[.val (.ref a1), .val (.int p2), .val (.int (4 : Int32))] [(.ref a1), (.ref a1)])) rfl rfl (hb hby own_d12_22)
  refine Goes.step st_2 ?_
  show Goes pP eE bB _ (T_2.setTop (mkF mM 25 #[.val (.ref a1), .val (.int p2), .val (.int (4 : Int32))] [(.int (4 : Int32)), (.ref a1)]))
  refine Goes.step (fun _ kK => XS.iconst X_2.here hx rfl (hb hby own_d12_25) kK) ?_
  show Goes pP eE bB _ (T_2.setTop (mkF mM 26 #[.val (.ref a1), .val (.int p2), .val (.int (4 : Int32))] [(.int (1 : Int32)), (.int (4 : Int32)), (.ref a1)]))
  refine Goes.step (fun _ kK => XS.iadd X_2.here hx rfl (hb hby own_d12_26) rfl kK) ?_
  show Goes pP eE bB _ (T_2.setTop (mkF mM 27 #[.val (.ref a1), .val (.int p2), .val (.int (4 : Int32))] [(.int ((4 : Int32) + (1 : Int32))), (.ref a1)]))
  obtain ⟨T_3, h_3, X_3, e_3, W_3, st_3⟩ := putF X_2 hx hZ hown (host := "") (Or.inl (hw _ (List.mem_of_getElem? (i := 63) rfl))) Via.refl e_2 Fl E1 (Or.inl (hw _ (List.mem_of_getElem? (i := 64) rfl))) (hw _ (List.mem_of_getElem? (i := 1) rfl)) (ty := .int) (by decide) rfl rfl (g := (mkF mM 27 #[.val (.ref a1), .val (.int p2), .val (.int (4 : Int32))] [(.int ((4 : Int32) + (1 : Int32))), (.ref a1)])) rfl rfl (hb hby own_d12_27)
  have u_4 := Fl.same W_3
  have N_3 := Fr.snoc X_3 N0 g1
  refine Goes.step st_3 ?_
  show Goes pP eE bB _ (T_3.setTop (mkF mM 30 #[.val (.ref a1), .val (.int p2), .val (.int (4 : Int32))] []))
  refine Goes.step (fun _ kK => XS.iloadN X_3.here hx rfl (hb hby own_d12_30) rfl kK) ?_
  show Goes pP eE bB _ (T_3.setTop (mkF mM 31 #[.val (.ref a1), .val (.int p2), .val (.int (4 : Int32))] [(.int p2)]))
  by_cases hc_5 : p2 = (0 : Int32)
  · refine Goes.step (fun _ kK => XS.ifYes X_3.here hx rfl (pc0 := 31) (pc' := 40) rfl (hb hby own_d12_31) rfl ((if0 _ _).trans (teq hc_5).1) (by decide) (by decide) kK) ?_
    show Goes pP eE bB _ (T_3.setTop (mkF mM 40 #[.val (.ref a1), .val (.int p2), .val (.int (4 : Int32))] []))
    refine Goes.ret0 X_3 hx hlk hret (hb hby own_d12_40) (by decide) (by decide) ?_
    have hW : (if p2 = (0 : Int32) then W else own_mk W (4 : Int32) (1 : Int32)) = W := if_pos hc_5
    have u_6 := (Keep.refl h0 [a1, w, t]).wr W_3 (Or.inl (List.mem_of_getElem? (i := 0) rfl))
    have u_7 := Fw.other W_3 (Or.inr (slot_ne (Or.inl (hw _ (List.mem_of_getElem? (i := 59) rfl))) (Or.inl (hw _ (List.mem_of_getElem? (i := 64) rfl))) (by decide) (t := (.array .long)) (t' := .int) (by decide) (by decide)))
    have u_8 := Ft.other W_3 (Or.inr (slot_ne (Or.inl (hw _ (List.mem_of_getElem? (i := 62) rfl))) (Or.inl (hw _ (List.mem_of_getElem? (i := 64) rfl))) (by decide) (t := (.array .int)) (t' := .int) (by decide) (by decide)))
    have u_9 := Aw.other W_3 (Ne.symm d1w)
    have u_10 := At.other W_3 (Ne.symm d1t)
    exact ⟨rfl, N_3, by rw [e_3]; exact u_6, by rw [e_3]; exact u_7, by rw [e_3]; exact u_8, by rw [e_3, show (5 : Int32) = (4 : Int32) + (1 : Int32) from by decide]; exact u_4, by rw [e_3, hW]; exact u_9, _, _, by rw [e_3]; exact u_10, hf1⟩
  · refine Goes.step (fun _ kK => XS.ifNo X_3.here hx rfl (hb hby own_d12_31) rfl ((if0 _ _).trans (feq hc_5).1) kK) ?_
    show Goes pP eE bB _ (T_3.setTop (mkF mM 34 #[.val (.ref a1), .val (.int p2), .val (.int (4 : Int32))] []))
    refine Goes.step (fun _ kK => XS.aloadN X_3.here hx rfl (hb hby own_d12_34) rfl rfl kK) ?_
    show Goes pP eE bB _ (T_3.setTop (mkF mM 35 #[.val (.ref a1), .val (.int p2), .val (.int (4 : Int32))] [(.ref a1)]))
    refine Goes.step (fun _ kK => XS.iloadN X_3.here hx rfl (hb hby own_d12_35) rfl kK) ?_
    show Goes pP eE bB _ (T_3.setTop (mkF mM 36 #[.val (.ref a1), .val (.int p2), .val (.int (4 : Int32))] [(.int (4 : Int32)), (.ref a1)]))
    refine Goes.step (fun _ kK => XS.iconst X_3.here hx rfl (hb hby own_d12_36) kK) ?_
    show Goes pP eE bB _ (T_3.setTop (mkF mM 37 #[.val (.ref a1), .val (.int p2), .val (.int (4 : Int32))] [(.int (1 : Int32)), (.int (4 : Int32)), (.ref a1)]))
    have u_11 := Fw.other W_3 (Or.inr (slot_ne (Or.inl (hw _ (List.mem_of_getElem? (i := 59) rfl))) (Or.inl (hw _ (List.mem_of_getElem? (i := 64) rfl))) (by decide) (t := (.array .long)) (t' := .int) (by decide) (by decide)))
    have u_12 := Ft.other W_3 (Or.inr (slot_ne (Or.inl (hw _ (List.mem_of_getElem? (i := 62) rfl))) (Or.inl (hw _ (List.mem_of_getElem? (i := 64) rfl))) (by decide) (t := (.array .int)) (t' := .int) (by decide) (by decide)))
    have u_13 := Aw.other W_3 (Ne.symm d1w)
    have u_14 := At.other W_3 (Ne.symm d1t)
    have u_15 : own_Row Z h_3 a1 w t W ((4 : Int32) + (1 : Int32)) := ⟨u_11, u_12, u_4, u_13, _, _, u_14, hf1⟩
    have u_16 := Nat.le_trans Z0 (Keep.of_wr W_3).1
    have u_17 := E1.wr W_3
    refine Goes.callV X_3 hx hZ hown (hw _ (List.mem_of_getElem? (i := 94) rfl)) (hw _ (List.mem_of_getElem? (i := 84) rfl)) (notFace_of_selects (args := #[]) (mvT hZ (hw _ (List.mem_of_getElem? (i := 86) rfl)))) (hw _ (List.mem_of_getElem? (i := 86) rfl)) (hw _ (List.mem_of_getElem? (i := 85) rfl)) (hw _ (List.mem_of_getElem? (i := 87) rfl)) (hw _ (List.mem_of_getElem? (i := 2) rfl)) (by decide) e_3 u_17 (rmK l Z a0 hw a1 w t (4 : Int32) (1 : Int32) W ((4 : Int32) + (1 : Int32)) h_3 n0 u_16 u_15 u_17 g1 gw gt d1w d1t dwt (by decide) (by decide)) (W := 0) (by decide) (by decide) (by decide) (by decide) (g := (mkF mM 37 #[.val (.ref a1), .val (.int p2), .val (.int (4 : Int32))] [(.int (1 : Int32)), (.int (4 : Int32)), (.ref a1)])) rfl (by rw [hml]; rfl) (rest := []) own_pd8 rfl rfl (by show 2 * 0 + _ ≤ _; exact Nat.le_of_eq rfl) (hb hby own_d12_37) ?_
    intro v_18 T_18 L_18 X_18 hQ_18
    generalize e_18 : T_18.heap = h_18 at hQ_18
    obtain ⟨rfl, N_18q, K_18, R_18⟩ := hQ_18
    have N_18 := Fr.app N_3 N_18q
    obtain ⟨Fw_18, Ft_18, Fl_18, Aw_18, f_18, c_18, At_18, hf_18⟩ := R_18
    show Goes pP eE bB _ (T_18.setTop (mkF mM 40 #[.val (.ref a1), .val (.int p2), .val (.int (4 : Int32))] []))
    refine Goes.ret0 X_18 hx hlk hret (hb hby own_d12_40) (by decide) (by decide) ?_
    have hW : (if p2 = (0 : Int32) then W else own_mk W (4 : Int32) (1 : Int32)) = own_mk W (4 : Int32) (1 : Int32) := if_neg hc_5
    have u_19 := (Keep.refl h0 [a1, w, t]).wr W_3 (Or.inl (List.mem_of_getElem? (i := 0) rfl))
    have u_20 := u_19.trans K_18 (allS (Or.inl (List.mem_of_getElem? (i := 1) rfl)) (allS (Or.inl (List.mem_of_getElem? (i := 2) rfl)) all0))
    exact ⟨rfl, N_18, by rw [e_18]; exact u_20, by rw [e_18]; exact Fw_18, by rw [e_18]; exact Ft_18, by rw [e_18, show (5 : Int32) = (4 : Int32) + (1 : Int32) from by decide]; exact Fl_18, by rw [e_18, hW]; exact Aw_18, _, _, by rw [e_18]; exact At_18, hf_18⟩
set_option maxRecDepth 65536 in
set_option maxHeartbeats 40000000 in
theorem rmA5 (l : Launch) (Z : State) (a0 : Array Value) (hw : ∀ d ∈ tables_1, d.before a0 Z = true) (a1 w t : Addr) (p2 : Int32) (W : Int64) (h0 : Heap) (n0 : Nat) (Z0 : n0 ≤ h0.size) (R0 : own_Row Z h0 a1 w t W (5 : Int32)) (E1 : Exa Z h0 a1 "com/example/orderly_seats/orderlyseats/model/MarkedRow") (g1 : n0 ≤ a1) (gw : n0 ≤ w) (gt : n0 ≤ t) (d1w : a1 ≠ w) (d1t : a1 ≠ t) (dwt : w ≠ t) :
    Con l Z (⟨"com/example/orderly_seats/orderlyseats/model/MarkedRow", "add", "(Z)V"⟩ : MethodName) prog_26_method_6_code 3 none ({ frames := 2, cells := 0, slots := 0, locals := 30 } : Room) #[(.ref a1), (.int p2)] h0 (fun v h L => v = none ∧ Fr n0 L ∧ Keep h0 h [a1, w, t] ∧ own_Row Z h a1 w t (if p2 = (0 : Int32) then W else own_mk W (5 : Int32) (1 : Int32)) (6 : Int32)) := by
  refine Con.body (plainFor_of_name own_pn1) ?_
  intro pP eE sS mM bB mT cC s₁ hx hby hml hZ hown hnm hret hlk X0 e0
  have hown : sS.vm.findClass "com/example/orderly_seats/orderlyseats/model/MarkedRow" = some mM.cls := hown
  have hml : cC.maxLocals = 3 := hml
  have N0 := Fr.nil n0
  have ef : entryFrame mM #[(.ref a1), (.int p2)] 3 = mkF mM 0 #[.val (.ref a1), .val (.int p2), .unset] [] := by first | (simp [entryFrame, mkF, argsToLocals, Value.category]; done) | rfl
  rw [ef]
  have R0' := R0
  obtain ⟨Fw, Ft, Fl, Aw, f, c0, At, hf1⟩ := R0
  show Goes pP eE bB _ (s₁.setTop (mkF mM 0 #[.val (.ref a1), .val (.int p2), .unset] []))
  refine Goes.step (fun _ kK => XS.aloadN X0.here hx rfl (hb hby own_d12_0) rfl rfl kK) ?_
  show Goes pP eE bB _ (s₁.setTop (mkF mM 1 #[.val (.ref a1), .val (.int p2), .unset] [(.ref a1)]))
  obtain ⟨T_1, X_1, e_1, st_1⟩ := getF X0 hx hZ hown (host := "") (Or.inl (hw _ (List.mem_of_getElem? (i := 63) rfl))) Via.refl e0 Fl (g := (mkF mM 1 #[.val (.ref a1), .val (.int p2), .unset] [(.ref a1)])) rfl rfl (hb hby own_d12_1)
  refine Goes.step st_1 ?_
  show Goes pP eE bB _ (T_1.setTop (mkF mM 4 #[.val (.ref a1), .val (.int p2), .unset] [(.int (5 : Int32))]))
  refine Goes.step (fun _ kK => XS.istoreN X_1.here hx rfl (hb hby own_d12_4) rfl (l' := #[.val (.ref a1), .val (.int p2), .val (.int (5 : Int32))]) rfl kK) ?_
  show Goes pP eE bB _ (T_1.setTop (mkF mM 5 #[.val (.ref a1), .val (.int p2), .val (.int (5 : Int32))] []))
  refine Goes.step (fun _ kK => XS.iloadN X_1.here hx rfl (hb hby own_d12_5) rfl kK) ?_
  show Goes pP eE bB _ (T_1.setTop (mkF mM 6 #[.val (.ref a1), .val (.int p2), .val (.int (5 : Int32))] [(.int (5 : Int32))]))
  refine Goes.step (fun _ kK => XS.bipush X_1.here hx rfl (hb hby own_d12_6) kK) ?_
  show Goes pP eE bB _ (T_1.setTop (mkF mM 8 #[.val (.ref a1), .val (.int p2), .val (.int (5 : Int32))] [(.int (64 : Int32)), (.int (5 : Int32))]))
  refine Goes.step (fun _ kK => Jvm.RoadKit.iremM X_1 hx rfl (hb hby own_d12_8) rfl (by decide) kK) ?_
  show Goes pP eE bB _ (T_1.setTop (mkF mM 9 #[.val (.ref a1), .val (.int p2), .val (.int (5 : Int32))] [(.int ((5 : Int32) % (64 : Int32)))]))
  refine Goes.step (fun _ kK => XS.ifYes X_1.here hx rfl (pc0 := 9) (pc' := 20) rfl (hb hby own_d12_9) rfl ((if0 _ _).trans (feq (by decide)).2) (by decide) (by decide) kK) ?_
  show Goes pP eE bB _ (T_1.setTop (mkF mM 20 #[.val (.ref a1), .val (.int p2), .val (.int (5 : Int32))] []))
  refine Goes.step (fun _ kK => XS.aloadN X_1.here hx rfl (hb hby own_d12_20) rfl rfl kK) ?_
  show Goes pP eE bB _ (T_1.setTop (mkF mM 21 #[.val (.ref a1), .val (.int p2), .val (.int (5 : Int32))] [(.ref a1)]))
  refine Goes.step (fun _ kK => XS.dup X_1.here hx rfl (hb hby own_d12_21) rfl rfl kK) ?_
  show Goes pP eE bB _ (T_1.setTop (mkF mM 22 #[.val (.ref a1), .val (.int p2), .val (.int (5 : Int32))] [(.ref a1), (.ref a1)]))
  obtain ⟨T_2, X_2, e_2, st_2⟩ := getF X_1 hx hZ hown (host := "") (Or.inl (hw _ (List.mem_of_getElem? (i := 63) rfl))) Via.refl e_1 Fl (g := (mkF mM 22 #[.val (.ref a1), .val (.int p2), .val (.int (5 : Int32))] [(.ref a1), (.ref a1)])) rfl rfl (hb hby own_d12_22)
  refine Goes.step st_2 ?_
  show Goes pP eE bB _ (T_2.setTop (mkF mM 25 #[.val (.ref a1), .val (.int p2), .val (.int (5 : Int32))] [(.int (5 : Int32)), (.ref a1)]))
  refine Goes.step (fun _ kK => XS.iconst X_2.here hx rfl (hb hby own_d12_25) kK) ?_
  show Goes pP eE bB _ (T_2.setTop (mkF mM 26 #[.val (.ref a1), .val (.int p2), .val (.int (5 : Int32))] [(.int (1 : Int32)), (.int (5 : Int32)), (.ref a1)]))
  refine Goes.step (fun _ kK => XS.iadd X_2.here hx rfl (hb hby own_d12_26) rfl kK) ?_
  show Goes pP eE bB _ (T_2.setTop (mkF mM 27 #[.val (.ref a1), .val (.int p2), .val (.int (5 : Int32))] [(.int ((5 : Int32) + (1 : Int32))), (.ref a1)]))
  obtain ⟨T_3, h_3, X_3, e_3, W_3, st_3⟩ := putF X_2 hx hZ hown (host := "") (Or.inl (hw _ (List.mem_of_getElem? (i := 63) rfl))) Via.refl e_2 Fl E1 (Or.inl (hw _ (List.mem_of_getElem? (i := 64) rfl))) (hw _ (List.mem_of_getElem? (i := 1) rfl)) (ty := .int) (by decide) rfl rfl (g := (mkF mM 27 #[.val (.ref a1), .val (.int p2), .val (.int (5 : Int32))] [(.int ((5 : Int32) + (1 : Int32))), (.ref a1)])) rfl rfl (hb hby own_d12_27)
  have u_4 := Fl.same W_3
  have N_3 := Fr.snoc X_3 N0 g1
  refine Goes.step st_3 ?_
  show Goes pP eE bB _ (T_3.setTop (mkF mM 30 #[.val (.ref a1), .val (.int p2), .val (.int (5 : Int32))] []))
  refine Goes.step (fun _ kK => XS.iloadN X_3.here hx rfl (hb hby own_d12_30) rfl kK) ?_
  show Goes pP eE bB _ (T_3.setTop (mkF mM 31 #[.val (.ref a1), .val (.int p2), .val (.int (5 : Int32))] [(.int p2)]))
  by_cases hc_5 : p2 = (0 : Int32)
  · refine Goes.step (fun _ kK => XS.ifYes X_3.here hx rfl (pc0 := 31) (pc' := 40) rfl (hb hby own_d12_31) rfl ((if0 _ _).trans (teq hc_5).1) (by decide) (by decide) kK) ?_
    show Goes pP eE bB _ (T_3.setTop (mkF mM 40 #[.val (.ref a1), .val (.int p2), .val (.int (5 : Int32))] []))
    refine Goes.ret0 X_3 hx hlk hret (hb hby own_d12_40) (by decide) (by decide) ?_
    have hW : (if p2 = (0 : Int32) then W else own_mk W (5 : Int32) (1 : Int32)) = W := if_pos hc_5
    have u_6 := (Keep.refl h0 [a1, w, t]).wr W_3 (Or.inl (List.mem_of_getElem? (i := 0) rfl))
    have u_7 := Fw.other W_3 (Or.inr (slot_ne (Or.inl (hw _ (List.mem_of_getElem? (i := 59) rfl))) (Or.inl (hw _ (List.mem_of_getElem? (i := 64) rfl))) (by decide) (t := (.array .long)) (t' := .int) (by decide) (by decide)))
    have u_8 := Ft.other W_3 (Or.inr (slot_ne (Or.inl (hw _ (List.mem_of_getElem? (i := 62) rfl))) (Or.inl (hw _ (List.mem_of_getElem? (i := 64) rfl))) (by decide) (t := (.array .int)) (t' := .int) (by decide) (by decide)))
    have u_9 := Aw.other W_3 (Ne.symm d1w)
    have u_10 := At.other W_3 (Ne.symm d1t)
    exact ⟨rfl, N_3, by rw [e_3]; exact u_6, by rw [e_3]; exact u_7, by rw [e_3]; exact u_8, by rw [e_3, show (6 : Int32) = (5 : Int32) + (1 : Int32) from by decide]; exact u_4, by rw [e_3, hW]; exact u_9, _, _, by rw [e_3]; exact u_10, hf1⟩
  · refine Goes.step (fun _ kK => XS.ifNo X_3.here hx rfl (hb hby own_d12_31) rfl ((if0 _ _).trans (feq hc_5).1) kK) ?_
    show Goes pP eE bB _ (T_3.setTop (mkF mM 34 #[.val (.ref a1), .val (.int p2), .val (.int (5 : Int32))] []))
    refine Goes.step (fun _ kK => XS.aloadN X_3.here hx rfl (hb hby own_d12_34) rfl rfl kK) ?_
    show Goes pP eE bB _ (T_3.setTop (mkF mM 35 #[.val (.ref a1), .val (.int p2), .val (.int (5 : Int32))] [(.ref a1)]))
    refine Goes.step (fun _ kK => XS.iloadN X_3.here hx rfl (hb hby own_d12_35) rfl kK) ?_
    show Goes pP eE bB _ (T_3.setTop (mkF mM 36 #[.val (.ref a1), .val (.int p2), .val (.int (5 : Int32))] [(.int (5 : Int32)), (.ref a1)]))
    refine Goes.step (fun _ kK => XS.iconst X_3.here hx rfl (hb hby own_d12_36) kK) ?_
    show Goes pP eE bB _ (T_3.setTop (mkF mM 37 #[.val (.ref a1), .val (.int p2), .val (.int (5 : Int32))] [(.int (1 : Int32)), (.int (5 : Int32)), (.ref a1)]))
    have u_11 := Fw.other W_3 (Or.inr (slot_ne (Or.inl (hw _ (List.mem_of_getElem? (i := 59) rfl))) (Or.inl (hw _ (List.mem_of_getElem? (i := 64) rfl))) (by decide) (t := (.array .long)) (t' := .int) (by decide) (by decide)))
    have u_12 := Ft.other W_3 (Or.inr (slot_ne (Or.inl (hw _ (List.mem_of_getElem? (i := 62) rfl))) (Or.inl (hw _ (List.mem_of_getElem? (i := 64) rfl))) (by decide) (t := (.array .int)) (t' := .int) (by decide) (by decide)))
    have u_13 := Aw.other W_3 (Ne.symm d1w)
    have u_14 := At.other W_3 (Ne.symm d1t)
    have u_15 : own_Row Z h_3 a1 w t W ((5 : Int32) + (1 : Int32)) := ⟨u_11, u_12, u_4, u_13, _, _, u_14, hf1⟩
    have u_16 := Nat.le_trans Z0 (Keep.of_wr W_3).1
    have u_17 := E1.wr W_3
    refine Goes.callV X_3 hx hZ hown (hw _ (List.mem_of_getElem? (i := 94) rfl)) (hw _ (List.mem_of_getElem? (i := 84) rfl)) (notFace_of_selects (args := #[]) (mvT hZ (hw _ (List.mem_of_getElem? (i := 86) rfl)))) (hw _ (List.mem_of_getElem? (i := 86) rfl)) (hw _ (List.mem_of_getElem? (i := 85) rfl)) (hw _ (List.mem_of_getElem? (i := 87) rfl)) (hw _ (List.mem_of_getElem? (i := 2) rfl)) (by decide) e_3 u_17 (rmK l Z a0 hw a1 w t (5 : Int32) (1 : Int32) W ((5 : Int32) + (1 : Int32)) h_3 n0 u_16 u_15 u_17 g1 gw gt d1w d1t dwt (by decide) (by decide)) (W := 0) (by decide) (by decide) (by decide) (by decide) (g := (mkF mM 37 #[.val (.ref a1), .val (.int p2), .val (.int (5 : Int32))] [(.int (1 : Int32)), (.int (5 : Int32)), (.ref a1)])) rfl (by rw [hml]; rfl) (rest := []) own_pd8 rfl rfl (by show 2 * 0 + _ ≤ _; exact Nat.le_of_eq rfl) (hb hby own_d12_37) ?_
    intro v_18 T_18 L_18 X_18 hQ_18
    generalize e_18 : T_18.heap = h_18 at hQ_18
    obtain ⟨rfl, N_18q, K_18, R_18⟩ := hQ_18
    have N_18 := Fr.app N_3 N_18q
    obtain ⟨Fw_18, Ft_18, Fl_18, Aw_18, f_18, c_18, At_18, hf_18⟩ := R_18
    show Goes pP eE bB _ (T_18.setTop (mkF mM 40 #[.val (.ref a1), .val (.int p2), .val (.int (5 : Int32))] []))
    refine Goes.ret0 X_18 hx hlk hret (hb hby own_d12_40) (by decide) (by decide) ?_
    have hW : (if p2 = (0 : Int32) then W else own_mk W (5 : Int32) (1 : Int32)) = own_mk W (5 : Int32) (1 : Int32) := if_neg hc_5
    have u_19 := (Keep.refl h0 [a1, w, t]).wr W_3 (Or.inl (List.mem_of_getElem? (i := 0) rfl))
    have u_20 := u_19.trans K_18 (allS (Or.inl (List.mem_of_getElem? (i := 1) rfl)) (allS (Or.inl (List.mem_of_getElem? (i := 2) rfl)) all0))
    exact ⟨rfl, N_18, by rw [e_18]; exact u_20, by rw [e_18]; exact Fw_18, by rw [e_18]; exact Ft_18, by rw [e_18, show (6 : Int32) = (5 : Int32) + (1 : Int32) from by decide]; exact Fl_18, by rw [e_18, hW]; exact Aw_18, _, _, by rw [e_18]; exact At_18, hf_18⟩
theorem own_tp64 (x : BitVec 64) (i : Nat) (hi : i < 64) : (x &&& BitVec.twoPow 64 i = 0#64) ↔ x.getLsbD i = false := by
  rw [BitVec.and_twoPow]
  cases hb : x.getLsbD i
  · simp
  · simp only [if_true, Bool.true_eq_false, iff_false]
    intro q
    have := congrArg (fun y => y.getLsbD i) q
    simp [BitVec.getLsbD_twoPow, hi] at this
theorem own_tp32 (x : BitVec 32) (i : Nat) (hi : i < 32) : (x &&& BitVec.twoPow 32 i = 0#32) ↔ x.getLsbD i = false := by
  rw [BitVec.and_twoPow]
  cases hb : x.getLsbD i
  · simp
  · simp only [if_true, Bool.true_eq_false, iff_false]
    intro q
    have := congrArg (fun y => y.getLsbD i) q
    simp [BitVec.getLsbD_twoPow, hi] at this
theorem own_six {p : Int32} {i : Nat} (hp : p.toInt = (i : Int)) (hi : i < 6) : (p = 0 ∧ i = 0) ∨ (p = 1 ∧ i = 1) ∨ (p = 2 ∧ i = 2) ∨ (p = 3 ∧ i = 3) ∨ (p = 4 ∧ i = 4) ∨ (p = 5 ∧ i = 5) := by
  simp only [← Int32.toInt_inj, hp, show (0 : Int32).toInt = 0 from by decide, show (1 : Int32).toInt = 1 from by decide, show (2 : Int32).toInt = 2 from by decide, show (3 : Int32).toInt = 3 from by decide, show (4 : Int32).toInt = 4 from by decide, show (5 : Int32).toInt = 5 from by decide]
  omega
theorem own_shl {p : Int32} {i : Nat} (hp : p.toInt = (i : Int)) (hi : i < 6) : ((1 : Int64) <<< (p &&& 0x3f).toInt64).toBitVec = BitVec.twoPow 64 i := by
  rcases own_six hp hi with ⟨rfl, rfl⟩ | ⟨rfl, rfl⟩ | ⟨rfl, rfl⟩ | ⟨rfl, rfl⟩ | ⟨rfl, rfl⟩ | ⟨rfl, rfl⟩ <;> decide
theorem own_d64 {p : Int32} {i : Nat} (hp : p.toInt = (i : Int)) (hi : i < 6) : p / (64 : Int32) = (0 : Int32) := by
  rcases own_six hp hi with ⟨rfl, rfl⟩ | ⟨rfl, rfl⟩ | ⟨rfl, rfl⟩ | ⟨rfl, rfl⟩ | ⟨rfl, rfl⟩ | ⟨rfl, rfl⟩ <;> decide
theorem own_btT {W : Int64} {p : Int32} {i : Nat} (hp : p.toInt = (i : Int)) (hi : i < 6) : own_bt W p = if W.toBitVec.getLsbD i then 1 else 0 := by
  have e : (W &&& ((1 : Int64) <<< (p &&& 0x3f).toInt64)) = (0 : Int64) ↔ W.toBitVec.getLsbD i = false := by
    rw [← Int64.toBitVec_inj, Int64.toBitVec_and, own_shl hp hi]
    exact own_tp64 _ _ (by omega)
  unfold own_bt
  cases hb : W.toBitVec.getLsbD i
  · rw [if_pos (e.mpr hb)]; rfl
  · rw [if_neg (fun q => by rw [e.mp q] at hb; cases hb)]; rfl
theorem own_mkT {W : Int64} {p m : Int32} {i : Nat} (hp : p.toInt = (i : Int)) (hi : i < 6) (hm : m = 0 ∨ m = 1) (j : Nat) : (own_mk W p m).toBitVec.getLsbD j = if j = i then decide (m = 1) else W.toBitVec.getLsbD j := by
  unfold own_mk
  by_cases c : own_bt W p = m
  · rw [if_pos c]
    by_cases q : j = i
    · subst q
      rw [if_pos rfl]
      rw [own_btT hp hi] at c
      cases hb : W.toBitVec.getLsbD j
      · rw [hb] at c
        rcases hm with rfl | rfl
        · decide
        · exact absurd c (by decide)
      · rw [hb] at c
        rcases hm with rfl | rfl
        · exact absurd c (by decide)
        · decide
    · rw [if_neg q]
  · rw [if_neg c, Int64.toBitVec_xor, BitVec.getLsbD_xor, own_shl hp hi, BitVec.getLsbD_twoPow]
    by_cases q : j = i
    · subst q
      rw [if_pos rfl]
      rw [own_btT hp hi] at c
      have h64 : j < 64 := by omega
      cases hb : W.toBitVec.getLsbD j
      · rw [hb] at c
        rcases hm with rfl | rfl
        · exact absurd (by decide) c
        · simp [h64]
      · rw [hb] at c
        rcases hm with rfl | rfl
        · simp [h64]
        · exact absurd (by decide) c
    · rw [if_neg q, show decide (i = j) = false from decide_eq_false (Ne.symm q)]
      simp
theorem own_msk {x k : Int32} {i : Nat} (hk : k.toBitVec = BitVec.twoPow 32 i) (hi : i < 32) : (x &&& k = 0) ↔ x.toBitVec.getLsbD i = false := by
  rw [← Int32.toBitVec_inj, Int32.toBitVec_and, hk]
  exact own_tp32 _ _ hi
theorem own_add {W : Int64} {x k kk : Int32} {i : Nat} (hk : k.toBitVec = BitVec.twoPow 32 i) (hkk : kk.toInt = (i : Int)) (hi : i < 6) (hW : ∀ j, W.toBitVec.getLsbD j = (decide (j < i) && x.toBitVec.getLsbD j)) :
    ∀ j, (if (if x &&& k = (0 : Int32) then (0 : Int32) else 1) = (0 : Int32) then W else own_mk W kk (1 : Int32)).toBitVec.getLsbD j = (decide (j < i + 1) && x.toBitVec.getLsbD j) := fun j => by
  have e := own_msk (x := x) hk (by omega)
  by_cases q : x &&& k = (0 : Int32)
  · rw [if_pos q, if_pos rfl, hW]
    by_cases hj : j = i
    · subst hj; simp [e.mp q]
    · simp only [show (j < i + 1) ↔ (j < i) from by omega]
  · rw [if_neg q, if_neg (by decide), own_mkT hkk hi (Or.inr rfl), hW]
    have hb : x.toBitVec.getLsbD i = true := by
      cases hb : x.toBitVec.getLsbD i
      · exact absurd (e.mpr hb) q
      · rfl
    by_cases hj : j = i
    · subst hj; simp [hb]
    · rw [if_neg hj]; simp only [show (j < i + 1) ↔ (j < i) from by omega]
theorem own_ushr {x p : Int32} {i : Nat} (hp : p.toInt = (i : Int)) (hi : i < 6) : (((x.toUInt32 >>> (p &&& 31).toUInt32).toInt32) &&& (1 : Int32) = (0 : Int32)) ↔ x.toBitVec.getLsbD i = false := by
  have e : (1 : Int32).toBitVec = BitVec.twoPow 32 0 := by decide
  rw [← Int32.toBitVec_inj, Int32.toBitVec_and, e, show (0 : Int32).toBitVec = 0#32 from by decide, own_tp32 _ _ (by decide)]
  have s : ((x.toUInt32 >>> (p &&& 31).toUInt32).toInt32).toBitVec = x.toBitVec >>> i := by
    rcases own_six hp hi with ⟨rfl, rfl⟩ | ⟨rfl, rfl⟩ | ⟨rfl, rfl⟩ | ⟨rfl, rfl⟩ | ⟨rfl, rfl⟩ | ⟨rfl, rfl⟩ <;> rfl
  rw [s]; simp
theorem own_mod6 (x : Int32) : ∃ i : Nat, ((x &&& (2147483647 : Int32)) % (6 : Int32)).toInt = (i : Int) ∧ i < 6 := by
  have hm : (x &&& (2147483647 : Int32)).toInt = x.toInt % 2 ^ 31 := Jvm.Kit.i32_mask x 2147483647 (k := 31) (by decide) (by decide)
  have hr : ((x &&& (2147483647 : Int32)) % (6 : Int32)).toInt = (x.toInt % 2 ^ 31) % 6 := by rw [Jvm.Kit.i32_rem_nonneg (by rw [hm]; omega), hm]; rfl
  exact ⟨((x.toInt % 2 ^ 31) % 6).toNat, by omega, by omega⟩
set_option maxRecDepth 65536 in
set_option maxHeartbeats 40000000 in
theorem rm0 (l : Launch) (Z : State) (a0 : Array Value) (hw : ∀ d ∈ tables_1, d.before a0 Z = true) (p1 p2 p3 : Int32) (h0 : Heap) (n0 : Nat) (Z0 : n0 ≤ h0.size) :
    Con l Z x code maxLocals ret room_1 #[(.int p1), (.int p2), (.int p3)] h0 (fun v h L => v = some (.int 1) ∧ Fr n0 L) := by
  refine Con.body (plainFor_of_name own_pn4) ?_
  intro pP eE sS mM bB mT cC s₁ hx hby hml hZ hown hnm hret hlk X0 e0
  have hown : sS.vm.findClass "com/example/orderly_seats/orderlyseats/model/MarkedRowIsMarkedPinLaw" = some mM.cls := hown
  have hml : cC.maxLocals = 8 := hml
  have N0 := Fr.nil n0
  have ef : entryFrame mM #[(.int p1), (.int p2), (.int p3)] maxLocals = mkF mM 0 #[.val (.int p1), .val (.int p2), .val (.int p3), .unset, .unset, .unset, .unset, .unset] [] := by first | (simp [entryFrame, mkF, argsToLocals, Value.category, maxLocals]; done) | rfl
  rw [ef]
  show Goes pP eE bB _ (s₁.setTop (mkF mM 0 #[.val (.int p1), .val (.int p2), .val (.int p3), .unset, .unset, .unset, .unset, .unset] []))
  obtain ⟨T_1, h_1, X_1, e_1, E_1, A_1, D_1, -, st_1⟩ := newO X0 hx hZ hown (hw _ (List.mem_of_getElem? (i := 0) rfl)) (hw _ (List.mem_of_getElem? (i := 1) rfl)) (hw _ (List.mem_of_getElem? (i := 2) rfl)) e0 (g := (mkF mM 0 #[.val (.int p1), .val (.int p2), .val (.int p3), .unset, .unset, .unset, .unset, .unset] [])) rfl (hb hby at_0) (by decide) (by decide)
  obtain ⟨b_1, g_1⟩ : ∃ z, z = h0.size := ⟨_, rfl⟩
  rw [← g_1] at A_1 D_1 st_1
  have u_2 : n0 ≤ b_1 := Nat.le_trans Z0 (Nat.le_of_eq g_1.symm)
  have u_3 : Fld Z h_1 b_1 "com/example/orderly_seats/orderlyseats/model/MarkedRow" "words" "[J" .null := D_1 (Or.inl (hw _ (List.mem_of_getElem? (i := 59) rfl))) (ty := (.array .long)) (by decide)
  have u_4 : Fld Z h_1 b_1 "com/example/orderly_seats/orderlyseats/model/MarkedRow" "tree" "[I" .null := D_1 (Or.inl (hw _ (List.mem_of_getElem? (i := 62) rfl))) (ty := (.array .int)) (by decide)
  have u_5 : Fld Z h_1 b_1 "com/example/orderly_seats/orderlyseats/model/MarkedRow" "length" "I" (.int (0 : Int32)) := D_1 (Or.inl (hw _ (List.mem_of_getElem? (i := 64) rfl))) (ty := .int) (by decide)
  refine Goes.step st_1 ?_
  show Goes pP eE bB _ (T_1.setTop (mkF mM 3 #[.val (.int p1), .val (.int p2), .val (.int p3), .unset, .unset, .unset, .unset, .unset] [(.ref b_1)]))
  refine Goes.step (fun _ kK => XS.dup X_1.here hx rfl (hb hby at_3) rfl rfl kK) ?_
  show Goes pP eE bB _ (T_1.setTop (mkF mM 4 #[.val (.int p1), .val (.int p2), .val (.int p3), .unset, .unset, .unset, .unset, .unset] [(.ref b_1), (.ref b_1)]))
  have u_6 := Nat.le_trans Z0 E_1.1
  refine Goes.callI X_1 hx hZ rfl hown (hw _ (List.mem_of_getElem? (i := 3) rfl)) (hw _ (List.mem_of_getElem? (i := 4) rfl)) (hw _ (List.mem_of_getElem? (i := 5) rfl)) (hw _ (List.mem_of_getElem? (i := 2) rfl)) (by decide) e_1 (rmR1 l Z a0 hw b_1 h_1 n0 u_6 A_1 u_2 u_3 u_4 u_5) (W := 1) (by decide) (by decide) (by decide) (by decide) (g := (mkF mM 4 #[.val (.int p1), .val (.int p2), .val (.int p3), .unset, .unset, .unset, .unset, .unset] [(.ref b_1), (.ref b_1)])) rfl (by rw [hml]; rfl) (rest := [(.ref b_1)]) own_pd5 rfl rfl (by show 2 * 0 + _ ≤ _; exact Nat.le_of_eq rfl) (hb hby at_4) ?_
  intro v_7 T_7 L_7 X_7 hQ_7
  generalize e_7 : T_7.heap = h_7 at hQ_7
  obtain ⟨rfl, N_7q, K_7, w_7, t_7, R_7, sw_7, st_7, d_7⟩ := hQ_7
  have N_7 := Fr.app N0 N_7q
  have u_8 : b_1 < w_7 := Nat.lt_of_lt_of_le (A_1).lt sw_7
  have u_9 : n0 ≤ w_7 := Nat.le_trans u_6 sw_7
  have u_10 : b_1 < t_7 := Nat.lt_of_lt_of_le (A_1).lt st_7
  have u_11 : n0 ≤ t_7 := Nat.le_trans u_6 st_7
  have T_7b : ∀ j, (0 : Int64).toBitVec.getLsbD j = (decide (j < 0) && p1.toBitVec.getLsbD j) := fun j => by simp
  show Goes pP eE bB _ (T_7.setTop (mkF mM 7 #[.val (.int p1), .val (.int p2), .val (.int p3), .unset, .unset, .unset, .unset, .unset] [(.ref b_1)]))
  refine Goes.step (fun _ kK => XS.astoreN X_7.here hx rfl (hb hby at_7) rfl rfl (l' := #[.val (.int p1), .val (.int p2), .val (.int p3), .val (.ref b_1), .unset, .unset, .unset, .unset]) rfl kK) ?_
  show Goes pP eE bB _ (T_7.setTop (mkF mM 8 #[.val (.int p1), .val (.int p2), .val (.int p3), .val (.ref b_1), .unset, .unset, .unset, .unset] []))
  refine Goes.step (fun _ kK => XS.aloadN X_7.here hx rfl (hb hby at_8) rfl rfl kK) ?_
  show Goes pP eE bB _ (T_7.setTop (mkF mM 9 #[.val (.int p1), .val (.int p2), .val (.int p3), .val (.ref b_1), .unset, .unset, .unset, .unset] [(.ref b_1)]))
  refine Goes.step (fun _ kK => XS.iloadN X_7.here hx rfl (hb hby at_9) rfl kK) ?_
  show Goes pP eE bB _ (T_7.setTop (mkF mM 10 #[.val (.int p1), .val (.int p2), .val (.int p3), .val (.ref b_1), .unset, .unset, .unset, .unset] [(.int p1), (.ref b_1)]))
  refine Goes.step (fun _ kK => XS.iconst X_7.here hx rfl (hb hby at_10) kK) ?_
  show Goes pP eE bB _ (T_7.setTop (mkF mM 11 #[.val (.int p1), .val (.int p2), .val (.int p3), .val (.ref b_1), .unset, .unset, .unset, .unset] [(.int (1 : Int32)), (.int p1), (.ref b_1)]))
  refine Goes.step (fun _ kK => XS.iand X_7.here hx rfl (hb hby at_11) rfl kK) ?_
  show Goes pP eE bB _ (T_7.setTop (mkF mM 12 #[.val (.int p1), .val (.int p2), .val (.int p3), .val (.ref b_1), .unset, .unset, .unset, .unset] [(.int (p1 &&& (1 : Int32))), (.ref b_1)]))
  refine Goes.step (t' := T_7.setTop (mkF mM 20 #[.val (.int p1), .val (.int p2), .val (.int p3), .val (.ref b_1), .unset, .unset, .unset, .unset] [(.int (if (p1 &&& (1 : Int32)) = (0 : Int32) then (0 : Int32) else 1)), (.ref b_1)])) (fun _ kK => ?_) ?_
  · by_cases hc_12 : (p1 &&& (1 : Int32)) = (0 : Int32)
    · rw [if_pos hc_12] at kK
      refine XS.ifYes X_7.here hx rfl (pc0 := 12) (pc' := 19) rfl (hb hby at_12) rfl ((if0 _ _).trans (teq hc_12).1) (by decide) (by decide) ?_
      exact XS.iconst X_7.here hx rfl (hb hby at_19) kK
    · rw [if_neg hc_12] at kK
      refine XS.ifNo X_7.here hx rfl (hb hby at_12) rfl ((if0 _ _).trans (feq hc_12).1) ?_
      refine XS.iconst X_7.here hx rfl (hb hby at_15) ?_
      exact XS.goto X_7.here hx rfl (pc0 := 16) (pc' := 20) rfl (hb hby at_16) (by decide) (by decide) kK
  show Goes pP eE bB _ (T_7.setTop (mkF mM 20 #[.val (.int p1), .val (.int p2), .val (.int p3), .val (.ref b_1), .unset, .unset, .unset, .unset] [(.int (if (p1 &&& (1 : Int32)) = (0 : Int32) then (0 : Int32) else 1)), (.ref b_1)]))
  have u_13 := Nat.le_trans u_6 K_7.1
  have u_14 := A_1.keep K_7
  refine Goes.callV X_7 hx hZ hown (hw _ (List.mem_of_getElem? (i := 65) rfl)) (hw _ (List.mem_of_getElem? (i := 66) rfl)) (notFace_of_selects (args := #[]) (mvT hZ (hw _ (List.mem_of_getElem? (i := 68) rfl)))) (hw _ (List.mem_of_getElem? (i := 68) rfl)) (hw _ (List.mem_of_getElem? (i := 67) rfl)) (hw _ (List.mem_of_getElem? (i := 69) rfl)) (hw _ (List.mem_of_getElem? (i := 2) rfl)) (by decide) e_7 u_14 (rmA0 l Z a0 hw b_1 w_7 t_7 (if (p1 &&& (1 : Int32)) = (0 : Int32) then (0 : Int32) else 1) (0 : Int64) h_7 n0 u_13 R_7 u_14 u_2 u_9 u_11 (Nat.ne_of_lt u_8) (Nat.ne_of_lt u_10) d_7) (W := 0) (by decide) (by decide) (by decide) (by decide) (g := (mkF mM 20 #[.val (.int p1), .val (.int p2), .val (.int p3), .val (.ref b_1), .unset, .unset, .unset, .unset] [(.int (if (p1 &&& (1 : Int32)) = (0 : Int32) then (0 : Int32) else 1)), (.ref b_1)])) rfl (by rw [hml]; rfl) (rest := []) own_pd9 rfl rfl (by show 2 * 0 + _ ≤ _; exact Nat.le_of_eq rfl) (hb hby at_20) ?_
  intro v_15 T_15 L_15 X_15 hQ_15
  generalize e_15 : T_15.heap = h_15 at hQ_15
  obtain ⟨rfl, N_15q, K_15, R_15⟩ := hQ_15
  have N_15 := Fr.app N_7 N_15q
  have T_15b : ∀ j, (if (if (p1 &&& (1 : Int32)) = (0 : Int32) then (0 : Int32) else 1) = (0 : Int32) then (0 : Int64) else own_mk (0 : Int64) (0 : Int32) (1 : Int32)).toBitVec.getLsbD j = (decide (j < 0 + 1) && p1.toBitVec.getLsbD j) := own_add (by decide) (by decide) (by decide) T_7b
  obtain ⟨W_15, hW_15⟩ : ∃ z : Int64, z = (if (if (p1 &&& (1 : Int32)) = (0 : Int32) then (0 : Int32) else 1) = (0 : Int32) then (0 : Int64) else own_mk (0 : Int64) (0 : Int32) (1 : Int32)) := ⟨_, rfl⟩
  rw [← hW_15] at R_15 T_15b
  show Goes pP eE bB _ (T_15.setTop (mkF mM 23 #[.val (.int p1), .val (.int p2), .val (.int p3), .val (.ref b_1), .unset, .unset, .unset, .unset] []))
  refine Goes.step (fun _ kK => XS.aloadN X_15.here hx rfl (hb hby at_23) rfl rfl kK) ?_
  show Goes pP eE bB _ (T_15.setTop (mkF mM 24 #[.val (.int p1), .val (.int p2), .val (.int p3), .val (.ref b_1), .unset, .unset, .unset, .unset] [(.ref b_1)]))
  refine Goes.step (fun _ kK => XS.iloadN X_15.here hx rfl (hb hby at_24) rfl kK) ?_
  show Goes pP eE bB _ (T_15.setTop (mkF mM 25 #[.val (.int p1), .val (.int p2), .val (.int p3), .val (.ref b_1), .unset, .unset, .unset, .unset] [(.int p1), (.ref b_1)]))
  refine Goes.step (fun _ kK => XS.iconst X_15.here hx rfl (hb hby at_25) kK) ?_
  show Goes pP eE bB _ (T_15.setTop (mkF mM 26 #[.val (.int p1), .val (.int p2), .val (.int p3), .val (.ref b_1), .unset, .unset, .unset, .unset] [(.int (2 : Int32)), (.int p1), (.ref b_1)]))
  refine Goes.step (fun _ kK => XS.iand X_15.here hx rfl (hb hby at_26) rfl kK) ?_
  show Goes pP eE bB _ (T_15.setTop (mkF mM 27 #[.val (.int p1), .val (.int p2), .val (.int p3), .val (.ref b_1), .unset, .unset, .unset, .unset] [(.int (p1 &&& (2 : Int32))), (.ref b_1)]))
  refine Goes.step (t' := T_15.setTop (mkF mM 35 #[.val (.int p1), .val (.int p2), .val (.int p3), .val (.ref b_1), .unset, .unset, .unset, .unset] [(.int (if (p1 &&& (2 : Int32)) = (0 : Int32) then (0 : Int32) else 1)), (.ref b_1)])) (fun _ kK => ?_) ?_
  · by_cases hc_16 : (p1 &&& (2 : Int32)) = (0 : Int32)
    · rw [if_pos hc_16] at kK
      refine XS.ifYes X_15.here hx rfl (pc0 := 27) (pc' := 34) rfl (hb hby at_27) rfl ((if0 _ _).trans (teq hc_16).1) (by decide) (by decide) ?_
      exact XS.iconst X_15.here hx rfl (hb hby at_34) kK
    · rw [if_neg hc_16] at kK
      refine XS.ifNo X_15.here hx rfl (hb hby at_27) rfl ((if0 _ _).trans (feq hc_16).1) ?_
      refine XS.iconst X_15.here hx rfl (hb hby at_30) ?_
      exact XS.goto X_15.here hx rfl (pc0 := 31) (pc' := 35) rfl (hb hby at_31) (by decide) (by decide) kK
  show Goes pP eE bB _ (T_15.setTop (mkF mM 35 #[.val (.int p1), .val (.int p2), .val (.int p3), .val (.ref b_1), .unset, .unset, .unset, .unset] [(.int (if (p1 &&& (2 : Int32)) = (0 : Int32) then (0 : Int32) else 1)), (.ref b_1)]))
  have u_17 := Nat.le_trans u_13 K_15.1
  have u_18 := u_14.keep K_15
  refine Goes.callV X_15 hx hZ hown (hw _ (List.mem_of_getElem? (i := 65) rfl)) (hw _ (List.mem_of_getElem? (i := 66) rfl)) (notFace_of_selects (args := #[]) (mvT hZ (hw _ (List.mem_of_getElem? (i := 68) rfl)))) (hw _ (List.mem_of_getElem? (i := 68) rfl)) (hw _ (List.mem_of_getElem? (i := 67) rfl)) (hw _ (List.mem_of_getElem? (i := 69) rfl)) (hw _ (List.mem_of_getElem? (i := 2) rfl)) (by decide) e_15 u_18 (rmA1 l Z a0 hw b_1 w_7 t_7 (if (p1 &&& (2 : Int32)) = (0 : Int32) then (0 : Int32) else 1) W_15 h_15 n0 u_17 R_15 u_18 u_2 u_9 u_11 (Nat.ne_of_lt u_8) (Nat.ne_of_lt u_10) d_7) (W := 0) (by decide) (by decide) (by decide) (by decide) (g := (mkF mM 35 #[.val (.int p1), .val (.int p2), .val (.int p3), .val (.ref b_1), .unset, .unset, .unset, .unset] [(.int (if (p1 &&& (2 : Int32)) = (0 : Int32) then (0 : Int32) else 1)), (.ref b_1)])) rfl (by rw [hml]; rfl) (rest := []) own_pd9 rfl rfl (by show 2 * 0 + _ ≤ _; exact Nat.le_of_eq rfl) (hb hby at_35) ?_
  intro v_19 T_19 L_19 X_19 hQ_19
  generalize e_19 : T_19.heap = h_19 at hQ_19
  obtain ⟨rfl, N_19q, K_19, R_19⟩ := hQ_19
  have N_19 := Fr.app N_15 N_19q
  have T_19b : ∀ j, (if (if (p1 &&& (2 : Int32)) = (0 : Int32) then (0 : Int32) else 1) = (0 : Int32) then W_15 else own_mk W_15 (1 : Int32) (1 : Int32)).toBitVec.getLsbD j = (decide (j < 1 + 1) && p1.toBitVec.getLsbD j) := own_add (by decide) (by decide) (by decide) T_15b
  obtain ⟨W_19, hW_19⟩ : ∃ z : Int64, z = (if (if (p1 &&& (2 : Int32)) = (0 : Int32) then (0 : Int32) else 1) = (0 : Int32) then W_15 else own_mk W_15 (1 : Int32) (1 : Int32)) := ⟨_, rfl⟩
  rw [← hW_19] at R_19 T_19b
  show Goes pP eE bB _ (T_19.setTop (mkF mM 38 #[.val (.int p1), .val (.int p2), .val (.int p3), .val (.ref b_1), .unset, .unset, .unset, .unset] []))
  refine Goes.step (fun _ kK => XS.aloadN X_19.here hx rfl (hb hby at_38) rfl rfl kK) ?_
  show Goes pP eE bB _ (T_19.setTop (mkF mM 39 #[.val (.int p1), .val (.int p2), .val (.int p3), .val (.ref b_1), .unset, .unset, .unset, .unset] [(.ref b_1)]))
  refine Goes.step (fun _ kK => XS.iloadN X_19.here hx rfl (hb hby at_39) rfl kK) ?_
  show Goes pP eE bB _ (T_19.setTop (mkF mM 40 #[.val (.int p1), .val (.int p2), .val (.int p3), .val (.ref b_1), .unset, .unset, .unset, .unset] [(.int p1), (.ref b_1)]))
  refine Goes.step (fun _ kK => XS.iconst X_19.here hx rfl (hb hby at_40) kK) ?_
  show Goes pP eE bB _ (T_19.setTop (mkF mM 41 #[.val (.int p1), .val (.int p2), .val (.int p3), .val (.ref b_1), .unset, .unset, .unset, .unset] [(.int (4 : Int32)), (.int p1), (.ref b_1)]))
  refine Goes.step (fun _ kK => XS.iand X_19.here hx rfl (hb hby at_41) rfl kK) ?_
  show Goes pP eE bB _ (T_19.setTop (mkF mM 42 #[.val (.int p1), .val (.int p2), .val (.int p3), .val (.ref b_1), .unset, .unset, .unset, .unset] [(.int (p1 &&& (4 : Int32))), (.ref b_1)]))
  refine Goes.step (t' := T_19.setTop (mkF mM 50 #[.val (.int p1), .val (.int p2), .val (.int p3), .val (.ref b_1), .unset, .unset, .unset, .unset] [(.int (if (p1 &&& (4 : Int32)) = (0 : Int32) then (0 : Int32) else 1)), (.ref b_1)])) (fun _ kK => ?_) ?_
  · by_cases hc_20 : (p1 &&& (4 : Int32)) = (0 : Int32)
    · rw [if_pos hc_20] at kK
      refine XS.ifYes X_19.here hx rfl (pc0 := 42) (pc' := 49) rfl (hb hby at_42) rfl ((if0 _ _).trans (teq hc_20).1) (by decide) (by decide) ?_
      exact XS.iconst X_19.here hx rfl (hb hby at_49) kK
    · rw [if_neg hc_20] at kK
      refine XS.ifNo X_19.here hx rfl (hb hby at_42) rfl ((if0 _ _).trans (feq hc_20).1) ?_
      refine XS.iconst X_19.here hx rfl (hb hby at_45) ?_
      exact XS.goto X_19.here hx rfl (pc0 := 46) (pc' := 50) rfl (hb hby at_46) (by decide) (by decide) kK
  show Goes pP eE bB _ (T_19.setTop (mkF mM 50 #[.val (.int p1), .val (.int p2), .val (.int p3), .val (.ref b_1), .unset, .unset, .unset, .unset] [(.int (if (p1 &&& (4 : Int32)) = (0 : Int32) then (0 : Int32) else 1)), (.ref b_1)]))
  have u_21 := Nat.le_trans u_17 K_19.1
  have u_22 := u_18.keep K_19
  refine Goes.callV X_19 hx hZ hown (hw _ (List.mem_of_getElem? (i := 65) rfl)) (hw _ (List.mem_of_getElem? (i := 66) rfl)) (notFace_of_selects (args := #[]) (mvT hZ (hw _ (List.mem_of_getElem? (i := 68) rfl)))) (hw _ (List.mem_of_getElem? (i := 68) rfl)) (hw _ (List.mem_of_getElem? (i := 67) rfl)) (hw _ (List.mem_of_getElem? (i := 69) rfl)) (hw _ (List.mem_of_getElem? (i := 2) rfl)) (by decide) e_19 u_22 (rmA2 l Z a0 hw b_1 w_7 t_7 (if (p1 &&& (4 : Int32)) = (0 : Int32) then (0 : Int32) else 1) W_19 h_19 n0 u_21 R_19 u_22 u_2 u_9 u_11 (Nat.ne_of_lt u_8) (Nat.ne_of_lt u_10) d_7) (W := 0) (by decide) (by decide) (by decide) (by decide) (g := (mkF mM 50 #[.val (.int p1), .val (.int p2), .val (.int p3), .val (.ref b_1), .unset, .unset, .unset, .unset] [(.int (if (p1 &&& (4 : Int32)) = (0 : Int32) then (0 : Int32) else 1)), (.ref b_1)])) rfl (by rw [hml]; rfl) (rest := []) own_pd9 rfl rfl (by show 2 * 0 + _ ≤ _; exact Nat.le_of_eq rfl) (hb hby at_50) ?_
  intro v_23 T_23 L_23 X_23 hQ_23
  generalize e_23 : T_23.heap = h_23 at hQ_23
  obtain ⟨rfl, N_23q, K_23, R_23⟩ := hQ_23
  have N_23 := Fr.app N_19 N_23q
  have T_23b : ∀ j, (if (if (p1 &&& (4 : Int32)) = (0 : Int32) then (0 : Int32) else 1) = (0 : Int32) then W_19 else own_mk W_19 (2 : Int32) (1 : Int32)).toBitVec.getLsbD j = (decide (j < 2 + 1) && p1.toBitVec.getLsbD j) := own_add (by decide) (by decide) (by decide) T_19b
  obtain ⟨W_23, hW_23⟩ : ∃ z : Int64, z = (if (if (p1 &&& (4 : Int32)) = (0 : Int32) then (0 : Int32) else 1) = (0 : Int32) then W_19 else own_mk W_19 (2 : Int32) (1 : Int32)) := ⟨_, rfl⟩
  rw [← hW_23] at R_23 T_23b
  show Goes pP eE bB _ (T_23.setTop (mkF mM 53 #[.val (.int p1), .val (.int p2), .val (.int p3), .val (.ref b_1), .unset, .unset, .unset, .unset] []))
  refine Goes.step (fun _ kK => XS.aloadN X_23.here hx rfl (hb hby at_53) rfl rfl kK) ?_
  show Goes pP eE bB _ (T_23.setTop (mkF mM 54 #[.val (.int p1), .val (.int p2), .val (.int p3), .val (.ref b_1), .unset, .unset, .unset, .unset] [(.ref b_1)]))
  refine Goes.step (fun _ kK => XS.iloadN X_23.here hx rfl (hb hby at_54) rfl kK) ?_
  show Goes pP eE bB _ (T_23.setTop (mkF mM 55 #[.val (.int p1), .val (.int p2), .val (.int p3), .val (.ref b_1), .unset, .unset, .unset, .unset] [(.int p1), (.ref b_1)]))
  refine Goes.step (fun _ kK => XS.bipush X_23.here hx rfl (hb hby at_55) kK) ?_
  show Goes pP eE bB _ (T_23.setTop (mkF mM 57 #[.val (.int p1), .val (.int p2), .val (.int p3), .val (.ref b_1), .unset, .unset, .unset, .unset] [(.int (8 : Int32)), (.int p1), (.ref b_1)]))
  refine Goes.step (fun _ kK => XS.iand X_23.here hx rfl (hb hby at_57) rfl kK) ?_
  show Goes pP eE bB _ (T_23.setTop (mkF mM 58 #[.val (.int p1), .val (.int p2), .val (.int p3), .val (.ref b_1), .unset, .unset, .unset, .unset] [(.int (p1 &&& (8 : Int32))), (.ref b_1)]))
  refine Goes.step (t' := T_23.setTop (mkF mM 66 #[.val (.int p1), .val (.int p2), .val (.int p3), .val (.ref b_1), .unset, .unset, .unset, .unset] [(.int (if (p1 &&& (8 : Int32)) = (0 : Int32) then (0 : Int32) else 1)), (.ref b_1)])) (fun _ kK => ?_) ?_
  · by_cases hc_24 : (p1 &&& (8 : Int32)) = (0 : Int32)
    · rw [if_pos hc_24] at kK
      refine XS.ifYes X_23.here hx rfl (pc0 := 58) (pc' := 65) rfl (hb hby at_58) rfl ((if0 _ _).trans (teq hc_24).1) (by decide) (by decide) ?_
      exact XS.iconst X_23.here hx rfl (hb hby at_65) kK
    · rw [if_neg hc_24] at kK
      refine XS.ifNo X_23.here hx rfl (hb hby at_58) rfl ((if0 _ _).trans (feq hc_24).1) ?_
      refine XS.iconst X_23.here hx rfl (hb hby at_61) ?_
      exact XS.goto X_23.here hx rfl (pc0 := 62) (pc' := 66) rfl (hb hby at_62) (by decide) (by decide) kK
  show Goes pP eE bB _ (T_23.setTop (mkF mM 66 #[.val (.int p1), .val (.int p2), .val (.int p3), .val (.ref b_1), .unset, .unset, .unset, .unset] [(.int (if (p1 &&& (8 : Int32)) = (0 : Int32) then (0 : Int32) else 1)), (.ref b_1)]))
  have u_25 := Nat.le_trans u_21 K_23.1
  have u_26 := u_22.keep K_23
  refine Goes.callV X_23 hx hZ hown (hw _ (List.mem_of_getElem? (i := 65) rfl)) (hw _ (List.mem_of_getElem? (i := 66) rfl)) (notFace_of_selects (args := #[]) (mvT hZ (hw _ (List.mem_of_getElem? (i := 68) rfl)))) (hw _ (List.mem_of_getElem? (i := 68) rfl)) (hw _ (List.mem_of_getElem? (i := 67) rfl)) (hw _ (List.mem_of_getElem? (i := 69) rfl)) (hw _ (List.mem_of_getElem? (i := 2) rfl)) (by decide) e_23 u_26 (rmA3 l Z a0 hw b_1 w_7 t_7 (if (p1 &&& (8 : Int32)) = (0 : Int32) then (0 : Int32) else 1) W_23 h_23 n0 u_25 R_23 u_26 u_2 u_9 u_11 (Nat.ne_of_lt u_8) (Nat.ne_of_lt u_10) d_7) (W := 0) (by decide) (by decide) (by decide) (by decide) (g := (mkF mM 66 #[.val (.int p1), .val (.int p2), .val (.int p3), .val (.ref b_1), .unset, .unset, .unset, .unset] [(.int (if (p1 &&& (8 : Int32)) = (0 : Int32) then (0 : Int32) else 1)), (.ref b_1)])) rfl (by rw [hml]; rfl) (rest := []) own_pd9 rfl rfl (by show 2 * 0 + _ ≤ _; exact Nat.le_of_eq rfl) (hb hby at_66) ?_
  intro v_27 T_27 L_27 X_27 hQ_27
  generalize e_27 : T_27.heap = h_27 at hQ_27
  obtain ⟨rfl, N_27q, K_27, R_27⟩ := hQ_27
  have N_27 := Fr.app N_23 N_27q
  have T_27b : ∀ j, (if (if (p1 &&& (8 : Int32)) = (0 : Int32) then (0 : Int32) else 1) = (0 : Int32) then W_23 else own_mk W_23 (3 : Int32) (1 : Int32)).toBitVec.getLsbD j = (decide (j < 3 + 1) && p1.toBitVec.getLsbD j) := own_add (by decide) (by decide) (by decide) T_23b
  obtain ⟨W_27, hW_27⟩ : ∃ z : Int64, z = (if (if (p1 &&& (8 : Int32)) = (0 : Int32) then (0 : Int32) else 1) = (0 : Int32) then W_23 else own_mk W_23 (3 : Int32) (1 : Int32)) := ⟨_, rfl⟩
  rw [← hW_27] at R_27 T_27b
  show Goes pP eE bB _ (T_27.setTop (mkF mM 69 #[.val (.int p1), .val (.int p2), .val (.int p3), .val (.ref b_1), .unset, .unset, .unset, .unset] []))
  refine Goes.step (fun _ kK => XS.aloadN X_27.here hx rfl (hb hby at_69) rfl rfl kK) ?_
  show Goes pP eE bB _ (T_27.setTop (mkF mM 70 #[.val (.int p1), .val (.int p2), .val (.int p3), .val (.ref b_1), .unset, .unset, .unset, .unset] [(.ref b_1)]))
  refine Goes.step (fun _ kK => XS.iloadN X_27.here hx rfl (hb hby at_70) rfl kK) ?_
  show Goes pP eE bB _ (T_27.setTop (mkF mM 71 #[.val (.int p1), .val (.int p2), .val (.int p3), .val (.ref b_1), .unset, .unset, .unset, .unset] [(.int p1), (.ref b_1)]))
  refine Goes.step (fun _ kK => XS.bipush X_27.here hx rfl (hb hby at_71) kK) ?_
  show Goes pP eE bB _ (T_27.setTop (mkF mM 73 #[.val (.int p1), .val (.int p2), .val (.int p3), .val (.ref b_1), .unset, .unset, .unset, .unset] [(.int (16 : Int32)), (.int p1), (.ref b_1)]))
  refine Goes.step (fun _ kK => XS.iand X_27.here hx rfl (hb hby at_73) rfl kK) ?_
  show Goes pP eE bB _ (T_27.setTop (mkF mM 74 #[.val (.int p1), .val (.int p2), .val (.int p3), .val (.ref b_1), .unset, .unset, .unset, .unset] [(.int (p1 &&& (16 : Int32))), (.ref b_1)]))
  refine Goes.step (t' := T_27.setTop (mkF mM 82 #[.val (.int p1), .val (.int p2), .val (.int p3), .val (.ref b_1), .unset, .unset, .unset, .unset] [(.int (if (p1 &&& (16 : Int32)) = (0 : Int32) then (0 : Int32) else 1)), (.ref b_1)])) (fun _ kK => ?_) ?_
  · by_cases hc_28 : (p1 &&& (16 : Int32)) = (0 : Int32)
    · rw [if_pos hc_28] at kK
      refine XS.ifYes X_27.here hx rfl (pc0 := 74) (pc' := 81) rfl (hb hby at_74) rfl ((if0 _ _).trans (teq hc_28).1) (by decide) (by decide) ?_
      exact XS.iconst X_27.here hx rfl (hb hby at_81) kK
    · rw [if_neg hc_28] at kK
      refine XS.ifNo X_27.here hx rfl (hb hby at_74) rfl ((if0 _ _).trans (feq hc_28).1) ?_
      refine XS.iconst X_27.here hx rfl (hb hby at_77) ?_
      exact XS.goto X_27.here hx rfl (pc0 := 78) (pc' := 82) rfl (hb hby at_78) (by decide) (by decide) kK
  show Goes pP eE bB _ (T_27.setTop (mkF mM 82 #[.val (.int p1), .val (.int p2), .val (.int p3), .val (.ref b_1), .unset, .unset, .unset, .unset] [(.int (if (p1 &&& (16 : Int32)) = (0 : Int32) then (0 : Int32) else 1)), (.ref b_1)]))
  have u_29 := Nat.le_trans u_25 K_27.1
  have u_30 := u_26.keep K_27
  refine Goes.callV X_27 hx hZ hown (hw _ (List.mem_of_getElem? (i := 65) rfl)) (hw _ (List.mem_of_getElem? (i := 66) rfl)) (notFace_of_selects (args := #[]) (mvT hZ (hw _ (List.mem_of_getElem? (i := 68) rfl)))) (hw _ (List.mem_of_getElem? (i := 68) rfl)) (hw _ (List.mem_of_getElem? (i := 67) rfl)) (hw _ (List.mem_of_getElem? (i := 69) rfl)) (hw _ (List.mem_of_getElem? (i := 2) rfl)) (by decide) e_27 u_30 (rmA4 l Z a0 hw b_1 w_7 t_7 (if (p1 &&& (16 : Int32)) = (0 : Int32) then (0 : Int32) else 1) W_27 h_27 n0 u_29 R_27 u_30 u_2 u_9 u_11 (Nat.ne_of_lt u_8) (Nat.ne_of_lt u_10) d_7) (W := 0) (by decide) (by decide) (by decide) (by decide) (g := (mkF mM 82 #[.val (.int p1), .val (.int p2), .val (.int p3), .val (.ref b_1), .unset, .unset, .unset, .unset] [(.int (if (p1 &&& (16 : Int32)) = (0 : Int32) then (0 : Int32) else 1)), (.ref b_1)])) rfl (by rw [hml]; rfl) (rest := []) own_pd9 rfl rfl (by show 2 * 0 + _ ≤ _; exact Nat.le_of_eq rfl) (hb hby at_82) ?_
  intro v_31 T_31 L_31 X_31 hQ_31
  generalize e_31 : T_31.heap = h_31 at hQ_31
  obtain ⟨rfl, N_31q, K_31, R_31⟩ := hQ_31
  have N_31 := Fr.app N_27 N_31q
  have T_31b : ∀ j, (if (if (p1 &&& (16 : Int32)) = (0 : Int32) then (0 : Int32) else 1) = (0 : Int32) then W_27 else own_mk W_27 (4 : Int32) (1 : Int32)).toBitVec.getLsbD j = (decide (j < 4 + 1) && p1.toBitVec.getLsbD j) := own_add (by decide) (by decide) (by decide) T_27b
  obtain ⟨W_31, hW_31⟩ : ∃ z : Int64, z = (if (if (p1 &&& (16 : Int32)) = (0 : Int32) then (0 : Int32) else 1) = (0 : Int32) then W_27 else own_mk W_27 (4 : Int32) (1 : Int32)) := ⟨_, rfl⟩
  rw [← hW_31] at R_31 T_31b
  show Goes pP eE bB _ (T_31.setTop (mkF mM 85 #[.val (.int p1), .val (.int p2), .val (.int p3), .val (.ref b_1), .unset, .unset, .unset, .unset] []))
  refine Goes.step (fun _ kK => XS.aloadN X_31.here hx rfl (hb hby at_85) rfl rfl kK) ?_
  show Goes pP eE bB _ (T_31.setTop (mkF mM 86 #[.val (.int p1), .val (.int p2), .val (.int p3), .val (.ref b_1), .unset, .unset, .unset, .unset] [(.ref b_1)]))
  refine Goes.step (fun _ kK => XS.iloadN X_31.here hx rfl (hb hby at_86) rfl kK) ?_
  show Goes pP eE bB _ (T_31.setTop (mkF mM 87 #[.val (.int p1), .val (.int p2), .val (.int p3), .val (.ref b_1), .unset, .unset, .unset, .unset] [(.int p1), (.ref b_1)]))
  refine Goes.step (fun _ kK => XS.bipush X_31.here hx rfl (hb hby at_87) kK) ?_
  show Goes pP eE bB _ (T_31.setTop (mkF mM 89 #[.val (.int p1), .val (.int p2), .val (.int p3), .val (.ref b_1), .unset, .unset, .unset, .unset] [(.int (32 : Int32)), (.int p1), (.ref b_1)]))
  refine Goes.step (fun _ kK => XS.iand X_31.here hx rfl (hb hby at_89) rfl kK) ?_
  show Goes pP eE bB _ (T_31.setTop (mkF mM 90 #[.val (.int p1), .val (.int p2), .val (.int p3), .val (.ref b_1), .unset, .unset, .unset, .unset] [(.int (p1 &&& (32 : Int32))), (.ref b_1)]))
  refine Goes.step (t' := T_31.setTop (mkF mM 98 #[.val (.int p1), .val (.int p2), .val (.int p3), .val (.ref b_1), .unset, .unset, .unset, .unset] [(.int (if (p1 &&& (32 : Int32)) = (0 : Int32) then (0 : Int32) else 1)), (.ref b_1)])) (fun _ kK => ?_) ?_
  · by_cases hc_32 : (p1 &&& (32 : Int32)) = (0 : Int32)
    · rw [if_pos hc_32] at kK
      refine XS.ifYes X_31.here hx rfl (pc0 := 90) (pc' := 97) rfl (hb hby at_90) rfl ((if0 _ _).trans (teq hc_32).1) (by decide) (by decide) ?_
      exact XS.iconst X_31.here hx rfl (hb hby at_97) kK
    · rw [if_neg hc_32] at kK
      refine XS.ifNo X_31.here hx rfl (hb hby at_90) rfl ((if0 _ _).trans (feq hc_32).1) ?_
      refine XS.iconst X_31.here hx rfl (hb hby at_93) ?_
      exact XS.goto X_31.here hx rfl (pc0 := 94) (pc' := 98) rfl (hb hby at_94) (by decide) (by decide) kK
  show Goes pP eE bB _ (T_31.setTop (mkF mM 98 #[.val (.int p1), .val (.int p2), .val (.int p3), .val (.ref b_1), .unset, .unset, .unset, .unset] [(.int (if (p1 &&& (32 : Int32)) = (0 : Int32) then (0 : Int32) else 1)), (.ref b_1)]))
  have u_33 := Nat.le_trans u_29 K_31.1
  have u_34 := u_30.keep K_31
  refine Goes.callV X_31 hx hZ hown (hw _ (List.mem_of_getElem? (i := 65) rfl)) (hw _ (List.mem_of_getElem? (i := 66) rfl)) (notFace_of_selects (args := #[]) (mvT hZ (hw _ (List.mem_of_getElem? (i := 68) rfl)))) (hw _ (List.mem_of_getElem? (i := 68) rfl)) (hw _ (List.mem_of_getElem? (i := 67) rfl)) (hw _ (List.mem_of_getElem? (i := 69) rfl)) (hw _ (List.mem_of_getElem? (i := 2) rfl)) (by decide) e_31 u_34 (rmA5 l Z a0 hw b_1 w_7 t_7 (if (p1 &&& (32 : Int32)) = (0 : Int32) then (0 : Int32) else 1) W_31 h_31 n0 u_33 R_31 u_34 u_2 u_9 u_11 (Nat.ne_of_lt u_8) (Nat.ne_of_lt u_10) d_7) (W := 0) (by decide) (by decide) (by decide) (by decide) (g := (mkF mM 98 #[.val (.int p1), .val (.int p2), .val (.int p3), .val (.ref b_1), .unset, .unset, .unset, .unset] [(.int (if (p1 &&& (32 : Int32)) = (0 : Int32) then (0 : Int32) else 1)), (.ref b_1)])) rfl (by rw [hml]; rfl) (rest := []) own_pd9 rfl rfl (by show 2 * 0 + _ ≤ _; exact Nat.le_of_eq rfl) (hb hby at_98) ?_
  intro v_35 T_35 L_35 X_35 hQ_35
  generalize e_35 : T_35.heap = h_35 at hQ_35
  obtain ⟨rfl, N_35q, K_35, R_35⟩ := hQ_35
  have N_35 := Fr.app N_31 N_35q
  have T_35b : ∀ j, (if (if (p1 &&& (32 : Int32)) = (0 : Int32) then (0 : Int32) else 1) = (0 : Int32) then W_31 else own_mk W_31 (5 : Int32) (1 : Int32)).toBitVec.getLsbD j = (decide (j < 5 + 1) && p1.toBitVec.getLsbD j) := own_add (by decide) (by decide) (by decide) T_31b
  obtain ⟨W_35, hW_35⟩ : ∃ z : Int64, z = (if (if (p1 &&& (32 : Int32)) = (0 : Int32) then (0 : Int32) else 1) = (0 : Int32) then W_31 else own_mk W_31 (5 : Int32) (1 : Int32)) := ⟨_, rfl⟩
  rw [← hW_35] at R_35 T_35b
  show Goes pP eE bB _ (T_35.setTop (mkF mM 101 #[.val (.int p1), .val (.int p2), .val (.int p3), .val (.ref b_1), .unset, .unset, .unset, .unset] []))
  refine Goes.step (fun _ kK => XS.iloadN X_35.here hx rfl (hb hby at_101) rfl kK) ?_
  show Goes pP eE bB _ (T_35.setTop (mkF mM 102 #[.val (.int p1), .val (.int p2), .val (.int p3), .val (.ref b_1), .unset, .unset, .unset, .unset] [(.int p3)]))
  refine Goes.step (fun _ kK => XS.iconst X_35.here hx rfl (hb hby at_102) kK) ?_
  show Goes pP eE bB _ (T_35.setTop (mkF mM 103 #[.val (.int p1), .val (.int p2), .val (.int p3), .val (.ref b_1), .unset, .unset, .unset, .unset] [(.int (1 : Int32)), (.int p3)]))
  refine Goes.step (fun _ kK => XS.iushr X_35.here hx rfl (hb hby at_103) rfl kK) ?_
  show Goes pP eE bB _ (T_35.setTop (mkF mM 104 #[.val (.int p1), .val (.int p2), .val (.int p3), .val (.ref b_1), .unset, .unset, .unset, .unset] [(.int ((p3.toUInt32 >>> ((1 : Int32) &&& 31).toUInt32).toInt32))]))
  refine Goes.step (fun _ kK => X_35.ldcI hx hown (mvT hZ (hw _ (List.mem_of_getElem? (i := 82) rfl))) rfl (hb hby at_104) kK) ?_
  show Goes pP eE bB _ (T_35.setTop (mkF mM 106 #[.val (.int p1), .val (.int p2), .val (.int p3), .val (.ref b_1), .unset, .unset, .unset, .unset] [(.int (2147483647 : Int32)), (.int ((p3.toUInt32 >>> ((1 : Int32) &&& 31).toUInt32).toInt32))]))
  refine Goes.step (fun _ kK => XS.iand X_35.here hx rfl (hb hby at_106) rfl kK) ?_
  show Goes pP eE bB _ (T_35.setTop (mkF mM 107 #[.val (.int p1), .val (.int p2), .val (.int p3), .val (.ref b_1), .unset, .unset, .unset, .unset] [(.int (((p3.toUInt32 >>> ((1 : Int32) &&& 31).toUInt32).toInt32) &&& (2147483647 : Int32)))]))
  refine Goes.step (fun _ kK => XS.bipush X_35.here hx rfl (hb hby at_107) kK) ?_
  show Goes pP eE bB _ (T_35.setTop (mkF mM 109 #[.val (.int p1), .val (.int p2), .val (.int p3), .val (.ref b_1), .unset, .unset, .unset, .unset] [(.int (6 : Int32)), (.int (((p3.toUInt32 >>> ((1 : Int32) &&& 31).toUInt32).toInt32) &&& (2147483647 : Int32)))]))
  refine Goes.step (fun _ kK => Jvm.RoadKit.iremM X_35 hx rfl (hb hby at_109) rfl (by decide) kK) ?_
  show Goes pP eE bB _ (T_35.setTop (mkF mM 110 #[.val (.int p1), .val (.int p2), .val (.int p3), .val (.ref b_1), .unset, .unset, .unset, .unset] [(.int ((((p3.toUInt32 >>> ((1 : Int32) &&& 31).toUInt32).toInt32) &&& (2147483647 : Int32)) % (6 : Int32)))]))
  refine Goes.step (fun _ kK => XS.istore X_35.here hx rfl (hb hby at_110) rfl (l' := #[.val (.int p1), .val (.int p2), .val (.int p3), .val (.ref b_1), .val (.int ((((p3.toUInt32 >>> ((1 : Int32) &&& 31).toUInt32).toInt32) &&& (2147483647 : Int32)) % (6 : Int32))), .unset, .unset, .unset]) rfl kK) ?_
  show Goes pP eE bB _ (T_35.setTop (mkF mM 112 #[.val (.int p1), .val (.int p2), .val (.int p3), .val (.ref b_1), .val (.int ((((p3.toUInt32 >>> ((1 : Int32) &&& 31).toUInt32).toInt32) &&& (2147483647 : Int32)) % (6 : Int32))), .unset, .unset, .unset] []))
  obtain ⟨qq, h_qq⟩ : ∃ z : Int32, z = ((((p3.toUInt32 >>> ((1 : Int32) &&& 31).toUInt32).toInt32) &&& (2147483647 : Int32)) % (6 : Int32)) := ⟨_, rfl⟩
  rw [← h_qq]
  obtain ⟨iq, hqi, hq6⟩ := own_mod6 ((p3.toUInt32 >>> ((1 : Int32) &&& 31).toUInt32).toInt32)
  rw [← h_qq] at hqi
  show Goes pP eE bB _ (T_35.setTop (mkF mM 112 #[.val (.int p1), .val (.int p2), .val (.int p3), .val (.ref b_1), .val (.int qq), .unset, .unset, .unset] []))
  refine Goes.step (fun _ kK => XS.iloadN X_35.here hx rfl (hb hby at_112) rfl kK) ?_
  show Goes pP eE bB _ (T_35.setTop (mkF mM 113 #[.val (.int p1), .val (.int p2), .val (.int p3), .val (.ref b_1), .val (.int qq), .unset, .unset, .unset] [(.int p3)]))
  refine Goes.step (fun _ kK => XS.iconst X_35.here hx rfl (hb hby at_113) kK) ?_
  show Goes pP eE bB _ (T_35.setTop (mkF mM 114 #[.val (.int p1), .val (.int p2), .val (.int p3), .val (.ref b_1), .val (.int qq), .unset, .unset, .unset] [(.int (1 : Int32)), (.int p3)]))
  refine Goes.step (fun _ kK => XS.iand X_35.here hx rfl (hb hby at_114) rfl kK) ?_
  show Goes pP eE bB _ (T_35.setTop (mkF mM 115 #[.val (.int p1), .val (.int p2), .val (.int p3), .val (.ref b_1), .val (.int qq), .unset, .unset, .unset] [(.int (p3 &&& (1 : Int32)))]))
  refine Goes.step (t' := T_35.setTop (mkF mM 123 #[.val (.int p1), .val (.int p2), .val (.int p3), .val (.ref b_1), .val (.int qq), .unset, .unset, .unset] [(.int (if (p3 &&& (1 : Int32)) = (0 : Int32) then (0 : Int32) else 1))])) (fun _ kK => ?_) ?_
  · by_cases hc_36 : (p3 &&& (1 : Int32)) = (0 : Int32)
    · rw [if_pos hc_36] at kK
      refine XS.ifYes X_35.here hx rfl (pc0 := 115) (pc' := 122) rfl (hb hby at_115) rfl ((if0 _ _).trans (teq hc_36).1) (by decide) (by decide) ?_
      exact XS.iconst X_35.here hx rfl (hb hby at_122) kK
    · rw [if_neg hc_36] at kK
      refine XS.ifNo X_35.here hx rfl (hb hby at_115) rfl ((if0 _ _).trans (feq hc_36).1) ?_
      refine XS.iconst X_35.here hx rfl (hb hby at_118) ?_
      exact XS.goto X_35.here hx rfl (pc0 := 119) (pc' := 123) rfl (hb hby at_119) (by decide) (by decide) kK
  show Goes pP eE bB _ (T_35.setTop (mkF mM 123 #[.val (.int p1), .val (.int p2), .val (.int p3), .val (.ref b_1), .val (.int qq), .unset, .unset, .unset] [(.int (if (p3 &&& (1 : Int32)) = (0 : Int32) then (0 : Int32) else 1))]))
  refine Goes.step (fun _ kK => XS.istore X_35.here hx rfl (hb hby at_123) rfl (l' := #[.val (.int p1), .val (.int p2), .val (.int p3), .val (.ref b_1), .val (.int qq), .val (.int (if (p3 &&& (1 : Int32)) = (0 : Int32) then (0 : Int32) else 1)), .unset, .unset]) rfl kK) ?_
  show Goes pP eE bB _ (T_35.setTop (mkF mM 125 #[.val (.int p1), .val (.int p2), .val (.int p3), .val (.ref b_1), .val (.int qq), .val (.int (if (p3 &&& (1 : Int32)) = (0 : Int32) then (0 : Int32) else 1)), .unset, .unset] []))
  have hm01 : (if (p3 &&& (1 : Int32)) = (0 : Int32) then (0 : Int32) else 1) = 0 ∨ (if (p3 &&& (1 : Int32)) = (0 : Int32) then (0 : Int32) else 1) = 1 := by split <;> simp
  obtain ⟨mm, h_mm⟩ : ∃ z : Int32, z = (if (p3 &&& (1 : Int32)) = (0 : Int32) then (0 : Int32) else 1) := ⟨_, rfl⟩
  rw [← h_mm]
  rw [← h_mm] at hm01
  show Goes pP eE bB _ (T_35.setTop (mkF mM 125 #[.val (.int p1), .val (.int p2), .val (.int p3), .val (.ref b_1), .val (.int qq), .val (.int mm), .unset, .unset] []))
  refine Goes.step (fun _ kK => XS.aloadN X_35.here hx rfl (hb hby at_125) rfl rfl kK) ?_
  show Goes pP eE bB _ (T_35.setTop (mkF mM 126 #[.val (.int p1), .val (.int p2), .val (.int p3), .val (.ref b_1), .val (.int qq), .val (.int mm), .unset, .unset] [(.ref b_1)]))
  refine Goes.step (fun _ kK => XS.iload X_35.here hx rfl (hb hby at_126) rfl kK) ?_
  show Goes pP eE bB _ (T_35.setTop (mkF mM 128 #[.val (.int p1), .val (.int p2), .val (.int p3), .val (.ref b_1), .val (.int qq), .val (.int mm), .unset, .unset] [(.int qq), (.ref b_1)]))
  refine Goes.step (fun _ kK => XS.iload X_35.here hx rfl (hb hby at_128) rfl kK) ?_
  show Goes pP eE bB _ (T_35.setTop (mkF mM 130 #[.val (.int p1), .val (.int p2), .val (.int p3), .val (.ref b_1), .val (.int qq), .val (.int mm), .unset, .unset] [(.int mm), (.int qq), (.ref b_1)]))
  have u_37 := Nat.le_trans u_33 K_35.1
  have u_38 := u_34.keep K_35
  refine Goes.callV X_35 hx hZ hown (hw _ (List.mem_of_getElem? (i := 83) rfl)) (hw _ (List.mem_of_getElem? (i := 84) rfl)) (notFace_of_selects (args := #[]) (mvT hZ (hw _ (List.mem_of_getElem? (i := 86) rfl)))) (hw _ (List.mem_of_getElem? (i := 86) rfl)) (hw _ (List.mem_of_getElem? (i := 85) rfl)) (hw _ (List.mem_of_getElem? (i := 87) rfl)) (hw _ (List.mem_of_getElem? (i := 2) rfl)) (by decide) e_35 u_38 (rmK l Z a0 hw b_1 w_7 t_7 qq mm W_35 (6 : Int32) h_35 n0 u_37 R_35 u_38 u_2 u_9 u_11 (Nat.ne_of_lt u_8) (Nat.ne_of_lt u_10) d_7 (own_d64 hqi hq6) (by decide)) (W := 0) (by decide) (by decide) (by decide) (by decide) (g := (mkF mM 130 #[.val (.int p1), .val (.int p2), .val (.int p3), .val (.ref b_1), .val (.int qq), .val (.int mm), .unset, .unset] [(.int mm), (.int qq), (.ref b_1)])) rfl (by rw [hml]; rfl) (rest := []) own_pd8 rfl rfl (by show 2 * 0 + _ ≤ _; exact Nat.le_of_eq rfl) (hb hby at_130) ?_
  intro v_39 T_39 L_39 X_39 hQ_39
  generalize e_39 : T_39.heap = h_39 at hQ_39
  obtain ⟨rfl, N_39q, K_39, R_39⟩ := hQ_39
  have N_39 := Fr.app N_35 N_39q
  show Goes pP eE bB _ (T_39.setTop (mkF mM 133 #[.val (.int p1), .val (.int p2), .val (.int p3), .val (.ref b_1), .val (.int qq), .val (.int mm), .unset, .unset] []))
  refine Goes.step (fun _ kK => XS.iloadN X_39.here hx rfl (hb hby at_133) rfl kK) ?_
  show Goes pP eE bB _ (T_39.setTop (mkF mM 134 #[.val (.int p1), .val (.int p2), .val (.int p3), .val (.ref b_1), .val (.int qq), .val (.int mm), .unset, .unset] [(.int p2)]))
  refine Goes.step (fun _ kK => X_39.ldcI hx hown (mvT hZ (hw _ (List.mem_of_getElem? (i := 82) rfl))) rfl (hb hby at_134) kK) ?_
  show Goes pP eE bB _ (T_39.setTop (mkF mM 136 #[.val (.int p1), .val (.int p2), .val (.int p3), .val (.ref b_1), .val (.int qq), .val (.int mm), .unset, .unset] [(.int (2147483647 : Int32)), (.int p2)]))
  refine Goes.step (fun _ kK => XS.iand X_39.here hx rfl (hb hby at_136) rfl kK) ?_
  show Goes pP eE bB _ (T_39.setTop (mkF mM 137 #[.val (.int p1), .val (.int p2), .val (.int p3), .val (.ref b_1), .val (.int qq), .val (.int mm), .unset, .unset] [(.int (p2 &&& (2147483647 : Int32)))]))
  refine Goes.step (fun _ kK => XS.bipush X_39.here hx rfl (hb hby at_137) kK) ?_
  show Goes pP eE bB _ (T_39.setTop (mkF mM 139 #[.val (.int p1), .val (.int p2), .val (.int p3), .val (.ref b_1), .val (.int qq), .val (.int mm), .unset, .unset] [(.int (6 : Int32)), (.int (p2 &&& (2147483647 : Int32)))]))
  refine Goes.step (fun _ kK => Jvm.RoadKit.iremM X_39 hx rfl (hb hby at_139) rfl (by decide) kK) ?_
  show Goes pP eE bB _ (T_39.setTop (mkF mM 140 #[.val (.int p1), .val (.int p2), .val (.int p3), .val (.ref b_1), .val (.int qq), .val (.int mm), .unset, .unset] [(.int ((p2 &&& (2147483647 : Int32)) % (6 : Int32)))]))
  refine Goes.step (fun _ kK => XS.istore X_39.here hx rfl (hb hby at_140) rfl (l' := #[.val (.int p1), .val (.int p2), .val (.int p3), .val (.ref b_1), .val (.int qq), .val (.int mm), .val (.int ((p2 &&& (2147483647 : Int32)) % (6 : Int32))), .unset]) rfl kK) ?_
  show Goes pP eE bB _ (T_39.setTop (mkF mM 142 #[.val (.int p1), .val (.int p2), .val (.int p3), .val (.ref b_1), .val (.int qq), .val (.int mm), .val (.int ((p2 &&& (2147483647 : Int32)) % (6 : Int32))), .unset] []))
  obtain ⟨pp, h_pp⟩ : ∃ z : Int32, z = ((p2 &&& (2147483647 : Int32)) % (6 : Int32)) := ⟨_, rfl⟩
  rw [← h_pp]
  obtain ⟨ip, hpi, hp6⟩ := own_mod6 p2
  rw [← h_pp] at hpi
  show Goes pP eE bB _ (T_39.setTop (mkF mM 142 #[.val (.int p1), .val (.int p2), .val (.int p3), .val (.ref b_1), .val (.int qq), .val (.int mm), .val (.int pp), .unset] []))
  refine Goes.step (fun _ kK => XS.iload X_39.here hx rfl (hb hby at_142) rfl kK) ?_
  show Goes pP eE bB _ (T_39.setTop (mkF mM 144 #[.val (.int p1), .val (.int p2), .val (.int p3), .val (.ref b_1), .val (.int qq), .val (.int mm), .val (.int pp), .unset] [(.int pp)]))
  refine Goes.step (fun _ kK => XS.iload X_39.here hx rfl (hb hby at_144) rfl kK) ?_
  show Goes pP eE bB _ (T_39.setTop (mkF mM 146 #[.val (.int p1), .val (.int p2), .val (.int p3), .val (.ref b_1), .val (.int qq), .val (.int mm), .val (.int pp), .unset] [(.int qq), (.int pp)]))
  by_cases hc_40 : pp = qq
  · refine Goes.step (fun _ kK => XS.icmpNo X_39.here hx rfl (hb hby at_146) rfl (teq hc_40).2 kK) ?_
    show Goes pP eE bB _ (T_39.setTop (mkF mM 149 #[.val (.int p1), .val (.int p2), .val (.int p3), .val (.ref b_1), .val (.int qq), .val (.int mm), .val (.int pp), .unset] []))
    refine Goes.step (fun _ kK => XS.iload X_39.here hx rfl (hb hby at_149) rfl kK) ?_
    show Goes pP eE bB _ (T_39.setTop (mkF mM 151 #[.val (.int p1), .val (.int p2), .val (.int p3), .val (.ref b_1), .val (.int qq), .val (.int mm), .val (.int pp), .unset] [(.int mm)]))
    refine Goes.step (fun _ kK => XS.istore X_39.here hx rfl (hb hby at_151) rfl (l' := #[.val (.int p1), .val (.int p2), .val (.int p3), .val (.ref b_1), .val (.int qq), .val (.int mm), .val (.int pp), .val (.int mm)]) rfl kK) ?_
    show Goes pP eE bB _ (T_39.setTop (mkF mM 153 #[.val (.int p1), .val (.int p2), .val (.int p3), .val (.ref b_1), .val (.int qq), .val (.int mm), .val (.int pp), .val (.int mm)] []))
    refine Goes.step (fun _ kK => XS.goto X_39.here hx rfl (pc0 := 153) (pc' := 172) rfl (hb hby at_153) (by decide) (by decide) kK) ?_
    show Goes pP eE bB _ (T_39.setTop (mkF mM 172 #[.val (.int p1), .val (.int p2), .val (.int p3), .val (.ref b_1), .val (.int qq), .val (.int mm), .val (.int pp), .val (.int mm)] []))
    refine Goes.step (fun _ kK => XS.aloadN X_39.here hx rfl (hb hby at_172) rfl rfl kK) ?_
    show Goes pP eE bB _ (T_39.setTop (mkF mM 173 #[.val (.int p1), .val (.int p2), .val (.int p3), .val (.ref b_1), .val (.int qq), .val (.int mm), .val (.int pp), .val (.int mm)] [(.ref b_1)]))
    refine Goes.step (fun _ kK => XS.iload X_39.here hx rfl (hb hby at_173) rfl kK) ?_
    show Goes pP eE bB _ (T_39.setTop (mkF mM 175 #[.val (.int p1), .val (.int p2), .val (.int p3), .val (.ref b_1), .val (.int qq), .val (.int mm), .val (.int pp), .val (.int mm)] [(.int pp), (.ref b_1)]))
    have u_41 := Nat.le_trans u_37 K_39.1
    have u_43 := u_38.keep K_39
    refine Goes.callV X_39 hx hZ hown (hw _ (List.mem_of_getElem? (i := 93) rfl)) (hw _ (List.mem_of_getElem? (i := 89) rfl)) (notFace_of_selects (args := #[]) (mvT hZ (hw _ (List.mem_of_getElem? (i := 91) rfl)))) (hw _ (List.mem_of_getElem? (i := 91) rfl)) (hw _ (List.mem_of_getElem? (i := 90) rfl)) (hw _ (List.mem_of_getElem? (i := 92) rfl)) (hw _ (List.mem_of_getElem? (i := 2) rfl)) (by decide) e_39 u_43 (rmM l Z a0 hw b_1 w_7 t_7 pp (own_mk W_35 qq mm) (6 : Int32) h_39 n0 u_41 R_39 (own_d64 hpi hp6)) (W := 0) (by decide) (by decide) (by decide) (by decide) (g := (mkF mM 175 #[.val (.int p1), .val (.int p2), .val (.int p3), .val (.ref b_1), .val (.int qq), .val (.int mm), .val (.int pp), .val (.int mm)] [(.int pp), (.ref b_1)])) rfl (by rw [hml]; rfl) (rest := []) own_pd7 rfl rfl (by show 2 * 0 + _ ≤ _; exact Nat.le_of_eq rfl) (hb hby at_175) ?_
    intro v_42 T_42 L_42 X_42 hQ_42
    obtain ⟨rfl, N_42q, e_42⟩ := hQ_42
    have N_42 := Fr.app N_39 N_42q
    show Goes pP eE bB _ (T_42.setTop (mkF mM 178 #[.val (.int p1), .val (.int p2), .val (.int p3), .val (.ref b_1), .val (.int qq), .val (.int mm), .val (.int pp), .val (.int mm)] [(.int (own_bt (own_mk W_35 qq mm) pp))]))
    refine Goes.step (fun _ kK => XS.iload X_42.here hx rfl (hb hby at_178) rfl kK) ?_
    show Goes pP eE bB _ (T_42.setTop (mkF mM 180 #[.val (.int p1), .val (.int p2), .val (.int p3), .val (.ref b_1), .val (.int qq), .val (.int mm), .val (.int pp), .val (.int mm)] [(.int mm), (.int (own_bt (own_mk W_35 qq mm) pp))]))
    have hb_44 : (own_bt (own_mk W_35 qq mm) pp) = mm := (by subst hc_40; rw [own_btT hqi hq6, own_mkT hqi hq6 hm01, if_pos rfl]; rcases hm01 with q | q <;> simp [q])
    refine Goes.step (fun _ kK => XS.icmpNo X_42.here hx rfl (hb hby at_180) rfl (teq hb_44).2 kK) ?_
    show Goes pP eE bB _ (T_42.setTop (mkF mM 183 #[.val (.int p1), .val (.int p2), .val (.int p3), .val (.ref b_1), .val (.int qq), .val (.int mm), .val (.int pp), .val (.int mm)] []))
    refine Goes.step (fun _ kK => XS.iconst X_42.here hx rfl (hb hby at_183) kK) ?_
    show Goes pP eE bB _ (T_42.setTop (mkF mM 184 #[.val (.int p1), .val (.int p2), .val (.int p3), .val (.ref b_1), .val (.int qq), .val (.int mm), .val (.int pp), .val (.int mm)] [(.int (1 : Int32))]))
    refine Goes.step (fun _ kK => XS.goto X_42.here hx rfl (pc0 := 184) (pc' := 188) rfl (hb hby at_184) (by decide) (by decide) kK) ?_
    show Goes pP eE bB _ (T_42.setTop (mkF mM 188 #[.val (.int p1), .val (.int p2), .val (.int p3), .val (.ref b_1), .val (.int qq), .val (.int mm), .val (.int pp), .val (.int mm)] [(.int (1 : Int32))]))
    refine Goes.retN X_42 hx hlk (t := .boolean) hret (by simp) (hb hby at_188) (by decide) (by decide) ?_
    exact ⟨rfl, N_42⟩
  · refine Goes.step (fun _ kK => XS.icmpYes X_39.here hx rfl (pc0 := 146) (pc' := 156) rfl (hb hby at_146) rfl (feq hc_40).2 (by decide) (by decide) kK) ?_
    show Goes pP eE bB _ (T_39.setTop (mkF mM 156 #[.val (.int p1), .val (.int p2), .val (.int p3), .val (.ref b_1), .val (.int qq), .val (.int mm), .val (.int pp), .unset] []))
    refine Goes.step (fun _ kK => XS.iloadN X_39.here hx rfl (hb hby at_156) rfl kK) ?_
    show Goes pP eE bB _ (T_39.setTop (mkF mM 157 #[.val (.int p1), .val (.int p2), .val (.int p3), .val (.ref b_1), .val (.int qq), .val (.int mm), .val (.int pp), .unset] [(.int p1)]))
    refine Goes.step (fun _ kK => XS.iload X_39.here hx rfl (hb hby at_157) rfl kK) ?_
    show Goes pP eE bB _ (T_39.setTop (mkF mM 159 #[.val (.int p1), .val (.int p2), .val (.int p3), .val (.ref b_1), .val (.int qq), .val (.int mm), .val (.int pp), .unset] [(.int pp), (.int p1)]))
    refine Goes.step (fun _ kK => XS.iushr X_39.here hx rfl (hb hby at_159) rfl kK) ?_
    show Goes pP eE bB _ (T_39.setTop (mkF mM 160 #[.val (.int p1), .val (.int p2), .val (.int p3), .val (.ref b_1), .val (.int qq), .val (.int mm), .val (.int pp), .unset] [(.int ((p1.toUInt32 >>> (pp &&& 31).toUInt32).toInt32))]))
    refine Goes.step (fun _ kK => XS.iconst X_39.here hx rfl (hb hby at_160) kK) ?_
    show Goes pP eE bB _ (T_39.setTop (mkF mM 161 #[.val (.int p1), .val (.int p2), .val (.int p3), .val (.ref b_1), .val (.int qq), .val (.int mm), .val (.int pp), .unset] [(.int (1 : Int32)), (.int ((p1.toUInt32 >>> (pp &&& 31).toUInt32).toInt32))]))
    refine Goes.step (fun _ kK => XS.iand X_39.here hx rfl (hb hby at_161) rfl kK) ?_
    show Goes pP eE bB _ (T_39.setTop (mkF mM 162 #[.val (.int p1), .val (.int p2), .val (.int p3), .val (.ref b_1), .val (.int qq), .val (.int mm), .val (.int pp), .unset] [(.int (((p1.toUInt32 >>> (pp &&& 31).toUInt32).toInt32) &&& (1 : Int32)))]))
    refine Goes.step (t' := T_39.setTop (mkF mM 170 #[.val (.int p1), .val (.int p2), .val (.int p3), .val (.ref b_1), .val (.int qq), .val (.int mm), .val (.int pp), .unset] [(.int (if (((p1.toUInt32 >>> (pp &&& 31).toUInt32).toInt32) &&& (1 : Int32)) = (0 : Int32) then (0 : Int32) else 1))])) (fun _ kK => ?_) ?_
    · by_cases hc_45 : (((p1.toUInt32 >>> (pp &&& 31).toUInt32).toInt32) &&& (1 : Int32)) = (0 : Int32)
      · rw [if_pos hc_45] at kK
        refine XS.ifYes X_39.here hx rfl (pc0 := 162) (pc' := 169) rfl (hb hby at_162) rfl ((if0 _ _).trans (teq hc_45).1) (by decide) (by decide) ?_
        exact XS.iconst X_39.here hx rfl (hb hby at_169) kK
      · rw [if_neg hc_45] at kK
        refine XS.ifNo X_39.here hx rfl (hb hby at_162) rfl ((if0 _ _).trans (feq hc_45).1) ?_
        refine XS.iconst X_39.here hx rfl (hb hby at_165) ?_
        exact XS.goto X_39.here hx rfl (pc0 := 166) (pc' := 170) rfl (hb hby at_166) (by decide) (by decide) kK
    show Goes pP eE bB _ (T_39.setTop (mkF mM 170 #[.val (.int p1), .val (.int p2), .val (.int p3), .val (.ref b_1), .val (.int qq), .val (.int mm), .val (.int pp), .unset] [(.int (if (((p1.toUInt32 >>> (pp &&& 31).toUInt32).toInt32) &&& (1 : Int32)) = (0 : Int32) then (0 : Int32) else 1))]))
    refine Goes.step (fun _ kK => XS.istore X_39.here hx rfl (hb hby at_170) rfl (l' := #[.val (.int p1), .val (.int p2), .val (.int p3), .val (.ref b_1), .val (.int qq), .val (.int mm), .val (.int pp), .val (.int (if (((p1.toUInt32 >>> (pp &&& 31).toUInt32).toInt32) &&& (1 : Int32)) = (0 : Int32) then (0 : Int32) else 1))]) rfl kK) ?_
    show Goes pP eE bB _ (T_39.setTop (mkF mM 172 #[.val (.int p1), .val (.int p2), .val (.int p3), .val (.ref b_1), .val (.int qq), .val (.int mm), .val (.int pp), .val (.int (if (((p1.toUInt32 >>> (pp &&& 31).toUInt32).toInt32) &&& (1 : Int32)) = (0 : Int32) then (0 : Int32) else 1))] []))
    refine Goes.step (fun _ kK => XS.aloadN X_39.here hx rfl (hb hby at_172) rfl rfl kK) ?_
    show Goes pP eE bB _ (T_39.setTop (mkF mM 173 #[.val (.int p1), .val (.int p2), .val (.int p3), .val (.ref b_1), .val (.int qq), .val (.int mm), .val (.int pp), .val (.int (if (((p1.toUInt32 >>> (pp &&& 31).toUInt32).toInt32) &&& (1 : Int32)) = (0 : Int32) then (0 : Int32) else 1))] [(.ref b_1)]))
    refine Goes.step (fun _ kK => XS.iload X_39.here hx rfl (hb hby at_173) rfl kK) ?_
    show Goes pP eE bB _ (T_39.setTop (mkF mM 175 #[.val (.int p1), .val (.int p2), .val (.int p3), .val (.ref b_1), .val (.int qq), .val (.int mm), .val (.int pp), .val (.int (if (((p1.toUInt32 >>> (pp &&& 31).toUInt32).toInt32) &&& (1 : Int32)) = (0 : Int32) then (0 : Int32) else 1))] [(.int pp), (.ref b_1)]))
    have u_46 := Nat.le_trans u_37 K_39.1
    have u_48 := u_38.keep K_39
    refine Goes.callV X_39 hx hZ hown (hw _ (List.mem_of_getElem? (i := 93) rfl)) (hw _ (List.mem_of_getElem? (i := 89) rfl)) (notFace_of_selects (args := #[]) (mvT hZ (hw _ (List.mem_of_getElem? (i := 91) rfl)))) (hw _ (List.mem_of_getElem? (i := 91) rfl)) (hw _ (List.mem_of_getElem? (i := 90) rfl)) (hw _ (List.mem_of_getElem? (i := 92) rfl)) (hw _ (List.mem_of_getElem? (i := 2) rfl)) (by decide) e_39 u_48 (rmM l Z a0 hw b_1 w_7 t_7 pp (own_mk W_35 qq mm) (6 : Int32) h_39 n0 u_46 R_39 (own_d64 hpi hp6)) (W := 0) (by decide) (by decide) (by decide) (by decide) (g := (mkF mM 175 #[.val (.int p1), .val (.int p2), .val (.int p3), .val (.ref b_1), .val (.int qq), .val (.int mm), .val (.int pp), .val (.int (if (((p1.toUInt32 >>> (pp &&& 31).toUInt32).toInt32) &&& (1 : Int32)) = (0 : Int32) then (0 : Int32) else 1))] [(.int pp), (.ref b_1)])) rfl (by rw [hml]; rfl) (rest := []) own_pd7 rfl rfl (by show 2 * 0 + _ ≤ _; exact Nat.le_of_eq rfl) (hb hby at_175) ?_
    intro v_47 T_47 L_47 X_47 hQ_47
    obtain ⟨rfl, N_47q, e_47⟩ := hQ_47
    have N_47 := Fr.app N_39 N_47q
    show Goes pP eE bB _ (T_47.setTop (mkF mM 178 #[.val (.int p1), .val (.int p2), .val (.int p3), .val (.ref b_1), .val (.int qq), .val (.int mm), .val (.int pp), .val (.int (if (((p1.toUInt32 >>> (pp &&& 31).toUInt32).toInt32) &&& (1 : Int32)) = (0 : Int32) then (0 : Int32) else 1))] [(.int (own_bt (own_mk W_35 qq mm) pp))]))
    refine Goes.step (fun _ kK => XS.iload X_47.here hx rfl (hb hby at_178) rfl kK) ?_
    show Goes pP eE bB _ (T_47.setTop (mkF mM 180 #[.val (.int p1), .val (.int p2), .val (.int p3), .val (.ref b_1), .val (.int qq), .val (.int mm), .val (.int pp), .val (.int (if (((p1.toUInt32 >>> (pp &&& 31).toUInt32).toInt32) &&& (1 : Int32)) = (0 : Int32) then (0 : Int32) else 1))] [(.int (if (((p1.toUInt32 >>> (pp &&& 31).toUInt32).toInt32) &&& (1 : Int32)) = (0 : Int32) then (0 : Int32) else 1)), (.int (own_bt (own_mk W_35 qq mm) pp))]))
    have hb_49 : (own_bt (own_mk W_35 qq mm) pp) = (if (((p1.toUInt32 >>> (pp &&& 31).toUInt32).toInt32) &&& (1 : Int32)) = (0 : Int32) then (0 : Int32) else 1) := (by
      have hne : ¬ ip = iq := fun q => hc_40 (by rw [← Int32.toInt_inj, hpi, hqi, q])
      rw [own_btT hpi hp6, own_mkT hqi hq6 hm01, if_neg hne, T_35b]
      have eu := own_ushr (x := p1) hpi hp6
      cases hb : p1.toBitVec.getLsbD ip
      · rw [if_pos (eu.mpr hb)]; simp
      · rw [if_neg ((not_congr eu).mpr (by rw [hb]; decide))]; simp [hp6])
    refine Goes.step (fun _ kK => XS.icmpNo X_47.here hx rfl (hb hby at_180) rfl (teq hb_49).2 kK) ?_
    show Goes pP eE bB _ (T_47.setTop (mkF mM 183 #[.val (.int p1), .val (.int p2), .val (.int p3), .val (.ref b_1), .val (.int qq), .val (.int mm), .val (.int pp), .val (.int (if (((p1.toUInt32 >>> (pp &&& 31).toUInt32).toInt32) &&& (1 : Int32)) = (0 : Int32) then (0 : Int32) else 1))] []))
    refine Goes.step (fun _ kK => XS.iconst X_47.here hx rfl (hb hby at_183) kK) ?_
    show Goes pP eE bB _ (T_47.setTop (mkF mM 184 #[.val (.int p1), .val (.int p2), .val (.int p3), .val (.ref b_1), .val (.int qq), .val (.int mm), .val (.int pp), .val (.int (if (((p1.toUInt32 >>> (pp &&& 31).toUInt32).toInt32) &&& (1 : Int32)) = (0 : Int32) then (0 : Int32) else 1))] [(.int (1 : Int32))]))
    refine Goes.step (fun _ kK => XS.goto X_47.here hx rfl (pc0 := 184) (pc' := 188) rfl (hb hby at_184) (by decide) (by decide) kK) ?_
    show Goes pP eE bB _ (T_47.setTop (mkF mM 188 #[.val (.int p1), .val (.int p2), .val (.int p3), .val (.ref b_1), .val (.int qq), .val (.int mm), .val (.int pp), .val (.int (if (((p1.toUInt32 >>> (pp &&& 31).toUInt32).toInt32) &&& (1 : Int32)) = (0 : Int32) then (0 : Int32) else 1))] [(.int (1 : Int32))]))
    refine Goes.retN X_47 hx hlk (t := .boolean) hret (by simp) (hb hby at_188) (by decide) (by decide) ?_
    exact ⟨rfl, N_47⟩
set_option maxRecDepth 65536 in
set_option maxHeartbeats 40000000 in
theorem comes_1 {Post : Tables → Env → Array Value → State → Outcome → State → Prop} (hpost : ∀ tb e args s v u, (limb_1_1.after args s (.returned v) u = true ∧ limb_1_2.after args s (.returned v) u = true ∧ True) → FrameEnd s (.returned v) u (Jvm.fieldLocs frame_1_writes args s ++ Jvm.arrayLocs frame_1_arrays args s ++ Jvm.staticLocs frame_1_statics s) 24 128 → Post tb e args s (.returned v) u) :
    ArmFor flags0 classFile x code maxLocals ret World_1 tables_1 room_1 Calls_1 rest_1 Pre_1 Post := by
  intro l hfl _ _ p e ha hc hk s m args below hf hA hF happ hP
  obtain ⟨hcalls, hrest, hpre⟩ := hP
  obtain ⟨-, -, -, hnamed, -, -, -, hat⟩ := (Spec.applies_iff hf).mp happ
  obtain ⟨hg, hn⟩ := and_e (Cond.before_iff.mp (show (Jvm.Cond.and given_1 narrow_1).before args s = true from hpre))
  obtain ⟨hcnt, g0⟩ := and_e hg
  obtain ⟨q0, g1⟩ := and_e g0
  obtain ⟨q1, g2⟩ := and_e g1
  have q2 := g2
  obtain ⟨w0, w1, w2, rfl⟩ : ∃ w0 w1 w2 : Value, args = #[w0, w1, w2] := by
    have hs : args.size = 3 := by simpa [Cond.value, given_1] using hcnt
    obtain ⟨L⟩ := args
    match L, hs with
    | [w0, w1, w2], _ => exact ⟨w0, w1, w2, rfl⟩
  have hw := fun d (hd : d ∈ tables_1) => atoms_spec (ws := Jvm.Cond.code x code maxLocals ret :: tables_1) hat d (List.mem_cons_of_mem _ hd)
  obtain ⟨i0, e0⟩ := is_v q0
  obtain rfl : w0 = (.int i0) := Option.some.inj e0
  obtain ⟨i1, e1⟩ := is_v q1
  obtain rfl : w1 = (.int i1) := Option.some.inj e1
  obtain ⟨i2, e2⟩ := is_v q2
  obtain rfl : w2 = (.int i2) := Option.some.inj e2
  obtain ⟨n, o, h1, h2, h3, _, L, rfl, ⟨rfl, N⟩, hq⟩ := rm0 l s _ hw i0 i1 i2 s.heap s.heap.size (Nat.le_refl _) tables_1 p e ha hc hk s m _ below hf ((Spec.applies_iff_loose hf).mp happ).1 ⟨rfl, State.Warmed39.refl s, rfl⟩ trivial
  refine ⟨n, _, h1, h2, h3, hpost _ _ _ _ _ _ ⟨Cond.after_iff.mpr rfl, Cond.after_iff.mpr (eq_i res_at (Term.int_eval (1)) rfl), trivial⟩ ⟨hq.1, hq.2.1, (hq.2.2.sift fun y hy => Or.inr (N y hy)).mono (by decide) (by decide)⟩⟩
theorem main_1_1 : Claimed_1_1 := comes_1 fun _ _ _ _ _ _ h hF => ⟨h.1, hF⟩
theorem main_1_2 : Claimed_1_2 := comes_1 fun _ _ _ _ _ _ h hF => ⟨h.2.1, hF⟩
end Jvm.Pilot.@@N@@
namespace Jvm.Pilot.@@N@@
open Jvm Jvm.ClassFile Sem Op Lib Jvm.Free Jvm.Stand Jvm.Pilot.@@N@@.Jvm.D
/-! MADE BY PROGRAM (witnessworld.py) out of the Statement's table words and the real class files: 20 classes; the members and pool entries that the words name. The judged class is class 1, her method 1. -/
namespace start1
open Jvm.ClassFile
def u (s : String) : CpInfo := .utf8 (stringToUtf16 s)
/-- a pool by its gaps: so many unusable entries, then the entry; so many at the end -/
def gap : Nat → List CpInfo → List CpInfo
  | 0, r => r
  | n + 1, r => .unusable :: gap n r
def poolList (es : List (Nat × CpInfo)) (last : Nat) : List CpInfo := es.foldr (fun e r => gap e.1 (e.2 :: r)) (gap last [])
def pool (es : List (Nat × CpInfo)) (last : Nat) : Array CpInfo := ⟨poolList es last⟩
def fileOf (pool : Array CpInfo) (this : Nat) (attrs : Array Attribute := #[]) (ms : Array MethodInfo := #[]) (fl : Nat := 33) (sup : Nat := 0) (ifs : Array Nat := #[]) (fds : Array FieldInfo := #[]) : ClassFile where
  minorVersion := 0
  majorVersion := 65
  constantPool := pool
  accessFlags := fl
  thisClass := this
  superClass := sup
  interfaces := ifs
  fields := fds
  methods := ms
  attributes := attrs
def plain (name : String) (sup : Option ClassId) : Class where
  name := name
  kind := .ordinary
  loader := none
  accessFlags := 33
  super := sup
  interfaces := #[]
  cf := none
  fields := #[]
  methods := #[]
  instanceTypes := #[]
  staticTypes := #[]
  resolved := #[]
  callSites := []
  init := .initialized
  statics := none
  mirror := none

def pool0 : Array CpInfo := pool [(5, u "<init>"), (0, u "()V"), (1, .class_ 10), (1, u "java/lang/Object")] 113

def k0c0 : Code := { maxStack := 0, maxLocals := 1, code := object_method_1_code, exceptionTable := #[], attributes := #[] }
def k0m0 : Method := { name := "<init>", desc := "()V", sig := { parameters := [], returnType := none }, accessFlags := 1, code := some k0c0 }
/-- java/lang/Object -/
def k0 : Class := { plain "java/lang/Object" none with
  accessFlags := 33
  interfaces := #[]
  cf := some (fileOf pool0 8 #[] #[{ accessFlags := 1, nameIndex := 5, descriptorIndex := 6, attributes := #[] }] 33 0 #[] #[])
  fields := #[]
  methods := #[k0m0]
  instanceTypes := #[]
  staticTypes := #[]
  resolved := Array.replicate 124 none
  statics := none }

def pool1 : Array CpInfo := pool [(2, .class_ 4), (0, .nameAndType 5 6), (0, u "java/lang/Object"), (0, u "<init>"), (0, u "()V"), (0, .class_ 8), (0, u "com/example/orderly_seats/orderlyseats/model/MarkedRow"), (0, .methodref 7 3), (0, .methodref 7 11), (0, .nameAndType 12 13), (0, u "add"), (0, u "(Z)V"), (0, .integer 2147483647), (0, .methodref 7 16), (0, .nameAndType 17 18), (0, u "mark"), (0, u "(IZ)V"), (0, .methodref 7 20), (0, .nameAndType 21 22), (0, u "isMarked"), (0, u "(I)Z"), (0, .class_ 24), (0, u "com/example/orderly_seats/orderlyseats/model/MarkedRowIsMarkedPinLaw"), (2, u "law"), (0, u "(III)Z")] 3

def k1m0 : Method := { name := "<init>", desc := "()V", sig := { parameters := [], returnType := none }, accessFlags := 1, code := none }
def k1c1 : Code := { maxStack := 3, maxLocals := 8, code := code, exceptionTable := #[], attributes := #[] }
def k1m1 : Method := { name := "law", desc := "(III)Z", sig := { parameters := [.int, .int, .int], returnType := some .boolean }, accessFlags := 9, code := some k1c1 }
/-- com/example/orderly_seats/orderlyseats/model/MarkedRowIsMarkedPinLaw -/
def k1 : Class := { plain "com/example/orderly_seats/orderlyseats/model/MarkedRowIsMarkedPinLaw" (some 0) with
  accessFlags := 49
  interfaces := #[]
  cf := some (fileOf pool1 23 #[] #[{ accessFlags := 1, nameIndex := 5, descriptorIndex := 6, attributes := #[] }, { accessFlags := 9, nameIndex := 27, descriptorIndex := 28, attributes := #[] }] 49 2 #[] #[])
  fields := #[]
  methods := #[k1m0, k1m1]
  instanceTypes := #[]
  staticTypes := #[]
  resolved := Array.replicate 32 none
  statics := none }

def pool2 : Array CpInfo := pool [(1, .class_ 2), (0, u "java/util/BitSet"), (0, .methodref 1 4), (0, .nameAndType 5 6), (0, u "<init>"), (0, u "()V"), (0, .methodref 8 9), (0, .class_ 10), (0, .nameAndType 5 11), (0, u "com/example/orderly_seats/orderlyseats/model/MarkedRow"), (0, u "(Ljava/util/BitSet;I)V"), (0, .methodref 13 4), (0, .class_ 14), (0, u "java/lang/Object"), (0, .methodref 8 16), (0, .nameAndType 17 18), (0, u "wordsOf"), (0, u "(I)I"), (0, .methodref 1 20), (0, .nameAndType 21 22), (0, u "toLongArray"), (0, u "()[J"), (0, .methodref 24 25), (0, .class_ 26), (0, .nameAndType 27 28), (0, u "java/lang/Math"), (0, u "max"), (0, u "(II)I"), (0, .methodref 30 31), (0, .class_ 32), (0, .nameAndType 33 34), (0, u "java/util/Arrays"), (0, u "copyOf"), (0, u "([JI)[J"), (0, .fieldref 8 36), (0, .nameAndType 37 38), (0, u "words"), (0, u "[J"), (0, .fieldref 8 40), (0, .nameAndType 41 42), (0, u "tree"), (0, u "[I"), (0, .fieldref 8 44), (0, .nameAndType 45 46), (0, u "length"), (0, u "I"), (6, .methodref 54 55), (0, .class_ 56), (0, .nameAndType 57 18), (0, u "java/lang/Integer"), (0, u "lowestOneBit"), (0, .methodref 8 59), (0, .nameAndType 60 18), (0, u "inWords"), (0, .methodref 8 62), (0, .nameAndType 63 64), (0, u "startWord"), (0, u "(I)V"), (0, .methodref 8 66), (0, .nameAndType 67 68), (0, u "mark"), (0, u "(IZ)V"), (0, .methodref 8 70), (0, .nameAndType 71 72), (0, u "isMarked"), (0, u "(I)Z"), (9, u "add"), (0, u "(Z)V")] 2

def k2c0 : Code := { maxStack := 3, maxLocals := 1, code := prog_26_method_1_code, exceptionTable := #[], attributes := #[] }
def k2m0 : Method := { name := "<init>", desc := "()V", sig := { parameters := [], returnType := none }, accessFlags := 0, code := some k2c0 }
def k2c1 : Code := { maxStack := 5, maxLocals := 6, code := prog_26_method_2_code, exceptionTable := #[], attributes := #[] }
def k2m1 : Method := { name := "<init>", desc := "(Ljava/util/BitSet;I)V", sig := { parameters := [(.object "java/util/BitSet"), .int], returnType := none }, accessFlags := 0, code := some k2c1 }
def k2c2 : Code := { maxStack := 5, maxLocals := 2, code := prog_26_method_4_code, exceptionTable := #[], attributes := #[] }
def k2m2 : Method := { name := "isMarked", desc := "(I)Z", sig := { parameters := [.int], returnType := some .boolean }, accessFlags := 0, code := some k2c2 }
def k2c3 : Code := { maxStack := 3, maxLocals := 3, code := prog_26_method_6_code, exceptionTable := #[], attributes := #[] }
def k2m3 : Method := { name := "add", desc := "(Z)V", sig := { parameters := [.boolean], returnType := none }, accessFlags := 0, code := some k2c3 }
def k2c4 : Code := { maxStack := 7, maxLocals := 6, code := prog_26_method_7_code, exceptionTable := #[], attributes := #[] }
def k2m4 : Method := { name := "mark", desc := "(IZ)V", sig := { parameters := [.int, .boolean], returnType := none }, accessFlags := 0, code := some k2c4 }
def k2c5 : Code := { maxStack := 3, maxLocals := 4, code := prog_26_method_8_code, exceptionTable := #[], attributes := #[] }
def k2m5 : Method := { name := "inWords", desc := "(I)I", sig := { parameters := [.int], returnType := some .int }, accessFlags := 2, code := some k2c5 }
def k2c6 : Code := { maxStack := 6, maxLocals := 3, code := prog_26_method_9_code, exceptionTable := #[], attributes := #[] }
def k2m6 : Method := { name := "startWord", desc := "(I)V", sig := { parameters := [.int], returnType := none }, accessFlags := 2, code := some k2c6 }
def k2c7 : Code := { maxStack := 2, maxLocals := 1, code := prog_26_method_10_code, exceptionTable := #[], attributes := #[] }
def k2m7 : Method := { name := "wordsOf", desc := "(I)I", sig := { parameters := [.int], returnType := some .int }, accessFlags := 10, code := some k2c7 }
/-- com/example/orderly_seats/orderlyseats/model/MarkedRow -/
def k2 : Class := { plain "com/example/orderly_seats/orderlyseats/model/MarkedRow" (some 0) with
  accessFlags := 48
  interfaces := #[]
  cf := some (fileOf pool2 8 #[] #[{ accessFlags := 0, nameIndex := 5, descriptorIndex := 6, attributes := #[] }, { accessFlags := 0, nameIndex := 5, descriptorIndex := 11, attributes := #[] }, { accessFlags := 0, nameIndex := 71, descriptorIndex := 72, attributes := #[] }, { accessFlags := 0, nameIndex := 82, descriptorIndex := 83, attributes := #[] }, { accessFlags := 0, nameIndex := 67, descriptorIndex := 68, attributes := #[] }, { accessFlags := 2, nameIndex := 60, descriptorIndex := 18, attributes := #[] }, { accessFlags := 2, nameIndex := 63, descriptorIndex := 64, attributes := #[] }, { accessFlags := 10, nameIndex := 17, descriptorIndex := 18, attributes := #[] }] 48 13 #[] #[{ accessFlags := 2, nameIndex := 37, descriptorIndex := 38, attributes := #[] }, { accessFlags := 2, nameIndex := 41, descriptorIndex := 42, attributes := #[] }, { accessFlags := 2, nameIndex := 45, descriptorIndex := 46, attributes := #[] }])
  fields := #[{ name := "words", type := (.array .long), accessFlags := 2, slot := 0, constantValue := 0 }, { name := "tree", type := (.array .int), accessFlags := 2, slot := 1, constantValue := 0 }, { name := "length", type := .int, accessFlags := 2, slot := 2, constantValue := 0 }]
  methods := #[k2m0, k2m1, k2m2, k2m3, k2m4, k2m5, k2m6, k2m7]
  instanceTypes := #[(.array .long), (.array .int), .int]
  staticTypes := #[]
  resolved := Array.replicate 86 none
  statics := none }

def pool3 : Array CpInfo := pool [(1, .class_ 2), (0, u "java/lang/Cloneable"), (0, .class_ 4), (0, u "java/lang/Object")] 2

/-- java/lang/Cloneable -/
def k3 : Class := { plain "java/lang/Cloneable" (some 0) with
  accessFlags := 1537
  interfaces := #[]
  cf := some (fileOf pool3 1 #[] #[] 1537 3 #[] #[])
  fields := #[]
  methods := #[]
  instanceTypes := #[]
  staticTypes := #[]
  resolved := Array.replicate 7 none
  statics := none }

def pool4 : Array CpInfo := pool [(1, .class_ 2), (0, u "java/io/Serializable"), (0, .class_ 4), (0, u "java/lang/Object")] 2

/-- java/io/Serializable -/
def k4 : Class := { plain "java/io/Serializable" (some 0) with
  accessFlags := 1537
  interfaces := #[]
  cf := some (fileOf pool4 1 #[] #[] 1537 3 #[] #[])
  fields := #[]
  methods := #[]
  instanceTypes := #[]
  staticTypes := #[]
  resolved := Array.replicate 7 none
  statics := none }

def pool5 : Array CpInfo := pool [(1, .class_ 2), (0, u "java/util/BitSet"), (2, u "$assertionsDisabled"), (0, u "Z"), (0, .fieldref 1 8), (0, .nameAndType 9 10), (0, u "wordsInUse"), (0, u "I"), (0, .fieldref 1 12), (0, .nameAndType 13 14), (0, u "words"), (0, u "[J"), (3, .nameAndType 19 20), (0, u "<init>"), (0, u "()V"), (0, .methodref 22 18), (0, .class_ 23), (0, u "java/lang/Object"), (0, .fieldref 1 25), (0, .nameAndType 26 6), (0, u "sizeIsSticky"), (0, .methodref 1 28), (0, .nameAndType 29 30), (0, u "initWords"), (0, u "(I)V"), (21, .methodref 1 53), (0, .nameAndType 54 55), (0, u "wordIndex"), (0, u "(I)I"), (3, .methodref 60 61), (0, .class_ 62), (0, .nameAndType 63 64), (0, u "java/util/Arrays"), (0, u "copyOf"), (0, u "([JI)[J"), (204, .class_ 270), (0, u "java/util/BitSet$1BitSetSpliterator"), (22, u "serialPersistentFields"), (0, u "[Ljava/io/ObjectStreamField;"), (0, .class_ 296), (0, u "java/lang/Cloneable"), (0, .class_ 298), (0, u "java/io/Serializable"), (0, u "ADDRESS_BITS_PER_WORD"), (2, u "BITS_PER_WORD"), (1, u "BIT_INDEX_MASK"), (1, u "WORD_MASK"), (0, u "J"), (0, u "serialVersionUID"), (28, u "toLongArray"), (0, u "()[J")] 78

def k5c0 : Code := { maxStack := 2, maxLocals := 1, code := jdk_92_method_1_code, exceptionTable := #[], attributes := #[] }
def k5m0 : Method := { name := "wordIndex", desc := "(I)I", sig := { parameters := [.int], returnType := some .int }, accessFlags := 10, code := some k5c0 }
def k5c1 : Code := { maxStack := 2, maxLocals := 1, code := jdk_92_method_4_code, exceptionTable := #[], attributes := #[] }
def k5m1 : Method := { name := "<init>", desc := "()V", sig := { parameters := [], returnType := none }, accessFlags := 1, code := some k5c1 }
def k5c2 : Code := { maxStack := 3, maxLocals := 2, code := jdk_92_method_6_code, exceptionTable := #[], attributes := #[] }
def k5m2 : Method := { name := "initWords", desc := "(I)V", sig := { parameters := [.int], returnType := none }, accessFlags := 2, code := some k5c2 }
def k5c3 : Code := { maxStack := 2, maxLocals := 1, code := jdk_92_method_13_code, exceptionTable := #[], attributes := #[] }
def k5m3 : Method := { name := "toLongArray", desc := "()[J", sig := { parameters := [], returnType := some (.array .long) }, accessFlags := 1, code := some k5c3 }
/-- java/util/BitSet -/
def k5 : Class := { plain "java/util/BitSet" (some 0) with
  accessFlags := 33
  interfaces := #[3, 4]
  cf := some (fileOf pool5 1 #[.nestMembers #[269]] #[{ accessFlags := 10, nameIndex := 54, descriptorIndex := 55, attributes := #[] }, { accessFlags := 1, nameIndex := 19, descriptorIndex := 20, attributes := #[] }, { accessFlags := 2, nameIndex := 29, descriptorIndex := 30, attributes := #[] }, { accessFlags := 1, nameIndex := 337, descriptorIndex := 338, attributes := #[] }] 33 22 #[295, 297] #[{ accessFlags := 26, nameIndex := 299, descriptorIndex := 10, attributes := #[] }, { accessFlags := 26, nameIndex := 302, descriptorIndex := 10, attributes := #[] }, { accessFlags := 26, nameIndex := 304, descriptorIndex := 10, attributes := #[] }, { accessFlags := 26, nameIndex := 306, descriptorIndex := 307, attributes := #[] }, { accessFlags := 26, nameIndex := 293, descriptorIndex := 294, attributes := #[] }, { accessFlags := 2, nameIndex := 13, descriptorIndex := 14, attributes := #[] }, { accessFlags := 130, nameIndex := 9, descriptorIndex := 10, attributes := #[] }, { accessFlags := 130, nameIndex := 26, descriptorIndex := 6, attributes := #[] }, { accessFlags := 26, nameIndex := 308, descriptorIndex := 307, attributes := #[] }, { accessFlags := 4120, nameIndex := 5, descriptorIndex := 6, attributes := #[] }])
  fields := #[{ name := "ADDRESS_BITS_PER_WORD", type := .int, accessFlags := 26, slot := 0, constantValue := 0 }, { name := "BITS_PER_WORD", type := .int, accessFlags := 26, slot := 1, constantValue := 0 }, { name := "BIT_INDEX_MASK", type := .int, accessFlags := 26, slot := 2, constantValue := 0 }, { name := "WORD_MASK", type := .long, accessFlags := 26, slot := 3, constantValue := 0 }, { name := "serialPersistentFields", type := (.array (.object "java/io/ObjectStreamField")), accessFlags := 26, slot := 4, constantValue := 0 }, { name := "words", type := (.array .long), accessFlags := 2, slot := 0, constantValue := 0 }, { name := "wordsInUse", type := .int, accessFlags := 130, slot := 1, constantValue := 0 }, { name := "sizeIsSticky", type := .boolean, accessFlags := 130, slot := 2, constantValue := 0 }, { name := "serialVersionUID", type := .long, accessFlags := 26, slot := 5, constantValue := 0 }, { name := "$assertionsDisabled", type := .boolean, accessFlags := 4120, slot := 6, constantValue := 0 }]
  methods := #[k5m0, k5m1, k5m2, k5m3]
  instanceTypes := #[(.array .long), .int, .boolean]
  staticTypes := #[.int, .int, .int, .long, (.array (.object "java/io/ObjectStreamField")), .long, .boolean]
  resolved := Array.replicate 417 none
  statics := none }

def pool6 : Array CpInfo := pool [(2, .class_ 4), (1, u "java/lang/Object"), (0, u "<init>"), (0, u "()V"), (7, .class_ 16), (1, u "java/util/Arrays"), (57, .class_ 76), (1, u "java/util/Arrays$NaturalOrder"), (36, .class_ 115), (1, u "java/util/Arrays$LegacyMergeSort"), (1, u "Z"), (32, .methodref 151 152), (0, .class_ 153), (0, .nameAndType 154 155), (0, u "java/lang/System"), (0, u "arraycopy"), (0, u "(Ljava/lang/Object;ILjava/lang/Object;II)V"), (146, u "copyOf"), (1, .methodref 305 306), (0, .class_ 307), (0, .nameAndType 308 309), (0, u "java/lang/Math"), (0, u "min"), (0, u "(II)I"), (65, .class_ 376), (0, u "java/util/Arrays$ArrayList"), (68, u "$assertionsDisabled"), (269, u "MIN_ARRAY_SORT_GRAN"), (0, u "I"), (2, u "INSERTIONSORT_THRESHOLD"), (152, u "([JI)[J"), (102, .class_ 976), (0, u "java/util/Arrays$ArrayItr")] 52

def k6m0 : Method := { name := "<init>", desc := "()V", sig := { parameters := [], returnType := none }, accessFlags := 2, code := none }
def k6c1 : Code := { maxStack := 6, maxLocals := 3, code := jdk_65_method_124_code, exceptionTable := #[], attributes := #[] }
def k6m1 : Method := { name := "copyOf", desc := "([JI)[J", sig := { parameters := [(.array .long), .int], returnType := some (.array .long) }, accessFlags := 9, code := some k6c1 }
/-- java/util/Arrays -/
def k6 : Class := { plain "java/util/Arrays" (some 0) with
  accessFlags := 49
  interfaces := #[]
  cf := some (fileOf pool6 14 #[.nestMembers #[975, 375, 113, 74]] #[{ accessFlags := 2, nameIndex := 5, descriptorIndex := 6, attributes := #[] }, { accessFlags := 9, nameIndex := 302, descriptorIndex := 872, attributes := #[] }] 49 2 #[] #[{ accessFlags := 26, nameIndex := 715, descriptorIndex := 716, attributes := #[] }, { accessFlags := 26, nameIndex := 719, descriptorIndex := 716, attributes := #[] }, { accessFlags := 4120, nameIndex := 445, descriptorIndex := 117, attributes := #[] }])
  fields := #[{ name := "MIN_ARRAY_SORT_GRAN", type := .int, accessFlags := 26, slot := 0, constantValue := 0 }, { name := "INSERTIONSORT_THRESHOLD", type := .int, accessFlags := 26, slot := 1, constantValue := 0 }, { name := "$assertionsDisabled", type := .boolean, accessFlags := 4120, slot := 2, constantValue := 0 }]
  methods := #[k6m0, k6m1]
  instanceTypes := #[]
  staticTypes := #[.int, .int, .boolean]
  resolved := Array.replicate 1029 none
  statics := none }

def pool7 : Array CpInfo := pool [(1, .class_ 2), (0, u "java/lang/Math"), (1, .class_ 6), (1, u "java/lang/Object"), (0, u "<init>"), (0, u "()V"), (89, .class_ 100), (1, u "java/lang/Math$RandomNumberGeneratorHolder"), (71, u "negativeZeroFloatBits"), (0, u "J"), (2, u "negativeZeroDoubleBits"), (21, u "max"), (2, u "min"), (43, u "$assertionsDisabled"), (0, u "Z"), (88, u "(II)I"), (2, u "twoToTheDoubleScaleDown"), (0, u "D"), (4, u "twoToTheDoubleScaleUp"), (9, u "E"), (3, u "PI"), (2, u "TAU"), (2, u "DEGREES_TO_RADIANS"), (0, u "RADIANS_TO_DEGREES")] 94

def k7m0 : Method := { name := "<init>", desc := "()V", sig := { parameters := [], returnType := none }, accessFlags := 2, code := none }
def k7c1 : Code := { maxStack := 2, maxLocals := 2, code := jdk_29_method_65_code, exceptionTable := #[], attributes := #[] }
def k7m1 : Method := { name := "max", desc := "(II)I", sig := { parameters := [.int, .int], returnType := some .int }, accessFlags := 9, code := some k7c1 }
def k7c2 : Code := { maxStack := 2, maxLocals := 2, code := jdk_29_method_69_code, exceptionTable := #[], attributes := #[] }
def k7m2 : Method := { name := "min", desc := "(II)I", sig := { parameters := [.int, .int], returnType := some .int }, accessFlags := 9, code := some k7c2 }
/-- java/lang/Math -/
def k7 : Class := { plain "java/lang/Math" (some 0) with
  accessFlags := 49
  interfaces := #[]
  cf := some (fileOf pool7 1 #[.nestMembers #[98]] #[{ accessFlags := 2, nameIndex := 7, descriptorIndex := 8, attributes := #[] }, { accessFlags := 9, nameIndex := 198, descriptorIndex := 335, attributes := #[] }, { accessFlags := 9, nameIndex := 201, descriptorIndex := 335, attributes := #[] }] 49 4 #[] #[{ accessFlags := 25, nameIndex := 354, descriptorIndex := 339, attributes := #[] }, { accessFlags := 25, nameIndex := 358, descriptorIndex := 339, attributes := #[] }, { accessFlags := 25, nameIndex := 361, descriptorIndex := 339, attributes := #[] }, { accessFlags := 26, nameIndex := 364, descriptorIndex := 339, attributes := #[] }, { accessFlags := 26, nameIndex := 365, descriptorIndex := 339, attributes := #[] }, { accessFlags := 26, nameIndex := 172, descriptorIndex := 173, attributes := #[] }, { accessFlags := 26, nameIndex := 176, descriptorIndex := 173, attributes := #[] }, { accessFlags := 8, nameIndex := 344, descriptorIndex := 339, attributes := #[] }, { accessFlags := 8, nameIndex := 338, descriptorIndex := 339, attributes := #[] }, { accessFlags := 4120, nameIndex := 245, descriptorIndex := 246, attributes := #[] }])
  fields := #[{ name := "E", type := .double, accessFlags := 25, slot := 0, constantValue := 0 }, { name := "PI", type := .double, accessFlags := 25, slot := 1, constantValue := 0 }, { name := "TAU", type := .double, accessFlags := 25, slot := 2, constantValue := 0 }, { name := "DEGREES_TO_RADIANS", type := .double, accessFlags := 26, slot := 3, constantValue := 0 }, { name := "RADIANS_TO_DEGREES", type := .double, accessFlags := 26, slot := 4, constantValue := 0 }, { name := "negativeZeroFloatBits", type := .long, accessFlags := 26, slot := 5, constantValue := 0 }, { name := "negativeZeroDoubleBits", type := .long, accessFlags := 26, slot := 6, constantValue := 0 }, { name := "twoToTheDoubleScaleUp", type := .double, accessFlags := 8, slot := 7, constantValue := 0 }, { name := "twoToTheDoubleScaleDown", type := .double, accessFlags := 8, slot := 8, constantValue := 0 }, { name := "$assertionsDisabled", type := .boolean, accessFlags := 4120, slot := 9, constantValue := 0 }]
  methods := #[k7m0, k7m1, k7m2]
  instanceTypes := #[]
  staticTypes := #[.double, .double, .double, .double, .double, .long, .long, .double, .double, .boolean]
  resolved := Array.replicate 460 none
  statics := none }

def pool8 : Array CpInfo := pool [(2, .class_ 4), (1, u "java/lang/Object"), (0, u "<init>"), (0, u "()V"), (1, .class_ 10), (1, u "java/lang/System"), (0, u "allowSecurityManager"), (0, u "I"), (16, u "cons"), (0, u "Ljava/io/Console;"), (77, .class_ 110), (1, u "java/lang/System$CallersHolder"), (43, u "initialErrStream"), (0, u "Ljava/io/PrintStream;"), (19, u "security"), (0, u "Ljava/lang/SecurityManager;"), (31, .class_ 209), (0, u "java/lang/System$1"), (7, u "props"), (0, u "Ljava/util/Properties;"), (2, u "lineSeparator"), (0, u "Ljava/lang/String;"), (96, .class_ 321), (1, u "java/lang/System$LoggerFinder"), (5, .class_ 328), (0, u "java/lang/System$Logger"), (67, u "err"), (2, u "out"), (91, u "notSupportedJnuEncoding"), (15, u "in"), (17, u "initialIn"), (0, u "Ljava/io/InputStream;"), (35, u "bootLayer"), (0, u "Ljava/lang/ModuleLayer;"), (99, .class_ 664), (0, u "java/lang/System$2"), (9, u "NEVER"), (2, u "MAYBE"), (49, u "arraycopy"), (0, u "(Ljava/lang/Object;ILjava/lang/Object;II)V"), (72, .class_ 802), (0, u "java/lang/System$Logger$Level")] 31

def k8m0 : Method := { name := "<init>", desc := "()V", sig := { parameters := [], returnType := none }, accessFlags := 2, code := none }
def k8m1 : Method := { name := "arraycopy", desc := "(Ljava/lang/Object;ILjava/lang/Object;II)V", sig := { parameters := [(.object "java/lang/Object"), .int, (.object "java/lang/Object"), .int, .int], returnType := none }, accessFlags := 265, code := none }
/-- java/lang/System -/
def k8 : Class := { plain "java/lang/System" (some 0) with
  accessFlags := 49
  interfaces := #[]
  cf := some (fileOf pool8 8 #[.nestMembers #[319, 327, 801, 108, 663, 208]] #[{ accessFlags := 2, nameIndex := 5, descriptorIndex := 6, attributes := #[] }, { accessFlags := 265, nameIndex := 727, descriptorIndex := 728, attributes := #[] }] 49 2 #[] #[{ accessFlags := 25, nameIndex := 507, descriptorIndex := 526, attributes := #[] }, { accessFlags := 25, nameIndex := 399, descriptorIndex := 155, attributes := #[] }, { accessFlags := 25, nameIndex := 396, descriptorIndex := 155, attributes := #[] }, { accessFlags := 10, nameIndex := 525, descriptorIndex := 526, attributes := #[] }, { accessFlags := 26, nameIndex := 674, descriptorIndex := 12, attributes := #[] }, { accessFlags := 26, nameIndex := 677, descriptorIndex := 12, attributes := #[] }, { accessFlags := 10, nameIndex := 11, descriptorIndex := 12, attributes := #[] }, { accessFlags := 74, nameIndex := 175, descriptorIndex := 176, attributes := #[] }, { accessFlags := 10, nameIndex := 491, descriptorIndex := 222, attributes := #[] }, { accessFlags := 74, nameIndex := 29, descriptorIndex := 30, attributes := #[] }, { accessFlags := 74, nameIndex := 154, descriptorIndex := 155, attributes := #[] }, { accessFlags := 10, nameIndex := 217, descriptorIndex := 218, attributes := #[] }, { accessFlags := 10, nameIndex := 221, descriptorIndex := 222, attributes := #[] }, { accessFlags := 8, nameIndex := 562, descriptorIndex := 563, attributes := #[] }])
  fields := #[{ name := "in", type := (.object "java/io/InputStream"), accessFlags := 25, slot := 0, constantValue := 0 }, { name := "out", type := (.object "java/io/PrintStream"), accessFlags := 25, slot := 1, constantValue := 0 }, { name := "err", type := (.object "java/io/PrintStream"), accessFlags := 25, slot := 2, constantValue := 0 }, { name := "initialIn", type := (.object "java/io/InputStream"), accessFlags := 10, slot := 3, constantValue := 0 }, { name := "NEVER", type := .int, accessFlags := 26, slot := 4, constantValue := 0 }, { name := "MAYBE", type := .int, accessFlags := 26, slot := 5, constantValue := 0 }, { name := "allowSecurityManager", type := .int, accessFlags := 10, slot := 6, constantValue := 0 }, { name := "security", type := (.object "java/lang/SecurityManager"), accessFlags := 74, slot := 7, constantValue := 0 }, { name := "notSupportedJnuEncoding", type := (.object "java/lang/String"), accessFlags := 10, slot := 8, constantValue := 0 }, { name := "cons", type := (.object "java/io/Console"), accessFlags := 74, slot := 9, constantValue := 0 }, { name := "initialErrStream", type := (.object "java/io/PrintStream"), accessFlags := 74, slot := 10, constantValue := 0 }, { name := "props", type := (.object "java/util/Properties"), accessFlags := 10, slot := 11, constantValue := 0 }, { name := "lineSeparator", type := (.object "java/lang/String"), accessFlags := 10, slot := 12, constantValue := 0 }, { name := "bootLayer", type := (.object "java/lang/ModuleLayer"), accessFlags := 8, slot := 13, constantValue := 0 }]
  methods := #[k8m0, k8m1]
  instanceTypes := #[]
  staticTypes := #[(.object "java/io/InputStream"), (.object "java/io/PrintStream"), (.object "java/io/PrintStream"), (.object "java/io/InputStream"), .int, .int, .int, (.object "java/lang/SecurityManager"), (.object "java/lang/String"), (.object "java/io/Console"), (.object "java/io/PrintStream"), (.object "java/util/Properties"), (.object "java/lang/String"), (.object "java/lang/ModuleLayer")]
  resolved := Array.replicate 834 none
  statics := none }

def pool9 : Array CpInfo := pool [(2, .class_ 4), (1, u "java/lang/Object"), (0, u "<init>"), (0, u "()V"), (1, .class_ 10), (1, u "java/lang/Number"), (2, .class_ 14), (0, u "java/io/Serializable"), (0, u "serialVersionUID"), (0, u "J")] 20

def k9m0 : Method := { name := "<init>", desc := "()V", sig := { parameters := [], returnType := none }, accessFlags := 1, code := none }
/-- java/lang/Number -/
def k9 : Class := { plain "java/lang/Number" (some 0) with
  accessFlags := 1057
  interfaces := #[4]
  cf := some (fileOf pool9 8 #[] #[{ accessFlags := 1, nameIndex := 5, descriptorIndex := 6, attributes := #[] }] 1057 2 #[13] #[{ accessFlags := 26, nameIndex := 15, descriptorIndex := 16, attributes := #[] }])
  fields := #[{ name := "serialVersionUID", type := .long, accessFlags := 26, slot := 0, constantValue := 0 }]
  methods := #[k9m0]
  instanceTypes := #[]
  staticTypes := #[.long]
  resolved := Array.replicate 37 none
  statics := none }

def pool10 : Array CpInfo := pool [(1, .class_ 2), (0, u "java/lang/Comparable"), (0, .class_ 4), (0, u "java/lang/Object")] 7

/-- java/lang/Comparable -/
def k10 : Class := { plain "java/lang/Comparable" (some 0) with
  accessFlags := 1537
  interfaces := #[]
  cf := some (fileOf pool10 1 #[] #[] 1537 3 #[] #[])
  fields := #[]
  methods := #[]
  instanceTypes := #[]
  staticTypes := #[]
  resolved := Array.replicate 12 none
  statics := none }

def pool11 : Array CpInfo := pool [(1, .class_ 2), (0, u "java/lang/constant/Constable"), (0, .class_ 4), (0, u "java/lang/Object")] 6

/-- java/lang/constant/Constable -/
def k11 : Class := { plain "java/lang/constant/Constable" (some 0) with
  accessFlags := 1537
  interfaces := #[]
  cf := some (fileOf pool11 1 #[] #[] 1537 3 #[] #[])
  fields := #[]
  methods := #[]
  instanceTypes := #[]
  staticTypes := #[]
  resolved := Array.replicate 11 none
  statics := none }

def pool12 : Array CpInfo := pool [(1, .class_ 2), (0, u "java/lang/constant/ConstantDesc"), (0, .class_ 4), (0, u "java/lang/Object")] 32

/-- java/lang/constant/ConstantDesc -/
def k12 : Class := { plain "java/lang/constant/ConstantDesc" (some 0) with
  accessFlags := 1537
  interfaces := #[]
  cf := some (fileOf pool12 1 #[] #[] 1537 3 #[] #[])
  fields := #[]
  methods := #[]
  instanceTypes := #[]
  staticTypes := #[]
  resolved := Array.replicate 37 none
  statics := none }

def pool13 : Array CpInfo := pool [(1, .class_ 2), (0, u "java/lang/Integer"), (16, u "digits"), (0, u "[C"), (33, u "(I)I"), (30, u "DigitOnes"), (0, u "[B"), (2, u "DigitTens"), (99, .class_ 190), (0, u "java/lang/Integer$IntegerCache"), (3, u "I"), (8, .class_ 204), (0, u "java/lang/Number"), (2, u "value"), (94, u "TYPE"), (0, u "Ljava/lang/Class;"), (0, .class_ 305), (0, u "java/lang/Comparable"), (0, .class_ 307), (0, u "java/lang/constant/Constable"), (0, .class_ 309), (0, u "java/lang/constant/ConstantDesc"), (0, u "MIN_VALUE"), (1, u "MAX_VALUE"), (3, u "SIZE"), (1, u "BYTES"), (1, u "serialVersionUID"), (0, u "J"), (82, u "lowestOneBit")] 48

def k13c0 : Code := { maxStack := 2, maxLocals := 1, code := jdk_33_method_46_code, exceptionTable := #[], attributes := #[] }
def k13m0 : Method := { name := "lowestOneBit", desc := "(I)I", sig := { parameters := [.int], returnType := some .int }, accessFlags := 9, code := some k13c0 }
/-- java/lang/Integer -/
def k13 : Class := { plain "java/lang/Integer" (some 9) with
  accessFlags := 49
  interfaces := #[10, 11, 12]
  cf := some (fileOf pool13 1 #[.nestMembers #[189]] #[{ accessFlags := 9, nameIndex := 404, descriptorIndex := 54, attributes := #[] }] 49 203 #[304, 306, 308] #[{ accessFlags := 25, nameIndex := 310, descriptorIndex := 194, attributes := #[] }, { accessFlags := 25, nameIndex := 312, descriptorIndex := 194, attributes := #[] }, { accessFlags := 25, nameIndex := 302, descriptorIndex := 303, attributes := #[] }, { accessFlags := 24, nameIndex := 19, descriptorIndex := 20, attributes := #[] }, { accessFlags := 24, nameIndex := 89, descriptorIndex := 86, attributes := #[] }, { accessFlags := 24, nameIndex := 85, descriptorIndex := 86, attributes := #[] }, { accessFlags := 18, nameIndex := 207, descriptorIndex := 194, attributes := #[] }, { accessFlags := 25, nameIndex := 316, descriptorIndex := 194, attributes := #[] }, { accessFlags := 25, nameIndex := 318, descriptorIndex := 194, attributes := #[] }, { accessFlags := 26, nameIndex := 320, descriptorIndex := 321, attributes := #[] }])
  fields := #[{ name := "MIN_VALUE", type := .int, accessFlags := 25, slot := 0, constantValue := 0 }, { name := "MAX_VALUE", type := .int, accessFlags := 25, slot := 1, constantValue := 0 }, { name := "TYPE", type := (.object "java/lang/Class"), accessFlags := 25, slot := 2, constantValue := 0 }, { name := "digits", type := (.array .char), accessFlags := 24, slot := 3, constantValue := 0 }, { name := "DigitTens", type := (.array .byte), accessFlags := 24, slot := 4, constantValue := 0 }, { name := "DigitOnes", type := (.array .byte), accessFlags := 24, slot := 5, constantValue := 0 }, { name := "value", type := .int, accessFlags := 18, slot := 0, constantValue := 0 }, { name := "SIZE", type := .int, accessFlags := 25, slot := 6, constantValue := 0 }, { name := "BYTES", type := .int, accessFlags := 25, slot := 7, constantValue := 0 }, { name := "serialVersionUID", type := .long, accessFlags := 26, slot := 8, constantValue := 0 }]
  methods := #[k13m0]
  instanceTypes := #[.int]
  staticTypes := #[.int, .int, (.object "java/lang/Class"), (.array .char), (.array .byte), (.array .byte), .int, .int, .long]
  resolved := Array.replicate 453 none
  statics := none }

/-- the primitive byte -/
def k14 : Class := { plain "byte" none with kind := .primitive 'B', accessFlags := 0x411 }
/-- [B -/
def k15 : Class := { plain "[B" (some 0) with kind := .array 14 .byte, interfaces := #[3, 4], accessFlags := 1041 }

/-- the primitive int -/
def k16 : Class := { plain "int" none with kind := .primitive 'I', accessFlags := 0x411 }
/-- [I -/
def k17 : Class := { plain "[I" (some 0) with kind := .array 16 .int, interfaces := #[3, 4], accessFlags := 1041 }

/-- the primitive long -/
def k18 : Class := { plain "long" none with kind := .primitive 'J', accessFlags := 0x411 }
/-- [J -/
def k19 : Class := { plain "[J" (some 0) with kind := .array 18 .long, interfaces := #[3, 4], accessFlags := 1041 }

def heap : Heap := #[]
def classes : Array Class := #[k0, k1, k2, k3, k4, k5, k6, k7, k8, k9, k10, k11, k12, k13, k14, k15, k16, k17, k18, k19]
def interned : List (Array UInt16 × Addr) := []
def slotsUsed : Nat := 0
def theMethod : MethodId := ⟨1, 1⟩
def args0 : Array Value := #[.int 5, .int 7, .int 9]
def aboutOver (below : List Frame) : State where
  vm := { classes := classes, interned := interned.toArray }
  heap := heap
  slotsUsed := slotsUsed
  threads := #[{ frames := .invoking theMethod args0 :: below }]
def below0 : List Frame := [.native { method := ⟨0, 0⟩, args := #[] }]
def about1 : State := aboutOver below0
def p0 : Program := .bare "" "" ""
def e0 : Env := launch0.env 0 0 0
theorem w_frames : about1.frames = Frame.invoking theMethod args0 :: below0 := rfl
set_option maxRecDepth 65536 in
theorem w_args : argsFit about1.vm theMethod args0 = true := by decide +kernel
set_option maxRecDepth 65536 in
theorem w_heap : heapFits about1 = true := by decide +kernel
set_option maxRecDepth 65536 in
theorem w_runnable : about1.curStatus? = some .runnable := by decide +kernel
set_option maxRecDepth 65536 in
theorem w_alone : about1.alone = true := by decide +kernel
set_option maxRecDepth 65536 in
theorem w_named : about1.methodNamed? x = some theMethod := by decide +kernel
set_option maxRecDepth 65536 in
theorem w_hears : about1.hears theMethod below0 = true := by decide +kernel
set_option maxRecDepth 65536 in
theorem w_ripe : about1.ripe theMethod args0 below0 = true := by decide +kernel
theorem w_running : about1.status = .running := rfl
set_option maxRecDepth 65536 in
theorem w_room : about1.hasRoom e0.platform room_1 = true :=
  launch0.hasRoom_least _ room_1 (by decide +kernel) (by decide +kernel) (by decide +kernel) (by decide +kernel) (by decide +kernel) (by decide +kernel)
theorem allAtoms_all (ts : List Jvm.Cond) (a : Array Jvm.Value) (st : Jvm.State) : (allAtoms ts).before a st = ts.all (fun c => c.before a st) := by
  induction ts with
  | nil => rfl
  | cons c t ih =>
    show (Jvm.Cond.and c (allAtoms t)).before a st = _
    rw [Jvm.Cond.before_and, ih, List.all_cons]
def words1 : List Jvm.Cond := Jvm.Cond.code x code maxLocals ret :: tables_1
/-- a 'code' word, met by the world's own term for the bytes: nothing is compared byte by byte -/
theorem code_word {y : MethodName} {bytes : ByteArray} {mx : Nat} {rt : Option FieldType} {a : Array Value} {s : State} {m : MethodId} {meth : Method} {c : Code} (h1 : s.methodNamed? y = some m) (h2 : s.vm.method? m = some meth) (h3 : meth.code = some c) (h4 : c.code = bytes)
    (h5 : (c.maxLocals == mx && c.exceptionTable.isEmpty && decide (c.maxStack ≤ mostOperands) && decide (meth.sig.returnType = rt) && !meth.locks && decide (parseMethodDescriptor y.desc = some meth.sig)) = true) : (Jvm.Cond.code y bytes mx rt).before a s = true := by
  simp only [Bool.and_eq_true, beq_iff_eq, Bool.not_eq_true', decide_eq_true_eq] at h5
  obtain ⟨⟨⟨⟨⟨g1, g2⟩, g3⟩, g4⟩, g5⟩, g6⟩ := h5
  simp [Cond.before, Cond.holds, Cond.value, h1, h2, h3, h4, g1, g2, g3, g4, g5, g6]
def isCode : Jvm.Cond → Bool
  | .code _ _ _ _ => true
  | _ => false
theorem all_split {L : List Jvm.Cond} {P : Jvm.Cond → Bool} (h1 : L.all (fun c => isCode c || P c) = true) (h2 : ∀ c ∈ L.filter isCode, P c = true) : L.all P = true := by
  refine List.all_eq_true.mpr fun c hc => ?_
  have h := List.all_eq_true.mp h1 c hc
  rcases Bool.eq_false_or_eq_true (isCode c) with hi | hi
  · exact h2 c (List.mem_filter.mpr ⟨hc, hi⟩)
  · simpa [hi] using h
set_option maxRecDepth 65536 in
theorem w_c0 : (Jvm.Cond.code x code maxLocals ret).before args0 about1 = true := code_word (m := ⟨1, 1⟩) (meth := k1m1) (c := k1c1) (by decide +kernel) rfl rfl rfl (by decide +kernel)
set_option maxRecDepth 65536 in
theorem w_c1 : (Jvm.Cond.code ({ cls := "com/example/orderly_seats/orderlyseats/model/MarkedRow", name := "<init>", desc := "()V" } : Jvm.MethodName) prog_26_method_1_code (1 : Nat) (Option.none : Option Jvm.ClassFile.FieldType)).before args0 about1 = true := code_word (m := ⟨2, 0⟩) (meth := k2m0) (c := k2c0) (by decide +kernel) rfl rfl rfl (by decide +kernel)
set_option maxRecDepth 65536 in
theorem w_c2 : (Jvm.Cond.code ({ cls := "java/util/BitSet", name := "<init>", desc := "()V" } : Jvm.MethodName) jdk_92_method_4_code (1 : Nat) (Option.none : Option Jvm.ClassFile.FieldType)).before args0 about1 = true := code_word (m := ⟨5, 1⟩) (meth := k5m1) (c := k5c1) (by decide +kernel) rfl rfl rfl (by decide +kernel)
set_option maxRecDepth 65536 in
theorem w_c3 : (Jvm.Cond.code ({ cls := "java/lang/Object", name := "<init>", desc := "()V" } : Jvm.MethodName) object_method_1_code (1 : Nat) (Option.none : Option Jvm.ClassFile.FieldType)).before args0 about1 = true := code_word (m := ⟨0, 0⟩) (meth := k0m0) (c := k0c0) (by decide +kernel) rfl rfl rfl (by decide +kernel)
set_option maxRecDepth 65536 in
theorem w_c4 : (Jvm.Cond.code ({ cls := "java/util/BitSet", name := "initWords", desc := "(I)V" } : Jvm.MethodName) jdk_92_method_6_code (2 : Nat) (Option.none : Option Jvm.ClassFile.FieldType)).before args0 about1 = true := code_word (m := ⟨5, 2⟩) (meth := k5m2) (c := k5c2) (by decide +kernel) rfl rfl rfl (by decide +kernel)
set_option maxRecDepth 65536 in
theorem w_c5 : (Jvm.Cond.code ({ cls := "java/util/BitSet", name := "wordIndex", desc := "(I)I" } : Jvm.MethodName) jdk_92_method_1_code (1 : Nat) (Option.some Jvm.ClassFile.FieldType.int)).before args0 about1 = true := code_word (m := ⟨5, 0⟩) (meth := k5m0) (c := k5c0) (by decide +kernel) rfl rfl rfl (by decide +kernel)
set_option maxRecDepth 65536 in
theorem w_c6 : (Jvm.Cond.code ({ cls := "com/example/orderly_seats/orderlyseats/model/MarkedRow", name := "<init>", desc := "(Ljava/util/BitSet;I)V" } : Jvm.MethodName) prog_26_method_2_code (6 : Nat) (Option.none : Option Jvm.ClassFile.FieldType)).before args0 about1 = true := code_word (m := ⟨2, 1⟩) (meth := k2m1) (c := k2c1) (by decide +kernel) rfl rfl rfl (by decide +kernel)
set_option maxRecDepth 65536 in
theorem w_c7 : (Jvm.Cond.code ({ cls := "com/example/orderly_seats/orderlyseats/model/MarkedRow", name := "wordsOf", desc := "(I)I" } : Jvm.MethodName) prog_26_method_10_code (1 : Nat) (Option.some Jvm.ClassFile.FieldType.int)).before args0 about1 = true := code_word (m := ⟨2, 7⟩) (meth := k2m7) (c := k2c7) (by decide +kernel) rfl rfl rfl (by decide +kernel)
set_option maxRecDepth 65536 in
theorem w_c8 : (Jvm.Cond.code ({ cls := "java/util/BitSet", name := "toLongArray", desc := "()[J" } : Jvm.MethodName) jdk_92_method_13_code (1 : Nat) (Option.some (Jvm.ClassFile.FieldType.array Jvm.ClassFile.FieldType.long))).before args0 about1 = true := code_word (m := ⟨5, 3⟩) (meth := k5m3) (c := k5c3) (by decide +kernel) rfl rfl rfl (by decide +kernel)
set_option maxRecDepth 65536 in
theorem w_c9 : (Jvm.Cond.code ({ cls := "java/util/Arrays", name := "copyOf", desc := "([JI)[J" } : Jvm.MethodName) jdk_65_method_124_code (3 : Nat) (Option.some (Jvm.ClassFile.FieldType.array Jvm.ClassFile.FieldType.long))).before args0 about1 = true := code_word (m := ⟨6, 1⟩) (meth := k6m1) (c := k6c1) (by decide +kernel) rfl rfl rfl (by decide +kernel)
set_option maxRecDepth 65536 in
theorem w_c10 : (Jvm.Cond.code ({ cls := "java/lang/Math", name := "min", desc := "(II)I" } : Jvm.MethodName) jdk_29_method_69_code (2 : Nat) (Option.some Jvm.ClassFile.FieldType.int)).before args0 about1 = true := code_word (m := ⟨7, 2⟩) (meth := k7m2) (c := k7c2) (by decide +kernel) rfl rfl rfl (by decide +kernel)
set_option maxRecDepth 65536 in
theorem w_c11 : (Jvm.Cond.code ({ cls := "java/lang/Math", name := "max", desc := "(II)I" } : Jvm.MethodName) jdk_29_method_65_code (2 : Nat) (Option.some Jvm.ClassFile.FieldType.int)).before args0 about1 = true := code_word (m := ⟨7, 1⟩) (meth := k7m1) (c := k7c1) (by decide +kernel) rfl rfl rfl (by decide +kernel)
set_option maxRecDepth 65536 in
theorem w_c12 : (Jvm.Cond.code ({ cls := "com/example/orderly_seats/orderlyseats/model/MarkedRow", name := "add", desc := "(Z)V" } : Jvm.MethodName) prog_26_method_6_code (3 : Nat) (Option.none : Option Jvm.ClassFile.FieldType)).before args0 about1 = true := code_word (m := ⟨2, 3⟩) (meth := k2m3) (c := k2c3) (by decide +kernel) rfl rfl rfl (by decide +kernel)
set_option maxRecDepth 65536 in
theorem w_c13 : (Jvm.Cond.code ({ cls := "com/example/orderly_seats/orderlyseats/model/MarkedRow", name := "startWord", desc := "(I)V" } : Jvm.MethodName) prog_26_method_9_code (3 : Nat) (Option.none : Option Jvm.ClassFile.FieldType)).before args0 about1 = true := code_word (m := ⟨2, 6⟩) (meth := k2m6) (c := k2c6) (by decide +kernel) rfl rfl rfl (by decide +kernel)
set_option maxRecDepth 65536 in
theorem w_c14 : (Jvm.Cond.code ({ cls := "com/example/orderly_seats/orderlyseats/model/MarkedRow", name := "inWords", desc := "(I)I" } : Jvm.MethodName) prog_26_method_8_code (4 : Nat) (Option.some Jvm.ClassFile.FieldType.int)).before args0 about1 = true := code_word (m := ⟨2, 5⟩) (meth := k2m5) (c := k2c5) (by decide +kernel) rfl rfl rfl (by decide +kernel)
set_option maxRecDepth 65536 in
theorem w_c15 : (Jvm.Cond.code ({ cls := "java/lang/Integer", name := "lowestOneBit", desc := "(I)I" } : Jvm.MethodName) jdk_33_method_46_code (1 : Nat) (Option.some Jvm.ClassFile.FieldType.int)).before args0 about1 = true := code_word (m := ⟨13, 0⟩) (meth := k13m0) (c := k13c0) (by decide +kernel) rfl rfl rfl (by decide +kernel)
set_option maxRecDepth 65536 in
theorem w_c16 : (Jvm.Cond.code ({ cls := "com/example/orderly_seats/orderlyseats/model/MarkedRow", name := "mark", desc := "(IZ)V" } : Jvm.MethodName) prog_26_method_7_code (6 : Nat) (Option.none : Option Jvm.ClassFile.FieldType)).before args0 about1 = true := code_word (m := ⟨2, 4⟩) (meth := k2m4) (c := k2c4) (by decide +kernel) rfl rfl rfl (by decide +kernel)
set_option maxRecDepth 65536 in
theorem w_c17 : (Jvm.Cond.code ({ cls := "com/example/orderly_seats/orderlyseats/model/MarkedRow", name := "isMarked", desc := "(I)Z" } : Jvm.MethodName) prog_26_method_4_code (2 : Nat) (Option.some Jvm.ClassFile.FieldType.boolean)).before args0 about1 = true := code_word (m := ⟨2, 2⟩) (meth := k2m2) (c := k2c2) (by decide +kernel) rfl rfl rfl (by decide +kernel)
def codes1 : List Jvm.Cond := [Jvm.Cond.code x code maxLocals ret, Jvm.Cond.code ({ cls := "com/example/orderly_seats/orderlyseats/model/MarkedRow", name := "<init>", desc := "()V" } : Jvm.MethodName) prog_26_method_1_code (1 : Nat) (Option.none : Option Jvm.ClassFile.FieldType), Jvm.Cond.code ({ cls := "java/util/BitSet", name := "<init>", desc := "()V" } : Jvm.MethodName) jdk_92_method_4_code (1 : Nat) (Option.none : Option Jvm.ClassFile.FieldType), Jvm.Cond.code ({ cls := "java/lang/Object", name := "<init>", desc := "()V" } : Jvm.MethodName) object_method_1_code (1 : Nat) (Option.none : Option Jvm.ClassFile.FieldType), Jvm.Cond.code ({ cls := "java/util/BitSet", name := "initWords", desc := "(I)V" } : Jvm.MethodName) jdk_92_method_6_code (2 : Nat) (Option.none : Option Jvm.ClassFile.FieldType), Jvm.Cond.code ({ cls := "java/util/BitSet", name := "wordIndex", desc := "(I)I" } : Jvm.MethodName) jdk_92_method_1_code (1 : Nat) (Option.some Jvm.ClassFile.FieldType.int), Jvm.Cond.code ({ cls := "com/example/orderly_seats/orderlyseats/model/MarkedRow", name := "<init>", desc := "(Ljava/util/BitSet;I)V" } : Jvm.MethodName) prog_26_method_2_code (6 : Nat) (Option.none : Option Jvm.ClassFile.FieldType), Jvm.Cond.code ({ cls := "com/example/orderly_seats/orderlyseats/model/MarkedRow", name := "wordsOf", desc := "(I)I" } : Jvm.MethodName) prog_26_method_10_code (1 : Nat) (Option.some Jvm.ClassFile.FieldType.int), Jvm.Cond.code ({ cls := "java/util/BitSet", name := "toLongArray", desc := "()[J" } : Jvm.MethodName) jdk_92_method_13_code (1 : Nat) (Option.some (Jvm.ClassFile.FieldType.array Jvm.ClassFile.FieldType.long)), Jvm.Cond.code ({ cls := "java/util/Arrays", name := "copyOf", desc := "([JI)[J" } : Jvm.MethodName) jdk_65_method_124_code (3 : Nat) (Option.some (Jvm.ClassFile.FieldType.array Jvm.ClassFile.FieldType.long)), Jvm.Cond.code ({ cls := "java/lang/Math", name := "min", desc := "(II)I" } : Jvm.MethodName) jdk_29_method_69_code (2 : Nat) (Option.some Jvm.ClassFile.FieldType.int), Jvm.Cond.code ({ cls := "java/lang/Math", name := "max", desc := "(II)I" } : Jvm.MethodName) jdk_29_method_65_code (2 : Nat) (Option.some Jvm.ClassFile.FieldType.int), Jvm.Cond.code ({ cls := "com/example/orderly_seats/orderlyseats/model/MarkedRow", name := "add", desc := "(Z)V" } : Jvm.MethodName) prog_26_method_6_code (3 : Nat) (Option.none : Option Jvm.ClassFile.FieldType), Jvm.Cond.code ({ cls := "com/example/orderly_seats/orderlyseats/model/MarkedRow", name := "startWord", desc := "(I)V" } : Jvm.MethodName) prog_26_method_9_code (3 : Nat) (Option.none : Option Jvm.ClassFile.FieldType), Jvm.Cond.code ({ cls := "com/example/orderly_seats/orderlyseats/model/MarkedRow", name := "inWords", desc := "(I)I" } : Jvm.MethodName) prog_26_method_8_code (4 : Nat) (Option.some Jvm.ClassFile.FieldType.int), Jvm.Cond.code ({ cls := "java/lang/Integer", name := "lowestOneBit", desc := "(I)I" } : Jvm.MethodName) jdk_33_method_46_code (1 : Nat) (Option.some Jvm.ClassFile.FieldType.int), Jvm.Cond.code ({ cls := "com/example/orderly_seats/orderlyseats/model/MarkedRow", name := "mark", desc := "(IZ)V" } : Jvm.MethodName) prog_26_method_7_code (6 : Nat) (Option.none : Option Jvm.ClassFile.FieldType), Jvm.Cond.code ({ cls := "com/example/orderly_seats/orderlyseats/model/MarkedRow", name := "isMarked", desc := "(I)Z" } : Jvm.MethodName) prog_26_method_4_code (2 : Nat) (Option.some Jvm.ClassFile.FieldType.boolean)]
set_option maxRecDepth 65536 in
theorem codes_eq : words1.filter isCode = codes1 := rfl
theorem w_codes : ∀ c ∈ words1.filter isCode, c.before args0 about1 = true := by
  rw [codes_eq]
  intro c hc
  simp only [codes1, List.mem_cons, List.not_mem_nil, or_false] at hc
  rcases hc with rfl | rfl | rfl | rfl | rfl | rfl | rfl | rfl | rfl | rfl | rfl | rfl | rfl | rfl | rfl | rfl | rfl | rfl
  · exact w_c0
  · exact w_c1
  · exact w_c2
  · exact w_c3
  · exact w_c4
  · exact w_c5
  · exact w_c6
  · exact w_c7
  · exact w_c8
  · exact w_c9
  · exact w_c10
  · exact w_c11
  · exact w_c12
  · exact w_c13
  · exact w_c14
  · exact w_c15
  · exact w_c16
  · exact w_c17
set_option maxRecDepth 65536 in
theorem w_t1 : (words1.take 24).all (fun c => isCode c || c.before args0 about1) = true := by decide +kernel
set_option maxRecDepth 65536 in
theorem w_t2 : ((words1.drop 24).take 24).all (fun c => isCode c || c.before args0 about1) = true := by decide +kernel
set_option maxRecDepth 65536 in
theorem w_t3 : (((words1.drop 24).drop 24).take 24).all (fun c => isCode c || c.before args0 about1) = true := by decide +kernel
set_option maxRecDepth 65536 in
theorem w_t4 : (((words1.drop 24).drop 24).drop 24).all (fun c => isCode c || c.before args0 about1) = true := by decide +kernel
theorem w_tables : (allAtoms (Jvm.Cond.code x code maxLocals ret :: tables_1)).before args0 about1 = true := by
  rw [allAtoms_all]
  show words1.all (fun c => c.before args0 about1) = true
  refine all_split ?_ w_codes
  rw [← List.take_append_drop 24 words1, List.all_append, w_t1, ← List.take_append_drop 24 (words1.drop 24), List.all_append, w_t2, ← List.take_append_drop 24 ((words1.drop 24).drop 24), List.all_append, w_t3, w_t4]
  rfl
set_option maxRecDepth 65536 in
theorem w_case : (Jvm.Cond.and given_1 narrow_1).before args0 about1 = true := by decide +kernel
theorem w_applies : (headSpec (Jvm.Cond.code x code maxLocals ret :: tables_1) room_1).applies x e0.platform about1 = true :=
  (Spec.applies_iff w_frames).mpr ⟨w_running, w_runnable, w_alone, w_named, w_hears, w_ripe, w_room, w_tables⟩
theorem atStart : AtStart classFile x code maxLocals ret World_1 tables_1 room_1 Calls_1 rest_1 Pre_1 launch0 p0 e0 about1 theMethod args0 below0 :=
  ⟨lists_1, trivial, launch0.admits_env _ _ _, launch0.least_env, fairChoices_fair.cas, fairChoices_fair.clock, w_frames, w_args, w_heap, w_applies, trivial, trivial, w_case⟩
end start1
theorem witness_1 : WitnessClaimed_1 := ⟨start1.p0, start1.e0, start1.about1, start1.theMethod, start1.args0, start1.below0, start1.atStart⟩
end Jvm.Pilot.@@N@@
