import JvmDerived
import JvmDerived.Pilot.@@N@@Statement
import JvmDerived.Pilot.@@N@@Code
set_option linter.unusedVariables false
set_option linter.unusedSimpArgs false
@@BLOCK:NumsL.lean.txt@@
namespace Jvm.Pilot.@@N@@
open Jvm Jvm.ClassFile Sem Op Lib Jvm.Free Jvm.Stand Jvm.LawKit Jvm.RoadKit Bundle Jvm.Pilot.@@N@@.Jvm.D
section Own
variable {p : Program} {l : Launch} {e : Env} {R : Room} {s : State} {m : MethodId} {args : Array Value} {below : List Frame} {meth : Method} {c : Code} {T : State} {locs : List Loc} {cells slots : Nat} {Z : State} {a0 : Array Value} {h : Heap}
/-- from t the run comes to an end that P speaks of -/
def Goes (p : Program) (e : Env) (below : List Frame) (P : State → Outcome → Prop) (t : State) : Prop :=
  ∃ s₂ o, Steps p.tables e below t s₂ ∧ s₂.status = .running ∧ Ended s₂ below o ∧ P s₂ o
/-- it returned, what Q says, and the frame -/
def Aim (s : State) (Q : Option Value → Heap → List Loc → Prop) (k n : Nat) (s₂ : State) (o : Outcome) : Prop :=
  ∃ v L, o = .returned v ∧ Q v s₂.heap L ∧ FrameEnd s o s₂ L k n
theorem Goes.step {P : State → Outcome → Prop} {t t' : State} (st : ∀ tgt, Steps p.tables e below t' tgt → Steps p.tables e below t tgt) (q : Goes p e below P t') : Goes p e below P t := by
  obtain ⟨s₂, o, k, r⟩ := q
  exact ⟨s₂, o, st _ k, r⟩
theorem Goes.tr {P : State → Outcome → Prop} {t t' : State} (st : Steps p.tables e below t t') (q : Goes p e below P t') : Goes p e below P t := by
  obtain ⟨s₂, o, k, r⟩ := q
  exact ⟨s₂, o, st.trans k, r⟩
theorem Goes.retN (X : Stand p l e R s m args below meth c T locs cells slots) (hx : p.tables.exec = Jvm.exec) (hlk : meth.locks = false) {t : FieldType} (hret : meth.sig.returnType = some t) (ht : t = .boolean ∨ t = .byte ∨ t = .char ∨ t = .short) {pc : Nat} {Ls : Array Slot} {z : Int32} {rest : List Value}
    (hd : decode c.code pc = .ok (.ireturn, 1)) {Q : Option Value → Heap → List Loc → Prop} {k n : Nat} (hk : cells ≤ k) (hn : slots ≤ n) (hQ : Q (some (.int (nar t z))) T.heap locs) :
    Goes p e below (Aim s Q k n) (T.setTop (mkF m pc Ls (.int z :: rest))) := by
  obtain ⟨fs, hr, hrun, hended, hW, hsame⟩ := X.leave (v := some (.int (nar t z))) (fun h => by rw [hret] at h; cases h) hlk
  exact ⟨_, _, Jvm.RoadKit.retN X hx hret ht hd hr, hrun, hended, _, _, rfl, hQ, ⟨_, rfl⟩, hW, hsame.mono hk hn⟩
theorem Goes.ret (X : Stand p l e R s m args below meth c T locs cells slots) (hx : p.tables.exec = Jvm.exec) (hlk : meth.locks = false) {t : FieldType} (hret : meth.sig.returnType = some t) {w : Value} (hnr : narrow t w = w) {i : Instr} {pc : Nat} {Ls : Array Slot} {rest : List Value}
    (hi : (i = .ireturn ∧ (t = .int ∨ t = .boolean ∨ t = .byte ∨ t = .char ∨ t = .short) ∧ ∃ z, w = .int z) ∨ (i = .lreturn ∧ t = .long ∧ ∃ z, w = .long z) ∨ (i = .dreturn ∧ t = .double ∧ ∃ z, w = .double z) ∨ (i = .freturn ∧ t = .float ∧ ∃ z, w = .float z) ∨ (i = .areturn ∧ t.isReference = true ∧ w.isRef = true))
    (hd : decode c.code pc = .ok (i, 1)) {Q : Option Value → Heap → List Loc → Prop} {k n : Nat} (hk : cells ≤ k) (hn : slots ≤ n) (hQ : Q (some w) T.heap locs) :
    Goes p e below (Aim s Q k n) (T.setTop (mkF m pc Ls (w :: rest))) := by
  obtain ⟨fs, hr, hrun, hended, hW, hsame⟩ := X.leave (v := some w) (fun h => by rw [hret] at h; cases h) hlk
  exact ⟨_, _, Jvm.RoadKit.retOut X hx hret hnr hi hd hr, hrun, hended, _, _, rfl, hQ, ⟨_, rfl⟩, hW, hsame.mono hk hn⟩
theorem Goes.ret0 (X : Stand p l e R s m args below meth c T locs cells slots) (hx : p.tables.exec = Jvm.exec) (hlk : meth.locks = false) (hret : meth.sig.returnType = none) {pc : Nat} {Ls : Array Slot}
    (hd : decode c.code pc = .ok (.return_, 1)) {Q : Option Value → Heap → List Loc → Prop} {k n : Nat} (hk : cells ≤ k) (hn : slots ≤ n) (hQ : Q none T.heap locs) :
    Goes p e below (Aim s Q k n) (T.setTop (mkF m pc Ls [])) := by
  obtain ⟨fs, hr, hrun, hended, hW, hsame⟩ := X.leave (v := none) (fun _ => rfl) hlk
  exact ⟨_, _, X.returnOut hx hret hd hr, hrun, hended, _, _, rfl, hQ, ⟨_, rfl⟩, hW, hsame.mono hk hn⟩
/-- a body's contract: called with these arguments over the heap h0 it returns, and Q says what it leaves -/
def Con (l : Launch) (Z : State) (y : MethodName) (bytes : ByteArray) (maxL : Nat) (ret : Option FieldType) (rm : Room) (as : Array Value) (h0 : Heap) (Q : Option Value → Heap → List Loc → Prop) : Prop :=
  ∀ ws : List Jvm.Cond, MetFree l y (head1 (Jvm.Cond.code y bytes maxL ret :: ws) rm) (fun a U => a = as ∧ Z.Warmed39 U.vm ∧ U.heap = h0) (fun _ _ _ _ _ => True) (fun _ U o U' => ∃ v L, o = .returned v ∧ Q v U'.heap L ∧ FrameEnd U o U' L rm.cells rm.slots)
theorem Con.body {y : MethodName} {bytes : ByteArray} {maxL : Nat} {ret : Option FieldType} {rm : Room} {as : Array Value} {h0 : Heap} {Q : Option Value → Heap → List Loc → Prop} (hp : plainFor y = true)
    (H : ∀ (p : Program) (e : Env) (s : State) (m : MethodId) (below : List Frame) (meth : Method) (c : Code) (s₁ : State), p.tables.exec = Jvm.exec → c.code = bytes → c.maxLocals = maxL → Z.Warmed39 s.vm → s.vm.findClass y.cls = some m.cls → meth.name = y.name → meth.sig.returnType = ret → meth.locks = false →
      Stand p l e rm s m as below meth c s₁ [] 0 0 → s₁.heap = h0 → Goes p e below (Aim s Q rm.cells rm.slots) (s₁.setTop (entryFrame m as maxL))) :
    Con l Z y bytes maxL ret rm as h0 Q := by
  intro ws
  refine MetFree.of_bodySF hp hisR ?_
  intro p e s m args below meth c s₁ Bd hml0 hP hK
  obtain ⟨rfl, hZ, hh⟩ := hP
  exact H p e s m below meth c s₁ Bd.exec Bd.bytes hml0 hZ (findClass_of_methodNamed Bd.named) (name_of_methodNamed Bd.named Bd.method).1 Bd.returns Bd.notSynchronized (Stand.of_body Bd) (by rw [← hh, Bd.state]; rfl)
theorem Goes.callS (X : Stand p l e R s m args below meth c T locs cells slots) (hx : p.tables.exec = Jvm.exec) (hZ : Z.Warmed39 s.vm) {own : String} {index : Nat} {y : MethodName} {bytes : ByteArray} {maxL : Nat} {ret : Option FieldType} {rm : Room} {as : List Value} {Q : Option Value → Heap → List Loc → Prop} (hown : s.vm.findClass own = some m.cls)
    (w1 : (Jvm.Cond.methodLink own index y).before a0 Z = true) (w2 : (Jvm.Cond.static y).before a0 Z = true) (w3 : (Jvm.Cond.initialized y.cls).before a0 Z = true) (w4 : (Jvm.Cond.code y bytes maxL ret).before a0 Z = true) (hy : y.cls ≠ "java/lang/invoke/MethodHandle" ∧ y.cls ≠ "java/lang/invoke/VarHandle")
    (eT : T.heap = h) (hM : Con l Z y bytes maxL ret rm as.toArray h Q) {W : Nat} (hf : rm.frames + 1 ≤ R.frames) (hl : W + (maxL + 11) + rm.locals ≤ R.locals) (hc : cells + rm.cells ≤ R.cells) (hs : slots + rm.slots ≤ R.slots)
    {g : JFrame} (hg : g.method = m) (hsize : g.locals.size = c.maxLocals) {rest : List Value} {ps : List FieldType} {r : Option FieldType} (hd : parseMethodDescriptor y.desc = some ⟨ps, r⟩) (hlen : as.length = ps.length) (hstack : g.stack = as.reverse ++ rest) (hW : 2 * g.monitorRoom + (rest.map fun v => v.category).sum ≤ W) (hdg : decode c.code g.pc = .ok (.invokestatic index, 3))
    {P : State → Outcome → Prop} (k : ∀ v T' L, Stand p l e R s m args below meth c T' (locs ++ L) (cells + rm.cells) (slots + rm.slots) → Q v T'.heap L → Goes p e below P (T'.setTop { g with pc := g.pc + 3, stack := v.toList ++ rest })) :
    Goes p e below P (T.setTop g) := by
  obtain ⟨v, vm₁, ⟨T', L', k', n'⟩, -, X', ⟨L, hQ, l', y', z'⟩, st⟩ := Jvm.LawKit.callS X hx hown (mvT hZ w1) (mvT hZ w2) (mvT hZ w3) (mvT hZ w4) hy (backOf (W := W) (hM []) hZ w4 w3 hf hl) (g := g) hg hsize (argsL := as) (rest := rest) (lenOf hd hlen) hstack hW hdg (fun _ _ => ⟨rfl, eT, hc, hs⟩)
  try dsimp only at X' hQ l' y' z' st
  subst l' y' z'
  exact Goes.step st (k v T' L X' hQ)
theorem Goes.callV (X : Stand p l e R s m args below meth c T locs cells slots) (hx : p.tables.exec = Jvm.exec) (hZ : Z.Warmed39 s.vm) {own C : String} {index : Nat} {y z : MethodName} {bytes : ByteArray} {maxL : Nat} {ret : Option FieldType} {rm : Room} {as : List Value} {Q : Option Value → Heap → List Loc → Prop} (hown : s.vm.findClass own = some m.cls)
    (w1 : (Jvm.Cond.methodLink own index y).before a0 Z = true) (w2 : (Jvm.Cond.declares y).before a0 Z = true) (hnf : NotFace s y) (w3 : (Jvm.Cond.selects C y z).before a0 Z = true) (w4 : (Jvm.Cond.instanceMethod z).before a0 Z = true) (w5 : (Jvm.Cond.code z bytes maxL ret).before a0 Z = true) (w6 : (Jvm.Cond.initialized z.cls).before a0 Z = true) (hy : y.cls ≠ "java/lang/invoke/MethodHandle" ∧ y.cls ≠ "java/lang/invoke/VarHandle")
    (eT : T.heap = h) {b : Addr} (E : Exa Z h b C) (hM : Con l Z z bytes maxL ret rm (.ref b :: as).toArray h Q) {W : Nat} (hf : rm.frames + 1 ≤ R.frames) (hl : W + (maxL + 11) + rm.locals ≤ R.locals) (hc : cells + rm.cells ≤ R.cells) (hs : slots + rm.slots ≤ R.slots)
    {g : JFrame} (hg : g.method = m) (hsize : g.locals.size = c.maxLocals) {rest : List Value} {ps : List FieldType} {r : Option FieldType} (hd : parseMethodDescriptor y.desc = some ⟨ps, r⟩) (hlen : as.length = ps.length) (hstack : g.stack = as.reverse ++ .ref b :: rest) (hW : 2 * g.monitorRoom + (rest.map fun v => v.category).sum ≤ W) (hdg : decode c.code g.pc = .ok (.invokevirtual index, 3))
    {P : State → Outcome → Prop} (k : ∀ v T' L, Stand p l e R s m args below meth c T' (locs ++ L) (cells + rm.cells) (slots + rm.slots) → Q v T'.heap L → Goes p e below P (T'.setTop { g with pc := g.pc + 3, stack := v.toList ++ rest })) :
    Goes p e below P (T.setTop g) := by
  obtain ⟨cB, kB, q1, -, q3⟩ := isOf hZ eT E
  obtain ⟨v, vm₁, ⟨T', L', k', n'⟩, -, X', ⟨L, hQ, l', y', z'⟩, st⟩ := X.virtualBack hx (y := y) (z := z) hown (mvT hZ w1) (mvT hZ w2) hnf (mvT hZ w3) (mvT hZ w4) hy (backOf (W := W) (hM []) hZ w5 w6 hf hl) q1 q3 (g := g) hg hsize (Steps.refl _) (argsL := as) (rest := rest) (lenOf hd hlen) hstack hW hdg (fun _ _ => ⟨rfl, eT, hc, hs⟩)
  try dsimp only at X' hQ l' y' z' st
  subst l' y' z'
  exact Goes.tr st (k v T' L X' hQ)
theorem Goes.callI (X : Stand p l e R s m args below meth c T locs cells slots) (hx : p.tables.exec = Jvm.exec) (hZ : Z.Warmed39 s.vm) {own : String} {index : Nat} {y : MethodName} {bytes : ByteArray} {maxL : Nat} {rm : Room} {as : List Value} {Q : Option Value → Heap → List Loc → Prop} (hy1 : y.name = "<init>") (hown : s.vm.findClass own = some m.cls)
    (w1 : (Jvm.Cond.methodLink own index y).before a0 Z = true) (w2 : (Jvm.Cond.instanceMethod y).before a0 Z = true) (w3 : (Jvm.Cond.code y bytes maxL none).before a0 Z = true) (w4 : (Jvm.Cond.initialized y.cls).before a0 Z = true) (hy : y.cls ≠ "java/lang/invoke/MethodHandle" ∧ y.cls ≠ "java/lang/invoke/VarHandle")
    (eT : T.heap = h) {b : Addr} (hM : Con l Z y bytes maxL none rm (.ref b :: as).toArray h Q) {W : Nat} (hf : rm.frames + 1 ≤ R.frames) (hl : W + (maxL + 11) + rm.locals ≤ R.locals) (hc : cells + rm.cells ≤ R.cells) (hs : slots + rm.slots ≤ R.slots)
    {g : JFrame} (hg : g.method = m) (hsize : g.locals.size = c.maxLocals) {rest : List Value} {ps : List FieldType} {r : Option FieldType} (hd : parseMethodDescriptor y.desc = some ⟨ps, r⟩) (hlen : as.length = ps.length) (hstack : g.stack = as.reverse ++ .ref b :: rest) (hW : 2 * g.monitorRoom + (rest.map fun v => v.category).sum ≤ W) (hdg : decode c.code g.pc = .ok (.invokespecial index, 3))
    {P : State → Outcome → Prop} (k : ∀ v T' L, Stand p l e R s m args below meth c T' (locs ++ L) (cells + rm.cells) (slots + rm.slots) → Q v T'.heap L → Goes p e below P (T'.setTop { g with pc := g.pc + 3, stack := v.toList ++ rest })) :
    Goes p e below P (T.setTop g) := by
  obtain ⟨v, vm₁, ⟨T', L', k', n'⟩, -, X', ⟨L, hQ, l', y', z'⟩, st⟩ := X.specialBack hx (y := y) hy1 hown (mvT hZ w1) (mvT hZ w2) (mvT hZ w3) hy (backOf (W := W) (hM []) hZ w3 w4 hf hl) (g := g) hg hsize (Steps.refl _) (a := b) (argsL := as) (rest := rest) (lenOf hd hlen) hstack hW hdg (fun _ _ => ⟨rfl, eT, hc, hs⟩)
  try dsimp only at X' hQ l' y' z' st
  subst l' y' z'
  exact Goes.tr st (k v T' L X' hQ)
theorem own_refR {v : Value} (h : v.isRef = true) : v = .null ∨ ∃ a, v = .ref a := by
  cases v <;> first | exact Or.inl rfl | exact Or.inr ⟨_, rfl⟩ | cases h
theorem jlt {a b : Int64} : lcmpW a b < 0 ↔ a < b := by rw [lcW]; exact lc_lt a b
theorem jgt {a b : Int64} : 0 < lcmpW a b ↔ b < a := by rw [lcW]; exact lc_gt a b
theorem jeq {a b : Int64} : lcmpW a b = 0 ↔ a = b := by rw [lcW]; exact lc_eq a b
end Own
section OwnHeap
variable {p : Program} {l : Launch} {e : Env} {R : Room} {s : State} {m : MethodId} {args : Array Value} {below : List Frame} {meth : Method} {c : Code} {T : State} {locs : List Loc} {cells slots : Nat} {Z : State} {a0 : Array Value} {h h' : Heap} {a b : Addr} {ty : FieldType} {n : Nat} {f f' : Nat → Value} {sl : Nat} {v : Value} {ws : List Addr}
theorem own_ix {j : Int32} {i n : Nat} (hj : j.toInt = (i : Int)) (hi : i < n) : ¬ (j < 0 ∨ n ≤ j.toNatClampNeg) := by
  simp only [Int32.lt_iff_toInt_lt, Int32.toNatClampNeg, hj, Int32.reduceToInt]; omega
theorem own_ixn {j : Int32} {i : Nat} (hj : j.toInt = (i : Int)) : j.toNatClampNeg = i := by
  simp only [Int32.toNatClampNeg, hj]; omega
/-- the array at a holds n places, the i-th f i -/
def Afn (Z : State) (h : Heap) (a : Addr) (ty : FieldType) (n : Nat) (f : Nat → Value) : Prop :=
  ∃ c : Cell, Arr Z h a c ty ∧ c.slots.size = n ∧ n < 2 ^ 31 ∧ (∀ i, i < n → c.slots[i]? = some (f i)) ∧ ∀ i, i < n → fits ty (f i) = true
theorem Afn.lt (F : Afn Z h a ty n f) : a < h.size := by obtain ⟨c, A, -⟩ := F; exact A.lt
theorem Afn.ext (F : Afn Z h a ty n f) (E : Ext h h') : Afn Z h' a ty n f := by obtain ⟨c, A, r⟩ := F; exact ⟨c, A.ext E, r⟩
theorem Afn.other (F : Afn Z h b ty n f) (W : Wr h h' a sl v) (q : b ≠ a) : Afn Z h' b ty n f := by obtain ⟨c, A, r⟩ := F; exact ⟨c, A.other W q, r⟩
theorem Afn.keep (F : Afn Z h a ty n f) (K : Keep h h' ws) (q : a ∉ ws) : Afn Z h' a ty n f := by obtain ⟨c, A, r⟩ := F; exact ⟨c, ⟨K.2.1 a c A.1 q, A.2⟩, r⟩
theorem Afn.congr (F : Afn Z h a ty n f) (q : ∀ i, i < n → f i = f' i) : Afn Z h a ty n f' := by
  obtain ⟨c, A, S, B, H, G⟩ := F
  exact ⟨c, A, S, B, fun i hi => by rw [← q i hi]; exact H i hi, fun i hi => by rw [← q i hi]; exact G i hi⟩
theorem Afn.new {k : ClassId} {z : Int32} (A : Arr Z h a (newA k ty z) ty) (q : z.toInt = (n : Int)) : Afn Z h a ty n (fun _ => defaultValue ty) := by
  obtain ⟨c, A', -, S, q3, H, G⟩ := Arv.new A (by rw [Int32.lt_iff_toInt_lt, q]; simp only [Int32.reduceToInt]; omega)
  rw [own_ixn q] at S
  refine ⟨c, A', S, ?_, fun i hi => H i (by rw [S]; exact hi), fun i hi => G i (by rw [S]; exact hi)⟩
  have := z.toInt_lt
  omega
theorem Afn.set {i : Nat} (F : Afn Z h a ty n f) (W : Wr h h' a i v) (hv : fits ty v = true) : Afn Z h' a ty n (fun x => if x = i then v else f x) := by
  obtain ⟨c, A, S, B, H, G⟩ := F
  refine ⟨_, A.same W, by rw [sz_set]; exact S, B, fun x hx => ?_, fun x hx => ?_⟩
  · show _ = some (if x = i then v else f x)
    by_cases q : x = i
    · subst q
      rw [if_pos rfl]
      have hx' : x < c.slots.size := by rw [S]; exact hx
      simp [Cell.setSlot, hx']
    · rw [if_neg q, ← H x hx]
      exact Array.getElem?_setIfInBounds_ne (Ne.symm q)
  · by_cases q : x = i
    · simp only [q, if_true]; exact hv
    · simp only [if_neg q]; exact G x hx
theorem Goes.iastore (X : Stand p l e R s m args below meth c T locs cells slots) (hx : p.tables.exec = Jvm.exec) (hZ : Z.Warmed39 s.vm) (eT : T.heap = h) (A : Afn Z h a .int n f) {j : Int32} {i : Nat} (hj : j.toInt = (i : Int)) (hi : i < n) {x : Int32} {g : JFrame} (hg : g.method = m) {rest : List Value} (hs : g.stack = .int x :: .int j :: .ref a :: rest) (hd : decode c.code g.pc = .ok (.iastore, 1)) {P : State → Outcome → Prop}
    (k : ∀ T' h', Stand p l e R s m args below meth c T' (locs ++ [⟨a, i⟩]) cells slots → T'.heap = h' → Wr h h' a i (.int x) → Afn Z h' a .int n (fun z => if z = i then .int x else f z) → Goes p e below P (T'.setTop { g with pc := g.pc + 1, stack := rest })) : Goes p e below P (T.setTop g) := by
  obtain ⟨cl, A1, S, -⟩ := id A
  obtain ⟨T', h', X', e', W, st⟩ := stI X hx hZ eT A1 (j := j) (by rw [S]; exact own_ix hj hi) hg hs hd
  rw [own_ixn hj] at X' W
  exact Goes.step st (k T' h' X' e' W (A.set W rfl))
theorem Goes.lastore (X : Stand p l e R s m args below meth c T locs cells slots) (hx : p.tables.exec = Jvm.exec) (hZ : Z.Warmed39 s.vm) (eT : T.heap = h) (A : Afn Z h a .long n f) {j : Int32} {i : Nat} (hj : j.toInt = (i : Int)) (hi : i < n) {x : Int64} {g : JFrame} (hg : g.method = m) {rest : List Value} (hs : g.stack = .long x :: .int j :: .ref a :: rest) (hd : decode c.code g.pc = .ok (.lastore, 1)) {P : State → Outcome → Prop}
    (k : ∀ T' h', Stand p l e R s m args below meth c T' (locs ++ [⟨a, i⟩]) cells slots → T'.heap = h' → Wr h h' a i (.long x) → Afn Z h' a .long n (fun z => if z = i then .long x else f z) → Goes p e below P (T'.setTop { g with pc := g.pc + 1, stack := rest })) : Goes p e below P (T.setTop g) := by
  obtain ⟨cl, A1, S, -⟩ := id A
  obtain ⟨T', h', X', e', W, st⟩ := stJ X hx hZ eT A1 (j := j) (by rw [S]; exact own_ix hj hi) hg hs hd
  rw [own_ixn hj] at X' W
  exact Goes.step st (k T' h' X' e' W (A.set W rfl))
theorem Goes.bastore (X : Stand p l e R s m args below meth c T locs cells slots) (hx : p.tables.exec = Jvm.exec) (hZ : Z.Warmed39 s.vm) (eT : T.heap = h) (A : Afn Z h a .byte n f) {j : Int32} {i : Nat} (hj : j.toInt = (i : Int)) (hi : i < n) {x : Int32} {g : JFrame} (hg : g.method = m) {rest : List Value} (hs : g.stack = .int x :: .int j :: .ref a :: rest) (hd : decode c.code g.pc = .ok (.bastore, 1)) {P : State → Outcome → Prop}
    (k : ∀ T' h', Stand p l e R s m args below meth c T' (locs ++ [⟨a, i⟩]) cells slots → T'.heap = h' → Wr h h' a i (.int x.toInt8.toInt32) → Afn Z h' a .byte n (fun z => if z = i then .int x.toInt8.toInt32 else f z) → Goes p e below P (T'.setTop { g with pc := g.pc + 1, stack := rest })) : Goes p e below P (T.setTop g) := by
  obtain ⟨cl, A1, S, -⟩ := id A
  obtain ⟨T', h', X', e', W, st⟩ := stB X hx hZ eT A1 (j := j) (by rw [S]; exact own_ix hj hi) hg hs hd
  rw [own_ixn hj] at X' W
  exact Goes.step st (k T' h' X' e' W (A.set W (fits_nar_byte x)))
theorem Goes.castore (X : Stand p l e R s m args below meth c T locs cells slots) (hx : p.tables.exec = Jvm.exec) (hZ : Z.Warmed39 s.vm) (eT : T.heap = h) (A : Afn Z h a .char n f) {j : Int32} {i : Nat} (hj : j.toInt = (i : Int)) (hi : i < n) {x : Int32} {g : JFrame} (hg : g.method = m) {rest : List Value} (hs : g.stack = .int x :: .int j :: .ref a :: rest) (hd : decode c.code g.pc = .ok (.castore, 1)) {P : State → Outcome → Prop}
    (k : ∀ T' h', Stand p l e R s m args below meth c T' (locs ++ [⟨a, i⟩]) cells slots → T'.heap = h' → Wr h h' a i (.int (nar .char x)) → Afn Z h' a .char n (fun z => if z = i then .int (nar .char x) else f z) → Goes p e below P (T'.setTop { g with pc := g.pc + 1, stack := rest })) : Goes p e below P (T.setTop g) := by
  obtain ⟨cl, A1, S, -⟩ := id A
  obtain ⟨T', h', X', e', W, st⟩ := stC X hx hZ eT A1 (j := j) (by rw [S]; exact own_ix hj hi) hg hs hd
  rw [own_ixn hj] at X' W
  exact Goes.step st (k T' h' X' e' W (A.set W (fits_nar_char x)))
theorem Goes.iaload (X : Stand p l e R s m args below meth c T locs cells slots) (hx : p.tables.exec = Jvm.exec) (hZ : Z.Warmed39 s.vm) (eT : T.heap = h) (A : Afn Z h a .int n f) {j : Int32} {i : Nat} (hj : j.toInt = (i : Int)) (hi : i < n) (hv : f i = v) {g : JFrame} (hg : g.method = m) {rest : List Value} (hs : g.stack = .int j :: .ref a :: rest) (hd : decode c.code g.pc = .ok (.iaload, 1)) {P : State → Outcome → Prop}
    (k : Goes p e below P (T.setTop { g with pc := g.pc + 1, stack := v :: rest })) : Goes p e below P (T.setTop g) := by
  obtain ⟨cl, A1, S, B, H, G⟩ := A
  exact Goes.step (fun tgt q => X.iaload hx (j := j) (v := v) (by rw [eT]; exact A1.1) (State.isArrayOf_alike hZ.alike A1.2.1) A1.2.2 (by rw [S]; exact own_ix hj hi) (by rw [own_ixn hj, ← hv]; exact H i hi) hg hs hd tgt q) k
theorem Goes.laload (X : Stand p l e R s m args below meth c T locs cells slots) (hx : p.tables.exec = Jvm.exec) (hZ : Z.Warmed39 s.vm) (eT : T.heap = h) (A : Afn Z h a .long n f) {j : Int32} {i : Nat} (hj : j.toInt = (i : Int)) (hi : i < n) (hv : f i = v) {g : JFrame} (hg : g.method = m) {rest : List Value} (hs : g.stack = .int j :: .ref a :: rest) (hd : decode c.code g.pc = .ok (.laload, 1)) {P : State → Outcome → Prop}
    (k : Goes p e below P (T.setTop { g with pc := g.pc + 1, stack := v :: rest })) : Goes p e below P (T.setTop g) := by
  obtain ⟨cl, A1, S, B, H, G⟩ := A
  exact Goes.step (fun tgt q => X.laload hx (j := j) (v := v) (by rw [eT]; exact A1.1) (State.isArrayOf_alike hZ.alike A1.2.1) A1.2.2 (by rw [S]; exact own_ix hj hi) (by rw [own_ixn hj, ← hv]; exact H i hi) hg hs hd tgt q) k
theorem Goes.baload (X : Stand p l e R s m args below meth c T locs cells slots) (hx : p.tables.exec = Jvm.exec) (hZ : Z.Warmed39 s.vm) (eT : T.heap = h) (A : Afn Z h a .byte n f) {j : Int32} {i : Nat} (hj : j.toInt = (i : Int)) (hi : i < n) (hv : f i = v) {g : JFrame} (hg : g.method = m) {rest : List Value} (hs : g.stack = .int j :: .ref a :: rest) (hd : decode c.code g.pc = .ok (.baload, 1)) {P : State → Outcome → Prop}
    (k : Goes p e below P (T.setTop { g with pc := g.pc + 1, stack := v :: rest })) : Goes p e below P (T.setTop g) := by
  obtain ⟨cl, A1, S, B, H, G⟩ := A
  exact Goes.step (fun tgt q => X.baloadBytes hx (j := j) (v := v) (by rw [eT]; exact A1.1) (State.isArrayOf_alike hZ.alike A1.2.1) A1.2.2 (by rw [S]; exact own_ix hj hi) (by rw [own_ixn hj, ← hv]; exact H i hi) hg hs hd tgt q) k
theorem Goes.caload (X : Stand p l e R s m args below meth c T locs cells slots) (hx : p.tables.exec = Jvm.exec) (hZ : Z.Warmed39 s.vm) (eT : T.heap = h) (A : Afn Z h a .char n f) {j : Int32} {i : Nat} (hj : j.toInt = (i : Int)) (hi : i < n) (hv : f i = v) {g : JFrame} (hg : g.method = m) {rest : List Value} (hs : g.stack = .int j :: .ref a :: rest) (hd : decode c.code g.pc = .ok (.caload, 1)) {P : State → Outcome → Prop}
    (k : Goes p e below P (T.setTop { g with pc := g.pc + 1, stack := v :: rest })) : Goes p e below P (T.setTop g) := by
  obtain ⟨cl, A1, S, B, H, G⟩ := A
  exact Goes.step (fun tgt q => X.caload hx (j := j) (v := v) (by rw [eT]; exact A1.1) (State.isArrayOf_alike hZ.alike A1.2.1) A1.2.2 (by rw [S]; exact own_ix hj hi) (by rw [own_ixn hj, ← hv]; exact H i hi) hg hs hd tgt q) k
theorem Goes.aaload {C : FieldType} (X : Stand p l e R s m args below meth c T locs cells slots) (hx : p.tables.exec = Jvm.exec) (hZ : Z.Warmed39 s.vm) (eT : T.heap = h) (A : Afn Z h a C n f) (hC : C.isReference = true) {j : Int32} {i : Nat} (hj : j.toInt = (i : Int)) (hi : i < n) (hv : f i = v) {g : JFrame} (hg : g.method = m) {rest : List Value} (hs : g.stack = .int j :: .ref a :: rest) (hd : decode c.code g.pc = .ok (.aaload, 1)) {P : State → Outcome → Prop}
    (k : Goes p e below P (T.setTop { g with pc := g.pc + 1, stack := v :: rest })) : Goes p e below P (T.setTop g) := by
  obtain ⟨cl, A1, S, B, H, G⟩ := A
  exact Goes.step (fun tgt q => X.aaload hx (j := j) (v := v) (by rw [eT]; exact A1.1) (State.isArrayOf_alike hZ.alike A1.2.1) hC A1.2.2 (by rw [S]; exact own_ix hj hi) (by rw [own_ixn hj, ← hv]; exact H i hi) hg hs hd tgt q) k
theorem Goes.alen (X : Stand p l e R s m args below meth c T locs cells slots) (hx : p.tables.exec = Jvm.exec) (hZ : Z.Warmed39 s.vm) (eT : T.heap = h) (A : Afn Z h a ty n f) {z : Int32} (hz : z.toInt = (n : Int)) {g : JFrame} (hg : g.method = m) {rest : List Value} (hs : g.stack = .ref a :: rest) (hd : decode c.code g.pc = .ok (.arraylength, 1)) {P : State → Outcome → Prop}
    (k : Goes p e below P (T.setTop { g with pc := g.pc + 1, stack := .int z :: rest })) : Goes p e below P (T.setTop g) := by
  obtain ⟨cl, A1, S, B, H, G⟩ := A
  have q : cl.slots.size.toInt32 = z := by rw [S, ← Int32.toInt_inj, hz]; exact len_toInt B
  exact Goes.step (fun tgt r => X.arraylength hx (by rw [eT]; exact A1.1) (State.isArrayOf_alike hZ.alike A1.2.1) hg hs hd tgt (by rw [q]; exact r)) k
theorem Goes.clone (X : Stand p l e R s m args below meth c T locs cells slots) (hx : p.tables.exec = Jvm.exec) (hZ : Z.Warmed39 s.vm) {own ad : String} {index : Nat} (hown : s.vm.findClass own = some m.cls)
    (w1 : (Jvm.Cond.methodLink own index ⟨ad, "clone", "()Ljava/lang/Object;"⟩).before a0 Z = true) (w2 : (Jvm.Cond.sameMethod ad "java/lang/Object" "clone" "()Ljava/lang/Object;").before a0 Z = true) (w3 : (Jvm.Cond.native ⟨"java/lang/Object", "clone", "()Ljava/lang/Object;"⟩).before a0 Z = true)
    (w4 : (Jvm.Cond.instanceMethod ⟨"java/lang/Object", "clone", "()Ljava/lang/Object;"⟩).before a0 Z = true) (w5 : (Jvm.Cond.selects ad ⟨ad, "clone", "()Ljava/lang/Object;"⟩ ⟨"java/lang/Object", "clone", "()Ljava/lang/Object;"⟩).before a0 Z = true) (w6 : (Jvm.Cond.castable ad "java/lang/Cloneable").before a0 Z = true)
    (eT : T.heap = h) (A : Afn Z h a ty n f) (E : Exa Z h a ad) {g : JFrame} (hg : g.method = m) (hsize : g.locals.size = c.maxLocals) {rest : List Value} (hs : g.stack = .ref a :: rest) (hd : decode c.code g.pc = .ok (.invokevirtual index, 3))
    (hf : 1 ≤ R.frames) {W cap : Nat} (hW : 2 * g.monitorRoom + (rest.map fun v => v.category).sum ≤ W) (hl : W + 14 ≤ R.locals) (hcap : n ≤ cap) (hc : cells + 1 ≤ R.cells) (hsl : slots + cap ≤ R.slots) {P : State → Outcome → Prop}
    (k : ∀ T' h' b, b = h.size → Stand p l e R s m args below meth c T' locs (cells + 1) (slots + cap) → T'.heap = h' → Ext h h' → Afn Z h' b ty n f → Exa Z h' b ad → Goes p e below P (T'.setTop { g with pc := g.pc + 3, stack := .ref b :: rest })) : Goes p e below P (T.setTop g) := by
  obtain ⟨cl, A1, S, B, H, G⟩ := id A
  have FC : FitC Z cl := fitC_of A1 fun i hi v hv => by
    rw [S] at hi
    rw [H i hi] at hv
    cases hv
    exact G i hi
  obtain ⟨T', h', X', e', ex, A', E', st⟩ := cloneA X hx hZ hown w1 w2 w3 w4 w5 w6 eT A1 E FC hg hsize hs hd hf hW hl (by rw [S]; exact hcap) hc hsl
  exact Goes.step st (k T' h' _ rfl X' e' ex ⟨cloneOf cl, A', S, B, H, G⟩ E')
theorem Goes.callP (X : Stand p l e R s m args below meth c T locs cells slots) (hx : p.tables.exec = Jvm.exec) (hZ : Z.Warmed39 s.vm) {own C0 C1 : String} {index : Nat} {y z : MethodName} {bytes : ByteArray} {maxL : Nat} {ret : Option FieldType} {rm : Room} {as : List Value} {Q : Option Value → Heap → List Loc → Prop} (hown : s.vm.findClass own = some m.cls)
    (w1 : (Jvm.Cond.methodLink own index y).before a0 Z = true) (w2 : (Jvm.Cond.instanceMethod y).before a0 Z = true) (w3 : (Jvm.Cond.privateMethod y).before a0 Z = true) (w4 : (Jvm.Cond.selects C0 z z).before a0 Z = true) (hz : z.cls = y.cls) (w5 : (Jvm.Cond.code y bytes maxL ret).before a0 Z = true) (w6 : (Jvm.Cond.initialized y.cls).before a0 Z = true) (hy : y.cls ≠ "java/lang/invoke/MethodHandle" ∧ y.cls ≠ "java/lang/invoke/VarHandle")
    (eT : T.heap = h) {b : Addr} (E : Exa Z h b C1) (hM : Con l Z y bytes maxL ret rm (.ref b :: as).toArray h Q) {W : Nat} (hf : rm.frames + 1 ≤ R.frames) (hl : W + (maxL + 11) + rm.locals ≤ R.locals) (hc : cells + rm.cells ≤ R.cells) (hs : slots + rm.slots ≤ R.slots)
    {g : JFrame} (hg : g.method = m) (hsize : g.locals.size = c.maxLocals) {rest : List Value} {ps : List FieldType} {r : Option FieldType} (hd : parseMethodDescriptor y.desc = some ⟨ps, r⟩) (hlen : as.length = ps.length) (hstack : g.stack = as.reverse ++ .ref b :: rest) (hW : 2 * g.monitorRoom + (rest.map fun v => v.category).sum ≤ W) (hdg : decode c.code g.pc = .ok (.invokevirtual index, 3))
    {P : State → Outcome → Prop} (k : ∀ v T' L, Stand p l e R s m args below meth c T' (locs ++ L) (cells + rm.cells) (slots + rm.slots) → Q v T'.heap L → Goes p e below P (T'.setTop { g with pc := g.pc + 3, stack := v.toList ++ rest })) :
    Goes p e below P (T.setTop g) := by
  have hpr := Cond.privateMethod_at (mvP hZ w3 (args := args))
  have hsel : (Jvm.Cond.selects y.cls y y).before args s = true := by
    obtain ⟨c2, r2, m2, -, -, q3, -, kP, hkP, hkPi⟩ := Cond.selects_spec (mvT (args := args) hZ w4)
    exact selects_self_of_private (hz ▸ findClass_of_methodNamed q3) hkP hkPi hpr (mvT hZ w2) hy
  obtain ⟨cell, hcell, hobj⟩ := E.cell
  obtain ⟨v, vm₁, ⟨T', L', k', n'⟩, -, X', ⟨L, hQ, l', y', z'⟩, st⟩ := X.privateBack hx (y := y) hown (mvT hZ w1) (mvT hZ w2) hsel hpr (mvT hZ w5) hy (backOf (W := W) (hM []) hZ w5 w6 hf hl) (g := g) hg hsize (Steps.refl _) (a := b) (by rw [eT]; exact hcell) hobj (argsL := as) (rest := rest) (lenOf hd hlen) hstack hW hdg (fun _ _ => ⟨rfl, eT, hc, hs⟩)
  try dsimp only at X' hQ l' y' z' st
  subst l' y' z'
  exact Goes.tr st (k v T' L X' hQ)
theorem Afn.of_arv {k : ClassId} {z : Int32} {vs : List Value} {d : Value} (F : Arv Z h a k ty z vs d) (q : z.toInt = (n : Int)) : Afn Z h a ty n (fun i => vs.getD i d) := by
  obtain ⟨c, A', -, S, q3, H, G⟩ := F
  rw [own_ixn q] at S
  refine ⟨c, A', S, ?_, fun i hi => H i (by rw [S]; exact hi), fun i hi => G i (by rw [S]; exact hi)⟩
  have := z.toInt_lt
  omega
theorem Afn.to_arv {z : Int32} {d : Value} (F : Afn Z h a ty n f) (q : z.toInt = (n : Int)) : ∃ k, Arv Z h a k ty z ((List.range n).map f) d := by
  obtain ⟨c, A, S, B, H, G⟩ := F
  have e : ∀ i, i < n → ((List.range n).map f).getD i d = f i := fun i hi => by simp [List.getD_eq_getElem?_getD, hi]
  refine ⟨c.cls, c, A, rfl, by rw [S, own_ixn q], by rw [Int32.lt_iff_toInt_lt, q]; simp only [Int32.reduceToInt]; omega, fun i hi => ?_, fun i hi => ?_⟩
  · rw [e i (S ▸ hi)]; exact H i (S ▸ hi)
  · rw [e i (S ▸ hi)]; exact G i (S ▸ hi)
theorem own_cp {n n' sp dp nn : Nat} {f g : Nat → Value} {d d' : Value} (h1 : sp + nn ≤ n) (h2 : dp + nn ≤ n') : ∀ i, i < n' →
    (((List.range n').map g).take dp ++ (List.range nn).map (fun i => ((List.range n).map f).getD (sp + i) d) ++ ((List.range n').map g).drop (dp + nn)).getD i d' = if dp ≤ i ∧ i < dp + nn then f (sp + (i - dp)) else g i := fun i hi => by
  have e : ∀ j, j < nn → ((List.range n).map f).getD (sp + j) d = f (sp + j) := fun j hj => by
    have hh : sp + j < n := by omega
    simp [List.getD_eq_getElem?_getD, hh]
  rw [List.getD_eq_getElem?_getD]
  by_cases q1 : i < dp
  · have q2 : ¬ (dp ≤ i ∧ i < dp + nn) := by omega
    rw [if_neg q2, List.append_assoc, List.getElem?_append_left (by simp; omega)]
    simp [List.getElem?_take, q1, hi]
  · by_cases q2 : i < dp + nn
    · rw [if_pos ⟨by omega, q2⟩, List.getElem?_append_left (by simp; omega), List.getElem?_append_right (by simp; omega)]
      have hl : (((List.range n').map g).take dp).length = dp := by simp; omega
      rw [hl, List.getElem?_map, List.getElem?_range (by omega : i - dp < nn)]
      simp only [Option.map_some, Option.getD_some]
      exact e _ (by omega)
    · rw [if_neg (by omega), List.getElem?_append_right (by simp; omega)]
      have hl : (((List.range n').map g).take dp ++ (List.range nn).map (fun i => ((List.range n).map f).getD (sp + i) d)).length = dp + nn := by simp; omega
      rw [hl, List.getElem?_drop, show dp + nn + (i - (dp + nn)) = i from by omega]
      simp [hi]
/-- System.arraycopy between two arrays of one primitive kind -/
theorem Goes.acopy {n' sp dp nn : Nat} {g' : Nat → Value} {z z' zs zd zn : Int32} (X : Stand p l e R s m args below meth c T locs cells slots) (hx : p.tables.exec = Jvm.exec) (hZ : Z.Warmed39 s.vm) {own : String} {index : Nat} (hown : s.vm.findClass own = some m.cls)
    (w1 : (Jvm.Cond.methodLink own index Jvm.Stand.acN).before a0 Z = true) (w2 : (Jvm.Cond.native Jvm.Stand.acN).before a0 Z = true) (w3 : (Jvm.Cond.static Jvm.Stand.acN).before a0 Z = true) (w4 : (Jvm.Cond.initialized "java/lang/System").before a0 Z = true) (eT : T.heap = h)
    (A : Afn Z h a ty n f) (B : Afn Z h b ty n' g') (hty : refKind ty = false) (hz : z.toInt = (n : Int)) (hz' : z'.toInt = (n' : Int)) (hzs : zs.toInt = (sp : Int)) (hzd : zd.toInt = (dp : Int)) (hzn : zn.toInt = (nn : Int)) (h4 : sp + nn ≤ n) (h5 : dp + nn ≤ n') {n0 : Nat} (N : Fr n0 locs) (ge : n0 ≤ b)
    {g : JFrame} (hg : g.method = m) (hsize : g.locals.size = c.maxLocals) {rest : List Value} (hs : g.stack = .int zn :: .int zd :: .ref b :: .int zs :: .ref a :: rest) (hd : decode c.code g.pc = .ok (.invokestatic index, 3))
    (hf : 1 ≤ R.frames) {W : Nat} (hW : 2 * g.monitorRoom + (rest.map fun v => v.category).sum ≤ W) (hlo : W + (nativeFrameWords "java/lang/System" "arraycopy" 5 + 11) ≤ R.locals) {P : State → Outcome → Prop}
    (k : ∀ T' h' L, Stand p l e R s m args below meth c T' L cells slots → T'.heap = h' → Fr n0 L → Keep h h' [b] → Afn Z h' b ty n' (fun i => if dp ≤ i ∧ i < dp + nn then f (sp + (i - dp)) else g' i) → Goes p e below P (T'.setTop { g with pc := g.pc + 3, stack := rest })) : Goes p e below P (T.setTop g) := by
  have ng : ∀ {x : Int32} {i : Nat}, x.toInt = (i : Int) → ¬ x < 0 := fun {x i} q => by rw [Int32.lt_iff_toInt_lt, q]; simp only [Int32.reduceToInt]; omega
  obtain ⟨k1, A'⟩ := A.to_arv (d := .null) hz
  obtain ⟨k2, B'⟩ := B.to_arv (d := .null) hz'
  obtain ⟨T', h', L, X', e', N', K, C, st⟩ := cpA X hx hZ hown w1 w2 w3 w4 eT A' B' (Or.inl ⟨rfl, hty⟩) (sp := zs) (dp := zd) (nn := zn) (ng hzs) (ng hzd) (ng hzn) (by rw [own_ixn hz, own_ixn hzs, own_ixn hzn]; exact h4) (by rw [own_ixn hz', own_ixn hzd, own_ixn hzn]; exact h5) rfl (by simp [own_ixn hzd, own_ixn hzn]; exact h5) N ge hg hsize hs hd hf hW hlo
  rw [own_ixn hzd, own_ixn hzn, own_ixn hzs] at C
  exact Goes.step st (k T' h' L X' e' N' K ((Afn.of_arv C hz').congr (own_cp h4 h5)))
theorem own_len {t : Term} {cl : Cell} {z : Int32} (ev : t.eval args Z none [] Z = some (.ref a)) (ha : Z.arrayAt? a = some cl) (q : (Term.length t).eval args Z none [] Z = some (.int z)) : cl.slots.size < 2 ^ 31 ∧ cl.slots.size.toInt32 = z := by
  by_cases hl : cl.slots.size < 2 ^ 31
  · rw [len_f ev ha hl] at q
    exact ⟨hl, Value.int.inj (Option.some.inj q)⟩
  · simp [Term.eval, ev, ha, hl] at q
theorem own_eqR {t u : Term} (hb : u.eval args Z none [] Z = some (.ref a)) (q : (Jvm.Cond.eq t u).value args Z none Z [] = some true) : t.eval args Z none [] Z = some (.ref a) := by
  obtain ⟨x, y, e1, e2, k1, k2⟩ := cmp_v (Or.inl q)
  cases hb.symm.trans e2
  have hx : x.isRef = true := k2.2
  have hh := gotT (eq_R e1 e2 hx rfl) q
  rw [e1, hh]
end OwnHeap
theorem own_d10_0 : decode jdk_52_method_21_code 0 = .ok (.iconst 0, 1) := by decide +kernel
theorem own_d10_1 : decode jdk_52_method_21_code 1 = .ok (.istore 5, 2) := by decide +kernel
theorem own_d10_3 : decode jdk_52_method_21_code 3 = .ok (.iload 5, 2) := by decide +kernel
theorem own_d10_5 : decode jdk_52_method_21_code 5 = .ok (.iload 4, 2) := by decide +kernel
theorem own_d10_7 : decode jdk_52_method_21_code 7 = .ok (.if_icmp .ge 37, 3) := by decide +kernel
theorem own_d10_10 : decode jdk_52_method_21_code 10 = .ok (.aload_n 0, 1) := by decide +kernel
theorem own_d10_11 : decode jdk_52_method_21_code 11 = .ok (.iload_n 1, 1) := by decide +kernel
theorem own_d10_12 : decode jdk_52_method_21_code 12 = .ok (.caload, 1) := by decide +kernel
theorem own_d10_13 : decode jdk_52_method_21_code 13 = .ok (.istore 6, 2) := by decide +kernel
theorem own_d10_15 : decode jdk_52_method_21_code 15 = .ok (.iload 6, 2) := by decide +kernel
theorem own_d10_17 : decode jdk_52_method_21_code 17 = .ok (.sipush 255, 3) := by decide +kernel
theorem own_d10_20 : decode jdk_52_method_21_code 20 = .ok (.if_icmp .le 6, 3) := by decide +kernel
theorem own_d10_26 : decode jdk_52_method_21_code 26 = .ok (.aload_n 2, 1) := by decide +kernel
theorem own_d10_27 : decode jdk_52_method_21_code 27 = .ok (.iload_n 3, 1) := by decide +kernel
theorem own_d10_28 : decode jdk_52_method_21_code 28 = .ok (.iload 6, 2) := by decide +kernel
theorem own_d10_30 : decode jdk_52_method_21_code 30 = .ok (.i2b, 1) := by decide +kernel
theorem own_d10_31 : decode jdk_52_method_21_code 31 = .ok (.bastore, 1) := by decide +kernel
theorem own_d10_32 : decode jdk_52_method_21_code 32 = .ok (.iinc 1 1, 3) := by decide +kernel
theorem own_d10_35 : decode jdk_52_method_21_code 35 = .ok (.iinc 3 1, 3) := by decide +kernel
theorem own_d10_38 : decode jdk_52_method_21_code 38 = .ok (.iinc 5 1, 3) := by decide +kernel
theorem own_d10_41 : decode jdk_52_method_21_code 41 = .ok (.goto (-38), 3) := by decide +kernel
theorem own_d10_44 : decode jdk_52_method_21_code 44 = .ok (.iload 4, 2) := by decide +kernel
theorem own_d10_46 : decode jdk_52_method_21_code 46 = .ok (.ireturn, 1) := by decide +kernel
theorem own_d9_0 : decode jdk_52_method_16_code 0 = .ok (.iload_n 2, 1) := by decide +kernel
theorem own_d9_1 : decode jdk_52_method_16_code 1 = .ok (.newarray .byte, 2) := by decide +kernel
theorem own_d9_3 : decode jdk_52_method_16_code 3 = .ok (.astore_n 3, 1) := by decide +kernel
theorem own_d9_4 : decode jdk_52_method_16_code 4 = .ok (.aload_n 0, 1) := by decide +kernel
theorem own_d9_5 : decode jdk_52_method_16_code 5 = .ok (.iload_n 1, 1) := by decide +kernel
theorem own_d9_6 : decode jdk_52_method_16_code 6 = .ok (.aload_n 3, 1) := by decide +kernel
theorem own_d9_7 : decode jdk_52_method_16_code 7 = .ok (.iconst 0, 1) := by decide +kernel
theorem own_d9_8 : decode jdk_52_method_16_code 8 = .ok (.iload_n 2, 1) := by decide +kernel
theorem own_d9_9 : decode jdk_52_method_16_code 9 = .ok (.invokestatic 115, 3) := by decide +kernel
theorem own_d9_12 : decode jdk_52_method_16_code 12 = .ok (.istore 4, 2) := by decide +kernel
theorem own_d9_14 : decode jdk_52_method_16_code 14 = .ok (.iload 4, 2) := by decide +kernel
theorem own_d9_16 : decode jdk_52_method_16_code 16 = .ok (.iload_n 2, 1) := by decide +kernel
theorem own_d9_17 : decode jdk_52_method_16_code 17 = .ok (.if_icmp .eq 40, 3) := by decide +kernel
theorem own_d9_57 : decode jdk_52_method_16_code 57 = .ok (.aload_n 3, 1) := by decide +kernel
theorem own_d9_58 : decode jdk_52_method_16_code 58 = .ok (.areturn, 1) := by decide +kernel
theorem own_d11_0 : decode jdk_52_method_15_code 0 = .ok (.iload_n 1, 1) := by decide +kernel
theorem own_d11_1 : decode jdk_52_method_15_code 1 = .ok (.aload_n 0, 1) := by decide +kernel
theorem own_d11_2 : decode jdk_52_method_15_code 2 = .ok (.arraylength, 1) := by decide +kernel
theorem own_d11_3 : decode jdk_52_method_15_code 3 = .ok (.isub, 1) := by decide +kernel
theorem own_d11_4 : decode jdk_52_method_15_code 4 = .ok (.bipush 31, 2) := by decide +kernel
theorem own_d11_6 : decode jdk_52_method_15_code 6 = .ok (.iushr, 1) := by decide +kernel
theorem own_d11_7 : decode jdk_52_method_15_code 7 = .ok (.i2b, 1) := by decide +kernel
theorem own_d11_8 : decode jdk_52_method_15_code 8 = .ok (.ireturn, 1) := by decide +kernel
theorem own_d8_0 : decode jdk_42_method_149_code 0 = .ok (.aload_n 0, 1) := by decide +kernel
theorem own_d8_1 : decode jdk_42_method_149_code 1 = .ok (.invokespecial 1, 3) := by decide +kernel
theorem own_d8_4 : decode jdk_42_method_149_code 4 = .ok (.iload_n 3, 1) := by decide +kernel
theorem own_d8_5 : decode jdk_42_method_149_code 5 = .ok (.ifCond .ne 22, 3) := by decide +kernel
theorem own_d8_27 : decode jdk_42_method_149_code 27 = .ok (.getstatic 38, 3) := by decide +kernel
theorem own_d8_30 : decode jdk_42_method_149_code 30 = .ok (.ifCond .eq 28, 3) := by decide +kernel
theorem own_d8_33 : decode jdk_42_method_149_code 33 = .ok (.aload_n 1, 1) := by decide +kernel
theorem own_d8_34 : decode jdk_42_method_149_code 34 = .ok (.iload_n 2, 1) := by decide +kernel
theorem own_d8_35 : decode jdk_42_method_149_code 35 = .ok (.iload_n 3, 1) := by decide +kernel
theorem own_d8_36 : decode jdk_42_method_149_code 36 = .ok (.invokestatic 177, 3) := by decide +kernel
theorem own_d8_39 : decode jdk_42_method_149_code 39 = .ok (.astore 5, 2) := by decide +kernel
theorem own_d8_41 : decode jdk_42_method_149_code 41 = .ok (.aload_n 0, 1) := by decide +kernel
theorem own_d8_42 : decode jdk_42_method_149_code 42 = .ok (.aload 5, 2) := by decide +kernel
theorem own_d8_44 : decode jdk_42_method_149_code 44 = .ok (.iload_n 3, 1) := by decide +kernel
theorem own_d8_45 : decode jdk_42_method_149_code 45 = .ok (.invokestatic 47, 3) := by decide +kernel
theorem own_d8_48 : decode jdk_42_method_149_code 48 = .ok (.putfield 15, 3) := by decide +kernel
theorem own_d8_51 : decode jdk_42_method_149_code 51 = .ok (.aload_n 0, 1) := by decide +kernel
theorem own_d8_52 : decode jdk_42_method_149_code 52 = .ok (.aload 5, 2) := by decide +kernel
theorem own_d8_54 : decode jdk_42_method_149_code 54 = .ok (.putfield 9, 3) := by decide +kernel
theorem own_d8_57 : decode jdk_42_method_149_code 57 = .ok (.return_, 1) := by decide +kernel
theorem own_d7_0 : decode jdk_42_method_3_code 0 = .ok (.aload_n 0, 1) := by decide +kernel
theorem own_d7_1 : decode jdk_42_method_3_code 1 = .ok (.aload_n 1, 1) := by decide +kernel
theorem own_d7_2 : decode jdk_42_method_3_code 2 = .ok (.iconst 0, 1) := by decide +kernel
theorem own_d7_3 : decode jdk_42_method_3_code 3 = .ok (.aload_n 1, 1) := by decide +kernel
theorem own_d7_4 : decode jdk_42_method_3_code 4 = .ok (.arraylength, 1) := by decide +kernel
theorem own_d7_5 : decode jdk_42_method_3_code 5 = .ok (.aconst_null, 1) := by decide +kernel
theorem own_d7_6 : decode jdk_42_method_3_code 6 = .ok (.invokespecial 27, 3) := by decide +kernel
theorem own_d7_9 : decode jdk_42_method_3_code 9 = .ok (.return_, 1) := by decide +kernel
theorem own_d2_0 : decode prog_12_method_3_code 0 = .ok (.aload_n 0, 1) := by decide +kernel
theorem own_d2_1 : decode prog_12_method_3_code 1 = .ok (.invokespecial 12, 3) := by decide +kernel
theorem own_d2_4 : decode prog_12_method_3_code 4 = .ok (.aload_n 0, 1) := by decide +kernel
theorem own_d2_5 : decode prog_12_method_3_code 5 = .ok (.aload_n 1, 1) := by decide +kernel
theorem own_d2_6 : decode prog_12_method_3_code 6 = .ok (.putfield 17, 3) := by decide +kernel
theorem own_d2_9 : decode prog_12_method_3_code 9 = .ok (.aload_n 0, 1) := by decide +kernel
theorem own_d2_10 : decode prog_12_method_3_code 10 = .ok (.lload_n 2, 1) := by decide +kernel
theorem own_d2_11 : decode prog_12_method_3_code 11 = .ok (.putfield 21, 3) := by decide +kernel
theorem own_d2_14 : decode prog_12_method_3_code 14 = .ok (.aload_n 0, 1) := by decide +kernel
theorem own_d2_15 : decode prog_12_method_3_code 15 = .ok (.aload 4, 2) := by decide +kernel
theorem own_d2_17 : decode prog_12_method_3_code 17 = .ok (.putfield 25, 3) := by decide +kernel
theorem own_d2_20 : decode prog_12_method_3_code 20 = .ok (.aload_n 0, 1) := by decide +kernel
theorem own_d2_21 : decode prog_12_method_3_code 21 = .ok (.aload 5, 2) := by decide +kernel
theorem own_d2_23 : decode prog_12_method_3_code 23 = .ok (.putfield 29, 3) := by decide +kernel
theorem own_d2_26 : decode prog_12_method_3_code 26 = .ok (.return_, 1) := by decide +kernel
theorem own_d1_0 : decode prog_12_method_1_code 0 = .ok (.aload_n 0, 1) := by decide +kernel
theorem own_d1_1 : decode prog_12_method_1_code 1 = .ok (.aload_n 1, 1) := by decide +kernel
theorem own_d1_2 : decode prog_12_method_1_code 2 = .ok (.aload_n 2, 1) := by decide +kernel
theorem own_d1_3 : decode prog_12_method_1_code 3 = .ok (.arraylength, 1) := by decide +kernel
theorem own_d1_4 : decode prog_12_method_1_code 4 = .ok (.i2l, 1) := by decide +kernel
theorem own_d1_5 : decode prog_12_method_1_code 5 = .ok (.aload_n 2, 1) := by decide +kernel
theorem own_d1_6 : decode prog_12_method_1_code 6 = .ok (.aconst_null, 1) := by decide +kernel
theorem own_d1_7 : decode prog_12_method_1_code 7 = .ok (.invokespecial 1, 3) := by decide +kernel
theorem own_d1_10 : decode prog_12_method_1_code 10 = .ok (.return_, 1) := by decide +kernel
theorem own_d14_0 : decode jdk_2022_method_1_code 0 = .ok (.aload_n 0, 1) := by decide +kernel
theorem own_d14_1 : decode jdk_2022_method_1_code 1 = .ok (.invokespecial 3, 3) := by decide +kernel
theorem own_d14_4 : decode jdk_2022_method_1_code 4 = .ok (.return_, 1) := by decide +kernel
theorem own_d13_0 : decode prog_13_method_1_code 0 = .ok (.aload_n 0, 1) := by decide +kernel
theorem own_d13_1 : decode prog_13_method_1_code 1 = .ok (.invokespecial 1, 3) := by decide +kernel
theorem own_d13_4 : decode prog_13_method_1_code 4 = .ok (.aload_n 0, 1) := by decide +kernel
theorem own_d13_5 : decode prog_13_method_1_code 5 = .ok (.aload_n 1, 1) := by decide +kernel
theorem own_d13_6 : decode prog_13_method_1_code 6 = .ok (.putfield 7, 3) := by decide +kernel
theorem own_d13_9 : decode prog_13_method_1_code 9 = .ok (.aload_n 0, 1) := by decide +kernel
theorem own_d13_10 : decode prog_13_method_1_code 10 = .ok (.aload_n 2, 1) := by decide +kernel
theorem own_d13_11 : decode prog_13_method_1_code 11 = .ok (.putfield 13, 3) := by decide +kernel
theorem own_d13_14 : decode prog_13_method_1_code 14 = .ok (.return_, 1) := by decide +kernel
theorem own_d12_0 : decode prog_12_method_2_code 0 = .ok (.aload_n 0, 1) := by decide +kernel
theorem own_d12_1 : decode prog_12_method_2_code 1 = .ok (.aload_n 1, 1) := by decide +kernel
theorem own_d12_2 : decode prog_12_method_2_code 2 = .ok (.lload_n 2, 1) := by decide +kernel
theorem own_d12_3 : decode prog_12_method_2_code 3 = .ok (.aconst_null, 1) := by decide +kernel
theorem own_d12_4 : decode prog_12_method_2_code 4 = .ok (.new 7, 3) := by decide +kernel
theorem own_d12_7 : decode prog_12_method_2_code 7 = .ok (.dup, 1) := by decide +kernel
theorem own_d12_8 : decode prog_12_method_2_code 8 = .ok (.aload 4, 2) := by decide +kernel
theorem own_d12_10 : decode prog_12_method_2_code 10 = .ok (.aload 5, 2) := by decide +kernel
theorem own_d12_12 : decode prog_12_method_2_code 12 = .ok (.invokespecial 9, 3) := by decide +kernel
theorem own_d12_15 : decode prog_12_method_2_code 15 = .ok (.invokespecial 1, 3) := by decide +kernel
theorem own_d12_18 : decode prog_12_method_2_code 18 = .ok (.return_, 1) := by decide +kernel
theorem own_d4_0 : decode prog_12_method_10_code 0 = .ok (.aload_n 0, 1) := by decide +kernel
theorem own_d4_1 : decode prog_12_method_10_code 1 = .ok (.getfield 29, 3) := by decide +kernel
theorem own_d4_4 : decode prog_12_method_10_code 4 = .ok (.ifnull 7, 3) := by decide +kernel
theorem own_d4_7 : decode prog_12_method_10_code 7 = .ok (.iconst 1, 1) := by decide +kernel
theorem own_d4_8 : decode prog_12_method_10_code 8 = .ok (.goto 4, 3) := by decide +kernel
theorem own_d4_12 : decode prog_12_method_10_code 12 = .ok (.ireturn, 1) := by decide +kernel
theorem own_d4_11 : decode prog_12_method_10_code 11 = .ok (.iconst 0, 1) := by decide +kernel
theorem own_d5_0 : decode prog_12_method_9_code 0 = .ok (.aload_n 0, 1) := by decide +kernel
theorem own_d5_1 : decode prog_12_method_9_code 1 = .ok (.getfield 29, 3) := by decide +kernel
theorem own_d5_4 : decode prog_12_method_9_code 4 = .ok (.ifnull 10, 3) := by decide +kernel
theorem own_d5_14 : decode prog_12_method_9_code 14 = .ok (.return_, 1) := by decide +kernel
theorem own_d6_0 : decode prog_12_method_5_code 0 = .ok (.aload_n 0, 1) := by decide +kernel
theorem own_d6_1 : decode prog_12_method_5_code 1 = .ok (.getfield 21, 3) := by decide +kernel
theorem own_d6_4 : decode prog_12_method_5_code 4 = .ok (.lreturn, 1) := by decide +kernel
theorem own_d15_0 : decode prog_12_method_4_code 0 = .ok (.aload_n 0, 1) := by decide +kernel
theorem own_d15_1 : decode prog_12_method_4_code 1 = .ok (.getfield 17, 3) := by decide +kernel
theorem own_d15_4 : decode prog_12_method_4_code 4 = .ok (.areturn, 1) := by decide +kernel
theorem own_pd0 : parseMethodDescriptor "([CI[BII)I" = some ⟨[(.array .char), .int, (.array .byte), .int, .int], some .int⟩ := by decide +kernel
theorem own_pd1 : parseMethodDescriptor "([CII)[B" = some ⟨[(.array .char), .int, .int], some (.array .byte)⟩ := by decide +kernel
theorem own_pd2 : parseMethodDescriptor "([BI)B" = some ⟨[(.array .byte), .int], some .byte⟩ := by decide +kernel
theorem own_pd3 : parseMethodDescriptor "([CIILjava/lang/Void;)V" = some ⟨[(.array .char), .int, .int, (.object "java/lang/Void")], none⟩ := by decide +kernel
theorem own_pd4 : parseMethodDescriptor "(Ljava/lang/String;J[BLdev/callstitch/call/ResponseBody$Arriving;)V" = some ⟨[(.object "java/lang/String"), .long, (.array .byte), (.object "dev/callstitch/call/ResponseBody$Arriving")], none⟩ := by decide +kernel
theorem own_pd5 : parseMethodDescriptor "()V" = some ⟨[], none⟩ := by decide +kernel
theorem own_pd6 : parseMethodDescriptor "(Ljava/io/InputStream;Ljava/lang/Runnable;)V" = some ⟨[(.object "java/io/InputStream"), (.object "java/lang/Runnable")], none⟩ := by decide +kernel
theorem own_pd7 : parseMethodDescriptor "(Ljava/lang/String;[B)V" = some ⟨[(.object "java/lang/String"), (.array .byte)], none⟩ := by decide +kernel
theorem own_pd8 : parseMethodDescriptor "()Z" = some ⟨[], some .boolean⟩ := by decide +kernel
theorem own_pd9 : parseMethodDescriptor "()J" = some ⟨[], some .long⟩ := by decide +kernel
theorem own_pd10 : parseMethodDescriptor "([C)V" = some ⟨[(.array .char)], none⟩ := by decide +kernel
theorem own_pd11 : parseMethodDescriptor "(Ljava/lang/String;JLjava/io/InputStream;Ljava/lang/Runnable;)V" = some ⟨[(.object "java/lang/String"), .long, (.object "java/io/InputStream"), (.object "java/lang/Runnable")], none⟩ := by decide +kernel
theorem own_pd12 : parseMethodDescriptor "()Ljava/lang/String;" = some ⟨[], some (.object "java/lang/String")⟩ := by decide +kernel
theorem own_pn0 : plainName "java/lang/StringUTF16" = true := by first | (simp [plainName, overriddenIn]; done) | decide +kernel
theorem own_pn1 : plainName "java/lang/String" = true := by first | (simp [plainName, overriddenIn]; done) | decide +kernel
theorem own_pn2 : plainName "dev/callstitch/call/ResponseBody" = true := by first | (simp [plainName, overriddenIn]; done) | decide +kernel
theorem own_pn3 : plainName "java/io/InputStream" = true := by first | (simp [plainName, overriddenIn]; done) | decide +kernel
theorem own_pn4 : plainName "dev/callstitch/call/ResponseBody$Arriving" = true := by first | (simp [plainName, overriddenIn]; done) | decide +kernel
theorem own_pn5 : plainName "dev/callstitch/call/ResponseBodyArrivesPinLaw" = true := by first | (simp [plainName, overriddenIn]; done) | decide +kernel
/-- the low bytes of the chars, as a String's byte[] holds them -/
def own_bs (cs : List Int32) (i : Nat) : Value := .int ((cs.getD i 0).toInt8.toInt32)
set_option maxRecDepth 65536 in
set_option maxHeartbeats 40000000 in
theorem rmS2_1 (l : Launch) (Z : State) (a0 : Array Value) (hw : ∀ d ∈ tables_1, d.before a0 Z = true) (a1 a3 : Addr) (c0 : Int32) (h0 : Heap) (n0 : Nat) (Z0 : n0 ≤ h0.size) (f fb : Nat → Value) (A1 : Afn Z h0 a1 .char 1 f) (A3 : Afn Z h0 a3 .byte 1 fb) (g3 : n0 ≤ a3) (d13 : a1 ≠ a3) (hf0 : f 0 = .int c0) (hc0 : ¬ ((255 : Int32) < c0)) :
    Con l Z (⟨"java/lang/StringUTF16", "compress", "([CI[BII)I"⟩ : MethodName) jdk_52_method_21_code 7 (some .int) ({ frames := 0, cells := 0, slots := 0, locals := 0 } : Room) #[(.ref a1), (.int (0 : Int32)), (.ref a3), (.int (0 : Int32)), (.int (1 : Int32))] h0 (fun v h L => v = some (.int (1 : Int32)) ∧ Fr n0 L ∧ Keep h0 h [a3] ∧ Afn Z h a3 .byte 1 (own_bs [c0])) := by
  refine Con.body (plainFor_of_name own_pn0) ?_
  intro pP eE sS mM bB mT cC s₁ hx hby hml hZ hown hnm hret hlk X0 e0
  have hown : sS.vm.findClass "java/lang/StringUTF16" = some mM.cls := hown
  have hml : cC.maxLocals = 7 := hml
  have N0 := Fr.nil n0
  have ef : entryFrame mM #[(.ref a1), (.int (0 : Int32)), (.ref a3), (.int (0 : Int32)), (.int (1 : Int32))] 7 = mkF mM 0 #[.val (.ref a1), .val (.int (0 : Int32)), .val (.ref a3), .val (.int (0 : Int32)), .val (.int (1 : Int32)), .unset, .unset] [] := by first | (simp [entryFrame, mkF, argsToLocals, Value.category]; done) | rfl
  rw [ef]
  show Goes pP eE bB _ (s₁.setTop (mkF mM 0 #[.val (.ref a1), .val (.int (0 : Int32)), .val (.ref a3), .val (.int (0 : Int32)), .val (.int (1 : Int32)), .unset, .unset] []))
  refine Goes.step (fun _ kK => XS.iconst X0.here hx rfl (hb hby own_d10_0) kK) ?_
  show Goes pP eE bB _ (s₁.setTop (mkF mM 1 #[.val (.ref a1), .val (.int (0 : Int32)), .val (.ref a3), .val (.int (0 : Int32)), .val (.int (1 : Int32)), .unset, .unset] [(.int (0 : Int32))]))
  refine Goes.step (fun _ kK => XS.istore X0.here hx rfl (hb hby own_d10_1) rfl (l' := #[.val (.ref a1), .val (.int (0 : Int32)), .val (.ref a3), .val (.int (0 : Int32)), .val (.int (1 : Int32)), .val (.int (0 : Int32)), .unset]) rfl kK) ?_
  show Goes pP eE bB _ (s₁.setTop (mkF mM 3 #[.val (.ref a1), .val (.int (0 : Int32)), .val (.ref a3), .val (.int (0 : Int32)), .val (.int (1 : Int32)), .val (.int (0 : Int32)), .unset] []))
  refine Goes.step (fun _ kK => XS.iload X0.here hx rfl (hb hby own_d10_3) rfl kK) ?_
  show Goes pP eE bB _ (s₁.setTop (mkF mM 5 #[.val (.ref a1), .val (.int (0 : Int32)), .val (.ref a3), .val (.int (0 : Int32)), .val (.int (1 : Int32)), .val (.int (0 : Int32)), .unset] [(.int (0 : Int32))]))
  refine Goes.step (fun _ kK => XS.iload X0.here hx rfl (hb hby own_d10_5) rfl kK) ?_
  show Goes pP eE bB _ (s₁.setTop (mkF mM 7 #[.val (.ref a1), .val (.int (0 : Int32)), .val (.ref a3), .val (.int (0 : Int32)), .val (.int (1 : Int32)), .val (.int (0 : Int32)), .unset] [(.int (1 : Int32)), (.int (0 : Int32))]))
  refine Goes.step (fun _ kK => XS.icmpNo X0.here hx rfl (hb hby own_d10_7) rfl (tlt (by decide)).2.1 kK) ?_
  show Goes pP eE bB _ (s₁.setTop (mkF mM 10 #[.val (.ref a1), .val (.int (0 : Int32)), .val (.ref a3), .val (.int (0 : Int32)), .val (.int (1 : Int32)), .val (.int (0 : Int32)), .unset] []))
  refine Goes.step (fun _ kK => XS.aloadN X0.here hx rfl (hb hby own_d10_10) rfl rfl kK) ?_
  show Goes pP eE bB _ (s₁.setTop (mkF mM 11 #[.val (.ref a1), .val (.int (0 : Int32)), .val (.ref a3), .val (.int (0 : Int32)), .val (.int (1 : Int32)), .val (.int (0 : Int32)), .unset] [(.ref a1)]))
  refine Goes.step (fun _ kK => XS.iloadN X0.here hx rfl (hb hby own_d10_11) rfl kK) ?_
  show Goes pP eE bB _ (s₁.setTop (mkF mM 12 #[.val (.ref a1), .val (.int (0 : Int32)), .val (.ref a3), .val (.int (0 : Int32)), .val (.int (1 : Int32)), .val (.int (0 : Int32)), .unset] [(.int (0 : Int32)), (.ref a1)]))
  refine Goes.caload X0 hx hZ e0 A1 (i := 0) (by decide) (by decide) hf0 (g := (mkF mM 12 #[.val (.ref a1), .val (.int (0 : Int32)), .val (.ref a3), .val (.int (0 : Int32)), .val (.int (1 : Int32)), .val (.int (0 : Int32)), .unset] [(.int (0 : Int32)), (.ref a1)])) rfl rfl (hb hby own_d10_12) ?_
  show Goes pP eE bB _ (s₁.setTop (mkF mM 13 #[.val (.ref a1), .val (.int (0 : Int32)), .val (.ref a3), .val (.int (0 : Int32)), .val (.int (1 : Int32)), .val (.int (0 : Int32)), .unset] [(.int c0)]))
  refine Goes.step (fun _ kK => XS.istore X0.here hx rfl (hb hby own_d10_13) rfl (l' := #[.val (.ref a1), .val (.int (0 : Int32)), .val (.ref a3), .val (.int (0 : Int32)), .val (.int (1 : Int32)), .val (.int (0 : Int32)), .val (.int c0)]) rfl kK) ?_
  show Goes pP eE bB _ (s₁.setTop (mkF mM 15 #[.val (.ref a1), .val (.int (0 : Int32)), .val (.ref a3), .val (.int (0 : Int32)), .val (.int (1 : Int32)), .val (.int (0 : Int32)), .val (.int c0)] []))
  refine Goes.step (fun _ kK => XS.iload X0.here hx rfl (hb hby own_d10_15) rfl kK) ?_
  show Goes pP eE bB _ (s₁.setTop (mkF mM 17 #[.val (.ref a1), .val (.int (0 : Int32)), .val (.ref a3), .val (.int (0 : Int32)), .val (.int (1 : Int32)), .val (.int (0 : Int32)), .val (.int c0)] [(.int c0)]))
  refine Goes.step (fun _ kK => XS.sipush X0.here hx rfl (hb hby own_d10_17) kK) ?_
  show Goes pP eE bB _ (s₁.setTop (mkF mM 20 #[.val (.ref a1), .val (.int (0 : Int32)), .val (.ref a3), .val (.int (0 : Int32)), .val (.int (1 : Int32)), .val (.int (0 : Int32)), .val (.int c0)] [(.int (255 : Int32)), (.int c0)]))
  have hb_1 : ¬ ((255 : Int32) < c0) := hc0
  refine Goes.step (fun _ kK => XS.icmpYes X0.here hx rfl (pc0 := 20) (pc' := 26) rfl (hb hby own_d10_20) rfl (flt hb_1).2.2.2 (by decide) (by decide) kK) ?_
  show Goes pP eE bB _ (s₁.setTop (mkF mM 26 #[.val (.ref a1), .val (.int (0 : Int32)), .val (.ref a3), .val (.int (0 : Int32)), .val (.int (1 : Int32)), .val (.int (0 : Int32)), .val (.int c0)] []))
  refine Goes.step (fun _ kK => XS.aloadN X0.here hx rfl (hb hby own_d10_26) rfl rfl kK) ?_
  show Goes pP eE bB _ (s₁.setTop (mkF mM 27 #[.val (.ref a1), .val (.int (0 : Int32)), .val (.ref a3), .val (.int (0 : Int32)), .val (.int (1 : Int32)), .val (.int (0 : Int32)), .val (.int c0)] [(.ref a3)]))
  refine Goes.step (fun _ kK => XS.iloadN X0.here hx rfl (hb hby own_d10_27) rfl kK) ?_
  show Goes pP eE bB _ (s₁.setTop (mkF mM 28 #[.val (.ref a1), .val (.int (0 : Int32)), .val (.ref a3), .val (.int (0 : Int32)), .val (.int (1 : Int32)), .val (.int (0 : Int32)), .val (.int c0)] [(.int (0 : Int32)), (.ref a3)]))
  refine Goes.step (fun _ kK => XS.iload X0.here hx rfl (hb hby own_d10_28) rfl kK) ?_
  show Goes pP eE bB _ (s₁.setTop (mkF mM 30 #[.val (.ref a1), .val (.int (0 : Int32)), .val (.ref a3), .val (.int (0 : Int32)), .val (.int (1 : Int32)), .val (.int (0 : Int32)), .val (.int c0)] [(.int c0), (.int (0 : Int32)), (.ref a3)]))
  refine Goes.step (fun _ kK => XS.i2b X0.here hx rfl (hb hby own_d10_30) rfl kK) ?_
  show Goes pP eE bB _ (s₁.setTop (mkF mM 31 #[.val (.ref a1), .val (.int (0 : Int32)), .val (.ref a3), .val (.int (0 : Int32)), .val (.int (1 : Int32)), .val (.int (0 : Int32)), .val (.int c0)] [(.int (c0.toInt8.toInt32)), (.int (0 : Int32)), (.ref a3)]))
  refine Goes.bastore X0 hx hZ e0 A3 (i := 0) (by decide) (by decide) (g := (mkF mM 31 #[.val (.ref a1), .val (.int (0 : Int32)), .val (.ref a3), .val (.int (0 : Int32)), .val (.int (1 : Int32)), .val (.int (0 : Int32)), .val (.int c0)] [(.int (c0.toInt8.toInt32)), (.int (0 : Int32)), (.ref a3)])) rfl rfl (hb hby own_d10_31) ?_
  intro T_2 h_2 X_2 e_2 W_2 A_2
  have N_2 := Fr.snoc X_2 N0 g3
  show Goes pP eE bB _ (T_2.setTop (mkF mM 32 #[.val (.ref a1), .val (.int (0 : Int32)), .val (.ref a3), .val (.int (0 : Int32)), .val (.int (1 : Int32)), .val (.int (0 : Int32)), .val (.int c0)] []))
  refine Goes.step (fun _ kK => XS.iinc X_2.here hx rfl (hb hby own_d10_32) rfl (l' := #[.val (.ref a1), .val (.int ((0 : Int32) + (1 : Int32))), .val (.ref a3), .val (.int (0 : Int32)), .val (.int (1 : Int32)), .val (.int (0 : Int32)), .val (.int c0)]) rfl kK) ?_
  show Goes pP eE bB _ (T_2.setTop (mkF mM 35 #[.val (.ref a1), .val (.int ((0 : Int32) + (1 : Int32))), .val (.ref a3), .val (.int (0 : Int32)), .val (.int (1 : Int32)), .val (.int (0 : Int32)), .val (.int c0)] []))
  refine Goes.step (fun _ kK => XS.iinc X_2.here hx rfl (hb hby own_d10_35) rfl (l' := #[.val (.ref a1), .val (.int ((0 : Int32) + (1 : Int32))), .val (.ref a3), .val (.int ((0 : Int32) + (1 : Int32))), .val (.int (1 : Int32)), .val (.int (0 : Int32)), .val (.int c0)]) rfl kK) ?_
  show Goes pP eE bB _ (T_2.setTop (mkF mM 38 #[.val (.ref a1), .val (.int ((0 : Int32) + (1 : Int32))), .val (.ref a3), .val (.int ((0 : Int32) + (1 : Int32))), .val (.int (1 : Int32)), .val (.int (0 : Int32)), .val (.int c0)] []))
  refine Goes.step (fun _ kK => XS.iinc X_2.here hx rfl (hb hby own_d10_38) rfl (l' := #[.val (.ref a1), .val (.int ((0 : Int32) + (1 : Int32))), .val (.ref a3), .val (.int ((0 : Int32) + (1 : Int32))), .val (.int (1 : Int32)), .val (.int ((0 : Int32) + (1 : Int32))), .val (.int c0)]) rfl kK) ?_
  show Goes pP eE bB _ (T_2.setTop (mkF mM 41 #[.val (.ref a1), .val (.int ((0 : Int32) + (1 : Int32))), .val (.ref a3), .val (.int ((0 : Int32) + (1 : Int32))), .val (.int (1 : Int32)), .val (.int ((0 : Int32) + (1 : Int32))), .val (.int c0)] []))
  refine Goes.step (fun _ kK => XS.goto X_2.here hx rfl (pc0 := 41) (pc' := 3) rfl (hb hby own_d10_41) (by decide) (by decide) kK) ?_
  show Goes pP eE bB _ (T_2.setTop (mkF mM 3 #[.val (.ref a1), .val (.int ((0 : Int32) + (1 : Int32))), .val (.ref a3), .val (.int ((0 : Int32) + (1 : Int32))), .val (.int (1 : Int32)), .val (.int ((0 : Int32) + (1 : Int32))), .val (.int c0)] []))
  refine Goes.step (fun _ kK => XS.iload X_2.here hx rfl (hb hby own_d10_3) rfl kK) ?_
  show Goes pP eE bB _ (T_2.setTop (mkF mM 5 #[.val (.ref a1), .val (.int ((0 : Int32) + (1 : Int32))), .val (.ref a3), .val (.int ((0 : Int32) + (1 : Int32))), .val (.int (1 : Int32)), .val (.int ((0 : Int32) + (1 : Int32))), .val (.int c0)] [(.int ((0 : Int32) + (1 : Int32)))]))
  refine Goes.step (fun _ kK => XS.iload X_2.here hx rfl (hb hby own_d10_5) rfl kK) ?_
  show Goes pP eE bB _ (T_2.setTop (mkF mM 7 #[.val (.ref a1), .val (.int ((0 : Int32) + (1 : Int32))), .val (.ref a3), .val (.int ((0 : Int32) + (1 : Int32))), .val (.int (1 : Int32)), .val (.int ((0 : Int32) + (1 : Int32))), .val (.int c0)] [(.int (1 : Int32)), (.int ((0 : Int32) + (1 : Int32)))]))
  refine Goes.step (fun _ kK => XS.icmpYes X_2.here hx rfl (pc0 := 7) (pc' := 44) rfl (hb hby own_d10_7) rfl (flt (by decide)).2.1 (by decide) (by decide) kK) ?_
  show Goes pP eE bB _ (T_2.setTop (mkF mM 44 #[.val (.ref a1), .val (.int ((0 : Int32) + (1 : Int32))), .val (.ref a3), .val (.int ((0 : Int32) + (1 : Int32))), .val (.int (1 : Int32)), .val (.int ((0 : Int32) + (1 : Int32))), .val (.int c0)] []))
  refine Goes.step (fun _ kK => XS.iload X_2.here hx rfl (hb hby own_d10_44) rfl kK) ?_
  show Goes pP eE bB _ (T_2.setTop (mkF mM 46 #[.val (.ref a1), .val (.int ((0 : Int32) + (1 : Int32))), .val (.ref a3), .val (.int ((0 : Int32) + (1 : Int32))), .val (.int (1 : Int32)), .val (.int ((0 : Int32) + (1 : Int32))), .val (.int c0)] [(.int (1 : Int32))]))
  refine Goes.ret X_2 hx hlk hret rfl (Or.inl ⟨rfl, Or.inl rfl, _, rfl⟩) (hb hby own_d10_46) (by decide) (by decide) ?_
  have u_3 := (Keep.refl h0 [a3]).wr W_2 (Or.inl (List.mem_of_getElem? (i := 0) rfl))
  exact ⟨rfl, N_2, by rw [e_2]; exact u_3, by rw [e_2]; exact (A_2).congr (fun i hi => by obtain rfl : i = 0 := (by omega); simp [own_bs])⟩
set_option maxRecDepth 65536 in
set_option maxHeartbeats 40000000 in
theorem rmS1_1 (l : Launch) (Z : State) (a0 : Array Value) (hw : ∀ d ∈ tables_1, d.before a0 Z = true) (a1 : Addr) (c0 : Int32) (h0 : Heap) (n0 : Nat) (Z0 : n0 ≤ h0.size) (f : Nat → Value) (A1 : Afn Z h0 a1 .char 1 f) (hf0 : f 0 = .int c0) (hc0 : ¬ ((255 : Int32) < c0)) :
    Con l Z (⟨"java/lang/StringUTF16", "compress", "([CII)[B"⟩ : MethodName) jdk_52_method_16_code 6 (some (.array .byte)) ({ frames := 1, cells := 1, slots := 1, locals := 18 } : Room) #[(.ref a1), (.int (0 : Int32)), (.int (1 : Int32))] h0 (fun v h L => ∃ x, v = some (.ref x) ∧ Fr n0 L ∧ Keep h0 h [] ∧ h0.size ≤ x ∧ Afn Z h x .byte 1 (own_bs [c0]) ∧ Exa Z h x "[B") := by
  refine Con.body (plainFor_of_name own_pn0) ?_
  intro pP eE sS mM bB mT cC s₁ hx hby hml hZ hown hnm hret hlk X0 e0
  have hown : sS.vm.findClass "java/lang/StringUTF16" = some mM.cls := hown
  have hml : cC.maxLocals = 6 := hml
  have N0 := Fr.nil n0
  have ef : entryFrame mM #[(.ref a1), (.int (0 : Int32)), (.int (1 : Int32))] 6 = mkF mM 0 #[.val (.ref a1), .val (.int (0 : Int32)), .val (.int (1 : Int32)), .unset, .unset, .unset] [] := by first | (simp [entryFrame, mkF, argsToLocals, Value.category]; done) | rfl
  rw [ef]
  show Goes pP eE bB _ (s₁.setTop (mkF mM 0 #[.val (.ref a1), .val (.int (0 : Int32)), .val (.int (1 : Int32)), .unset, .unset, .unset] []))
  refine Goes.step (fun _ kK => XS.iloadN X0.here hx rfl (hb hby own_d9_0) rfl kK) ?_
  show Goes pP eE bB _ (s₁.setTop (mkF mM 1 #[.val (.ref a1), .val (.int (0 : Int32)), .val (.int (1 : Int32)), .unset, .unset, .unset] [(.int (1 : Int32))]))
  obtain ⟨T_1, h_1, k_1, X_1, e_1, E_1, A_1, M_1, st_1⟩ := newPE X0 hx hZ (hw _ (List.mem_of_getElem? (i := 0) rfl)) e0 (g := (mkF mM 1 #[.val (.ref a1), .val (.int (0 : Int32)), .val (.int (1 : Int32)), .unset, .unset, .unset] [(.int (1 : Int32))])) rfl (hb hby own_d9_1) rfl (by decide) (cap := 1) (by decide) (by decide) (by decide) (by decide) (ad := "[B") rfl
  obtain ⟨b_1, g_1⟩ : ∃ z, z = h0.size := ⟨_, rfl⟩
  rw [← g_1] at A_1 M_1 st_1
  have u_2 : a1 < b_1 := Nat.lt_of_lt_of_le (A1).lt (Nat.le_of_eq g_1.symm)
  have u_3 : n0 ≤ b_1 := Nat.le_trans Z0 (Nat.le_of_eq g_1.symm)
  have u_4 : h0.size ≤ b_1 := Nat.le_trans ((Keep.refl h0 [])).1 (Nat.le_of_eq g_1.symm)
  have u_5 : Afn Z h_1 b_1 .byte 1 (fun _ => (.int (0 : Int32))) := Afn.new (n := 1) A_1 (by decide)
  refine Goes.step st_1 ?_
  show Goes pP eE bB _ (T_1.setTop (mkF mM 3 #[.val (.ref a1), .val (.int (0 : Int32)), .val (.int (1 : Int32)), .unset, .unset, .unset] [(.ref b_1)]))
  refine Goes.step (fun _ kK => XS.astoreN X_1.here hx rfl (hb hby own_d9_3) rfl rfl (l' := #[.val (.ref a1), .val (.int (0 : Int32)), .val (.int (1 : Int32)), .val (.ref b_1), .unset, .unset]) rfl kK) ?_
  show Goes pP eE bB _ (T_1.setTop (mkF mM 4 #[.val (.ref a1), .val (.int (0 : Int32)), .val (.int (1 : Int32)), .val (.ref b_1), .unset, .unset] []))
  refine Goes.step (fun _ kK => XS.aloadN X_1.here hx rfl (hb hby own_d9_4) rfl rfl kK) ?_
  show Goes pP eE bB _ (T_1.setTop (mkF mM 5 #[.val (.ref a1), .val (.int (0 : Int32)), .val (.int (1 : Int32)), .val (.ref b_1), .unset, .unset] [(.ref a1)]))
  refine Goes.step (fun _ kK => XS.iloadN X_1.here hx rfl (hb hby own_d9_5) rfl kK) ?_
  show Goes pP eE bB _ (T_1.setTop (mkF mM 6 #[.val (.ref a1), .val (.int (0 : Int32)), .val (.int (1 : Int32)), .val (.ref b_1), .unset, .unset] [(.int (0 : Int32)), (.ref a1)]))
  refine Goes.step (fun _ kK => XS.aloadN X_1.here hx rfl (hb hby own_d9_6) rfl rfl kK) ?_
  show Goes pP eE bB _ (T_1.setTop (mkF mM 7 #[.val (.ref a1), .val (.int (0 : Int32)), .val (.int (1 : Int32)), .val (.ref b_1), .unset, .unset] [(.ref b_1), (.int (0 : Int32)), (.ref a1)]))
  refine Goes.step (fun _ kK => XS.iconst X_1.here hx rfl (hb hby own_d9_7) kK) ?_
  show Goes pP eE bB _ (T_1.setTop (mkF mM 8 #[.val (.ref a1), .val (.int (0 : Int32)), .val (.int (1 : Int32)), .val (.ref b_1), .unset, .unset] [(.int (0 : Int32)), (.ref b_1), (.int (0 : Int32)), (.ref a1)]))
  refine Goes.step (fun _ kK => XS.iloadN X_1.here hx rfl (hb hby own_d9_8) rfl kK) ?_
  show Goes pP eE bB _ (T_1.setTop (mkF mM 9 #[.val (.ref a1), .val (.int (0 : Int32)), .val (.int (1 : Int32)), .val (.ref b_1), .unset, .unset] [(.int (1 : Int32)), (.int (0 : Int32)), (.ref b_1), (.int (0 : Int32)), (.ref a1)]))
  have u_6 := Nat.le_trans Z0 E_1.1
  have u_7 := A1.ext E_1
  refine Goes.callS X_1 hx hZ hown (hw _ (List.mem_of_getElem? (i := 53) rfl)) (hw _ (List.mem_of_getElem? (i := 54) rfl)) (hw _ (List.mem_of_getElem? (i := 51) rfl)) (hw _ (List.mem_of_getElem? (i := 55) rfl)) (by decide) e_1 (rmS2_1 l Z a0 hw a1 b_1 c0 h_1 n0 u_6 _ _ u_7 u_5 u_3 (Nat.ne_of_lt u_2) hf0 hc0) (W := 0) (by decide) (by decide) (by decide) (by decide) (g := (mkF mM 9 #[.val (.ref a1), .val (.int (0 : Int32)), .val (.int (1 : Int32)), .val (.ref b_1), .unset, .unset] [(.int (1 : Int32)), (.int (0 : Int32)), (.ref b_1), (.int (0 : Int32)), (.ref a1)])) rfl (by rw [hml]; rfl) (rest := []) own_pd0 rfl rfl (by show 2 * 0 + _ ≤ _; exact Nat.le_of_eq rfl) (hb hby own_d9_9) ?_
  intro v_8 T_8 L_8 X_8 hQ_8
  generalize e_8 : T_8.heap = h_8 at hQ_8
  obtain ⟨rfl, N_8q, K_8, A_8⟩ := hQ_8
  have N_8 := Fr.app N0 N_8q
  show Goes pP eE bB _ (T_8.setTop (mkF mM 12 #[.val (.ref a1), .val (.int (0 : Int32)), .val (.int (1 : Int32)), .val (.ref b_1), .unset, .unset] [(.int (1 : Int32))]))
  refine Goes.step (fun _ kK => XS.istore X_8.here hx rfl (hb hby own_d9_12) rfl (l' := #[.val (.ref a1), .val (.int (0 : Int32)), .val (.int (1 : Int32)), .val (.ref b_1), .val (.int (1 : Int32)), .unset]) rfl kK) ?_
  show Goes pP eE bB _ (T_8.setTop (mkF mM 14 #[.val (.ref a1), .val (.int (0 : Int32)), .val (.int (1 : Int32)), .val (.ref b_1), .val (.int (1 : Int32)), .unset] []))
  refine Goes.step (fun _ kK => XS.iload X_8.here hx rfl (hb hby own_d9_14) rfl kK) ?_
  show Goes pP eE bB _ (T_8.setTop (mkF mM 16 #[.val (.ref a1), .val (.int (0 : Int32)), .val (.int (1 : Int32)), .val (.ref b_1), .val (.int (1 : Int32)), .unset] [(.int (1 : Int32))]))
  refine Goes.step (fun _ kK => XS.iloadN X_8.here hx rfl (hb hby own_d9_16) rfl kK) ?_
  show Goes pP eE bB _ (T_8.setTop (mkF mM 17 #[.val (.ref a1), .val (.int (0 : Int32)), .val (.int (1 : Int32)), .val (.ref b_1), .val (.int (1 : Int32)), .unset] [(.int (1 : Int32)), (.int (1 : Int32))]))
  refine Goes.step (fun _ kK => XS.icmpYes X_8.here hx rfl (pc0 := 17) (pc' := 57) rfl (hb hby own_d9_17) rfl (teq (by decide)).1 (by decide) (by decide) kK) ?_
  show Goes pP eE bB _ (T_8.setTop (mkF mM 57 #[.val (.ref a1), .val (.int (0 : Int32)), .val (.int (1 : Int32)), .val (.ref b_1), .val (.int (1 : Int32)), .unset] []))
  refine Goes.step (fun _ kK => XS.aloadN X_8.here hx rfl (hb hby own_d9_57) rfl rfl kK) ?_
  show Goes pP eE bB _ (T_8.setTop (mkF mM 58 #[.val (.ref a1), .val (.int (0 : Int32)), .val (.int (1 : Int32)), .val (.ref b_1), .val (.int (1 : Int32)), .unset] [(.ref b_1)]))
  refine Goes.ret X_8 hx hlk hret rfl (Or.inr (Or.inr (Or.inr (Or.inr ⟨rfl, rfl, rfl⟩)))) (hb hby own_d9_58) (by decide) (by decide) ?_
  have u_9 := (Keep.refl h0 []).ext E_1
  have u_10 := u_9.trans K_8 (allS (Or.inr u_4) all0)
  have u_11 := M_1.keep K_8
  exact ⟨_, rfl, N_8, by rw [e_8]; exact u_10, u_4, by rw [e_8]; exact A_8, by rw [e_8]; exact u_11⟩
set_option maxRecDepth 65536 in
set_option maxHeartbeats 40000000 in
theorem rmS3_1 (l : Launch) (Z : State) (a0 : Array Value) (hw : ∀ d ∈ tables_1, d.before a0 Z = true) (a1 : Addr) (h0 : Heap) (n0 : Nat) (Z0 : n0 ≤ h0.size) (f : Nat → Value) (A1 : Afn Z h0 a1 .byte 1 f) :
    Con l Z (⟨"java/lang/StringUTF16", "coderFromArrayLen", "([BI)B"⟩ : MethodName) jdk_52_method_15_code 2 (some .byte) ({ frames := 0, cells := 0, slots := 0, locals := 0 } : Room) #[(.ref a1), (.int (1 : Int32))] h0 (fun v h L => v = some (.int (0 : Int32)) ∧ Fr n0 L ∧ h = h0) := by
  refine Con.body (plainFor_of_name own_pn0) ?_
  intro pP eE sS mM bB mT cC s₁ hx hby hml hZ hown hnm hret hlk X0 e0
  have hown : sS.vm.findClass "java/lang/StringUTF16" = some mM.cls := hown
  have hml : cC.maxLocals = 2 := hml
  have N0 := Fr.nil n0
  have ef : entryFrame mM #[(.ref a1), (.int (1 : Int32))] 2 = mkF mM 0 #[.val (.ref a1), .val (.int (1 : Int32))] [] := by first | (simp [entryFrame, mkF, argsToLocals, Value.category]; done) | rfl
  rw [ef]
  show Goes pP eE bB _ (s₁.setTop (mkF mM 0 #[.val (.ref a1), .val (.int (1 : Int32))] []))
  refine Goes.step (fun _ kK => XS.iloadN X0.here hx rfl (hb hby own_d11_0) rfl kK) ?_
  show Goes pP eE bB _ (s₁.setTop (mkF mM 1 #[.val (.ref a1), .val (.int (1 : Int32))] [(.int (1 : Int32))]))
  refine Goes.step (fun _ kK => XS.aloadN X0.here hx rfl (hb hby own_d11_1) rfl rfl kK) ?_
  show Goes pP eE bB _ (s₁.setTop (mkF mM 2 #[.val (.ref a1), .val (.int (1 : Int32))] [(.ref a1), (.int (1 : Int32))]))
  refine Goes.alen X0 hx hZ e0 A1 (z := (1 : Int32)) (by decide) (g := (mkF mM 2 #[.val (.ref a1), .val (.int (1 : Int32))] [(.ref a1), (.int (1 : Int32))])) rfl rfl (hb hby own_d11_2) ?_
  show Goes pP eE bB _ (s₁.setTop (mkF mM 3 #[.val (.ref a1), .val (.int (1 : Int32))] [(.int (1 : Int32)), (.int (1 : Int32))]))
  refine Goes.step (fun _ kK => XS.isub X0.here hx rfl (hb hby own_d11_3) rfl kK) ?_
  show Goes pP eE bB _ (s₁.setTop (mkF mM 4 #[.val (.ref a1), .val (.int (1 : Int32))] [(.int ((1 : Int32) - (1 : Int32)))]))
  refine Goes.step (fun _ kK => XS.bipush X0.here hx rfl (hb hby own_d11_4) kK) ?_
  show Goes pP eE bB _ (s₁.setTop (mkF mM 6 #[.val (.ref a1), .val (.int (1 : Int32))] [(.int (31 : Int32)), (.int ((1 : Int32) - (1 : Int32)))]))
  refine Goes.step (fun _ kK => XS.iushr X0.here hx rfl (hb hby own_d11_6) rfl kK) ?_
  show Goes pP eE bB _ (s₁.setTop (mkF mM 7 #[.val (.ref a1), .val (.int (1 : Int32))] [(.int ((((1 : Int32) - (1 : Int32)).toUInt32 >>> ((31 : Int32) &&& 31).toUInt32).toInt32))]))
  refine Goes.step (fun _ kK => XS.i2b X0.here hx rfl (hb hby own_d11_7) rfl kK) ?_
  show Goes pP eE bB _ (s₁.setTop (mkF mM 8 #[.val (.ref a1), .val (.int (1 : Int32))] [(.int (((((1 : Int32) - (1 : Int32)).toUInt32 >>> ((31 : Int32) &&& 31).toUInt32).toInt32).toInt8.toInt32))]))
  refine Goes.retN X0 hx hlk (t := .byte) hret (by simp) (hb hby own_d11_8) (by decide) (by decide) ?_
  exact ⟨rfl, N0, e0⟩
set_option maxRecDepth 65536 in
set_option maxHeartbeats 40000000 in
theorem rmS4_1 (l : Launch) (Z : State) (a0 : Array Value) (hw : ∀ d ∈ tables_1, d.before a0 Z = true) (a1 a2 : Addr) (c0 : Int32) (cs : Int32) (h0 : Heap) (n0 : Nat) (Z0 : n0 ≤ h0.size) (Scs : Sta Z Z.heap "java/lang/String" "COMPACT_STRINGS" "Z" (.int cs)) (hcs : ¬ (cs = (0 : Int32))) (O0 : Old Z n0 h0) (f : Nat → Value) (A2 : Afn Z h0 a2 .char 1 f) (E1 : Exa Z h0 a1 "java/lang/String") (g1 : n0 ≤ a1) (Fc : Fld Z h0 a1 "java/lang/String" "coder" "B" (.int (0 : Int32))) (Fv : Fld Z h0 a1 "java/lang/String" "value" "[B" .null) (hf0 : f 0 = .int c0) (hc0 : ¬ ((255 : Int32) < c0)) :
    Con l Z (⟨"java/lang/String", "<init>", "([CIILjava/lang/Void;)V"⟩ : MethodName) jdk_42_method_149_code 6 none ({ frames := 2, cells := 1, slots := 1, locals := 35 } : Room) #[(.ref a1), (.ref a2), (.int (0 : Int32)), (.int (1 : Int32)), .null] h0 (fun v h L => v = none ∧ Fr n0 L ∧ Keep h0 h [a1] ∧ Fld Z h a1 "java/lang/String" "coder" "B" (.int (0 : Int32)) ∧ ∃ x, Fld Z h a1 "java/lang/String" "value" "[B" (.ref x) ∧ h0.size ≤ x ∧ Afn Z h x .byte 1 (own_bs [c0]) ∧ Exa Z h x "[B") := by
  refine Con.body (plainFor_of_name own_pn1) ?_
  intro pP eE sS mM bB mT cC s₁ hx hby hml hZ hown hnm hret hlk X0 e0
  have hown : sS.vm.findClass "java/lang/String" = some mM.cls := hown
  have hml : cC.maxLocals = 6 := hml
  have N0 := Fr.nil n0
  have ef : entryFrame mM #[(.ref a1), (.ref a2), (.int (0 : Int32)), (.int (1 : Int32)), .null] 6 = mkF mM 0 #[.val (.ref a1), .val (.ref a2), .val (.int (0 : Int32)), .val (.int (1 : Int32)), .val .null, .unset] [] := by first | (simp [entryFrame, mkF, argsToLocals, Value.category]; done) | rfl
  rw [ef]
  show Goes pP eE bB _ (s₁.setTop (mkF mM 0 #[.val (.ref a1), .val (.ref a2), .val (.int (0 : Int32)), .val (.int (1 : Int32)), .val .null, .unset] []))
  refine Goes.step (fun _ kK => XS.aloadN X0.here hx rfl (hb hby own_d8_0) rfl rfl kK) ?_
  show Goes pP eE bB _ (s₁.setTop (mkF mM 1 #[.val (.ref a1), .val (.ref a2), .val (.int (0 : Int32)), .val (.int (1 : Int32)), .val .null, .unset] [(.ref a1)]))
  obtain ⟨T_1, X_1, e_1, st_1⟩ := initO X0 hx hZ hown (hw _ (List.mem_of_getElem? (i := 47) rfl)) (hw _ (List.mem_of_getElem? (i := 11) rfl)) (hw _ (List.mem_of_getElem? (i := 12) rfl)) e0 (g := (mkF mM 1 #[.val (.ref a1), .val (.ref a2), .val (.int (0 : Int32)), .val (.int (1 : Int32)), .val .null, .unset] [(.ref a1)])) rfl (by rw [hml]; rfl) rfl (hb hby own_d8_1) (by decide) (W := 0) (by show 2 * 0 + _ ≤ _; exact Nat.le_of_eq rfl) (by decide)
  refine Goes.step st_1 ?_
  show Goes pP eE bB _ (T_1.setTop (mkF mM 4 #[.val (.ref a1), .val (.ref a2), .val (.int (0 : Int32)), .val (.int (1 : Int32)), .val .null, .unset] []))
  refine Goes.step (fun _ kK => XS.iloadN X_1.here hx rfl (hb hby own_d8_4) rfl kK) ?_
  show Goes pP eE bB _ (T_1.setTop (mkF mM 5 #[.val (.ref a1), .val (.ref a2), .val (.int (0 : Int32)), .val (.int (1 : Int32)), .val .null, .unset] [(.int (1 : Int32))]))
  refine Goes.step (fun _ kK => XS.ifYes X_1.here hx rfl (pc0 := 5) (pc' := 27) rfl (hb hby own_d8_5) rfl ((if0 _ _).trans (feq (by decide)).2) (by decide) (by decide) kK) ?_
  show Goes pP eE bB _ (T_1.setTop (mkF mM 27 #[.val (.ref a1), .val (.ref a2), .val (.int (0 : Int32)), .val (.int (1 : Int32)), .val .null, .unset] []))
  obtain ⟨T_2, X_2, e_2, st_2⟩ := getS2 X_1 hx hZ hown (host := "") (Or.inl (hw _ (List.mem_of_getElem? (i := 48) rfl))) Via.refl e_1 (Scs.ext O0.2) (g := (mkF mM 27 #[.val (.ref a1), .val (.ref a2), .val (.int (0 : Int32)), .val (.int (1 : Int32)), .val .null, .unset] [])) rfl (hb hby own_d8_27)
  refine Goes.step st_2 ?_
  show Goes pP eE bB _ (T_2.setTop (mkF mM 30 #[.val (.ref a1), .val (.ref a2), .val (.int (0 : Int32)), .val (.int (1 : Int32)), .val .null, .unset] [(.int cs)]))
  have hb_3 : ¬ (cs = (0 : Int32)) := hcs
  refine Goes.step (fun _ kK => XS.ifNo X_2.here hx rfl (hb hby own_d8_30) rfl ((if0 _ _).trans (feq hb_3).1) kK) ?_
  show Goes pP eE bB _ (T_2.setTop (mkF mM 33 #[.val (.ref a1), .val (.ref a2), .val (.int (0 : Int32)), .val (.int (1 : Int32)), .val .null, .unset] []))
  refine Goes.step (fun _ kK => XS.aloadN X_2.here hx rfl (hb hby own_d8_33) rfl rfl kK) ?_
  show Goes pP eE bB _ (T_2.setTop (mkF mM 34 #[.val (.ref a1), .val (.ref a2), .val (.int (0 : Int32)), .val (.int (1 : Int32)), .val .null, .unset] [(.ref a2)]))
  refine Goes.step (fun _ kK => XS.iloadN X_2.here hx rfl (hb hby own_d8_34) rfl kK) ?_
  show Goes pP eE bB _ (T_2.setTop (mkF mM 35 #[.val (.ref a1), .val (.ref a2), .val (.int (0 : Int32)), .val (.int (1 : Int32)), .val .null, .unset] [(.int (0 : Int32)), (.ref a2)]))
  refine Goes.step (fun _ kK => XS.iloadN X_2.here hx rfl (hb hby own_d8_35) rfl kK) ?_
  show Goes pP eE bB _ (T_2.setTop (mkF mM 36 #[.val (.ref a1), .val (.ref a2), .val (.int (0 : Int32)), .val (.int (1 : Int32)), .val .null, .unset] [(.int (1 : Int32)), (.int (0 : Int32)), (.ref a2)]))
  refine Goes.callS X_2 hx hZ hown (hw _ (List.mem_of_getElem? (i := 49) rfl)) (hw _ (List.mem_of_getElem? (i := 50) rfl)) (hw _ (List.mem_of_getElem? (i := 51) rfl)) (hw _ (List.mem_of_getElem? (i := 52) rfl)) (by decide) e_2 (rmS1_1 l Z a0 hw a2 c0 h0 n0 Z0 _ A2 hf0 hc0) (W := 0) (by decide) (by decide) (by decide) (by decide) (g := (mkF mM 36 #[.val (.ref a1), .val (.ref a2), .val (.int (0 : Int32)), .val (.int (1 : Int32)), .val .null, .unset] [(.int (1 : Int32)), (.int (0 : Int32)), (.ref a2)])) rfl (by rw [hml]; rfl) (rest := []) own_pd1 rfl rfl (by show 2 * 0 + _ ≤ _; exact Nat.le_of_eq rfl) (hb hby own_d8_36) ?_
  intro v_4 T_4 L_4 X_4 hQ_4
  generalize e_4 : T_4.heap = h_4 at hQ_4
  obtain ⟨b_4, rfl, N_4q, K_4, s_4, A_4, M_4⟩ := hQ_4
  have N_4 := Fr.app N0 N_4q
  have u_5 : a2 < b_4 := Nat.lt_of_lt_of_le (A2).lt s_4
  have u_6 : a1 < b_4 := Nat.lt_of_lt_of_le (E1).lt s_4
  have u_7 : n0 ≤ b_4 := Nat.le_trans Z0 s_4
  have u_8 : h0.size ≤ b_4 := Nat.le_trans ((Keep.refl h0 [a1])).1 s_4
  show Goes pP eE bB _ (T_4.setTop (mkF mM 39 #[.val (.ref a1), .val (.ref a2), .val (.int (0 : Int32)), .val (.int (1 : Int32)), .val .null, .unset] [(.ref b_4)]))
  refine Goes.step (fun _ kK => XS.astore X_4.here hx rfl (hb hby own_d8_39) rfl rfl (l' := #[.val (.ref a1), .val (.ref a2), .val (.int (0 : Int32)), .val (.int (1 : Int32)), .val .null, .val (.ref b_4)]) rfl kK) ?_
  show Goes pP eE bB _ (T_4.setTop (mkF mM 41 #[.val (.ref a1), .val (.ref a2), .val (.int (0 : Int32)), .val (.int (1 : Int32)), .val .null, .val (.ref b_4)] []))
  refine Goes.step (fun _ kK => XS.aloadN X_4.here hx rfl (hb hby own_d8_41) rfl rfl kK) ?_
  show Goes pP eE bB _ (T_4.setTop (mkF mM 42 #[.val (.ref a1), .val (.ref a2), .val (.int (0 : Int32)), .val (.int (1 : Int32)), .val .null, .val (.ref b_4)] [(.ref a1)]))
  refine Goes.step (fun _ kK => XS.aload X_4.here hx rfl (hb hby own_d8_42) rfl rfl kK) ?_
  show Goes pP eE bB _ (T_4.setTop (mkF mM 44 #[.val (.ref a1), .val (.ref a2), .val (.int (0 : Int32)), .val (.int (1 : Int32)), .val .null, .val (.ref b_4)] [(.ref b_4), (.ref a1)]))
  refine Goes.step (fun _ kK => XS.iloadN X_4.here hx rfl (hb hby own_d8_44) rfl kK) ?_
  show Goes pP eE bB _ (T_4.setTop (mkF mM 45 #[.val (.ref a1), .val (.ref a2), .val (.int (0 : Int32)), .val (.int (1 : Int32)), .val .null, .val (.ref b_4)] [(.int (1 : Int32)), (.ref b_4), (.ref a1)]))
  have u_9 := Nat.le_trans Z0 K_4.1
  refine Goes.callS X_4 hx hZ hown (hw _ (List.mem_of_getElem? (i := 56) rfl)) (hw _ (List.mem_of_getElem? (i := 57) rfl)) (hw _ (List.mem_of_getElem? (i := 51) rfl)) (hw _ (List.mem_of_getElem? (i := 58) rfl)) (by decide) e_4 (rmS3_1 l Z a0 hw b_4 h_4 n0 u_9 _ A_4) (W := 1) (by decide) (by decide) (by decide) (by decide) (g := (mkF mM 45 #[.val (.ref a1), .val (.ref a2), .val (.int (0 : Int32)), .val (.int (1 : Int32)), .val .null, .val (.ref b_4)] [(.int (1 : Int32)), (.ref b_4), (.ref a1)])) rfl (by rw [hml]; rfl) (rest := [(.ref a1)]) own_pd2 rfl rfl (by show 2 * 0 + _ ≤ _; exact Nat.le_of_eq rfl) (hb hby own_d8_45) ?_
  intro v_10 T_10 L_10 X_10 hQ_10
  obtain ⟨rfl, N_10q, e_10⟩ := hQ_10
  have N_10 := Fr.app N_4 N_10q
  show Goes pP eE bB _ (T_10.setTop (mkF mM 48 #[.val (.ref a1), .val (.ref a2), .val (.int (0 : Int32)), .val (.int (1 : Int32)), .val .null, .val (.ref b_4)] [(.int (0 : Int32)), (.ref a1)]))
  have u_11 := Fc.keep K_4 nin0
  have u_12 := E1.keep K_4
  obtain ⟨T_13, h_13, X_13, e_13, W_13, st_13⟩ := putF X_10 hx hZ hown (host := "") (Or.inl (hw _ (List.mem_of_getElem? (i := 59) rfl))) Via.refl e_10 u_11 u_12 (Or.inr ⟨(hw _ (List.mem_of_getElem? (i := 60) rfl)), rfl, hnm⟩) (hw _ (List.mem_of_getElem? (i := 38) rfl)) (ty := .byte) (by decide) rfl rfl (g := (mkF mM 48 #[.val (.ref a1), .val (.ref a2), .val (.int (0 : Int32)), .val (.int (1 : Int32)), .val .null, .val (.ref b_4)] [(.int (0 : Int32)), (.ref a1)])) rfl rfl (hb hby own_d8_48)
  have u_14 := u_11.same W_13
  have N_13 := Fr.snoc X_13 N_10 g1
  refine Goes.step st_13 ?_
  show Goes pP eE bB _ (T_13.setTop (mkF mM 51 #[.val (.ref a1), .val (.ref a2), .val (.int (0 : Int32)), .val (.int (1 : Int32)), .val .null, .val (.ref b_4)] []))
  refine Goes.step (fun _ kK => XS.aloadN X_13.here hx rfl (hb hby own_d8_51) rfl rfl kK) ?_
  show Goes pP eE bB _ (T_13.setTop (mkF mM 52 #[.val (.ref a1), .val (.ref a2), .val (.int (0 : Int32)), .val (.int (1 : Int32)), .val .null, .val (.ref b_4)] [(.ref a1)]))
  refine Goes.step (fun _ kK => XS.aload X_13.here hx rfl (hb hby own_d8_52) rfl rfl kK) ?_
  show Goes pP eE bB _ (T_13.setTop (mkF mM 54 #[.val (.ref a1), .val (.ref a2), .val (.int (0 : Int32)), .val (.int (1 : Int32)), .val .null, .val (.ref b_4)] [(.ref b_4), (.ref a1)]))
  have u_15 := Fv.keep K_4 nin0
  have u_16 := u_15.other W_13 (Or.inr (slot_ne (Or.inr (hw _ (List.mem_of_getElem? (i := 62) rfl))) (Or.inr (hw _ (List.mem_of_getElem? (i := 60) rfl))) (by decide) (t := (.array .byte)) (t' := .byte) (by decide) (by decide)))
  have u_17 := u_12.wr W_13
  obtain ⟨T_18, h_18, X_18, e_18, W_18, st_18⟩ := putF X_13 hx hZ hown (host := "") (Or.inl (hw _ (List.mem_of_getElem? (i := 61) rfl))) Via.refl e_13 u_16 u_17 (Or.inr ⟨(hw _ (List.mem_of_getElem? (i := 62) rfl)), rfl, hnm⟩) (hw _ (List.mem_of_getElem? (i := 38) rfl)) (ty := (.array .byte)) (by decide) rfl rfl (g := (mkF mM 54 #[.val (.ref a1), .val (.ref a2), .val (.int (0 : Int32)), .val (.int (1 : Int32)), .val .null, .val (.ref b_4)] [(.ref b_4), (.ref a1)])) rfl rfl (hb hby own_d8_54)
  have u_19 := u_16.same W_18
  have N_18 := Fr.snoc X_18 N_13 g1
  refine Goes.step st_18 ?_
  show Goes pP eE bB _ (T_18.setTop (mkF mM 57 #[.val (.ref a1), .val (.ref a2), .val (.int (0 : Int32)), .val (.int (1 : Int32)), .val .null, .val (.ref b_4)] []))
  refine Goes.ret0 X_18 hx hlk hret (hb hby own_d8_57) (by decide) (by decide) ?_
  have u_20 := (Keep.refl h0 [a1]).trans K_4 all0
  have u_21 := u_20.wr W_13 (Or.inl (List.mem_of_getElem? (i := 0) rfl))
  have u_22 := u_21.wr W_18 (Or.inl (List.mem_of_getElem? (i := 0) rfl))
  have u_23 := u_14.other W_18 (Or.inr (slot_ne (Or.inr (hw _ (List.mem_of_getElem? (i := 60) rfl))) (Or.inr (hw _ (List.mem_of_getElem? (i := 62) rfl))) (by decide) (t := .byte) (t' := (.array .byte)) (by decide) (by decide)))
  have u_24 := A_4.other W_13 (Nat.ne_of_gt u_6)
  have u_25 := u_24.other W_18 (Nat.ne_of_gt u_6)
  have u_26 := M_4.wr W_13
  have u_27 := u_26.wr W_18
  exact ⟨rfl, N_18, by rw [e_18]; exact u_22, by rw [e_18]; exact u_23, b_4, by rw [e_18]; exact u_19, u_8, by rw [e_18]; exact u_25, by rw [e_18]; exact u_27⟩
set_option maxRecDepth 65536 in
set_option maxHeartbeats 40000000 in
theorem rmS5_1 (l : Launch) (Z : State) (a0 : Array Value) (hw : ∀ d ∈ tables_1, d.before a0 Z = true) (a1 a2 : Addr) (c0 : Int32) (cs : Int32) (h0 : Heap) (n0 : Nat) (Z0 : n0 ≤ h0.size) (Scs : Sta Z Z.heap "java/lang/String" "COMPACT_STRINGS" "Z" (.int cs)) (hcs : ¬ (cs = (0 : Int32))) (O0 : Old Z n0 h0) (f : Nat → Value) (A2 : Afn Z h0 a2 .char 1 f) (E1 : Exa Z h0 a1 "java/lang/String") (g1 : n0 ≤ a1) (Fc : Fld Z h0 a1 "java/lang/String" "coder" "B" (.int (0 : Int32))) (Fv : Fld Z h0 a1 "java/lang/String" "value" "[B" .null) (hf0 : f 0 = .int c0) (hc0 : ¬ ((255 : Int32) < c0)) :
    Con l Z (⟨"java/lang/String", "<init>", "([C)V"⟩ : MethodName) jdk_42_method_3_code 2 none ({ frames := 3, cells := 1, slots := 1, locals := 52 } : Room) #[(.ref a1), (.ref a2)] h0 (fun v h L => v = none ∧ Fr n0 L ∧ Keep h0 h [a1] ∧ Fld Z h a1 "java/lang/String" "coder" "B" (.int (0 : Int32)) ∧ ∃ x, Fld Z h a1 "java/lang/String" "value" "[B" (.ref x) ∧ h0.size ≤ x ∧ Afn Z h x .byte 1 (own_bs [c0]) ∧ Exa Z h x "[B") := by
  refine Con.body (plainFor_of_name own_pn1) ?_
  intro pP eE sS mM bB mT cC s₁ hx hby hml hZ hown hnm hret hlk X0 e0
  have hown : sS.vm.findClass "java/lang/String" = some mM.cls := hown
  have hml : cC.maxLocals = 2 := hml
  have N0 := Fr.nil n0
  have ef : entryFrame mM #[(.ref a1), (.ref a2)] 2 = mkF mM 0 #[.val (.ref a1), .val (.ref a2)] [] := by first | (simp [entryFrame, mkF, argsToLocals, Value.category]; done) | rfl
  rw [ef]
  show Goes pP eE bB _ (s₁.setTop (mkF mM 0 #[.val (.ref a1), .val (.ref a2)] []))
  refine Goes.step (fun _ kK => XS.aloadN X0.here hx rfl (hb hby own_d7_0) rfl rfl kK) ?_
  show Goes pP eE bB _ (s₁.setTop (mkF mM 1 #[.val (.ref a1), .val (.ref a2)] [(.ref a1)]))
  refine Goes.step (fun _ kK => XS.aloadN X0.here hx rfl (hb hby own_d7_1) rfl rfl kK) ?_
  show Goes pP eE bB _ (s₁.setTop (mkF mM 2 #[.val (.ref a1), .val (.ref a2)] [(.ref a2), (.ref a1)]))
  refine Goes.step (fun _ kK => XS.iconst X0.here hx rfl (hb hby own_d7_2) kK) ?_
  show Goes pP eE bB _ (s₁.setTop (mkF mM 3 #[.val (.ref a1), .val (.ref a2)] [(.int (0 : Int32)), (.ref a2), (.ref a1)]))
  refine Goes.step (fun _ kK => XS.aloadN X0.here hx rfl (hb hby own_d7_3) rfl rfl kK) ?_
  show Goes pP eE bB _ (s₁.setTop (mkF mM 4 #[.val (.ref a1), .val (.ref a2)] [(.ref a2), (.int (0 : Int32)), (.ref a2), (.ref a1)]))
  refine Goes.alen X0 hx hZ e0 A2 (z := (1 : Int32)) (by decide) (g := (mkF mM 4 #[.val (.ref a1), .val (.ref a2)] [(.ref a2), (.int (0 : Int32)), (.ref a2), (.ref a1)])) rfl rfl (hb hby own_d7_4) ?_
  show Goes pP eE bB _ (s₁.setTop (mkF mM 5 #[.val (.ref a1), .val (.ref a2)] [(.int (1 : Int32)), (.int (0 : Int32)), (.ref a2), (.ref a1)]))
  refine Goes.step (fun _ kK => XS.aconstNull X0.here hx rfl (hb hby own_d7_5) kK) ?_
  show Goes pP eE bB _ (s₁.setTop (mkF mM 6 #[.val (.ref a1), .val (.ref a2)] [.null, (.int (1 : Int32)), (.int (0 : Int32)), (.ref a2), (.ref a1)]))
  refine Goes.callI X0 hx hZ rfl hown (hw _ (List.mem_of_getElem? (i := 43) rfl)) (hw _ (List.mem_of_getElem? (i := 44) rfl)) (hw _ (List.mem_of_getElem? (i := 46) rfl)) (hw _ (List.mem_of_getElem? (i := 39) rfl)) (by decide) e0 (rmS4_1 l Z a0 hw a1 a2 c0 cs h0 n0 Z0 Scs hcs O0 _ A2 E1 g1 Fc Fv hf0 hc0) (W := 0) (by decide) (by decide) (by decide) (by decide) (g := (mkF mM 6 #[.val (.ref a1), .val (.ref a2)] [.null, (.int (1 : Int32)), (.int (0 : Int32)), (.ref a2), (.ref a1)])) rfl (by rw [hml]; rfl) (rest := []) own_pd3 rfl rfl (by show 2 * 0 + _ ≤ _; exact Nat.le_of_eq rfl) (hb hby own_d7_6) ?_
  intro v_1 T_1 L_1 X_1 hQ_1
  generalize e_1 : T_1.heap = h_1 at hQ_1
  obtain ⟨rfl, N_1q, K_1, F_1c, b_1, F_1v, s_1, A_1, M_1⟩ := hQ_1
  have N_1 := Fr.app N0 N_1q
  have u_2 : a2 < b_1 := Nat.lt_of_lt_of_le (A2).lt s_1
  have u_3 : a1 < b_1 := Nat.lt_of_lt_of_le (E1).lt s_1
  have u_4 : n0 ≤ b_1 := Nat.le_trans Z0 s_1
  have u_5 : h0.size ≤ b_1 := Nat.le_trans ((Keep.refl h0 [a1])).1 s_1
  show Goes pP eE bB _ (T_1.setTop (mkF mM 9 #[.val (.ref a1), .val (.ref a2)] []))
  refine Goes.ret0 X_1 hx hlk hret (hb hby own_d7_9) (by decide) (by decide) ?_
  have u_6 := (Keep.refl h0 [a1]).trans K_1 (allS (Or.inl (List.mem_of_getElem? (i := 0) rfl)) all0)
  exact ⟨rfl, N_1, by rw [e_1]; exact u_6, by rw [e_1]; exact F_1c, b_1, by rw [e_1]; exact F_1v, u_5, by rw [e_1]; exact A_1, by rw [e_1]; exact M_1⟩
set_option maxRecDepth 65536 in
set_option maxHeartbeats 40000000 in
theorem rmC00 (l : Launch) (Z : State) (a0 : Array Value) (hw : ∀ d ∈ tables_1, d.before a0 Z = true) (a1 a2 a4 : Addr) (q3 : Int64) (h0 : Heap) (n0 : Nat) (Z0 : n0 ≤ h0.size) (E1 : Exa Z h0 a1 "dev/callstitch/call/ResponseBody") (g1 : n0 ≤ a1) (F_contentType : Fld Z h0 a1 "dev/callstitch/call/ResponseBody" "contentType" "Ljava/lang/String;" .null) (F_contentLength : Fld Z h0 a1 "dev/callstitch/call/ResponseBody" "contentLength" "J" (.long (0 : Int64))) (F_content : Fld Z h0 a1 "dev/callstitch/call/ResponseBody" "content" "[B" .null) (F_arriving : Fld Z h0 a1 "dev/callstitch/call/ResponseBody" "arriving" "Ldev/callstitch/call/ResponseBody$Arriving;" .null) :
    Con l Z (⟨"dev/callstitch/call/ResponseBody", "<init>", "(Ljava/lang/String;J[BLdev/callstitch/call/ResponseBody$Arriving;)V"⟩ : MethodName) prog_12_method_3_code 6 none ({ frames := 1, cells := 0, slots := 0, locals := 12 } : Room) #[(.ref a1), (.ref a2), (.long q3), .null, (.ref a4)] h0 (fun v h L => v = none ∧ Fr n0 L ∧ Keep h0 h [a1] ∧ Fld Z h a1 "dev/callstitch/call/ResponseBody" "contentType" "Ljava/lang/String;" (.ref a2) ∧ Fld Z h a1 "dev/callstitch/call/ResponseBody" "contentLength" "J" (.long q3) ∧ Fld Z h a1 "dev/callstitch/call/ResponseBody" "arriving" "Ldev/callstitch/call/ResponseBody$Arriving;" (.ref a4)) := by
  refine Con.body (plainFor_of_name own_pn2) ?_
  intro pP eE sS mM bB mT cC s₁ hx hby hml hZ hown hnm hret hlk X0 e0
  have hown : sS.vm.findClass "dev/callstitch/call/ResponseBody" = some mM.cls := hown
  have hml : cC.maxLocals = 6 := hml
  have N0 := Fr.nil n0
  have ef : entryFrame mM #[(.ref a1), (.ref a2), (.long q3), .null, (.ref a4)] 6 = mkF mM 0 #[.val (.ref a1), .val (.ref a2), .val (.long q3), .second, .val .null, .val (.ref a4)] [] := by first | (simp [entryFrame, mkF, argsToLocals, Value.category]; done) | rfl
  rw [ef]
  show Goes pP eE bB _ (s₁.setTop (mkF mM 0 #[.val (.ref a1), .val (.ref a2), .val (.long q3), .second, .val .null, .val (.ref a4)] []))
  refine Goes.step (fun _ kK => XS.aloadN X0.here hx rfl (hb hby own_d2_0) rfl rfl kK) ?_
  show Goes pP eE bB _ (s₁.setTop (mkF mM 1 #[.val (.ref a1), .val (.ref a2), .val (.long q3), .second, .val .null, .val (.ref a4)] [(.ref a1)]))
  obtain ⟨T_1, X_1, e_1, st_1⟩ := initO X0 hx hZ hown (hw _ (List.mem_of_getElem? (i := 10) rfl)) (hw _ (List.mem_of_getElem? (i := 11) rfl)) (hw _ (List.mem_of_getElem? (i := 12) rfl)) e0 (g := (mkF mM 1 #[.val (.ref a1), .val (.ref a2), .val (.long q3), .second, .val .null, .val (.ref a4)] [(.ref a1)])) rfl (by rw [hml]; rfl) rfl (hb hby own_d2_1) (by decide) (W := 0) (by show 2 * 0 + _ ≤ _; exact Nat.le_of_eq rfl) (by decide)
  refine Goes.step st_1 ?_
  show Goes pP eE bB _ (T_1.setTop (mkF mM 4 #[.val (.ref a1), .val (.ref a2), .val (.long q3), .second, .val .null, .val (.ref a4)] []))
  refine Goes.step (fun _ kK => XS.aloadN X_1.here hx rfl (hb hby own_d2_4) rfl rfl kK) ?_
  show Goes pP eE bB _ (T_1.setTop (mkF mM 5 #[.val (.ref a1), .val (.ref a2), .val (.long q3), .second, .val .null, .val (.ref a4)] [(.ref a1)]))
  refine Goes.step (fun _ kK => XS.aloadN X_1.here hx rfl (hb hby own_d2_5) rfl rfl kK) ?_
  show Goes pP eE bB _ (T_1.setTop (mkF mM 6 #[.val (.ref a1), .val (.ref a2), .val (.long q3), .second, .val .null, .val (.ref a4)] [(.ref a2), (.ref a1)]))
  obtain ⟨T_2, h_2, X_2, e_2, W_2, st_2⟩ := putF X_1 hx hZ hown (host := "") (Or.inl (hw _ (List.mem_of_getElem? (i := 13) rfl))) Via.refl e_1 F_contentType E1 (Or.inr ⟨(hw _ (List.mem_of_getElem? (i := 14) rfl)), rfl, hnm⟩) (hw _ (List.mem_of_getElem? (i := 2) rfl)) (ty := (.object "java/lang/String")) (by decide) rfl rfl (g := (mkF mM 6 #[.val (.ref a1), .val (.ref a2), .val (.long q3), .second, .val .null, .val (.ref a4)] [(.ref a2), (.ref a1)])) rfl rfl (hb hby own_d2_6)
  have u_3 := F_contentType.same W_2
  have N_2 := Fr.snoc X_2 N0 g1
  refine Goes.step st_2 ?_
  show Goes pP eE bB _ (T_2.setTop (mkF mM 9 #[.val (.ref a1), .val (.ref a2), .val (.long q3), .second, .val .null, .val (.ref a4)] []))
  refine Goes.step (fun _ kK => XS.aloadN X_2.here hx rfl (hb hby own_d2_9) rfl rfl kK) ?_
  show Goes pP eE bB _ (T_2.setTop (mkF mM 10 #[.val (.ref a1), .val (.ref a2), .val (.long q3), .second, .val .null, .val (.ref a4)] [(.ref a1)]))
  refine Goes.step (fun _ kK => XS.lloadN X_2.here hx rfl (hb hby own_d2_10) rfl kK) ?_
  show Goes pP eE bB _ (T_2.setTop (mkF mM 11 #[.val (.ref a1), .val (.ref a2), .val (.long q3), .second, .val .null, .val (.ref a4)] [(.long q3), (.ref a1)]))
  have u_4 := F_contentLength.other W_2 (Or.inr (slot_ne (Or.inr (hw _ (List.mem_of_getElem? (i := 16) rfl))) (Or.inr (hw _ (List.mem_of_getElem? (i := 14) rfl))) (by decide) (t := .long) (t' := (.object "java/lang/String")) (by decide) (by decide)))
  have u_5 := E1.wr W_2
  obtain ⟨T_6, h_6, X_6, e_6, W_6, st_6⟩ := putF X_2 hx hZ hown (host := "") (Or.inl (hw _ (List.mem_of_getElem? (i := 15) rfl))) Via.refl e_2 u_4 u_5 (Or.inr ⟨(hw _ (List.mem_of_getElem? (i := 16) rfl)), rfl, hnm⟩) (hw _ (List.mem_of_getElem? (i := 2) rfl)) (ty := .long) (by decide) rfl rfl (g := (mkF mM 11 #[.val (.ref a1), .val (.ref a2), .val (.long q3), .second, .val .null, .val (.ref a4)] [(.long q3), (.ref a1)])) rfl rfl (hb hby own_d2_11)
  have u_7 := u_4.same W_6
  have N_6 := Fr.snoc X_6 N_2 g1
  refine Goes.step st_6 ?_
  show Goes pP eE bB _ (T_6.setTop (mkF mM 14 #[.val (.ref a1), .val (.ref a2), .val (.long q3), .second, .val .null, .val (.ref a4)] []))
  refine Goes.step (fun _ kK => XS.aloadN X_6.here hx rfl (hb hby own_d2_14) rfl rfl kK) ?_
  show Goes pP eE bB _ (T_6.setTop (mkF mM 15 #[.val (.ref a1), .val (.ref a2), .val (.long q3), .second, .val .null, .val (.ref a4)] [(.ref a1)]))
  refine Goes.step (fun _ kK => XS.aload X_6.here hx rfl (hb hby own_d2_15) rfl rfl kK) ?_
  show Goes pP eE bB _ (T_6.setTop (mkF mM 17 #[.val (.ref a1), .val (.ref a2), .val (.long q3), .second, .val .null, .val (.ref a4)] [.null, (.ref a1)]))
  have u_8 := F_content.other W_2 (Or.inr (slot_ne (Or.inr (hw _ (List.mem_of_getElem? (i := 18) rfl))) (Or.inr (hw _ (List.mem_of_getElem? (i := 14) rfl))) (by decide) (t := (.array .byte)) (t' := (.object "java/lang/String")) (by decide) (by decide)))
  have u_9 := u_8.other W_6 (Or.inr (slot_ne (Or.inr (hw _ (List.mem_of_getElem? (i := 18) rfl))) (Or.inr (hw _ (List.mem_of_getElem? (i := 16) rfl))) (by decide) (t := (.array .byte)) (t' := .long) (by decide) (by decide)))
  have u_10 := u_5.wr W_6
  obtain ⟨T_11, h_11, X_11, e_11, W_11, st_11⟩ := putF X_6 hx hZ hown (host := "") (Or.inl (hw _ (List.mem_of_getElem? (i := 17) rfl))) Via.refl e_6 u_9 u_10 (Or.inr ⟨(hw _ (List.mem_of_getElem? (i := 18) rfl)), rfl, hnm⟩) (hw _ (List.mem_of_getElem? (i := 2) rfl)) (ty := (.array .byte)) (by decide) rfl rfl (g := (mkF mM 17 #[.val (.ref a1), .val (.ref a2), .val (.long q3), .second, .val .null, .val (.ref a4)] [.null, (.ref a1)])) rfl rfl (hb hby own_d2_17)
  have u_12 := u_9.same W_11
  have N_11 := Fr.snoc X_11 N_6 g1
  refine Goes.step st_11 ?_
  show Goes pP eE bB _ (T_11.setTop (mkF mM 20 #[.val (.ref a1), .val (.ref a2), .val (.long q3), .second, .val .null, .val (.ref a4)] []))
  refine Goes.step (fun _ kK => XS.aloadN X_11.here hx rfl (hb hby own_d2_20) rfl rfl kK) ?_
  show Goes pP eE bB _ (T_11.setTop (mkF mM 21 #[.val (.ref a1), .val (.ref a2), .val (.long q3), .second, .val .null, .val (.ref a4)] [(.ref a1)]))
  refine Goes.step (fun _ kK => XS.aload X_11.here hx rfl (hb hby own_d2_21) rfl rfl kK) ?_
  show Goes pP eE bB _ (T_11.setTop (mkF mM 23 #[.val (.ref a1), .val (.ref a2), .val (.long q3), .second, .val .null, .val (.ref a4)] [(.ref a4), (.ref a1)]))
  have u_13 := F_arriving.other W_2 (Or.inr (slot_ne (Or.inr (hw _ (List.mem_of_getElem? (i := 20) rfl))) (Or.inr (hw _ (List.mem_of_getElem? (i := 14) rfl))) (by decide) (t := (.object "dev/callstitch/call/ResponseBody$Arriving")) (t' := (.object "java/lang/String")) (by decide) (by decide)))
  have u_14 := u_13.other W_6 (Or.inr (slot_ne (Or.inr (hw _ (List.mem_of_getElem? (i := 20) rfl))) (Or.inr (hw _ (List.mem_of_getElem? (i := 16) rfl))) (by decide) (t := (.object "dev/callstitch/call/ResponseBody$Arriving")) (t' := .long) (by decide) (by decide)))
  have u_15 := u_14.other W_11 (Or.inr (slot_ne (Or.inr (hw _ (List.mem_of_getElem? (i := 20) rfl))) (Or.inr (hw _ (List.mem_of_getElem? (i := 18) rfl))) (by decide) (t := (.object "dev/callstitch/call/ResponseBody$Arriving")) (t' := (.array .byte)) (by decide) (by decide)))
  have u_16 := u_10.wr W_11
  obtain ⟨T_17, h_17, X_17, e_17, W_17, st_17⟩ := putF X_11 hx hZ hown (host := "") (Or.inl (hw _ (List.mem_of_getElem? (i := 19) rfl))) Via.refl e_11 u_15 u_16 (Or.inr ⟨(hw _ (List.mem_of_getElem? (i := 20) rfl)), rfl, hnm⟩) (hw _ (List.mem_of_getElem? (i := 2) rfl)) (ty := (.object "dev/callstitch/call/ResponseBody$Arriving")) (by decide) rfl rfl (g := (mkF mM 23 #[.val (.ref a1), .val (.ref a2), .val (.long q3), .second, .val .null, .val (.ref a4)] [(.ref a4), (.ref a1)])) rfl rfl (hb hby own_d2_23)
  have u_18 := u_15.same W_17
  have N_17 := Fr.snoc X_17 N_11 g1
  refine Goes.step st_17 ?_
  show Goes pP eE bB _ (T_17.setTop (mkF mM 26 #[.val (.ref a1), .val (.ref a2), .val (.long q3), .second, .val .null, .val (.ref a4)] []))
  refine Goes.ret0 X_17 hx hlk hret (hb hby own_d2_26) (by decide) (by decide) ?_
  have u_19 := (Keep.refl h0 [a1]).wr W_2 (Or.inl (List.mem_of_getElem? (i := 0) rfl))
  have u_20 := u_19.wr W_6 (Or.inl (List.mem_of_getElem? (i := 0) rfl))
  have u_21 := u_20.wr W_11 (Or.inl (List.mem_of_getElem? (i := 0) rfl))
  have u_22 := u_21.wr W_17 (Or.inl (List.mem_of_getElem? (i := 0) rfl))
  have u_23 := u_3.other W_6 (Or.inr (slot_ne (Or.inr (hw _ (List.mem_of_getElem? (i := 14) rfl))) (Or.inr (hw _ (List.mem_of_getElem? (i := 16) rfl))) (by decide) (t := (.object "java/lang/String")) (t' := .long) (by decide) (by decide)))
  have u_24 := u_23.other W_11 (Or.inr (slot_ne (Or.inr (hw _ (List.mem_of_getElem? (i := 14) rfl))) (Or.inr (hw _ (List.mem_of_getElem? (i := 18) rfl))) (by decide) (t := (.object "java/lang/String")) (t' := (.array .byte)) (by decide) (by decide)))
  have u_25 := u_24.other W_17 (Or.inr (slot_ne (Or.inr (hw _ (List.mem_of_getElem? (i := 14) rfl))) (Or.inr (hw _ (List.mem_of_getElem? (i := 20) rfl))) (by decide) (t := (.object "java/lang/String")) (t' := (.object "dev/callstitch/call/ResponseBody$Arriving")) (by decide) (by decide)))
  have u_26 := u_7.other W_11 (Or.inr (slot_ne (Or.inr (hw _ (List.mem_of_getElem? (i := 16) rfl))) (Or.inr (hw _ (List.mem_of_getElem? (i := 18) rfl))) (by decide) (t := .long) (t' := (.array .byte)) (by decide) (by decide)))
  have u_27 := u_26.other W_17 (Or.inr (slot_ne (Or.inr (hw _ (List.mem_of_getElem? (i := 16) rfl))) (Or.inr (hw _ (List.mem_of_getElem? (i := 20) rfl))) (by decide) (t := .long) (t' := (.object "dev/callstitch/call/ResponseBody$Arriving")) (by decide) (by decide)))
  exact ⟨rfl, N_17, by rw [e_17]; exact u_22, by rw [e_17]; exact u_25, by rw [e_17]; exact u_27, by rw [e_17]; exact u_18⟩
set_option maxRecDepth 65536 in
set_option maxHeartbeats 40000000 in
theorem rmC01 (l : Launch) (Z : State) (a0 : Array Value) (hw : ∀ d ∈ tables_1, d.before a0 Z = true) (a1 a2 a4 : Addr) (q3 : Int64) (h0 : Heap) (n0 : Nat) (Z0 : n0 ≤ h0.size) (E1 : Exa Z h0 a1 "dev/callstitch/call/ResponseBody") (g1 : n0 ≤ a1) (F_contentType : Fld Z h0 a1 "dev/callstitch/call/ResponseBody" "contentType" "Ljava/lang/String;" .null) (F_contentLength : Fld Z h0 a1 "dev/callstitch/call/ResponseBody" "contentLength" "J" (.long (0 : Int64))) (F_content : Fld Z h0 a1 "dev/callstitch/call/ResponseBody" "content" "[B" .null) (F_arriving : Fld Z h0 a1 "dev/callstitch/call/ResponseBody" "arriving" "Ldev/callstitch/call/ResponseBody$Arriving;" .null) :
    Con l Z (⟨"dev/callstitch/call/ResponseBody", "<init>", "(Ljava/lang/String;J[BLdev/callstitch/call/ResponseBody$Arriving;)V"⟩ : MethodName) prog_12_method_3_code 6 none ({ frames := 1, cells := 0, slots := 0, locals := 12 } : Room) #[(.ref a1), (.ref a2), (.long q3), (.ref a4), .null] h0 (fun v h L => v = none ∧ Fr n0 L ∧ Keep h0 h [a1] ∧ Fld Z h a1 "dev/callstitch/call/ResponseBody" "contentType" "Ljava/lang/String;" (.ref a2) ∧ Fld Z h a1 "dev/callstitch/call/ResponseBody" "contentLength" "J" (.long q3) ∧ Fld Z h a1 "dev/callstitch/call/ResponseBody" "arriving" "Ldev/callstitch/call/ResponseBody$Arriving;" .null) := by
  refine Con.body (plainFor_of_name own_pn2) ?_
  intro pP eE sS mM bB mT cC s₁ hx hby hml hZ hown hnm hret hlk X0 e0
  have hown : sS.vm.findClass "dev/callstitch/call/ResponseBody" = some mM.cls := hown
  have hml : cC.maxLocals = 6 := hml
  have N0 := Fr.nil n0
  have ef : entryFrame mM #[(.ref a1), (.ref a2), (.long q3), (.ref a4), .null] 6 = mkF mM 0 #[.val (.ref a1), .val (.ref a2), .val (.long q3), .second, .val (.ref a4), .val .null] [] := by first | (simp [entryFrame, mkF, argsToLocals, Value.category]; done) | rfl
  rw [ef]
  show Goes pP eE bB _ (s₁.setTop (mkF mM 0 #[.val (.ref a1), .val (.ref a2), .val (.long q3), .second, .val (.ref a4), .val .null] []))
  refine Goes.step (fun _ kK => XS.aloadN X0.here hx rfl (hb hby own_d2_0) rfl rfl kK) ?_
  show Goes pP eE bB _ (s₁.setTop (mkF mM 1 #[.val (.ref a1), .val (.ref a2), .val (.long q3), .second, .val (.ref a4), .val .null] [(.ref a1)]))
  obtain ⟨T_1, X_1, e_1, st_1⟩ := initO X0 hx hZ hown (hw _ (List.mem_of_getElem? (i := 10) rfl)) (hw _ (List.mem_of_getElem? (i := 11) rfl)) (hw _ (List.mem_of_getElem? (i := 12) rfl)) e0 (g := (mkF mM 1 #[.val (.ref a1), .val (.ref a2), .val (.long q3), .second, .val (.ref a4), .val .null] [(.ref a1)])) rfl (by rw [hml]; rfl) rfl (hb hby own_d2_1) (by decide) (W := 0) (by show 2 * 0 + _ ≤ _; exact Nat.le_of_eq rfl) (by decide)
  refine Goes.step st_1 ?_
  show Goes pP eE bB _ (T_1.setTop (mkF mM 4 #[.val (.ref a1), .val (.ref a2), .val (.long q3), .second, .val (.ref a4), .val .null] []))
  refine Goes.step (fun _ kK => XS.aloadN X_1.here hx rfl (hb hby own_d2_4) rfl rfl kK) ?_
  show Goes pP eE bB _ (T_1.setTop (mkF mM 5 #[.val (.ref a1), .val (.ref a2), .val (.long q3), .second, .val (.ref a4), .val .null] [(.ref a1)]))
  refine Goes.step (fun _ kK => XS.aloadN X_1.here hx rfl (hb hby own_d2_5) rfl rfl kK) ?_
  show Goes pP eE bB _ (T_1.setTop (mkF mM 6 #[.val (.ref a1), .val (.ref a2), .val (.long q3), .second, .val (.ref a4), .val .null] [(.ref a2), (.ref a1)]))
  obtain ⟨T_2, h_2, X_2, e_2, W_2, st_2⟩ := putF X_1 hx hZ hown (host := "") (Or.inl (hw _ (List.mem_of_getElem? (i := 13) rfl))) Via.refl e_1 F_contentType E1 (Or.inr ⟨(hw _ (List.mem_of_getElem? (i := 14) rfl)), rfl, hnm⟩) (hw _ (List.mem_of_getElem? (i := 2) rfl)) (ty := (.object "java/lang/String")) (by decide) rfl rfl (g := (mkF mM 6 #[.val (.ref a1), .val (.ref a2), .val (.long q3), .second, .val (.ref a4), .val .null] [(.ref a2), (.ref a1)])) rfl rfl (hb hby own_d2_6)
  have u_3 := F_contentType.same W_2
  have N_2 := Fr.snoc X_2 N0 g1
  refine Goes.step st_2 ?_
  show Goes pP eE bB _ (T_2.setTop (mkF mM 9 #[.val (.ref a1), .val (.ref a2), .val (.long q3), .second, .val (.ref a4), .val .null] []))
  refine Goes.step (fun _ kK => XS.aloadN X_2.here hx rfl (hb hby own_d2_9) rfl rfl kK) ?_
  show Goes pP eE bB _ (T_2.setTop (mkF mM 10 #[.val (.ref a1), .val (.ref a2), .val (.long q3), .second, .val (.ref a4), .val .null] [(.ref a1)]))
  refine Goes.step (fun _ kK => XS.lloadN X_2.here hx rfl (hb hby own_d2_10) rfl kK) ?_
  show Goes pP eE bB _ (T_2.setTop (mkF mM 11 #[.val (.ref a1), .val (.ref a2), .val (.long q3), .second, .val (.ref a4), .val .null] [(.long q3), (.ref a1)]))
  have u_4 := F_contentLength.other W_2 (Or.inr (slot_ne (Or.inr (hw _ (List.mem_of_getElem? (i := 16) rfl))) (Or.inr (hw _ (List.mem_of_getElem? (i := 14) rfl))) (by decide) (t := .long) (t' := (.object "java/lang/String")) (by decide) (by decide)))
  have u_5 := E1.wr W_2
  obtain ⟨T_6, h_6, X_6, e_6, W_6, st_6⟩ := putF X_2 hx hZ hown (host := "") (Or.inl (hw _ (List.mem_of_getElem? (i := 15) rfl))) Via.refl e_2 u_4 u_5 (Or.inr ⟨(hw _ (List.mem_of_getElem? (i := 16) rfl)), rfl, hnm⟩) (hw _ (List.mem_of_getElem? (i := 2) rfl)) (ty := .long) (by decide) rfl rfl (g := (mkF mM 11 #[.val (.ref a1), .val (.ref a2), .val (.long q3), .second, .val (.ref a4), .val .null] [(.long q3), (.ref a1)])) rfl rfl (hb hby own_d2_11)
  have u_7 := u_4.same W_6
  have N_6 := Fr.snoc X_6 N_2 g1
  refine Goes.step st_6 ?_
  show Goes pP eE bB _ (T_6.setTop (mkF mM 14 #[.val (.ref a1), .val (.ref a2), .val (.long q3), .second, .val (.ref a4), .val .null] []))
  refine Goes.step (fun _ kK => XS.aloadN X_6.here hx rfl (hb hby own_d2_14) rfl rfl kK) ?_
  show Goes pP eE bB _ (T_6.setTop (mkF mM 15 #[.val (.ref a1), .val (.ref a2), .val (.long q3), .second, .val (.ref a4), .val .null] [(.ref a1)]))
  refine Goes.step (fun _ kK => XS.aload X_6.here hx rfl (hb hby own_d2_15) rfl rfl kK) ?_
  show Goes pP eE bB _ (T_6.setTop (mkF mM 17 #[.val (.ref a1), .val (.ref a2), .val (.long q3), .second, .val (.ref a4), .val .null] [(.ref a4), (.ref a1)]))
  have u_8 := F_content.other W_2 (Or.inr (slot_ne (Or.inr (hw _ (List.mem_of_getElem? (i := 18) rfl))) (Or.inr (hw _ (List.mem_of_getElem? (i := 14) rfl))) (by decide) (t := (.array .byte)) (t' := (.object "java/lang/String")) (by decide) (by decide)))
  have u_9 := u_8.other W_6 (Or.inr (slot_ne (Or.inr (hw _ (List.mem_of_getElem? (i := 18) rfl))) (Or.inr (hw _ (List.mem_of_getElem? (i := 16) rfl))) (by decide) (t := (.array .byte)) (t' := .long) (by decide) (by decide)))
  have u_10 := u_5.wr W_6
  obtain ⟨T_11, h_11, X_11, e_11, W_11, st_11⟩ := putF X_6 hx hZ hown (host := "") (Or.inl (hw _ (List.mem_of_getElem? (i := 17) rfl))) Via.refl e_6 u_9 u_10 (Or.inr ⟨(hw _ (List.mem_of_getElem? (i := 18) rfl)), rfl, hnm⟩) (hw _ (List.mem_of_getElem? (i := 2) rfl)) (ty := (.array .byte)) (by decide) rfl rfl (g := (mkF mM 17 #[.val (.ref a1), .val (.ref a2), .val (.long q3), .second, .val (.ref a4), .val .null] [(.ref a4), (.ref a1)])) rfl rfl (hb hby own_d2_17)
  have u_12 := u_9.same W_11
  have N_11 := Fr.snoc X_11 N_6 g1
  refine Goes.step st_11 ?_
  show Goes pP eE bB _ (T_11.setTop (mkF mM 20 #[.val (.ref a1), .val (.ref a2), .val (.long q3), .second, .val (.ref a4), .val .null] []))
  refine Goes.step (fun _ kK => XS.aloadN X_11.here hx rfl (hb hby own_d2_20) rfl rfl kK) ?_
  show Goes pP eE bB _ (T_11.setTop (mkF mM 21 #[.val (.ref a1), .val (.ref a2), .val (.long q3), .second, .val (.ref a4), .val .null] [(.ref a1)]))
  refine Goes.step (fun _ kK => XS.aload X_11.here hx rfl (hb hby own_d2_21) rfl rfl kK) ?_
  show Goes pP eE bB _ (T_11.setTop (mkF mM 23 #[.val (.ref a1), .val (.ref a2), .val (.long q3), .second, .val (.ref a4), .val .null] [.null, (.ref a1)]))
  have u_13 := F_arriving.other W_2 (Or.inr (slot_ne (Or.inr (hw _ (List.mem_of_getElem? (i := 20) rfl))) (Or.inr (hw _ (List.mem_of_getElem? (i := 14) rfl))) (by decide) (t := (.object "dev/callstitch/call/ResponseBody$Arriving")) (t' := (.object "java/lang/String")) (by decide) (by decide)))
  have u_14 := u_13.other W_6 (Or.inr (slot_ne (Or.inr (hw _ (List.mem_of_getElem? (i := 20) rfl))) (Or.inr (hw _ (List.mem_of_getElem? (i := 16) rfl))) (by decide) (t := (.object "dev/callstitch/call/ResponseBody$Arriving")) (t' := .long) (by decide) (by decide)))
  have u_15 := u_14.other W_11 (Or.inr (slot_ne (Or.inr (hw _ (List.mem_of_getElem? (i := 20) rfl))) (Or.inr (hw _ (List.mem_of_getElem? (i := 18) rfl))) (by decide) (t := (.object "dev/callstitch/call/ResponseBody$Arriving")) (t' := (.array .byte)) (by decide) (by decide)))
  have u_16 := u_10.wr W_11
  obtain ⟨T_17, h_17, X_17, e_17, W_17, st_17⟩ := putF X_11 hx hZ hown (host := "") (Or.inl (hw _ (List.mem_of_getElem? (i := 19) rfl))) Via.refl e_11 u_15 u_16 (Or.inr ⟨(hw _ (List.mem_of_getElem? (i := 20) rfl)), rfl, hnm⟩) (hw _ (List.mem_of_getElem? (i := 2) rfl)) (ty := (.object "dev/callstitch/call/ResponseBody$Arriving")) (by decide) rfl rfl (g := (mkF mM 23 #[.val (.ref a1), .val (.ref a2), .val (.long q3), .second, .val (.ref a4), .val .null] [.null, (.ref a1)])) rfl rfl (hb hby own_d2_23)
  have u_18 := u_15.same W_17
  have N_17 := Fr.snoc X_17 N_11 g1
  refine Goes.step st_17 ?_
  show Goes pP eE bB _ (T_17.setTop (mkF mM 26 #[.val (.ref a1), .val (.ref a2), .val (.long q3), .second, .val (.ref a4), .val .null] []))
  refine Goes.ret0 X_17 hx hlk hret (hb hby own_d2_26) (by decide) (by decide) ?_
  have u_19 := (Keep.refl h0 [a1]).wr W_2 (Or.inl (List.mem_of_getElem? (i := 0) rfl))
  have u_20 := u_19.wr W_6 (Or.inl (List.mem_of_getElem? (i := 0) rfl))
  have u_21 := u_20.wr W_11 (Or.inl (List.mem_of_getElem? (i := 0) rfl))
  have u_22 := u_21.wr W_17 (Or.inl (List.mem_of_getElem? (i := 0) rfl))
  have u_23 := u_3.other W_6 (Or.inr (slot_ne (Or.inr (hw _ (List.mem_of_getElem? (i := 14) rfl))) (Or.inr (hw _ (List.mem_of_getElem? (i := 16) rfl))) (by decide) (t := (.object "java/lang/String")) (t' := .long) (by decide) (by decide)))
  have u_24 := u_23.other W_11 (Or.inr (slot_ne (Or.inr (hw _ (List.mem_of_getElem? (i := 14) rfl))) (Or.inr (hw _ (List.mem_of_getElem? (i := 18) rfl))) (by decide) (t := (.object "java/lang/String")) (t' := (.array .byte)) (by decide) (by decide)))
  have u_25 := u_24.other W_17 (Or.inr (slot_ne (Or.inr (hw _ (List.mem_of_getElem? (i := 14) rfl))) (Or.inr (hw _ (List.mem_of_getElem? (i := 20) rfl))) (by decide) (t := (.object "java/lang/String")) (t' := (.object "dev/callstitch/call/ResponseBody$Arriving")) (by decide) (by decide)))
  have u_26 := u_7.other W_11 (Or.inr (slot_ne (Or.inr (hw _ (List.mem_of_getElem? (i := 16) rfl))) (Or.inr (hw _ (List.mem_of_getElem? (i := 18) rfl))) (by decide) (t := .long) (t' := (.array .byte)) (by decide) (by decide)))
  have u_27 := u_26.other W_17 (Or.inr (slot_ne (Or.inr (hw _ (List.mem_of_getElem? (i := 16) rfl))) (Or.inr (hw _ (List.mem_of_getElem? (i := 20) rfl))) (by decide) (t := .long) (t' := (.object "dev/callstitch/call/ResponseBody$Arriving")) (by decide) (by decide)))
  exact ⟨rfl, N_17, by rw [e_17]; exact u_22, by rw [e_17]; exact u_25, by rw [e_17]; exact u_27, by rw [e_17]; exact u_18⟩
set_option maxRecDepth 65536 in
set_option maxHeartbeats 40000000 in
theorem rmC10 (l : Launch) (Z : State) (a0 : Array Value) (hw : ∀ d ∈ tables_1, d.before a0 Z = true) (a1 a4 : Addr) (q3 : Int64) (h0 : Heap) (n0 : Nat) (Z0 : n0 ≤ h0.size) (E1 : Exa Z h0 a1 "dev/callstitch/call/ResponseBody") (g1 : n0 ≤ a1) (F_contentType : Fld Z h0 a1 "dev/callstitch/call/ResponseBody" "contentType" "Ljava/lang/String;" .null) (F_contentLength : Fld Z h0 a1 "dev/callstitch/call/ResponseBody" "contentLength" "J" (.long (0 : Int64))) (F_content : Fld Z h0 a1 "dev/callstitch/call/ResponseBody" "content" "[B" .null) (F_arriving : Fld Z h0 a1 "dev/callstitch/call/ResponseBody" "arriving" "Ldev/callstitch/call/ResponseBody$Arriving;" .null) :
    Con l Z (⟨"dev/callstitch/call/ResponseBody", "<init>", "(Ljava/lang/String;J[BLdev/callstitch/call/ResponseBody$Arriving;)V"⟩ : MethodName) prog_12_method_3_code 6 none ({ frames := 1, cells := 0, slots := 0, locals := 12 } : Room) #[(.ref a1), .null, (.long q3), .null, (.ref a4)] h0 (fun v h L => v = none ∧ Fr n0 L ∧ Keep h0 h [a1] ∧ Fld Z h a1 "dev/callstitch/call/ResponseBody" "contentType" "Ljava/lang/String;" .null ∧ Fld Z h a1 "dev/callstitch/call/ResponseBody" "contentLength" "J" (.long q3) ∧ Fld Z h a1 "dev/callstitch/call/ResponseBody" "arriving" "Ldev/callstitch/call/ResponseBody$Arriving;" (.ref a4)) := by
  refine Con.body (plainFor_of_name own_pn2) ?_
  intro pP eE sS mM bB mT cC s₁ hx hby hml hZ hown hnm hret hlk X0 e0
  have hown : sS.vm.findClass "dev/callstitch/call/ResponseBody" = some mM.cls := hown
  have hml : cC.maxLocals = 6 := hml
  have N0 := Fr.nil n0
  have ef : entryFrame mM #[(.ref a1), .null, (.long q3), .null, (.ref a4)] 6 = mkF mM 0 #[.val (.ref a1), .val .null, .val (.long q3), .second, .val .null, .val (.ref a4)] [] := by first | (simp [entryFrame, mkF, argsToLocals, Value.category]; done) | rfl
  rw [ef]
  show Goes pP eE bB _ (s₁.setTop (mkF mM 0 #[.val (.ref a1), .val .null, .val (.long q3), .second, .val .null, .val (.ref a4)] []))
  refine Goes.step (fun _ kK => XS.aloadN X0.here hx rfl (hb hby own_d2_0) rfl rfl kK) ?_
  show Goes pP eE bB _ (s₁.setTop (mkF mM 1 #[.val (.ref a1), .val .null, .val (.long q3), .second, .val .null, .val (.ref a4)] [(.ref a1)]))
  obtain ⟨T_1, X_1, e_1, st_1⟩ := initO X0 hx hZ hown (hw _ (List.mem_of_getElem? (i := 10) rfl)) (hw _ (List.mem_of_getElem? (i := 11) rfl)) (hw _ (List.mem_of_getElem? (i := 12) rfl)) e0 (g := (mkF mM 1 #[.val (.ref a1), .val .null, .val (.long q3), .second, .val .null, .val (.ref a4)] [(.ref a1)])) rfl (by rw [hml]; rfl) rfl (hb hby own_d2_1) (by decide) (W := 0) (by show 2 * 0 + _ ≤ _; exact Nat.le_of_eq rfl) (by decide)
  refine Goes.step st_1 ?_
  show Goes pP eE bB _ (T_1.setTop (mkF mM 4 #[.val (.ref a1), .val .null, .val (.long q3), .second, .val .null, .val (.ref a4)] []))
  refine Goes.step (fun _ kK => XS.aloadN X_1.here hx rfl (hb hby own_d2_4) rfl rfl kK) ?_
  show Goes pP eE bB _ (T_1.setTop (mkF mM 5 #[.val (.ref a1), .val .null, .val (.long q3), .second, .val .null, .val (.ref a4)] [(.ref a1)]))
  refine Goes.step (fun _ kK => XS.aloadN X_1.here hx rfl (hb hby own_d2_5) rfl rfl kK) ?_
  show Goes pP eE bB _ (T_1.setTop (mkF mM 6 #[.val (.ref a1), .val .null, .val (.long q3), .second, .val .null, .val (.ref a4)] [.null, (.ref a1)]))
  obtain ⟨T_2, h_2, X_2, e_2, W_2, st_2⟩ := putF X_1 hx hZ hown (host := "") (Or.inl (hw _ (List.mem_of_getElem? (i := 13) rfl))) Via.refl e_1 F_contentType E1 (Or.inr ⟨(hw _ (List.mem_of_getElem? (i := 14) rfl)), rfl, hnm⟩) (hw _ (List.mem_of_getElem? (i := 2) rfl)) (ty := (.object "java/lang/String")) (by decide) rfl rfl (g := (mkF mM 6 #[.val (.ref a1), .val .null, .val (.long q3), .second, .val .null, .val (.ref a4)] [.null, (.ref a1)])) rfl rfl (hb hby own_d2_6)
  have u_3 := F_contentType.same W_2
  have N_2 := Fr.snoc X_2 N0 g1
  refine Goes.step st_2 ?_
  show Goes pP eE bB _ (T_2.setTop (mkF mM 9 #[.val (.ref a1), .val .null, .val (.long q3), .second, .val .null, .val (.ref a4)] []))
  refine Goes.step (fun _ kK => XS.aloadN X_2.here hx rfl (hb hby own_d2_9) rfl rfl kK) ?_
  show Goes pP eE bB _ (T_2.setTop (mkF mM 10 #[.val (.ref a1), .val .null, .val (.long q3), .second, .val .null, .val (.ref a4)] [(.ref a1)]))
  refine Goes.step (fun _ kK => XS.lloadN X_2.here hx rfl (hb hby own_d2_10) rfl kK) ?_
  show Goes pP eE bB _ (T_2.setTop (mkF mM 11 #[.val (.ref a1), .val .null, .val (.long q3), .second, .val .null, .val (.ref a4)] [(.long q3), (.ref a1)]))
  have u_4 := F_contentLength.other W_2 (Or.inr (slot_ne (Or.inr (hw _ (List.mem_of_getElem? (i := 16) rfl))) (Or.inr (hw _ (List.mem_of_getElem? (i := 14) rfl))) (by decide) (t := .long) (t' := (.object "java/lang/String")) (by decide) (by decide)))
  have u_5 := E1.wr W_2
  obtain ⟨T_6, h_6, X_6, e_6, W_6, st_6⟩ := putF X_2 hx hZ hown (host := "") (Or.inl (hw _ (List.mem_of_getElem? (i := 15) rfl))) Via.refl e_2 u_4 u_5 (Or.inr ⟨(hw _ (List.mem_of_getElem? (i := 16) rfl)), rfl, hnm⟩) (hw _ (List.mem_of_getElem? (i := 2) rfl)) (ty := .long) (by decide) rfl rfl (g := (mkF mM 11 #[.val (.ref a1), .val .null, .val (.long q3), .second, .val .null, .val (.ref a4)] [(.long q3), (.ref a1)])) rfl rfl (hb hby own_d2_11)
  have u_7 := u_4.same W_6
  have N_6 := Fr.snoc X_6 N_2 g1
  refine Goes.step st_6 ?_
  show Goes pP eE bB _ (T_6.setTop (mkF mM 14 #[.val (.ref a1), .val .null, .val (.long q3), .second, .val .null, .val (.ref a4)] []))
  refine Goes.step (fun _ kK => XS.aloadN X_6.here hx rfl (hb hby own_d2_14) rfl rfl kK) ?_
  show Goes pP eE bB _ (T_6.setTop (mkF mM 15 #[.val (.ref a1), .val .null, .val (.long q3), .second, .val .null, .val (.ref a4)] [(.ref a1)]))
  refine Goes.step (fun _ kK => XS.aload X_6.here hx rfl (hb hby own_d2_15) rfl rfl kK) ?_
  show Goes pP eE bB _ (T_6.setTop (mkF mM 17 #[.val (.ref a1), .val .null, .val (.long q3), .second, .val .null, .val (.ref a4)] [.null, (.ref a1)]))
  have u_8 := F_content.other W_2 (Or.inr (slot_ne (Or.inr (hw _ (List.mem_of_getElem? (i := 18) rfl))) (Or.inr (hw _ (List.mem_of_getElem? (i := 14) rfl))) (by decide) (t := (.array .byte)) (t' := (.object "java/lang/String")) (by decide) (by decide)))
  have u_9 := u_8.other W_6 (Or.inr (slot_ne (Or.inr (hw _ (List.mem_of_getElem? (i := 18) rfl))) (Or.inr (hw _ (List.mem_of_getElem? (i := 16) rfl))) (by decide) (t := (.array .byte)) (t' := .long) (by decide) (by decide)))
  have u_10 := u_5.wr W_6
  obtain ⟨T_11, h_11, X_11, e_11, W_11, st_11⟩ := putF X_6 hx hZ hown (host := "") (Or.inl (hw _ (List.mem_of_getElem? (i := 17) rfl))) Via.refl e_6 u_9 u_10 (Or.inr ⟨(hw _ (List.mem_of_getElem? (i := 18) rfl)), rfl, hnm⟩) (hw _ (List.mem_of_getElem? (i := 2) rfl)) (ty := (.array .byte)) (by decide) rfl rfl (g := (mkF mM 17 #[.val (.ref a1), .val .null, .val (.long q3), .second, .val .null, .val (.ref a4)] [.null, (.ref a1)])) rfl rfl (hb hby own_d2_17)
  have u_12 := u_9.same W_11
  have N_11 := Fr.snoc X_11 N_6 g1
  refine Goes.step st_11 ?_
  show Goes pP eE bB _ (T_11.setTop (mkF mM 20 #[.val (.ref a1), .val .null, .val (.long q3), .second, .val .null, .val (.ref a4)] []))
  refine Goes.step (fun _ kK => XS.aloadN X_11.here hx rfl (hb hby own_d2_20) rfl rfl kK) ?_
  show Goes pP eE bB _ (T_11.setTop (mkF mM 21 #[.val (.ref a1), .val .null, .val (.long q3), .second, .val .null, .val (.ref a4)] [(.ref a1)]))
  refine Goes.step (fun _ kK => XS.aload X_11.here hx rfl (hb hby own_d2_21) rfl rfl kK) ?_
  show Goes pP eE bB _ (T_11.setTop (mkF mM 23 #[.val (.ref a1), .val .null, .val (.long q3), .second, .val .null, .val (.ref a4)] [(.ref a4), (.ref a1)]))
  have u_13 := F_arriving.other W_2 (Or.inr (slot_ne (Or.inr (hw _ (List.mem_of_getElem? (i := 20) rfl))) (Or.inr (hw _ (List.mem_of_getElem? (i := 14) rfl))) (by decide) (t := (.object "dev/callstitch/call/ResponseBody$Arriving")) (t' := (.object "java/lang/String")) (by decide) (by decide)))
  have u_14 := u_13.other W_6 (Or.inr (slot_ne (Or.inr (hw _ (List.mem_of_getElem? (i := 20) rfl))) (Or.inr (hw _ (List.mem_of_getElem? (i := 16) rfl))) (by decide) (t := (.object "dev/callstitch/call/ResponseBody$Arriving")) (t' := .long) (by decide) (by decide)))
  have u_15 := u_14.other W_11 (Or.inr (slot_ne (Or.inr (hw _ (List.mem_of_getElem? (i := 20) rfl))) (Or.inr (hw _ (List.mem_of_getElem? (i := 18) rfl))) (by decide) (t := (.object "dev/callstitch/call/ResponseBody$Arriving")) (t' := (.array .byte)) (by decide) (by decide)))
  have u_16 := u_10.wr W_11
  obtain ⟨T_17, h_17, X_17, e_17, W_17, st_17⟩ := putF X_11 hx hZ hown (host := "") (Or.inl (hw _ (List.mem_of_getElem? (i := 19) rfl))) Via.refl e_11 u_15 u_16 (Or.inr ⟨(hw _ (List.mem_of_getElem? (i := 20) rfl)), rfl, hnm⟩) (hw _ (List.mem_of_getElem? (i := 2) rfl)) (ty := (.object "dev/callstitch/call/ResponseBody$Arriving")) (by decide) rfl rfl (g := (mkF mM 23 #[.val (.ref a1), .val .null, .val (.long q3), .second, .val .null, .val (.ref a4)] [(.ref a4), (.ref a1)])) rfl rfl (hb hby own_d2_23)
  have u_18 := u_15.same W_17
  have N_17 := Fr.snoc X_17 N_11 g1
  refine Goes.step st_17 ?_
  show Goes pP eE bB _ (T_17.setTop (mkF mM 26 #[.val (.ref a1), .val .null, .val (.long q3), .second, .val .null, .val (.ref a4)] []))
  refine Goes.ret0 X_17 hx hlk hret (hb hby own_d2_26) (by decide) (by decide) ?_
  have u_19 := (Keep.refl h0 [a1]).wr W_2 (Or.inl (List.mem_of_getElem? (i := 0) rfl))
  have u_20 := u_19.wr W_6 (Or.inl (List.mem_of_getElem? (i := 0) rfl))
  have u_21 := u_20.wr W_11 (Or.inl (List.mem_of_getElem? (i := 0) rfl))
  have u_22 := u_21.wr W_17 (Or.inl (List.mem_of_getElem? (i := 0) rfl))
  have u_23 := u_3.other W_6 (Or.inr (slot_ne (Or.inr (hw _ (List.mem_of_getElem? (i := 14) rfl))) (Or.inr (hw _ (List.mem_of_getElem? (i := 16) rfl))) (by decide) (t := (.object "java/lang/String")) (t' := .long) (by decide) (by decide)))
  have u_24 := u_23.other W_11 (Or.inr (slot_ne (Or.inr (hw _ (List.mem_of_getElem? (i := 14) rfl))) (Or.inr (hw _ (List.mem_of_getElem? (i := 18) rfl))) (by decide) (t := (.object "java/lang/String")) (t' := (.array .byte)) (by decide) (by decide)))
  have u_25 := u_24.other W_17 (Or.inr (slot_ne (Or.inr (hw _ (List.mem_of_getElem? (i := 14) rfl))) (Or.inr (hw _ (List.mem_of_getElem? (i := 20) rfl))) (by decide) (t := (.object "java/lang/String")) (t' := (.object "dev/callstitch/call/ResponseBody$Arriving")) (by decide) (by decide)))
  have u_26 := u_7.other W_11 (Or.inr (slot_ne (Or.inr (hw _ (List.mem_of_getElem? (i := 16) rfl))) (Or.inr (hw _ (List.mem_of_getElem? (i := 18) rfl))) (by decide) (t := .long) (t' := (.array .byte)) (by decide) (by decide)))
  have u_27 := u_26.other W_17 (Or.inr (slot_ne (Or.inr (hw _ (List.mem_of_getElem? (i := 16) rfl))) (Or.inr (hw _ (List.mem_of_getElem? (i := 20) rfl))) (by decide) (t := .long) (t' := (.object "dev/callstitch/call/ResponseBody$Arriving")) (by decide) (by decide)))
  exact ⟨rfl, N_17, by rw [e_17]; exact u_22, by rw [e_17]; exact u_25, by rw [e_17]; exact u_27, by rw [e_17]; exact u_18⟩
set_option maxRecDepth 65536 in
set_option maxHeartbeats 40000000 in
theorem rmC11 (l : Launch) (Z : State) (a0 : Array Value) (hw : ∀ d ∈ tables_1, d.before a0 Z = true) (a1 a4 : Addr) (q3 : Int64) (h0 : Heap) (n0 : Nat) (Z0 : n0 ≤ h0.size) (E1 : Exa Z h0 a1 "dev/callstitch/call/ResponseBody") (g1 : n0 ≤ a1) (F_contentType : Fld Z h0 a1 "dev/callstitch/call/ResponseBody" "contentType" "Ljava/lang/String;" .null) (F_contentLength : Fld Z h0 a1 "dev/callstitch/call/ResponseBody" "contentLength" "J" (.long (0 : Int64))) (F_content : Fld Z h0 a1 "dev/callstitch/call/ResponseBody" "content" "[B" .null) (F_arriving : Fld Z h0 a1 "dev/callstitch/call/ResponseBody" "arriving" "Ldev/callstitch/call/ResponseBody$Arriving;" .null) :
    Con l Z (⟨"dev/callstitch/call/ResponseBody", "<init>", "(Ljava/lang/String;J[BLdev/callstitch/call/ResponseBody$Arriving;)V"⟩ : MethodName) prog_12_method_3_code 6 none ({ frames := 1, cells := 0, slots := 0, locals := 12 } : Room) #[(.ref a1), .null, (.long q3), (.ref a4), .null] h0 (fun v h L => v = none ∧ Fr n0 L ∧ Keep h0 h [a1] ∧ Fld Z h a1 "dev/callstitch/call/ResponseBody" "contentType" "Ljava/lang/String;" .null ∧ Fld Z h a1 "dev/callstitch/call/ResponseBody" "contentLength" "J" (.long q3) ∧ Fld Z h a1 "dev/callstitch/call/ResponseBody" "arriving" "Ldev/callstitch/call/ResponseBody$Arriving;" .null) := by
  refine Con.body (plainFor_of_name own_pn2) ?_
  intro pP eE sS mM bB mT cC s₁ hx hby hml hZ hown hnm hret hlk X0 e0
  have hown : sS.vm.findClass "dev/callstitch/call/ResponseBody" = some mM.cls := hown
  have hml : cC.maxLocals = 6 := hml
  have N0 := Fr.nil n0
  have ef : entryFrame mM #[(.ref a1), .null, (.long q3), (.ref a4), .null] 6 = mkF mM 0 #[.val (.ref a1), .val .null, .val (.long q3), .second, .val (.ref a4), .val .null] [] := by first | (simp [entryFrame, mkF, argsToLocals, Value.category]; done) | rfl
  rw [ef]
  show Goes pP eE bB _ (s₁.setTop (mkF mM 0 #[.val (.ref a1), .val .null, .val (.long q3), .second, .val (.ref a4), .val .null] []))
  refine Goes.step (fun _ kK => XS.aloadN X0.here hx rfl (hb hby own_d2_0) rfl rfl kK) ?_
  show Goes pP eE bB _ (s₁.setTop (mkF mM 1 #[.val (.ref a1), .val .null, .val (.long q3), .second, .val (.ref a4), .val .null] [(.ref a1)]))
  obtain ⟨T_1, X_1, e_1, st_1⟩ := initO X0 hx hZ hown (hw _ (List.mem_of_getElem? (i := 10) rfl)) (hw _ (List.mem_of_getElem? (i := 11) rfl)) (hw _ (List.mem_of_getElem? (i := 12) rfl)) e0 (g := (mkF mM 1 #[.val (.ref a1), .val .null, .val (.long q3), .second, .val (.ref a4), .val .null] [(.ref a1)])) rfl (by rw [hml]; rfl) rfl (hb hby own_d2_1) (by decide) (W := 0) (by show 2 * 0 + _ ≤ _; exact Nat.le_of_eq rfl) (by decide)
  refine Goes.step st_1 ?_
  show Goes pP eE bB _ (T_1.setTop (mkF mM 4 #[.val (.ref a1), .val .null, .val (.long q3), .second, .val (.ref a4), .val .null] []))
  refine Goes.step (fun _ kK => XS.aloadN X_1.here hx rfl (hb hby own_d2_4) rfl rfl kK) ?_
  show Goes pP eE bB _ (T_1.setTop (mkF mM 5 #[.val (.ref a1), .val .null, .val (.long q3), .second, .val (.ref a4), .val .null] [(.ref a1)]))
  refine Goes.step (fun _ kK => XS.aloadN X_1.here hx rfl (hb hby own_d2_5) rfl rfl kK) ?_
  show Goes pP eE bB _ (T_1.setTop (mkF mM 6 #[.val (.ref a1), .val .null, .val (.long q3), .second, .val (.ref a4), .val .null] [.null, (.ref a1)]))
  obtain ⟨T_2, h_2, X_2, e_2, W_2, st_2⟩ := putF X_1 hx hZ hown (host := "") (Or.inl (hw _ (List.mem_of_getElem? (i := 13) rfl))) Via.refl e_1 F_contentType E1 (Or.inr ⟨(hw _ (List.mem_of_getElem? (i := 14) rfl)), rfl, hnm⟩) (hw _ (List.mem_of_getElem? (i := 2) rfl)) (ty := (.object "java/lang/String")) (by decide) rfl rfl (g := (mkF mM 6 #[.val (.ref a1), .val .null, .val (.long q3), .second, .val (.ref a4), .val .null] [.null, (.ref a1)])) rfl rfl (hb hby own_d2_6)
  have u_3 := F_contentType.same W_2
  have N_2 := Fr.snoc X_2 N0 g1
  refine Goes.step st_2 ?_
  show Goes pP eE bB _ (T_2.setTop (mkF mM 9 #[.val (.ref a1), .val .null, .val (.long q3), .second, .val (.ref a4), .val .null] []))
  refine Goes.step (fun _ kK => XS.aloadN X_2.here hx rfl (hb hby own_d2_9) rfl rfl kK) ?_
  show Goes pP eE bB _ (T_2.setTop (mkF mM 10 #[.val (.ref a1), .val .null, .val (.long q3), .second, .val (.ref a4), .val .null] [(.ref a1)]))
  refine Goes.step (fun _ kK => XS.lloadN X_2.here hx rfl (hb hby own_d2_10) rfl kK) ?_
  show Goes pP eE bB _ (T_2.setTop (mkF mM 11 #[.val (.ref a1), .val .null, .val (.long q3), .second, .val (.ref a4), .val .null] [(.long q3), (.ref a1)]))
  have u_4 := F_contentLength.other W_2 (Or.inr (slot_ne (Or.inr (hw _ (List.mem_of_getElem? (i := 16) rfl))) (Or.inr (hw _ (List.mem_of_getElem? (i := 14) rfl))) (by decide) (t := .long) (t' := (.object "java/lang/String")) (by decide) (by decide)))
  have u_5 := E1.wr W_2
  obtain ⟨T_6, h_6, X_6, e_6, W_6, st_6⟩ := putF X_2 hx hZ hown (host := "") (Or.inl (hw _ (List.mem_of_getElem? (i := 15) rfl))) Via.refl e_2 u_4 u_5 (Or.inr ⟨(hw _ (List.mem_of_getElem? (i := 16) rfl)), rfl, hnm⟩) (hw _ (List.mem_of_getElem? (i := 2) rfl)) (ty := .long) (by decide) rfl rfl (g := (mkF mM 11 #[.val (.ref a1), .val .null, .val (.long q3), .second, .val (.ref a4), .val .null] [(.long q3), (.ref a1)])) rfl rfl (hb hby own_d2_11)
  have u_7 := u_4.same W_6
  have N_6 := Fr.snoc X_6 N_2 g1
  refine Goes.step st_6 ?_
  show Goes pP eE bB _ (T_6.setTop (mkF mM 14 #[.val (.ref a1), .val .null, .val (.long q3), .second, .val (.ref a4), .val .null] []))
  refine Goes.step (fun _ kK => XS.aloadN X_6.here hx rfl (hb hby own_d2_14) rfl rfl kK) ?_
  show Goes pP eE bB _ (T_6.setTop (mkF mM 15 #[.val (.ref a1), .val .null, .val (.long q3), .second, .val (.ref a4), .val .null] [(.ref a1)]))
  refine Goes.step (fun _ kK => XS.aload X_6.here hx rfl (hb hby own_d2_15) rfl rfl kK) ?_
  show Goes pP eE bB _ (T_6.setTop (mkF mM 17 #[.val (.ref a1), .val .null, .val (.long q3), .second, .val (.ref a4), .val .null] [(.ref a4), (.ref a1)]))
  have u_8 := F_content.other W_2 (Or.inr (slot_ne (Or.inr (hw _ (List.mem_of_getElem? (i := 18) rfl))) (Or.inr (hw _ (List.mem_of_getElem? (i := 14) rfl))) (by decide) (t := (.array .byte)) (t' := (.object "java/lang/String")) (by decide) (by decide)))
  have u_9 := u_8.other W_6 (Or.inr (slot_ne (Or.inr (hw _ (List.mem_of_getElem? (i := 18) rfl))) (Or.inr (hw _ (List.mem_of_getElem? (i := 16) rfl))) (by decide) (t := (.array .byte)) (t' := .long) (by decide) (by decide)))
  have u_10 := u_5.wr W_6
  obtain ⟨T_11, h_11, X_11, e_11, W_11, st_11⟩ := putF X_6 hx hZ hown (host := "") (Or.inl (hw _ (List.mem_of_getElem? (i := 17) rfl))) Via.refl e_6 u_9 u_10 (Or.inr ⟨(hw _ (List.mem_of_getElem? (i := 18) rfl)), rfl, hnm⟩) (hw _ (List.mem_of_getElem? (i := 2) rfl)) (ty := (.array .byte)) (by decide) rfl rfl (g := (mkF mM 17 #[.val (.ref a1), .val .null, .val (.long q3), .second, .val (.ref a4), .val .null] [(.ref a4), (.ref a1)])) rfl rfl (hb hby own_d2_17)
  have u_12 := u_9.same W_11
  have N_11 := Fr.snoc X_11 N_6 g1
  refine Goes.step st_11 ?_
  show Goes pP eE bB _ (T_11.setTop (mkF mM 20 #[.val (.ref a1), .val .null, .val (.long q3), .second, .val (.ref a4), .val .null] []))
  refine Goes.step (fun _ kK => XS.aloadN X_11.here hx rfl (hb hby own_d2_20) rfl rfl kK) ?_
  show Goes pP eE bB _ (T_11.setTop (mkF mM 21 #[.val (.ref a1), .val .null, .val (.long q3), .second, .val (.ref a4), .val .null] [(.ref a1)]))
  refine Goes.step (fun _ kK => XS.aload X_11.here hx rfl (hb hby own_d2_21) rfl rfl kK) ?_
  show Goes pP eE bB _ (T_11.setTop (mkF mM 23 #[.val (.ref a1), .val .null, .val (.long q3), .second, .val (.ref a4), .val .null] [.null, (.ref a1)]))
  have u_13 := F_arriving.other W_2 (Or.inr (slot_ne (Or.inr (hw _ (List.mem_of_getElem? (i := 20) rfl))) (Or.inr (hw _ (List.mem_of_getElem? (i := 14) rfl))) (by decide) (t := (.object "dev/callstitch/call/ResponseBody$Arriving")) (t' := (.object "java/lang/String")) (by decide) (by decide)))
  have u_14 := u_13.other W_6 (Or.inr (slot_ne (Or.inr (hw _ (List.mem_of_getElem? (i := 20) rfl))) (Or.inr (hw _ (List.mem_of_getElem? (i := 16) rfl))) (by decide) (t := (.object "dev/callstitch/call/ResponseBody$Arriving")) (t' := .long) (by decide) (by decide)))
  have u_15 := u_14.other W_11 (Or.inr (slot_ne (Or.inr (hw _ (List.mem_of_getElem? (i := 20) rfl))) (Or.inr (hw _ (List.mem_of_getElem? (i := 18) rfl))) (by decide) (t := (.object "dev/callstitch/call/ResponseBody$Arriving")) (t' := (.array .byte)) (by decide) (by decide)))
  have u_16 := u_10.wr W_11
  obtain ⟨T_17, h_17, X_17, e_17, W_17, st_17⟩ := putF X_11 hx hZ hown (host := "") (Or.inl (hw _ (List.mem_of_getElem? (i := 19) rfl))) Via.refl e_11 u_15 u_16 (Or.inr ⟨(hw _ (List.mem_of_getElem? (i := 20) rfl)), rfl, hnm⟩) (hw _ (List.mem_of_getElem? (i := 2) rfl)) (ty := (.object "dev/callstitch/call/ResponseBody$Arriving")) (by decide) rfl rfl (g := (mkF mM 23 #[.val (.ref a1), .val .null, .val (.long q3), .second, .val (.ref a4), .val .null] [.null, (.ref a1)])) rfl rfl (hb hby own_d2_23)
  have u_18 := u_15.same W_17
  have N_17 := Fr.snoc X_17 N_11 g1
  refine Goes.step st_17 ?_
  show Goes pP eE bB _ (T_17.setTop (mkF mM 26 #[.val (.ref a1), .val .null, .val (.long q3), .second, .val (.ref a4), .val .null] []))
  refine Goes.ret0 X_17 hx hlk hret (hb hby own_d2_26) (by decide) (by decide) ?_
  have u_19 := (Keep.refl h0 [a1]).wr W_2 (Or.inl (List.mem_of_getElem? (i := 0) rfl))
  have u_20 := u_19.wr W_6 (Or.inl (List.mem_of_getElem? (i := 0) rfl))
  have u_21 := u_20.wr W_11 (Or.inl (List.mem_of_getElem? (i := 0) rfl))
  have u_22 := u_21.wr W_17 (Or.inl (List.mem_of_getElem? (i := 0) rfl))
  have u_23 := u_3.other W_6 (Or.inr (slot_ne (Or.inr (hw _ (List.mem_of_getElem? (i := 14) rfl))) (Or.inr (hw _ (List.mem_of_getElem? (i := 16) rfl))) (by decide) (t := (.object "java/lang/String")) (t' := .long) (by decide) (by decide)))
  have u_24 := u_23.other W_11 (Or.inr (slot_ne (Or.inr (hw _ (List.mem_of_getElem? (i := 14) rfl))) (Or.inr (hw _ (List.mem_of_getElem? (i := 18) rfl))) (by decide) (t := (.object "java/lang/String")) (t' := (.array .byte)) (by decide) (by decide)))
  have u_25 := u_24.other W_17 (Or.inr (slot_ne (Or.inr (hw _ (List.mem_of_getElem? (i := 14) rfl))) (Or.inr (hw _ (List.mem_of_getElem? (i := 20) rfl))) (by decide) (t := (.object "java/lang/String")) (t' := (.object "dev/callstitch/call/ResponseBody$Arriving")) (by decide) (by decide)))
  have u_26 := u_7.other W_11 (Or.inr (slot_ne (Or.inr (hw _ (List.mem_of_getElem? (i := 16) rfl))) (Or.inr (hw _ (List.mem_of_getElem? (i := 18) rfl))) (by decide) (t := .long) (t' := (.array .byte)) (by decide) (by decide)))
  have u_27 := u_26.other W_17 (Or.inr (slot_ne (Or.inr (hw _ (List.mem_of_getElem? (i := 16) rfl))) (Or.inr (hw _ (List.mem_of_getElem? (i := 20) rfl))) (by decide) (t := .long) (t' := (.object "dev/callstitch/call/ResponseBody$Arriving")) (by decide) (by decide)))
  exact ⟨rfl, N_17, by rw [e_17]; exact u_22, by rw [e_17]; exact u_25, by rw [e_17]; exact u_27, by rw [e_17]; exact u_18⟩
set_option maxRecDepth 65536 in
set_option maxHeartbeats 40000000 in
theorem rmD0 (l : Launch) (Z : State) (a0 : Array Value) (hw : ∀ d ∈ tables_1, d.before a0 Z = true) (a1 a2 a3 : Addr) (z : Int32) (h0 : Heap) (n0 : Nat) (Z0 : n0 ≤ h0.size) (E1 : Exa Z h0 a1 "dev/callstitch/call/ResponseBody") (g1 : n0 ≤ a1) (F_contentType : Fld Z h0 a1 "dev/callstitch/call/ResponseBody" "contentType" "Ljava/lang/String;" .null) (F_contentLength : Fld Z h0 a1 "dev/callstitch/call/ResponseBody" "contentLength" "J" (.long (0 : Int64))) (F_content : Fld Z h0 a1 "dev/callstitch/call/ResponseBody" "content" "[B" .null) (F_arriving : Fld Z h0 a1 "dev/callstitch/call/ResponseBody" "arriving" "Ldev/callstitch/call/ResponseBody$Arriving;" .null) (n : Nat) (hz : z.toInt = (n : Int)) (f : Nat → Value) (A3 : Afn Z h0 a3 .byte n f) :
    Con l Z (⟨"dev/callstitch/call/ResponseBody", "<init>", "(Ljava/lang/String;[B)V"⟩ : MethodName) prog_12_method_1_code 3 none ({ frames := 2, cells := 0, slots := 0, locals := 29 } : Room) #[(.ref a1), (.ref a2), (.ref a3)] h0 (fun v h L => v = none ∧ Fr n0 L ∧ Keep h0 h [a1] ∧ Fld Z h a1 "dev/callstitch/call/ResponseBody" "contentType" "Ljava/lang/String;" (.ref a2) ∧ Fld Z h a1 "dev/callstitch/call/ResponseBody" "contentLength" "J" (.long (z.toInt64)) ∧ Fld Z h a1 "dev/callstitch/call/ResponseBody" "arriving" "Ldev/callstitch/call/ResponseBody$Arriving;" .null) := by
  refine Con.body (plainFor_of_name own_pn2) ?_
  intro pP eE sS mM bB mT cC s₁ hx hby hml hZ hown hnm hret hlk X0 e0
  have hown : sS.vm.findClass "dev/callstitch/call/ResponseBody" = some mM.cls := hown
  have hml : cC.maxLocals = 3 := hml
  have N0 := Fr.nil n0
  have ef : entryFrame mM #[(.ref a1), (.ref a2), (.ref a3)] 3 = mkF mM 0 #[.val (.ref a1), .val (.ref a2), .val (.ref a3)] [] := by first | (simp [entryFrame, mkF, argsToLocals, Value.category]; done) | rfl
  rw [ef]
  show Goes pP eE bB _ (s₁.setTop (mkF mM 0 #[.val (.ref a1), .val (.ref a2), .val (.ref a3)] []))
  refine Goes.step (fun _ kK => XS.aloadN X0.here hx rfl (hb hby own_d1_0) rfl rfl kK) ?_
  show Goes pP eE bB _ (s₁.setTop (mkF mM 1 #[.val (.ref a1), .val (.ref a2), .val (.ref a3)] [(.ref a1)]))
  refine Goes.step (fun _ kK => XS.aloadN X0.here hx rfl (hb hby own_d1_1) rfl rfl kK) ?_
  show Goes pP eE bB _ (s₁.setTop (mkF mM 2 #[.val (.ref a1), .val (.ref a2), .val (.ref a3)] [(.ref a2), (.ref a1)]))
  refine Goes.step (fun _ kK => XS.aloadN X0.here hx rfl (hb hby own_d1_2) rfl rfl kK) ?_
  show Goes pP eE bB _ (s₁.setTop (mkF mM 3 #[.val (.ref a1), .val (.ref a2), .val (.ref a3)] [(.ref a3), (.ref a2), (.ref a1)]))
  refine Goes.alen X0 hx hZ e0 A3 (z := z) hz (g := (mkF mM 3 #[.val (.ref a1), .val (.ref a2), .val (.ref a3)] [(.ref a3), (.ref a2), (.ref a1)])) rfl rfl (hb hby own_d1_3) ?_
  show Goes pP eE bB _ (s₁.setTop (mkF mM 4 #[.val (.ref a1), .val (.ref a2), .val (.ref a3)] [(.int z), (.ref a2), (.ref a1)]))
  refine Goes.step (fun _ kK => XS.i2l X0.here hx rfl (hb hby own_d1_4) rfl kK) ?_
  show Goes pP eE bB _ (s₁.setTop (mkF mM 5 #[.val (.ref a1), .val (.ref a2), .val (.ref a3)] [(.long (z.toInt64)), (.ref a2), (.ref a1)]))
  refine Goes.step (fun _ kK => XS.aloadN X0.here hx rfl (hb hby own_d1_5) rfl rfl kK) ?_
  show Goes pP eE bB _ (s₁.setTop (mkF mM 6 #[.val (.ref a1), .val (.ref a2), .val (.ref a3)] [(.ref a3), (.long (z.toInt64)), (.ref a2), (.ref a1)]))
  refine Goes.step (fun _ kK => XS.aconstNull X0.here hx rfl (hb hby own_d1_6) kK) ?_
  show Goes pP eE bB _ (s₁.setTop (mkF mM 7 #[.val (.ref a1), .val (.ref a2), .val (.ref a3)] [.null, (.ref a3), (.long (z.toInt64)), (.ref a2), (.ref a1)]))
  refine Goes.callI X0 hx hZ rfl hown (hw _ (List.mem_of_getElem? (i := 7) rfl)) (hw _ (List.mem_of_getElem? (i := 8) rfl)) (hw _ (List.mem_of_getElem? (i := 9) rfl)) (hw _ (List.mem_of_getElem? (i := 3) rfl)) (by decide) e0 (rmC01 l Z a0 hw a1 a2 a3 (z.toInt64) h0 n0 Z0 E1 g1 F_contentType F_contentLength F_content F_arriving) (W := 0) (by decide) (by decide) (by decide) (by decide) (g := (mkF mM 7 #[.val (.ref a1), .val (.ref a2), .val (.ref a3)] [.null, (.ref a3), (.long (z.toInt64)), (.ref a2), (.ref a1)])) rfl (by rw [hml]; rfl) (rest := []) own_pd4 rfl rfl (by show 2 * 0 + _ ≤ _; exact Nat.le_of_eq rfl) (hb hby own_d1_7) ?_
  intro v_1 T_1 L_1 X_1 hQ_1
  generalize e_1 : T_1.heap = h_1 at hQ_1
  obtain ⟨rfl, N_1q, K_1, F_1_contentType, F_1_contentLength, F_1_arriving⟩ := hQ_1
  have N_1 := Fr.app N0 N_1q
  show Goes pP eE bB _ (T_1.setTop (mkF mM 10 #[.val (.ref a1), .val (.ref a2), .val (.ref a3)] []))
  refine Goes.ret0 X_1 hx hlk hret (hb hby own_d1_10) (by decide) (by decide) ?_
  have u_2 := (Keep.refl h0 [a1]).trans K_1 (allS (Or.inl (List.mem_of_getElem? (i := 0) rfl)) all0)
  exact ⟨rfl, N_1, by rw [e_1]; exact u_2, by rw [e_1]; exact F_1_contentType, by rw [e_1]; exact F_1_contentLength, by rw [e_1]; exact F_1_arriving⟩
set_option maxRecDepth 65536 in
set_option maxHeartbeats 40000000 in
theorem rmD1 (l : Launch) (Z : State) (a0 : Array Value) (hw : ∀ d ∈ tables_1, d.before a0 Z = true) (a1 a3 : Addr) (z : Int32) (h0 : Heap) (n0 : Nat) (Z0 : n0 ≤ h0.size) (E1 : Exa Z h0 a1 "dev/callstitch/call/ResponseBody") (g1 : n0 ≤ a1) (F_contentType : Fld Z h0 a1 "dev/callstitch/call/ResponseBody" "contentType" "Ljava/lang/String;" .null) (F_contentLength : Fld Z h0 a1 "dev/callstitch/call/ResponseBody" "contentLength" "J" (.long (0 : Int64))) (F_content : Fld Z h0 a1 "dev/callstitch/call/ResponseBody" "content" "[B" .null) (F_arriving : Fld Z h0 a1 "dev/callstitch/call/ResponseBody" "arriving" "Ldev/callstitch/call/ResponseBody$Arriving;" .null) (n : Nat) (hz : z.toInt = (n : Int)) (f : Nat → Value) (A3 : Afn Z h0 a3 .byte n f) :
    Con l Z (⟨"dev/callstitch/call/ResponseBody", "<init>", "(Ljava/lang/String;[B)V"⟩ : MethodName) prog_12_method_1_code 3 none ({ frames := 2, cells := 0, slots := 0, locals := 29 } : Room) #[(.ref a1), .null, (.ref a3)] h0 (fun v h L => v = none ∧ Fr n0 L ∧ Keep h0 h [a1] ∧ Fld Z h a1 "dev/callstitch/call/ResponseBody" "contentType" "Ljava/lang/String;" .null ∧ Fld Z h a1 "dev/callstitch/call/ResponseBody" "contentLength" "J" (.long (z.toInt64)) ∧ Fld Z h a1 "dev/callstitch/call/ResponseBody" "arriving" "Ldev/callstitch/call/ResponseBody$Arriving;" .null) := by
  refine Con.body (plainFor_of_name own_pn2) ?_
  intro pP eE sS mM bB mT cC s₁ hx hby hml hZ hown hnm hret hlk X0 e0
  have hown : sS.vm.findClass "dev/callstitch/call/ResponseBody" = some mM.cls := hown
  have hml : cC.maxLocals = 3 := hml
  have N0 := Fr.nil n0
  have ef : entryFrame mM #[(.ref a1), .null, (.ref a3)] 3 = mkF mM 0 #[.val (.ref a1), .val .null, .val (.ref a3)] [] := by first | (simp [entryFrame, mkF, argsToLocals, Value.category]; done) | rfl
  rw [ef]
  show Goes pP eE bB _ (s₁.setTop (mkF mM 0 #[.val (.ref a1), .val .null, .val (.ref a3)] []))
  refine Goes.step (fun _ kK => XS.aloadN X0.here hx rfl (hb hby own_d1_0) rfl rfl kK) ?_
  show Goes pP eE bB _ (s₁.setTop (mkF mM 1 #[.val (.ref a1), .val .null, .val (.ref a3)] [(.ref a1)]))
  refine Goes.step (fun _ kK => XS.aloadN X0.here hx rfl (hb hby own_d1_1) rfl rfl kK) ?_
  show Goes pP eE bB _ (s₁.setTop (mkF mM 2 #[.val (.ref a1), .val .null, .val (.ref a3)] [.null, (.ref a1)]))
  refine Goes.step (fun _ kK => XS.aloadN X0.here hx rfl (hb hby own_d1_2) rfl rfl kK) ?_
  show Goes pP eE bB _ (s₁.setTop (mkF mM 3 #[.val (.ref a1), .val .null, .val (.ref a3)] [(.ref a3), .null, (.ref a1)]))
  refine Goes.alen X0 hx hZ e0 A3 (z := z) hz (g := (mkF mM 3 #[.val (.ref a1), .val .null, .val (.ref a3)] [(.ref a3), .null, (.ref a1)])) rfl rfl (hb hby own_d1_3) ?_
  show Goes pP eE bB _ (s₁.setTop (mkF mM 4 #[.val (.ref a1), .val .null, .val (.ref a3)] [(.int z), .null, (.ref a1)]))
  refine Goes.step (fun _ kK => XS.i2l X0.here hx rfl (hb hby own_d1_4) rfl kK) ?_
  show Goes pP eE bB _ (s₁.setTop (mkF mM 5 #[.val (.ref a1), .val .null, .val (.ref a3)] [(.long (z.toInt64)), .null, (.ref a1)]))
  refine Goes.step (fun _ kK => XS.aloadN X0.here hx rfl (hb hby own_d1_5) rfl rfl kK) ?_
  show Goes pP eE bB _ (s₁.setTop (mkF mM 6 #[.val (.ref a1), .val .null, .val (.ref a3)] [(.ref a3), (.long (z.toInt64)), .null, (.ref a1)]))
  refine Goes.step (fun _ kK => XS.aconstNull X0.here hx rfl (hb hby own_d1_6) kK) ?_
  show Goes pP eE bB _ (s₁.setTop (mkF mM 7 #[.val (.ref a1), .val .null, .val (.ref a3)] [.null, (.ref a3), (.long (z.toInt64)), .null, (.ref a1)]))
  refine Goes.callI X0 hx hZ rfl hown (hw _ (List.mem_of_getElem? (i := 7) rfl)) (hw _ (List.mem_of_getElem? (i := 8) rfl)) (hw _ (List.mem_of_getElem? (i := 9) rfl)) (hw _ (List.mem_of_getElem? (i := 3) rfl)) (by decide) e0 (rmC11 l Z a0 hw a1 a3 (z.toInt64) h0 n0 Z0 E1 g1 F_contentType F_contentLength F_content F_arriving) (W := 0) (by decide) (by decide) (by decide) (by decide) (g := (mkF mM 7 #[.val (.ref a1), .val .null, .val (.ref a3)] [.null, (.ref a3), (.long (z.toInt64)), .null, (.ref a1)])) rfl (by rw [hml]; rfl) (rest := []) own_pd4 rfl rfl (by show 2 * 0 + _ ≤ _; exact Nat.le_of_eq rfl) (hb hby own_d1_7) ?_
  intro v_1 T_1 L_1 X_1 hQ_1
  generalize e_1 : T_1.heap = h_1 at hQ_1
  obtain ⟨rfl, N_1q, K_1, F_1_contentType, F_1_contentLength, F_1_arriving⟩ := hQ_1
  have N_1 := Fr.app N0 N_1q
  show Goes pP eE bB _ (T_1.setTop (mkF mM 10 #[.val (.ref a1), .val .null, .val (.ref a3)] []))
  refine Goes.ret0 X_1 hx hlk hret (hb hby own_d1_10) (by decide) (by decide) ?_
  have u_2 := (Keep.refl h0 [a1]).trans K_1 (allS (Or.inl (List.mem_of_getElem? (i := 0) rfl)) all0)
  exact ⟨rfl, N_1, by rw [e_1]; exact u_2, by rw [e_1]; exact F_1_contentType, by rw [e_1]; exact F_1_contentLength, by rw [e_1]; exact F_1_arriving⟩
set_option maxRecDepth 65536 in
set_option maxHeartbeats 40000000 in
theorem rmI (l : Launch) (Z : State) (a0 : Array Value) (hw : ∀ d ∈ tables_1, d.before a0 Z = true) (a1 : Addr) (h0 : Heap) (n0 : Nat) (Z0 : n0 ≤ h0.size) :
    Con l Z (⟨"java/io/InputStream", "<init>", "()V"⟩ : MethodName) jdk_2022_method_1_code 1 none ({ frames := 1, cells := 0, slots := 0, locals := 12 } : Room) #[(.ref a1)] h0 (fun v h L => v = none ∧ Fr n0 L ∧ h = h0) := by
  refine Con.body (plainFor_of_name own_pn3) ?_
  intro pP eE sS mM bB mT cC s₁ hx hby hml hZ hown hnm hret hlk X0 e0
  have hown : sS.vm.findClass "java/io/InputStream" = some mM.cls := hown
  have hml : cC.maxLocals = 1 := hml
  have N0 := Fr.nil n0
  have ef : entryFrame mM #[(.ref a1)] 1 = mkF mM 0 #[.val (.ref a1)] [] := by first | (simp [entryFrame, mkF, argsToLocals, Value.category]; done) | rfl
  rw [ef]
  show Goes pP eE bB _ (s₁.setTop (mkF mM 0 #[.val (.ref a1)] []))
  refine Goes.step (fun _ kK => XS.aloadN X0.here hx rfl (hb hby own_d14_0) rfl rfl kK) ?_
  show Goes pP eE bB _ (s₁.setTop (mkF mM 1 #[.val (.ref a1)] [(.ref a1)]))
  obtain ⟨T_1, X_1, e_1, st_1⟩ := initO X0 hx hZ hown (hw _ (List.mem_of_getElem? (i := 77) rfl)) (hw _ (List.mem_of_getElem? (i := 11) rfl)) (hw _ (List.mem_of_getElem? (i := 12) rfl)) e0 (g := (mkF mM 1 #[.val (.ref a1)] [(.ref a1)])) rfl (by rw [hml]; rfl) rfl (hb hby own_d14_1) (by decide) (W := 0) (by show 2 * 0 + _ ≤ _; exact Nat.le_of_eq rfl) (by decide)
  refine Goes.step st_1 ?_
  show Goes pP eE bB _ (T_1.setTop (mkF mM 4 #[.val (.ref a1)] []))
  refine Goes.ret0 X_1 hx hlk hret (hb hby own_d14_4) (by decide) (by decide) ?_
  exact ⟨rfl, N0, e_1⟩
set_option maxRecDepth 65536 in
set_option maxHeartbeats 40000000 in
theorem rmA (l : Launch) (Z : State) (a0 : Array Value) (hw : ∀ d ∈ tables_1, d.before a0 Z = true) (a1 : Addr) (h0 : Heap) (n0 : Nat) (Z0 : n0 ≤ h0.size) (E1 : Exa Z h0 a1 "dev/callstitch/call/ResponseBody$Arriving") (g1 : n0 ≤ a1) (F_stream : Fld Z h0 a1 "dev/callstitch/call/ResponseBody$Arriving" "stream" "Ljava/io/InputStream;" .null) (F_onEnd : Fld Z h0 a1 "dev/callstitch/call/ResponseBody$Arriving" "onEnd" "Ljava/lang/Runnable;" .null) :
    Con l Z (⟨"dev/callstitch/call/ResponseBody$Arriving", "<init>", "(Ljava/io/InputStream;Ljava/lang/Runnable;)V"⟩ : MethodName) prog_13_method_1_code 3 none ({ frames := 2, cells := 0, slots := 0, locals := 24 } : Room) #[(.ref a1), .null, .null] h0 (fun v h L => v = none ∧ Fr n0 L ∧ Keep h0 h [a1]) := by
  refine Con.body (plainFor_of_name own_pn4) ?_
  intro pP eE sS mM bB mT cC s₁ hx hby hml hZ hown hnm hret hlk X0 e0
  have hown : sS.vm.findClass "dev/callstitch/call/ResponseBody$Arriving" = some mM.cls := hown
  have hml : cC.maxLocals = 3 := hml
  have N0 := Fr.nil n0
  have ef : entryFrame mM #[(.ref a1), .null, .null] 3 = mkF mM 0 #[.val (.ref a1), .val .null, .val .null] [] := by first | (simp [entryFrame, mkF, argsToLocals, Value.category]; done) | rfl
  rw [ef]
  show Goes pP eE bB _ (s₁.setTop (mkF mM 0 #[.val (.ref a1), .val .null, .val .null] []))
  refine Goes.step (fun _ kK => XS.aloadN X0.here hx rfl (hb hby own_d13_0) rfl rfl kK) ?_
  show Goes pP eE bB _ (s₁.setTop (mkF mM 1 #[.val (.ref a1), .val .null, .val .null] [(.ref a1)]))
  refine Goes.callI X0 hx hZ rfl hown (hw _ (List.mem_of_getElem? (i := 72) rfl)) (hw _ (List.mem_of_getElem? (i := 73) rfl)) (hw _ (List.mem_of_getElem? (i := 76) rfl)) (hw _ (List.mem_of_getElem? (i := 75) rfl)) (by decide) e0 (rmI l Z a0 hw a1 h0 n0 Z0) (W := 0) (by decide) (by decide) (by decide) (by decide) (g := (mkF mM 1 #[.val (.ref a1), .val .null, .val .null] [(.ref a1)])) rfl (by rw [hml]; rfl) (rest := []) own_pd5 rfl rfl (by show 2 * 0 + _ ≤ _; exact Nat.le_of_eq rfl) (hb hby own_d13_1) ?_
  intro v_1 T_1 L_1 X_1 hQ_1
  obtain ⟨rfl, N_1q, e_1⟩ := hQ_1
  have N_1 := Fr.app N0 N_1q
  show Goes pP eE bB _ (T_1.setTop (mkF mM 4 #[.val (.ref a1), .val .null, .val .null] []))
  refine Goes.step (fun _ kK => XS.aloadN X_1.here hx rfl (hb hby own_d13_4) rfl rfl kK) ?_
  show Goes pP eE bB _ (T_1.setTop (mkF mM 5 #[.val (.ref a1), .val .null, .val .null] [(.ref a1)]))
  refine Goes.step (fun _ kK => XS.aloadN X_1.here hx rfl (hb hby own_d13_5) rfl rfl kK) ?_
  show Goes pP eE bB _ (T_1.setTop (mkF mM 6 #[.val (.ref a1), .val .null, .val .null] [.null, (.ref a1)]))
  obtain ⟨T_2, h_2, X_2, e_2, W_2, st_2⟩ := putF X_1 hx hZ hown (host := "") (Or.inl (hw _ (List.mem_of_getElem? (i := 78) rfl))) Via.refl e_1 F_stream E1 (Or.inr ⟨(hw _ (List.mem_of_getElem? (i := 79) rfl)), rfl, hnm⟩) (hw _ (List.mem_of_getElem? (i := 67) rfl)) (ty := (.object "java/io/InputStream")) (by decide) rfl rfl (g := (mkF mM 6 #[.val (.ref a1), .val .null, .val .null] [.null, (.ref a1)])) rfl rfl (hb hby own_d13_6)
  have u_3 := F_stream.same W_2
  have N_2 := Fr.snoc X_2 N_1 g1
  refine Goes.step st_2 ?_
  show Goes pP eE bB _ (T_2.setTop (mkF mM 9 #[.val (.ref a1), .val .null, .val .null] []))
  refine Goes.step (fun _ kK => XS.aloadN X_2.here hx rfl (hb hby own_d13_9) rfl rfl kK) ?_
  show Goes pP eE bB _ (T_2.setTop (mkF mM 10 #[.val (.ref a1), .val .null, .val .null] [(.ref a1)]))
  refine Goes.step (fun _ kK => XS.aloadN X_2.here hx rfl (hb hby own_d13_10) rfl rfl kK) ?_
  show Goes pP eE bB _ (T_2.setTop (mkF mM 11 #[.val (.ref a1), .val .null, .val .null] [.null, (.ref a1)]))
  have u_4 := F_onEnd.other W_2 (Or.inr (slot_ne (Or.inr (hw _ (List.mem_of_getElem? (i := 81) rfl))) (Or.inr (hw _ (List.mem_of_getElem? (i := 79) rfl))) (by decide) (t := (.object "java/lang/Runnable")) (t' := (.object "java/io/InputStream")) (by decide) (by decide)))
  have u_5 := E1.wr W_2
  obtain ⟨T_6, h_6, X_6, e_6, W_6, st_6⟩ := putF X_2 hx hZ hown (host := "") (Or.inl (hw _ (List.mem_of_getElem? (i := 80) rfl))) Via.refl e_2 u_4 u_5 (Or.inr ⟨(hw _ (List.mem_of_getElem? (i := 81) rfl)), rfl, hnm⟩) (hw _ (List.mem_of_getElem? (i := 67) rfl)) (ty := (.object "java/lang/Runnable")) (by decide) rfl rfl (g := (mkF mM 11 #[.val (.ref a1), .val .null, .val .null] [.null, (.ref a1)])) rfl rfl (hb hby own_d13_11)
  have u_7 := u_4.same W_6
  have N_6 := Fr.snoc X_6 N_2 g1
  refine Goes.step st_6 ?_
  show Goes pP eE bB _ (T_6.setTop (mkF mM 14 #[.val (.ref a1), .val .null, .val .null] []))
  refine Goes.ret0 X_6 hx hlk hret (hb hby own_d13_14) (by decide) (by decide) ?_
  have u_8 := (Keep.refl h0 [a1]).wr W_2 (Or.inl (List.mem_of_getElem? (i := 0) rfl))
  have u_9 := u_8.wr W_6 (Or.inl (List.mem_of_getElem? (i := 0) rfl))
  exact ⟨rfl, N_6, by rw [e_6]; exact u_9⟩
set_option maxRecDepth 65536 in
set_option maxHeartbeats 40000000 in
theorem rmE0 (l : Launch) (Z : State) (a0 : Array Value) (hw : ∀ d ∈ tables_1, d.before a0 Z = true) (a1 a2 : Addr) (q3 : Int64) (h0 : Heap) (n0 : Nat) (Z0 : n0 ≤ h0.size) (E1 : Exa Z h0 a1 "dev/callstitch/call/ResponseBody") (g1 : n0 ≤ a1) (F_contentType : Fld Z h0 a1 "dev/callstitch/call/ResponseBody" "contentType" "Ljava/lang/String;" .null) (F_contentLength : Fld Z h0 a1 "dev/callstitch/call/ResponseBody" "contentLength" "J" (.long (0 : Int64))) (F_content : Fld Z h0 a1 "dev/callstitch/call/ResponseBody" "content" "[B" .null) (F_arriving : Fld Z h0 a1 "dev/callstitch/call/ResponseBody" "arriving" "Ldev/callstitch/call/ResponseBody$Arriving;" .null) :
    Con l Z (⟨"dev/callstitch/call/ResponseBody", "<init>", "(Ljava/lang/String;JLjava/io/InputStream;Ljava/lang/Runnable;)V"⟩ : MethodName) prog_12_method_2_code 6 none ({ frames := 3, cells := 1, slots := 4, locals := 44 } : Room) #[(.ref a1), (.ref a2), (.long q3), .null, .null] h0 (fun v h L => v = none ∧ Fr n0 L ∧ Keep h0 h [a1] ∧ Fld Z h a1 "dev/callstitch/call/ResponseBody" "contentType" "Ljava/lang/String;" (.ref a2) ∧ Fld Z h a1 "dev/callstitch/call/ResponseBody" "contentLength" "J" (.long q3) ∧ ∃ x, Fld Z h a1 "dev/callstitch/call/ResponseBody" "arriving" "Ldev/callstitch/call/ResponseBody$Arriving;" (.ref x)) := by
  refine Con.body (plainFor_of_name own_pn2) ?_
  intro pP eE sS mM bB mT cC s₁ hx hby hml hZ hown hnm hret hlk X0 e0
  have hown : sS.vm.findClass "dev/callstitch/call/ResponseBody" = some mM.cls := hown
  have hml : cC.maxLocals = 6 := hml
  have N0 := Fr.nil n0
  have ef : entryFrame mM #[(.ref a1), (.ref a2), (.long q3), .null, .null] 6 = mkF mM 0 #[.val (.ref a1), .val (.ref a2), .val (.long q3), .second, .val .null, .val .null] [] := by first | (simp [entryFrame, mkF, argsToLocals, Value.category]; done) | rfl
  rw [ef]
  show Goes pP eE bB _ (s₁.setTop (mkF mM 0 #[.val (.ref a1), .val (.ref a2), .val (.long q3), .second, .val .null, .val .null] []))
  refine Goes.step (fun _ kK => XS.aloadN X0.here hx rfl (hb hby own_d12_0) rfl rfl kK) ?_
  show Goes pP eE bB _ (s₁.setTop (mkF mM 1 #[.val (.ref a1), .val (.ref a2), .val (.long q3), .second, .val .null, .val .null] [(.ref a1)]))
  refine Goes.step (fun _ kK => XS.aloadN X0.here hx rfl (hb hby own_d12_1) rfl rfl kK) ?_
  show Goes pP eE bB _ (s₁.setTop (mkF mM 2 #[.val (.ref a1), .val (.ref a2), .val (.long q3), .second, .val .null, .val .null] [(.ref a2), (.ref a1)]))
  refine Goes.step (fun _ kK => XS.lloadN X0.here hx rfl (hb hby own_d12_2) rfl kK) ?_
  show Goes pP eE bB _ (s₁.setTop (mkF mM 3 #[.val (.ref a1), .val (.ref a2), .val (.long q3), .second, .val .null, .val .null] [(.long q3), (.ref a2), (.ref a1)]))
  refine Goes.step (fun _ kK => XS.aconstNull X0.here hx rfl (hb hby own_d12_3) kK) ?_
  show Goes pP eE bB _ (s₁.setTop (mkF mM 4 #[.val (.ref a1), .val (.ref a2), .val (.long q3), .second, .val .null, .val .null] [.null, (.long q3), (.ref a2), (.ref a1)]))
  obtain ⟨T_1, h_1, X_1, e_1, E_1, A_1, D_1, -, st_1⟩ := newO X0 hx hZ hown (hw _ (List.mem_of_getElem? (i := 66) rfl)) (hw _ (List.mem_of_getElem? (i := 67) rfl)) (hw _ (List.mem_of_getElem? (i := 68) rfl)) e0 (g := (mkF mM 4 #[.val (.ref a1), .val (.ref a2), .val (.long q3), .second, .val .null, .val .null] [.null, (.long q3), (.ref a2), (.ref a1)])) rfl (hb hby own_d12_4) (by decide) (by decide)
  obtain ⟨b_1, g_1⟩ : ∃ z, z = h0.size := ⟨_, rfl⟩
  rw [← g_1] at A_1 D_1 st_1
  have u_2 : a1 < b_1 := Nat.lt_of_lt_of_le (E1).lt (Nat.le_of_eq g_1.symm)
  have u_3 : n0 ≤ b_1 := Nat.le_trans Z0 (Nat.le_of_eq g_1.symm)
  have u_4 : h0.size ≤ b_1 := Nat.le_trans ((Keep.refl h0 [a1])).1 (Nat.le_of_eq g_1.symm)
  have u_5 : Fld Z h_1 b_1 "dev/callstitch/call/ResponseBody$Arriving" "stream" "Ljava/io/InputStream;" .null := D_1 (Or.inr (hw _ (List.mem_of_getElem? (i := 79) rfl))) (ty := (.object "java/io/InputStream")) (by decide)
  have u_6 : Fld Z h_1 b_1 "dev/callstitch/call/ResponseBody$Arriving" "onEnd" "Ljava/lang/Runnable;" .null := D_1 (Or.inr (hw _ (List.mem_of_getElem? (i := 81) rfl))) (ty := (.object "java/lang/Runnable")) (by decide)
  refine Goes.step st_1 ?_
  show Goes pP eE bB _ (T_1.setTop (mkF mM 7 #[.val (.ref a1), .val (.ref a2), .val (.long q3), .second, .val .null, .val .null] [(.ref b_1), .null, (.long q3), (.ref a2), (.ref a1)]))
  refine Goes.step (fun _ kK => XS.dup X_1.here hx rfl (hb hby own_d12_7) rfl rfl kK) ?_
  show Goes pP eE bB _ (T_1.setTop (mkF mM 8 #[.val (.ref a1), .val (.ref a2), .val (.long q3), .second, .val .null, .val .null] [(.ref b_1), (.ref b_1), .null, (.long q3), (.ref a2), (.ref a1)]))
  refine Goes.step (fun _ kK => XS.aload X_1.here hx rfl (hb hby own_d12_8) rfl rfl kK) ?_
  show Goes pP eE bB _ (T_1.setTop (mkF mM 10 #[.val (.ref a1), .val (.ref a2), .val (.long q3), .second, .val .null, .val .null] [.null, (.ref b_1), (.ref b_1), .null, (.long q3), (.ref a2), (.ref a1)]))
  refine Goes.step (fun _ kK => XS.aload X_1.here hx rfl (hb hby own_d12_10) rfl rfl kK) ?_
  show Goes pP eE bB _ (T_1.setTop (mkF mM 12 #[.val (.ref a1), .val (.ref a2), .val (.long q3), .second, .val .null, .val .null] [.null, .null, (.ref b_1), (.ref b_1), .null, (.long q3), (.ref a2), (.ref a1)]))
  have u_7 := Nat.le_trans Z0 E_1.1
  refine Goes.callI X_1 hx hZ rfl hown (hw _ (List.mem_of_getElem? (i := 69) rfl)) (hw _ (List.mem_of_getElem? (i := 70) rfl)) (hw _ (List.mem_of_getElem? (i := 71) rfl)) (hw _ (List.mem_of_getElem? (i := 68) rfl)) (by decide) e_1 (rmA l Z a0 hw b_1 h_1 n0 u_7 A_1 u_3 u_5 u_6) (W := 6) (by decide) (by decide) (by decide) (by decide) (g := (mkF mM 12 #[.val (.ref a1), .val (.ref a2), .val (.long q3), .second, .val .null, .val .null] [.null, .null, (.ref b_1), (.ref b_1), .null, (.long q3), (.ref a2), (.ref a1)])) rfl (by rw [hml]; rfl) (rest := [(.ref b_1), .null, (.long q3), (.ref a2), (.ref a1)]) own_pd6 rfl rfl (by show 2 * 0 + _ ≤ _; exact Nat.le_of_eq rfl) (hb hby own_d12_12) ?_
  intro v_8 T_8 L_8 X_8 hQ_8
  generalize e_8 : T_8.heap = h_8 at hQ_8
  obtain ⟨rfl, N_8q, K_8⟩ := hQ_8
  have N_8 := Fr.app N0 N_8q
  show Goes pP eE bB _ (T_8.setTop (mkF mM 15 #[.val (.ref a1), .val (.ref a2), .val (.long q3), .second, .val .null, .val .null] [(.ref b_1), .null, (.long q3), (.ref a2), (.ref a1)]))
  have u_9 := Nat.le_trans u_7 K_8.1
  have u_10 := E1.ext E_1
  have u_11 := u_10.keep K_8
  have u_12 := F_contentType.ext E_1
  have u_13 := u_12.keep K_8 (ninS (Nat.ne_of_lt u_2) nin0)
  have u_14 := F_contentLength.ext E_1
  have u_15 := u_14.keep K_8 (ninS (Nat.ne_of_lt u_2) nin0)
  have u_16 := F_content.ext E_1
  have u_17 := u_16.keep K_8 (ninS (Nat.ne_of_lt u_2) nin0)
  have u_18 := F_arriving.ext E_1
  have u_19 := u_18.keep K_8 (ninS (Nat.ne_of_lt u_2) nin0)
  refine Goes.callI X_8 hx hZ rfl hown (hw _ (List.mem_of_getElem? (i := 7) rfl)) (hw _ (List.mem_of_getElem? (i := 8) rfl)) (hw _ (List.mem_of_getElem? (i := 9) rfl)) (hw _ (List.mem_of_getElem? (i := 3) rfl)) (by decide) e_8 (rmC00 l Z a0 hw a1 a2 b_1 q3 h_8 n0 u_9 u_11 g1 u_13 u_15 u_17 u_19) (W := 0) (by decide) (by decide) (by decide) (by decide) (g := (mkF mM 15 #[.val (.ref a1), .val (.ref a2), .val (.long q3), .second, .val .null, .val .null] [(.ref b_1), .null, (.long q3), (.ref a2), (.ref a1)])) rfl (by rw [hml]; rfl) (rest := []) own_pd4 rfl rfl (by show 2 * 0 + _ ≤ _; exact Nat.le_of_eq rfl) (hb hby own_d12_15) ?_
  intro v_20 T_20 L_20 X_20 hQ_20
  generalize e_20 : T_20.heap = h_20 at hQ_20
  obtain ⟨rfl, N_20q, K_20, F_20_contentType, F_20_contentLength, F_20_arriving⟩ := hQ_20
  have N_20 := Fr.app N_8 N_20q
  show Goes pP eE bB _ (T_20.setTop (mkF mM 18 #[.val (.ref a1), .val (.ref a2), .val (.long q3), .second, .val .null, .val .null] []))
  refine Goes.ret0 X_20 hx hlk hret (hb hby own_d12_18) (by decide) (by decide) ?_
  have u_21 := (Keep.refl h0 [a1]).ext E_1
  have u_22 := u_21.trans K_8 (allS (Or.inr u_4) all0)
  have u_23 := u_22.trans K_20 (allS (Or.inl (List.mem_of_getElem? (i := 0) rfl)) all0)
  exact ⟨rfl, N_20, by rw [e_20]; exact u_23, by rw [e_20]; exact F_20_contentType, by rw [e_20]; exact F_20_contentLength, _, by rw [e_20]; exact F_20_arriving⟩
set_option maxRecDepth 65536 in
set_option maxHeartbeats 40000000 in
theorem rmE1 (l : Launch) (Z : State) (a0 : Array Value) (hw : ∀ d ∈ tables_1, d.before a0 Z = true) (a1 : Addr) (q3 : Int64) (h0 : Heap) (n0 : Nat) (Z0 : n0 ≤ h0.size) (E1 : Exa Z h0 a1 "dev/callstitch/call/ResponseBody") (g1 : n0 ≤ a1) (F_contentType : Fld Z h0 a1 "dev/callstitch/call/ResponseBody" "contentType" "Ljava/lang/String;" .null) (F_contentLength : Fld Z h0 a1 "dev/callstitch/call/ResponseBody" "contentLength" "J" (.long (0 : Int64))) (F_content : Fld Z h0 a1 "dev/callstitch/call/ResponseBody" "content" "[B" .null) (F_arriving : Fld Z h0 a1 "dev/callstitch/call/ResponseBody" "arriving" "Ldev/callstitch/call/ResponseBody$Arriving;" .null) :
    Con l Z (⟨"dev/callstitch/call/ResponseBody", "<init>", "(Ljava/lang/String;JLjava/io/InputStream;Ljava/lang/Runnable;)V"⟩ : MethodName) prog_12_method_2_code 6 none ({ frames := 3, cells := 1, slots := 4, locals := 44 } : Room) #[(.ref a1), .null, (.long q3), .null, .null] h0 (fun v h L => v = none ∧ Fr n0 L ∧ Keep h0 h [a1] ∧ Fld Z h a1 "dev/callstitch/call/ResponseBody" "contentType" "Ljava/lang/String;" .null ∧ Fld Z h a1 "dev/callstitch/call/ResponseBody" "contentLength" "J" (.long q3) ∧ ∃ x, Fld Z h a1 "dev/callstitch/call/ResponseBody" "arriving" "Ldev/callstitch/call/ResponseBody$Arriving;" (.ref x)) := by
  refine Con.body (plainFor_of_name own_pn2) ?_
  intro pP eE sS mM bB mT cC s₁ hx hby hml hZ hown hnm hret hlk X0 e0
  have hown : sS.vm.findClass "dev/callstitch/call/ResponseBody" = some mM.cls := hown
  have hml : cC.maxLocals = 6 := hml
  have N0 := Fr.nil n0
  have ef : entryFrame mM #[(.ref a1), .null, (.long q3), .null, .null] 6 = mkF mM 0 #[.val (.ref a1), .val .null, .val (.long q3), .second, .val .null, .val .null] [] := by first | (simp [entryFrame, mkF, argsToLocals, Value.category]; done) | rfl
  rw [ef]
  show Goes pP eE bB _ (s₁.setTop (mkF mM 0 #[.val (.ref a1), .val .null, .val (.long q3), .second, .val .null, .val .null] []))
  refine Goes.step (fun _ kK => XS.aloadN X0.here hx rfl (hb hby own_d12_0) rfl rfl kK) ?_
  show Goes pP eE bB _ (s₁.setTop (mkF mM 1 #[.val (.ref a1), .val .null, .val (.long q3), .second, .val .null, .val .null] [(.ref a1)]))
  refine Goes.step (fun _ kK => XS.aloadN X0.here hx rfl (hb hby own_d12_1) rfl rfl kK) ?_
  show Goes pP eE bB _ (s₁.setTop (mkF mM 2 #[.val (.ref a1), .val .null, .val (.long q3), .second, .val .null, .val .null] [.null, (.ref a1)]))
  refine Goes.step (fun _ kK => XS.lloadN X0.here hx rfl (hb hby own_d12_2) rfl kK) ?_
  show Goes pP eE bB _ (s₁.setTop (mkF mM 3 #[.val (.ref a1), .val .null, .val (.long q3), .second, .val .null, .val .null] [(.long q3), .null, (.ref a1)]))
  refine Goes.step (fun _ kK => XS.aconstNull X0.here hx rfl (hb hby own_d12_3) kK) ?_
  show Goes pP eE bB _ (s₁.setTop (mkF mM 4 #[.val (.ref a1), .val .null, .val (.long q3), .second, .val .null, .val .null] [.null, (.long q3), .null, (.ref a1)]))
  obtain ⟨T_1, h_1, X_1, e_1, E_1, A_1, D_1, -, st_1⟩ := newO X0 hx hZ hown (hw _ (List.mem_of_getElem? (i := 66) rfl)) (hw _ (List.mem_of_getElem? (i := 67) rfl)) (hw _ (List.mem_of_getElem? (i := 68) rfl)) e0 (g := (mkF mM 4 #[.val (.ref a1), .val .null, .val (.long q3), .second, .val .null, .val .null] [.null, (.long q3), .null, (.ref a1)])) rfl (hb hby own_d12_4) (by decide) (by decide)
  obtain ⟨b_1, g_1⟩ : ∃ z, z = h0.size := ⟨_, rfl⟩
  rw [← g_1] at A_1 D_1 st_1
  have u_2 : a1 < b_1 := Nat.lt_of_lt_of_le (E1).lt (Nat.le_of_eq g_1.symm)
  have u_3 : n0 ≤ b_1 := Nat.le_trans Z0 (Nat.le_of_eq g_1.symm)
  have u_4 : h0.size ≤ b_1 := Nat.le_trans ((Keep.refl h0 [a1])).1 (Nat.le_of_eq g_1.symm)
  have u_5 : Fld Z h_1 b_1 "dev/callstitch/call/ResponseBody$Arriving" "stream" "Ljava/io/InputStream;" .null := D_1 (Or.inr (hw _ (List.mem_of_getElem? (i := 79) rfl))) (ty := (.object "java/io/InputStream")) (by decide)
  have u_6 : Fld Z h_1 b_1 "dev/callstitch/call/ResponseBody$Arriving" "onEnd" "Ljava/lang/Runnable;" .null := D_1 (Or.inr (hw _ (List.mem_of_getElem? (i := 81) rfl))) (ty := (.object "java/lang/Runnable")) (by decide)
  refine Goes.step st_1 ?_
  show Goes pP eE bB _ (T_1.setTop (mkF mM 7 #[.val (.ref a1), .val .null, .val (.long q3), .second, .val .null, .val .null] [(.ref b_1), .null, (.long q3), .null, (.ref a1)]))
  refine Goes.step (fun _ kK => XS.dup X_1.here hx rfl (hb hby own_d12_7) rfl rfl kK) ?_
  show Goes pP eE bB _ (T_1.setTop (mkF mM 8 #[.val (.ref a1), .val .null, .val (.long q3), .second, .val .null, .val .null] [(.ref b_1), (.ref b_1), .null, (.long q3), .null, (.ref a1)]))
  refine Goes.step (fun _ kK => XS.aload X_1.here hx rfl (hb hby own_d12_8) rfl rfl kK) ?_
  show Goes pP eE bB _ (T_1.setTop (mkF mM 10 #[.val (.ref a1), .val .null, .val (.long q3), .second, .val .null, .val .null] [.null, (.ref b_1), (.ref b_1), .null, (.long q3), .null, (.ref a1)]))
  refine Goes.step (fun _ kK => XS.aload X_1.here hx rfl (hb hby own_d12_10) rfl rfl kK) ?_
  show Goes pP eE bB _ (T_1.setTop (mkF mM 12 #[.val (.ref a1), .val .null, .val (.long q3), .second, .val .null, .val .null] [.null, .null, (.ref b_1), (.ref b_1), .null, (.long q3), .null, (.ref a1)]))
  have u_7 := Nat.le_trans Z0 E_1.1
  refine Goes.callI X_1 hx hZ rfl hown (hw _ (List.mem_of_getElem? (i := 69) rfl)) (hw _ (List.mem_of_getElem? (i := 70) rfl)) (hw _ (List.mem_of_getElem? (i := 71) rfl)) (hw _ (List.mem_of_getElem? (i := 68) rfl)) (by decide) e_1 (rmA l Z a0 hw b_1 h_1 n0 u_7 A_1 u_3 u_5 u_6) (W := 6) (by decide) (by decide) (by decide) (by decide) (g := (mkF mM 12 #[.val (.ref a1), .val .null, .val (.long q3), .second, .val .null, .val .null] [.null, .null, (.ref b_1), (.ref b_1), .null, (.long q3), .null, (.ref a1)])) rfl (by rw [hml]; rfl) (rest := [(.ref b_1), .null, (.long q3), .null, (.ref a1)]) own_pd6 rfl rfl (by show 2 * 0 + _ ≤ _; exact Nat.le_of_eq rfl) (hb hby own_d12_12) ?_
  intro v_8 T_8 L_8 X_8 hQ_8
  generalize e_8 : T_8.heap = h_8 at hQ_8
  obtain ⟨rfl, N_8q, K_8⟩ := hQ_8
  have N_8 := Fr.app N0 N_8q
  show Goes pP eE bB _ (T_8.setTop (mkF mM 15 #[.val (.ref a1), .val .null, .val (.long q3), .second, .val .null, .val .null] [(.ref b_1), .null, (.long q3), .null, (.ref a1)]))
  have u_9 := Nat.le_trans u_7 K_8.1
  have u_10 := E1.ext E_1
  have u_11 := u_10.keep K_8
  have u_12 := F_contentType.ext E_1
  have u_13 := u_12.keep K_8 (ninS (Nat.ne_of_lt u_2) nin0)
  have u_14 := F_contentLength.ext E_1
  have u_15 := u_14.keep K_8 (ninS (Nat.ne_of_lt u_2) nin0)
  have u_16 := F_content.ext E_1
  have u_17 := u_16.keep K_8 (ninS (Nat.ne_of_lt u_2) nin0)
  have u_18 := F_arriving.ext E_1
  have u_19 := u_18.keep K_8 (ninS (Nat.ne_of_lt u_2) nin0)
  refine Goes.callI X_8 hx hZ rfl hown (hw _ (List.mem_of_getElem? (i := 7) rfl)) (hw _ (List.mem_of_getElem? (i := 8) rfl)) (hw _ (List.mem_of_getElem? (i := 9) rfl)) (hw _ (List.mem_of_getElem? (i := 3) rfl)) (by decide) e_8 (rmC10 l Z a0 hw a1 b_1 q3 h_8 n0 u_9 u_11 g1 u_13 u_15 u_17 u_19) (W := 0) (by decide) (by decide) (by decide) (by decide) (g := (mkF mM 15 #[.val (.ref a1), .val .null, .val (.long q3), .second, .val .null, .val .null] [(.ref b_1), .null, (.long q3), .null, (.ref a1)])) rfl (by rw [hml]; rfl) (rest := []) own_pd4 rfl rfl (by show 2 * 0 + _ ≤ _; exact Nat.le_of_eq rfl) (hb hby own_d12_15) ?_
  intro v_20 T_20 L_20 X_20 hQ_20
  generalize e_20 : T_20.heap = h_20 at hQ_20
  obtain ⟨rfl, N_20q, K_20, F_20_contentType, F_20_contentLength, F_20_arriving⟩ := hQ_20
  have N_20 := Fr.app N_8 N_20q
  show Goes pP eE bB _ (T_20.setTop (mkF mM 18 #[.val (.ref a1), .val .null, .val (.long q3), .second, .val .null, .val .null] []))
  refine Goes.ret0 X_20 hx hlk hret (hb hby own_d12_18) (by decide) (by decide) ?_
  have u_21 := (Keep.refl h0 [a1]).ext E_1
  have u_22 := u_21.trans K_8 (allS (Or.inr u_4) all0)
  have u_23 := u_22.trans K_20 (allS (Or.inl (List.mem_of_getElem? (i := 0) rfl)) all0)
  exact ⟨rfl, N_20, by rw [e_20]; exact u_23, by rw [e_20]; exact F_20_contentType, by rw [e_20]; exact F_20_contentLength, _, by rw [e_20]; exact F_20_arriving⟩
set_option maxRecDepth 65536 in
set_option maxHeartbeats 40000000 in
theorem rmG1 (l : Launch) (Z : State) (a0 : Array Value) (hw : ∀ d ∈ tables_1, d.before a0 Z = true) (a1 : Addr) (x : Addr) (h0 : Heap) (n0 : Nat) (Z0 : n0 ≤ h0.size) (F0 : Fld Z h0 a1 "dev/callstitch/call/ResponseBody" "arriving" "Ldev/callstitch/call/ResponseBody$Arriving;" (.ref x)) :
    Con l Z (⟨"dev/callstitch/call/ResponseBody", "arrives", "()Z"⟩ : MethodName) prog_12_method_10_code 1 (some .boolean) ({ frames := 0, cells := 0, slots := 0, locals := 0 } : Room) #[(.ref a1)] h0 (fun v h L => v = some (.int (1 : Int32)) ∧ Fr n0 L ∧ h = h0) := by
  refine Con.body (plainFor_of_name own_pn2) ?_
  intro pP eE sS mM bB mT cC s₁ hx hby hml hZ hown hnm hret hlk X0 e0
  have hown : sS.vm.findClass "dev/callstitch/call/ResponseBody" = some mM.cls := hown
  have hml : cC.maxLocals = 1 := hml
  have N0 := Fr.nil n0
  have ef : entryFrame mM #[(.ref a1)] 1 = mkF mM 0 #[.val (.ref a1)] [] := by first | (simp [entryFrame, mkF, argsToLocals, Value.category]; done) | rfl
  rw [ef]
  show Goes pP eE bB _ (s₁.setTop (mkF mM 0 #[.val (.ref a1)] []))
  refine Goes.step (fun _ kK => XS.aloadN X0.here hx rfl (hb hby own_d4_0) rfl rfl kK) ?_
  show Goes pP eE bB _ (s₁.setTop (mkF mM 1 #[.val (.ref a1)] [(.ref a1)]))
  obtain ⟨T_1, X_1, e_1, st_1⟩ := getF X0 hx hZ hown (host := "") (Or.inl (hw _ (List.mem_of_getElem? (i := 19) rfl))) Via.refl e0 F0 (g := (mkF mM 1 #[.val (.ref a1)] [(.ref a1)])) rfl rfl (hb hby own_d4_1)
  refine Goes.step st_1 ?_
  show Goes pP eE bB _ (T_1.setTop (mkF mM 4 #[.val (.ref a1)] [(.ref x)]))
  refine Goes.step (fun _ kK => XS.ifnullNo X_1.here hx rfl (hb hby own_d4_4) rfl kK) ?_
  show Goes pP eE bB _ (T_1.setTop (mkF mM 7 #[.val (.ref a1)] []))
  refine Goes.step (fun _ kK => XS.iconst X_1.here hx rfl (hb hby own_d4_7) kK) ?_
  show Goes pP eE bB _ (T_1.setTop (mkF mM 8 #[.val (.ref a1)] [(.int (1 : Int32))]))
  refine Goes.step (fun _ kK => XS.goto X_1.here hx rfl (pc0 := 8) (pc' := 12) rfl (hb hby own_d4_8) (by decide) (by decide) kK) ?_
  show Goes pP eE bB _ (T_1.setTop (mkF mM 12 #[.val (.ref a1)] [(.int (1 : Int32))]))
  refine Goes.retN X_1 hx hlk (t := .boolean) hret (by simp) (hb hby own_d4_12) (by decide) (by decide) ?_
  exact ⟨rfl, N0, e_1⟩
set_option maxRecDepth 65536 in
set_option maxHeartbeats 40000000 in
theorem rmG0 (l : Launch) (Z : State) (a0 : Array Value) (hw : ∀ d ∈ tables_1, d.before a0 Z = true) (a1 : Addr) (h0 : Heap) (n0 : Nat) (Z0 : n0 ≤ h0.size) (F0 : Fld Z h0 a1 "dev/callstitch/call/ResponseBody" "arriving" "Ldev/callstitch/call/ResponseBody$Arriving;" .null) :
    Con l Z (⟨"dev/callstitch/call/ResponseBody", "arrives", "()Z"⟩ : MethodName) prog_12_method_10_code 1 (some .boolean) ({ frames := 0, cells := 0, slots := 0, locals := 0 } : Room) #[(.ref a1)] h0 (fun v h L => v = some (.int (0 : Int32)) ∧ Fr n0 L ∧ h = h0) := by
  refine Con.body (plainFor_of_name own_pn2) ?_
  intro pP eE sS mM bB mT cC s₁ hx hby hml hZ hown hnm hret hlk X0 e0
  have hown : sS.vm.findClass "dev/callstitch/call/ResponseBody" = some mM.cls := hown
  have hml : cC.maxLocals = 1 := hml
  have N0 := Fr.nil n0
  have ef : entryFrame mM #[(.ref a1)] 1 = mkF mM 0 #[.val (.ref a1)] [] := by first | (simp [entryFrame, mkF, argsToLocals, Value.category]; done) | rfl
  rw [ef]
  show Goes pP eE bB _ (s₁.setTop (mkF mM 0 #[.val (.ref a1)] []))
  refine Goes.step (fun _ kK => XS.aloadN X0.here hx rfl (hb hby own_d4_0) rfl rfl kK) ?_
  show Goes pP eE bB _ (s₁.setTop (mkF mM 1 #[.val (.ref a1)] [(.ref a1)]))
  obtain ⟨T_1, X_1, e_1, st_1⟩ := getF X0 hx hZ hown (host := "") (Or.inl (hw _ (List.mem_of_getElem? (i := 19) rfl))) Via.refl e0 F0 (g := (mkF mM 1 #[.val (.ref a1)] [(.ref a1)])) rfl rfl (hb hby own_d4_1)
  refine Goes.step st_1 ?_
  show Goes pP eE bB _ (T_1.setTop (mkF mM 4 #[.val (.ref a1)] [.null]))
  refine Goes.step (fun _ kK => XS.ifnullYes X_1.here hx rfl (pc0 := 4) (pc' := 11) rfl (hb hby own_d4_4) rfl (by decide) (by decide) kK) ?_
  show Goes pP eE bB _ (T_1.setTop (mkF mM 11 #[.val (.ref a1)] []))
  refine Goes.step (fun _ kK => XS.iconst X_1.here hx rfl (hb hby own_d4_11) kK) ?_
  show Goes pP eE bB _ (T_1.setTop (mkF mM 12 #[.val (.ref a1)] [(.int (0 : Int32))]))
  refine Goes.retN X_1 hx hlk (t := .boolean) hret (by simp) (hb hby own_d4_12) (by decide) (by decide) ?_
  exact ⟨rfl, N0, e_1⟩
set_option maxRecDepth 65536 in
set_option maxHeartbeats 40000000 in
theorem rmGc (l : Launch) (Z : State) (a0 : Array Value) (hw : ∀ d ∈ tables_1, d.before a0 Z = true) (a1 : Addr) (h0 : Heap) (n0 : Nat) (Z0 : n0 ≤ h0.size) (F0 : Fld Z h0 a1 "dev/callstitch/call/ResponseBody" "arriving" "Ldev/callstitch/call/ResponseBody$Arriving;" .null) :
    Con l Z (⟨"dev/callstitch/call/ResponseBody", "close", "()V"⟩ : MethodName) prog_12_method_9_code 1 none ({ frames := 0, cells := 0, slots := 0, locals := 0 } : Room) #[(.ref a1)] h0 (fun v h L => v = none ∧ Fr n0 L ∧ h = h0) := by
  refine Con.body (plainFor_of_name own_pn2) ?_
  intro pP eE sS mM bB mT cC s₁ hx hby hml hZ hown hnm hret hlk X0 e0
  have hown : sS.vm.findClass "dev/callstitch/call/ResponseBody" = some mM.cls := hown
  have hml : cC.maxLocals = 1 := hml
  have N0 := Fr.nil n0
  have ef : entryFrame mM #[(.ref a1)] 1 = mkF mM 0 #[.val (.ref a1)] [] := by first | (simp [entryFrame, mkF, argsToLocals, Value.category]; done) | rfl
  rw [ef]
  show Goes pP eE bB _ (s₁.setTop (mkF mM 0 #[.val (.ref a1)] []))
  refine Goes.step (fun _ kK => XS.aloadN X0.here hx rfl (hb hby own_d5_0) rfl rfl kK) ?_
  show Goes pP eE bB _ (s₁.setTop (mkF mM 1 #[.val (.ref a1)] [(.ref a1)]))
  obtain ⟨T_1, X_1, e_1, st_1⟩ := getF X0 hx hZ hown (host := "") (Or.inl (hw _ (List.mem_of_getElem? (i := 19) rfl))) Via.refl e0 F0 (g := (mkF mM 1 #[.val (.ref a1)] [(.ref a1)])) rfl rfl (hb hby own_d5_1)
  refine Goes.step st_1 ?_
  show Goes pP eE bB _ (T_1.setTop (mkF mM 4 #[.val (.ref a1)] [.null]))
  refine Goes.step (fun _ kK => XS.ifnullYes X_1.here hx rfl (pc0 := 4) (pc' := 14) rfl (hb hby own_d5_4) rfl (by decide) (by decide) kK) ?_
  show Goes pP eE bB _ (T_1.setTop (mkF mM 14 #[.val (.ref a1)] []))
  refine Goes.ret0 X_1 hx hlk hret (hb hby own_d5_14) (by decide) (by decide) ?_
  exact ⟨rfl, N0, e_1⟩
set_option maxRecDepth 65536 in
set_option maxHeartbeats 40000000 in
theorem rmGl (l : Launch) (Z : State) (a0 : Array Value) (hw : ∀ d ∈ tables_1, d.before a0 Z = true) (a1 : Addr) (q : Int64) (h0 : Heap) (n0 : Nat) (Z0 : n0 ≤ h0.size) (F0 : Fld Z h0 a1 "dev/callstitch/call/ResponseBody" "contentLength" "J" (.long q)) :
    Con l Z (⟨"dev/callstitch/call/ResponseBody", "contentLength", "()J"⟩ : MethodName) prog_12_method_5_code 1 (some .long) ({ frames := 0, cells := 0, slots := 0, locals := 0 } : Room) #[(.ref a1)] h0 (fun v h L => v = some (.long q) ∧ Fr n0 L ∧ h = h0) := by
  refine Con.body (plainFor_of_name own_pn2) ?_
  intro pP eE sS mM bB mT cC s₁ hx hby hml hZ hown hnm hret hlk X0 e0
  have hown : sS.vm.findClass "dev/callstitch/call/ResponseBody" = some mM.cls := hown
  have hml : cC.maxLocals = 1 := hml
  have N0 := Fr.nil n0
  have ef : entryFrame mM #[(.ref a1)] 1 = mkF mM 0 #[.val (.ref a1)] [] := by first | (simp [entryFrame, mkF, argsToLocals, Value.category]; done) | rfl
  rw [ef]
  show Goes pP eE bB _ (s₁.setTop (mkF mM 0 #[.val (.ref a1)] []))
  refine Goes.step (fun _ kK => XS.aloadN X0.here hx rfl (hb hby own_d6_0) rfl rfl kK) ?_
  show Goes pP eE bB _ (s₁.setTop (mkF mM 1 #[.val (.ref a1)] [(.ref a1)]))
  obtain ⟨T_1, X_1, e_1, st_1⟩ := getF X0 hx hZ hown (host := "") (Or.inl (hw _ (List.mem_of_getElem? (i := 15) rfl))) Via.refl e0 F0 (g := (mkF mM 1 #[.val (.ref a1)] [(.ref a1)])) rfl rfl (hb hby own_d6_1)
  refine Goes.step st_1 ?_
  show Goes pP eE bB _ (T_1.setTop (mkF mM 4 #[.val (.ref a1)] [(.long q)]))
  refine Goes.ret X_1 hx hlk hret rfl (Or.inr (Or.inl ⟨rfl, rfl, _, rfl⟩)) (hb hby own_d6_4) (by decide) (by decide) ?_
  exact ⟨rfl, N0, e_1⟩
set_option maxRecDepth 65536 in
set_option maxHeartbeats 40000000 in
theorem rmGt1 (l : Launch) (Z : State) (a0 : Array Value) (hw : ∀ d ∈ tables_1, d.before a0 Z = true) (a1 : Addr) (x : Addr) (h0 : Heap) (n0 : Nat) (Z0 : n0 ≤ h0.size) (F0 : Fld Z h0 a1 "dev/callstitch/call/ResponseBody" "contentType" "Ljava/lang/String;" (.ref x)) :
    Con l Z (⟨"dev/callstitch/call/ResponseBody", "contentType", "()Ljava/lang/String;"⟩ : MethodName) prog_12_method_4_code 1 (some (.object "java/lang/String")) ({ frames := 0, cells := 0, slots := 0, locals := 0 } : Room) #[(.ref a1)] h0 (fun v h L => v = some (.ref x) ∧ Fr n0 L ∧ h = h0) := by
  refine Con.body (plainFor_of_name own_pn2) ?_
  intro pP eE sS mM bB mT cC s₁ hx hby hml hZ hown hnm hret hlk X0 e0
  have hown : sS.vm.findClass "dev/callstitch/call/ResponseBody" = some mM.cls := hown
  have hml : cC.maxLocals = 1 := hml
  have N0 := Fr.nil n0
  have ef : entryFrame mM #[(.ref a1)] 1 = mkF mM 0 #[.val (.ref a1)] [] := by first | (simp [entryFrame, mkF, argsToLocals, Value.category]; done) | rfl
  rw [ef]
  show Goes pP eE bB _ (s₁.setTop (mkF mM 0 #[.val (.ref a1)] []))
  refine Goes.step (fun _ kK => XS.aloadN X0.here hx rfl (hb hby own_d15_0) rfl rfl kK) ?_
  show Goes pP eE bB _ (s₁.setTop (mkF mM 1 #[.val (.ref a1)] [(.ref a1)]))
  obtain ⟨T_1, X_1, e_1, st_1⟩ := getF X0 hx hZ hown (host := "") (Or.inl (hw _ (List.mem_of_getElem? (i := 13) rfl))) Via.refl e0 F0 (g := (mkF mM 1 #[.val (.ref a1)] [(.ref a1)])) rfl rfl (hb hby own_d15_1)
  refine Goes.step st_1 ?_
  show Goes pP eE bB _ (T_1.setTop (mkF mM 4 #[.val (.ref a1)] [(.ref x)]))
  refine Goes.ret X_1 hx hlk hret rfl (Or.inr (Or.inr (Or.inr (Or.inr ⟨rfl, rfl, rfl⟩)))) (hb hby own_d15_4) (by decide) (by decide) ?_
  exact ⟨rfl, N0, e_1⟩
set_option maxRecDepth 65536 in
set_option maxHeartbeats 40000000 in
theorem rmGt0 (l : Launch) (Z : State) (a0 : Array Value) (hw : ∀ d ∈ tables_1, d.before a0 Z = true) (a1 : Addr) (h0 : Heap) (n0 : Nat) (Z0 : n0 ≤ h0.size) (F0 : Fld Z h0 a1 "dev/callstitch/call/ResponseBody" "contentType" "Ljava/lang/String;" .null) :
    Con l Z (⟨"dev/callstitch/call/ResponseBody", "contentType", "()Ljava/lang/String;"⟩ : MethodName) prog_12_method_4_code 1 (some (.object "java/lang/String")) ({ frames := 0, cells := 0, slots := 0, locals := 0 } : Room) #[(.ref a1)] h0 (fun v h L => v = some .null ∧ Fr n0 L ∧ h = h0) := by
  refine Con.body (plainFor_of_name own_pn2) ?_
  intro pP eE sS mM bB mT cC s₁ hx hby hml hZ hown hnm hret hlk X0 e0
  have hown : sS.vm.findClass "dev/callstitch/call/ResponseBody" = some mM.cls := hown
  have hml : cC.maxLocals = 1 := hml
  have N0 := Fr.nil n0
  have ef : entryFrame mM #[(.ref a1)] 1 = mkF mM 0 #[.val (.ref a1)] [] := by first | (simp [entryFrame, mkF, argsToLocals, Value.category]; done) | rfl
  rw [ef]
  show Goes pP eE bB _ (s₁.setTop (mkF mM 0 #[.val (.ref a1)] []))
  refine Goes.step (fun _ kK => XS.aloadN X0.here hx rfl (hb hby own_d15_0) rfl rfl kK) ?_
  show Goes pP eE bB _ (s₁.setTop (mkF mM 1 #[.val (.ref a1)] [(.ref a1)]))
  obtain ⟨T_1, X_1, e_1, st_1⟩ := getF X0 hx hZ hown (host := "") (Or.inl (hw _ (List.mem_of_getElem? (i := 13) rfl))) Via.refl e0 F0 (g := (mkF mM 1 #[.val (.ref a1)] [(.ref a1)])) rfl rfl (hb hby own_d15_1)
  refine Goes.step st_1 ?_
  show Goes pP eE bB _ (T_1.setTop (mkF mM 4 #[.val (.ref a1)] [.null]))
  refine Goes.ret X_1 hx hlk hret rfl (Or.inr (Or.inr (Or.inr (Or.inr ⟨rfl, rfl, rfl⟩)))) (hb hby own_d15_4) (by decide) (by decide) ?_
  exact ⟨rfl, N0, e_1⟩
theorem own_ch (x : Int32) : ¬ ((255 : Int32) < nar .char ((x &&& (255 : Int32)).toUInt32.toUInt16.toUInt32.toInt32)) := by
  rw [i2c_mask]
  show ¬ ((255 : Int32) < (x &&& (255 : Int32)).toUInt32.toUInt16.toUInt32.toInt32)
  rw [i2c_mask]
  have hm : (x &&& (255 : Int32)).toInt = x.toInt % 2 ^ 8 := Jvm.Kit.i32_mask x 255 (k := 8) (by decide) (by decide)
  rw [Int32.lt_iff_toInt_lt, hm, show (255 : Int32).toInt = 255 from by decide]; omega
set_option maxRecDepth 65536 in
set_option maxHeartbeats 40000000 in
theorem rm0 (l : Launch) (Z : State) (a0 : Array Value) (hw : ∀ d ∈ tables_1, d.before a0 Z = true) (p1 p2 p3 p4 : Int32) (q5 : Int64) (cs : Int32) (h0 : Heap) (n0 : Nat) (Z0 : n0 ≤ h0.size) (Scs : Sta Z Z.heap "java/lang/String" "COMPACT_STRINGS" "Z" (.int cs)) (hcs : ¬ (cs = (0 : Int32))) (O0 : Old Z n0 h0) :
    Con l Z x code maxLocals ret room_1 #[(.int p1), (.int p2), (.int p3), (.int p4), (.long q5)] h0 (fun v h L => v = some (.int 1) ∧ Fr n0 L) := by
  refine Con.body (plainFor_of_name own_pn5) ?_
  intro pP eE sS mM bB mT cC s₁ hx hby hml hZ hown hnm hret hlk X0 e0
  have hown : sS.vm.findClass "dev/callstitch/call/ResponseBodyArrivesPinLaw" = some mM.cls := hown
  have hml : cC.maxLocals = 13 := hml
  have N0 := Fr.nil n0
  have ef : entryFrame mM #[(.int p1), (.int p2), (.int p3), (.int p4), (.long q5)] maxLocals = mkF mM 0 #[.val (.int p1), .val (.int p2), .val (.int p3), .val (.int p4), .val (.long q5), .second, .unset, .unset, .unset, .unset, .unset, .unset, .unset] [] := by first | (simp [entryFrame, mkF, argsToLocals, Value.category, maxLocals]; done) | rfl
  rw [ef]
  show Goes pP eE bB _ (s₁.setTop (mkF mM 0 #[.val (.int p1), .val (.int p2), .val (.int p3), .val (.int p4), .val (.long q5), .second, .unset, .unset, .unset, .unset, .unset, .unset, .unset] []))
  refine Goes.step (fun _ kK => XS.iloadN X0.here hx rfl (hb hby at_0) rfl kK) ?_
  show Goes pP eE bB _ (s₁.setTop (mkF mM 1 #[.val (.int p1), .val (.int p2), .val (.int p3), .val (.int p4), .val (.long q5), .second, .unset, .unset, .unset, .unset, .unset, .unset, .unset] [(.int p1)]))
  refine Goes.step (fun _ kK => XS.iconst X0.here hx rfl (hb hby at_1) kK) ?_
  show Goes pP eE bB _ (s₁.setTop (mkF mM 2 #[.val (.int p1), .val (.int p2), .val (.int p3), .val (.int p4), .val (.long q5), .second, .unset, .unset, .unset, .unset, .unset, .unset, .unset] [(.int (1 : Int32)), (.int p1)]))
  refine Goes.step (fun _ kK => XS.iand X0.here hx rfl (hb hby at_2) rfl kK) ?_
  show Goes pP eE bB _ (s₁.setTop (mkF mM 3 #[.val (.int p1), .val (.int p2), .val (.int p3), .val (.int p4), .val (.long q5), .second, .unset, .unset, .unset, .unset, .unset, .unset, .unset] [(.int (p1 &&& (1 : Int32)))]))
  by_cases hc_1 : (p1 &&& (1 : Int32)) = (0 : Int32)
  · refine Goes.step (fun _ kK => XS.ifYes X0.here hx rfl (pc0 := 3) (pc' := 10) rfl (hb hby at_3) rfl ((if0 _ _).trans (teq hc_1).1) (by decide) (by decide) kK) ?_
    show Goes pP eE bB _ (s₁.setTop (mkF mM 10 #[.val (.int p1), .val (.int p2), .val (.int p3), .val (.int p4), .val (.long q5), .second, .unset, .unset, .unset, .unset, .unset, .unset, .unset] []))
    refine Goes.step (fun _ kK => XS.iconst X0.here hx rfl (hb hby at_10) kK) ?_
    show Goes pP eE bB _ (s₁.setTop (mkF mM 11 #[.val (.int p1), .val (.int p2), .val (.int p3), .val (.int p4), .val (.long q5), .second, .unset, .unset, .unset, .unset, .unset, .unset, .unset] [(.int (0 : Int32))]))
    refine Goes.step (fun _ kK => XS.istore X0.here hx rfl (hb hby at_11) rfl (l' := #[.val (.int p1), .val (.int p2), .val (.int p3), .val (.int p4), .val (.long q5), .second, .val (.int (0 : Int32)), .unset, .unset, .unset, .unset, .unset, .unset]) rfl kK) ?_
    show Goes pP eE bB _ (s₁.setTop (mkF mM 13 #[.val (.int p1), .val (.int p2), .val (.int p3), .val (.int p4), .val (.long q5), .second, .val (.int (0 : Int32)), .unset, .unset, .unset, .unset, .unset, .unset] []))
    refine Goes.step (fun _ kK => XS.iloadN X0.here hx rfl (hb hby at_13) rfl kK) ?_
    show Goes pP eE bB _ (s₁.setTop (mkF mM 14 #[.val (.int p1), .val (.int p2), .val (.int p3), .val (.int p4), .val (.long q5), .second, .val (.int (0 : Int32)), .unset, .unset, .unset, .unset, .unset, .unset] [(.int p1)]))
    refine Goes.step (fun _ kK => XS.iconst X0.here hx rfl (hb hby at_14) kK) ?_
    show Goes pP eE bB _ (s₁.setTop (mkF mM 15 #[.val (.int p1), .val (.int p2), .val (.int p3), .val (.int p4), .val (.long q5), .second, .val (.int (0 : Int32)), .unset, .unset, .unset, .unset, .unset, .unset] [(.int (2 : Int32)), (.int p1)]))
    refine Goes.step (fun _ kK => XS.iand X0.here hx rfl (hb hby at_15) rfl kK) ?_
    show Goes pP eE bB _ (s₁.setTop (mkF mM 16 #[.val (.int p1), .val (.int p2), .val (.int p3), .val (.int p4), .val (.long q5), .second, .val (.int (0 : Int32)), .unset, .unset, .unset, .unset, .unset, .unset] [(.int (p1 &&& (2 : Int32)))]))
    by_cases hc_2 : (p1 &&& (2 : Int32)) = (0 : Int32)
    · refine Goes.step (fun _ kK => XS.ifYes X0.here hx rfl (pc0 := 16) (pc' := 23) rfl (hb hby at_16) rfl ((if0 _ _).trans (teq hc_2).1) (by decide) (by decide) kK) ?_
      show Goes pP eE bB _ (s₁.setTop (mkF mM 23 #[.val (.int p1), .val (.int p2), .val (.int p3), .val (.int p4), .val (.long q5), .second, .val (.int (0 : Int32)), .unset, .unset, .unset, .unset, .unset, .unset] []))
      refine Goes.step (fun _ kK => XS.iconst X0.here hx rfl (hb hby at_23) kK) ?_
      show Goes pP eE bB _ (s₁.setTop (mkF mM 24 #[.val (.int p1), .val (.int p2), .val (.int p3), .val (.int p4), .val (.long q5), .second, .val (.int (0 : Int32)), .unset, .unset, .unset, .unset, .unset, .unset] [(.int (0 : Int32))]))
      refine Goes.step (fun _ kK => XS.istore X0.here hx rfl (hb hby at_24) rfl (l' := #[.val (.int p1), .val (.int p2), .val (.int p3), .val (.int p4), .val (.long q5), .second, .val (.int (0 : Int32)), .val (.int (0 : Int32)), .unset, .unset, .unset, .unset, .unset]) rfl kK) ?_
      show Goes pP eE bB _ (s₁.setTop (mkF mM 26 #[.val (.int p1), .val (.int p2), .val (.int p3), .val (.int p4), .val (.long q5), .second, .val (.int (0 : Int32)), .val (.int (0 : Int32)), .unset, .unset, .unset, .unset, .unset] []))
      refine Goes.step (fun _ kK => XS.aconstNull X0.here hx rfl (hb hby at_26) kK) ?_
      show Goes pP eE bB _ (s₁.setTop (mkF mM 27 #[.val (.int p1), .val (.int p2), .val (.int p3), .val (.int p4), .val (.long q5), .second, .val (.int (0 : Int32)), .val (.int (0 : Int32)), .unset, .unset, .unset, .unset, .unset] [.null]))
      refine Goes.step (fun _ kK => XS.astore X0.here hx rfl (hb hby at_27) rfl rfl (l' := #[.val (.int p1), .val (.int p2), .val (.int p3), .val (.int p4), .val (.long q5), .second, .val (.int (0 : Int32)), .val (.int (0 : Int32)), .val .null, .unset, .unset, .unset, .unset]) rfl kK) ?_
      show Goes pP eE bB _ (s₁.setTop (mkF mM 29 #[.val (.int p1), .val (.int p2), .val (.int p3), .val (.int p4), .val (.long q5), .second, .val (.int (0 : Int32)), .val (.int (0 : Int32)), .val .null, .unset, .unset, .unset, .unset] []))
      refine Goes.step (fun _ kK => XS.iload X0.here hx rfl (hb hby at_29) rfl kK) ?_
      show Goes pP eE bB _ (s₁.setTop (mkF mM 31 #[.val (.int p1), .val (.int p2), .val (.int p3), .val (.int p4), .val (.long q5), .second, .val (.int (0 : Int32)), .val (.int (0 : Int32)), .val .null, .unset, .unset, .unset, .unset] [(.int (0 : Int32))]))
      refine Goes.step (fun _ kK => XS.ifYes X0.here hx rfl (pc0 := 31) (pc' := 60) rfl (hb hby at_31) rfl ((if0 _ _).trans (teq (by decide)).1) (by decide) (by decide) kK) ?_
      show Goes pP eE bB _ (s₁.setTop (mkF mM 60 #[.val (.int p1), .val (.int p2), .val (.int p3), .val (.int p4), .val (.long q5), .second, .val (.int (0 : Int32)), .val (.int (0 : Int32)), .val .null, .unset, .unset, .unset, .unset] []))
      refine Goes.step (fun _ kK => XS.iload X0.here hx rfl (hb hby at_60) rfl kK) ?_
      show Goes pP eE bB _ (s₁.setTop (mkF mM 62 #[.val (.int p1), .val (.int p2), .val (.int p3), .val (.int p4), .val (.long q5), .second, .val (.int (0 : Int32)), .val (.int (0 : Int32)), .val .null, .unset, .unset, .unset, .unset] [(.int (0 : Int32))]))
      refine Goes.step (fun _ kK => XS.ifYes X0.here hx rfl (pc0 := 62) (pc' := 115) rfl (hb hby at_62) rfl ((if0 _ _).trans (teq (by decide)).1) (by decide) (by decide) kK) ?_
      show Goes pP eE bB _ (s₁.setTop (mkF mM 115 #[.val (.int p1), .val (.int p2), .val (.int p3), .val (.int p4), .val (.long q5), .second, .val (.int (0 : Int32)), .val (.int (0 : Int32)), .val .null, .unset, .unset, .unset, .unset] []))
      refine Goes.step (fun _ kK => XS.iloadN X0.here hx rfl (hb hby at_115) rfl kK) ?_
      show Goes pP eE bB _ (s₁.setTop (mkF mM 116 #[.val (.int p1), .val (.int p2), .val (.int p3), .val (.int p4), .val (.long q5), .second, .val (.int (0 : Int32)), .val (.int (0 : Int32)), .val .null, .unset, .unset, .unset, .unset] [(.int p2)]))
      refine Goes.step (fun _ kK => XS.iconst X0.here hx rfl (hb hby at_116) kK) ?_
      show Goes pP eE bB _ (s₁.setTop (mkF mM 117 #[.val (.int p1), .val (.int p2), .val (.int p3), .val (.int p4), .val (.long q5), .second, .val (.int (0 : Int32)), .val (.int (0 : Int32)), .val .null, .unset, .unset, .unset, .unset] [(.int (3 : Int32)), (.int p2)]))
      refine Goes.step (fun _ kK => XS.iand X0.here hx rfl (hb hby at_117) rfl kK) ?_
      show Goes pP eE bB _ (s₁.setTop (mkF mM 118 #[.val (.int p1), .val (.int p2), .val (.int p3), .val (.int p4), .val (.long q5), .second, .val (.int (0 : Int32)), .val (.int (0 : Int32)), .val .null, .unset, .unset, .unset, .unset] [(.int (p2 &&& (3 : Int32)))]))
      refine Goes.step (fun _ kK => XS.istore X0.here hx rfl (hb hby at_118) rfl (l' := #[.val (.int p1), .val (.int p2), .val (.int p3), .val (.int p4), .val (.long q5), .second, .val (.int (0 : Int32)), .val (.int (0 : Int32)), .val .null, .val (.int (p2 &&& (3 : Int32))), .unset, .unset, .unset]) rfl kK) ?_
      show Goes pP eE bB _ (s₁.setTop (mkF mM 120 #[.val (.int p1), .val (.int p2), .val (.int p3), .val (.int p4), .val (.long q5), .second, .val (.int (0 : Int32)), .val (.int (0 : Int32)), .val .null, .val (.int (p2 &&& (3 : Int32))), .unset, .unset, .unset] []))
      obtain ⟨zn, h_zn⟩ : ∃ z : Int32, z = (p2 &&& (3 : Int32)) := ⟨_, rfl⟩
      rw [← h_zn]
      have hm2 : zn.toInt = p2.toInt % 2 ^ 2 := by rw [h_zn]; exact Jvm.Kit.i32_mask p2 3 (k := 2) (by decide) (by decide)
      obtain ⟨n, hn⟩ : ∃ n : Nat, n = zn.toInt.toNat := ⟨_, rfl⟩
      have hzn : zn.toInt = (n : Int) := by omega
      have hn3 : n ≤ 3 := by omega
      show Goes pP eE bB _ (s₁.setTop (mkF mM 120 #[.val (.int p1), .val (.int p2), .val (.int p3), .val (.int p4), .val (.long q5), .second, .val (.int (0 : Int32)), .val (.int (0 : Int32)), .val .null, .val (.int zn), .unset, .unset, .unset] []))
      refine Goes.step (fun _ kK => XS.iload X0.here hx rfl (hb hby at_120) rfl kK) ?_
      show Goes pP eE bB _ (s₁.setTop (mkF mM 122 #[.val (.int p1), .val (.int p2), .val (.int p3), .val (.int p4), .val (.long q5), .second, .val (.int (0 : Int32)), .val (.int (0 : Int32)), .val .null, .val (.int zn), .unset, .unset, .unset] [(.int zn)]))
      obtain ⟨T_3, h_3, k_3, X_3, e_3, E_3, A_3, M_3, st_3⟩ := newPE X0 hx hZ (hw _ (List.mem_of_getElem? (i := 0) rfl)) e0 (g := (mkF mM 122 #[.val (.int p1), .val (.int p2), .val (.int p3), .val (.int p4), .val (.long q5), .second, .val (.int (0 : Int32)), .val (.int (0 : Int32)), .val .null, .val (.int zn), .unset, .unset, .unset] [(.int zn)])) rfl (hb hby at_122) rfl (by rw [Int32.lt_iff_toInt_lt, show (0 : Int32).toInt = 0 from by decide]; omega) (cap := 3) (by simp only [Int32.toNatClampNeg]; omega) (by decide) (by decide) (by decide) (ad := "[B") rfl
      obtain ⟨b_3, g_3⟩ : ∃ z, z = h0.size := ⟨_, rfl⟩
      rw [← g_3] at A_3 M_3 st_3
      have u_4 : n0 ≤ b_3 := Nat.le_trans Z0 (Nat.le_of_eq g_3.symm)
      have u_5 : Afn Z h_3 b_3 .byte n (fun _ => (.int (0 : Int32))) := Afn.new (n := n) A_3 hzn
      refine Goes.step st_3 ?_
      show Goes pP eE bB _ (T_3.setTop (mkF mM 124 #[.val (.int p1), .val (.int p2), .val (.int p3), .val (.int p4), .val (.long q5), .second, .val (.int (0 : Int32)), .val (.int (0 : Int32)), .val .null, .val (.int zn), .unset, .unset, .unset] [(.ref b_3)]))
      refine Goes.step (fun _ kK => XS.astore X_3.here hx rfl (hb hby at_124) rfl rfl (l' := #[.val (.int p1), .val (.int p2), .val (.int p3), .val (.int p4), .val (.long q5), .second, .val (.int (0 : Int32)), .val (.int (0 : Int32)), .val .null, .val (.int zn), .val (.ref b_3), .unset, .unset]) rfl kK) ?_
      show Goes pP eE bB _ (T_3.setTop (mkF mM 126 #[.val (.int p1), .val (.int p2), .val (.int p3), .val (.int p4), .val (.long q5), .second, .val (.int (0 : Int32)), .val (.int (0 : Int32)), .val .null, .val (.int zn), .val (.ref b_3), .unset, .unset] []))
      refine Goes.step (fun _ kK => XS.iload X_3.here hx rfl (hb hby at_126) rfl kK) ?_
      show Goes pP eE bB _ (T_3.setTop (mkF mM 128 #[.val (.int p1), .val (.int p2), .val (.int p3), .val (.int p4), .val (.long q5), .second, .val (.int (0 : Int32)), .val (.int (0 : Int32)), .val .null, .val (.int zn), .val (.ref b_3), .unset, .unset] [(.int zn)]))
      by_cases hc_6 : (0 : Int32) < zn
      · refine Goes.step (fun _ kK => XS.ifNo X_3.here hx rfl (hb hby at_128) rfl ((if0 _ _).trans (tlt hc_6).2.2.2) kK) ?_
        show Goes pP eE bB _ (T_3.setTop (mkF mM 131 #[.val (.int p1), .val (.int p2), .val (.int p3), .val (.int p4), .val (.long q5), .second, .val (.int (0 : Int32)), .val (.int (0 : Int32)), .val .null, .val (.int zn), .val (.ref b_3), .unset, .unset] []))
        refine Goes.step (fun _ kK => XS.aload X_3.here hx rfl (hb hby at_131) rfl rfl kK) ?_
        show Goes pP eE bB _ (T_3.setTop (mkF mM 133 #[.val (.int p1), .val (.int p2), .val (.int p3), .val (.int p4), .val (.long q5), .second, .val (.int (0 : Int32)), .val (.int (0 : Int32)), .val .null, .val (.int zn), .val (.ref b_3), .unset, .unset] [(.ref b_3)]))
        refine Goes.step (fun _ kK => XS.iconst X_3.here hx rfl (hb hby at_133) kK) ?_
        show Goes pP eE bB _ (T_3.setTop (mkF mM 134 #[.val (.int p1), .val (.int p2), .val (.int p3), .val (.int p4), .val (.long q5), .second, .val (.int (0 : Int32)), .val (.int (0 : Int32)), .val .null, .val (.int zn), .val (.ref b_3), .unset, .unset] [(.int (0 : Int32)), (.ref b_3)]))
        refine Goes.step (fun _ kK => XS.iloadN X_3.here hx rfl (hb hby at_134) rfl kK) ?_
        show Goes pP eE bB _ (T_3.setTop (mkF mM 135 #[.val (.int p1), .val (.int p2), .val (.int p3), .val (.int p4), .val (.long q5), .second, .val (.int (0 : Int32)), .val (.int (0 : Int32)), .val .null, .val (.int zn), .val (.ref b_3), .unset, .unset] [(.int p3), (.int (0 : Int32)), (.ref b_3)]))
        refine Goes.step (fun _ kK => XS.i2b X_3.here hx rfl (hb hby at_135) rfl kK) ?_
        show Goes pP eE bB _ (T_3.setTop (mkF mM 136 #[.val (.int p1), .val (.int p2), .val (.int p3), .val (.int p4), .val (.long q5), .second, .val (.int (0 : Int32)), .val (.int (0 : Int32)), .val .null, .val (.int zn), .val (.ref b_3), .unset, .unset] [(.int (p3.toInt8.toInt32)), (.int (0 : Int32)), (.ref b_3)]))
        refine Goes.bastore X_3 hx hZ e_3 u_5 (i := 0) (by decide) (by have q := hc_6; rw [Int32.lt_iff_toInt_lt, hzn, show (0 : Int32).toInt = 0 from by decide] at q; omega) (g := (mkF mM 136 #[.val (.int p1), .val (.int p2), .val (.int p3), .val (.int p4), .val (.long q5), .second, .val (.int (0 : Int32)), .val (.int (0 : Int32)), .val .null, .val (.int zn), .val (.ref b_3), .unset, .unset] [(.int (p3.toInt8.toInt32)), (.int (0 : Int32)), (.ref b_3)])) rfl rfl (hb hby at_136) ?_
        intro T_7 h_7 X_7 e_7 W_7 A_7
        have N_7 := Fr.snoc X_7 N0 u_4
        show Goes pP eE bB _ (T_7.setTop (mkF mM 137 #[.val (.int p1), .val (.int p2), .val (.int p3), .val (.int p4), .val (.long q5), .second, .val (.int (0 : Int32)), .val (.int (0 : Int32)), .val .null, .val (.int zn), .val (.ref b_3), .unset, .unset] []))
        obtain ⟨T_8, h_8, X_8, e_8, E_8, A_8, D_8, -, st_8⟩ := newO X_7 hx hZ hown (hw _ (List.mem_of_getElem? (i := 1) rfl)) (hw _ (List.mem_of_getElem? (i := 2) rfl)) (hw _ (List.mem_of_getElem? (i := 3) rfl)) e_7 (g := (mkF mM 137 #[.val (.int p1), .val (.int p2), .val (.int p3), .val (.int p4), .val (.long q5), .second, .val (.int (0 : Int32)), .val (.int (0 : Int32)), .val .null, .val (.int zn), .val (.ref b_3), .unset, .unset] [])) rfl (hb hby at_137) (by decide) (by decide)
        obtain ⟨b_8, g_8⟩ : ∃ z, z = h_7.size := ⟨_, rfl⟩
        rw [← g_8] at A_8 D_8 st_8
        have u_9 : b_3 < b_8 := Nat.lt_of_lt_of_le (A_7).lt (Nat.le_of_eq g_8.symm)
        have u_10 := Nat.le_trans Z0 E_3.1
        have u_11 := Nat.le_trans u_10 (Keep.of_wr W_7).1
        have u_12 : n0 ≤ b_8 := Nat.le_trans u_11 (Nat.le_of_eq g_8.symm)
        have u_13 : Fld Z h_8 b_8 "dev/callstitch/call/ResponseBody" "contentType" "Ljava/lang/String;" .null := D_8 (Or.inr (hw _ (List.mem_of_getElem? (i := 14) rfl))) (ty := (.object "java/lang/String")) (by decide)
        have u_14 : Fld Z h_8 b_8 "dev/callstitch/call/ResponseBody" "contentLength" "J" (.long (0 : Int64)) := D_8 (Or.inr (hw _ (List.mem_of_getElem? (i := 16) rfl))) (ty := .long) (by decide)
        have u_15 : Fld Z h_8 b_8 "dev/callstitch/call/ResponseBody" "content" "[B" .null := D_8 (Or.inr (hw _ (List.mem_of_getElem? (i := 18) rfl))) (ty := (.array .byte)) (by decide)
        have u_16 : Fld Z h_8 b_8 "dev/callstitch/call/ResponseBody" "arriving" "Ldev/callstitch/call/ResponseBody$Arriving;" .null := D_8 (Or.inr (hw _ (List.mem_of_getElem? (i := 20) rfl))) (ty := (.object "dev/callstitch/call/ResponseBody$Arriving")) (by decide)
        refine Goes.step st_8 ?_
        show Goes pP eE bB _ (T_8.setTop (mkF mM 140 #[.val (.int p1), .val (.int p2), .val (.int p3), .val (.int p4), .val (.long q5), .second, .val (.int (0 : Int32)), .val (.int (0 : Int32)), .val .null, .val (.int zn), .val (.ref b_3), .unset, .unset] [(.ref b_8)]))
        refine Goes.step (fun _ kK => XS.dup X_8.here hx rfl (hb hby at_140) rfl rfl kK) ?_
        show Goes pP eE bB _ (T_8.setTop (mkF mM 141 #[.val (.int p1), .val (.int p2), .val (.int p3), .val (.int p4), .val (.long q5), .second, .val (.int (0 : Int32)), .val (.int (0 : Int32)), .val .null, .val (.int zn), .val (.ref b_3), .unset, .unset] [(.ref b_8), (.ref b_8)]))
        refine Goes.step (fun _ kK => XS.aload X_8.here hx rfl (hb hby at_141) rfl rfl kK) ?_
        show Goes pP eE bB _ (T_8.setTop (mkF mM 143 #[.val (.int p1), .val (.int p2), .val (.int p3), .val (.int p4), .val (.long q5), .second, .val (.int (0 : Int32)), .val (.int (0 : Int32)), .val .null, .val (.int zn), .val (.ref b_3), .unset, .unset] [.null, (.ref b_8), (.ref b_8)]))
        refine Goes.step (fun _ kK => XS.aload X_8.here hx rfl (hb hby at_143) rfl rfl kK) ?_
        show Goes pP eE bB _ (T_8.setTop (mkF mM 145 #[.val (.int p1), .val (.int p2), .val (.int p3), .val (.int p4), .val (.long q5), .second, .val (.int (0 : Int32)), .val (.int (0 : Int32)), .val .null, .val (.int zn), .val (.ref b_3), .unset, .unset] [(.ref b_3), .null, (.ref b_8), (.ref b_8)]))
        have u_17 := Nat.le_trans u_11 E_8.1
        have u_18 := A_7.ext E_8
        refine Goes.callI X_8 hx hZ rfl hown (hw _ (List.mem_of_getElem? (i := 4) rfl)) (hw _ (List.mem_of_getElem? (i := 5) rfl)) (hw _ (List.mem_of_getElem? (i := 6) rfl)) (hw _ (List.mem_of_getElem? (i := 3) rfl)) (by decide) e_8 (rmD1 l Z a0 hw b_8 b_3 zn h_8 n0 u_17 A_8 u_12 u_13 u_14 u_15 u_16 n hzn _ u_18) (W := 1) (by decide) (by decide) (by decide) (by decide) (g := (mkF mM 145 #[.val (.int p1), .val (.int p2), .val (.int p3), .val (.int p4), .val (.long q5), .second, .val (.int (0 : Int32)), .val (.int (0 : Int32)), .val .null, .val (.int zn), .val (.ref b_3), .unset, .unset] [(.ref b_3), .null, (.ref b_8), (.ref b_8)])) rfl (by rw [hml]; rfl) (rest := [(.ref b_8)]) own_pd7 rfl rfl (by show 2 * 0 + _ ≤ _; exact Nat.le_of_eq rfl) (hb hby at_145) ?_
        intro v_19 T_19 L_19 X_19 hQ_19
        generalize e_19 : T_19.heap = h_19 at hQ_19
        obtain ⟨rfl, N_19q, K_19, F_19_contentType, F_19_contentLength, F_19_arriving⟩ := hQ_19
        have N_19 := Fr.app N_7 N_19q
        show Goes pP eE bB _ (T_19.setTop (mkF mM 148 #[.val (.int p1), .val (.int p2), .val (.int p3), .val (.int p4), .val (.long q5), .second, .val (.int (0 : Int32)), .val (.int (0 : Int32)), .val .null, .val (.int zn), .val (.ref b_3), .unset, .unset] [(.ref b_8)]))
        refine Goes.step (fun _ kK => XS.astore X_19.here hx rfl (hb hby at_148) rfl rfl (l' := #[.val (.int p1), .val (.int p2), .val (.int p3), .val (.int p4), .val (.long q5), .second, .val (.int (0 : Int32)), .val (.int (0 : Int32)), .val .null, .val (.int zn), .val (.ref b_3), .val (.ref b_8), .unset]) rfl kK) ?_
        show Goes pP eE bB _ (T_19.setTop (mkF mM 150 #[.val (.int p1), .val (.int p2), .val (.int p3), .val (.int p4), .val (.long q5), .second, .val (.int (0 : Int32)), .val (.int (0 : Int32)), .val .null, .val (.int zn), .val (.ref b_3), .val (.ref b_8), .unset] []))
        refine Goes.step (fun _ kK => XS.aload X_19.here hx rfl (hb hby at_150) rfl rfl kK) ?_
        show Goes pP eE bB _ (T_19.setTop (mkF mM 152 #[.val (.int p1), .val (.int p2), .val (.int p3), .val (.int p4), .val (.long q5), .second, .val (.int (0 : Int32)), .val (.int (0 : Int32)), .val .null, .val (.int zn), .val (.ref b_3), .val (.ref b_8), .unset] [(.ref b_8)]))
        have u_20 := Nat.le_trans u_17 K_19.1
        have u_22 := A_8.keep K_19
        refine Goes.callV X_19 hx hZ hown (hw _ (List.mem_of_getElem? (i := 21) rfl)) (hw _ (List.mem_of_getElem? (i := 22) rfl)) (notFace_of_selects (args := #[]) (mvT hZ (hw _ (List.mem_of_getElem? (i := 24) rfl)))) (hw _ (List.mem_of_getElem? (i := 24) rfl)) (hw _ (List.mem_of_getElem? (i := 23) rfl)) (hw _ (List.mem_of_getElem? (i := 25) rfl)) (hw _ (List.mem_of_getElem? (i := 3) rfl)) (by decide) e_19 u_22 (rmG0 l Z a0 hw b_8 h_19 n0 u_20 F_19_arriving) (W := 0) (by decide) (by decide) (by decide) (by decide) (g := (mkF mM 152 #[.val (.int p1), .val (.int p2), .val (.int p3), .val (.int p4), .val (.long q5), .second, .val (.int (0 : Int32)), .val (.int (0 : Int32)), .val .null, .val (.int zn), .val (.ref b_3), .val (.ref b_8), .unset] [(.ref b_8)])) rfl (by rw [hml]; rfl) (rest := []) own_pd8 rfl rfl (by show 2 * 0 + _ ≤ _; exact Nat.le_of_eq rfl) (hb hby at_152) ?_
        intro v_21 T_21 L_21 X_21 hQ_21
        obtain ⟨rfl, N_21q, e_21⟩ := hQ_21
        have N_21 := Fr.app N_19 N_21q
        show Goes pP eE bB _ (T_21.setTop (mkF mM 155 #[.val (.int p1), .val (.int p2), .val (.int p3), .val (.int p4), .val (.long q5), .second, .val (.int (0 : Int32)), .val (.int (0 : Int32)), .val .null, .val (.int zn), .val (.ref b_3), .val (.ref b_8), .unset] [(.int (0 : Int32))]))
        refine Goes.step (fun _ kK => XS.istore X_21.here hx rfl (hb hby at_155) rfl (l' := #[.val (.int p1), .val (.int p2), .val (.int p3), .val (.int p4), .val (.long q5), .second, .val (.int (0 : Int32)), .val (.int (0 : Int32)), .val .null, .val (.int zn), .val (.ref b_3), .val (.ref b_8), .val (.int (0 : Int32))]) rfl kK) ?_
        show Goes pP eE bB _ (T_21.setTop (mkF mM 157 #[.val (.int p1), .val (.int p2), .val (.int p3), .val (.int p4), .val (.long q5), .second, .val (.int (0 : Int32)), .val (.int (0 : Int32)), .val .null, .val (.int zn), .val (.ref b_3), .val (.ref b_8), .val (.int (0 : Int32))] []))
        refine Goes.step (fun _ kK => XS.aload X_21.here hx rfl (hb hby at_157) rfl rfl kK) ?_
        show Goes pP eE bB _ (T_21.setTop (mkF mM 159 #[.val (.int p1), .val (.int p2), .val (.int p3), .val (.int p4), .val (.long q5), .second, .val (.int (0 : Int32)), .val (.int (0 : Int32)), .val .null, .val (.int zn), .val (.ref b_3), .val (.ref b_8), .val (.int (0 : Int32))] [(.ref b_8)]))
        refine Goes.callV X_21 hx hZ hown (hw _ (List.mem_of_getElem? (i := 26) rfl)) (hw _ (List.mem_of_getElem? (i := 27) rfl)) (notFace_of_selects (args := #[]) (mvT hZ (hw _ (List.mem_of_getElem? (i := 29) rfl)))) (hw _ (List.mem_of_getElem? (i := 29) rfl)) (hw _ (List.mem_of_getElem? (i := 28) rfl)) (hw _ (List.mem_of_getElem? (i := 30) rfl)) (hw _ (List.mem_of_getElem? (i := 3) rfl)) (by decide) e_21 u_22 (rmGc l Z a0 hw b_8 h_19 n0 u_20 F_19_arriving) (W := 0) (by decide) (by decide) (by decide) (by decide) (g := (mkF mM 159 #[.val (.int p1), .val (.int p2), .val (.int p3), .val (.int p4), .val (.long q5), .second, .val (.int (0 : Int32)), .val (.int (0 : Int32)), .val .null, .val (.int zn), .val (.ref b_3), .val (.ref b_8), .val (.int (0 : Int32))] [(.ref b_8)])) rfl (by rw [hml]; rfl) (rest := []) own_pd5 rfl rfl (by show 2 * 0 + _ ≤ _; exact Nat.le_of_eq rfl) (hb hby at_159) ?_
        intro v_23 T_23 L_23 X_23 hQ_23
        obtain ⟨rfl, N_23q, e_23⟩ := hQ_23
        have N_23 := Fr.app N_21 N_23q
        show Goes pP eE bB _ (T_23.setTop (mkF mM 162 #[.val (.int p1), .val (.int p2), .val (.int p3), .val (.int p4), .val (.long q5), .second, .val (.int (0 : Int32)), .val (.int (0 : Int32)), .val .null, .val (.int zn), .val (.ref b_3), .val (.ref b_8), .val (.int (0 : Int32))] []))
        refine Goes.step (fun _ kK => XS.iload X_23.here hx rfl (hb hby at_162) rfl kK) ?_
        show Goes pP eE bB _ (T_23.setTop (mkF mM 164 #[.val (.int p1), .val (.int p2), .val (.int p3), .val (.int p4), .val (.long q5), .second, .val (.int (0 : Int32)), .val (.int (0 : Int32)), .val .null, .val (.int zn), .val (.ref b_3), .val (.ref b_8), .val (.int (0 : Int32))] [(.int (0 : Int32))]))
        refine Goes.step (fun _ kK => XS.ifNo X_23.here hx rfl (hb hby at_164) rfl ((if0 _ _).trans (teq (by decide)).2) kK) ?_
        show Goes pP eE bB _ (T_23.setTop (mkF mM 167 #[.val (.int p1), .val (.int p2), .val (.int p3), .val (.int p4), .val (.long q5), .second, .val (.int (0 : Int32)), .val (.int (0 : Int32)), .val .null, .val (.int zn), .val (.ref b_3), .val (.ref b_8), .val (.int (0 : Int32))] []))
        refine Goes.step (fun _ kK => XS.aload X_23.here hx rfl (hb hby at_167) rfl rfl kK) ?_
        show Goes pP eE bB _ (T_23.setTop (mkF mM 169 #[.val (.int p1), .val (.int p2), .val (.int p3), .val (.int p4), .val (.long q5), .second, .val (.int (0 : Int32)), .val (.int (0 : Int32)), .val .null, .val (.int zn), .val (.ref b_3), .val (.ref b_8), .val (.int (0 : Int32))] [(.ref b_8)]))
        refine Goes.callV X_23 hx hZ hown (hw _ (List.mem_of_getElem? (i := 21) rfl)) (hw _ (List.mem_of_getElem? (i := 22) rfl)) (notFace_of_selects (args := #[]) (mvT hZ (hw _ (List.mem_of_getElem? (i := 24) rfl)))) (hw _ (List.mem_of_getElem? (i := 24) rfl)) (hw _ (List.mem_of_getElem? (i := 23) rfl)) (hw _ (List.mem_of_getElem? (i := 25) rfl)) (hw _ (List.mem_of_getElem? (i := 3) rfl)) (by decide) e_23 u_22 (rmG0 l Z a0 hw b_8 h_19 n0 u_20 F_19_arriving) (W := 0) (by decide) (by decide) (by decide) (by decide) (g := (mkF mM 169 #[.val (.int p1), .val (.int p2), .val (.int p3), .val (.int p4), .val (.long q5), .second, .val (.int (0 : Int32)), .val (.int (0 : Int32)), .val .null, .val (.int zn), .val (.ref b_3), .val (.ref b_8), .val (.int (0 : Int32))] [(.ref b_8)])) rfl (by rw [hml]; rfl) (rest := []) own_pd8 rfl rfl (by show 2 * 0 + _ ≤ _; exact Nat.le_of_eq rfl) (hb hby at_169) ?_
        intro v_24 T_24 L_24 X_24 hQ_24
        obtain ⟨rfl, N_24q, e_24⟩ := hQ_24
        have N_24 := Fr.app N_23 N_24q
        show Goes pP eE bB _ (T_24.setTop (mkF mM 172 #[.val (.int p1), .val (.int p2), .val (.int p3), .val (.int p4), .val (.long q5), .second, .val (.int (0 : Int32)), .val (.int (0 : Int32)), .val .null, .val (.int zn), .val (.ref b_3), .val (.ref b_8), .val (.int (0 : Int32))] [(.int (0 : Int32))]))
        refine Goes.step (fun _ kK => XS.ifNo X_24.here hx rfl (hb hby at_172) rfl ((if0 _ _).trans (teq (by decide)).2) kK) ?_
        show Goes pP eE bB _ (T_24.setTop (mkF mM 175 #[.val (.int p1), .val (.int p2), .val (.int p3), .val (.int p4), .val (.long q5), .second, .val (.int (0 : Int32)), .val (.int (0 : Int32)), .val .null, .val (.int zn), .val (.ref b_3), .val (.ref b_8), .val (.int (0 : Int32))] []))
        refine Goes.step (fun _ kK => XS.aload X_24.here hx rfl (hb hby at_175) rfl rfl kK) ?_
        show Goes pP eE bB _ (T_24.setTop (mkF mM 177 #[.val (.int p1), .val (.int p2), .val (.int p3), .val (.int p4), .val (.long q5), .second, .val (.int (0 : Int32)), .val (.int (0 : Int32)), .val .null, .val (.int zn), .val (.ref b_3), .val (.ref b_8), .val (.int (0 : Int32))] [(.ref b_8)]))
        refine Goes.callV X_24 hx hZ hown (hw _ (List.mem_of_getElem? (i := 31) rfl)) (hw _ (List.mem_of_getElem? (i := 32) rfl)) (notFace_of_selects (args := #[]) (mvT hZ (hw _ (List.mem_of_getElem? (i := 34) rfl)))) (hw _ (List.mem_of_getElem? (i := 34) rfl)) (hw _ (List.mem_of_getElem? (i := 33) rfl)) (hw _ (List.mem_of_getElem? (i := 35) rfl)) (hw _ (List.mem_of_getElem? (i := 3) rfl)) (by decide) e_24 u_22 (rmGl l Z a0 hw b_8 (zn.toInt64) h_19 n0 u_20 F_19_contentLength) (W := 0) (by decide) (by decide) (by decide) (by decide) (g := (mkF mM 177 #[.val (.int p1), .val (.int p2), .val (.int p3), .val (.int p4), .val (.long q5), .second, .val (.int (0 : Int32)), .val (.int (0 : Int32)), .val .null, .val (.int zn), .val (.ref b_3), .val (.ref b_8), .val (.int (0 : Int32))] [(.ref b_8)])) rfl (by rw [hml]; rfl) (rest := []) own_pd9 rfl rfl (by show 2 * 0 + _ ≤ _; exact Nat.le_of_eq rfl) (hb hby at_177) ?_
        intro v_25 T_25 L_25 X_25 hQ_25
        obtain ⟨rfl, N_25q, e_25⟩ := hQ_25
        have N_25 := Fr.app N_24 N_25q
        show Goes pP eE bB _ (T_25.setTop (mkF mM 180 #[.val (.int p1), .val (.int p2), .val (.int p3), .val (.int p4), .val (.long q5), .second, .val (.int (0 : Int32)), .val (.int (0 : Int32)), .val .null, .val (.int zn), .val (.ref b_3), .val (.ref b_8), .val (.int (0 : Int32))] [(.long (zn.toInt64))]))
        refine Goes.step (fun _ kK => XS.iload X_25.here hx rfl (hb hby at_180) rfl kK) ?_
        show Goes pP eE bB _ (T_25.setTop (mkF mM 182 #[.val (.int p1), .val (.int p2), .val (.int p3), .val (.int p4), .val (.long q5), .second, .val (.int (0 : Int32)), .val (.int (0 : Int32)), .val .null, .val (.int zn), .val (.ref b_3), .val (.ref b_8), .val (.int (0 : Int32))] [(.int zn), (.long (zn.toInt64))]))
        refine Goes.step (fun _ kK => XS.i2l X_25.here hx rfl (hb hby at_182) rfl kK) ?_
        show Goes pP eE bB _ (T_25.setTop (mkF mM 183 #[.val (.int p1), .val (.int p2), .val (.int p3), .val (.int p4), .val (.long q5), .second, .val (.int (0 : Int32)), .val (.int (0 : Int32)), .val .null, .val (.int zn), .val (.ref b_3), .val (.ref b_8), .val (.int (0 : Int32))] [(.long (zn.toInt64)), (.long (zn.toInt64))]))
        refine Goes.step (fun _ kK => XS.lcmp X_25.here hx rfl (hb hby at_183) rfl kK) ?_
        show Goes pP eE bB _ (T_25.setTop (mkF mM 184 #[.val (.int p1), .val (.int p2), .val (.int p3), .val (.int p4), .val (.long q5), .second, .val (.int (0 : Int32)), .val (.int (0 : Int32)), .val .null, .val (.int zn), .val (.ref b_3), .val (.ref b_8), .val (.int (0 : Int32))] [(.int (lcmpW (zn.toInt64) (zn.toInt64)))]))
        have hb_26 : (zn.toInt64) = (zn.toInt64) := rfl
        refine Goes.step (fun _ kK => XS.ifNo X_25.here hx rfl (hb hby at_184) rfl ((if0 _ _).trans (teq (jeq.mpr hb_26)).2) kK) ?_
        show Goes pP eE bB _ (T_25.setTop (mkF mM 187 #[.val (.int p1), .val (.int p2), .val (.int p3), .val (.int p4), .val (.long q5), .second, .val (.int (0 : Int32)), .val (.int (0 : Int32)), .val .null, .val (.int zn), .val (.ref b_3), .val (.ref b_8), .val (.int (0 : Int32))] []))
        refine Goes.step (fun _ kK => XS.iconst X_25.here hx rfl (hb hby at_187) kK) ?_
        show Goes pP eE bB _ (T_25.setTop (mkF mM 188 #[.val (.int p1), .val (.int p2), .val (.int p3), .val (.int p4), .val (.long q5), .second, .val (.int (0 : Int32)), .val (.int (0 : Int32)), .val .null, .val (.int zn), .val (.ref b_3), .val (.ref b_8), .val (.int (0 : Int32))] [(.int (1 : Int32))]))
        refine Goes.step (fun _ kK => XS.goto X_25.here hx rfl (pc0 := 188) (pc' := 192) rfl (hb hby at_188) (by decide) (by decide) kK) ?_
        show Goes pP eE bB _ (T_25.setTop (mkF mM 192 #[.val (.int p1), .val (.int p2), .val (.int p3), .val (.int p4), .val (.long q5), .second, .val (.int (0 : Int32)), .val (.int (0 : Int32)), .val .null, .val (.int zn), .val (.ref b_3), .val (.ref b_8), .val (.int (0 : Int32))] [(.int (1 : Int32))]))
        refine Goes.retN X_25 hx hlk (t := .boolean) hret (by simp) (hb hby at_192) (by decide) (by decide) ?_
        exact ⟨rfl, N_25⟩
      · refine Goes.step (fun _ kK => XS.ifYes X_3.here hx rfl (pc0 := 128) (pc' := 137) rfl (hb hby at_128) rfl ((if0 _ _).trans (flt hc_6).2.2.2) (by decide) (by decide) kK) ?_
        show Goes pP eE bB _ (T_3.setTop (mkF mM 137 #[.val (.int p1), .val (.int p2), .val (.int p3), .val (.int p4), .val (.long q5), .second, .val (.int (0 : Int32)), .val (.int (0 : Int32)), .val .null, .val (.int zn), .val (.ref b_3), .unset, .unset] []))
        obtain ⟨T_27, h_27, X_27, e_27, E_27, A_27, D_27, -, st_27⟩ := newO X_3 hx hZ hown (hw _ (List.mem_of_getElem? (i := 1) rfl)) (hw _ (List.mem_of_getElem? (i := 2) rfl)) (hw _ (List.mem_of_getElem? (i := 3) rfl)) e_3 (g := (mkF mM 137 #[.val (.int p1), .val (.int p2), .val (.int p3), .val (.int p4), .val (.long q5), .second, .val (.int (0 : Int32)), .val (.int (0 : Int32)), .val .null, .val (.int zn), .val (.ref b_3), .unset, .unset] [])) rfl (hb hby at_137) (by decide) (by decide)
        obtain ⟨b_27, g_27⟩ : ∃ z, z = h_3.size := ⟨_, rfl⟩
        rw [← g_27] at A_27 D_27 st_27
        have u_28 : b_3 < b_27 := Nat.lt_of_lt_of_le (u_5).lt (Nat.le_of_eq g_27.symm)
        have u_29 := Nat.le_trans Z0 E_3.1
        have u_30 : n0 ≤ b_27 := Nat.le_trans u_29 (Nat.le_of_eq g_27.symm)
        have u_31 : Fld Z h_27 b_27 "dev/callstitch/call/ResponseBody" "contentType" "Ljava/lang/String;" .null := D_27 (Or.inr (hw _ (List.mem_of_getElem? (i := 14) rfl))) (ty := (.object "java/lang/String")) (by decide)
        have u_32 : Fld Z h_27 b_27 "dev/callstitch/call/ResponseBody" "contentLength" "J" (.long (0 : Int64)) := D_27 (Or.inr (hw _ (List.mem_of_getElem? (i := 16) rfl))) (ty := .long) (by decide)
        have u_33 : Fld Z h_27 b_27 "dev/callstitch/call/ResponseBody" "content" "[B" .null := D_27 (Or.inr (hw _ (List.mem_of_getElem? (i := 18) rfl))) (ty := (.array .byte)) (by decide)
        have u_34 : Fld Z h_27 b_27 "dev/callstitch/call/ResponseBody" "arriving" "Ldev/callstitch/call/ResponseBody$Arriving;" .null := D_27 (Or.inr (hw _ (List.mem_of_getElem? (i := 20) rfl))) (ty := (.object "dev/callstitch/call/ResponseBody$Arriving")) (by decide)
        refine Goes.step st_27 ?_
        show Goes pP eE bB _ (T_27.setTop (mkF mM 140 #[.val (.int p1), .val (.int p2), .val (.int p3), .val (.int p4), .val (.long q5), .second, .val (.int (0 : Int32)), .val (.int (0 : Int32)), .val .null, .val (.int zn), .val (.ref b_3), .unset, .unset] [(.ref b_27)]))
        refine Goes.step (fun _ kK => XS.dup X_27.here hx rfl (hb hby at_140) rfl rfl kK) ?_
        show Goes pP eE bB _ (T_27.setTop (mkF mM 141 #[.val (.int p1), .val (.int p2), .val (.int p3), .val (.int p4), .val (.long q5), .second, .val (.int (0 : Int32)), .val (.int (0 : Int32)), .val .null, .val (.int zn), .val (.ref b_3), .unset, .unset] [(.ref b_27), (.ref b_27)]))
        refine Goes.step (fun _ kK => XS.aload X_27.here hx rfl (hb hby at_141) rfl rfl kK) ?_
        show Goes pP eE bB _ (T_27.setTop (mkF mM 143 #[.val (.int p1), .val (.int p2), .val (.int p3), .val (.int p4), .val (.long q5), .second, .val (.int (0 : Int32)), .val (.int (0 : Int32)), .val .null, .val (.int zn), .val (.ref b_3), .unset, .unset] [.null, (.ref b_27), (.ref b_27)]))
        refine Goes.step (fun _ kK => XS.aload X_27.here hx rfl (hb hby at_143) rfl rfl kK) ?_
        show Goes pP eE bB _ (T_27.setTop (mkF mM 145 #[.val (.int p1), .val (.int p2), .val (.int p3), .val (.int p4), .val (.long q5), .second, .val (.int (0 : Int32)), .val (.int (0 : Int32)), .val .null, .val (.int zn), .val (.ref b_3), .unset, .unset] [(.ref b_3), .null, (.ref b_27), (.ref b_27)]))
        have u_35 := Nat.le_trans u_29 E_27.1
        have u_36 := u_5.ext E_27
        refine Goes.callI X_27 hx hZ rfl hown (hw _ (List.mem_of_getElem? (i := 4) rfl)) (hw _ (List.mem_of_getElem? (i := 5) rfl)) (hw _ (List.mem_of_getElem? (i := 6) rfl)) (hw _ (List.mem_of_getElem? (i := 3) rfl)) (by decide) e_27 (rmD1 l Z a0 hw b_27 b_3 zn h_27 n0 u_35 A_27 u_30 u_31 u_32 u_33 u_34 n hzn _ u_36) (W := 1) (by decide) (by decide) (by decide) (by decide) (g := (mkF mM 145 #[.val (.int p1), .val (.int p2), .val (.int p3), .val (.int p4), .val (.long q5), .second, .val (.int (0 : Int32)), .val (.int (0 : Int32)), .val .null, .val (.int zn), .val (.ref b_3), .unset, .unset] [(.ref b_3), .null, (.ref b_27), (.ref b_27)])) rfl (by rw [hml]; rfl) (rest := [(.ref b_27)]) own_pd7 rfl rfl (by show 2 * 0 + _ ≤ _; exact Nat.le_of_eq rfl) (hb hby at_145) ?_
        intro v_37 T_37 L_37 X_37 hQ_37
        generalize e_37 : T_37.heap = h_37 at hQ_37
        obtain ⟨rfl, N_37q, K_37, F_37_contentType, F_37_contentLength, F_37_arriving⟩ := hQ_37
        have N_37 := Fr.app N0 N_37q
        show Goes pP eE bB _ (T_37.setTop (mkF mM 148 #[.val (.int p1), .val (.int p2), .val (.int p3), .val (.int p4), .val (.long q5), .second, .val (.int (0 : Int32)), .val (.int (0 : Int32)), .val .null, .val (.int zn), .val (.ref b_3), .unset, .unset] [(.ref b_27)]))
        refine Goes.step (fun _ kK => XS.astore X_37.here hx rfl (hb hby at_148) rfl rfl (l' := #[.val (.int p1), .val (.int p2), .val (.int p3), .val (.int p4), .val (.long q5), .second, .val (.int (0 : Int32)), .val (.int (0 : Int32)), .val .null, .val (.int zn), .val (.ref b_3), .val (.ref b_27), .unset]) rfl kK) ?_
        show Goes pP eE bB _ (T_37.setTop (mkF mM 150 #[.val (.int p1), .val (.int p2), .val (.int p3), .val (.int p4), .val (.long q5), .second, .val (.int (0 : Int32)), .val (.int (0 : Int32)), .val .null, .val (.int zn), .val (.ref b_3), .val (.ref b_27), .unset] []))
        refine Goes.step (fun _ kK => XS.aload X_37.here hx rfl (hb hby at_150) rfl rfl kK) ?_
        show Goes pP eE bB _ (T_37.setTop (mkF mM 152 #[.val (.int p1), .val (.int p2), .val (.int p3), .val (.int p4), .val (.long q5), .second, .val (.int (0 : Int32)), .val (.int (0 : Int32)), .val .null, .val (.int zn), .val (.ref b_3), .val (.ref b_27), .unset] [(.ref b_27)]))
        have u_38 := Nat.le_trans u_35 K_37.1
        have u_40 := A_27.keep K_37
        refine Goes.callV X_37 hx hZ hown (hw _ (List.mem_of_getElem? (i := 21) rfl)) (hw _ (List.mem_of_getElem? (i := 22) rfl)) (notFace_of_selects (args := #[]) (mvT hZ (hw _ (List.mem_of_getElem? (i := 24) rfl)))) (hw _ (List.mem_of_getElem? (i := 24) rfl)) (hw _ (List.mem_of_getElem? (i := 23) rfl)) (hw _ (List.mem_of_getElem? (i := 25) rfl)) (hw _ (List.mem_of_getElem? (i := 3) rfl)) (by decide) e_37 u_40 (rmG0 l Z a0 hw b_27 h_37 n0 u_38 F_37_arriving) (W := 0) (by decide) (by decide) (by decide) (by decide) (g := (mkF mM 152 #[.val (.int p1), .val (.int p2), .val (.int p3), .val (.int p4), .val (.long q5), .second, .val (.int (0 : Int32)), .val (.int (0 : Int32)), .val .null, .val (.int zn), .val (.ref b_3), .val (.ref b_27), .unset] [(.ref b_27)])) rfl (by rw [hml]; rfl) (rest := []) own_pd8 rfl rfl (by show 2 * 0 + _ ≤ _; exact Nat.le_of_eq rfl) (hb hby at_152) ?_
        intro v_39 T_39 L_39 X_39 hQ_39
        obtain ⟨rfl, N_39q, e_39⟩ := hQ_39
        have N_39 := Fr.app N_37 N_39q
        show Goes pP eE bB _ (T_39.setTop (mkF mM 155 #[.val (.int p1), .val (.int p2), .val (.int p3), .val (.int p4), .val (.long q5), .second, .val (.int (0 : Int32)), .val (.int (0 : Int32)), .val .null, .val (.int zn), .val (.ref b_3), .val (.ref b_27), .unset] [(.int (0 : Int32))]))
        refine Goes.step (fun _ kK => XS.istore X_39.here hx rfl (hb hby at_155) rfl (l' := #[.val (.int p1), .val (.int p2), .val (.int p3), .val (.int p4), .val (.long q5), .second, .val (.int (0 : Int32)), .val (.int (0 : Int32)), .val .null, .val (.int zn), .val (.ref b_3), .val (.ref b_27), .val (.int (0 : Int32))]) rfl kK) ?_
        show Goes pP eE bB _ (T_39.setTop (mkF mM 157 #[.val (.int p1), .val (.int p2), .val (.int p3), .val (.int p4), .val (.long q5), .second, .val (.int (0 : Int32)), .val (.int (0 : Int32)), .val .null, .val (.int zn), .val (.ref b_3), .val (.ref b_27), .val (.int (0 : Int32))] []))
        refine Goes.step (fun _ kK => XS.aload X_39.here hx rfl (hb hby at_157) rfl rfl kK) ?_
        show Goes pP eE bB _ (T_39.setTop (mkF mM 159 #[.val (.int p1), .val (.int p2), .val (.int p3), .val (.int p4), .val (.long q5), .second, .val (.int (0 : Int32)), .val (.int (0 : Int32)), .val .null, .val (.int zn), .val (.ref b_3), .val (.ref b_27), .val (.int (0 : Int32))] [(.ref b_27)]))
        refine Goes.callV X_39 hx hZ hown (hw _ (List.mem_of_getElem? (i := 26) rfl)) (hw _ (List.mem_of_getElem? (i := 27) rfl)) (notFace_of_selects (args := #[]) (mvT hZ (hw _ (List.mem_of_getElem? (i := 29) rfl)))) (hw _ (List.mem_of_getElem? (i := 29) rfl)) (hw _ (List.mem_of_getElem? (i := 28) rfl)) (hw _ (List.mem_of_getElem? (i := 30) rfl)) (hw _ (List.mem_of_getElem? (i := 3) rfl)) (by decide) e_39 u_40 (rmGc l Z a0 hw b_27 h_37 n0 u_38 F_37_arriving) (W := 0) (by decide) (by decide) (by decide) (by decide) (g := (mkF mM 159 #[.val (.int p1), .val (.int p2), .val (.int p3), .val (.int p4), .val (.long q5), .second, .val (.int (0 : Int32)), .val (.int (0 : Int32)), .val .null, .val (.int zn), .val (.ref b_3), .val (.ref b_27), .val (.int (0 : Int32))] [(.ref b_27)])) rfl (by rw [hml]; rfl) (rest := []) own_pd5 rfl rfl (by show 2 * 0 + _ ≤ _; exact Nat.le_of_eq rfl) (hb hby at_159) ?_
        intro v_41 T_41 L_41 X_41 hQ_41
        obtain ⟨rfl, N_41q, e_41⟩ := hQ_41
        have N_41 := Fr.app N_39 N_41q
        show Goes pP eE bB _ (T_41.setTop (mkF mM 162 #[.val (.int p1), .val (.int p2), .val (.int p3), .val (.int p4), .val (.long q5), .second, .val (.int (0 : Int32)), .val (.int (0 : Int32)), .val .null, .val (.int zn), .val (.ref b_3), .val (.ref b_27), .val (.int (0 : Int32))] []))
        refine Goes.step (fun _ kK => XS.iload X_41.here hx rfl (hb hby at_162) rfl kK) ?_
        show Goes pP eE bB _ (T_41.setTop (mkF mM 164 #[.val (.int p1), .val (.int p2), .val (.int p3), .val (.int p4), .val (.long q5), .second, .val (.int (0 : Int32)), .val (.int (0 : Int32)), .val .null, .val (.int zn), .val (.ref b_3), .val (.ref b_27), .val (.int (0 : Int32))] [(.int (0 : Int32))]))
        refine Goes.step (fun _ kK => XS.ifNo X_41.here hx rfl (hb hby at_164) rfl ((if0 _ _).trans (teq (by decide)).2) kK) ?_
        show Goes pP eE bB _ (T_41.setTop (mkF mM 167 #[.val (.int p1), .val (.int p2), .val (.int p3), .val (.int p4), .val (.long q5), .second, .val (.int (0 : Int32)), .val (.int (0 : Int32)), .val .null, .val (.int zn), .val (.ref b_3), .val (.ref b_27), .val (.int (0 : Int32))] []))
        refine Goes.step (fun _ kK => XS.aload X_41.here hx rfl (hb hby at_167) rfl rfl kK) ?_
        show Goes pP eE bB _ (T_41.setTop (mkF mM 169 #[.val (.int p1), .val (.int p2), .val (.int p3), .val (.int p4), .val (.long q5), .second, .val (.int (0 : Int32)), .val (.int (0 : Int32)), .val .null, .val (.int zn), .val (.ref b_3), .val (.ref b_27), .val (.int (0 : Int32))] [(.ref b_27)]))
        refine Goes.callV X_41 hx hZ hown (hw _ (List.mem_of_getElem? (i := 21) rfl)) (hw _ (List.mem_of_getElem? (i := 22) rfl)) (notFace_of_selects (args := #[]) (mvT hZ (hw _ (List.mem_of_getElem? (i := 24) rfl)))) (hw _ (List.mem_of_getElem? (i := 24) rfl)) (hw _ (List.mem_of_getElem? (i := 23) rfl)) (hw _ (List.mem_of_getElem? (i := 25) rfl)) (hw _ (List.mem_of_getElem? (i := 3) rfl)) (by decide) e_41 u_40 (rmG0 l Z a0 hw b_27 h_37 n0 u_38 F_37_arriving) (W := 0) (by decide) (by decide) (by decide) (by decide) (g := (mkF mM 169 #[.val (.int p1), .val (.int p2), .val (.int p3), .val (.int p4), .val (.long q5), .second, .val (.int (0 : Int32)), .val (.int (0 : Int32)), .val .null, .val (.int zn), .val (.ref b_3), .val (.ref b_27), .val (.int (0 : Int32))] [(.ref b_27)])) rfl (by rw [hml]; rfl) (rest := []) own_pd8 rfl rfl (by show 2 * 0 + _ ≤ _; exact Nat.le_of_eq rfl) (hb hby at_169) ?_
        intro v_42 T_42 L_42 X_42 hQ_42
        obtain ⟨rfl, N_42q, e_42⟩ := hQ_42
        have N_42 := Fr.app N_41 N_42q
        show Goes pP eE bB _ (T_42.setTop (mkF mM 172 #[.val (.int p1), .val (.int p2), .val (.int p3), .val (.int p4), .val (.long q5), .second, .val (.int (0 : Int32)), .val (.int (0 : Int32)), .val .null, .val (.int zn), .val (.ref b_3), .val (.ref b_27), .val (.int (0 : Int32))] [(.int (0 : Int32))]))
        refine Goes.step (fun _ kK => XS.ifNo X_42.here hx rfl (hb hby at_172) rfl ((if0 _ _).trans (teq (by decide)).2) kK) ?_
        show Goes pP eE bB _ (T_42.setTop (mkF mM 175 #[.val (.int p1), .val (.int p2), .val (.int p3), .val (.int p4), .val (.long q5), .second, .val (.int (0 : Int32)), .val (.int (0 : Int32)), .val .null, .val (.int zn), .val (.ref b_3), .val (.ref b_27), .val (.int (0 : Int32))] []))
        refine Goes.step (fun _ kK => XS.aload X_42.here hx rfl (hb hby at_175) rfl rfl kK) ?_
        show Goes pP eE bB _ (T_42.setTop (mkF mM 177 #[.val (.int p1), .val (.int p2), .val (.int p3), .val (.int p4), .val (.long q5), .second, .val (.int (0 : Int32)), .val (.int (0 : Int32)), .val .null, .val (.int zn), .val (.ref b_3), .val (.ref b_27), .val (.int (0 : Int32))] [(.ref b_27)]))
        refine Goes.callV X_42 hx hZ hown (hw _ (List.mem_of_getElem? (i := 31) rfl)) (hw _ (List.mem_of_getElem? (i := 32) rfl)) (notFace_of_selects (args := #[]) (mvT hZ (hw _ (List.mem_of_getElem? (i := 34) rfl)))) (hw _ (List.mem_of_getElem? (i := 34) rfl)) (hw _ (List.mem_of_getElem? (i := 33) rfl)) (hw _ (List.mem_of_getElem? (i := 35) rfl)) (hw _ (List.mem_of_getElem? (i := 3) rfl)) (by decide) e_42 u_40 (rmGl l Z a0 hw b_27 (zn.toInt64) h_37 n0 u_38 F_37_contentLength) (W := 0) (by decide) (by decide) (by decide) (by decide) (g := (mkF mM 177 #[.val (.int p1), .val (.int p2), .val (.int p3), .val (.int p4), .val (.long q5), .second, .val (.int (0 : Int32)), .val (.int (0 : Int32)), .val .null, .val (.int zn), .val (.ref b_3), .val (.ref b_27), .val (.int (0 : Int32))] [(.ref b_27)])) rfl (by rw [hml]; rfl) (rest := []) own_pd9 rfl rfl (by show 2 * 0 + _ ≤ _; exact Nat.le_of_eq rfl) (hb hby at_177) ?_
        intro v_43 T_43 L_43 X_43 hQ_43
        obtain ⟨rfl, N_43q, e_43⟩ := hQ_43
        have N_43 := Fr.app N_42 N_43q
        show Goes pP eE bB _ (T_43.setTop (mkF mM 180 #[.val (.int p1), .val (.int p2), .val (.int p3), .val (.int p4), .val (.long q5), .second, .val (.int (0 : Int32)), .val (.int (0 : Int32)), .val .null, .val (.int zn), .val (.ref b_3), .val (.ref b_27), .val (.int (0 : Int32))] [(.long (zn.toInt64))]))
        refine Goes.step (fun _ kK => XS.iload X_43.here hx rfl (hb hby at_180) rfl kK) ?_
        show Goes pP eE bB _ (T_43.setTop (mkF mM 182 #[.val (.int p1), .val (.int p2), .val (.int p3), .val (.int p4), .val (.long q5), .second, .val (.int (0 : Int32)), .val (.int (0 : Int32)), .val .null, .val (.int zn), .val (.ref b_3), .val (.ref b_27), .val (.int (0 : Int32))] [(.int zn), (.long (zn.toInt64))]))
        refine Goes.step (fun _ kK => XS.i2l X_43.here hx rfl (hb hby at_182) rfl kK) ?_
        show Goes pP eE bB _ (T_43.setTop (mkF mM 183 #[.val (.int p1), .val (.int p2), .val (.int p3), .val (.int p4), .val (.long q5), .second, .val (.int (0 : Int32)), .val (.int (0 : Int32)), .val .null, .val (.int zn), .val (.ref b_3), .val (.ref b_27), .val (.int (0 : Int32))] [(.long (zn.toInt64)), (.long (zn.toInt64))]))
        refine Goes.step (fun _ kK => XS.lcmp X_43.here hx rfl (hb hby at_183) rfl kK) ?_
        show Goes pP eE bB _ (T_43.setTop (mkF mM 184 #[.val (.int p1), .val (.int p2), .val (.int p3), .val (.int p4), .val (.long q5), .second, .val (.int (0 : Int32)), .val (.int (0 : Int32)), .val .null, .val (.int zn), .val (.ref b_3), .val (.ref b_27), .val (.int (0 : Int32))] [(.int (lcmpW (zn.toInt64) (zn.toInt64)))]))
        have hb_44 : (zn.toInt64) = (zn.toInt64) := rfl
        refine Goes.step (fun _ kK => XS.ifNo X_43.here hx rfl (hb hby at_184) rfl ((if0 _ _).trans (teq (jeq.mpr hb_44)).2) kK) ?_
        show Goes pP eE bB _ (T_43.setTop (mkF mM 187 #[.val (.int p1), .val (.int p2), .val (.int p3), .val (.int p4), .val (.long q5), .second, .val (.int (0 : Int32)), .val (.int (0 : Int32)), .val .null, .val (.int zn), .val (.ref b_3), .val (.ref b_27), .val (.int (0 : Int32))] []))
        refine Goes.step (fun _ kK => XS.iconst X_43.here hx rfl (hb hby at_187) kK) ?_
        show Goes pP eE bB _ (T_43.setTop (mkF mM 188 #[.val (.int p1), .val (.int p2), .val (.int p3), .val (.int p4), .val (.long q5), .second, .val (.int (0 : Int32)), .val (.int (0 : Int32)), .val .null, .val (.int zn), .val (.ref b_3), .val (.ref b_27), .val (.int (0 : Int32))] [(.int (1 : Int32))]))
        refine Goes.step (fun _ kK => XS.goto X_43.here hx rfl (pc0 := 188) (pc' := 192) rfl (hb hby at_188) (by decide) (by decide) kK) ?_
        show Goes pP eE bB _ (T_43.setTop (mkF mM 192 #[.val (.int p1), .val (.int p2), .val (.int p3), .val (.int p4), .val (.long q5), .second, .val (.int (0 : Int32)), .val (.int (0 : Int32)), .val .null, .val (.int zn), .val (.ref b_3), .val (.ref b_27), .val (.int (0 : Int32))] [(.int (1 : Int32))]))
        refine Goes.retN X_43 hx hlk (t := .boolean) hret (by simp) (hb hby at_192) (by decide) (by decide) ?_
        exact ⟨rfl, N_43⟩
    · refine Goes.step (fun _ kK => XS.ifNo X0.here hx rfl (hb hby at_16) rfl ((if0 _ _).trans (feq hc_2).1) kK) ?_
      show Goes pP eE bB _ (s₁.setTop (mkF mM 19 #[.val (.int p1), .val (.int p2), .val (.int p3), .val (.int p4), .val (.long q5), .second, .val (.int (0 : Int32)), .unset, .unset, .unset, .unset, .unset, .unset] []))
      refine Goes.step (fun _ kK => XS.iconst X0.here hx rfl (hb hby at_19) kK) ?_
      show Goes pP eE bB _ (s₁.setTop (mkF mM 20 #[.val (.int p1), .val (.int p2), .val (.int p3), .val (.int p4), .val (.long q5), .second, .val (.int (0 : Int32)), .unset, .unset, .unset, .unset, .unset, .unset] [(.int (1 : Int32))]))
      refine Goes.step (fun _ kK => XS.goto X0.here hx rfl (pc0 := 20) (pc' := 24) rfl (hb hby at_20) (by decide) (by decide) kK) ?_
      show Goes pP eE bB _ (s₁.setTop (mkF mM 24 #[.val (.int p1), .val (.int p2), .val (.int p3), .val (.int p4), .val (.long q5), .second, .val (.int (0 : Int32)), .unset, .unset, .unset, .unset, .unset, .unset] [(.int (1 : Int32))]))
      refine Goes.step (fun _ kK => XS.istore X0.here hx rfl (hb hby at_24) rfl (l' := #[.val (.int p1), .val (.int p2), .val (.int p3), .val (.int p4), .val (.long q5), .second, .val (.int (0 : Int32)), .val (.int (1 : Int32)), .unset, .unset, .unset, .unset, .unset]) rfl kK) ?_
      show Goes pP eE bB _ (s₁.setTop (mkF mM 26 #[.val (.int p1), .val (.int p2), .val (.int p3), .val (.int p4), .val (.long q5), .second, .val (.int (0 : Int32)), .val (.int (1 : Int32)), .unset, .unset, .unset, .unset, .unset] []))
      refine Goes.step (fun _ kK => XS.aconstNull X0.here hx rfl (hb hby at_26) kK) ?_
      show Goes pP eE bB _ (s₁.setTop (mkF mM 27 #[.val (.int p1), .val (.int p2), .val (.int p3), .val (.int p4), .val (.long q5), .second, .val (.int (0 : Int32)), .val (.int (1 : Int32)), .unset, .unset, .unset, .unset, .unset] [.null]))
      refine Goes.step (fun _ kK => XS.astore X0.here hx rfl (hb hby at_27) rfl rfl (l' := #[.val (.int p1), .val (.int p2), .val (.int p3), .val (.int p4), .val (.long q5), .second, .val (.int (0 : Int32)), .val (.int (1 : Int32)), .val .null, .unset, .unset, .unset, .unset]) rfl kK) ?_
      show Goes pP eE bB _ (s₁.setTop (mkF mM 29 #[.val (.int p1), .val (.int p2), .val (.int p3), .val (.int p4), .val (.long q5), .second, .val (.int (0 : Int32)), .val (.int (1 : Int32)), .val .null, .unset, .unset, .unset, .unset] []))
      refine Goes.step (fun _ kK => XS.iload X0.here hx rfl (hb hby at_29) rfl kK) ?_
      show Goes pP eE bB _ (s₁.setTop (mkF mM 31 #[.val (.int p1), .val (.int p2), .val (.int p3), .val (.int p4), .val (.long q5), .second, .val (.int (0 : Int32)), .val (.int (1 : Int32)), .val .null, .unset, .unset, .unset, .unset] [(.int (1 : Int32))]))
      refine Goes.step (fun _ kK => XS.ifNo X0.here hx rfl (hb hby at_31) rfl ((if0 _ _).trans (feq (by decide)).1) kK) ?_
      show Goes pP eE bB _ (s₁.setTop (mkF mM 34 #[.val (.int p1), .val (.int p2), .val (.int p3), .val (.int p4), .val (.long q5), .second, .val (.int (0 : Int32)), .val (.int (1 : Int32)), .val .null, .unset, .unset, .unset, .unset] []))
      refine Goes.step (fun _ kK => XS.iconst X0.here hx rfl (hb hby at_34) kK) ?_
      show Goes pP eE bB _ (s₁.setTop (mkF mM 35 #[.val (.int p1), .val (.int p2), .val (.int p3), .val (.int p4), .val (.long q5), .second, .val (.int (0 : Int32)), .val (.int (1 : Int32)), .val .null, .unset, .unset, .unset, .unset] [(.int (1 : Int32))]))
      obtain ⟨T_45, h_45, k_45, X_45, e_45, E_45, A_45, M_45, st_45⟩ := newPE X0 hx hZ (hw _ (List.mem_of_getElem? (i := 36) rfl)) e0 (g := (mkF mM 35 #[.val (.int p1), .val (.int p2), .val (.int p3), .val (.int p4), .val (.long q5), .second, .val (.int (0 : Int32)), .val (.int (1 : Int32)), .val .null, .unset, .unset, .unset, .unset] [(.int (1 : Int32))])) rfl (hb hby at_35) rfl (by decide) (cap := 1) (by decide) (by decide) (by decide) (by decide) (ad := "[C") rfl
      obtain ⟨b_45, g_45⟩ : ∃ z, z = h0.size := ⟨_, rfl⟩
      rw [← g_45] at A_45 M_45 st_45
      have u_46 : n0 ≤ b_45 := Nat.le_trans Z0 (Nat.le_of_eq g_45.symm)
      have u_47 : Afn Z h_45 b_45 .char 1 (fun _ => (.int (0 : Int32))) := Afn.new (n := 1) A_45 (by decide)
      refine Goes.step st_45 ?_
      show Goes pP eE bB _ (T_45.setTop (mkF mM 37 #[.val (.int p1), .val (.int p2), .val (.int p3), .val (.int p4), .val (.long q5), .second, .val (.int (0 : Int32)), .val (.int (1 : Int32)), .val .null, .unset, .unset, .unset, .unset] [(.ref b_45)]))
      refine Goes.step (fun _ kK => XS.astore X_45.here hx rfl (hb hby at_37) rfl rfl (l' := #[.val (.int p1), .val (.int p2), .val (.int p3), .val (.int p4), .val (.long q5), .second, .val (.int (0 : Int32)), .val (.int (1 : Int32)), .val .null, .val (.ref b_45), .unset, .unset, .unset]) rfl kK) ?_
      show Goes pP eE bB _ (T_45.setTop (mkF mM 39 #[.val (.int p1), .val (.int p2), .val (.int p3), .val (.int p4), .val (.long q5), .second, .val (.int (0 : Int32)), .val (.int (1 : Int32)), .val .null, .val (.ref b_45), .unset, .unset, .unset] []))
      refine Goes.step (fun _ kK => XS.aload X_45.here hx rfl (hb hby at_39) rfl rfl kK) ?_
      show Goes pP eE bB _ (T_45.setTop (mkF mM 41 #[.val (.int p1), .val (.int p2), .val (.int p3), .val (.int p4), .val (.long q5), .second, .val (.int (0 : Int32)), .val (.int (1 : Int32)), .val .null, .val (.ref b_45), .unset, .unset, .unset] [(.ref b_45)]))
      refine Goes.step (fun _ kK => XS.iconst X_45.here hx rfl (hb hby at_41) kK) ?_
      show Goes pP eE bB _ (T_45.setTop (mkF mM 42 #[.val (.int p1), .val (.int p2), .val (.int p3), .val (.int p4), .val (.long q5), .second, .val (.int (0 : Int32)), .val (.int (1 : Int32)), .val .null, .val (.ref b_45), .unset, .unset, .unset] [(.int (0 : Int32)), (.ref b_45)]))
      refine Goes.step (fun _ kK => XS.iloadN X_45.here hx rfl (hb hby at_42) rfl kK) ?_
      show Goes pP eE bB _ (T_45.setTop (mkF mM 43 #[.val (.int p1), .val (.int p2), .val (.int p3), .val (.int p4), .val (.long q5), .second, .val (.int (0 : Int32)), .val (.int (1 : Int32)), .val .null, .val (.ref b_45), .unset, .unset, .unset] [(.int p4), (.int (0 : Int32)), (.ref b_45)]))
      refine Goes.step (fun _ kK => XS.sipush X_45.here hx rfl (hb hby at_43) kK) ?_
      show Goes pP eE bB _ (T_45.setTop (mkF mM 46 #[.val (.int p1), .val (.int p2), .val (.int p3), .val (.int p4), .val (.long q5), .second, .val (.int (0 : Int32)), .val (.int (1 : Int32)), .val .null, .val (.ref b_45), .unset, .unset, .unset] [(.int (255 : Int32)), (.int p4), (.int (0 : Int32)), (.ref b_45)]))
      refine Goes.step (fun _ kK => XS.iand X_45.here hx rfl (hb hby at_46) rfl kK) ?_
      show Goes pP eE bB _ (T_45.setTop (mkF mM 47 #[.val (.int p1), .val (.int p2), .val (.int p3), .val (.int p4), .val (.long q5), .second, .val (.int (0 : Int32)), .val (.int (1 : Int32)), .val .null, .val (.ref b_45), .unset, .unset, .unset] [(.int (p4 &&& (255 : Int32))), (.int (0 : Int32)), (.ref b_45)]))
      refine Goes.step (fun _ kK => XS.i2c X_45.here hx rfl (hb hby at_47) rfl kK) ?_
      show Goes pP eE bB _ (T_45.setTop (mkF mM 48 #[.val (.int p1), .val (.int p2), .val (.int p3), .val (.int p4), .val (.long q5), .second, .val (.int (0 : Int32)), .val (.int (1 : Int32)), .val .null, .val (.ref b_45), .unset, .unset, .unset] [(.int ((p4 &&& (255 : Int32)).toUInt32.toUInt16.toUInt32.toInt32)), (.int (0 : Int32)), (.ref b_45)]))
      refine Goes.castore X_45 hx hZ e_45 u_47 (i := 0) (by decide) (by decide) (g := (mkF mM 48 #[.val (.int p1), .val (.int p2), .val (.int p3), .val (.int p4), .val (.long q5), .second, .val (.int (0 : Int32)), .val (.int (1 : Int32)), .val .null, .val (.ref b_45), .unset, .unset, .unset] [(.int ((p4 &&& (255 : Int32)).toUInt32.toUInt16.toUInt32.toInt32)), (.int (0 : Int32)), (.ref b_45)])) rfl rfl (hb hby at_48) ?_
      intro T_48 h_48 X_48 e_48 W_48 A_48
      have N_48 := Fr.snoc X_48 N0 u_46
      show Goes pP eE bB _ (T_48.setTop (mkF mM 49 #[.val (.int p1), .val (.int p2), .val (.int p3), .val (.int p4), .val (.long q5), .second, .val (.int (0 : Int32)), .val (.int (1 : Int32)), .val .null, .val (.ref b_45), .unset, .unset, .unset] []))
      obtain ⟨T_49, h_49, X_49, e_49, E_49, A_49, D_49, -, st_49⟩ := newO X_48 hx hZ hown (hw _ (List.mem_of_getElem? (i := 37) rfl)) (hw _ (List.mem_of_getElem? (i := 38) rfl)) (hw _ (List.mem_of_getElem? (i := 39) rfl)) e_48 (g := (mkF mM 49 #[.val (.int p1), .val (.int p2), .val (.int p3), .val (.int p4), .val (.long q5), .second, .val (.int (0 : Int32)), .val (.int (1 : Int32)), .val .null, .val (.ref b_45), .unset, .unset, .unset] [])) rfl (hb hby at_49) (by decide) (by decide)
      obtain ⟨b_49, g_49⟩ : ∃ z, z = h_48.size := ⟨_, rfl⟩
      rw [← g_49] at A_49 D_49 st_49
      have u_50 : b_45 < b_49 := Nat.lt_of_lt_of_le (A_48).lt (Nat.le_of_eq g_49.symm)
      have u_51 := Nat.le_trans Z0 E_45.1
      have u_52 := Nat.le_trans u_51 (Keep.of_wr W_48).1
      have u_53 : n0 ≤ b_49 := Nat.le_trans u_52 (Nat.le_of_eq g_49.symm)
      have u_54 : Fld Z h_49 b_49 "java/lang/String" "coder" "B" (.int (0 : Int32)) := D_49 (Or.inr (hw _ (List.mem_of_getElem? (i := 60) rfl))) (ty := .byte) (by decide)
      have u_55 : Fld Z h_49 b_49 "java/lang/String" "value" "[B" .null := D_49 (Or.inr (hw _ (List.mem_of_getElem? (i := 62) rfl))) (ty := (.array .byte)) (by decide)
      refine Goes.step st_49 ?_
      show Goes pP eE bB _ (T_49.setTop (mkF mM 52 #[.val (.int p1), .val (.int p2), .val (.int p3), .val (.int p4), .val (.long q5), .second, .val (.int (0 : Int32)), .val (.int (1 : Int32)), .val .null, .val (.ref b_45), .unset, .unset, .unset] [(.ref b_49)]))
      refine Goes.step (fun _ kK => XS.dup X_49.here hx rfl (hb hby at_52) rfl rfl kK) ?_
      show Goes pP eE bB _ (T_49.setTop (mkF mM 53 #[.val (.int p1), .val (.int p2), .val (.int p3), .val (.int p4), .val (.long q5), .second, .val (.int (0 : Int32)), .val (.int (1 : Int32)), .val .null, .val (.ref b_45), .unset, .unset, .unset] [(.ref b_49), (.ref b_49)]))
      refine Goes.step (fun _ kK => XS.aload X_49.here hx rfl (hb hby at_53) rfl rfl kK) ?_
      show Goes pP eE bB _ (T_49.setTop (mkF mM 55 #[.val (.int p1), .val (.int p2), .val (.int p3), .val (.int p4), .val (.long q5), .second, .val (.int (0 : Int32)), .val (.int (1 : Int32)), .val .null, .val (.ref b_45), .unset, .unset, .unset] [(.ref b_45), (.ref b_49), (.ref b_49)]))
      have u_56 := O0.ext E_45
      have u_57 := u_56.wr W_48 u_46
      have u_58 := u_57.ext E_49
      have u_59 := Nat.le_trans u_52 E_49.1
      have u_60 := A_48.ext E_49
      refine Goes.callI X_49 hx hZ rfl hown (hw _ (List.mem_of_getElem? (i := 40) rfl)) (hw _ (List.mem_of_getElem? (i := 41) rfl)) (hw _ (List.mem_of_getElem? (i := 42) rfl)) (hw _ (List.mem_of_getElem? (i := 39) rfl)) (by decide) e_49 (rmS5_1 l Z a0 hw b_49 b_45 (nar .char ((p4 &&& (255 : Int32)).toUInt32.toUInt16.toUInt32.toInt32)) cs h_49 n0 u_59 Scs hcs u_58 _ u_60 A_49 u_53 u_54 u_55 rfl (own_ch p4)) (W := 1) (by decide) (by decide) (by decide) (by decide) (g := (mkF mM 55 #[.val (.int p1), .val (.int p2), .val (.int p3), .val (.int p4), .val (.long q5), .second, .val (.int (0 : Int32)), .val (.int (1 : Int32)), .val .null, .val (.ref b_45), .unset, .unset, .unset] [(.ref b_45), (.ref b_49), (.ref b_49)])) rfl (by rw [hml]; rfl) (rest := [(.ref b_49)]) own_pd10 rfl rfl (by show 2 * 0 + _ ≤ _; exact Nat.le_of_eq rfl) (hb hby at_55) ?_
      intro v_61 T_61 L_61 X_61 hQ_61
      generalize e_61 : T_61.heap = h_61 at hQ_61
      obtain ⟨rfl, N_61q, K_61, F_61c, b_61, F_61v, s_61, A_61, M_61⟩ := hQ_61
      have N_61 := Fr.app N_48 N_61q
      have u_62 := Nat.lt_of_lt_of_le (A_48).lt E_49.1
      have u_63 : b_45 < b_61 := Nat.lt_of_lt_of_le u_62 s_61
      have u_64 : b_49 < b_61 := Nat.lt_of_lt_of_le (A_49).lt s_61
      have u_65 : n0 ≤ b_61 := Nat.le_trans u_59 s_61
      show Goes pP eE bB _ (T_61.setTop (mkF mM 58 #[.val (.int p1), .val (.int p2), .val (.int p3), .val (.int p4), .val (.long q5), .second, .val (.int (0 : Int32)), .val (.int (1 : Int32)), .val .null, .val (.ref b_45), .unset, .unset, .unset] [(.ref b_49)]))
      refine Goes.step (fun _ kK => XS.astore X_61.here hx rfl (hb hby at_58) rfl rfl (l' := #[.val (.int p1), .val (.int p2), .val (.int p3), .val (.int p4), .val (.long q5), .second, .val (.int (0 : Int32)), .val (.int (1 : Int32)), .val (.ref b_49), .val (.ref b_45), .unset, .unset, .unset]) rfl kK) ?_
      show Goes pP eE bB _ (T_61.setTop (mkF mM 60 #[.val (.int p1), .val (.int p2), .val (.int p3), .val (.int p4), .val (.long q5), .second, .val (.int (0 : Int32)), .val (.int (1 : Int32)), .val (.ref b_49), .val (.ref b_45), .unset, .unset, .unset] []))
      refine Goes.step (fun _ kK => XS.iload X_61.here hx rfl (hb hby at_60) rfl kK) ?_
      show Goes pP eE bB _ (T_61.setTop (mkF mM 62 #[.val (.int p1), .val (.int p2), .val (.int p3), .val (.int p4), .val (.long q5), .second, .val (.int (0 : Int32)), .val (.int (1 : Int32)), .val (.ref b_49), .val (.ref b_45), .unset, .unset, .unset] [(.int (0 : Int32))]))
      refine Goes.step (fun _ kK => XS.ifYes X_61.here hx rfl (pc0 := 62) (pc' := 115) rfl (hb hby at_62) rfl ((if0 _ _).trans (teq (by decide)).1) (by decide) (by decide) kK) ?_
      show Goes pP eE bB _ (T_61.setTop (mkF mM 115 #[.val (.int p1), .val (.int p2), .val (.int p3), .val (.int p4), .val (.long q5), .second, .val (.int (0 : Int32)), .val (.int (1 : Int32)), .val (.ref b_49), .val (.ref b_45), .unset, .unset, .unset] []))
      refine Goes.step (fun _ kK => XS.iloadN X_61.here hx rfl (hb hby at_115) rfl kK) ?_
      show Goes pP eE bB _ (T_61.setTop (mkF mM 116 #[.val (.int p1), .val (.int p2), .val (.int p3), .val (.int p4), .val (.long q5), .second, .val (.int (0 : Int32)), .val (.int (1 : Int32)), .val (.ref b_49), .val (.ref b_45), .unset, .unset, .unset] [(.int p2)]))
      refine Goes.step (fun _ kK => XS.iconst X_61.here hx rfl (hb hby at_116) kK) ?_
      show Goes pP eE bB _ (T_61.setTop (mkF mM 117 #[.val (.int p1), .val (.int p2), .val (.int p3), .val (.int p4), .val (.long q5), .second, .val (.int (0 : Int32)), .val (.int (1 : Int32)), .val (.ref b_49), .val (.ref b_45), .unset, .unset, .unset] [(.int (3 : Int32)), (.int p2)]))
      refine Goes.step (fun _ kK => XS.iand X_61.here hx rfl (hb hby at_117) rfl kK) ?_
      show Goes pP eE bB _ (T_61.setTop (mkF mM 118 #[.val (.int p1), .val (.int p2), .val (.int p3), .val (.int p4), .val (.long q5), .second, .val (.int (0 : Int32)), .val (.int (1 : Int32)), .val (.ref b_49), .val (.ref b_45), .unset, .unset, .unset] [(.int (p2 &&& (3 : Int32)))]))
      refine Goes.step (fun _ kK => XS.istore X_61.here hx rfl (hb hby at_118) rfl (l' := #[.val (.int p1), .val (.int p2), .val (.int p3), .val (.int p4), .val (.long q5), .second, .val (.int (0 : Int32)), .val (.int (1 : Int32)), .val (.ref b_49), .val (.int (p2 &&& (3 : Int32))), .unset, .unset, .unset]) rfl kK) ?_
      show Goes pP eE bB _ (T_61.setTop (mkF mM 120 #[.val (.int p1), .val (.int p2), .val (.int p3), .val (.int p4), .val (.long q5), .second, .val (.int (0 : Int32)), .val (.int (1 : Int32)), .val (.ref b_49), .val (.int (p2 &&& (3 : Int32))), .unset, .unset, .unset] []))
      obtain ⟨zn, h_zn⟩ : ∃ z : Int32, z = (p2 &&& (3 : Int32)) := ⟨_, rfl⟩
      rw [← h_zn]
      have hm2 : zn.toInt = p2.toInt % 2 ^ 2 := by rw [h_zn]; exact Jvm.Kit.i32_mask p2 3 (k := 2) (by decide) (by decide)
      obtain ⟨n, hn⟩ : ∃ n : Nat, n = zn.toInt.toNat := ⟨_, rfl⟩
      have hzn : zn.toInt = (n : Int) := by omega
      have hn3 : n ≤ 3 := by omega
      show Goes pP eE bB _ (T_61.setTop (mkF mM 120 #[.val (.int p1), .val (.int p2), .val (.int p3), .val (.int p4), .val (.long q5), .second, .val (.int (0 : Int32)), .val (.int (1 : Int32)), .val (.ref b_49), .val (.int zn), .unset, .unset, .unset] []))
      refine Goes.step (fun _ kK => XS.iload X_61.here hx rfl (hb hby at_120) rfl kK) ?_
      show Goes pP eE bB _ (T_61.setTop (mkF mM 122 #[.val (.int p1), .val (.int p2), .val (.int p3), .val (.int p4), .val (.long q5), .second, .val (.int (0 : Int32)), .val (.int (1 : Int32)), .val (.ref b_49), .val (.int zn), .unset, .unset, .unset] [(.int zn)]))
      obtain ⟨T_66, h_66, k_66, X_66, e_66, E_66, A_66, M_66, st_66⟩ := newPE X_61 hx hZ (hw _ (List.mem_of_getElem? (i := 0) rfl)) e_61 (g := (mkF mM 122 #[.val (.int p1), .val (.int p2), .val (.int p3), .val (.int p4), .val (.long q5), .second, .val (.int (0 : Int32)), .val (.int (1 : Int32)), .val (.ref b_49), .val (.int zn), .unset, .unset, .unset] [(.int zn)])) rfl (hb hby at_122) rfl (by rw [Int32.lt_iff_toInt_lt, show (0 : Int32).toInt = 0 from by decide]; omega) (cap := 3) (by simp only [Int32.toNatClampNeg]; omega) (by decide) (by decide) (by decide) (ad := "[B") rfl
      obtain ⟨b_66, g_66⟩ : ∃ z, z = h_61.size := ⟨_, rfl⟩
      rw [← g_66] at A_66 M_66 st_66
      have u_67 := Nat.lt_of_lt_of_le u_62 K_61.1
      have u_68 : b_45 < b_66 := Nat.lt_of_lt_of_le u_67 (Nat.le_of_eq g_66.symm)
      have u_69 := Nat.lt_of_lt_of_le (A_49).lt K_61.1
      have u_70 : b_49 < b_66 := Nat.lt_of_lt_of_le u_69 (Nat.le_of_eq g_66.symm)
      have u_71 : b_61 < b_66 := Nat.lt_of_lt_of_le (A_61).lt (Nat.le_of_eq g_66.symm)
      have u_72 := Nat.le_trans u_59 K_61.1
      have u_73 : n0 ≤ b_66 := Nat.le_trans u_72 (Nat.le_of_eq g_66.symm)
      have u_74 : Afn Z h_66 b_66 .byte n (fun _ => (.int (0 : Int32))) := Afn.new (n := n) A_66 hzn
      refine Goes.step st_66 ?_
      show Goes pP eE bB _ (T_66.setTop (mkF mM 124 #[.val (.int p1), .val (.int p2), .val (.int p3), .val (.int p4), .val (.long q5), .second, .val (.int (0 : Int32)), .val (.int (1 : Int32)), .val (.ref b_49), .val (.int zn), .unset, .unset, .unset] [(.ref b_66)]))
      refine Goes.step (fun _ kK => XS.astore X_66.here hx rfl (hb hby at_124) rfl rfl (l' := #[.val (.int p1), .val (.int p2), .val (.int p3), .val (.int p4), .val (.long q5), .second, .val (.int (0 : Int32)), .val (.int (1 : Int32)), .val (.ref b_49), .val (.int zn), .val (.ref b_66), .unset, .unset]) rfl kK) ?_
      show Goes pP eE bB _ (T_66.setTop (mkF mM 126 #[.val (.int p1), .val (.int p2), .val (.int p3), .val (.int p4), .val (.long q5), .second, .val (.int (0 : Int32)), .val (.int (1 : Int32)), .val (.ref b_49), .val (.int zn), .val (.ref b_66), .unset, .unset] []))
      refine Goes.step (fun _ kK => XS.iload X_66.here hx rfl (hb hby at_126) rfl kK) ?_
      show Goes pP eE bB _ (T_66.setTop (mkF mM 128 #[.val (.int p1), .val (.int p2), .val (.int p3), .val (.int p4), .val (.long q5), .second, .val (.int (0 : Int32)), .val (.int (1 : Int32)), .val (.ref b_49), .val (.int zn), .val (.ref b_66), .unset, .unset] [(.int zn)]))
      by_cases hc_75 : (0 : Int32) < zn
      · refine Goes.step (fun _ kK => XS.ifNo X_66.here hx rfl (hb hby at_128) rfl ((if0 _ _).trans (tlt hc_75).2.2.2) kK) ?_
        show Goes pP eE bB _ (T_66.setTop (mkF mM 131 #[.val (.int p1), .val (.int p2), .val (.int p3), .val (.int p4), .val (.long q5), .second, .val (.int (0 : Int32)), .val (.int (1 : Int32)), .val (.ref b_49), .val (.int zn), .val (.ref b_66), .unset, .unset] []))
        refine Goes.step (fun _ kK => XS.aload X_66.here hx rfl (hb hby at_131) rfl rfl kK) ?_
        show Goes pP eE bB _ (T_66.setTop (mkF mM 133 #[.val (.int p1), .val (.int p2), .val (.int p3), .val (.int p4), .val (.long q5), .second, .val (.int (0 : Int32)), .val (.int (1 : Int32)), .val (.ref b_49), .val (.int zn), .val (.ref b_66), .unset, .unset] [(.ref b_66)]))
        refine Goes.step (fun _ kK => XS.iconst X_66.here hx rfl (hb hby at_133) kK) ?_
        show Goes pP eE bB _ (T_66.setTop (mkF mM 134 #[.val (.int p1), .val (.int p2), .val (.int p3), .val (.int p4), .val (.long q5), .second, .val (.int (0 : Int32)), .val (.int (1 : Int32)), .val (.ref b_49), .val (.int zn), .val (.ref b_66), .unset, .unset] [(.int (0 : Int32)), (.ref b_66)]))
        refine Goes.step (fun _ kK => XS.iloadN X_66.here hx rfl (hb hby at_134) rfl kK) ?_
        show Goes pP eE bB _ (T_66.setTop (mkF mM 135 #[.val (.int p1), .val (.int p2), .val (.int p3), .val (.int p4), .val (.long q5), .second, .val (.int (0 : Int32)), .val (.int (1 : Int32)), .val (.ref b_49), .val (.int zn), .val (.ref b_66), .unset, .unset] [(.int p3), (.int (0 : Int32)), (.ref b_66)]))
        refine Goes.step (fun _ kK => XS.i2b X_66.here hx rfl (hb hby at_135) rfl kK) ?_
        show Goes pP eE bB _ (T_66.setTop (mkF mM 136 #[.val (.int p1), .val (.int p2), .val (.int p3), .val (.int p4), .val (.long q5), .second, .val (.int (0 : Int32)), .val (.int (1 : Int32)), .val (.ref b_49), .val (.int zn), .val (.ref b_66), .unset, .unset] [(.int (p3.toInt8.toInt32)), (.int (0 : Int32)), (.ref b_66)]))
        refine Goes.bastore X_66 hx hZ e_66 u_74 (i := 0) (by decide) (by have q := hc_75; rw [Int32.lt_iff_toInt_lt, hzn, show (0 : Int32).toInt = 0 from by decide] at q; omega) (g := (mkF mM 136 #[.val (.int p1), .val (.int p2), .val (.int p3), .val (.int p4), .val (.long q5), .second, .val (.int (0 : Int32)), .val (.int (1 : Int32)), .val (.ref b_49), .val (.int zn), .val (.ref b_66), .unset, .unset] [(.int (p3.toInt8.toInt32)), (.int (0 : Int32)), (.ref b_66)])) rfl rfl (hb hby at_136) ?_
        intro T_76 h_76 X_76 e_76 W_76 A_76
        have N_76 := Fr.snoc X_76 N_61 u_73
        show Goes pP eE bB _ (T_76.setTop (mkF mM 137 #[.val (.int p1), .val (.int p2), .val (.int p3), .val (.int p4), .val (.long q5), .second, .val (.int (0 : Int32)), .val (.int (1 : Int32)), .val (.ref b_49), .val (.int zn), .val (.ref b_66), .unset, .unset] []))
        obtain ⟨T_77, h_77, X_77, e_77, E_77, A_77, D_77, -, st_77⟩ := newO X_76 hx hZ hown (hw _ (List.mem_of_getElem? (i := 1) rfl)) (hw _ (List.mem_of_getElem? (i := 2) rfl)) (hw _ (List.mem_of_getElem? (i := 3) rfl)) e_76 (g := (mkF mM 137 #[.val (.int p1), .val (.int p2), .val (.int p3), .val (.int p4), .val (.long q5), .second, .val (.int (0 : Int32)), .val (.int (1 : Int32)), .val (.ref b_49), .val (.int zn), .val (.ref b_66), .unset, .unset] [])) rfl (hb hby at_137) (by decide) (by decide)
        obtain ⟨b_77, g_77⟩ : ∃ z, z = h_76.size := ⟨_, rfl⟩
        rw [← g_77] at A_77 D_77 st_77
        have u_78 := Nat.lt_of_lt_of_le u_67 E_66.1
        have u_79 := Nat.lt_of_lt_of_le u_78 (Keep.of_wr W_76).1
        have u_80 : b_45 < b_77 := Nat.lt_of_lt_of_le u_79 (Nat.le_of_eq g_77.symm)
        have u_81 := Nat.lt_of_lt_of_le u_69 E_66.1
        have u_82 := Nat.lt_of_lt_of_le u_81 (Keep.of_wr W_76).1
        have u_83 : b_49 < b_77 := Nat.lt_of_lt_of_le u_82 (Nat.le_of_eq g_77.symm)
        have u_84 := Nat.lt_of_lt_of_le (A_61).lt E_66.1
        have u_85 := Nat.lt_of_lt_of_le u_84 (Keep.of_wr W_76).1
        have u_86 : b_61 < b_77 := Nat.lt_of_lt_of_le u_85 (Nat.le_of_eq g_77.symm)
        have u_87 : b_66 < b_77 := Nat.lt_of_lt_of_le (A_76).lt (Nat.le_of_eq g_77.symm)
        have u_88 := Nat.le_trans u_72 E_66.1
        have u_89 := Nat.le_trans u_88 (Keep.of_wr W_76).1
        have u_90 : n0 ≤ b_77 := Nat.le_trans u_89 (Nat.le_of_eq g_77.symm)
        have u_91 : Fld Z h_77 b_77 "dev/callstitch/call/ResponseBody" "contentType" "Ljava/lang/String;" .null := D_77 (Or.inr (hw _ (List.mem_of_getElem? (i := 14) rfl))) (ty := (.object "java/lang/String")) (by decide)
        have u_92 : Fld Z h_77 b_77 "dev/callstitch/call/ResponseBody" "contentLength" "J" (.long (0 : Int64)) := D_77 (Or.inr (hw _ (List.mem_of_getElem? (i := 16) rfl))) (ty := .long) (by decide)
        have u_93 : Fld Z h_77 b_77 "dev/callstitch/call/ResponseBody" "content" "[B" .null := D_77 (Or.inr (hw _ (List.mem_of_getElem? (i := 18) rfl))) (ty := (.array .byte)) (by decide)
        have u_94 : Fld Z h_77 b_77 "dev/callstitch/call/ResponseBody" "arriving" "Ldev/callstitch/call/ResponseBody$Arriving;" .null := D_77 (Or.inr (hw _ (List.mem_of_getElem? (i := 20) rfl))) (ty := (.object "dev/callstitch/call/ResponseBody$Arriving")) (by decide)
        refine Goes.step st_77 ?_
        show Goes pP eE bB _ (T_77.setTop (mkF mM 140 #[.val (.int p1), .val (.int p2), .val (.int p3), .val (.int p4), .val (.long q5), .second, .val (.int (0 : Int32)), .val (.int (1 : Int32)), .val (.ref b_49), .val (.int zn), .val (.ref b_66), .unset, .unset] [(.ref b_77)]))
        refine Goes.step (fun _ kK => XS.dup X_77.here hx rfl (hb hby at_140) rfl rfl kK) ?_
        show Goes pP eE bB _ (T_77.setTop (mkF mM 141 #[.val (.int p1), .val (.int p2), .val (.int p3), .val (.int p4), .val (.long q5), .second, .val (.int (0 : Int32)), .val (.int (1 : Int32)), .val (.ref b_49), .val (.int zn), .val (.ref b_66), .unset, .unset] [(.ref b_77), (.ref b_77)]))
        refine Goes.step (fun _ kK => XS.aload X_77.here hx rfl (hb hby at_141) rfl rfl kK) ?_
        show Goes pP eE bB _ (T_77.setTop (mkF mM 143 #[.val (.int p1), .val (.int p2), .val (.int p3), .val (.int p4), .val (.long q5), .second, .val (.int (0 : Int32)), .val (.int (1 : Int32)), .val (.ref b_49), .val (.int zn), .val (.ref b_66), .unset, .unset] [(.ref b_49), (.ref b_77), (.ref b_77)]))
        refine Goes.step (fun _ kK => XS.aload X_77.here hx rfl (hb hby at_143) rfl rfl kK) ?_
        show Goes pP eE bB _ (T_77.setTop (mkF mM 145 #[.val (.int p1), .val (.int p2), .val (.int p3), .val (.int p4), .val (.long q5), .second, .val (.int (0 : Int32)), .val (.int (1 : Int32)), .val (.ref b_49), .val (.int zn), .val (.ref b_66), .unset, .unset] [(.ref b_66), (.ref b_49), (.ref b_77), (.ref b_77)]))
        have u_95 := Nat.le_trans u_89 E_77.1
        have u_96 := A_76.ext E_77
        refine Goes.callI X_77 hx hZ rfl hown (hw _ (List.mem_of_getElem? (i := 4) rfl)) (hw _ (List.mem_of_getElem? (i := 5) rfl)) (hw _ (List.mem_of_getElem? (i := 6) rfl)) (hw _ (List.mem_of_getElem? (i := 3) rfl)) (by decide) e_77 (rmD0 l Z a0 hw b_77 b_49 b_66 zn h_77 n0 u_95 A_77 u_90 u_91 u_92 u_93 u_94 n hzn _ u_96) (W := 1) (by decide) (by decide) (by decide) (by decide) (g := (mkF mM 145 #[.val (.int p1), .val (.int p2), .val (.int p3), .val (.int p4), .val (.long q5), .second, .val (.int (0 : Int32)), .val (.int (1 : Int32)), .val (.ref b_49), .val (.int zn), .val (.ref b_66), .unset, .unset] [(.ref b_66), (.ref b_49), (.ref b_77), (.ref b_77)])) rfl (by rw [hml]; rfl) (rest := [(.ref b_77)]) own_pd7 rfl rfl (by show 2 * 0 + _ ≤ _; exact Nat.le_of_eq rfl) (hb hby at_145) ?_
        intro v_97 T_97 L_97 X_97 hQ_97
        generalize e_97 : T_97.heap = h_97 at hQ_97
        obtain ⟨rfl, N_97q, K_97, F_97_contentType, F_97_contentLength, F_97_arriving⟩ := hQ_97
        have N_97 := Fr.app N_76 N_97q
        show Goes pP eE bB _ (T_97.setTop (mkF mM 148 #[.val (.int p1), .val (.int p2), .val (.int p3), .val (.int p4), .val (.long q5), .second, .val (.int (0 : Int32)), .val (.int (1 : Int32)), .val (.ref b_49), .val (.int zn), .val (.ref b_66), .unset, .unset] [(.ref b_77)]))
        refine Goes.step (fun _ kK => XS.astore X_97.here hx rfl (hb hby at_148) rfl rfl (l' := #[.val (.int p1), .val (.int p2), .val (.int p3), .val (.int p4), .val (.long q5), .second, .val (.int (0 : Int32)), .val (.int (1 : Int32)), .val (.ref b_49), .val (.int zn), .val (.ref b_66), .val (.ref b_77), .unset]) rfl kK) ?_
        show Goes pP eE bB _ (T_97.setTop (mkF mM 150 #[.val (.int p1), .val (.int p2), .val (.int p3), .val (.int p4), .val (.long q5), .second, .val (.int (0 : Int32)), .val (.int (1 : Int32)), .val (.ref b_49), .val (.int zn), .val (.ref b_66), .val (.ref b_77), .unset] []))
        refine Goes.step (fun _ kK => XS.aload X_97.here hx rfl (hb hby at_150) rfl rfl kK) ?_
        show Goes pP eE bB _ (T_97.setTop (mkF mM 152 #[.val (.int p1), .val (.int p2), .val (.int p3), .val (.int p4), .val (.long q5), .second, .val (.int (0 : Int32)), .val (.int (1 : Int32)), .val (.ref b_49), .val (.int zn), .val (.ref b_66), .val (.ref b_77), .unset] [(.ref b_77)]))
        have u_98 := Nat.le_trans u_95 K_97.1
        have u_100 := A_77.keep K_97
        refine Goes.callV X_97 hx hZ hown (hw _ (List.mem_of_getElem? (i := 21) rfl)) (hw _ (List.mem_of_getElem? (i := 22) rfl)) (notFace_of_selects (args := #[]) (mvT hZ (hw _ (List.mem_of_getElem? (i := 24) rfl)))) (hw _ (List.mem_of_getElem? (i := 24) rfl)) (hw _ (List.mem_of_getElem? (i := 23) rfl)) (hw _ (List.mem_of_getElem? (i := 25) rfl)) (hw _ (List.mem_of_getElem? (i := 3) rfl)) (by decide) e_97 u_100 (rmG0 l Z a0 hw b_77 h_97 n0 u_98 F_97_arriving) (W := 0) (by decide) (by decide) (by decide) (by decide) (g := (mkF mM 152 #[.val (.int p1), .val (.int p2), .val (.int p3), .val (.int p4), .val (.long q5), .second, .val (.int (0 : Int32)), .val (.int (1 : Int32)), .val (.ref b_49), .val (.int zn), .val (.ref b_66), .val (.ref b_77), .unset] [(.ref b_77)])) rfl (by rw [hml]; rfl) (rest := []) own_pd8 rfl rfl (by show 2 * 0 + _ ≤ _; exact Nat.le_of_eq rfl) (hb hby at_152) ?_
        intro v_99 T_99 L_99 X_99 hQ_99
        obtain ⟨rfl, N_99q, e_99⟩ := hQ_99
        have N_99 := Fr.app N_97 N_99q
        show Goes pP eE bB _ (T_99.setTop (mkF mM 155 #[.val (.int p1), .val (.int p2), .val (.int p3), .val (.int p4), .val (.long q5), .second, .val (.int (0 : Int32)), .val (.int (1 : Int32)), .val (.ref b_49), .val (.int zn), .val (.ref b_66), .val (.ref b_77), .unset] [(.int (0 : Int32))]))
        refine Goes.step (fun _ kK => XS.istore X_99.here hx rfl (hb hby at_155) rfl (l' := #[.val (.int p1), .val (.int p2), .val (.int p3), .val (.int p4), .val (.long q5), .second, .val (.int (0 : Int32)), .val (.int (1 : Int32)), .val (.ref b_49), .val (.int zn), .val (.ref b_66), .val (.ref b_77), .val (.int (0 : Int32))]) rfl kK) ?_
        show Goes pP eE bB _ (T_99.setTop (mkF mM 157 #[.val (.int p1), .val (.int p2), .val (.int p3), .val (.int p4), .val (.long q5), .second, .val (.int (0 : Int32)), .val (.int (1 : Int32)), .val (.ref b_49), .val (.int zn), .val (.ref b_66), .val (.ref b_77), .val (.int (0 : Int32))] []))
        refine Goes.step (fun _ kK => XS.aload X_99.here hx rfl (hb hby at_157) rfl rfl kK) ?_
        show Goes pP eE bB _ (T_99.setTop (mkF mM 159 #[.val (.int p1), .val (.int p2), .val (.int p3), .val (.int p4), .val (.long q5), .second, .val (.int (0 : Int32)), .val (.int (1 : Int32)), .val (.ref b_49), .val (.int zn), .val (.ref b_66), .val (.ref b_77), .val (.int (0 : Int32))] [(.ref b_77)]))
        refine Goes.callV X_99 hx hZ hown (hw _ (List.mem_of_getElem? (i := 26) rfl)) (hw _ (List.mem_of_getElem? (i := 27) rfl)) (notFace_of_selects (args := #[]) (mvT hZ (hw _ (List.mem_of_getElem? (i := 29) rfl)))) (hw _ (List.mem_of_getElem? (i := 29) rfl)) (hw _ (List.mem_of_getElem? (i := 28) rfl)) (hw _ (List.mem_of_getElem? (i := 30) rfl)) (hw _ (List.mem_of_getElem? (i := 3) rfl)) (by decide) e_99 u_100 (rmGc l Z a0 hw b_77 h_97 n0 u_98 F_97_arriving) (W := 0) (by decide) (by decide) (by decide) (by decide) (g := (mkF mM 159 #[.val (.int p1), .val (.int p2), .val (.int p3), .val (.int p4), .val (.long q5), .second, .val (.int (0 : Int32)), .val (.int (1 : Int32)), .val (.ref b_49), .val (.int zn), .val (.ref b_66), .val (.ref b_77), .val (.int (0 : Int32))] [(.ref b_77)])) rfl (by rw [hml]; rfl) (rest := []) own_pd5 rfl rfl (by show 2 * 0 + _ ≤ _; exact Nat.le_of_eq rfl) (hb hby at_159) ?_
        intro v_101 T_101 L_101 X_101 hQ_101
        obtain ⟨rfl, N_101q, e_101⟩ := hQ_101
        have N_101 := Fr.app N_99 N_101q
        show Goes pP eE bB _ (T_101.setTop (mkF mM 162 #[.val (.int p1), .val (.int p2), .val (.int p3), .val (.int p4), .val (.long q5), .second, .val (.int (0 : Int32)), .val (.int (1 : Int32)), .val (.ref b_49), .val (.int zn), .val (.ref b_66), .val (.ref b_77), .val (.int (0 : Int32))] []))
        refine Goes.step (fun _ kK => XS.iload X_101.here hx rfl (hb hby at_162) rfl kK) ?_
        show Goes pP eE bB _ (T_101.setTop (mkF mM 164 #[.val (.int p1), .val (.int p2), .val (.int p3), .val (.int p4), .val (.long q5), .second, .val (.int (0 : Int32)), .val (.int (1 : Int32)), .val (.ref b_49), .val (.int zn), .val (.ref b_66), .val (.ref b_77), .val (.int (0 : Int32))] [(.int (0 : Int32))]))
        refine Goes.step (fun _ kK => XS.ifNo X_101.here hx rfl (hb hby at_164) rfl ((if0 _ _).trans (teq (by decide)).2) kK) ?_
        show Goes pP eE bB _ (T_101.setTop (mkF mM 167 #[.val (.int p1), .val (.int p2), .val (.int p3), .val (.int p4), .val (.long q5), .second, .val (.int (0 : Int32)), .val (.int (1 : Int32)), .val (.ref b_49), .val (.int zn), .val (.ref b_66), .val (.ref b_77), .val (.int (0 : Int32))] []))
        refine Goes.step (fun _ kK => XS.aload X_101.here hx rfl (hb hby at_167) rfl rfl kK) ?_
        show Goes pP eE bB _ (T_101.setTop (mkF mM 169 #[.val (.int p1), .val (.int p2), .val (.int p3), .val (.int p4), .val (.long q5), .second, .val (.int (0 : Int32)), .val (.int (1 : Int32)), .val (.ref b_49), .val (.int zn), .val (.ref b_66), .val (.ref b_77), .val (.int (0 : Int32))] [(.ref b_77)]))
        refine Goes.callV X_101 hx hZ hown (hw _ (List.mem_of_getElem? (i := 21) rfl)) (hw _ (List.mem_of_getElem? (i := 22) rfl)) (notFace_of_selects (args := #[]) (mvT hZ (hw _ (List.mem_of_getElem? (i := 24) rfl)))) (hw _ (List.mem_of_getElem? (i := 24) rfl)) (hw _ (List.mem_of_getElem? (i := 23) rfl)) (hw _ (List.mem_of_getElem? (i := 25) rfl)) (hw _ (List.mem_of_getElem? (i := 3) rfl)) (by decide) e_101 u_100 (rmG0 l Z a0 hw b_77 h_97 n0 u_98 F_97_arriving) (W := 0) (by decide) (by decide) (by decide) (by decide) (g := (mkF mM 169 #[.val (.int p1), .val (.int p2), .val (.int p3), .val (.int p4), .val (.long q5), .second, .val (.int (0 : Int32)), .val (.int (1 : Int32)), .val (.ref b_49), .val (.int zn), .val (.ref b_66), .val (.ref b_77), .val (.int (0 : Int32))] [(.ref b_77)])) rfl (by rw [hml]; rfl) (rest := []) own_pd8 rfl rfl (by show 2 * 0 + _ ≤ _; exact Nat.le_of_eq rfl) (hb hby at_169) ?_
        intro v_102 T_102 L_102 X_102 hQ_102
        obtain ⟨rfl, N_102q, e_102⟩ := hQ_102
        have N_102 := Fr.app N_101 N_102q
        show Goes pP eE bB _ (T_102.setTop (mkF mM 172 #[.val (.int p1), .val (.int p2), .val (.int p3), .val (.int p4), .val (.long q5), .second, .val (.int (0 : Int32)), .val (.int (1 : Int32)), .val (.ref b_49), .val (.int zn), .val (.ref b_66), .val (.ref b_77), .val (.int (0 : Int32))] [(.int (0 : Int32))]))
        refine Goes.step (fun _ kK => XS.ifNo X_102.here hx rfl (hb hby at_172) rfl ((if0 _ _).trans (teq (by decide)).2) kK) ?_
        show Goes pP eE bB _ (T_102.setTop (mkF mM 175 #[.val (.int p1), .val (.int p2), .val (.int p3), .val (.int p4), .val (.long q5), .second, .val (.int (0 : Int32)), .val (.int (1 : Int32)), .val (.ref b_49), .val (.int zn), .val (.ref b_66), .val (.ref b_77), .val (.int (0 : Int32))] []))
        refine Goes.step (fun _ kK => XS.aload X_102.here hx rfl (hb hby at_175) rfl rfl kK) ?_
        show Goes pP eE bB _ (T_102.setTop (mkF mM 177 #[.val (.int p1), .val (.int p2), .val (.int p3), .val (.int p4), .val (.long q5), .second, .val (.int (0 : Int32)), .val (.int (1 : Int32)), .val (.ref b_49), .val (.int zn), .val (.ref b_66), .val (.ref b_77), .val (.int (0 : Int32))] [(.ref b_77)]))
        refine Goes.callV X_102 hx hZ hown (hw _ (List.mem_of_getElem? (i := 31) rfl)) (hw _ (List.mem_of_getElem? (i := 32) rfl)) (notFace_of_selects (args := #[]) (mvT hZ (hw _ (List.mem_of_getElem? (i := 34) rfl)))) (hw _ (List.mem_of_getElem? (i := 34) rfl)) (hw _ (List.mem_of_getElem? (i := 33) rfl)) (hw _ (List.mem_of_getElem? (i := 35) rfl)) (hw _ (List.mem_of_getElem? (i := 3) rfl)) (by decide) e_102 u_100 (rmGl l Z a0 hw b_77 (zn.toInt64) h_97 n0 u_98 F_97_contentLength) (W := 0) (by decide) (by decide) (by decide) (by decide) (g := (mkF mM 177 #[.val (.int p1), .val (.int p2), .val (.int p3), .val (.int p4), .val (.long q5), .second, .val (.int (0 : Int32)), .val (.int (1 : Int32)), .val (.ref b_49), .val (.int zn), .val (.ref b_66), .val (.ref b_77), .val (.int (0 : Int32))] [(.ref b_77)])) rfl (by rw [hml]; rfl) (rest := []) own_pd9 rfl rfl (by show 2 * 0 + _ ≤ _; exact Nat.le_of_eq rfl) (hb hby at_177) ?_
        intro v_103 T_103 L_103 X_103 hQ_103
        obtain ⟨rfl, N_103q, e_103⟩ := hQ_103
        have N_103 := Fr.app N_102 N_103q
        show Goes pP eE bB _ (T_103.setTop (mkF mM 180 #[.val (.int p1), .val (.int p2), .val (.int p3), .val (.int p4), .val (.long q5), .second, .val (.int (0 : Int32)), .val (.int (1 : Int32)), .val (.ref b_49), .val (.int zn), .val (.ref b_66), .val (.ref b_77), .val (.int (0 : Int32))] [(.long (zn.toInt64))]))
        refine Goes.step (fun _ kK => XS.iload X_103.here hx rfl (hb hby at_180) rfl kK) ?_
        show Goes pP eE bB _ (T_103.setTop (mkF mM 182 #[.val (.int p1), .val (.int p2), .val (.int p3), .val (.int p4), .val (.long q5), .second, .val (.int (0 : Int32)), .val (.int (1 : Int32)), .val (.ref b_49), .val (.int zn), .val (.ref b_66), .val (.ref b_77), .val (.int (0 : Int32))] [(.int zn), (.long (zn.toInt64))]))
        refine Goes.step (fun _ kK => XS.i2l X_103.here hx rfl (hb hby at_182) rfl kK) ?_
        show Goes pP eE bB _ (T_103.setTop (mkF mM 183 #[.val (.int p1), .val (.int p2), .val (.int p3), .val (.int p4), .val (.long q5), .second, .val (.int (0 : Int32)), .val (.int (1 : Int32)), .val (.ref b_49), .val (.int zn), .val (.ref b_66), .val (.ref b_77), .val (.int (0 : Int32))] [(.long (zn.toInt64)), (.long (zn.toInt64))]))
        refine Goes.step (fun _ kK => XS.lcmp X_103.here hx rfl (hb hby at_183) rfl kK) ?_
        show Goes pP eE bB _ (T_103.setTop (mkF mM 184 #[.val (.int p1), .val (.int p2), .val (.int p3), .val (.int p4), .val (.long q5), .second, .val (.int (0 : Int32)), .val (.int (1 : Int32)), .val (.ref b_49), .val (.int zn), .val (.ref b_66), .val (.ref b_77), .val (.int (0 : Int32))] [(.int (lcmpW (zn.toInt64) (zn.toInt64)))]))
        have hb_104 : (zn.toInt64) = (zn.toInt64) := rfl
        refine Goes.step (fun _ kK => XS.ifNo X_103.here hx rfl (hb hby at_184) rfl ((if0 _ _).trans (teq (jeq.mpr hb_104)).2) kK) ?_
        show Goes pP eE bB _ (T_103.setTop (mkF mM 187 #[.val (.int p1), .val (.int p2), .val (.int p3), .val (.int p4), .val (.long q5), .second, .val (.int (0 : Int32)), .val (.int (1 : Int32)), .val (.ref b_49), .val (.int zn), .val (.ref b_66), .val (.ref b_77), .val (.int (0 : Int32))] []))
        refine Goes.step (fun _ kK => XS.iconst X_103.here hx rfl (hb hby at_187) kK) ?_
        show Goes pP eE bB _ (T_103.setTop (mkF mM 188 #[.val (.int p1), .val (.int p2), .val (.int p3), .val (.int p4), .val (.long q5), .second, .val (.int (0 : Int32)), .val (.int (1 : Int32)), .val (.ref b_49), .val (.int zn), .val (.ref b_66), .val (.ref b_77), .val (.int (0 : Int32))] [(.int (1 : Int32))]))
        refine Goes.step (fun _ kK => XS.goto X_103.here hx rfl (pc0 := 188) (pc' := 192) rfl (hb hby at_188) (by decide) (by decide) kK) ?_
        show Goes pP eE bB _ (T_103.setTop (mkF mM 192 #[.val (.int p1), .val (.int p2), .val (.int p3), .val (.int p4), .val (.long q5), .second, .val (.int (0 : Int32)), .val (.int (1 : Int32)), .val (.ref b_49), .val (.int zn), .val (.ref b_66), .val (.ref b_77), .val (.int (0 : Int32))] [(.int (1 : Int32))]))
        refine Goes.retN X_103 hx hlk (t := .boolean) hret (by simp) (hb hby at_192) (by decide) (by decide) ?_
        exact ⟨rfl, N_103⟩
      · refine Goes.step (fun _ kK => XS.ifYes X_66.here hx rfl (pc0 := 128) (pc' := 137) rfl (hb hby at_128) rfl ((if0 _ _).trans (flt hc_75).2.2.2) (by decide) (by decide) kK) ?_
        show Goes pP eE bB _ (T_66.setTop (mkF mM 137 #[.val (.int p1), .val (.int p2), .val (.int p3), .val (.int p4), .val (.long q5), .second, .val (.int (0 : Int32)), .val (.int (1 : Int32)), .val (.ref b_49), .val (.int zn), .val (.ref b_66), .unset, .unset] []))
        obtain ⟨T_105, h_105, X_105, e_105, E_105, A_105, D_105, -, st_105⟩ := newO X_66 hx hZ hown (hw _ (List.mem_of_getElem? (i := 1) rfl)) (hw _ (List.mem_of_getElem? (i := 2) rfl)) (hw _ (List.mem_of_getElem? (i := 3) rfl)) e_66 (g := (mkF mM 137 #[.val (.int p1), .val (.int p2), .val (.int p3), .val (.int p4), .val (.long q5), .second, .val (.int (0 : Int32)), .val (.int (1 : Int32)), .val (.ref b_49), .val (.int zn), .val (.ref b_66), .unset, .unset] [])) rfl (hb hby at_137) (by decide) (by decide)
        obtain ⟨b_105, g_105⟩ : ∃ z, z = h_66.size := ⟨_, rfl⟩
        rw [← g_105] at A_105 D_105 st_105
        have u_106 := Nat.lt_of_lt_of_le u_67 E_66.1
        have u_107 : b_45 < b_105 := Nat.lt_of_lt_of_le u_106 (Nat.le_of_eq g_105.symm)
        have u_108 := Nat.lt_of_lt_of_le u_69 E_66.1
        have u_109 : b_49 < b_105 := Nat.lt_of_lt_of_le u_108 (Nat.le_of_eq g_105.symm)
        have u_110 := Nat.lt_of_lt_of_le (A_61).lt E_66.1
        have u_111 : b_61 < b_105 := Nat.lt_of_lt_of_le u_110 (Nat.le_of_eq g_105.symm)
        have u_112 : b_66 < b_105 := Nat.lt_of_lt_of_le (u_74).lt (Nat.le_of_eq g_105.symm)
        have u_113 := Nat.le_trans u_72 E_66.1
        have u_114 : n0 ≤ b_105 := Nat.le_trans u_113 (Nat.le_of_eq g_105.symm)
        have u_115 : Fld Z h_105 b_105 "dev/callstitch/call/ResponseBody" "contentType" "Ljava/lang/String;" .null := D_105 (Or.inr (hw _ (List.mem_of_getElem? (i := 14) rfl))) (ty := (.object "java/lang/String")) (by decide)
        have u_116 : Fld Z h_105 b_105 "dev/callstitch/call/ResponseBody" "contentLength" "J" (.long (0 : Int64)) := D_105 (Or.inr (hw _ (List.mem_of_getElem? (i := 16) rfl))) (ty := .long) (by decide)
        have u_117 : Fld Z h_105 b_105 "dev/callstitch/call/ResponseBody" "content" "[B" .null := D_105 (Or.inr (hw _ (List.mem_of_getElem? (i := 18) rfl))) (ty := (.array .byte)) (by decide)
        have u_118 : Fld Z h_105 b_105 "dev/callstitch/call/ResponseBody" "arriving" "Ldev/callstitch/call/ResponseBody$Arriving;" .null := D_105 (Or.inr (hw _ (List.mem_of_getElem? (i := 20) rfl))) (ty := (.object "dev/callstitch/call/ResponseBody$Arriving")) (by decide)
        refine Goes.step st_105 ?_
        show Goes pP eE bB _ (T_105.setTop (mkF mM 140 #[.val (.int p1), .val (.int p2), .val (.int p3), .val (.int p4), .val (.long q5), .second, .val (.int (0 : Int32)), .val (.int (1 : Int32)), .val (.ref b_49), .val (.int zn), .val (.ref b_66), .unset, .unset] [(.ref b_105)]))
        refine Goes.step (fun _ kK => XS.dup X_105.here hx rfl (hb hby at_140) rfl rfl kK) ?_
        show Goes pP eE bB _ (T_105.setTop (mkF mM 141 #[.val (.int p1), .val (.int p2), .val (.int p3), .val (.int p4), .val (.long q5), .second, .val (.int (0 : Int32)), .val (.int (1 : Int32)), .val (.ref b_49), .val (.int zn), .val (.ref b_66), .unset, .unset] [(.ref b_105), (.ref b_105)]))
        refine Goes.step (fun _ kK => XS.aload X_105.here hx rfl (hb hby at_141) rfl rfl kK) ?_
        show Goes pP eE bB _ (T_105.setTop (mkF mM 143 #[.val (.int p1), .val (.int p2), .val (.int p3), .val (.int p4), .val (.long q5), .second, .val (.int (0 : Int32)), .val (.int (1 : Int32)), .val (.ref b_49), .val (.int zn), .val (.ref b_66), .unset, .unset] [(.ref b_49), (.ref b_105), (.ref b_105)]))
        refine Goes.step (fun _ kK => XS.aload X_105.here hx rfl (hb hby at_143) rfl rfl kK) ?_
        show Goes pP eE bB _ (T_105.setTop (mkF mM 145 #[.val (.int p1), .val (.int p2), .val (.int p3), .val (.int p4), .val (.long q5), .second, .val (.int (0 : Int32)), .val (.int (1 : Int32)), .val (.ref b_49), .val (.int zn), .val (.ref b_66), .unset, .unset] [(.ref b_66), (.ref b_49), (.ref b_105), (.ref b_105)]))
        have u_119 := Nat.le_trans u_113 E_105.1
        have u_120 := u_74.ext E_105
        refine Goes.callI X_105 hx hZ rfl hown (hw _ (List.mem_of_getElem? (i := 4) rfl)) (hw _ (List.mem_of_getElem? (i := 5) rfl)) (hw _ (List.mem_of_getElem? (i := 6) rfl)) (hw _ (List.mem_of_getElem? (i := 3) rfl)) (by decide) e_105 (rmD0 l Z a0 hw b_105 b_49 b_66 zn h_105 n0 u_119 A_105 u_114 u_115 u_116 u_117 u_118 n hzn _ u_120) (W := 1) (by decide) (by decide) (by decide) (by decide) (g := (mkF mM 145 #[.val (.int p1), .val (.int p2), .val (.int p3), .val (.int p4), .val (.long q5), .second, .val (.int (0 : Int32)), .val (.int (1 : Int32)), .val (.ref b_49), .val (.int zn), .val (.ref b_66), .unset, .unset] [(.ref b_66), (.ref b_49), (.ref b_105), (.ref b_105)])) rfl (by rw [hml]; rfl) (rest := [(.ref b_105)]) own_pd7 rfl rfl (by show 2 * 0 + _ ≤ _; exact Nat.le_of_eq rfl) (hb hby at_145) ?_
        intro v_121 T_121 L_121 X_121 hQ_121
        generalize e_121 : T_121.heap = h_121 at hQ_121
        obtain ⟨rfl, N_121q, K_121, F_121_contentType, F_121_contentLength, F_121_arriving⟩ := hQ_121
        have N_121 := Fr.app N_61 N_121q
        show Goes pP eE bB _ (T_121.setTop (mkF mM 148 #[.val (.int p1), .val (.int p2), .val (.int p3), .val (.int p4), .val (.long q5), .second, .val (.int (0 : Int32)), .val (.int (1 : Int32)), .val (.ref b_49), .val (.int zn), .val (.ref b_66), .unset, .unset] [(.ref b_105)]))
        refine Goes.step (fun _ kK => XS.astore X_121.here hx rfl (hb hby at_148) rfl rfl (l' := #[.val (.int p1), .val (.int p2), .val (.int p3), .val (.int p4), .val (.long q5), .second, .val (.int (0 : Int32)), .val (.int (1 : Int32)), .val (.ref b_49), .val (.int zn), .val (.ref b_66), .val (.ref b_105), .unset]) rfl kK) ?_
        show Goes pP eE bB _ (T_121.setTop (mkF mM 150 #[.val (.int p1), .val (.int p2), .val (.int p3), .val (.int p4), .val (.long q5), .second, .val (.int (0 : Int32)), .val (.int (1 : Int32)), .val (.ref b_49), .val (.int zn), .val (.ref b_66), .val (.ref b_105), .unset] []))
        refine Goes.step (fun _ kK => XS.aload X_121.here hx rfl (hb hby at_150) rfl rfl kK) ?_
        show Goes pP eE bB _ (T_121.setTop (mkF mM 152 #[.val (.int p1), .val (.int p2), .val (.int p3), .val (.int p4), .val (.long q5), .second, .val (.int (0 : Int32)), .val (.int (1 : Int32)), .val (.ref b_49), .val (.int zn), .val (.ref b_66), .val (.ref b_105), .unset] [(.ref b_105)]))
        have u_122 := Nat.le_trans u_119 K_121.1
        have u_124 := A_105.keep K_121
        refine Goes.callV X_121 hx hZ hown (hw _ (List.mem_of_getElem? (i := 21) rfl)) (hw _ (List.mem_of_getElem? (i := 22) rfl)) (notFace_of_selects (args := #[]) (mvT hZ (hw _ (List.mem_of_getElem? (i := 24) rfl)))) (hw _ (List.mem_of_getElem? (i := 24) rfl)) (hw _ (List.mem_of_getElem? (i := 23) rfl)) (hw _ (List.mem_of_getElem? (i := 25) rfl)) (hw _ (List.mem_of_getElem? (i := 3) rfl)) (by decide) e_121 u_124 (rmG0 l Z a0 hw b_105 h_121 n0 u_122 F_121_arriving) (W := 0) (by decide) (by decide) (by decide) (by decide) (g := (mkF mM 152 #[.val (.int p1), .val (.int p2), .val (.int p3), .val (.int p4), .val (.long q5), .second, .val (.int (0 : Int32)), .val (.int (1 : Int32)), .val (.ref b_49), .val (.int zn), .val (.ref b_66), .val (.ref b_105), .unset] [(.ref b_105)])) rfl (by rw [hml]; rfl) (rest := []) own_pd8 rfl rfl (by show 2 * 0 + _ ≤ _; exact Nat.le_of_eq rfl) (hb hby at_152) ?_
        intro v_123 T_123 L_123 X_123 hQ_123
        obtain ⟨rfl, N_123q, e_123⟩ := hQ_123
        have N_123 := Fr.app N_121 N_123q
        show Goes pP eE bB _ (T_123.setTop (mkF mM 155 #[.val (.int p1), .val (.int p2), .val (.int p3), .val (.int p4), .val (.long q5), .second, .val (.int (0 : Int32)), .val (.int (1 : Int32)), .val (.ref b_49), .val (.int zn), .val (.ref b_66), .val (.ref b_105), .unset] [(.int (0 : Int32))]))
        refine Goes.step (fun _ kK => XS.istore X_123.here hx rfl (hb hby at_155) rfl (l' := #[.val (.int p1), .val (.int p2), .val (.int p3), .val (.int p4), .val (.long q5), .second, .val (.int (0 : Int32)), .val (.int (1 : Int32)), .val (.ref b_49), .val (.int zn), .val (.ref b_66), .val (.ref b_105), .val (.int (0 : Int32))]) rfl kK) ?_
        show Goes pP eE bB _ (T_123.setTop (mkF mM 157 #[.val (.int p1), .val (.int p2), .val (.int p3), .val (.int p4), .val (.long q5), .second, .val (.int (0 : Int32)), .val (.int (1 : Int32)), .val (.ref b_49), .val (.int zn), .val (.ref b_66), .val (.ref b_105), .val (.int (0 : Int32))] []))
        refine Goes.step (fun _ kK => XS.aload X_123.here hx rfl (hb hby at_157) rfl rfl kK) ?_
        show Goes pP eE bB _ (T_123.setTop (mkF mM 159 #[.val (.int p1), .val (.int p2), .val (.int p3), .val (.int p4), .val (.long q5), .second, .val (.int (0 : Int32)), .val (.int (1 : Int32)), .val (.ref b_49), .val (.int zn), .val (.ref b_66), .val (.ref b_105), .val (.int (0 : Int32))] [(.ref b_105)]))
        refine Goes.callV X_123 hx hZ hown (hw _ (List.mem_of_getElem? (i := 26) rfl)) (hw _ (List.mem_of_getElem? (i := 27) rfl)) (notFace_of_selects (args := #[]) (mvT hZ (hw _ (List.mem_of_getElem? (i := 29) rfl)))) (hw _ (List.mem_of_getElem? (i := 29) rfl)) (hw _ (List.mem_of_getElem? (i := 28) rfl)) (hw _ (List.mem_of_getElem? (i := 30) rfl)) (hw _ (List.mem_of_getElem? (i := 3) rfl)) (by decide) e_123 u_124 (rmGc l Z a0 hw b_105 h_121 n0 u_122 F_121_arriving) (W := 0) (by decide) (by decide) (by decide) (by decide) (g := (mkF mM 159 #[.val (.int p1), .val (.int p2), .val (.int p3), .val (.int p4), .val (.long q5), .second, .val (.int (0 : Int32)), .val (.int (1 : Int32)), .val (.ref b_49), .val (.int zn), .val (.ref b_66), .val (.ref b_105), .val (.int (0 : Int32))] [(.ref b_105)])) rfl (by rw [hml]; rfl) (rest := []) own_pd5 rfl rfl (by show 2 * 0 + _ ≤ _; exact Nat.le_of_eq rfl) (hb hby at_159) ?_
        intro v_125 T_125 L_125 X_125 hQ_125
        obtain ⟨rfl, N_125q, e_125⟩ := hQ_125
        have N_125 := Fr.app N_123 N_125q
        show Goes pP eE bB _ (T_125.setTop (mkF mM 162 #[.val (.int p1), .val (.int p2), .val (.int p3), .val (.int p4), .val (.long q5), .second, .val (.int (0 : Int32)), .val (.int (1 : Int32)), .val (.ref b_49), .val (.int zn), .val (.ref b_66), .val (.ref b_105), .val (.int (0 : Int32))] []))
        refine Goes.step (fun _ kK => XS.iload X_125.here hx rfl (hb hby at_162) rfl kK) ?_
        show Goes pP eE bB _ (T_125.setTop (mkF mM 164 #[.val (.int p1), .val (.int p2), .val (.int p3), .val (.int p4), .val (.long q5), .second, .val (.int (0 : Int32)), .val (.int (1 : Int32)), .val (.ref b_49), .val (.int zn), .val (.ref b_66), .val (.ref b_105), .val (.int (0 : Int32))] [(.int (0 : Int32))]))
        refine Goes.step (fun _ kK => XS.ifNo X_125.here hx rfl (hb hby at_164) rfl ((if0 _ _).trans (teq (by decide)).2) kK) ?_
        show Goes pP eE bB _ (T_125.setTop (mkF mM 167 #[.val (.int p1), .val (.int p2), .val (.int p3), .val (.int p4), .val (.long q5), .second, .val (.int (0 : Int32)), .val (.int (1 : Int32)), .val (.ref b_49), .val (.int zn), .val (.ref b_66), .val (.ref b_105), .val (.int (0 : Int32))] []))
        refine Goes.step (fun _ kK => XS.aload X_125.here hx rfl (hb hby at_167) rfl rfl kK) ?_
        show Goes pP eE bB _ (T_125.setTop (mkF mM 169 #[.val (.int p1), .val (.int p2), .val (.int p3), .val (.int p4), .val (.long q5), .second, .val (.int (0 : Int32)), .val (.int (1 : Int32)), .val (.ref b_49), .val (.int zn), .val (.ref b_66), .val (.ref b_105), .val (.int (0 : Int32))] [(.ref b_105)]))
        refine Goes.callV X_125 hx hZ hown (hw _ (List.mem_of_getElem? (i := 21) rfl)) (hw _ (List.mem_of_getElem? (i := 22) rfl)) (notFace_of_selects (args := #[]) (mvT hZ (hw _ (List.mem_of_getElem? (i := 24) rfl)))) (hw _ (List.mem_of_getElem? (i := 24) rfl)) (hw _ (List.mem_of_getElem? (i := 23) rfl)) (hw _ (List.mem_of_getElem? (i := 25) rfl)) (hw _ (List.mem_of_getElem? (i := 3) rfl)) (by decide) e_125 u_124 (rmG0 l Z a0 hw b_105 h_121 n0 u_122 F_121_arriving) (W := 0) (by decide) (by decide) (by decide) (by decide) (g := (mkF mM 169 #[.val (.int p1), .val (.int p2), .val (.int p3), .val (.int p4), .val (.long q5), .second, .val (.int (0 : Int32)), .val (.int (1 : Int32)), .val (.ref b_49), .val (.int zn), .val (.ref b_66), .val (.ref b_105), .val (.int (0 : Int32))] [(.ref b_105)])) rfl (by rw [hml]; rfl) (rest := []) own_pd8 rfl rfl (by show 2 * 0 + _ ≤ _; exact Nat.le_of_eq rfl) (hb hby at_169) ?_
        intro v_126 T_126 L_126 X_126 hQ_126
        obtain ⟨rfl, N_126q, e_126⟩ := hQ_126
        have N_126 := Fr.app N_125 N_126q
        show Goes pP eE bB _ (T_126.setTop (mkF mM 172 #[.val (.int p1), .val (.int p2), .val (.int p3), .val (.int p4), .val (.long q5), .second, .val (.int (0 : Int32)), .val (.int (1 : Int32)), .val (.ref b_49), .val (.int zn), .val (.ref b_66), .val (.ref b_105), .val (.int (0 : Int32))] [(.int (0 : Int32))]))
        refine Goes.step (fun _ kK => XS.ifNo X_126.here hx rfl (hb hby at_172) rfl ((if0 _ _).trans (teq (by decide)).2) kK) ?_
        show Goes pP eE bB _ (T_126.setTop (mkF mM 175 #[.val (.int p1), .val (.int p2), .val (.int p3), .val (.int p4), .val (.long q5), .second, .val (.int (0 : Int32)), .val (.int (1 : Int32)), .val (.ref b_49), .val (.int zn), .val (.ref b_66), .val (.ref b_105), .val (.int (0 : Int32))] []))
        refine Goes.step (fun _ kK => XS.aload X_126.here hx rfl (hb hby at_175) rfl rfl kK) ?_
        show Goes pP eE bB _ (T_126.setTop (mkF mM 177 #[.val (.int p1), .val (.int p2), .val (.int p3), .val (.int p4), .val (.long q5), .second, .val (.int (0 : Int32)), .val (.int (1 : Int32)), .val (.ref b_49), .val (.int zn), .val (.ref b_66), .val (.ref b_105), .val (.int (0 : Int32))] [(.ref b_105)]))
        refine Goes.callV X_126 hx hZ hown (hw _ (List.mem_of_getElem? (i := 31) rfl)) (hw _ (List.mem_of_getElem? (i := 32) rfl)) (notFace_of_selects (args := #[]) (mvT hZ (hw _ (List.mem_of_getElem? (i := 34) rfl)))) (hw _ (List.mem_of_getElem? (i := 34) rfl)) (hw _ (List.mem_of_getElem? (i := 33) rfl)) (hw _ (List.mem_of_getElem? (i := 35) rfl)) (hw _ (List.mem_of_getElem? (i := 3) rfl)) (by decide) e_126 u_124 (rmGl l Z a0 hw b_105 (zn.toInt64) h_121 n0 u_122 F_121_contentLength) (W := 0) (by decide) (by decide) (by decide) (by decide) (g := (mkF mM 177 #[.val (.int p1), .val (.int p2), .val (.int p3), .val (.int p4), .val (.long q5), .second, .val (.int (0 : Int32)), .val (.int (1 : Int32)), .val (.ref b_49), .val (.int zn), .val (.ref b_66), .val (.ref b_105), .val (.int (0 : Int32))] [(.ref b_105)])) rfl (by rw [hml]; rfl) (rest := []) own_pd9 rfl rfl (by show 2 * 0 + _ ≤ _; exact Nat.le_of_eq rfl) (hb hby at_177) ?_
        intro v_127 T_127 L_127 X_127 hQ_127
        obtain ⟨rfl, N_127q, e_127⟩ := hQ_127
        have N_127 := Fr.app N_126 N_127q
        show Goes pP eE bB _ (T_127.setTop (mkF mM 180 #[.val (.int p1), .val (.int p2), .val (.int p3), .val (.int p4), .val (.long q5), .second, .val (.int (0 : Int32)), .val (.int (1 : Int32)), .val (.ref b_49), .val (.int zn), .val (.ref b_66), .val (.ref b_105), .val (.int (0 : Int32))] [(.long (zn.toInt64))]))
        refine Goes.step (fun _ kK => XS.iload X_127.here hx rfl (hb hby at_180) rfl kK) ?_
        show Goes pP eE bB _ (T_127.setTop (mkF mM 182 #[.val (.int p1), .val (.int p2), .val (.int p3), .val (.int p4), .val (.long q5), .second, .val (.int (0 : Int32)), .val (.int (1 : Int32)), .val (.ref b_49), .val (.int zn), .val (.ref b_66), .val (.ref b_105), .val (.int (0 : Int32))] [(.int zn), (.long (zn.toInt64))]))
        refine Goes.step (fun _ kK => XS.i2l X_127.here hx rfl (hb hby at_182) rfl kK) ?_
        show Goes pP eE bB _ (T_127.setTop (mkF mM 183 #[.val (.int p1), .val (.int p2), .val (.int p3), .val (.int p4), .val (.long q5), .second, .val (.int (0 : Int32)), .val (.int (1 : Int32)), .val (.ref b_49), .val (.int zn), .val (.ref b_66), .val (.ref b_105), .val (.int (0 : Int32))] [(.long (zn.toInt64)), (.long (zn.toInt64))]))
        refine Goes.step (fun _ kK => XS.lcmp X_127.here hx rfl (hb hby at_183) rfl kK) ?_
        show Goes pP eE bB _ (T_127.setTop (mkF mM 184 #[.val (.int p1), .val (.int p2), .val (.int p3), .val (.int p4), .val (.long q5), .second, .val (.int (0 : Int32)), .val (.int (1 : Int32)), .val (.ref b_49), .val (.int zn), .val (.ref b_66), .val (.ref b_105), .val (.int (0 : Int32))] [(.int (lcmpW (zn.toInt64) (zn.toInt64)))]))
        have hb_128 : (zn.toInt64) = (zn.toInt64) := rfl
        refine Goes.step (fun _ kK => XS.ifNo X_127.here hx rfl (hb hby at_184) rfl ((if0 _ _).trans (teq (jeq.mpr hb_128)).2) kK) ?_
        show Goes pP eE bB _ (T_127.setTop (mkF mM 187 #[.val (.int p1), .val (.int p2), .val (.int p3), .val (.int p4), .val (.long q5), .second, .val (.int (0 : Int32)), .val (.int (1 : Int32)), .val (.ref b_49), .val (.int zn), .val (.ref b_66), .val (.ref b_105), .val (.int (0 : Int32))] []))
        refine Goes.step (fun _ kK => XS.iconst X_127.here hx rfl (hb hby at_187) kK) ?_
        show Goes pP eE bB _ (T_127.setTop (mkF mM 188 #[.val (.int p1), .val (.int p2), .val (.int p3), .val (.int p4), .val (.long q5), .second, .val (.int (0 : Int32)), .val (.int (1 : Int32)), .val (.ref b_49), .val (.int zn), .val (.ref b_66), .val (.ref b_105), .val (.int (0 : Int32))] [(.int (1 : Int32))]))
        refine Goes.step (fun _ kK => XS.goto X_127.here hx rfl (pc0 := 188) (pc' := 192) rfl (hb hby at_188) (by decide) (by decide) kK) ?_
        show Goes pP eE bB _ (T_127.setTop (mkF mM 192 #[.val (.int p1), .val (.int p2), .val (.int p3), .val (.int p4), .val (.long q5), .second, .val (.int (0 : Int32)), .val (.int (1 : Int32)), .val (.ref b_49), .val (.int zn), .val (.ref b_66), .val (.ref b_105), .val (.int (0 : Int32))] [(.int (1 : Int32))]))
        refine Goes.retN X_127 hx hlk (t := .boolean) hret (by simp) (hb hby at_192) (by decide) (by decide) ?_
        exact ⟨rfl, N_127⟩
  · refine Goes.step (fun _ kK => XS.ifNo X0.here hx rfl (hb hby at_3) rfl ((if0 _ _).trans (feq hc_1).1) kK) ?_
    show Goes pP eE bB _ (s₁.setTop (mkF mM 6 #[.val (.int p1), .val (.int p2), .val (.int p3), .val (.int p4), .val (.long q5), .second, .unset, .unset, .unset, .unset, .unset, .unset, .unset] []))
    refine Goes.step (fun _ kK => XS.iconst X0.here hx rfl (hb hby at_6) kK) ?_
    show Goes pP eE bB _ (s₁.setTop (mkF mM 7 #[.val (.int p1), .val (.int p2), .val (.int p3), .val (.int p4), .val (.long q5), .second, .unset, .unset, .unset, .unset, .unset, .unset, .unset] [(.int (1 : Int32))]))
    refine Goes.step (fun _ kK => XS.goto X0.here hx rfl (pc0 := 7) (pc' := 11) rfl (hb hby at_7) (by decide) (by decide) kK) ?_
    show Goes pP eE bB _ (s₁.setTop (mkF mM 11 #[.val (.int p1), .val (.int p2), .val (.int p3), .val (.int p4), .val (.long q5), .second, .unset, .unset, .unset, .unset, .unset, .unset, .unset] [(.int (1 : Int32))]))
    refine Goes.step (fun _ kK => XS.istore X0.here hx rfl (hb hby at_11) rfl (l' := #[.val (.int p1), .val (.int p2), .val (.int p3), .val (.int p4), .val (.long q5), .second, .val (.int (1 : Int32)), .unset, .unset, .unset, .unset, .unset, .unset]) rfl kK) ?_
    show Goes pP eE bB _ (s₁.setTop (mkF mM 13 #[.val (.int p1), .val (.int p2), .val (.int p3), .val (.int p4), .val (.long q5), .second, .val (.int (1 : Int32)), .unset, .unset, .unset, .unset, .unset, .unset] []))
    refine Goes.step (fun _ kK => XS.iloadN X0.here hx rfl (hb hby at_13) rfl kK) ?_
    show Goes pP eE bB _ (s₁.setTop (mkF mM 14 #[.val (.int p1), .val (.int p2), .val (.int p3), .val (.int p4), .val (.long q5), .second, .val (.int (1 : Int32)), .unset, .unset, .unset, .unset, .unset, .unset] [(.int p1)]))
    refine Goes.step (fun _ kK => XS.iconst X0.here hx rfl (hb hby at_14) kK) ?_
    show Goes pP eE bB _ (s₁.setTop (mkF mM 15 #[.val (.int p1), .val (.int p2), .val (.int p3), .val (.int p4), .val (.long q5), .second, .val (.int (1 : Int32)), .unset, .unset, .unset, .unset, .unset, .unset] [(.int (2 : Int32)), (.int p1)]))
    refine Goes.step (fun _ kK => XS.iand X0.here hx rfl (hb hby at_15) rfl kK) ?_
    show Goes pP eE bB _ (s₁.setTop (mkF mM 16 #[.val (.int p1), .val (.int p2), .val (.int p3), .val (.int p4), .val (.long q5), .second, .val (.int (1 : Int32)), .unset, .unset, .unset, .unset, .unset, .unset] [(.int (p1 &&& (2 : Int32)))]))
    by_cases hc_129 : (p1 &&& (2 : Int32)) = (0 : Int32)
    · refine Goes.step (fun _ kK => XS.ifYes X0.here hx rfl (pc0 := 16) (pc' := 23) rfl (hb hby at_16) rfl ((if0 _ _).trans (teq hc_129).1) (by decide) (by decide) kK) ?_
      show Goes pP eE bB _ (s₁.setTop (mkF mM 23 #[.val (.int p1), .val (.int p2), .val (.int p3), .val (.int p4), .val (.long q5), .second, .val (.int (1 : Int32)), .unset, .unset, .unset, .unset, .unset, .unset] []))
      refine Goes.step (fun _ kK => XS.iconst X0.here hx rfl (hb hby at_23) kK) ?_
      show Goes pP eE bB _ (s₁.setTop (mkF mM 24 #[.val (.int p1), .val (.int p2), .val (.int p3), .val (.int p4), .val (.long q5), .second, .val (.int (1 : Int32)), .unset, .unset, .unset, .unset, .unset, .unset] [(.int (0 : Int32))]))
      refine Goes.step (fun _ kK => XS.istore X0.here hx rfl (hb hby at_24) rfl (l' := #[.val (.int p1), .val (.int p2), .val (.int p3), .val (.int p4), .val (.long q5), .second, .val (.int (1 : Int32)), .val (.int (0 : Int32)), .unset, .unset, .unset, .unset, .unset]) rfl kK) ?_
      show Goes pP eE bB _ (s₁.setTop (mkF mM 26 #[.val (.int p1), .val (.int p2), .val (.int p3), .val (.int p4), .val (.long q5), .second, .val (.int (1 : Int32)), .val (.int (0 : Int32)), .unset, .unset, .unset, .unset, .unset] []))
      refine Goes.step (fun _ kK => XS.aconstNull X0.here hx rfl (hb hby at_26) kK) ?_
      show Goes pP eE bB _ (s₁.setTop (mkF mM 27 #[.val (.int p1), .val (.int p2), .val (.int p3), .val (.int p4), .val (.long q5), .second, .val (.int (1 : Int32)), .val (.int (0 : Int32)), .unset, .unset, .unset, .unset, .unset] [.null]))
      refine Goes.step (fun _ kK => XS.astore X0.here hx rfl (hb hby at_27) rfl rfl (l' := #[.val (.int p1), .val (.int p2), .val (.int p3), .val (.int p4), .val (.long q5), .second, .val (.int (1 : Int32)), .val (.int (0 : Int32)), .val .null, .unset, .unset, .unset, .unset]) rfl kK) ?_
      show Goes pP eE bB _ (s₁.setTop (mkF mM 29 #[.val (.int p1), .val (.int p2), .val (.int p3), .val (.int p4), .val (.long q5), .second, .val (.int (1 : Int32)), .val (.int (0 : Int32)), .val .null, .unset, .unset, .unset, .unset] []))
      refine Goes.step (fun _ kK => XS.iload X0.here hx rfl (hb hby at_29) rfl kK) ?_
      show Goes pP eE bB _ (s₁.setTop (mkF mM 31 #[.val (.int p1), .val (.int p2), .val (.int p3), .val (.int p4), .val (.long q5), .second, .val (.int (1 : Int32)), .val (.int (0 : Int32)), .val .null, .unset, .unset, .unset, .unset] [(.int (0 : Int32))]))
      refine Goes.step (fun _ kK => XS.ifYes X0.here hx rfl (pc0 := 31) (pc' := 60) rfl (hb hby at_31) rfl ((if0 _ _).trans (teq (by decide)).1) (by decide) (by decide) kK) ?_
      show Goes pP eE bB _ (s₁.setTop (mkF mM 60 #[.val (.int p1), .val (.int p2), .val (.int p3), .val (.int p4), .val (.long q5), .second, .val (.int (1 : Int32)), .val (.int (0 : Int32)), .val .null, .unset, .unset, .unset, .unset] []))
      refine Goes.step (fun _ kK => XS.iload X0.here hx rfl (hb hby at_60) rfl kK) ?_
      show Goes pP eE bB _ (s₁.setTop (mkF mM 62 #[.val (.int p1), .val (.int p2), .val (.int p3), .val (.int p4), .val (.long q5), .second, .val (.int (1 : Int32)), .val (.int (0 : Int32)), .val .null, .unset, .unset, .unset, .unset] [(.int (1 : Int32))]))
      refine Goes.step (fun _ kK => XS.ifNo X0.here hx rfl (hb hby at_62) rfl ((if0 _ _).trans (feq (by decide)).1) kK) ?_
      show Goes pP eE bB _ (s₁.setTop (mkF mM 65 #[.val (.int p1), .val (.int p2), .val (.int p3), .val (.int p4), .val (.long q5), .second, .val (.int (1 : Int32)), .val (.int (0 : Int32)), .val .null, .unset, .unset, .unset, .unset] []))
      obtain ⟨T_130, h_130, X_130, e_130, E_130, A_130, D_130, -, st_130⟩ := newO X0 hx hZ hown (hw _ (List.mem_of_getElem? (i := 1) rfl)) (hw _ (List.mem_of_getElem? (i := 2) rfl)) (hw _ (List.mem_of_getElem? (i := 3) rfl)) e0 (g := (mkF mM 65 #[.val (.int p1), .val (.int p2), .val (.int p3), .val (.int p4), .val (.long q5), .second, .val (.int (1 : Int32)), .val (.int (0 : Int32)), .val .null, .unset, .unset, .unset, .unset] [])) rfl (hb hby at_65) (by decide) (by decide)
      obtain ⟨b_130, g_130⟩ : ∃ z, z = h0.size := ⟨_, rfl⟩
      rw [← g_130] at A_130 D_130 st_130
      have u_131 : n0 ≤ b_130 := Nat.le_trans Z0 (Nat.le_of_eq g_130.symm)
      have u_132 : Fld Z h_130 b_130 "dev/callstitch/call/ResponseBody" "contentType" "Ljava/lang/String;" .null := D_130 (Or.inr (hw _ (List.mem_of_getElem? (i := 14) rfl))) (ty := (.object "java/lang/String")) (by decide)
      have u_133 : Fld Z h_130 b_130 "dev/callstitch/call/ResponseBody" "contentLength" "J" (.long (0 : Int64)) := D_130 (Or.inr (hw _ (List.mem_of_getElem? (i := 16) rfl))) (ty := .long) (by decide)
      have u_134 : Fld Z h_130 b_130 "dev/callstitch/call/ResponseBody" "content" "[B" .null := D_130 (Or.inr (hw _ (List.mem_of_getElem? (i := 18) rfl))) (ty := (.array .byte)) (by decide)
      have u_135 : Fld Z h_130 b_130 "dev/callstitch/call/ResponseBody" "arriving" "Ldev/callstitch/call/ResponseBody$Arriving;" .null := D_130 (Or.inr (hw _ (List.mem_of_getElem? (i := 20) rfl))) (ty := (.object "dev/callstitch/call/ResponseBody$Arriving")) (by decide)
      refine Goes.step st_130 ?_
      show Goes pP eE bB _ (T_130.setTop (mkF mM 68 #[.val (.int p1), .val (.int p2), .val (.int p3), .val (.int p4), .val (.long q5), .second, .val (.int (1 : Int32)), .val (.int (0 : Int32)), .val .null, .unset, .unset, .unset, .unset] [(.ref b_130)]))
      refine Goes.step (fun _ kK => XS.dup X_130.here hx rfl (hb hby at_68) rfl rfl kK) ?_
      show Goes pP eE bB _ (T_130.setTop (mkF mM 69 #[.val (.int p1), .val (.int p2), .val (.int p3), .val (.int p4), .val (.long q5), .second, .val (.int (1 : Int32)), .val (.int (0 : Int32)), .val .null, .unset, .unset, .unset, .unset] [(.ref b_130), (.ref b_130)]))
      refine Goes.step (fun _ kK => XS.aload X_130.here hx rfl (hb hby at_69) rfl rfl kK) ?_
      show Goes pP eE bB _ (T_130.setTop (mkF mM 71 #[.val (.int p1), .val (.int p2), .val (.int p3), .val (.int p4), .val (.long q5), .second, .val (.int (1 : Int32)), .val (.int (0 : Int32)), .val .null, .unset, .unset, .unset, .unset] [.null, (.ref b_130), (.ref b_130)]))
      refine Goes.step (fun _ kK => XS.lload X_130.here hx rfl (hb hby at_71) rfl kK) ?_
      show Goes pP eE bB _ (T_130.setTop (mkF mM 73 #[.val (.int p1), .val (.int p2), .val (.int p3), .val (.int p4), .val (.long q5), .second, .val (.int (1 : Int32)), .val (.int (0 : Int32)), .val .null, .unset, .unset, .unset, .unset] [(.long q5), .null, (.ref b_130), (.ref b_130)]))
      refine Goes.step (fun _ kK => XS.aconstNull X_130.here hx rfl (hb hby at_73) kK) ?_
      show Goes pP eE bB _ (T_130.setTop (mkF mM 74 #[.val (.int p1), .val (.int p2), .val (.int p3), .val (.int p4), .val (.long q5), .second, .val (.int (1 : Int32)), .val (.int (0 : Int32)), .val .null, .unset, .unset, .unset, .unset] [.null, (.long q5), .null, (.ref b_130), (.ref b_130)]))
      refine Goes.step (fun _ kK => XS.aconstNull X_130.here hx rfl (hb hby at_74) kK) ?_
      show Goes pP eE bB _ (T_130.setTop (mkF mM 75 #[.val (.int p1), .val (.int p2), .val (.int p3), .val (.int p4), .val (.long q5), .second, .val (.int (1 : Int32)), .val (.int (0 : Int32)), .val .null, .unset, .unset, .unset, .unset] [.null, .null, (.long q5), .null, (.ref b_130), (.ref b_130)]))
      have u_136 := Nat.le_trans Z0 E_130.1
      refine Goes.callI X_130 hx hZ rfl hown (hw _ (List.mem_of_getElem? (i := 63) rfl)) (hw _ (List.mem_of_getElem? (i := 64) rfl)) (hw _ (List.mem_of_getElem? (i := 65) rfl)) (hw _ (List.mem_of_getElem? (i := 3) rfl)) (by decide) e_130 (rmE1 l Z a0 hw b_130 q5 h_130 n0 u_136 A_130 u_131 u_132 u_133 u_134 u_135) (W := 1) (by decide) (by decide) (by decide) (by decide) (g := (mkF mM 75 #[.val (.int p1), .val (.int p2), .val (.int p3), .val (.int p4), .val (.long q5), .second, .val (.int (1 : Int32)), .val (.int (0 : Int32)), .val .null, .unset, .unset, .unset, .unset] [.null, .null, (.long q5), .null, (.ref b_130), (.ref b_130)])) rfl (by rw [hml]; rfl) (rest := [(.ref b_130)]) own_pd11 rfl rfl (by show 2 * 0 + _ ≤ _; exact Nat.le_of_eq rfl) (hb hby at_75) ?_
      intro v_137 T_137 L_137 X_137 hQ_137
      generalize e_137 : T_137.heap = h_137 at hQ_137
      obtain ⟨rfl, N_137q, K_137, F_137_contentType, F_137_contentLength, x_137, F_137_arriving⟩ := hQ_137
      have N_137 := Fr.app N0 N_137q
      show Goes pP eE bB _ (T_137.setTop (mkF mM 78 #[.val (.int p1), .val (.int p2), .val (.int p3), .val (.int p4), .val (.long q5), .second, .val (.int (1 : Int32)), .val (.int (0 : Int32)), .val .null, .unset, .unset, .unset, .unset] [(.ref b_130)]))
      refine Goes.step (fun _ kK => XS.astore X_137.here hx rfl (hb hby at_78) rfl rfl (l' := #[.val (.int p1), .val (.int p2), .val (.int p3), .val (.int p4), .val (.long q5), .second, .val (.int (1 : Int32)), .val (.int (0 : Int32)), .val .null, .val (.ref b_130), .unset, .unset, .unset]) rfl kK) ?_
      show Goes pP eE bB _ (T_137.setTop (mkF mM 80 #[.val (.int p1), .val (.int p2), .val (.int p3), .val (.int p4), .val (.long q5), .second, .val (.int (1 : Int32)), .val (.int (0 : Int32)), .val .null, .val (.ref b_130), .unset, .unset, .unset] []))
      refine Goes.step (fun _ kK => XS.aload X_137.here hx rfl (hb hby at_80) rfl rfl kK) ?_
      show Goes pP eE bB _ (T_137.setTop (mkF mM 82 #[.val (.int p1), .val (.int p2), .val (.int p3), .val (.int p4), .val (.long q5), .second, .val (.int (1 : Int32)), .val (.int (0 : Int32)), .val .null, .val (.ref b_130), .unset, .unset, .unset] [(.ref b_130)]))
      have u_138 := Nat.le_trans u_136 K_137.1
      have u_140 := A_130.keep K_137
      refine Goes.callV X_137 hx hZ hown (hw _ (List.mem_of_getElem? (i := 21) rfl)) (hw _ (List.mem_of_getElem? (i := 22) rfl)) (notFace_of_selects (args := #[]) (mvT hZ (hw _ (List.mem_of_getElem? (i := 24) rfl)))) (hw _ (List.mem_of_getElem? (i := 24) rfl)) (hw _ (List.mem_of_getElem? (i := 23) rfl)) (hw _ (List.mem_of_getElem? (i := 25) rfl)) (hw _ (List.mem_of_getElem? (i := 3) rfl)) (by decide) e_137 u_140 (rmG1 l Z a0 hw b_130 x_137 h_137 n0 u_138 F_137_arriving) (W := 0) (by decide) (by decide) (by decide) (by decide) (g := (mkF mM 82 #[.val (.int p1), .val (.int p2), .val (.int p3), .val (.int p4), .val (.long q5), .second, .val (.int (1 : Int32)), .val (.int (0 : Int32)), .val .null, .val (.ref b_130), .unset, .unset, .unset] [(.ref b_130)])) rfl (by rw [hml]; rfl) (rest := []) own_pd8 rfl rfl (by show 2 * 0 + _ ≤ _; exact Nat.le_of_eq rfl) (hb hby at_82) ?_
      intro v_139 T_139 L_139 X_139 hQ_139
      obtain ⟨rfl, N_139q, e_139⟩ := hQ_139
      have N_139 := Fr.app N_137 N_139q
      show Goes pP eE bB _ (T_139.setTop (mkF mM 85 #[.val (.int p1), .val (.int p2), .val (.int p3), .val (.int p4), .val (.long q5), .second, .val (.int (1 : Int32)), .val (.int (0 : Int32)), .val .null, .val (.ref b_130), .unset, .unset, .unset] [(.int (1 : Int32))]))
      refine Goes.step (fun _ kK => XS.ifNo X_139.here hx rfl (hb hby at_85) rfl ((if0 _ _).trans (feq (by decide)).1) kK) ?_
      show Goes pP eE bB _ (T_139.setTop (mkF mM 88 #[.val (.int p1), .val (.int p2), .val (.int p3), .val (.int p4), .val (.long q5), .second, .val (.int (1 : Int32)), .val (.int (0 : Int32)), .val .null, .val (.ref b_130), .unset, .unset, .unset] []))
      refine Goes.step (fun _ kK => XS.aload X_139.here hx rfl (hb hby at_88) rfl rfl kK) ?_
      show Goes pP eE bB _ (T_139.setTop (mkF mM 90 #[.val (.int p1), .val (.int p2), .val (.int p3), .val (.int p4), .val (.long q5), .second, .val (.int (1 : Int32)), .val (.int (0 : Int32)), .val .null, .val (.ref b_130), .unset, .unset, .unset] [(.ref b_130)]))
      refine Goes.callV X_139 hx hZ hown (hw _ (List.mem_of_getElem? (i := 31) rfl)) (hw _ (List.mem_of_getElem? (i := 32) rfl)) (notFace_of_selects (args := #[]) (mvT hZ (hw _ (List.mem_of_getElem? (i := 34) rfl)))) (hw _ (List.mem_of_getElem? (i := 34) rfl)) (hw _ (List.mem_of_getElem? (i := 33) rfl)) (hw _ (List.mem_of_getElem? (i := 35) rfl)) (hw _ (List.mem_of_getElem? (i := 3) rfl)) (by decide) e_139 u_140 (rmGl l Z a0 hw b_130 q5 h_137 n0 u_138 F_137_contentLength) (W := 0) (by decide) (by decide) (by decide) (by decide) (g := (mkF mM 90 #[.val (.int p1), .val (.int p2), .val (.int p3), .val (.int p4), .val (.long q5), .second, .val (.int (1 : Int32)), .val (.int (0 : Int32)), .val .null, .val (.ref b_130), .unset, .unset, .unset] [(.ref b_130)])) rfl (by rw [hml]; rfl) (rest := []) own_pd9 rfl rfl (by show 2 * 0 + _ ≤ _; exact Nat.le_of_eq rfl) (hb hby at_90) ?_
      intro v_141 T_141 L_141 X_141 hQ_141
      obtain ⟨rfl, N_141q, e_141⟩ := hQ_141
      have N_141 := Fr.app N_139 N_141q
      show Goes pP eE bB _ (T_141.setTop (mkF mM 93 #[.val (.int p1), .val (.int p2), .val (.int p3), .val (.int p4), .val (.long q5), .second, .val (.int (1 : Int32)), .val (.int (0 : Int32)), .val .null, .val (.ref b_130), .unset, .unset, .unset] [(.long q5)]))
      refine Goes.step (fun _ kK => XS.lload X_141.here hx rfl (hb hby at_93) rfl kK) ?_
      show Goes pP eE bB _ (T_141.setTop (mkF mM 95 #[.val (.int p1), .val (.int p2), .val (.int p3), .val (.int p4), .val (.long q5), .second, .val (.int (1 : Int32)), .val (.int (0 : Int32)), .val .null, .val (.ref b_130), .unset, .unset, .unset] [(.long q5), (.long q5)]))
      refine Goes.step (fun _ kK => XS.lcmp X_141.here hx rfl (hb hby at_95) rfl kK) ?_
      show Goes pP eE bB _ (T_141.setTop (mkF mM 96 #[.val (.int p1), .val (.int p2), .val (.int p3), .val (.int p4), .val (.long q5), .second, .val (.int (1 : Int32)), .val (.int (0 : Int32)), .val .null, .val (.ref b_130), .unset, .unset, .unset] [(.int (lcmpW q5 q5))]))
      have hb_142 : q5 = q5 := rfl
      refine Goes.step (fun _ kK => XS.ifNo X_141.here hx rfl (hb hby at_96) rfl ((if0 _ _).trans (teq (jeq.mpr hb_142)).2) kK) ?_
      show Goes pP eE bB _ (T_141.setTop (mkF mM 99 #[.val (.int p1), .val (.int p2), .val (.int p3), .val (.int p4), .val (.long q5), .second, .val (.int (1 : Int32)), .val (.int (0 : Int32)), .val .null, .val (.ref b_130), .unset, .unset, .unset] []))
      refine Goes.step (fun _ kK => XS.aload X_141.here hx rfl (hb hby at_99) rfl rfl kK) ?_
      show Goes pP eE bB _ (T_141.setTop (mkF mM 101 #[.val (.int p1), .val (.int p2), .val (.int p3), .val (.int p4), .val (.long q5), .second, .val (.int (1 : Int32)), .val (.int (0 : Int32)), .val .null, .val (.ref b_130), .unset, .unset, .unset] [(.ref b_130)]))
      refine Goes.callV X_141 hx hZ hown (hw _ (List.mem_of_getElem? (i := 82) rfl)) (hw _ (List.mem_of_getElem? (i := 83) rfl)) (notFace_of_selects (args := #[]) (mvT hZ (hw _ (List.mem_of_getElem? (i := 85) rfl)))) (hw _ (List.mem_of_getElem? (i := 85) rfl)) (hw _ (List.mem_of_getElem? (i := 84) rfl)) (hw _ (List.mem_of_getElem? (i := 86) rfl)) (hw _ (List.mem_of_getElem? (i := 3) rfl)) (by decide) e_141 u_140 (rmGt0 l Z a0 hw b_130 h_137 n0 u_138 F_137_contentType) (W := 0) (by decide) (by decide) (by decide) (by decide) (g := (mkF mM 101 #[.val (.int p1), .val (.int p2), .val (.int p3), .val (.int p4), .val (.long q5), .second, .val (.int (1 : Int32)), .val (.int (0 : Int32)), .val .null, .val (.ref b_130), .unset, .unset, .unset] [(.ref b_130)])) rfl (by rw [hml]; rfl) (rest := []) own_pd12 rfl rfl (by show 2 * 0 + _ ≤ _; exact Nat.le_of_eq rfl) (hb hby at_101) ?_
      intro v_143 T_143 L_143 X_143 hQ_143
      obtain ⟨rfl, N_143q, e_143⟩ := hQ_143
      have N_143 := Fr.app N_141 N_143q
      show Goes pP eE bB _ (T_143.setTop (mkF mM 104 #[.val (.int p1), .val (.int p2), .val (.int p3), .val (.int p4), .val (.long q5), .second, .val (.int (1 : Int32)), .val (.int (0 : Int32)), .val .null, .val (.ref b_130), .unset, .unset, .unset] [.null]))
      refine Goes.step (fun _ kK => XS.aload X_143.here hx rfl (hb hby at_104) rfl rfl kK) ?_
      show Goes pP eE bB _ (T_143.setTop (mkF mM 106 #[.val (.int p1), .val (.int p2), .val (.int p3), .val (.int p4), .val (.long q5), .second, .val (.int (1 : Int32)), .val (.int (0 : Int32)), .val .null, .val (.ref b_130), .unset, .unset, .unset] [.null, .null]))
      refine Goes.step (fun _ kK => Jvm.RoadKit.acmp (g := (mkF mM 106 #[.val (.int p1), .val (.int p2), .val (.int p3), .val (.int p4), .val (.long q5), .second, .val (.int (1 : Int32)), .val (.int (0 : Int32)), .val .null, .val (.ref b_130), .unset, .unset, .unset] [.null, .null])) X_143 hx rfl rfl rfl (pc0 := 106) (pc' := 109) (same := true) rfl (hb hby at_106) rfl (decide_eq_true rfl) (by decide) (by decide) kK) ?_
      show Goes pP eE bB _ (T_143.setTop (mkF mM 109 #[.val (.int p1), .val (.int p2), .val (.int p3), .val (.int p4), .val (.long q5), .second, .val (.int (1 : Int32)), .val (.int (0 : Int32)), .val .null, .val (.ref b_130), .unset, .unset, .unset] []))
      refine Goes.step (fun _ kK => XS.iconst X_143.here hx rfl (hb hby at_109) kK) ?_
      show Goes pP eE bB _ (T_143.setTop (mkF mM 110 #[.val (.int p1), .val (.int p2), .val (.int p3), .val (.int p4), .val (.long q5), .second, .val (.int (1 : Int32)), .val (.int (0 : Int32)), .val .null, .val (.ref b_130), .unset, .unset, .unset] [(.int (1 : Int32))]))
      refine Goes.step (fun _ kK => XS.goto X_143.here hx rfl (pc0 := 110) (pc' := 114) rfl (hb hby at_110) (by decide) (by decide) kK) ?_
      show Goes pP eE bB _ (T_143.setTop (mkF mM 114 #[.val (.int p1), .val (.int p2), .val (.int p3), .val (.int p4), .val (.long q5), .second, .val (.int (1 : Int32)), .val (.int (0 : Int32)), .val .null, .val (.ref b_130), .unset, .unset, .unset] [(.int (1 : Int32))]))
      refine Goes.retN X_143 hx hlk (t := .boolean) hret (by simp) (hb hby at_114) (by decide) (by decide) ?_
      exact ⟨rfl, N_143⟩
    · refine Goes.step (fun _ kK => XS.ifNo X0.here hx rfl (hb hby at_16) rfl ((if0 _ _).trans (feq hc_129).1) kK) ?_
      show Goes pP eE bB _ (s₁.setTop (mkF mM 19 #[.val (.int p1), .val (.int p2), .val (.int p3), .val (.int p4), .val (.long q5), .second, .val (.int (1 : Int32)), .unset, .unset, .unset, .unset, .unset, .unset] []))
      refine Goes.step (fun _ kK => XS.iconst X0.here hx rfl (hb hby at_19) kK) ?_
      show Goes pP eE bB _ (s₁.setTop (mkF mM 20 #[.val (.int p1), .val (.int p2), .val (.int p3), .val (.int p4), .val (.long q5), .second, .val (.int (1 : Int32)), .unset, .unset, .unset, .unset, .unset, .unset] [(.int (1 : Int32))]))
      refine Goes.step (fun _ kK => XS.goto X0.here hx rfl (pc0 := 20) (pc' := 24) rfl (hb hby at_20) (by decide) (by decide) kK) ?_
      show Goes pP eE bB _ (s₁.setTop (mkF mM 24 #[.val (.int p1), .val (.int p2), .val (.int p3), .val (.int p4), .val (.long q5), .second, .val (.int (1 : Int32)), .unset, .unset, .unset, .unset, .unset, .unset] [(.int (1 : Int32))]))
      refine Goes.step (fun _ kK => XS.istore X0.here hx rfl (hb hby at_24) rfl (l' := #[.val (.int p1), .val (.int p2), .val (.int p3), .val (.int p4), .val (.long q5), .second, .val (.int (1 : Int32)), .val (.int (1 : Int32)), .unset, .unset, .unset, .unset, .unset]) rfl kK) ?_
      show Goes pP eE bB _ (s₁.setTop (mkF mM 26 #[.val (.int p1), .val (.int p2), .val (.int p3), .val (.int p4), .val (.long q5), .second, .val (.int (1 : Int32)), .val (.int (1 : Int32)), .unset, .unset, .unset, .unset, .unset] []))
      refine Goes.step (fun _ kK => XS.aconstNull X0.here hx rfl (hb hby at_26) kK) ?_
      show Goes pP eE bB _ (s₁.setTop (mkF mM 27 #[.val (.int p1), .val (.int p2), .val (.int p3), .val (.int p4), .val (.long q5), .second, .val (.int (1 : Int32)), .val (.int (1 : Int32)), .unset, .unset, .unset, .unset, .unset] [.null]))
      refine Goes.step (fun _ kK => XS.astore X0.here hx rfl (hb hby at_27) rfl rfl (l' := #[.val (.int p1), .val (.int p2), .val (.int p3), .val (.int p4), .val (.long q5), .second, .val (.int (1 : Int32)), .val (.int (1 : Int32)), .val .null, .unset, .unset, .unset, .unset]) rfl kK) ?_
      show Goes pP eE bB _ (s₁.setTop (mkF mM 29 #[.val (.int p1), .val (.int p2), .val (.int p3), .val (.int p4), .val (.long q5), .second, .val (.int (1 : Int32)), .val (.int (1 : Int32)), .val .null, .unset, .unset, .unset, .unset] []))
      refine Goes.step (fun _ kK => XS.iload X0.here hx rfl (hb hby at_29) rfl kK) ?_
      show Goes pP eE bB _ (s₁.setTop (mkF mM 31 #[.val (.int p1), .val (.int p2), .val (.int p3), .val (.int p4), .val (.long q5), .second, .val (.int (1 : Int32)), .val (.int (1 : Int32)), .val .null, .unset, .unset, .unset, .unset] [(.int (1 : Int32))]))
      refine Goes.step (fun _ kK => XS.ifNo X0.here hx rfl (hb hby at_31) rfl ((if0 _ _).trans (feq (by decide)).1) kK) ?_
      show Goes pP eE bB _ (s₁.setTop (mkF mM 34 #[.val (.int p1), .val (.int p2), .val (.int p3), .val (.int p4), .val (.long q5), .second, .val (.int (1 : Int32)), .val (.int (1 : Int32)), .val .null, .unset, .unset, .unset, .unset] []))
      refine Goes.step (fun _ kK => XS.iconst X0.here hx rfl (hb hby at_34) kK) ?_
      show Goes pP eE bB _ (s₁.setTop (mkF mM 35 #[.val (.int p1), .val (.int p2), .val (.int p3), .val (.int p4), .val (.long q5), .second, .val (.int (1 : Int32)), .val (.int (1 : Int32)), .val .null, .unset, .unset, .unset, .unset] [(.int (1 : Int32))]))
      obtain ⟨T_144, h_144, k_144, X_144, e_144, E_144, A_144, M_144, st_144⟩ := newPE X0 hx hZ (hw _ (List.mem_of_getElem? (i := 36) rfl)) e0 (g := (mkF mM 35 #[.val (.int p1), .val (.int p2), .val (.int p3), .val (.int p4), .val (.long q5), .second, .val (.int (1 : Int32)), .val (.int (1 : Int32)), .val .null, .unset, .unset, .unset, .unset] [(.int (1 : Int32))])) rfl (hb hby at_35) rfl (by decide) (cap := 1) (by decide) (by decide) (by decide) (by decide) (ad := "[C") rfl
      obtain ⟨b_144, g_144⟩ : ∃ z, z = h0.size := ⟨_, rfl⟩
      rw [← g_144] at A_144 M_144 st_144
      have u_145 : n0 ≤ b_144 := Nat.le_trans Z0 (Nat.le_of_eq g_144.symm)
      have u_146 : Afn Z h_144 b_144 .char 1 (fun _ => (.int (0 : Int32))) := Afn.new (n := 1) A_144 (by decide)
      refine Goes.step st_144 ?_
      show Goes pP eE bB _ (T_144.setTop (mkF mM 37 #[.val (.int p1), .val (.int p2), .val (.int p3), .val (.int p4), .val (.long q5), .second, .val (.int (1 : Int32)), .val (.int (1 : Int32)), .val .null, .unset, .unset, .unset, .unset] [(.ref b_144)]))
      refine Goes.step (fun _ kK => XS.astore X_144.here hx rfl (hb hby at_37) rfl rfl (l' := #[.val (.int p1), .val (.int p2), .val (.int p3), .val (.int p4), .val (.long q5), .second, .val (.int (1 : Int32)), .val (.int (1 : Int32)), .val .null, .val (.ref b_144), .unset, .unset, .unset]) rfl kK) ?_
      show Goes pP eE bB _ (T_144.setTop (mkF mM 39 #[.val (.int p1), .val (.int p2), .val (.int p3), .val (.int p4), .val (.long q5), .second, .val (.int (1 : Int32)), .val (.int (1 : Int32)), .val .null, .val (.ref b_144), .unset, .unset, .unset] []))
      refine Goes.step (fun _ kK => XS.aload X_144.here hx rfl (hb hby at_39) rfl rfl kK) ?_
      show Goes pP eE bB _ (T_144.setTop (mkF mM 41 #[.val (.int p1), .val (.int p2), .val (.int p3), .val (.int p4), .val (.long q5), .second, .val (.int (1 : Int32)), .val (.int (1 : Int32)), .val .null, .val (.ref b_144), .unset, .unset, .unset] [(.ref b_144)]))
      refine Goes.step (fun _ kK => XS.iconst X_144.here hx rfl (hb hby at_41) kK) ?_
      show Goes pP eE bB _ (T_144.setTop (mkF mM 42 #[.val (.int p1), .val (.int p2), .val (.int p3), .val (.int p4), .val (.long q5), .second, .val (.int (1 : Int32)), .val (.int (1 : Int32)), .val .null, .val (.ref b_144), .unset, .unset, .unset] [(.int (0 : Int32)), (.ref b_144)]))
      refine Goes.step (fun _ kK => XS.iloadN X_144.here hx rfl (hb hby at_42) rfl kK) ?_
      show Goes pP eE bB _ (T_144.setTop (mkF mM 43 #[.val (.int p1), .val (.int p2), .val (.int p3), .val (.int p4), .val (.long q5), .second, .val (.int (1 : Int32)), .val (.int (1 : Int32)), .val .null, .val (.ref b_144), .unset, .unset, .unset] [(.int p4), (.int (0 : Int32)), (.ref b_144)]))
      refine Goes.step (fun _ kK => XS.sipush X_144.here hx rfl (hb hby at_43) kK) ?_
      show Goes pP eE bB _ (T_144.setTop (mkF mM 46 #[.val (.int p1), .val (.int p2), .val (.int p3), .val (.int p4), .val (.long q5), .second, .val (.int (1 : Int32)), .val (.int (1 : Int32)), .val .null, .val (.ref b_144), .unset, .unset, .unset] [(.int (255 : Int32)), (.int p4), (.int (0 : Int32)), (.ref b_144)]))
      refine Goes.step (fun _ kK => XS.iand X_144.here hx rfl (hb hby at_46) rfl kK) ?_
      show Goes pP eE bB _ (T_144.setTop (mkF mM 47 #[.val (.int p1), .val (.int p2), .val (.int p3), .val (.int p4), .val (.long q5), .second, .val (.int (1 : Int32)), .val (.int (1 : Int32)), .val .null, .val (.ref b_144), .unset, .unset, .unset] [(.int (p4 &&& (255 : Int32))), (.int (0 : Int32)), (.ref b_144)]))
      refine Goes.step (fun _ kK => XS.i2c X_144.here hx rfl (hb hby at_47) rfl kK) ?_
      show Goes pP eE bB _ (T_144.setTop (mkF mM 48 #[.val (.int p1), .val (.int p2), .val (.int p3), .val (.int p4), .val (.long q5), .second, .val (.int (1 : Int32)), .val (.int (1 : Int32)), .val .null, .val (.ref b_144), .unset, .unset, .unset] [(.int ((p4 &&& (255 : Int32)).toUInt32.toUInt16.toUInt32.toInt32)), (.int (0 : Int32)), (.ref b_144)]))
      refine Goes.castore X_144 hx hZ e_144 u_146 (i := 0) (by decide) (by decide) (g := (mkF mM 48 #[.val (.int p1), .val (.int p2), .val (.int p3), .val (.int p4), .val (.long q5), .second, .val (.int (1 : Int32)), .val (.int (1 : Int32)), .val .null, .val (.ref b_144), .unset, .unset, .unset] [(.int ((p4 &&& (255 : Int32)).toUInt32.toUInt16.toUInt32.toInt32)), (.int (0 : Int32)), (.ref b_144)])) rfl rfl (hb hby at_48) ?_
      intro T_147 h_147 X_147 e_147 W_147 A_147
      have N_147 := Fr.snoc X_147 N0 u_145
      show Goes pP eE bB _ (T_147.setTop (mkF mM 49 #[.val (.int p1), .val (.int p2), .val (.int p3), .val (.int p4), .val (.long q5), .second, .val (.int (1 : Int32)), .val (.int (1 : Int32)), .val .null, .val (.ref b_144), .unset, .unset, .unset] []))
      obtain ⟨T_148, h_148, X_148, e_148, E_148, A_148, D_148, -, st_148⟩ := newO X_147 hx hZ hown (hw _ (List.mem_of_getElem? (i := 37) rfl)) (hw _ (List.mem_of_getElem? (i := 38) rfl)) (hw _ (List.mem_of_getElem? (i := 39) rfl)) e_147 (g := (mkF mM 49 #[.val (.int p1), .val (.int p2), .val (.int p3), .val (.int p4), .val (.long q5), .second, .val (.int (1 : Int32)), .val (.int (1 : Int32)), .val .null, .val (.ref b_144), .unset, .unset, .unset] [])) rfl (hb hby at_49) (by decide) (by decide)
      obtain ⟨b_148, g_148⟩ : ∃ z, z = h_147.size := ⟨_, rfl⟩
      rw [← g_148] at A_148 D_148 st_148
      have u_149 : b_144 < b_148 := Nat.lt_of_lt_of_le (A_147).lt (Nat.le_of_eq g_148.symm)
      have u_150 := Nat.le_trans Z0 E_144.1
      have u_151 := Nat.le_trans u_150 (Keep.of_wr W_147).1
      have u_152 : n0 ≤ b_148 := Nat.le_trans u_151 (Nat.le_of_eq g_148.symm)
      have u_153 : Fld Z h_148 b_148 "java/lang/String" "coder" "B" (.int (0 : Int32)) := D_148 (Or.inr (hw _ (List.mem_of_getElem? (i := 60) rfl))) (ty := .byte) (by decide)
      have u_154 : Fld Z h_148 b_148 "java/lang/String" "value" "[B" .null := D_148 (Or.inr (hw _ (List.mem_of_getElem? (i := 62) rfl))) (ty := (.array .byte)) (by decide)
      refine Goes.step st_148 ?_
      show Goes pP eE bB _ (T_148.setTop (mkF mM 52 #[.val (.int p1), .val (.int p2), .val (.int p3), .val (.int p4), .val (.long q5), .second, .val (.int (1 : Int32)), .val (.int (1 : Int32)), .val .null, .val (.ref b_144), .unset, .unset, .unset] [(.ref b_148)]))
      refine Goes.step (fun _ kK => XS.dup X_148.here hx rfl (hb hby at_52) rfl rfl kK) ?_
      show Goes pP eE bB _ (T_148.setTop (mkF mM 53 #[.val (.int p1), .val (.int p2), .val (.int p3), .val (.int p4), .val (.long q5), .second, .val (.int (1 : Int32)), .val (.int (1 : Int32)), .val .null, .val (.ref b_144), .unset, .unset, .unset] [(.ref b_148), (.ref b_148)]))
      refine Goes.step (fun _ kK => XS.aload X_148.here hx rfl (hb hby at_53) rfl rfl kK) ?_
      show Goes pP eE bB _ (T_148.setTop (mkF mM 55 #[.val (.int p1), .val (.int p2), .val (.int p3), .val (.int p4), .val (.long q5), .second, .val (.int (1 : Int32)), .val (.int (1 : Int32)), .val .null, .val (.ref b_144), .unset, .unset, .unset] [(.ref b_144), (.ref b_148), (.ref b_148)]))
      have u_155 := O0.ext E_144
      have u_156 := u_155.wr W_147 u_145
      have u_157 := u_156.ext E_148
      have u_158 := Nat.le_trans u_151 E_148.1
      have u_159 := A_147.ext E_148
      refine Goes.callI X_148 hx hZ rfl hown (hw _ (List.mem_of_getElem? (i := 40) rfl)) (hw _ (List.mem_of_getElem? (i := 41) rfl)) (hw _ (List.mem_of_getElem? (i := 42) rfl)) (hw _ (List.mem_of_getElem? (i := 39) rfl)) (by decide) e_148 (rmS5_1 l Z a0 hw b_148 b_144 (nar .char ((p4 &&& (255 : Int32)).toUInt32.toUInt16.toUInt32.toInt32)) cs h_148 n0 u_158 Scs hcs u_157 _ u_159 A_148 u_152 u_153 u_154 rfl (own_ch p4)) (W := 1) (by decide) (by decide) (by decide) (by decide) (g := (mkF mM 55 #[.val (.int p1), .val (.int p2), .val (.int p3), .val (.int p4), .val (.long q5), .second, .val (.int (1 : Int32)), .val (.int (1 : Int32)), .val .null, .val (.ref b_144), .unset, .unset, .unset] [(.ref b_144), (.ref b_148), (.ref b_148)])) rfl (by rw [hml]; rfl) (rest := [(.ref b_148)]) own_pd10 rfl rfl (by show 2 * 0 + _ ≤ _; exact Nat.le_of_eq rfl) (hb hby at_55) ?_
      intro v_160 T_160 L_160 X_160 hQ_160
      generalize e_160 : T_160.heap = h_160 at hQ_160
      obtain ⟨rfl, N_160q, K_160, F_160c, b_160, F_160v, s_160, A_160, M_160⟩ := hQ_160
      have N_160 := Fr.app N_147 N_160q
      have u_161 := Nat.lt_of_lt_of_le (A_147).lt E_148.1
      have u_162 : b_144 < b_160 := Nat.lt_of_lt_of_le u_161 s_160
      have u_163 : b_148 < b_160 := Nat.lt_of_lt_of_le (A_148).lt s_160
      have u_164 : n0 ≤ b_160 := Nat.le_trans u_158 s_160
      show Goes pP eE bB _ (T_160.setTop (mkF mM 58 #[.val (.int p1), .val (.int p2), .val (.int p3), .val (.int p4), .val (.long q5), .second, .val (.int (1 : Int32)), .val (.int (1 : Int32)), .val .null, .val (.ref b_144), .unset, .unset, .unset] [(.ref b_148)]))
      refine Goes.step (fun _ kK => XS.astore X_160.here hx rfl (hb hby at_58) rfl rfl (l' := #[.val (.int p1), .val (.int p2), .val (.int p3), .val (.int p4), .val (.long q5), .second, .val (.int (1 : Int32)), .val (.int (1 : Int32)), .val (.ref b_148), .val (.ref b_144), .unset, .unset, .unset]) rfl kK) ?_
      show Goes pP eE bB _ (T_160.setTop (mkF mM 60 #[.val (.int p1), .val (.int p2), .val (.int p3), .val (.int p4), .val (.long q5), .second, .val (.int (1 : Int32)), .val (.int (1 : Int32)), .val (.ref b_148), .val (.ref b_144), .unset, .unset, .unset] []))
      refine Goes.step (fun _ kK => XS.iload X_160.here hx rfl (hb hby at_60) rfl kK) ?_
      show Goes pP eE bB _ (T_160.setTop (mkF mM 62 #[.val (.int p1), .val (.int p2), .val (.int p3), .val (.int p4), .val (.long q5), .second, .val (.int (1 : Int32)), .val (.int (1 : Int32)), .val (.ref b_148), .val (.ref b_144), .unset, .unset, .unset] [(.int (1 : Int32))]))
      refine Goes.step (fun _ kK => XS.ifNo X_160.here hx rfl (hb hby at_62) rfl ((if0 _ _).trans (feq (by decide)).1) kK) ?_
      show Goes pP eE bB _ (T_160.setTop (mkF mM 65 #[.val (.int p1), .val (.int p2), .val (.int p3), .val (.int p4), .val (.long q5), .second, .val (.int (1 : Int32)), .val (.int (1 : Int32)), .val (.ref b_148), .val (.ref b_144), .unset, .unset, .unset] []))
      obtain ⟨T_165, h_165, X_165, e_165, E_165, A_165, D_165, -, st_165⟩ := newO X_160 hx hZ hown (hw _ (List.mem_of_getElem? (i := 1) rfl)) (hw _ (List.mem_of_getElem? (i := 2) rfl)) (hw _ (List.mem_of_getElem? (i := 3) rfl)) e_160 (g := (mkF mM 65 #[.val (.int p1), .val (.int p2), .val (.int p3), .val (.int p4), .val (.long q5), .second, .val (.int (1 : Int32)), .val (.int (1 : Int32)), .val (.ref b_148), .val (.ref b_144), .unset, .unset, .unset] [])) rfl (hb hby at_65) (by decide) (by decide)
      obtain ⟨b_165, g_165⟩ : ∃ z, z = h_160.size := ⟨_, rfl⟩
      rw [← g_165] at A_165 D_165 st_165
      have u_166 := Nat.lt_of_lt_of_le u_161 K_160.1
      have u_167 : b_144 < b_165 := Nat.lt_of_lt_of_le u_166 (Nat.le_of_eq g_165.symm)
      have u_168 := Nat.lt_of_lt_of_le (A_148).lt K_160.1
      have u_169 : b_148 < b_165 := Nat.lt_of_lt_of_le u_168 (Nat.le_of_eq g_165.symm)
      have u_170 : b_160 < b_165 := Nat.lt_of_lt_of_le (A_160).lt (Nat.le_of_eq g_165.symm)
      have u_171 := Nat.le_trans u_158 K_160.1
      have u_172 : n0 ≤ b_165 := Nat.le_trans u_171 (Nat.le_of_eq g_165.symm)
      have u_173 : Fld Z h_165 b_165 "dev/callstitch/call/ResponseBody" "contentType" "Ljava/lang/String;" .null := D_165 (Or.inr (hw _ (List.mem_of_getElem? (i := 14) rfl))) (ty := (.object "java/lang/String")) (by decide)
      have u_174 : Fld Z h_165 b_165 "dev/callstitch/call/ResponseBody" "contentLength" "J" (.long (0 : Int64)) := D_165 (Or.inr (hw _ (List.mem_of_getElem? (i := 16) rfl))) (ty := .long) (by decide)
      have u_175 : Fld Z h_165 b_165 "dev/callstitch/call/ResponseBody" "content" "[B" .null := D_165 (Or.inr (hw _ (List.mem_of_getElem? (i := 18) rfl))) (ty := (.array .byte)) (by decide)
      have u_176 : Fld Z h_165 b_165 "dev/callstitch/call/ResponseBody" "arriving" "Ldev/callstitch/call/ResponseBody$Arriving;" .null := D_165 (Or.inr (hw _ (List.mem_of_getElem? (i := 20) rfl))) (ty := (.object "dev/callstitch/call/ResponseBody$Arriving")) (by decide)
      refine Goes.step st_165 ?_
      show Goes pP eE bB _ (T_165.setTop (mkF mM 68 #[.val (.int p1), .val (.int p2), .val (.int p3), .val (.int p4), .val (.long q5), .second, .val (.int (1 : Int32)), .val (.int (1 : Int32)), .val (.ref b_148), .val (.ref b_144), .unset, .unset, .unset] [(.ref b_165)]))
      refine Goes.step (fun _ kK => XS.dup X_165.here hx rfl (hb hby at_68) rfl rfl kK) ?_
      show Goes pP eE bB _ (T_165.setTop (mkF mM 69 #[.val (.int p1), .val (.int p2), .val (.int p3), .val (.int p4), .val (.long q5), .second, .val (.int (1 : Int32)), .val (.int (1 : Int32)), .val (.ref b_148), .val (.ref b_144), .unset, .unset, .unset] [(.ref b_165), (.ref b_165)]))
      refine Goes.step (fun _ kK => XS.aload X_165.here hx rfl (hb hby at_69) rfl rfl kK) ?_
      show Goes pP eE bB _ (T_165.setTop (mkF mM 71 #[.val (.int p1), .val (.int p2), .val (.int p3), .val (.int p4), .val (.long q5), .second, .val (.int (1 : Int32)), .val (.int (1 : Int32)), .val (.ref b_148), .val (.ref b_144), .unset, .unset, .unset] [(.ref b_148), (.ref b_165), (.ref b_165)]))
      refine Goes.step (fun _ kK => XS.lload X_165.here hx rfl (hb hby at_71) rfl kK) ?_
      show Goes pP eE bB _ (T_165.setTop (mkF mM 73 #[.val (.int p1), .val (.int p2), .val (.int p3), .val (.int p4), .val (.long q5), .second, .val (.int (1 : Int32)), .val (.int (1 : Int32)), .val (.ref b_148), .val (.ref b_144), .unset, .unset, .unset] [(.long q5), (.ref b_148), (.ref b_165), (.ref b_165)]))
      refine Goes.step (fun _ kK => XS.aconstNull X_165.here hx rfl (hb hby at_73) kK) ?_
      show Goes pP eE bB _ (T_165.setTop (mkF mM 74 #[.val (.int p1), .val (.int p2), .val (.int p3), .val (.int p4), .val (.long q5), .second, .val (.int (1 : Int32)), .val (.int (1 : Int32)), .val (.ref b_148), .val (.ref b_144), .unset, .unset, .unset] [.null, (.long q5), (.ref b_148), (.ref b_165), (.ref b_165)]))
      refine Goes.step (fun _ kK => XS.aconstNull X_165.here hx rfl (hb hby at_74) kK) ?_
      show Goes pP eE bB _ (T_165.setTop (mkF mM 75 #[.val (.int p1), .val (.int p2), .val (.int p3), .val (.int p4), .val (.long q5), .second, .val (.int (1 : Int32)), .val (.int (1 : Int32)), .val (.ref b_148), .val (.ref b_144), .unset, .unset, .unset] [.null, .null, (.long q5), (.ref b_148), (.ref b_165), (.ref b_165)]))
      have u_177 := Nat.le_trans u_171 E_165.1
      refine Goes.callI X_165 hx hZ rfl hown (hw _ (List.mem_of_getElem? (i := 63) rfl)) (hw _ (List.mem_of_getElem? (i := 64) rfl)) (hw _ (List.mem_of_getElem? (i := 65) rfl)) (hw _ (List.mem_of_getElem? (i := 3) rfl)) (by decide) e_165 (rmE0 l Z a0 hw b_165 b_148 q5 h_165 n0 u_177 A_165 u_172 u_173 u_174 u_175 u_176) (W := 1) (by decide) (by decide) (by decide) (by decide) (g := (mkF mM 75 #[.val (.int p1), .val (.int p2), .val (.int p3), .val (.int p4), .val (.long q5), .second, .val (.int (1 : Int32)), .val (.int (1 : Int32)), .val (.ref b_148), .val (.ref b_144), .unset, .unset, .unset] [.null, .null, (.long q5), (.ref b_148), (.ref b_165), (.ref b_165)])) rfl (by rw [hml]; rfl) (rest := [(.ref b_165)]) own_pd11 rfl rfl (by show 2 * 0 + _ ≤ _; exact Nat.le_of_eq rfl) (hb hby at_75) ?_
      intro v_178 T_178 L_178 X_178 hQ_178
      generalize e_178 : T_178.heap = h_178 at hQ_178
      obtain ⟨rfl, N_178q, K_178, F_178_contentType, F_178_contentLength, x_178, F_178_arriving⟩ := hQ_178
      have N_178 := Fr.app N_160 N_178q
      show Goes pP eE bB _ (T_178.setTop (mkF mM 78 #[.val (.int p1), .val (.int p2), .val (.int p3), .val (.int p4), .val (.long q5), .second, .val (.int (1 : Int32)), .val (.int (1 : Int32)), .val (.ref b_148), .val (.ref b_144), .unset, .unset, .unset] [(.ref b_165)]))
      refine Goes.step (fun _ kK => XS.astore X_178.here hx rfl (hb hby at_78) rfl rfl (l' := #[.val (.int p1), .val (.int p2), .val (.int p3), .val (.int p4), .val (.long q5), .second, .val (.int (1 : Int32)), .val (.int (1 : Int32)), .val (.ref b_148), .val (.ref b_165), .unset, .unset, .unset]) rfl kK) ?_
      show Goes pP eE bB _ (T_178.setTop (mkF mM 80 #[.val (.int p1), .val (.int p2), .val (.int p3), .val (.int p4), .val (.long q5), .second, .val (.int (1 : Int32)), .val (.int (1 : Int32)), .val (.ref b_148), .val (.ref b_165), .unset, .unset, .unset] []))
      refine Goes.step (fun _ kK => XS.aload X_178.here hx rfl (hb hby at_80) rfl rfl kK) ?_
      show Goes pP eE bB _ (T_178.setTop (mkF mM 82 #[.val (.int p1), .val (.int p2), .val (.int p3), .val (.int p4), .val (.long q5), .second, .val (.int (1 : Int32)), .val (.int (1 : Int32)), .val (.ref b_148), .val (.ref b_165), .unset, .unset, .unset] [(.ref b_165)]))
      have u_179 := Nat.le_trans u_177 K_178.1
      have u_181 := A_165.keep K_178
      refine Goes.callV X_178 hx hZ hown (hw _ (List.mem_of_getElem? (i := 21) rfl)) (hw _ (List.mem_of_getElem? (i := 22) rfl)) (notFace_of_selects (args := #[]) (mvT hZ (hw _ (List.mem_of_getElem? (i := 24) rfl)))) (hw _ (List.mem_of_getElem? (i := 24) rfl)) (hw _ (List.mem_of_getElem? (i := 23) rfl)) (hw _ (List.mem_of_getElem? (i := 25) rfl)) (hw _ (List.mem_of_getElem? (i := 3) rfl)) (by decide) e_178 u_181 (rmG1 l Z a0 hw b_165 x_178 h_178 n0 u_179 F_178_arriving) (W := 0) (by decide) (by decide) (by decide) (by decide) (g := (mkF mM 82 #[.val (.int p1), .val (.int p2), .val (.int p3), .val (.int p4), .val (.long q5), .second, .val (.int (1 : Int32)), .val (.int (1 : Int32)), .val (.ref b_148), .val (.ref b_165), .unset, .unset, .unset] [(.ref b_165)])) rfl (by rw [hml]; rfl) (rest := []) own_pd8 rfl rfl (by show 2 * 0 + _ ≤ _; exact Nat.le_of_eq rfl) (hb hby at_82) ?_
      intro v_180 T_180 L_180 X_180 hQ_180
      obtain ⟨rfl, N_180q, e_180⟩ := hQ_180
      have N_180 := Fr.app N_178 N_180q
      show Goes pP eE bB _ (T_180.setTop (mkF mM 85 #[.val (.int p1), .val (.int p2), .val (.int p3), .val (.int p4), .val (.long q5), .second, .val (.int (1 : Int32)), .val (.int (1 : Int32)), .val (.ref b_148), .val (.ref b_165), .unset, .unset, .unset] [(.int (1 : Int32))]))
      refine Goes.step (fun _ kK => XS.ifNo X_180.here hx rfl (hb hby at_85) rfl ((if0 _ _).trans (feq (by decide)).1) kK) ?_
      show Goes pP eE bB _ (T_180.setTop (mkF mM 88 #[.val (.int p1), .val (.int p2), .val (.int p3), .val (.int p4), .val (.long q5), .second, .val (.int (1 : Int32)), .val (.int (1 : Int32)), .val (.ref b_148), .val (.ref b_165), .unset, .unset, .unset] []))
      refine Goes.step (fun _ kK => XS.aload X_180.here hx rfl (hb hby at_88) rfl rfl kK) ?_
      show Goes pP eE bB _ (T_180.setTop (mkF mM 90 #[.val (.int p1), .val (.int p2), .val (.int p3), .val (.int p4), .val (.long q5), .second, .val (.int (1 : Int32)), .val (.int (1 : Int32)), .val (.ref b_148), .val (.ref b_165), .unset, .unset, .unset] [(.ref b_165)]))
      refine Goes.callV X_180 hx hZ hown (hw _ (List.mem_of_getElem? (i := 31) rfl)) (hw _ (List.mem_of_getElem? (i := 32) rfl)) (notFace_of_selects (args := #[]) (mvT hZ (hw _ (List.mem_of_getElem? (i := 34) rfl)))) (hw _ (List.mem_of_getElem? (i := 34) rfl)) (hw _ (List.mem_of_getElem? (i := 33) rfl)) (hw _ (List.mem_of_getElem? (i := 35) rfl)) (hw _ (List.mem_of_getElem? (i := 3) rfl)) (by decide) e_180 u_181 (rmGl l Z a0 hw b_165 q5 h_178 n0 u_179 F_178_contentLength) (W := 0) (by decide) (by decide) (by decide) (by decide) (g := (mkF mM 90 #[.val (.int p1), .val (.int p2), .val (.int p3), .val (.int p4), .val (.long q5), .second, .val (.int (1 : Int32)), .val (.int (1 : Int32)), .val (.ref b_148), .val (.ref b_165), .unset, .unset, .unset] [(.ref b_165)])) rfl (by rw [hml]; rfl) (rest := []) own_pd9 rfl rfl (by show 2 * 0 + _ ≤ _; exact Nat.le_of_eq rfl) (hb hby at_90) ?_
      intro v_182 T_182 L_182 X_182 hQ_182
      obtain ⟨rfl, N_182q, e_182⟩ := hQ_182
      have N_182 := Fr.app N_180 N_182q
      show Goes pP eE bB _ (T_182.setTop (mkF mM 93 #[.val (.int p1), .val (.int p2), .val (.int p3), .val (.int p4), .val (.long q5), .second, .val (.int (1 : Int32)), .val (.int (1 : Int32)), .val (.ref b_148), .val (.ref b_165), .unset, .unset, .unset] [(.long q5)]))
      refine Goes.step (fun _ kK => XS.lload X_182.here hx rfl (hb hby at_93) rfl kK) ?_
      show Goes pP eE bB _ (T_182.setTop (mkF mM 95 #[.val (.int p1), .val (.int p2), .val (.int p3), .val (.int p4), .val (.long q5), .second, .val (.int (1 : Int32)), .val (.int (1 : Int32)), .val (.ref b_148), .val (.ref b_165), .unset, .unset, .unset] [(.long q5), (.long q5)]))
      refine Goes.step (fun _ kK => XS.lcmp X_182.here hx rfl (hb hby at_95) rfl kK) ?_
      show Goes pP eE bB _ (T_182.setTop (mkF mM 96 #[.val (.int p1), .val (.int p2), .val (.int p3), .val (.int p4), .val (.long q5), .second, .val (.int (1 : Int32)), .val (.int (1 : Int32)), .val (.ref b_148), .val (.ref b_165), .unset, .unset, .unset] [(.int (lcmpW q5 q5))]))
      have hb_183 : q5 = q5 := rfl
      refine Goes.step (fun _ kK => XS.ifNo X_182.here hx rfl (hb hby at_96) rfl ((if0 _ _).trans (teq (jeq.mpr hb_183)).2) kK) ?_
      show Goes pP eE bB _ (T_182.setTop (mkF mM 99 #[.val (.int p1), .val (.int p2), .val (.int p3), .val (.int p4), .val (.long q5), .second, .val (.int (1 : Int32)), .val (.int (1 : Int32)), .val (.ref b_148), .val (.ref b_165), .unset, .unset, .unset] []))
      refine Goes.step (fun _ kK => XS.aload X_182.here hx rfl (hb hby at_99) rfl rfl kK) ?_
      show Goes pP eE bB _ (T_182.setTop (mkF mM 101 #[.val (.int p1), .val (.int p2), .val (.int p3), .val (.int p4), .val (.long q5), .second, .val (.int (1 : Int32)), .val (.int (1 : Int32)), .val (.ref b_148), .val (.ref b_165), .unset, .unset, .unset] [(.ref b_165)]))
      refine Goes.callV X_182 hx hZ hown (hw _ (List.mem_of_getElem? (i := 82) rfl)) (hw _ (List.mem_of_getElem? (i := 83) rfl)) (notFace_of_selects (args := #[]) (mvT hZ (hw _ (List.mem_of_getElem? (i := 85) rfl)))) (hw _ (List.mem_of_getElem? (i := 85) rfl)) (hw _ (List.mem_of_getElem? (i := 84) rfl)) (hw _ (List.mem_of_getElem? (i := 86) rfl)) (hw _ (List.mem_of_getElem? (i := 3) rfl)) (by decide) e_182 u_181 (rmGt1 l Z a0 hw b_165 b_148 h_178 n0 u_179 F_178_contentType) (W := 0) (by decide) (by decide) (by decide) (by decide) (g := (mkF mM 101 #[.val (.int p1), .val (.int p2), .val (.int p3), .val (.int p4), .val (.long q5), .second, .val (.int (1 : Int32)), .val (.int (1 : Int32)), .val (.ref b_148), .val (.ref b_165), .unset, .unset, .unset] [(.ref b_165)])) rfl (by rw [hml]; rfl) (rest := []) own_pd12 rfl rfl (by show 2 * 0 + _ ≤ _; exact Nat.le_of_eq rfl) (hb hby at_101) ?_
      intro v_184 T_184 L_184 X_184 hQ_184
      obtain ⟨rfl, N_184q, e_184⟩ := hQ_184
      have N_184 := Fr.app N_182 N_184q
      show Goes pP eE bB _ (T_184.setTop (mkF mM 104 #[.val (.int p1), .val (.int p2), .val (.int p3), .val (.int p4), .val (.long q5), .second, .val (.int (1 : Int32)), .val (.int (1 : Int32)), .val (.ref b_148), .val (.ref b_165), .unset, .unset, .unset] [(.ref b_148)]))
      refine Goes.step (fun _ kK => XS.aload X_184.here hx rfl (hb hby at_104) rfl rfl kK) ?_
      show Goes pP eE bB _ (T_184.setTop (mkF mM 106 #[.val (.int p1), .val (.int p2), .val (.int p3), .val (.int p4), .val (.long q5), .second, .val (.int (1 : Int32)), .val (.int (1 : Int32)), .val (.ref b_148), .val (.ref b_165), .unset, .unset, .unset] [(.ref b_148), (.ref b_148)]))
      refine Goes.step (fun _ kK => Jvm.RoadKit.acmp (g := (mkF mM 106 #[.val (.int p1), .val (.int p2), .val (.int p3), .val (.int p4), .val (.long q5), .second, .val (.int (1 : Int32)), .val (.int (1 : Int32)), .val (.ref b_148), .val (.ref b_165), .unset, .unset, .unset] [(.ref b_148), (.ref b_148)])) X_184 hx rfl rfl rfl (pc0 := 106) (pc' := 109) (same := true) rfl (hb hby at_106) rfl (decide_eq_true rfl) (by decide) (by decide) kK) ?_
      show Goes pP eE bB _ (T_184.setTop (mkF mM 109 #[.val (.int p1), .val (.int p2), .val (.int p3), .val (.int p4), .val (.long q5), .second, .val (.int (1 : Int32)), .val (.int (1 : Int32)), .val (.ref b_148), .val (.ref b_165), .unset, .unset, .unset] []))
      refine Goes.step (fun _ kK => XS.iconst X_184.here hx rfl (hb hby at_109) kK) ?_
      show Goes pP eE bB _ (T_184.setTop (mkF mM 110 #[.val (.int p1), .val (.int p2), .val (.int p3), .val (.int p4), .val (.long q5), .second, .val (.int (1 : Int32)), .val (.int (1 : Int32)), .val (.ref b_148), .val (.ref b_165), .unset, .unset, .unset] [(.int (1 : Int32))]))
      refine Goes.step (fun _ kK => XS.goto X_184.here hx rfl (pc0 := 110) (pc' := 114) rfl (hb hby at_110) (by decide) (by decide) kK) ?_
      show Goes pP eE bB _ (T_184.setTop (mkF mM 114 #[.val (.int p1), .val (.int p2), .val (.int p3), .val (.int p4), .val (.long q5), .second, .val (.int (1 : Int32)), .val (.int (1 : Int32)), .val (.ref b_148), .val (.ref b_165), .unset, .unset, .unset] [(.int (1 : Int32))]))
      refine Goes.retN X_184 hx hlk (t := .boolean) hret (by simp) (hb hby at_114) (by decide) (by decide) ?_
      exact ⟨rfl, N_184⟩
set_option maxRecDepth 65536 in
set_option maxHeartbeats 40000000 in
theorem comes_1 {Post : Tables → Env → Array Value → State → Outcome → State → Prop} (hpost : ∀ tb e args s v u, (limb_1_1.after args s (.returned v) u = true ∧ limb_1_2.after args s (.returned v) u = true ∧ True) → FrameEnd s (.returned v) u (Jvm.fieldLocs frame_1_writes args s ++ Jvm.arrayLocs frame_1_arrays args s ++ Jvm.staticLocs frame_1_statics s) 24 128 → Post tb e args s (.returned v) u) :
    ArmFor flags0 classFile x code maxLocals ret World_1 tables_1 room_1 Calls_1 rest_1 Pre_1 Post := by
  intro l hfl _ _ p e ha hc hk s m args below hf hA hF happ hP
  obtain ⟨hcalls, hrest, hpre⟩ := hP
  obtain ⟨-, -, -, hnamed, -, -, -, hat⟩ := (Spec.applies_iff hf).mp happ
  obtain ⟨hg, hn⟩ := and_e (Cond.before_iff.mp (show (Jvm.Cond.and given_1 narrow_1).before args s = true from hpre))
  obtain ⟨hcnt, g0⟩ := and_e hg
  obtain ⟨q0, g1⟩ := and_e g0
  obtain ⟨q1, g2⟩ := and_e g1
  obtain ⟨q2, g3⟩ := and_e g2
  obtain ⟨q3, g4⟩ := and_e g3
  have q4 := g4
  obtain ⟨w0, w1, w2, w3, w4, rfl⟩ : ∃ w0 w1 w2 w3 w4 : Value, args = #[w0, w1, w2, w3, w4] := by
    have hs : args.size = 5 := by simpa [Cond.value, given_1] using hcnt
    obtain ⟨L⟩ := args
    match L, hs with
    | [w0, w1, w2, w3, w4], _ => exact ⟨w0, w1, w2, w3, w4, rfl⟩
  have hw := fun d (hd : d ∈ tables_1) => atoms_spec (ws := Jvm.Cond.code x code maxLocals ret :: tables_1) hat d (List.mem_cons_of_mem _ hd)
  obtain ⟨i0, e0⟩ := is_v q0
  obtain rfl : w0 = (.int i0) := Option.some.inj e0
  obtain ⟨i1, e1⟩ := is_v q1
  obtain rfl : w1 = (.int i1) := Option.some.inj e1
  obtain ⟨i2, e2⟩ := is_v q2
  obtain rfl : w2 = (.int i2) := Option.some.inj e2
  obtain ⟨i3, e3⟩ := is_v q3
  obtain rfl : w3 = (.int i3) := Option.some.inj e3
  obtain ⟨i4, e4⟩ := isL_v q4
  obtain rfl : w4 = (.long i4) := Option.some.inj e4
  obtain ⟨hsets, hown0⟩ := atoms_of _ (rest_1_c_eq ▸ (show rest_1_c.before _ s = true from hrest))
  have n5 := not_v (Cond.before_iff.mp (hsets _ (List.mem_of_getElem? (i := 2) rfl)))
  obtain ⟨cs, ecs⟩ := is_v (Cond.before_iff.mp (hsets _ (List.mem_of_getElem? (i := 1) rfl)))
  have Scs : Sta s s.heap "java/lang/String" "COMPACT_STRINGS" "Z" (.int cs) := Sta.start ecs (Or.inl (hsets _ (List.mem_of_getElem? (i := 0) rfl)))
  have hcs : ¬ (cs = (0 : Int32)) := gotF (Cond.eq_ints ecs (Term.int_eval (0))) n5
  obtain ⟨n, o, h1, h2, h3, _, L, rfl, ⟨rfl, N⟩, hq⟩ := rm0 l s _ hw i0 i1 i2 i3 i4 cs s.heap s.heap.size (Nat.le_refl _) Scs hcs (Old.start s) tables_1 p e ha hc hk s m _ below hf ((Spec.applies_iff_loose hf).mp happ).1 ⟨rfl, State.Warmed39.refl s, rfl⟩ trivial
  refine ⟨n, _, h1, h2, h3, hpost _ _ _ _ _ _ ⟨Cond.after_iff.mpr rfl, Cond.after_iff.mpr (eq_i res_at (Term.int_eval (1)) rfl), trivial⟩ ⟨hq.1, hq.2.1, (hq.2.2.sift fun y hy => Or.inr (N y hy)).mono (by decide) (by decide)⟩⟩
theorem main_1_1 : Claimed_1_1 := comes_1 fun _ _ _ _ _ _ h hF => ⟨h.1, hF⟩
theorem main_1_2 : Claimed_1_2 := comes_1 fun _ _ _ _ _ _ h hF => ⟨h.2.1, hF⟩
end Jvm.Pilot.@@N@@
namespace Jvm.Pilot.@@N@@
open Jvm Jvm.ClassFile Sem Op Lib Jvm.Free Jvm.Stand Jvm.Pilot.@@N@@.Jvm.D
/-! MADE BY PROGRAM (witnessworld.py) out of the Statement's table words and the real class files: 24 classes; the members and pool entries that the words name. The judged class is class 1, her method 1. -/
namespace start1
open Jvm.ClassFile
def u (s : String) : CpInfo := .utf8 (stringToUtf16 s)
/-- a pool by its gaps: so many unusable entries, then the entry; so many at the end -/
def gap : Nat → List CpInfo → List CpInfo
  | 0, r => r
  | n + 1, r => .unusable :: gap n r
def poolList (es : List (Nat × CpInfo)) (last : Nat) : List CpInfo := es.foldr (fun e r => gap e.1 (e.2 :: r)) (gap last [])
def pool (es : List (Nat × CpInfo)) (last : Nat) : Array CpInfo := ⟨poolList es last⟩
def fileOf (pool : Array CpInfo) (this : Nat) (attrs : Array Attribute := #[]) (ms : Array MethodInfo := #[]) (fl : Nat := 33) (sup : Nat := 0) (ifs : Array Nat := #[]) (fds : Array FieldInfo := #[]) : ClassFile where
  minorVersion := 0
  majorVersion := 65
  constantPool := pool
  accessFlags := fl
  thisClass := this
  superClass := sup
  interfaces := ifs
  fields := fds
  methods := ms
  attributes := attrs
def plain (name : String) (sup : Option ClassId) : Class where
  name := name
  kind := .ordinary
  loader := none
  accessFlags := 33
  super := sup
  interfaces := #[]
  cf := none
  fields := #[]
  methods := #[]
  instanceTypes := #[]
  staticTypes := #[]
  resolved := #[]
  callSites := []
  init := .initialized
  statics := none
  mirror := none

def pool0 : Array CpInfo := pool [(5, u "<init>"), (0, u "()V"), (1, .class_ 10), (1, u "java/lang/Object")] 113

def k0c0 : Code := { maxStack := 0, maxLocals := 1, code := object_method_1_code, exceptionTable := #[], attributes := #[] }
def k0m0 : Method := { name := "<init>", desc := "()V", sig := { parameters := [], returnType := none }, accessFlags := 1, code := some k0c0 }
/-- java/lang/Object -/
def k0 : Class := { plain "java/lang/Object" none with
  accessFlags := 33
  interfaces := #[]
  cf := some (fileOf pool0 8 #[] #[{ accessFlags := 1, nameIndex := 5, descriptorIndex := 6, attributes := #[] }] 33 0 #[] #[])
  fields := #[]
  methods := #[k0m0]
  instanceTypes := #[]
  staticTypes := #[]
  resolved := Array.replicate 124 none
  statics := none }

def pool1 : Array CpInfo := pool [(2, .class_ 4), (1, u "java/lang/Object"), (0, u "<init>"), (0, u "()V"), (0, .class_ 8), (0, u "java/lang/String"), (0, .methodref 7 10), (0, .nameAndType 5 11), (0, u "([C)V"), (0, .class_ 13), (0, u "dev/callstitch/call/ResponseBody"), (0, .methodref 12 15), (0, .nameAndType 5 16), (0, u "(Ljava/lang/String;JLjava/io/InputStream;Ljava/lang/Runnable;)V"), (0, .methodref 12 18), (0, .nameAndType 19 20), (0, u "arrives"), (0, u "()Z"), (0, .methodref 12 22), (0, .nameAndType 23 24), (0, u "contentLength"), (0, u "()J"), (0, .methodref 12 26), (0, .nameAndType 27 28), (0, u "contentType"), (0, u "()Ljava/lang/String;"), (0, .methodref 12 30), (0, .nameAndType 5 31), (0, u "(Ljava/lang/String;[B)V"), (0, .methodref 12 33), (0, .nameAndType 34 6), (0, u "close"), (0, .class_ 36), (0, u "dev/callstitch/call/ResponseBodyArrivesPinLaw"), (2, u "law"), (0, u "(IIIIJ)Z")] 5

def k1m0 : Method := { name := "<init>", desc := "()V", sig := { parameters := [], returnType := none }, accessFlags := 1, code := none }
def k1c1 : Code := { maxStack := 7, maxLocals := 13, code := code, exceptionTable := #[], attributes := #[] }
def k1m1 : Method := { name := "law", desc := "(IIIIJ)Z", sig := { parameters := [.int, .int, .int, .int, .long], returnType := some .boolean }, accessFlags := 9, code := some k1c1 }
/-- dev/callstitch/call/ResponseBodyArrivesPinLaw -/
def k1 : Class := { plain "dev/callstitch/call/ResponseBodyArrivesPinLaw" (some 0) with
  accessFlags := 49
  interfaces := #[]
  cf := some (fileOf pool1 35 #[] #[{ accessFlags := 1, nameIndex := 5, descriptorIndex := 6, attributes := #[] }, { accessFlags := 9, nameIndex := 39, descriptorIndex := 40, attributes := #[] }] 49 2 #[] #[])
  fields := #[]
  methods := #[k1m0, k1m1]
  instanceTypes := #[]
  staticTypes := #[]
  resolved := Array.replicate 46 none
  statics := none }

def pool2 : Array CpInfo := pool [(1, .class_ 2), (0, u "java/lang/AutoCloseable"), (0, .class_ 4), (0, u "java/lang/Object")] 7

/-- java/lang/AutoCloseable -/
def k2 : Class := { plain "java/lang/AutoCloseable" (some 0) with
  accessFlags := 1537
  interfaces := #[]
  cf := some (fileOf pool2 1 #[] #[] 1537 3 #[] #[])
  fields := #[]
  methods := #[]
  instanceTypes := #[]
  staticTypes := #[]
  resolved := Array.replicate 12 none
  statics := none }

def pool3 : Array CpInfo := pool [(1, .class_ 2), (0, u "java/io/Closeable"), (0, .class_ 4), (0, u "java/lang/Object"), (0, .class_ 6), (0, u "java/lang/AutoCloseable")] 7

/-- java/io/Closeable -/
def k3 : Class := { plain "java/io/Closeable" (some 0) with
  accessFlags := 1537
  interfaces := #[2]
  cf := some (fileOf pool3 1 #[] #[] 1537 3 #[5] #[])
  fields := #[]
  methods := #[]
  instanceTypes := #[]
  staticTypes := #[]
  resolved := Array.replicate 14 none
  statics := none }

def pool4 : Array CpInfo := pool [(1, .methodref 2 3), (0, .class_ 4), (0, .nameAndType 5 6), (0, u "dev/callstitch/call/ResponseBody"), (0, u "<init>"), (0, u "(Ljava/lang/String;J[BLdev/callstitch/call/ResponseBody$Arriving;)V"), (0, .class_ 8), (0, u "dev/callstitch/call/ResponseBody$Arriving"), (0, .methodref 7 10), (0, .nameAndType 5 11), (0, u "(Ljava/io/InputStream;Ljava/lang/Runnable;)V"), (0, .methodref 13 14), (0, .class_ 15), (0, .nameAndType 5 16), (0, u "java/lang/Object"), (0, u "()V"), (0, .fieldref 2 18), (0, .nameAndType 19 20), (0, u "contentType"), (0, u "Ljava/lang/String;"), (0, .fieldref 2 22), (0, .nameAndType 23 24), (0, u "contentLength"), (0, u "J"), (0, .fieldref 2 26), (0, .nameAndType 27 28), (0, u "content"), (0, u "[B"), (0, .fieldref 2 30), (0, .nameAndType 31 32), (0, u "arriving"), (0, u "Ldev/callstitch/call/ResponseBody$Arriving;"), (16, u "TEXT"), (0, u "Ldev/callstitch/conversion/ResponseConverter;"), (14, u "close"), (14, .class_ 81), (0, u "java/io/Closeable"), (2, u "(Ljava/lang/String;[B)V"), (2, u "(Ljava/lang/String;JLjava/io/InputStream;Ljava/lang/Runnable;)V"), (0, u "()Ljava/lang/String;"), (0, u "()J"), (8, u "arrives"), (0, u "()Z")] 6

def k4c0 : Code := { maxStack := 6, maxLocals := 3, code := prog_12_method_1_code, exceptionTable := #[], attributes := #[] }
def k4m0 : Method := { name := "<init>", desc := "(Ljava/lang/String;[B)V", sig := { parameters := [(.object "java/lang/String"), (.array .byte)], returnType := none }, accessFlags := 0, code := some k4c0 }
def k4c1 : Code := { maxStack := 9, maxLocals := 6, code := prog_12_method_2_code, exceptionTable := #[], attributes := #[] }
def k4m1 : Method := { name := "<init>", desc := "(Ljava/lang/String;JLjava/io/InputStream;Ljava/lang/Runnable;)V", sig := { parameters := [(.object "java/lang/String"), .long, (.object "java/io/InputStream"), (.object "java/lang/Runnable")], returnType := none }, accessFlags := 0, code := some k4c1 }
def k4c2 : Code := { maxStack := 3, maxLocals := 6, code := prog_12_method_3_code, exceptionTable := #[], attributes := #[] }
def k4m2 : Method := { name := "<init>", desc := "(Ljava/lang/String;J[BLdev/callstitch/call/ResponseBody$Arriving;)V", sig := { parameters := [(.object "java/lang/String"), .long, (.array .byte), (.object "dev/callstitch/call/ResponseBody$Arriving")], returnType := none }, accessFlags := 2, code := some k4c2 }
def k4c3 : Code := { maxStack := 1, maxLocals := 1, code := prog_12_method_4_code, exceptionTable := #[], attributes := #[] }
def k4m3 : Method := { name := "contentType", desc := "()Ljava/lang/String;", sig := { parameters := [], returnType := some (.object "java/lang/String") }, accessFlags := 1, code := some k4c3 }
def k4c4 : Code := { maxStack := 2, maxLocals := 1, code := prog_12_method_5_code, exceptionTable := #[], attributes := #[] }
def k4m4 : Method := { name := "contentLength", desc := "()J", sig := { parameters := [], returnType := some .long }, accessFlags := 1, code := some k4c4 }
def k4c5 : Code := { maxStack := 1, maxLocals := 1, code := prog_12_method_9_code, exceptionTable := #[], attributes := #[] }
def k4m5 : Method := { name := "close", desc := "()V", sig := { parameters := [], returnType := none }, accessFlags := 1, code := some k4c5 }
def k4c6 : Code := { maxStack := 1, maxLocals := 1, code := prog_12_method_10_code, exceptionTable := #[], attributes := #[] }
def k4m6 : Method := { name := "arrives", desc := "()Z", sig := { parameters := [], returnType := some .boolean }, accessFlags := 0, code := some k4c6 }
/-- dev/callstitch/call/ResponseBody -/
def k4 : Class := { plain "dev/callstitch/call/ResponseBody" (some 0) with
  accessFlags := 49
  interfaces := #[3]
  cf := some (fileOf pool4 2 #[.nestMembers #[7]] #[{ accessFlags := 0, nameIndex := 5, descriptorIndex := 84, attributes := #[] }, { accessFlags := 0, nameIndex := 5, descriptorIndex := 87, attributes := #[] }, { accessFlags := 2, nameIndex := 5, descriptorIndex := 6, attributes := #[] }, { accessFlags := 1, nameIndex := 19, descriptorIndex := 88, attributes := #[] }, { accessFlags := 1, nameIndex := 23, descriptorIndex := 89, attributes := #[] }, { accessFlags := 1, nameIndex := 65, descriptorIndex := 16, attributes := #[] }, { accessFlags := 0, nameIndex := 98, descriptorIndex := 99, attributes := #[] }] 49 13 #[80] #[{ accessFlags := 26, nameIndex := 49, descriptorIndex := 50, attributes := #[] }, { accessFlags := 18, nameIndex := 19, descriptorIndex := 20, attributes := #[] }, { accessFlags := 18, nameIndex := 23, descriptorIndex := 24, attributes := #[] }, { accessFlags := 18, nameIndex := 27, descriptorIndex := 28, attributes := #[] }, { accessFlags := 18, nameIndex := 31, descriptorIndex := 32, attributes := #[] }])
  fields := #[{ name := "TEXT", type := (.object "dev/callstitch/conversion/ResponseConverter"), accessFlags := 26, slot := 0, constantValue := 0 }, { name := "contentType", type := (.object "java/lang/String"), accessFlags := 18, slot := 0, constantValue := 0 }, { name := "contentLength", type := .long, accessFlags := 18, slot := 1, constantValue := 0 }, { name := "content", type := (.array .byte), accessFlags := 18, slot := 2, constantValue := 0 }, { name := "arriving", type := (.object "dev/callstitch/call/ResponseBody$Arriving"), accessFlags := 18, slot := 3, constantValue := 0 }]
  methods := #[k4m0, k4m1, k4m2, k4m3, k4m4, k4m5, k4m6]
  instanceTypes := #[(.object "java/lang/String"), .long, (.array .byte), (.object "dev/callstitch/call/ResponseBody$Arriving")]
  staticTypes := #[(.object "dev/callstitch/conversion/ResponseConverter")]
  resolved := Array.replicate 106 none
  statics := none }

def pool5 : Array CpInfo := pool [(1, .class_ 2), (0, u "java/io/Serializable"), (0, .class_ 4), (0, u "java/lang/Object")] 2

/-- java/io/Serializable -/
def k5 : Class := { plain "java/io/Serializable" (some 0) with
  accessFlags := 1537
  interfaces := #[]
  cf := some (fileOf pool5 1 #[] #[] 1537 3 #[] #[])
  fields := #[]
  methods := #[]
  instanceTypes := #[]
  staticTypes := #[]
  resolved := Array.replicate 7 none
  statics := none }

def pool6 : Array CpInfo := pool [(1, .class_ 2), (0, u "java/lang/Comparable"), (0, .class_ 4), (0, u "java/lang/Object")] 7

/-- java/lang/Comparable -/
def k6 : Class := { plain "java/lang/Comparable" (some 0) with
  accessFlags := 1537
  interfaces := #[]
  cf := some (fileOf pool6 1 #[] #[] 1537 3 #[] #[])
  fields := #[]
  methods := #[]
  instanceTypes := #[]
  staticTypes := #[]
  resolved := Array.replicate 12 none
  statics := none }

def pool7 : Array CpInfo := pool [(2, .class_ 4), (1, u "java/lang/CharSequence"), (42, .class_ 48), (0, u "java/lang/CharSequence$1CodePointIterator"), (10, .class_ 60), (0, u "java/lang/CharSequence$1CharIterator"), (5, .class_ 67), (0, u "java/lang/Object")] 63

/-- java/lang/CharSequence -/
def k7 : Class := { plain "java/lang/CharSequence" (some 0) with
  accessFlags := 1537
  interfaces := #[]
  cf := some (fileOf pool7 2 #[.nestMembers #[47, 59]] #[] 1537 66 #[] #[])
  fields := #[]
  methods := #[]
  instanceTypes := #[]
  staticTypes := #[]
  resolved := Array.replicate 131 none
  statics := none }

def pool8 : Array CpInfo := pool [(1, .class_ 2), (0, u "java/lang/constant/Constable"), (0, .class_ 4), (0, u "java/lang/Object")] 6

/-- java/lang/constant/Constable -/
def k8 : Class := { plain "java/lang/constant/Constable" (some 0) with
  accessFlags := 1537
  interfaces := #[]
  cf := some (fileOf pool8 1 #[] #[] 1537 3 #[] #[])
  fields := #[]
  methods := #[]
  instanceTypes := #[]
  staticTypes := #[]
  resolved := Array.replicate 11 none
  statics := none }

def pool9 : Array CpInfo := pool [(1, .class_ 2), (0, u "java/lang/constant/ConstantDesc"), (0, .class_ 4), (0, u "java/lang/Object")] 32

/-- java/lang/constant/ConstantDesc -/
def k9 : Class := { plain "java/lang/constant/ConstantDesc" (some 0) with
  accessFlags := 1537
  interfaces := #[]
  cf := some (fileOf pool9 1 #[] #[] 1537 3 #[] #[])
  fields := #[]
  methods := #[]
  instanceTypes := #[]
  staticTypes := #[]
  resolved := Array.replicate 37 none
  statics := none }

def pool10 : Array CpInfo := pool [(1, .methodref 2 3), (0, .class_ 4), (0, .nameAndType 5 6), (0, u "java/lang/Object"), (0, u "<init>"), (0, u "()V"), (2, .fieldref 10 11), (0, .class_ 12), (0, .nameAndType 13 14), (0, u "java/lang/String"), (0, u "value"), (0, u "[B"), (0, .fieldref 10 16), (0, .nameAndType 17 18), (0, u "coder"), (0, u "B"), (2, u "hash"), (0, u "I"), (2, u "hashIsZero"), (0, u "Z"), (0, .methodref 10 28), (0, .nameAndType 5 29), (0, u "([CIILjava/lang/Void;)V"), (8, .fieldref 10 39), (0, .nameAndType 40 26), (0, u "COMPACT_STRINGS"), (1, .class_ 44), (1, u "java/lang/StringUTF16"), (0, u "compress"), (1, .methodref 42 48), (0, .nameAndType 49 50), (0, u "coderFromArrayLen"), (0, u "([BI)B"), (126, .methodref 42 178), (0, .nameAndType 45 179), (0, u "([CII)[B"), (395, .class_ 576), (0, u "java/lang/CharSequence"), (22, u "CASE_INSENSITIVE_ORDER"), (0, u "Ljava/util/Comparator;"), (409, u "([C)V"), (90, u "serialPersistentFields"), (0, u "[Ljava/io/ObjectStreamField;"), (0, .class_ 1104), (0, u "java/lang/String$CaseInsensitiveComparator"), (1, .class_ 1107), (0, u "java/io/Serializable"), (0, .class_ 1109), (0, u "java/lang/Comparable"), (0, .class_ 1111), (0, u "java/lang/constant/Constable"), (0, .class_ 1113), (0, u "java/lang/constant/ConstantDesc"), (2, u "serialVersionUID"), (0, u "J"), (3, u "REPL"), (0, u "C"), (2, u "LATIN1"), (1, u "UTF16")] 323

def k10m0 : Method := { name := "<init>", desc := "()V", sig := { parameters := [], returnType := none }, accessFlags := 1, code := none }
def k10c1 : Code := { maxStack := 5, maxLocals := 2, code := jdk_42_method_3_code, exceptionTable := #[], attributes := #[] }
def k10m1 : Method := { name := "<init>", desc := "([C)V", sig := { parameters := [(.array .char)], returnType := none }, accessFlags := 1, code := some k10c1 }
def k10c2 : Code := { maxStack := 4, maxLocals := 6, code := jdk_42_method_149_code, exceptionTable := #[], attributes := #[] }
def k10m2 : Method := { name := "<init>", desc := "([CIILjava/lang/Void;)V", sig := { parameters := [(.array .char), .int, .int, (.object "java/lang/Void")], returnType := none }, accessFlags := 2, code := some k10c2 }
/-- java/lang/String -/
def k10 : Class := { plain "java/lang/String" (some 0) with
  accessFlags := 49
  interfaces := #[5, 6, 7, 8, 9]
  cf := some (fileOf pool10 10 #[.nestMembers #[1103]] #[{ accessFlags := 1, nameIndex := 5, descriptorIndex := 6, attributes := #[] }, { accessFlags := 1, nameIndex := 5, descriptorIndex := 1010, attributes := #[] }, { accessFlags := 2, nameIndex := 5, descriptorIndex := 29, attributes := #[] }] 49 2 #[1106, 1108, 575, 1110, 1112] #[{ accessFlags := 18, nameIndex := 13, descriptorIndex := 14, attributes := #[] }, { accessFlags := 18, nameIndex := 17, descriptorIndex := 18, attributes := #[] }, { accessFlags := 2, nameIndex := 21, descriptorIndex := 22, attributes := #[] }, { accessFlags := 2, nameIndex := 25, descriptorIndex := 26, attributes := #[] }, { accessFlags := 26, nameIndex := 1116, descriptorIndex := 1117, attributes := #[] }, { accessFlags := 24, nameIndex := 40, descriptorIndex := 26, attributes := #[] }, { accessFlags := 26, nameIndex := 1101, descriptorIndex := 1102, attributes := #[] }, { accessFlags := 26, nameIndex := 1121, descriptorIndex := 1122, attributes := #[] }, { accessFlags := 25, nameIndex := 599, descriptorIndex := 600, attributes := #[] }, { accessFlags := 24, nameIndex := 1125, descriptorIndex := 18, attributes := #[] }, { accessFlags := 24, nameIndex := 1127, descriptorIndex := 18, attributes := #[] }])
  fields := #[{ name := "value", type := (.array .byte), accessFlags := 18, slot := 0, constantValue := 0 }, { name := "coder", type := .byte, accessFlags := 18, slot := 1, constantValue := 0 }, { name := "hash", type := .int, accessFlags := 2, slot := 2, constantValue := 0 }, { name := "hashIsZero", type := .boolean, accessFlags := 2, slot := 3, constantValue := 0 }, { name := "serialVersionUID", type := .long, accessFlags := 26, slot := 0, constantValue := 0 }, { name := "COMPACT_STRINGS", type := .boolean, accessFlags := 24, slot := 1, constantValue := 0 }, { name := "serialPersistentFields", type := (.array (.object "java/io/ObjectStreamField")), accessFlags := 26, slot := 2, constantValue := 0 }, { name := "REPL", type := .char, accessFlags := 26, slot := 3, constantValue := 0 }, { name := "CASE_INSENSITIVE_ORDER", type := (.object "java/util/Comparator"), accessFlags := 25, slot := 4, constantValue := 0 }, { name := "LATIN1", type := .byte, accessFlags := 24, slot := 5, constantValue := 0 }, { name := "UTF16", type := .byte, accessFlags := 24, slot := 6, constantValue := 0 }]
  methods := #[k10m0, k10m1, k10m2]
  instanceTypes := #[(.array .byte), .byte, .int, .boolean]
  staticTypes := #[.long, .boolean, (.array (.object "java/io/ObjectStreamField")), .char, (.object "java/util/Comparator"), .byte, .byte]
  resolved := Array.replicate 1451 none
  statics := some 0 }

def pool11 : Array CpInfo := pool [(6, .class_ 8), (1, u "java/lang/Object"), (0, u "<init>"), (0, u "()V"), (1, .class_ 14), (1, u "java/lang/StringUTF16"), (31, u "$assertionsDisabled"), (0, u "Z"), (13, u "HI_BYTE_SHIFT"), (0, u "I"), (2, u "LO_BYTE_SHIFT"), (49, .methodref 12 116), (0, .nameAndType 117 118), (0, u "compress"), (0, u "([CI[BII)I"), (3, u "([CII)[B"), (138, u "coderFromArrayLen"), (0, u "([BI)B"), (106, .class_ 371), (1, u "java/lang/StringUTF16$LinesSpliterator"), (58, u "MAX_LENGTH"), (196, .class_ 628), (0, u "java/lang/StringUTF16$CodePointsSpliterator"), (0, .class_ 630), (0, u "java/lang/StringUTF16$CharsSpliterator")] 4

def k11m0 : Method := { name := "<init>", desc := "()V", sig := { parameters := [], returnType := none }, accessFlags := 0, code := none }
def k11c1 : Code := { maxStack := 2, maxLocals := 2, code := jdk_52_method_15_code, exceptionTable := #[], attributes := #[] }
def k11m1 : Method := { name := "coderFromArrayLen", desc := "([BI)B", sig := { parameters := [(.array .byte), .int], returnType := some .byte }, accessFlags := 8, code := some k11c1 }
def k11c2 : Code := { maxStack := 5, maxLocals := 6, code := jdk_52_method_16_code, exceptionTable := #[], attributes := #[] }
def k11m2 : Method := { name := "compress", desc := "([CII)[B", sig := { parameters := [(.array .char), .int, .int], returnType := some (.array .byte) }, accessFlags := 9, code := some k11c2 }
def k11c3 : Code := { maxStack := 3, maxLocals := 7, code := jdk_52_method_21_code, exceptionTable := #[], attributes := #[] }
def k11m3 : Method := { name := "compress", desc := "([CI[BII)I", sig := { parameters := [(.array .char), .int, (.array .byte), .int, .int], returnType := some .int }, accessFlags := 9, code := some k11c3 }
/-- java/lang/StringUTF16 -/
def k11 : Class := { plain "java/lang/StringUTF16" (some 0) with
  accessFlags := 48
  interfaces := #[]
  cf := some (fileOf pool11 12 #[.nestMembers #[627, 629, 369]] #[{ accessFlags := 0, nameIndex := 9, descriptorIndex := 10, attributes := #[] }, { accessFlags := 8, nameIndex := 261, descriptorIndex := 262, attributes := #[] }, { accessFlags := 9, nameIndex := 117, descriptorIndex := 122, attributes := #[] }, { accessFlags := 9, nameIndex := 117, descriptorIndex := 118, attributes := #[] }] 48 6 #[] #[{ accessFlags := 26, nameIndex := 61, descriptorIndex := 62, attributes := #[] }, { accessFlags := 26, nameIndex := 65, descriptorIndex := 62, attributes := #[] }, { accessFlags := 24, nameIndex := 430, descriptorIndex := 62, attributes := #[] }, { accessFlags := 4120, nameIndex := 46, descriptorIndex := 47, attributes := #[] }])
  fields := #[{ name := "HI_BYTE_SHIFT", type := .int, accessFlags := 26, slot := 0, constantValue := 0 }, { name := "LO_BYTE_SHIFT", type := .int, accessFlags := 26, slot := 1, constantValue := 0 }, { name := "MAX_LENGTH", type := .int, accessFlags := 24, slot := 2, constantValue := 0 }, { name := "$assertionsDisabled", type := .boolean, accessFlags := 4120, slot := 3, constantValue := 0 }]
  methods := #[k11m0, k11m1, k11m2, k11m3]
  instanceTypes := #[]
  staticTypes := #[.int, .int, .int, .boolean]
  resolved := Array.replicate 635 none
  statics := none }

def pool12 : Array CpInfo := pool [(3, .methodref 4 5), (0, .class_ 6), (0, .nameAndType 7 8), (0, u "java/lang/Object"), (0, u "<init>"), (0, u "()V"), (0, .class_ 10), (0, u "java/io/InputStream$1"), (2, .class_ 15), (1, u "java/io/InputStream"), (116, .class_ 133), (0, u "java/io/Closeable"), (0, u "MAX_SKIP_BUFFER_SIZE"), (0, u "I"), (2, u "DEFAULT_BUFFER_SIZE"), (1, u "MAX_BUFFER_SIZE")] 54

def k12c0 : Code := { maxStack := 1, maxLocals := 1, code := jdk_2022_method_1_code, exceptionTable := #[], attributes := #[] }
def k12m0 : Method := { name := "<init>", desc := "()V", sig := { parameters := [], returnType := none }, accessFlags := 1, code := some k12c0 }
/-- java/io/InputStream -/
def k12 : Class := { plain "java/io/InputStream" (some 0) with
  accessFlags := 1057
  interfaces := #[3]
  cf := some (fileOf pool12 13 #[.nestMembers #[9]] #[{ accessFlags := 1, nameIndex := 7, descriptorIndex := 8, attributes := #[] }] 1057 4 #[132] #[{ accessFlags := 26, nameIndex := 134, descriptorIndex := 135, attributes := #[] }, { accessFlags := 26, nameIndex := 138, descriptorIndex := 135, attributes := #[] }, { accessFlags := 26, nameIndex := 140, descriptorIndex := 135, attributes := #[] }])
  fields := #[{ name := "MAX_SKIP_BUFFER_SIZE", type := .int, accessFlags := 26, slot := 0, constantValue := 0 }, { name := "DEFAULT_BUFFER_SIZE", type := .int, accessFlags := 26, slot := 1, constantValue := 0 }, { name := "MAX_BUFFER_SIZE", type := .int, accessFlags := 26, slot := 2, constantValue := 0 }]
  methods := #[k12m0]
  instanceTypes := #[]
  staticTypes := #[.int, .int, .int]
  resolved := Array.replicate 195 none
  statics := none }

def pool13 : Array CpInfo := pool [(1, .methodref 2 3), (0, .class_ 4), (0, .nameAndType 5 6), (0, u "java/io/InputStream"), (0, u "<init>"), (0, u "()V"), (0, .fieldref 8 9), (0, .class_ 10), (0, .nameAndType 11 12), (0, u "dev/callstitch/call/ResponseBody$Arriving"), (0, u "stream"), (0, u "Ljava/io/InputStream;"), (0, .fieldref 8 14), (0, .nameAndType 15 16), (0, u "onEnd"), (0, u "Ljava/lang/Runnable;"), (25, u "closed"), (0, u "Z"), (11, u "failure"), (0, u "Ljava/io/IOException;"), (7, u "(Ljava/io/InputStream;Ljava/lang/Runnable;)V"), (9, .class_ 75), (0, u "dev/callstitch/call/ResponseBody")] 2

def k13c0 : Code := { maxStack := 2, maxLocals := 3, code := prog_13_method_1_code, exceptionTable := #[], attributes := #[] }
def k13m0 : Method := { name := "<init>", desc := "(Ljava/io/InputStream;Ljava/lang/Runnable;)V", sig := { parameters := [(.object "java/io/InputStream"), (.object "java/lang/Runnable")], returnType := none }, accessFlags := 0, code := some k13c0 }
/-- dev/callstitch/call/ResponseBody$Arriving -/
def k13 : Class := { plain "dev/callstitch/call/ResponseBody$Arriving" (some 12) with
  accessFlags := 48
  interfaces := #[]
  cf := some (fileOf pool13 8 #[.nestHost 74] #[{ accessFlags := 0, nameIndex := 5, descriptorIndex := 64, attributes := #[] }] 48 2 #[] #[{ accessFlags := 18, nameIndex := 11, descriptorIndex := 12, attributes := #[] }, { accessFlags := 18, nameIndex := 15, descriptorIndex := 16, attributes := #[] }, { accessFlags := 66, nameIndex := 55, descriptorIndex := 56, attributes := #[] }, { accessFlags := 66, nameIndex := 42, descriptorIndex := 43, attributes := #[] }])
  fields := #[{ name := "stream", type := (.object "java/io/InputStream"), accessFlags := 18, slot := 0, constantValue := 0 }, { name := "onEnd", type := (.object "java/lang/Runnable"), accessFlags := 18, slot := 1, constantValue := 0 }, { name := "failure", type := (.object "java/io/IOException"), accessFlags := 66, slot := 2, constantValue := 0 }, { name := "closed", type := .boolean, accessFlags := 66, slot := 3, constantValue := 0 }]
  methods := #[k13m0]
  instanceTypes := #[(.object "java/io/InputStream"), (.object "java/lang/Runnable"), (.object "java/io/IOException"), .boolean]
  staticTypes := #[]
  resolved := Array.replicate 78 none
  statics := none }

def pool14 : Array CpInfo := pool [(4, .class_ 6), (1, u "java/lang/Object"), (0, u "<init>"), (0, u "()V"), (5, .class_ 16), (1, u "java/lang/StringLatin1"), (104, u "$assertionsDisabled"), (0, u "Z"), (98, .class_ 223), (1, u "java/lang/StringLatin1$LinesSpliterator"), (166, .class_ 391), (0, u "java/lang/StringLatin1$CharsSpliterator")] 3

def k14m0 : Method := { name := "<init>", desc := "()V", sig := { parameters := [], returnType := none }, accessFlags := 0, code := none }
/-- java/lang/StringLatin1 -/
def k14 : Class := { plain "java/lang/StringLatin1" (some 0) with
  accessFlags := 48
  interfaces := #[]
  cf := some (fileOf pool14 14 #[.nestMembers #[390, 221]] #[{ accessFlags := 0, nameIndex := 7, descriptorIndex := 8, attributes := #[] }] 48 4 #[] #[{ accessFlags := 4120, nameIndex := 121, descriptorIndex := 122, attributes := #[] }])
  fields := #[{ name := "$assertionsDisabled", type := .boolean, accessFlags := 4120, slot := 0, constantValue := 0 }]
  methods := #[k14m0]
  instanceTypes := #[]
  staticTypes := #[.boolean]
  resolved := Array.replicate 395 none
  statics := none }

def pool15 : Array CpInfo := pool [(2, .class_ 4), (1, u "java/lang/Object"), (0, u "<init>"), (0, u "()V"), (17, .class_ 26), (1, u "jdk/internal/util/Preconditions"), (28, .class_ 56), (0, u "jdk/internal/util/Preconditions$4"), (57, .class_ 115), (0, u "jdk/internal/util/Preconditions$1"), (7, u "SIOOBE_FORMATTER"), (0, u "Ljava/util/function/BiFunction;"), (0, .class_ 126), (0, u "jdk/internal/util/Preconditions$2"), (3, u "AIOOBE_FORMATTER"), (0, .class_ 132), (0, u "jdk/internal/util/Preconditions$3"), (3, u "IOOBE_FORMATTER")] 57

def k15m0 : Method := { name := "<init>", desc := "()V", sig := { parameters := [], returnType := none }, accessFlags := 1, code := none }
/-- jdk/internal/util/Preconditions -/
def k15 : Class := { plain "jdk/internal/util/Preconditions" (some 0) with
  accessFlags := 33
  interfaces := #[]
  cf := some (fileOf pool15 24 #[.nestMembers #[55, 131, 125, 114]] #[{ accessFlags := 1, nameIndex := 5, descriptorIndex := 6, attributes := #[] }] 33 2 #[] #[{ accessFlags := 25, nameIndex := 123, descriptorIndex := 124, attributes := #[] }, { accessFlags := 25, nameIndex := 130, descriptorIndex := 124, attributes := #[] }, { accessFlags := 25, nameIndex := 136, descriptorIndex := 124, attributes := #[] }])
  fields := #[{ name := "SIOOBE_FORMATTER", type := (.object "java/util/function/BiFunction"), accessFlags := 25, slot := 0, constantValue := 0 }, { name := "AIOOBE_FORMATTER", type := (.object "java/util/function/BiFunction"), accessFlags := 25, slot := 1, constantValue := 0 }, { name := "IOOBE_FORMATTER", type := (.object "java/util/function/BiFunction"), accessFlags := 25, slot := 2, constantValue := 0 }]
  methods := #[k15m0]
  instanceTypes := #[]
  staticTypes := #[(.object "java/util/function/BiFunction"), (.object "java/util/function/BiFunction"), (.object "java/util/function/BiFunction")]
  resolved := Array.replicate 194 none
  statics := some 1 }

def pool16 : Array CpInfo := pool [(9, u "<init>"), (6, .class_ 18), (1, u "java/lang/Object"), (0, u "()V"), (1, .class_ 23), (1, u "jdk/internal/util/ArraysSupport"), (0, u "LOG2_ARRAY_LONG_INDEX_SCALE"), (0, u "I"), (2, u "U"), (0, u "Ljdk/internal/misc/Unsafe;"), (8, u "BIG_ENDIAN"), (0, u "Z"), (8, u "LOG2_BYTE_BIT_SIZE"), (4, u "LOG2_ARRAY_INT_INDEX_SCALE"), (54, u "JLA"), (0, u "Ljdk/internal/access/JavaLangAccess;"), (11, u "LOG2_ARRAY_BOOLEAN_INDEX_SCALE"), (9, u "LOG2_ARRAY_BYTE_INDEX_SCALE"), (5, u "LOG2_ARRAY_CHAR_INDEX_SCALE"), (5, u "LOG2_ARRAY_SHORT_INDEX_SCALE"), (18, u "LOG2_ARRAY_FLOAT_INDEX_SCALE"), (24, u "LOG2_ARRAY_DOUBLE_INDEX_SCALE"), (89, u "T_BOOLEAN"), (2, u "T_CHAR"), (1, u "T_FLOAT"), (1, u "T_DOUBLE"), (1, u "T_BYTE"), (1, u "T_SHORT"), (1, u "T_INT"), (1, u "T_LONG"), (1, u "SOFT_MAX_ARRAY_LENGTH")] 83

def k16m0 : Method := { name := "<init>", desc := "()V", sig := { parameters := [], returnType := none }, accessFlags := 2, code := none }
/-- jdk/internal/util/ArraysSupport -/
def k16 : Class := { plain "jdk/internal/util/ArraysSupport" (some 0) with
  accessFlags := 33
  interfaces := #[]
  cf := some (fileOf pool16 21 #[] #[{ accessFlags := 2, nameIndex := 9, descriptorIndex := 19, attributes := #[] }] 33 16 #[] #[{ accessFlags := 24, nameIndex := 28, descriptorIndex := 29, attributes := #[] }, { accessFlags := 26, nameIndex := 38, descriptorIndex := 39, attributes := #[] }, { accessFlags := 25, nameIndex := 121, descriptorIndex := 25, attributes := #[] }, { accessFlags := 25, nameIndex := 131, descriptorIndex := 25, attributes := #[] }, { accessFlags := 25, nameIndex := 137, descriptorIndex := 25, attributes := #[] }, { accessFlags := 25, nameIndex := 143, descriptorIndex := 25, attributes := #[] }, { accessFlags := 25, nameIndex := 53, descriptorIndex := 25, attributes := #[] }, { accessFlags := 25, nameIndex := 24, descriptorIndex := 25, attributes := #[] }, { accessFlags := 25, nameIndex := 162, descriptorIndex := 25, attributes := #[] }, { accessFlags := 25, nameIndex := 187, descriptorIndex := 25, attributes := #[] }, { accessFlags := 26, nameIndex := 48, descriptorIndex := 25, attributes := #[] }, { accessFlags := 25, nameIndex := 277, descriptorIndex := 25, attributes := #[] }, { accessFlags := 25, nameIndex := 280, descriptorIndex := 25, attributes := #[] }, { accessFlags := 25, nameIndex := 282, descriptorIndex := 25, attributes := #[] }, { accessFlags := 25, nameIndex := 284, descriptorIndex := 25, attributes := #[] }, { accessFlags := 25, nameIndex := 286, descriptorIndex := 25, attributes := #[] }, { accessFlags := 25, nameIndex := 288, descriptorIndex := 25, attributes := #[] }, { accessFlags := 25, nameIndex := 290, descriptorIndex := 25, attributes := #[] }, { accessFlags := 25, nameIndex := 292, descriptorIndex := 25, attributes := #[] }, { accessFlags := 26, nameIndex := 108, descriptorIndex := 109, attributes := #[] }, { accessFlags := 25, nameIndex := 294, descriptorIndex := 25, attributes := #[] }])
  fields := #[{ name := "U", type := (.object "jdk/internal/misc/Unsafe"), accessFlags := 24, slot := 0, constantValue := 0 }, { name := "BIG_ENDIAN", type := .boolean, accessFlags := 26, slot := 1, constantValue := 0 }, { name := "LOG2_ARRAY_BOOLEAN_INDEX_SCALE", type := .int, accessFlags := 25, slot := 2, constantValue := 0 }, { name := "LOG2_ARRAY_BYTE_INDEX_SCALE", type := .int, accessFlags := 25, slot := 3, constantValue := 0 }, { name := "LOG2_ARRAY_CHAR_INDEX_SCALE", type := .int, accessFlags := 25, slot := 4, constantValue := 0 }, { name := "LOG2_ARRAY_SHORT_INDEX_SCALE", type := .int, accessFlags := 25, slot := 5, constantValue := 0 }, { name := "LOG2_ARRAY_INT_INDEX_SCALE", type := .int, accessFlags := 25, slot := 6, constantValue := 0 }, { name := "LOG2_ARRAY_LONG_INDEX_SCALE", type := .int, accessFlags := 25, slot := 7, constantValue := 0 }, { name := "LOG2_ARRAY_FLOAT_INDEX_SCALE", type := .int, accessFlags := 25, slot := 8, constantValue := 0 }, { name := "LOG2_ARRAY_DOUBLE_INDEX_SCALE", type := .int, accessFlags := 25, slot := 9, constantValue := 0 }, { name := "LOG2_BYTE_BIT_SIZE", type := .int, accessFlags := 26, slot := 10, constantValue := 0 }, { name := "T_BOOLEAN", type := .int, accessFlags := 25, slot := 11, constantValue := 0 }, { name := "T_CHAR", type := .int, accessFlags := 25, slot := 12, constantValue := 0 }, { name := "T_FLOAT", type := .int, accessFlags := 25, slot := 13, constantValue := 0 }, { name := "T_DOUBLE", type := .int, accessFlags := 25, slot := 14, constantValue := 0 }, { name := "T_BYTE", type := .int, accessFlags := 25, slot := 15, constantValue := 0 }, { name := "T_SHORT", type := .int, accessFlags := 25, slot := 16, constantValue := 0 }, { name := "T_INT", type := .int, accessFlags := 25, slot := 17, constantValue := 0 }, { name := "T_LONG", type := .int, accessFlags := 25, slot := 18, constantValue := 0 }, { name := "JLA", type := (.object "jdk/internal/access/JavaLangAccess"), accessFlags := 26, slot := 19, constantValue := 0 }, { name := "SOFT_MAX_ARRAY_LENGTH", type := .int, accessFlags := 25, slot := 20, constantValue := 0 }]
  methods := #[k16m0]
  instanceTypes := #[]
  staticTypes := #[(.object "jdk/internal/misc/Unsafe"), .boolean, .int, .int, .int, .int, .int, .int, .int, .int, .int, .int, .int, .int, .int, .int, .int, .int, .int, (.object "jdk/internal/access/JavaLangAccess"), .int]
  resolved := Array.replicate 378 none
  statics := none }

def pool17 : Array CpInfo := pool [(1, u "java/lang/Cloneable"), (0, .class_ 1), (0, u "java/lang/Object"), (0, .class_ 3)] 3

/-- java/lang/Cloneable -/
def k17 : Class := { plain "java/lang/Cloneable" (some 0) with
  accessFlags := 1537
  interfaces := #[]
  cf := some (fileOf pool17 2 #[] #[] 1537 4 #[] #[])
  fields := #[]
  methods := #[]
  instanceTypes := #[]
  staticTypes := #[]
  resolved := Array.replicate 8 none
  statics := none }

/-- the primitive byte -/
def k18 : Class := { plain "byte" none with kind := .primitive 'B', accessFlags := 0x411 }
/-- [B -/
def k19 : Class := { plain "[B" (some 0) with kind := .array 18 .byte, interfaces := #[17, 5], accessFlags := 1041 }

/-- the primitive char -/
def k20 : Class := { plain "char" none with kind := .primitive 'C', accessFlags := 0x411 }
/-- [C -/
def k21 : Class := { plain "[C" (some 0) with kind := .array 20 .char, interfaces := #[17, 5], accessFlags := 1041 }

/-- the primitive int -/
def k22 : Class := { plain "int" none with kind := .primitive 'I', accessFlags := 0x411 }
/-- [I -/
def k23 : Class := { plain "[I" (some 0) with kind := .array 22 .int, interfaces := #[17, 5], accessFlags := 1041 }

def heap : Heap := #[{ cls := 10, slots := #[.long 0, .int 1, .null, .int 0, .null, .int 0, .int 0], vm := .statics 10 },
  { cls := 15, slots := #[.null, .null, .null], vm := .statics 15 }]
def classes : Array Class := #[k0, k1, k2, k3, k4, k5, k6, k7, k8, k9, k10, k11, k12, k13, k14, k15, k16, k17, k18, k19, k20, k21, k22, k23]
def interned : List (Array UInt16 × Addr) := []
def slotsUsed : Nat := 10
def theMethod : MethodId := ⟨1, 1⟩
def args0 : Array Value := #[.int 2, .int 7, .int 8, .int 9, .long 10]
def aboutOver (below : List Frame) : State where
  vm := { classes := classes, interned := interned.toArray }
  heap := heap
  slotsUsed := slotsUsed
  threads := #[{ frames := .invoking theMethod args0 :: below }]
def below0 : List Frame := [.native { method := ⟨0, 0⟩, args := #[] }]
def about1 : State := aboutOver below0
def p0 : Program := .bare "" "" ""
def e0 : Env := launch0.env 0 0 0
theorem w_frames : about1.frames = Frame.invoking theMethod args0 :: below0 := rfl
set_option maxRecDepth 65536 in
theorem w_args : argsFit about1.vm theMethod args0 = true := by decide +kernel
set_option maxRecDepth 65536 in
theorem w_heap : heapFits about1 = true := by decide +kernel
set_option maxRecDepth 65536 in
theorem w_runnable : about1.curStatus? = some .runnable := by decide +kernel
set_option maxRecDepth 65536 in
theorem w_alone : about1.alone = true := by decide +kernel
set_option maxRecDepth 65536 in
theorem w_named : about1.methodNamed? x = some theMethod := by decide +kernel
set_option maxRecDepth 65536 in
theorem w_hears : about1.hears theMethod below0 = true := by decide +kernel
set_option maxRecDepth 65536 in
theorem w_ripe : about1.ripe theMethod args0 below0 = true := by decide +kernel
theorem w_running : about1.status = .running := rfl
set_option maxRecDepth 65536 in
theorem w_room : about1.hasRoom e0.platform room_1 = true :=
  launch0.hasRoom_least _ room_1 (by decide +kernel) (by decide +kernel) (by decide +kernel) (by decide +kernel) (by decide +kernel) (by decide +kernel)
theorem allAtoms_all (ts : List Jvm.Cond) (a : Array Jvm.Value) (st : Jvm.State) : (allAtoms ts).before a st = ts.all (fun c => c.before a st) := by
  induction ts with
  | nil => rfl
  | cons c t ih =>
    show (Jvm.Cond.and c (allAtoms t)).before a st = _
    rw [Jvm.Cond.before_and, ih, List.all_cons]
def words1 : List Jvm.Cond := Jvm.Cond.code x code maxLocals ret :: tables_1
/-- a 'code' word, met by the world's own term for the bytes: nothing is compared byte by byte -/
theorem code_word {y : MethodName} {bytes : ByteArray} {mx : Nat} {rt : Option FieldType} {a : Array Value} {s : State} {m : MethodId} {meth : Method} {c : Code} (h1 : s.methodNamed? y = some m) (h2 : s.vm.method? m = some meth) (h3 : meth.code = some c) (h4 : c.code = bytes)
    (h5 : (c.maxLocals == mx && c.exceptionTable.isEmpty && decide (c.maxStack ≤ mostOperands) && decide (meth.sig.returnType = rt) && !meth.locks && decide (parseMethodDescriptor y.desc = some meth.sig)) = true) : (Jvm.Cond.code y bytes mx rt).before a s = true := by
  simp only [Bool.and_eq_true, beq_iff_eq, Bool.not_eq_true', decide_eq_true_eq] at h5
  obtain ⟨⟨⟨⟨⟨g1, g2⟩, g3⟩, g4⟩, g5⟩, g6⟩ := h5
  simp [Cond.before, Cond.holds, Cond.value, h1, h2, h3, h4, g1, g2, g3, g4, g5, g6]
def isCode : Jvm.Cond → Bool
  | .code _ _ _ _ => true
  | _ => false
theorem all_split {L : List Jvm.Cond} {P : Jvm.Cond → Bool} (h1 : L.all (fun c => isCode c || P c) = true) (h2 : ∀ c ∈ L.filter isCode, P c = true) : L.all P = true := by
  refine List.all_eq_true.mpr fun c hc => ?_
  have h := List.all_eq_true.mp h1 c hc
  rcases Bool.eq_false_or_eq_true (isCode c) with hi | hi
  · exact h2 c (List.mem_filter.mpr ⟨hc, hi⟩)
  · simpa [hi] using h
set_option maxRecDepth 65536 in
theorem w_c0 : (Jvm.Cond.code x code maxLocals ret).before args0 about1 = true := code_word (m := ⟨1, 1⟩) (meth := k1m1) (c := k1c1) (by decide +kernel) rfl rfl rfl (by decide +kernel)
set_option maxRecDepth 65536 in
theorem w_c1 : (Jvm.Cond.code ({ cls := "dev/callstitch/call/ResponseBody", name := "<init>", desc := "(Ljava/lang/String;[B)V" } : Jvm.MethodName) prog_12_method_1_code (3 : Nat) (Option.none : Option Jvm.ClassFile.FieldType)).before args0 about1 = true := code_word (m := ⟨4, 0⟩) (meth := k4m0) (c := k4c0) (by decide +kernel) rfl rfl rfl (by decide +kernel)
set_option maxRecDepth 65536 in
theorem w_c2 : (Jvm.Cond.code ({ cls := "dev/callstitch/call/ResponseBody", name := "<init>", desc := "(Ljava/lang/String;J[BLdev/callstitch/call/ResponseBody$Arriving;)V" } : Jvm.MethodName) prog_12_method_3_code (6 : Nat) (Option.none : Option Jvm.ClassFile.FieldType)).before args0 about1 = true := code_word (m := ⟨4, 2⟩) (meth := k4m2) (c := k4c2) (by decide +kernel) rfl rfl rfl (by decide +kernel)
set_option maxRecDepth 65536 in
theorem w_c3 : (Jvm.Cond.code ({ cls := "java/lang/Object", name := "<init>", desc := "()V" } : Jvm.MethodName) object_method_1_code (1 : Nat) (Option.none : Option Jvm.ClassFile.FieldType)).before args0 about1 = true := code_word (m := ⟨0, 0⟩) (meth := k0m0) (c := k0c0) (by decide +kernel) rfl rfl rfl (by decide +kernel)
set_option maxRecDepth 65536 in
theorem w_c4 : (Jvm.Cond.code ({ cls := "dev/callstitch/call/ResponseBody", name := "arrives", desc := "()Z" } : Jvm.MethodName) prog_12_method_10_code (1 : Nat) (Option.some Jvm.ClassFile.FieldType.boolean)).before args0 about1 = true := code_word (m := ⟨4, 6⟩) (meth := k4m6) (c := k4c6) (by decide +kernel) rfl rfl rfl (by decide +kernel)
set_option maxRecDepth 65536 in
theorem w_c5 : (Jvm.Cond.code ({ cls := "dev/callstitch/call/ResponseBody", name := "close", desc := "()V" } : Jvm.MethodName) prog_12_method_9_code (1 : Nat) (Option.none : Option Jvm.ClassFile.FieldType)).before args0 about1 = true := code_word (m := ⟨4, 5⟩) (meth := k4m5) (c := k4c5) (by decide +kernel) rfl rfl rfl (by decide +kernel)
set_option maxRecDepth 65536 in
theorem w_c6 : (Jvm.Cond.code ({ cls := "dev/callstitch/call/ResponseBody", name := "contentLength", desc := "()J" } : Jvm.MethodName) prog_12_method_5_code (1 : Nat) (Option.some Jvm.ClassFile.FieldType.long)).before args0 about1 = true := code_word (m := ⟨4, 4⟩) (meth := k4m4) (c := k4c4) (by decide +kernel) rfl rfl rfl (by decide +kernel)
set_option maxRecDepth 65536 in
theorem w_c7 : (Jvm.Cond.code ({ cls := "java/lang/String", name := "<init>", desc := "([C)V" } : Jvm.MethodName) jdk_42_method_3_code (2 : Nat) (Option.none : Option Jvm.ClassFile.FieldType)).before args0 about1 = true := code_word (m := ⟨10, 1⟩) (meth := k10m1) (c := k10c1) (by decide +kernel) rfl rfl rfl (by decide +kernel)
set_option maxRecDepth 65536 in
theorem w_c8 : (Jvm.Cond.code ({ cls := "java/lang/String", name := "<init>", desc := "([CIILjava/lang/Void;)V" } : Jvm.MethodName) jdk_42_method_149_code (6 : Nat) (Option.none : Option Jvm.ClassFile.FieldType)).before args0 about1 = true := code_word (m := ⟨10, 2⟩) (meth := k10m2) (c := k10c2) (by decide +kernel) rfl rfl rfl (by decide +kernel)
set_option maxRecDepth 65536 in
theorem w_c9 : (Jvm.Cond.code ({ cls := "java/lang/StringUTF16", name := "compress", desc := "([CII)[B" } : Jvm.MethodName) jdk_52_method_16_code (6 : Nat) (Option.some (Jvm.ClassFile.FieldType.array Jvm.ClassFile.FieldType.byte))).before args0 about1 = true := code_word (m := ⟨11, 2⟩) (meth := k11m2) (c := k11c2) (by decide +kernel) rfl rfl rfl (by decide +kernel)
set_option maxRecDepth 65536 in
theorem w_c10 : (Jvm.Cond.code ({ cls := "java/lang/StringUTF16", name := "compress", desc := "([CI[BII)I" } : Jvm.MethodName) jdk_52_method_21_code (7 : Nat) (Option.some Jvm.ClassFile.FieldType.int)).before args0 about1 = true := code_word (m := ⟨11, 3⟩) (meth := k11m3) (c := k11c3) (by decide +kernel) rfl rfl rfl (by decide +kernel)
set_option maxRecDepth 65536 in
theorem w_c11 : (Jvm.Cond.code ({ cls := "java/lang/StringUTF16", name := "coderFromArrayLen", desc := "([BI)B" } : Jvm.MethodName) jdk_52_method_15_code (2 : Nat) (Option.some Jvm.ClassFile.FieldType.byte)).before args0 about1 = true := code_word (m := ⟨11, 1⟩) (meth := k11m1) (c := k11c1) (by decide +kernel) rfl rfl rfl (by decide +kernel)
set_option maxRecDepth 65536 in
theorem w_c12 : (Jvm.Cond.code ({ cls := "dev/callstitch/call/ResponseBody", name := "<init>", desc := "(Ljava/lang/String;JLjava/io/InputStream;Ljava/lang/Runnable;)V" } : Jvm.MethodName) prog_12_method_2_code (6 : Nat) (Option.none : Option Jvm.ClassFile.FieldType)).before args0 about1 = true := code_word (m := ⟨4, 1⟩) (meth := k4m1) (c := k4c1) (by decide +kernel) rfl rfl rfl (by decide +kernel)
set_option maxRecDepth 65536 in
theorem w_c13 : (Jvm.Cond.code ({ cls := "dev/callstitch/call/ResponseBody$Arriving", name := "<init>", desc := "(Ljava/io/InputStream;Ljava/lang/Runnable;)V" } : Jvm.MethodName) prog_13_method_1_code (3 : Nat) (Option.none : Option Jvm.ClassFile.FieldType)).before args0 about1 = true := code_word (m := ⟨13, 0⟩) (meth := k13m0) (c := k13c0) (by decide +kernel) rfl rfl rfl (by decide +kernel)
set_option maxRecDepth 65536 in
theorem w_c14 : (Jvm.Cond.code ({ cls := "java/io/InputStream", name := "<init>", desc := "()V" } : Jvm.MethodName) jdk_2022_method_1_code (1 : Nat) (Option.none : Option Jvm.ClassFile.FieldType)).before args0 about1 = true := code_word (m := ⟨12, 0⟩) (meth := k12m0) (c := k12c0) (by decide +kernel) rfl rfl rfl (by decide +kernel)
set_option maxRecDepth 65536 in
theorem w_c15 : (Jvm.Cond.code ({ cls := "dev/callstitch/call/ResponseBody", name := "contentType", desc := "()Ljava/lang/String;" } : Jvm.MethodName) prog_12_method_4_code (1 : Nat) (Option.some (Jvm.ClassFile.FieldType.object "java/lang/String"))).before args0 about1 = true := code_word (m := ⟨4, 3⟩) (meth := k4m3) (c := k4c3) (by decide +kernel) rfl rfl rfl (by decide +kernel)
def codes1 : List Jvm.Cond := [Jvm.Cond.code x code maxLocals ret, Jvm.Cond.code ({ cls := "dev/callstitch/call/ResponseBody", name := "<init>", desc := "(Ljava/lang/String;[B)V" } : Jvm.MethodName) prog_12_method_1_code (3 : Nat) (Option.none : Option Jvm.ClassFile.FieldType), Jvm.Cond.code ({ cls := "dev/callstitch/call/ResponseBody", name := "<init>", desc := "(Ljava/lang/String;J[BLdev/callstitch/call/ResponseBody$Arriving;)V" } : Jvm.MethodName) prog_12_method_3_code (6 : Nat) (Option.none : Option Jvm.ClassFile.FieldType), Jvm.Cond.code ({ cls := "java/lang/Object", name := "<init>", desc := "()V" } : Jvm.MethodName) object_method_1_code (1 : Nat) (Option.none : Option Jvm.ClassFile.FieldType), Jvm.Cond.code ({ cls := "dev/callstitch/call/ResponseBody", name := "arrives", desc := "()Z" } : Jvm.MethodName) prog_12_method_10_code (1 : Nat) (Option.some Jvm.ClassFile.FieldType.boolean), Jvm.Cond.code ({ cls := "dev/callstitch/call/ResponseBody", name := "close", desc := "()V" } : Jvm.MethodName) prog_12_method_9_code (1 : Nat) (Option.none : Option Jvm.ClassFile.FieldType), Jvm.Cond.code ({ cls := "dev/callstitch/call/ResponseBody", name := "contentLength", desc := "()J" } : Jvm.MethodName) prog_12_method_5_code (1 : Nat) (Option.some Jvm.ClassFile.FieldType.long), Jvm.Cond.code ({ cls := "java/lang/String", name := "<init>", desc := "([C)V" } : Jvm.MethodName) jdk_42_method_3_code (2 : Nat) (Option.none : Option Jvm.ClassFile.FieldType), Jvm.Cond.code ({ cls := "java/lang/String", name := "<init>", desc := "([CIILjava/lang/Void;)V" } : Jvm.MethodName) jdk_42_method_149_code (6 : Nat) (Option.none : Option Jvm.ClassFile.FieldType), Jvm.Cond.code ({ cls := "java/lang/StringUTF16", name := "compress", desc := "([CII)[B" } : Jvm.MethodName) jdk_52_method_16_code (6 : Nat) (Option.some (Jvm.ClassFile.FieldType.array Jvm.ClassFile.FieldType.byte)), Jvm.Cond.code ({ cls := "java/lang/StringUTF16", name := "compress", desc := "([CI[BII)I" } : Jvm.MethodName) jdk_52_method_21_code (7 : Nat) (Option.some Jvm.ClassFile.FieldType.int), Jvm.Cond.code ({ cls := "java/lang/StringUTF16", name := "coderFromArrayLen", desc := "([BI)B" } : Jvm.MethodName) jdk_52_method_15_code (2 : Nat) (Option.some Jvm.ClassFile.FieldType.byte), Jvm.Cond.code ({ cls := "dev/callstitch/call/ResponseBody", name := "<init>", desc := "(Ljava/lang/String;JLjava/io/InputStream;Ljava/lang/Runnable;)V" } : Jvm.MethodName) prog_12_method_2_code (6 : Nat) (Option.none : Option Jvm.ClassFile.FieldType), Jvm.Cond.code ({ cls := "dev/callstitch/call/ResponseBody$Arriving", name := "<init>", desc := "(Ljava/io/InputStream;Ljava/lang/Runnable;)V" } : Jvm.MethodName) prog_13_method_1_code (3 : Nat) (Option.none : Option Jvm.ClassFile.FieldType), Jvm.Cond.code ({ cls := "java/io/InputStream", name := "<init>", desc := "()V" } : Jvm.MethodName) jdk_2022_method_1_code (1 : Nat) (Option.none : Option Jvm.ClassFile.FieldType), Jvm.Cond.code ({ cls := "dev/callstitch/call/ResponseBody", name := "contentType", desc := "()Ljava/lang/String;" } : Jvm.MethodName) prog_12_method_4_code (1 : Nat) (Option.some (Jvm.ClassFile.FieldType.object "java/lang/String"))]
set_option maxRecDepth 65536 in
theorem codes_eq : words1.filter isCode = codes1 := rfl
theorem w_codes : ∀ c ∈ words1.filter isCode, c.before args0 about1 = true := by
  rw [codes_eq]
  intro c hc
  simp only [codes1, List.mem_cons, List.not_mem_nil, or_false] at hc
  rcases hc with rfl | rfl | rfl | rfl | rfl | rfl | rfl | rfl | rfl | rfl | rfl | rfl | rfl | rfl | rfl | rfl
  · exact w_c0
  · exact w_c1
  · exact w_c2
  · exact w_c3
  · exact w_c4
  · exact w_c5
  · exact w_c6
  · exact w_c7
  · exact w_c8
  · exact w_c9
  · exact w_c10
  · exact w_c11
  · exact w_c12
  · exact w_c13
  · exact w_c14
  · exact w_c15
set_option maxRecDepth 65536 in
theorem w_t1 : (words1.take 24).all (fun c => isCode c || c.before args0 about1) = true := by decide +kernel
set_option maxRecDepth 65536 in
theorem w_t2 : ((words1.drop 24).take 24).all (fun c => isCode c || c.before args0 about1) = true := by decide +kernel
set_option maxRecDepth 65536 in
theorem w_t3 : (((words1.drop 24).drop 24).take 24).all (fun c => isCode c || c.before args0 about1) = true := by decide +kernel
set_option maxRecDepth 65536 in
theorem w_t4 : (((words1.drop 24).drop 24).drop 24).all (fun c => isCode c || c.before args0 about1) = true := by decide +kernel
theorem w_tables : (allAtoms (Jvm.Cond.code x code maxLocals ret :: tables_1)).before args0 about1 = true := by
  rw [allAtoms_all]
  show words1.all (fun c => c.before args0 about1) = true
  refine all_split ?_ w_codes
  rw [← List.take_append_drop 24 words1, List.all_append, w_t1, ← List.take_append_drop 24 (words1.drop 24), List.all_append, w_t2, ← List.take_append_drop 24 ((words1.drop 24).drop 24), List.all_append, w_t3, w_t4]
  rfl
set_option maxRecDepth 65536 in
theorem w_rest : rest_1_c.before args0 about1 = true := by decide +kernel
set_option maxRecDepth 65536 in
theorem w_case : (Jvm.Cond.and given_1 narrow_1).before args0 about1 = true := by decide +kernel
theorem w_applies : (headSpec (Jvm.Cond.code x code maxLocals ret :: tables_1) room_1).applies x e0.platform about1 = true :=
  (Spec.applies_iff w_frames).mpr ⟨w_running, w_runnable, w_alone, w_named, w_hears, w_ripe, w_room, w_tables⟩
theorem atStart : AtStart classFile x code maxLocals ret World_1 tables_1 room_1 Calls_1 rest_1 Pre_1 launch0 p0 e0 about1 theMethod args0 below0 :=
  ⟨lists_1, trivial, launch0.admits_env _ _ _, launch0.least_env, fairChoices_fair.cas, fairChoices_fair.clock, w_frames, w_args, w_heap, w_applies, trivial, w_rest, w_case⟩
end start1
theorem witness_1 : WitnessClaimed_1 := ⟨start1.p0, start1.e0, start1.about1, start1.theMethod, start1.args0, start1.below0, start1.atStart⟩
end Jvm.Pilot.@@N@@
