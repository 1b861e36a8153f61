import JvmDerived
import JvmDerived.Pilot.@@N@@Statement
import JvmDerived.Pilot.@@N@@Code
set_option linter.unusedVariables false
set_option linter.unusedSimpArgs false
@@BLOCK:NumsL.lean.txt@@
namespace Jvm.Pilot.@@N@@
open Jvm Jvm.ClassFile Sem Op Lib Jvm.Free Jvm.Stand Jvm.LawKit Jvm.RoadKit Bundle Jvm.Pilot.@@N@@.Jvm.D
section Own
variable {p : Program} {l : Launch} {e : Env} {R : Room} {s : State} {m : MethodId} {args : Array Value} {below : List Frame} {meth : Method} {c : Code} {T : State} {locs : List Loc} {cells slots : Nat} {Z : State} {a0 : Array Value} {h : Heap}
/-- from t the run comes to an end that P speaks of -/
def Goes (p : Program) (e : Env) (below : List Frame) (P : State → Outcome → Prop) (t : State) : Prop :=
  ∃ s₂ o, Steps p.tables e below t s₂ ∧ s₂.status = .running ∧ Ended s₂ below o ∧ P s₂ o
/-- it returned, what Q says, and the frame -/
def Aim (s : State) (Q : Option Value → Heap → List Loc → Prop) (k n : Nat) (s₂ : State) (o : Outcome) : Prop :=
  ∃ v L, o = .returned v ∧ Q v s₂.heap L ∧ FrameEnd s o s₂ L k n
theorem Goes.step {P : State → Outcome → Prop} {t t' : State} (st : ∀ tgt, Steps p.tables e below t' tgt → Steps p.tables e below t tgt) (q : Goes p e below P t') : Goes p e below P t := by
  obtain ⟨s₂, o, k, r⟩ := q
  exact ⟨s₂, o, st _ k, r⟩
theorem Goes.tr {P : State → Outcome → Prop} {t t' : State} (st : Steps p.tables e below t t') (q : Goes p e below P t') : Goes p e below P t := by
  obtain ⟨s₂, o, k, r⟩ := q
  exact ⟨s₂, o, st.trans k, r⟩
theorem Goes.retN (X : Stand p l e R s m args below meth c T locs cells slots) (hx : p.tables.exec = Jvm.exec) (hlk : meth.locks = false) {t : FieldType} (hret : meth.sig.returnType = some t) (ht : t = .boolean ∨ t = .byte ∨ t = .char ∨ t = .short) {pc : Nat} {Ls : Array Slot} {z : Int32} {rest : List Value}
    (hd : decode c.code pc = .ok (.ireturn, 1)) {Q : Option Value → Heap → List Loc → Prop} {k n : Nat} (hk : cells ≤ k) (hn : slots ≤ n) (hQ : Q (some (.int (nar t z))) T.heap locs) :
    Goes p e below (Aim s Q k n) (T.setTop (mkF m pc Ls (.int z :: rest))) := by
  obtain ⟨fs, hr, hrun, hended, hW, hsame⟩ := X.leave (v := some (.int (nar t z))) (fun h => by rw [hret] at h; cases h) hlk
  exact ⟨_, _, Jvm.RoadKit.retN X hx hret ht hd hr, hrun, hended, _, _, rfl, hQ, ⟨_, rfl⟩, hW, hsame.mono hk hn⟩
theorem Goes.ret (X : Stand p l e R s m args below meth c T locs cells slots) (hx : p.tables.exec = Jvm.exec) (hlk : meth.locks = false) {t : FieldType} (hret : meth.sig.returnType = some t) {w : Value} (hnr : narrow t w = w) {i : Instr} {pc : Nat} {Ls : Array Slot} {rest : List Value}
    (hi : (i = .ireturn ∧ (t = .int ∨ t = .boolean ∨ t = .byte ∨ t = .char ∨ t = .short) ∧ ∃ z, w = .int z) ∨ (i = .lreturn ∧ t = .long ∧ ∃ z, w = .long z) ∨ (i = .dreturn ∧ t = .double ∧ ∃ z, w = .double z) ∨ (i = .freturn ∧ t = .float ∧ ∃ z, w = .float z) ∨ (i = .areturn ∧ t.isReference = true ∧ w.isRef = true))
    (hd : decode c.code pc = .ok (i, 1)) {Q : Option Value → Heap → List Loc → Prop} {k n : Nat} (hk : cells ≤ k) (hn : slots ≤ n) (hQ : Q (some w) T.heap locs) :
    Goes p e below (Aim s Q k n) (T.setTop (mkF m pc Ls (w :: rest))) := by
  obtain ⟨fs, hr, hrun, hended, hW, hsame⟩ := X.leave (v := some w) (fun h => by rw [hret] at h; cases h) hlk
  exact ⟨_, _, Jvm.RoadKit.retOut X hx hret hnr hi hd hr, hrun, hended, _, _, rfl, hQ, ⟨_, rfl⟩, hW, hsame.mono hk hn⟩
theorem Goes.ret0 (X : Stand p l e R s m args below meth c T locs cells slots) (hx : p.tables.exec = Jvm.exec) (hlk : meth.locks = false) (hret : meth.sig.returnType = none) {pc : Nat} {Ls : Array Slot}
    (hd : decode c.code pc = .ok (.return_, 1)) {Q : Option Value → Heap → List Loc → Prop} {k n : Nat} (hk : cells ≤ k) (hn : slots ≤ n) (hQ : Q none T.heap locs) :
    Goes p e below (Aim s Q k n) (T.setTop (mkF m pc Ls [])) := by
  obtain ⟨fs, hr, hrun, hended, hW, hsame⟩ := X.leave (v := none) (fun _ => rfl) hlk
  exact ⟨_, _, X.returnOut hx hret hd hr, hrun, hended, _, _, rfl, hQ, ⟨_, rfl⟩, hW, hsame.mono hk hn⟩
/-- a body's contract: called with these arguments over the heap h0 it returns, and Q says what it leaves -/
def Con (l : Launch) (Z : State) (y : MethodName) (bytes : ByteArray) (maxL : Nat) (ret : Option FieldType) (rm : Room) (as : Array Value) (h0 : Heap) (Q : Option Value → Heap → List Loc → Prop) : Prop :=
  ∀ ws : List Jvm.Cond, MetFree l y (head1 (Jvm.Cond.code y bytes maxL ret :: ws) rm) (fun a U => a = as ∧ Z.Warmed39 U.vm ∧ U.heap = h0) (fun _ _ _ _ _ => True) (fun _ U o U' => ∃ v L, o = .returned v ∧ Q v U'.heap L ∧ FrameEnd U o U' L rm.cells rm.slots)
theorem Con.body {y : MethodName} {bytes : ByteArray} {maxL : Nat} {ret : Option FieldType} {rm : Room} {as : Array Value} {h0 : Heap} {Q : Option Value → Heap → List Loc → Prop} (hp : plainFor y = true)
    (H : ∀ (p : Program) (e : Env) (s : State) (m : MethodId) (below : List Frame) (meth : Method) (c : Code) (s₁ : State), p.tables.exec = Jvm.exec → c.code = bytes → c.maxLocals = maxL → Z.Warmed39 s.vm → s.vm.findClass y.cls = some m.cls → meth.name = y.name → meth.sig.returnType = ret → meth.locks = false →
      Stand p l e rm s m as below meth c s₁ [] 0 0 → s₁.heap = h0 → Goes p e below (Aim s Q rm.cells rm.slots) (s₁.setTop (entryFrame m as maxL))) :
    Con l Z y bytes maxL ret rm as h0 Q := by
  intro ws
  refine MetFree.of_bodySF hp hisR ?_
  intro p e s m args below meth c s₁ Bd hml0 hP hK
  obtain ⟨rfl, hZ, hh⟩ := hP
  exact H p e s m below meth c s₁ Bd.exec Bd.bytes hml0 hZ (findClass_of_methodNamed Bd.named) (name_of_methodNamed Bd.named Bd.method).1 Bd.returns Bd.notSynchronized (Stand.of_body Bd) (by rw [← hh, Bd.state]; rfl)
theorem Goes.callS (X : Stand p l e R s m args below meth c T locs cells slots) (hx : p.tables.exec = Jvm.exec) (hZ : Z.Warmed39 s.vm) {own : String} {index : Nat} {y : MethodName} {bytes : ByteArray} {maxL : Nat} {ret : Option FieldType} {rm : Room} {as : List Value} {Q : Option Value → Heap → List Loc → Prop} (hown : s.vm.findClass own = some m.cls)
    (w1 : (Jvm.Cond.methodLink own index y).before a0 Z = true) (w2 : (Jvm.Cond.static y).before a0 Z = true) (w3 : (Jvm.Cond.initialized y.cls).before a0 Z = true) (w4 : (Jvm.Cond.code y bytes maxL ret).before a0 Z = true) (hy : y.cls ≠ "java/lang/invoke/MethodHandle" ∧ y.cls ≠ "java/lang/invoke/VarHandle")
    (eT : T.heap = h) (hM : Con l Z y bytes maxL ret rm as.toArray h Q) {W : Nat} (hf : rm.frames + 1 ≤ R.frames) (hl : W + (maxL + 11) + rm.locals ≤ R.locals) (hc : cells + rm.cells ≤ R.cells) (hs : slots + rm.slots ≤ R.slots)
    {g : JFrame} (hg : g.method = m) (hsize : g.locals.size = c.maxLocals) {rest : List Value} {ps : List FieldType} {r : Option FieldType} (hd : parseMethodDescriptor y.desc = some ⟨ps, r⟩) (hlen : as.length = ps.length) (hstack : g.stack = as.reverse ++ rest) (hW : 2 * g.monitorRoom + (rest.map fun v => v.category).sum ≤ W) (hdg : decode c.code g.pc = .ok (.invokestatic index, 3))
    {P : State → Outcome → Prop} (k : ∀ v T' L, Stand p l e R s m args below meth c T' (locs ++ L) (cells + rm.cells) (slots + rm.slots) → Q v T'.heap L → Goes p e below P (T'.setTop { g with pc := g.pc + 3, stack := v.toList ++ rest })) :
    Goes p e below P (T.setTop g) := by
  obtain ⟨v, vm₁, ⟨T', L', k', n'⟩, -, X', ⟨L, hQ, l', y', z'⟩, st⟩ := Jvm.LawKit.callS X hx hown (mvT hZ w1) (mvT hZ w2) (mvT hZ w3) (mvT hZ w4) hy (backOf (W := W) (hM []) hZ w4 w3 hf hl) (g := g) hg hsize (argsL := as) (rest := rest) (lenOf hd hlen) hstack hW hdg (fun _ _ => ⟨rfl, eT, hc, hs⟩)
  try dsimp only at X' hQ l' y' z' st
  subst l' y' z'
  exact Goes.step st (k v T' L X' hQ)
theorem Goes.callV (X : Stand p l e R s m args below meth c T locs cells slots) (hx : p.tables.exec = Jvm.exec) (hZ : Z.Warmed39 s.vm) {own C : String} {index : Nat} {y z : MethodName} {bytes : ByteArray} {maxL : Nat} {ret : Option FieldType} {rm : Room} {as : List Value} {Q : Option Value → Heap → List Loc → Prop} (hown : s.vm.findClass own = some m.cls)
    (w1 : (Jvm.Cond.methodLink own index y).before a0 Z = true) (w2 : (Jvm.Cond.declares y).before a0 Z = true) (hnf : NotFace s y) (w3 : (Jvm.Cond.selects C y z).before a0 Z = true) (w4 : (Jvm.Cond.instanceMethod z).before a0 Z = true) (w5 : (Jvm.Cond.code z bytes maxL ret).before a0 Z = true) (w6 : (Jvm.Cond.initialized z.cls).before a0 Z = true) (hy : y.cls ≠ "java/lang/invoke/MethodHandle" ∧ y.cls ≠ "java/lang/invoke/VarHandle")
    (eT : T.heap = h) {b : Addr} (E : Exa Z h b C) (hM : Con l Z z bytes maxL ret rm (.ref b :: as).toArray h Q) {W : Nat} (hf : rm.frames + 1 ≤ R.frames) (hl : W + (maxL + 11) + rm.locals ≤ R.locals) (hc : cells + rm.cells ≤ R.cells) (hs : slots + rm.slots ≤ R.slots)
    {g : JFrame} (hg : g.method = m) (hsize : g.locals.size = c.maxLocals) {rest : List Value} {ps : List FieldType} {r : Option FieldType} (hd : parseMethodDescriptor y.desc = some ⟨ps, r⟩) (hlen : as.length = ps.length) (hstack : g.stack = as.reverse ++ .ref b :: rest) (hW : 2 * g.monitorRoom + (rest.map fun v => v.category).sum ≤ W) (hdg : decode c.code g.pc = .ok (.invokevirtual index, 3))
    {P : State → Outcome → Prop} (k : ∀ v T' L, Stand p l e R s m args below meth c T' (locs ++ L) (cells + rm.cells) (slots + rm.slots) → Q v T'.heap L → Goes p e below P (T'.setTop { g with pc := g.pc + 3, stack := v.toList ++ rest })) :
    Goes p e below P (T.setTop g) := by
  obtain ⟨cB, kB, q1, -, q3⟩ := isOf hZ eT E
  obtain ⟨v, vm₁, ⟨T', L', k', n'⟩, -, X', ⟨L, hQ, l', y', z'⟩, st⟩ := X.virtualBack hx (y := y) (z := z) hown (mvT hZ w1) (mvT hZ w2) hnf (mvT hZ w3) (mvT hZ w4) hy (backOf (W := W) (hM []) hZ w5 w6 hf hl) q1 q3 (g := g) hg hsize (Steps.refl _) (argsL := as) (rest := rest) (lenOf hd hlen) hstack hW hdg (fun _ _ => ⟨rfl, eT, hc, hs⟩)
  try dsimp only at X' hQ l' y' z' st
  subst l' y' z'
  exact Goes.tr st (k v T' L X' hQ)
theorem Goes.callI (X : Stand p l e R s m args below meth c T locs cells slots) (hx : p.tables.exec = Jvm.exec) (hZ : Z.Warmed39 s.vm) {own : String} {index : Nat} {y : MethodName} {bytes : ByteArray} {maxL : Nat} {rm : Room} {as : List Value} {Q : Option Value → Heap → List Loc → Prop} (hy1 : y.name = "<init>") (hown : s.vm.findClass own = some m.cls)
    (w1 : (Jvm.Cond.methodLink own index y).before a0 Z = true) (w2 : (Jvm.Cond.instanceMethod y).before a0 Z = true) (w3 : (Jvm.Cond.code y bytes maxL none).before a0 Z = true) (w4 : (Jvm.Cond.initialized y.cls).before a0 Z = true) (hy : y.cls ≠ "java/lang/invoke/MethodHandle" ∧ y.cls ≠ "java/lang/invoke/VarHandle")
    (eT : T.heap = h) {b : Addr} (hM : Con l Z y bytes maxL none rm (.ref b :: as).toArray h Q) {W : Nat} (hf : rm.frames + 1 ≤ R.frames) (hl : W + (maxL + 11) + rm.locals ≤ R.locals) (hc : cells + rm.cells ≤ R.cells) (hs : slots + rm.slots ≤ R.slots)
    {g : JFrame} (hg : g.method = m) (hsize : g.locals.size = c.maxLocals) {rest : List Value} {ps : List FieldType} {r : Option FieldType} (hd : parseMethodDescriptor y.desc = some ⟨ps, r⟩) (hlen : as.length = ps.length) (hstack : g.stack = as.reverse ++ .ref b :: rest) (hW : 2 * g.monitorRoom + (rest.map fun v => v.category).sum ≤ W) (hdg : decode c.code g.pc = .ok (.invokespecial index, 3))
    {P : State → Outcome → Prop} (k : ∀ v T' L, Stand p l e R s m args below meth c T' (locs ++ L) (cells + rm.cells) (slots + rm.slots) → Q v T'.heap L → Goes p e below P (T'.setTop { g with pc := g.pc + 3, stack := v.toList ++ rest })) :
    Goes p e below P (T.setTop g) := by
  obtain ⟨v, vm₁, ⟨T', L', k', n'⟩, -, X', ⟨L, hQ, l', y', z'⟩, st⟩ := X.specialBack hx (y := y) hy1 hown (mvT hZ w1) (mvT hZ w2) (mvT hZ w3) hy (backOf (W := W) (hM []) hZ w3 w4 hf hl) (g := g) hg hsize (Steps.refl _) (a := b) (argsL := as) (rest := rest) (lenOf hd hlen) hstack hW hdg (fun _ _ => ⟨rfl, eT, hc, hs⟩)
  try dsimp only at X' hQ l' y' z' st
  subst l' y' z'
  exact Goes.tr st (k v T' L X' hQ)
theorem own_refR {v : Value} (h : v.isRef = true) : v = .null ∨ ∃ a, v = .ref a := by
  cases v <;> first | exact Or.inl rfl | exact Or.inr ⟨_, rfl⟩ | cases h
theorem jlt {a b : Int64} : lcmpW a b < 0 ↔ a < b := by rw [lcW]; exact lc_lt a b
theorem jgt {a b : Int64} : 0 < lcmpW a b ↔ b < a := by rw [lcW]; exact lc_gt a b
theorem jeq {a b : Int64} : lcmpW a b = 0 ↔ a = b := by rw [lcW]; exact lc_eq a b
end Own
section OwnHeap
variable {p : Program} {l : Launch} {e : Env} {R : Room} {s : State} {m : MethodId} {args : Array Value} {below : List Frame} {meth : Method} {c : Code} {T : State} {locs : List Loc} {cells slots : Nat} {Z : State} {a0 : Array Value} {h h' : Heap} {a b : Addr} {ty : FieldType} {n : Nat} {f f' : Nat → Value} {sl : Nat} {v : Value} {ws : List Addr}
theorem own_ix {j : Int32} {i n : Nat} (hj : j.toInt = (i : Int)) (hi : i < n) : ¬ (j < 0 ∨ n ≤ j.toNatClampNeg) := by
  simp only [Int32.lt_iff_toInt_lt, Int32.toNatClampNeg, hj, Int32.reduceToInt]; omega
theorem own_ixn {j : Int32} {i : Nat} (hj : j.toInt = (i : Int)) : j.toNatClampNeg = i := by
  simp only [Int32.toNatClampNeg, hj]; omega
/-- the array at a holds n places, the i-th f i -/
def Afn (Z : State) (h : Heap) (a : Addr) (ty : FieldType) (n : Nat) (f : Nat → Value) : Prop :=
  ∃ c : Cell, Arr Z h a c ty ∧ c.slots.size = n ∧ n < 2 ^ 31 ∧ (∀ i, i < n → c.slots[i]? = some (f i)) ∧ ∀ i, i < n → fits ty (f i) = true
theorem Afn.lt (F : Afn Z h a ty n f) : a < h.size := by obtain ⟨c, A, -⟩ := F; exact A.lt
theorem Afn.ext (F : Afn Z h a ty n f) (E : Ext h h') : Afn Z h' a ty n f := by obtain ⟨c, A, r⟩ := F; exact ⟨c, A.ext E, r⟩
theorem Afn.other (F : Afn Z h b ty n f) (W : Wr h h' a sl v) (q : b ≠ a) : Afn Z h' b ty n f := by obtain ⟨c, A, r⟩ := F; exact ⟨c, A.other W q, r⟩
theorem Afn.keep (F : Afn Z h a ty n f) (K : Keep h h' ws) (q : a ∉ ws) : Afn Z h' a ty n f := by obtain ⟨c, A, r⟩ := F; exact ⟨c, ⟨K.2.1 a c A.1 q, A.2⟩, r⟩
theorem Afn.congr (F : Afn Z h a ty n f) (q : ∀ i, i < n → f i = f' i) : Afn Z h a ty n f' := by
  obtain ⟨c, A, S, B, H, G⟩ := F
  exact ⟨c, A, S, B, fun i hi => by rw [← q i hi]; exact H i hi, fun i hi => by rw [← q i hi]; exact G i hi⟩
theorem Afn.new {k : ClassId} {z : Int32} (A : Arr Z h a (newA k ty z) ty) (q : z.toInt = (n : Int)) : Afn Z h a ty n (fun _ => defaultValue ty) := by
  obtain ⟨c, A', -, S, q3, H, G⟩ := Arv.new A (by rw [Int32.lt_iff_toInt_lt, q]; simp only [Int32.reduceToInt]; omega)
  rw [own_ixn q] at S
  refine ⟨c, A', S, ?_, fun i hi => H i (by rw [S]; exact hi), fun i hi => G i (by rw [S]; exact hi)⟩
  have := z.toInt_lt
  omega
theorem Afn.set {i : Nat} (F : Afn Z h a ty n f) (W : Wr h h' a i v) (hv : fits ty v = true) : Afn Z h' a ty n (fun x => if x = i then v else f x) := by
  obtain ⟨c, A, S, B, H, G⟩ := F
  refine ⟨_, A.same W, by rw [sz_set]; exact S, B, fun x hx => ?_, fun x hx => ?_⟩
  · show _ = some (if x = i then v else f x)
    by_cases q : x = i
    · subst q
      rw [if_pos rfl]
      have hx' : x < c.slots.size := by rw [S]; exact hx
      simp [Cell.setSlot, hx']
    · rw [if_neg q, ← H x hx]
      exact Array.getElem?_setIfInBounds_ne (Ne.symm q)
  · by_cases q : x = i
    · simp only [q, if_true]; exact hv
    · simp only [if_neg q]; exact G x hx
theorem Goes.iastore (X : Stand p l e R s m args below meth c T locs cells slots) (hx : p.tables.exec = Jvm.exec) (hZ : Z.Warmed39 s.vm) (eT : T.heap = h) (A : Afn Z h a .int n f) {j : Int32} {i : Nat} (hj : j.toInt = (i : Int)) (hi : i < n) {x : Int32} {g : JFrame} (hg : g.method = m) {rest : List Value} (hs : g.stack = .int x :: .int j :: .ref a :: rest) (hd : decode c.code g.pc = .ok (.iastore, 1)) {P : State → Outcome → Prop}
    (k : ∀ T' h', Stand p l e R s m args below meth c T' (locs ++ [⟨a, i⟩]) cells slots → T'.heap = h' → Wr h h' a i (.int x) → Afn Z h' a .int n (fun z => if z = i then .int x else f z) → Goes p e below P (T'.setTop { g with pc := g.pc + 1, stack := rest })) : Goes p e below P (T.setTop g) := by
  obtain ⟨cl, A1, S, -⟩ := id A
  obtain ⟨T', h', X', e', W, st⟩ := stI X hx hZ eT A1 (j := j) (by rw [S]; exact own_ix hj hi) hg hs hd
  rw [own_ixn hj] at X' W
  exact Goes.step st (k T' h' X' e' W (A.set W rfl))
theorem Goes.lastore (X : Stand p l e R s m args below meth c T locs cells slots) (hx : p.tables.exec = Jvm.exec) (hZ : Z.Warmed39 s.vm) (eT : T.heap = h) (A : Afn Z h a .long n f) {j : Int32} {i : Nat} (hj : j.toInt = (i : Int)) (hi : i < n) {x : Int64} {g : JFrame} (hg : g.method = m) {rest : List Value} (hs : g.stack = .long x :: .int j :: .ref a :: rest) (hd : decode c.code g.pc = .ok (.lastore, 1)) {P : State → Outcome → Prop}
    (k : ∀ T' h', Stand p l e R s m args below meth c T' (locs ++ [⟨a, i⟩]) cells slots → T'.heap = h' → Wr h h' a i (.long x) → Afn Z h' a .long n (fun z => if z = i then .long x else f z) → Goes p e below P (T'.setTop { g with pc := g.pc + 1, stack := rest })) : Goes p e below P (T.setTop g) := by
  obtain ⟨cl, A1, S, -⟩ := id A
  obtain ⟨T', h', X', e', W, st⟩ := stJ X hx hZ eT A1 (j := j) (by rw [S]; exact own_ix hj hi) hg hs hd
  rw [own_ixn hj] at X' W
  exact Goes.step st (k T' h' X' e' W (A.set W rfl))
theorem Goes.bastore (X : Stand p l e R s m args below meth c T locs cells slots) (hx : p.tables.exec = Jvm.exec) (hZ : Z.Warmed39 s.vm) (eT : T.heap = h) (A : Afn Z h a .byte n f) {j : Int32} {i : Nat} (hj : j.toInt = (i : Int)) (hi : i < n) {x : Int32} {g : JFrame} (hg : g.method = m) {rest : List Value} (hs : g.stack = .int x :: .int j :: .ref a :: rest) (hd : decode c.code g.pc = .ok (.bastore, 1)) {P : State → Outcome → Prop}
    (k : ∀ T' h', Stand p l e R s m args below meth c T' (locs ++ [⟨a, i⟩]) cells slots → T'.heap = h' → Wr h h' a i (.int x.toInt8.toInt32) → Afn Z h' a .byte n (fun z => if z = i then .int x.toInt8.toInt32 else f z) → Goes p e below P (T'.setTop { g with pc := g.pc + 1, stack := rest })) : Goes p e below P (T.setTop g) := by
  obtain ⟨cl, A1, S, -⟩ := id A
  obtain ⟨T', h', X', e', W, st⟩ := stB X hx hZ eT A1 (j := j) (by rw [S]; exact own_ix hj hi) hg hs hd
  rw [own_ixn hj] at X' W
  exact Goes.step st (k T' h' X' e' W (A.set W (fits_nar_byte x)))
theorem Goes.castore (X : Stand p l e R s m args below meth c T locs cells slots) (hx : p.tables.exec = Jvm.exec) (hZ : Z.Warmed39 s.vm) (eT : T.heap = h) (A : Afn Z h a .char n f) {j : Int32} {i : Nat} (hj : j.toInt = (i : Int)) (hi : i < n) {x : Int32} {g : JFrame} (hg : g.method = m) {rest : List Value} (hs : g.stack = .int x :: .int j :: .ref a :: rest) (hd : decode c.code g.pc = .ok (.castore, 1)) {P : State → Outcome → Prop}
    (k : ∀ T' h', Stand p l e R s m args below meth c T' (locs ++ [⟨a, i⟩]) cells slots → T'.heap = h' → Wr h h' a i (.int (nar .char x)) → Afn Z h' a .char n (fun z => if z = i then .int (nar .char x) else f z) → Goes p e below P (T'.setTop { g with pc := g.pc + 1, stack := rest })) : Goes p e below P (T.setTop g) := by
  obtain ⟨cl, A1, S, -⟩ := id A
  obtain ⟨T', h', X', e', W, st⟩ := stC X hx hZ eT A1 (j := j) (by rw [S]; exact own_ix hj hi) hg hs hd
  rw [own_ixn hj] at X' W
  exact Goes.step st (k T' h' X' e' W (A.set W (fits_nar_char x)))
theorem Goes.iaload (X : Stand p l e R s m args below meth c T locs cells slots) (hx : p.tables.exec = Jvm.exec) (hZ : Z.Warmed39 s.vm) (eT : T.heap = h) (A : Afn Z h a .int n f) {j : Int32} {i : Nat} (hj : j.toInt = (i : Int)) (hi : i < n) (hv : f i = v) {g : JFrame} (hg : g.method = m) {rest : List Value} (hs : g.stack = .int j :: .ref a :: rest) (hd : decode c.code g.pc = .ok (.iaload, 1)) {P : State → Outcome → Prop}
    (k : Goes p e below P (T.setTop { g with pc := g.pc + 1, stack := v :: rest })) : Goes p e below P (T.setTop g) := by
  obtain ⟨cl, A1, S, B, H, G⟩ := A
  exact Goes.step (fun tgt q => X.iaload hx (j := j) (v := v) (by rw [eT]; exact A1.1) (State.isArrayOf_alike hZ.alike A1.2.1) A1.2.2 (by rw [S]; exact own_ix hj hi) (by rw [own_ixn hj, ← hv]; exact H i hi) hg hs hd tgt q) k
theorem Goes.laload (X : Stand p l e R s m args below meth c T locs cells slots) (hx : p.tables.exec = Jvm.exec) (hZ : Z.Warmed39 s.vm) (eT : T.heap = h) (A : Afn Z h a .long n f) {j : Int32} {i : Nat} (hj : j.toInt = (i : Int)) (hi : i < n) (hv : f i = v) {g : JFrame} (hg : g.method = m) {rest : List Value} (hs : g.stack = .int j :: .ref a :: rest) (hd : decode c.code g.pc = .ok (.laload, 1)) {P : State → Outcome → Prop}
    (k : Goes p e below P (T.setTop { g with pc := g.pc + 1, stack := v :: rest })) : Goes p e below P (T.setTop g) := by
  obtain ⟨cl, A1, S, B, H, G⟩ := A
  exact Goes.step (fun tgt q => X.laload hx (j := j) (v := v) (by rw [eT]; exact A1.1) (State.isArrayOf_alike hZ.alike A1.2.1) A1.2.2 (by rw [S]; exact own_ix hj hi) (by rw [own_ixn hj, ← hv]; exact H i hi) hg hs hd tgt q) k
theorem Goes.baload (X : Stand p l e R s m args below meth c T locs cells slots) (hx : p.tables.exec = Jvm.exec) (hZ : Z.Warmed39 s.vm) (eT : T.heap = h) (A : Afn Z h a .byte n f) {j : Int32} {i : Nat} (hj : j.toInt = (i : Int)) (hi : i < n) (hv : f i = v) {g : JFrame} (hg : g.method = m) {rest : List Value} (hs : g.stack = .int j :: .ref a :: rest) (hd : decode c.code g.pc = .ok (.baload, 1)) {P : State → Outcome → Prop}
    (k : Goes p e below P (T.setTop { g with pc := g.pc + 1, stack := v :: rest })) : Goes p e below P (T.setTop g) := by
  obtain ⟨cl, A1, S, B, H, G⟩ := A
  exact Goes.step (fun tgt q => X.baloadBytes hx (j := j) (v := v) (by rw [eT]; exact A1.1) (State.isArrayOf_alike hZ.alike A1.2.1) A1.2.2 (by rw [S]; exact own_ix hj hi) (by rw [own_ixn hj, ← hv]; exact H i hi) hg hs hd tgt q) k
theorem Goes.caload (X : Stand p l e R s m args below meth c T locs cells slots) (hx : p.tables.exec = Jvm.exec) (hZ : Z.Warmed39 s.vm) (eT : T.heap = h) (A : Afn Z h a .char n f) {j : Int32} {i : Nat} (hj : j.toInt = (i : Int)) (hi : i < n) (hv : f i = v) {g : JFrame} (hg : g.method = m) {rest : List Value} (hs : g.stack = .int j :: .ref a :: rest) (hd : decode c.code g.pc = .ok (.caload, 1)) {P : State → Outcome → Prop}
    (k : Goes p e below P (T.setTop { g with pc := g.pc + 1, stack := v :: rest })) : Goes p e below P (T.setTop g) := by
  obtain ⟨cl, A1, S, B, H, G⟩ := A
  exact Goes.step (fun tgt q => X.caload hx (j := j) (v := v) (by rw [eT]; exact A1.1) (State.isArrayOf_alike hZ.alike A1.2.1) A1.2.2 (by rw [S]; exact own_ix hj hi) (by rw [own_ixn hj, ← hv]; exact H i hi) hg hs hd tgt q) k
theorem Goes.aaload {C : FieldType} (X : Stand p l e R s m args below meth c T locs cells slots) (hx : p.tables.exec = Jvm.exec) (hZ : Z.Warmed39 s.vm) (eT : T.heap = h) (A : Afn Z h a C n f) (hC : C.isReference = true) {j : Int32} {i : Nat} (hj : j.toInt = (i : Int)) (hi : i < n) (hv : f i = v) {g : JFrame} (hg : g.method = m) {rest : List Value} (hs : g.stack = .int j :: .ref a :: rest) (hd : decode c.code g.pc = .ok (.aaload, 1)) {P : State → Outcome → Prop}
    (k : Goes p e below P (T.setTop { g with pc := g.pc + 1, stack := v :: rest })) : Goes p e below P (T.setTop g) := by
  obtain ⟨cl, A1, S, B, H, G⟩ := A
  exact Goes.step (fun tgt q => X.aaload hx (j := j) (v := v) (by rw [eT]; exact A1.1) (State.isArrayOf_alike hZ.alike A1.2.1) hC A1.2.2 (by rw [S]; exact own_ix hj hi) (by rw [own_ixn hj, ← hv]; exact H i hi) hg hs hd tgt q) k
theorem Goes.alen (X : Stand p l e R s m args below meth c T locs cells slots) (hx : p.tables.exec = Jvm.exec) (hZ : Z.Warmed39 s.vm) (eT : T.heap = h) (A : Afn Z h a ty n f) {z : Int32} (hz : z.toInt = (n : Int)) {g : JFrame} (hg : g.method = m) {rest : List Value} (hs : g.stack = .ref a :: rest) (hd : decode c.code g.pc = .ok (.arraylength, 1)) {P : State → Outcome → Prop}
    (k : Goes p e below P (T.setTop { g with pc := g.pc + 1, stack := .int z :: rest })) : Goes p e below P (T.setTop g) := by
  obtain ⟨cl, A1, S, B, H, G⟩ := A
  have q : cl.slots.size.toInt32 = z := by rw [S, ← Int32.toInt_inj, hz]; exact len_toInt B
  exact Goes.step (fun tgt r => X.arraylength hx (by rw [eT]; exact A1.1) (State.isArrayOf_alike hZ.alike A1.2.1) hg hs hd tgt (by rw [q]; exact r)) k
theorem Goes.clone (X : Stand p l e R s m args below meth c T locs cells slots) (hx : p.tables.exec = Jvm.exec) (hZ : Z.Warmed39 s.vm) {own ad : String} {index : Nat} (hown : s.vm.findClass own = some m.cls)
    (w1 : (Jvm.Cond.methodLink own index ⟨ad, "clone", "()Ljava/lang/Object;"⟩).before a0 Z = true) (w2 : (Jvm.Cond.sameMethod ad "java/lang/Object" "clone" "()Ljava/lang/Object;").before a0 Z = true) (w3 : (Jvm.Cond.native ⟨"java/lang/Object", "clone", "()Ljava/lang/Object;"⟩).before a0 Z = true)
    (w4 : (Jvm.Cond.instanceMethod ⟨"java/lang/Object", "clone", "()Ljava/lang/Object;"⟩).before a0 Z = true) (w5 : (Jvm.Cond.selects ad ⟨ad, "clone", "()Ljava/lang/Object;"⟩ ⟨"java/lang/Object", "clone", "()Ljava/lang/Object;"⟩).before a0 Z = true) (w6 : (Jvm.Cond.castable ad "java/lang/Cloneable").before a0 Z = true)
    (eT : T.heap = h) (A : Afn Z h a ty n f) (E : Exa Z h a ad) {g : JFrame} (hg : g.method = m) (hsize : g.locals.size = c.maxLocals) {rest : List Value} (hs : g.stack = .ref a :: rest) (hd : decode c.code g.pc = .ok (.invokevirtual index, 3))
    (hf : 1 ≤ R.frames) {W cap : Nat} (hW : 2 * g.monitorRoom + (rest.map fun v => v.category).sum ≤ W) (hl : W + 14 ≤ R.locals) (hcap : n ≤ cap) (hc : cells + 1 ≤ R.cells) (hsl : slots + cap ≤ R.slots) {P : State → Outcome → Prop}
    (k : ∀ T' h' b, b = h.size → Stand p l e R s m args below meth c T' locs (cells + 1) (slots + cap) → T'.heap = h' → Ext h h' → Afn Z h' b ty n f → Exa Z h' b ad → Goes p e below P (T'.setTop { g with pc := g.pc + 3, stack := .ref b :: rest })) : Goes p e below P (T.setTop g) := by
  obtain ⟨cl, A1, S, B, H, G⟩ := id A
  have FC : FitC Z cl := fitC_of A1 fun i hi v hv => by
    rw [S] at hi
    rw [H i hi] at hv
    cases hv
    exact G i hi
  obtain ⟨T', h', X', e', ex, A', E', st⟩ := cloneA X hx hZ hown w1 w2 w3 w4 w5 w6 eT A1 E FC hg hsize hs hd hf hW hl (by rw [S]; exact hcap) hc hsl
  exact Goes.step st (k T' h' _ rfl X' e' ex ⟨cloneOf cl, A', S, B, H, G⟩ E')
theorem Goes.callP (X : Stand p l e R s m args below meth c T locs cells slots) (hx : p.tables.exec = Jvm.exec) (hZ : Z.Warmed39 s.vm) {own C0 C1 : String} {index : Nat} {y z : MethodName} {bytes : ByteArray} {maxL : Nat} {ret : Option FieldType} {rm : Room} {as : List Value} {Q : Option Value → Heap → List Loc → Prop} (hown : s.vm.findClass own = some m.cls)
    (w1 : (Jvm.Cond.methodLink own index y).before a0 Z = true) (w2 : (Jvm.Cond.instanceMethod y).before a0 Z = true) (w3 : (Jvm.Cond.privateMethod y).before a0 Z = true) (w4 : (Jvm.Cond.selects C0 z z).before a0 Z = true) (hz : z.cls = y.cls) (w5 : (Jvm.Cond.code y bytes maxL ret).before a0 Z = true) (w6 : (Jvm.Cond.initialized y.cls).before a0 Z = true) (hy : y.cls ≠ "java/lang/invoke/MethodHandle" ∧ y.cls ≠ "java/lang/invoke/VarHandle")
    (eT : T.heap = h) {b : Addr} (E : Exa Z h b C1) (hM : Con l Z y bytes maxL ret rm (.ref b :: as).toArray h Q) {W : Nat} (hf : rm.frames + 1 ≤ R.frames) (hl : W + (maxL + 11) + rm.locals ≤ R.locals) (hc : cells + rm.cells ≤ R.cells) (hs : slots + rm.slots ≤ R.slots)
    {g : JFrame} (hg : g.method = m) (hsize : g.locals.size = c.maxLocals) {rest : List Value} {ps : List FieldType} {r : Option FieldType} (hd : parseMethodDescriptor y.desc = some ⟨ps, r⟩) (hlen : as.length = ps.length) (hstack : g.stack = as.reverse ++ .ref b :: rest) (hW : 2 * g.monitorRoom + (rest.map fun v => v.category).sum ≤ W) (hdg : decode c.code g.pc = .ok (.invokevirtual index, 3))
    {P : State → Outcome → Prop} (k : ∀ v T' L, Stand p l e R s m args below meth c T' (locs ++ L) (cells + rm.cells) (slots + rm.slots) → Q v T'.heap L → Goes p e below P (T'.setTop { g with pc := g.pc + 3, stack := v.toList ++ rest })) :
    Goes p e below P (T.setTop g) := by
  have hpr := Cond.privateMethod_at (mvP hZ w3 (args := args))
  have hsel : (Jvm.Cond.selects y.cls y y).before args s = true := by
    obtain ⟨c2, r2, m2, -, -, q3, -, kP, hkP, hkPi⟩ := Cond.selects_spec (mvT (args := args) hZ w4)
    exact selects_self_of_private (hz ▸ findClass_of_methodNamed q3) hkP hkPi hpr (mvT hZ w2) hy
  obtain ⟨cell, hcell, hobj⟩ := E.cell
  obtain ⟨v, vm₁, ⟨T', L', k', n'⟩, -, X', ⟨L, hQ, l', y', z'⟩, st⟩ := X.privateBack hx (y := y) hown (mvT hZ w1) (mvT hZ w2) hsel hpr (mvT hZ w5) hy (backOf (W := W) (hM []) hZ w5 w6 hf hl) (g := g) hg hsize (Steps.refl _) (a := b) (by rw [eT]; exact hcell) hobj (argsL := as) (rest := rest) (lenOf hd hlen) hstack hW hdg (fun _ _ => ⟨rfl, eT, hc, hs⟩)
  try dsimp only at X' hQ l' y' z' st
  subst l' y' z'
  exact Goes.tr st (k v T' L X' hQ)
theorem Afn.of_arv {k : ClassId} {z : Int32} {vs : List Value} {d : Value} (F : Arv Z h a k ty z vs d) (q : z.toInt = (n : Int)) : Afn Z h a ty n (fun i => vs.getD i d) := by
  obtain ⟨c, A', -, S, q3, H, G⟩ := F
  rw [own_ixn q] at S
  refine ⟨c, A', S, ?_, fun i hi => H i (by rw [S]; exact hi), fun i hi => G i (by rw [S]; exact hi)⟩
  have := z.toInt_lt
  omega
theorem Afn.to_arv {z : Int32} {d : Value} (F : Afn Z h a ty n f) (q : z.toInt = (n : Int)) : ∃ k, Arv Z h a k ty z ((List.range n).map f) d := by
  obtain ⟨c, A, S, B, H, G⟩ := F
  have e : ∀ i, i < n → ((List.range n).map f).getD i d = f i := fun i hi => by simp [List.getD_eq_getElem?_getD, hi]
  refine ⟨c.cls, c, A, rfl, by rw [S, own_ixn q], by rw [Int32.lt_iff_toInt_lt, q]; simp only [Int32.reduceToInt]; omega, fun i hi => ?_, fun i hi => ?_⟩
  · rw [e i (S ▸ hi)]; exact H i (S ▸ hi)
  · rw [e i (S ▸ hi)]; exact G i (S ▸ hi)
theorem own_cp {n n' sp dp nn : Nat} {f g : Nat → Value} {d d' : Value} (h1 : sp + nn ≤ n) (h2 : dp + nn ≤ n') : ∀ i, i < n' →
    (((List.range n').map g).take dp ++ (List.range nn).map (fun i => ((List.range n).map f).getD (sp + i) d) ++ ((List.range n').map g).drop (dp + nn)).getD i d' = if dp ≤ i ∧ i < dp + nn then f (sp + (i - dp)) else g i := fun i hi => by
  have e : ∀ j, j < nn → ((List.range n).map f).getD (sp + j) d = f (sp + j) := fun j hj => by
    have hh : sp + j < n := by omega
    simp [List.getD_eq_getElem?_getD, hh]
  rw [List.getD_eq_getElem?_getD]
  by_cases q1 : i < dp
  · have q2 : ¬ (dp ≤ i ∧ i < dp + nn) := by omega
    rw [if_neg q2, List.append_assoc, List.getElem?_append_left (by simp; omega)]
    simp [List.getElem?_take, q1, hi]
  · by_cases q2 : i < dp + nn
    · rw [if_pos ⟨by omega, q2⟩, List.getElem?_append_left (by simp; omega), List.getElem?_append_right (by simp; omega)]
      have hl : (((List.range n').map g).take dp).length = dp := by simp; omega
      rw [hl, List.getElem?_map, List.getElem?_range (by omega : i - dp < nn)]
      simp only [Option.map_some, Option.getD_some]
      exact e _ (by omega)
    · rw [if_neg (by omega), List.getElem?_append_right (by simp; omega)]
      have hl : (((List.range n').map g).take dp ++ (List.range nn).map (fun i => ((List.range n).map f).getD (sp + i) d)).length = dp + nn := by simp; omega
      rw [hl, List.getElem?_drop, show dp + nn + (i - (dp + nn)) = i from by omega]
      simp [hi]
/-- System.arraycopy between two arrays of one primitive kind -/
theorem Goes.acopy {n' sp dp nn : Nat} {g' : Nat → Value} {z z' zs zd zn : Int32} (X : Stand p l e R s m args below meth c T locs cells slots) (hx : p.tables.exec = Jvm.exec) (hZ : Z.Warmed39 s.vm) {own : String} {index : Nat} (hown : s.vm.findClass own = some m.cls)
    (w1 : (Jvm.Cond.methodLink own index Jvm.Stand.acN).before a0 Z = true) (w2 : (Jvm.Cond.native Jvm.Stand.acN).before a0 Z = true) (w3 : (Jvm.Cond.static Jvm.Stand.acN).before a0 Z = true) (w4 : (Jvm.Cond.initialized "java/lang/System").before a0 Z = true) (eT : T.heap = h)
    (A : Afn Z h a ty n f) (B : Afn Z h b ty n' g') (hty : refKind ty = false) (hz : z.toInt = (n : Int)) (hz' : z'.toInt = (n' : Int)) (hzs : zs.toInt = (sp : Int)) (hzd : zd.toInt = (dp : Int)) (hzn : zn.toInt = (nn : Int)) (h4 : sp + nn ≤ n) (h5 : dp + nn ≤ n') {n0 : Nat} (N : Fr n0 locs) (ge : n0 ≤ b)
    {g : JFrame} (hg : g.method = m) (hsize : g.locals.size = c.maxLocals) {rest : List Value} (hs : g.stack = .int zn :: .int zd :: .ref b :: .int zs :: .ref a :: rest) (hd : decode c.code g.pc = .ok (.invokestatic index, 3))
    (hf : 1 ≤ R.frames) {W : Nat} (hW : 2 * g.monitorRoom + (rest.map fun v => v.category).sum ≤ W) (hlo : W + (nativeFrameWords "java/lang/System" "arraycopy" 5 + 11) ≤ R.locals) {P : State → Outcome → Prop}
    (k : ∀ T' h' L, Stand p l e R s m args below meth c T' L cells slots → T'.heap = h' → Fr n0 L → Keep h h' [b] → Afn Z h' b ty n' (fun i => if dp ≤ i ∧ i < dp + nn then f (sp + (i - dp)) else g' i) → Goes p e below P (T'.setTop { g with pc := g.pc + 3, stack := rest })) : Goes p e below P (T.setTop g) := by
  have ng : ∀ {x : Int32} {i : Nat}, x.toInt = (i : Int) → ¬ x < 0 := fun {x i} q => by rw [Int32.lt_iff_toInt_lt, q]; simp only [Int32.reduceToInt]; omega
  obtain ⟨k1, A'⟩ := A.to_arv (d := .null) hz
  obtain ⟨k2, B'⟩ := B.to_arv (d := .null) hz'
  obtain ⟨T', h', L, X', e', N', K, C, st⟩ := cpA X hx hZ hown w1 w2 w3 w4 eT A' B' (Or.inl ⟨rfl, hty⟩) (sp := zs) (dp := zd) (nn := zn) (ng hzs) (ng hzd) (ng hzn) (by rw [own_ixn hz, own_ixn hzs, own_ixn hzn]; exact h4) (by rw [own_ixn hz', own_ixn hzd, own_ixn hzn]; exact h5) rfl (by simp [own_ixn hzd, own_ixn hzn]; exact h5) N ge hg hsize hs hd hf hW hlo
  rw [own_ixn hzd, own_ixn hzn, own_ixn hzs] at C
  exact Goes.step st (k T' h' L X' e' N' K ((Afn.of_arv C hz').congr (own_cp h4 h5)))
theorem own_len {t : Term} {cl : Cell} {z : Int32} (ev : t.eval args Z none [] Z = some (.ref a)) (ha : Z.arrayAt? a = some cl) (q : (Term.length t).eval args Z none [] Z = some (.int z)) : cl.slots.size < 2 ^ 31 ∧ cl.slots.size.toInt32 = z := by
  by_cases hl : cl.slots.size < 2 ^ 31
  · rw [len_f ev ha hl] at q
    exact ⟨hl, Value.int.inj (Option.some.inj q)⟩
  · simp [Term.eval, ev, ha, hl] at q
theorem own_eqR {t u : Term} (hb : u.eval args Z none [] Z = some (.ref a)) (q : (Jvm.Cond.eq t u).value args Z none Z [] = some true) : t.eval args Z none [] Z = some (.ref a) := by
  obtain ⟨x, y, e1, e2, k1, k2⟩ := cmp_v (Or.inl q)
  cases hb.symm.trans e2
  have hx : x.isRef = true := k2.2
  have hh := gotT (eq_R e1 e2 hx rfl) q
  rw [e1, hh]
end OwnHeap
section OwnWide
variable {p : Program} {l : Launch} {e : Env} {R : Room} {s : State} {vm0 : Vm} {m : MethodId} {args : Array Value} {below : List Frame} {meth : Method} {c : Code} {T : State} {locs : List Loc} {cells slots : Nat} {Z : State} {a0 : Array Value} {h h' : Heap}
/-- it returned, what Q says, and the wide frame -/
def AimW (s : State) (Q : Option Value → Heap → List Loc → Prop) (k n : Nat) (s₂ : State) (o : Outcome) : Prop :=
  ∃ v L, o = .returned v ∧ Q v s₂.heap L ∧ ReturnedEndW s o s₂ L k n
theorem own_wmono {t : State} {o : Outcome} {L : List Loc} {k n k' n' : Nat} (w : ReturnedEndW s o t L k n) (hk : k ≤ k') (hn : n ≤ n') : ReturnedEndW s o t L k' n' := ⟨w.1, w.2.1, w.2.2.1, w.2.2.2.mono hk hn⟩
theorem Goes.retNW (X : Stand p l e R (s.setVm vm0) m args below meth c T locs cells slots) {k0 : Nat} (hS : s.Since (s.setVm vm0).vm k0) (hk0 : k0 ≤ T.heap.size) (hx : p.tables.exec = Jvm.exec) (hlk : meth.locks = false) {t : FieldType} (hret : meth.sig.returnType = some t) (ht : t = .boolean ∨ t = .byte ∨ t = .char ∨ t = .short) {pc : Nat} {Ls : Array Slot} {z : Int32} {rest : List Value}
    (hd : decode c.code pc = .ok (.ireturn, 1)) {Q : Option Value → Heap → List Loc → Prop} {k n : Nat} (hk : cells ≤ k) (hn : slots ≤ n) (hQ : Q (some (.int (nar t z))) T.heap locs) :
    Goes p e below (AimW s Q k n) (T.setTop (mkF m pc Ls (.int z :: rest))) := by
  obtain ⟨fs, hr, hrun, hended, hW⟩ := X.leaveW hS hk0 (v := some (.int (nar t z))) (fun h => by rw [hret] at h; cases h) hlk
  exact ⟨_, _, Jvm.RoadKit.retN X hx hret ht hd hr, hrun, hended, _, _, rfl, hQ, own_wmono hW hk hn⟩
theorem Goes.retW (X : Stand p l e R (s.setVm vm0) m args below meth c T locs cells slots) {k0 : Nat} (hS : s.Since (s.setVm vm0).vm k0) (hk0 : k0 ≤ T.heap.size) (hx : p.tables.exec = Jvm.exec) (hlk : meth.locks = false) {t : FieldType} (hret : meth.sig.returnType = some t) {w : Value} (hnr : narrow t w = w) {i : Instr} {pc : Nat} {Ls : Array Slot} {rest : List Value}
    (hi : (i = .ireturn ∧ (t = .int ∨ t = .boolean ∨ t = .byte ∨ t = .char ∨ t = .short) ∧ ∃ z, w = .int z) ∨ (i = .lreturn ∧ t = .long ∧ ∃ z, w = .long z) ∨ (i = .dreturn ∧ t = .double ∧ ∃ z, w = .double z) ∨ (i = .freturn ∧ t = .float ∧ ∃ z, w = .float z) ∨ (i = .areturn ∧ t.isReference = true ∧ w.isRef = true))
    (hd : decode c.code pc = .ok (i, 1)) {Q : Option Value → Heap → List Loc → Prop} {k n : Nat} (hk : cells ≤ k) (hn : slots ≤ n) (hQ : Q (some w) T.heap locs) :
    Goes p e below (AimW s Q k n) (T.setTop (mkF m pc Ls (w :: rest))) := by
  obtain ⟨fs, hr, hrun, hended, hW⟩ := X.leaveW hS hk0 (v := some w) (fun h => by rw [hret] at h; cases h) hlk
  exact ⟨_, _, Jvm.RoadKit.retOut X hx hret hnr hi hd hr, hrun, hended, _, _, rfl, hQ, own_wmono hW hk hn⟩
theorem Goes.ret0W (X : Stand p l e R (s.setVm vm0) m args below meth c T locs cells slots) {k0 : Nat} (hS : s.Since (s.setVm vm0).vm k0) (hk0 : k0 ≤ T.heap.size) (hx : p.tables.exec = Jvm.exec) (hlk : meth.locks = false) (hret : meth.sig.returnType = none) {pc : Nat} {Ls : Array Slot}
    (hd : decode c.code pc = .ok (.return_, 1)) {Q : Option Value → Heap → List Loc → Prop} {k n : Nat} (hk : cells ≤ k) (hn : slots ≤ n) (hQ : Q none T.heap locs) :
    Goes p e below (AimW s Q k n) (T.setTop (mkF m pc Ls [])) := by
  obtain ⟨fs, hr, hrun, hended, hW⟩ := X.leaveW hS hk0 (v := none) (fun _ => rfl) hlk
  exact ⟨_, _, X.returnOut hx hret hd hr, hrun, hended, _, _, rfl, hQ, own_wmono hW hk hn⟩
def ConW (l : Launch) (Z : State) (y : MethodName) (bytes : ByteArray) (maxL : Nat) (ret : Option FieldType) (rm : Room) (as : Array Value) (h0 : Heap) (Q : Option Value → Heap → List Loc → Prop) : Prop :=
  ∀ ws : List Jvm.Cond, MetFree l y (head1 (Jvm.Cond.code y bytes maxL ret :: ws) rm) (fun a U => a = as ∧ Z.Warmed39 U.vm ∧ U.heap = h0) (fun _ _ _ _ _ => True) (fun _ U o U' => ∃ v L, o = .returned v ∧ Q v U'.heap L ∧ ReturnedEndW U o U' L rm.cells rm.slots)
theorem ConW.body {y : MethodName} {bytes : ByteArray} {maxL : Nat} {ret : Option FieldType} {rm : Room} {as : Array Value} {h0 : Heap} {Q : Option Value → Heap → List Loc → Prop} (hp : plainFor y = true)
    (H : ∀ (p : Program) (e : Env) (s : State) (vm0 : Vm) (m : MethodId) (below : List Frame) (meth : Method) (c : Code) (s₁ : State), p.tables.exec = Jvm.exec → c.code = bytes → c.maxLocals = maxL → Z.Warmed39 (s.setVm vm0).vm → (s.setVm vm0).vm.findClass y.cls = some m.cls → meth.name = y.name → meth.sig.returnType = ret → meth.locks = false →
      Stand p l e rm (s.setVm vm0) m as below meth c s₁ [] 0 0 → s₁.heap = h0 → s.Since (s.setVm vm0).vm h0.size → Goes p e below (AimW s Q rm.cells rm.slots) (s₁.setTop (entryFrame m as maxL))) :
    ConW l Z y bytes maxL ret rm as h0 Q := by
  intro ws
  refine MetFree.of_bodySF hp hisR ?_
  intro p e s m args below meth c s₁ Bd hml0 hP hK
  obtain ⟨rfl, hZ, hh⟩ := hP
  exact H p e s s.vm m below meth c s₁ Bd.exec Bd.bytes hml0 hZ (findClass_of_methodNamed Bd.named) (name_of_methodNamed Bd.named Bd.method).1 Bd.returns Bd.notSynchronized (Stand.of_body Bd) (by rw [← hh, Bd.state]; rfl) ((State.WarmedH.refl s).since _)
theorem Goes.ldcS (X : Stand p l e R (s.setVm vm0) m args below meth c T locs cells slots) (hx : p.tables.exec = Jvm.exec) (hZ : Z.Warmed39 (s.setVm vm0).vm) {own text : String} {index : Nat} (hown : (s.setVm vm0).vm.findClass own = some m.cls) (w : (Jvm.Cond.stringLink own index text).before a0 Z = true) (wS : ∀ a ∈ Bundle.stringAtoms, a.before a0 Z = true)
    (eT : T.heap = h) {k0 : Nat} (hS : s.Since (s.setVm vm0).vm k0) (hk : k0 ≤ h.size) {g : JFrame} (hg : g.method = m) (hd : decode c.code g.pc = .ok (.ldc index, 2)) {n : Nat} (hn : 4 * text.toList.length ≤ n) (hbig : n ≤ 536870912) (hc : cells + 2 ≤ R.cells) (hl : slots + (n + 4) ≤ R.slots) {P : State → Outcome → Prop}
    (k : ∀ (a : Addr) (T' : State) (h' : Heap) (k1 : Nat), Stand p l e R (s.setVm T'.vm) m args below meth c T' locs (cells + 2) (slots + (n + 4)) → T'.heap = h' → Ext h h' → s.Since (s.setVm T'.vm).vm k1 → k1 ≤ h'.size → Z.Warmed39 (s.setVm T'.vm).vm → (s.setVm T'.vm).vm.findClass own = some m.cls →
      Goes p e below P (T'.setTop { g with pc := g.pc + 2, stack := .ref a :: g.stack })) : Goes p e below P (T.setTop g) := by
  obtain ⟨a, T', h', k1, X', e', E, hS', hk', hZ', hown', st⟩ := Jvm.RoadKit.ldcS X hx hZ hown w wS eT hS hk hg hd hn hbig hc hl
  exact Goes.step st (k a T' h' k1 X' e' E hS' hk' hZ' hown')
/-- what a wide callee leaves: the start is re-based -/
def Rebased (p : Program) (l : Launch) (e : Env) (R : Room) (s : State) (m : MethodId) (args : Array Value) (below : List Frame) (meth : Method) (c : Code) (T' : State) (locs : List Loc) (cells slots : Nat) (Z : State) (own : String) : Prop :=
  Stand p l e R (s.setVm T'.vm) m args below meth c T' locs cells slots ∧ s.Since (s.setVm T'.vm).vm T'.heap.size ∧ Z.Warmed39 (s.setVm T'.vm).vm ∧ (s.setVm T'.vm).vm.findClass own = some m.cls
theorem own_rebase {T' : State} {L : List Loc} {k n k0 : Nat} {own : String} (hZ : Z.Warmed39 (s.setVm vm0).vm) (hown : (s.setVm vm0).vm.findClass own = some m.cls) (hS : s.Since (s.setVm vm0).vm k0) (hk : k0 ≤ T.heap.size)
    (X' : Stand p l e R ((s.setVm vm0).setVm T'.vm) m args below meth c T' L k n) (h2 : (s.setVm vm0).Since T'.vm T'.heap.size) (g : T.heap.size ≤ T'.heap.size) : Rebased p l e R s m args below meth c T' L k n Z own :=
  ⟨X', foldS (T := T) hS hk h2 g, State.Warmed39.trans (t := s.setVm vm0) hZ h2.1, by rw [show (s.setVm T'.vm).vm = T'.vm from rfl, h2.1.alike.findClass]; exact hown⟩
theorem Goes.callSW (X : Stand p l e R (s.setVm vm0) m args below meth c T locs cells slots) (hx : p.tables.exec = Jvm.exec) (hZ : Z.Warmed39 (s.setVm vm0).vm) {own : String} {index : Nat} {y : MethodName} {bytes : ByteArray} {maxL : Nat} {ret : Option FieldType} {rm : Room} {as : List Value} {Q : Option Value → Heap → List Loc → Prop} (hown : (s.setVm vm0).vm.findClass own = some m.cls)
    (w1 : (Jvm.Cond.methodLink own index y).before a0 Z = true) (w2 : (Jvm.Cond.static y).before a0 Z = true) (w3 : (Jvm.Cond.initialized y.cls).before a0 Z = true) (w4 : (Jvm.Cond.code y bytes maxL ret).before a0 Z = true) (hy : y.cls ≠ "java/lang/invoke/MethodHandle" ∧ y.cls ≠ "java/lang/invoke/VarHandle")
    (eT : T.heap = h) {k0 : Nat} (hS : s.Since (s.setVm vm0).vm k0) (hk : k0 ≤ h.size) (hM : ConW l Z y bytes maxL ret rm as.toArray h Q) {W : Nat} (hf : rm.frames + 1 ≤ R.frames) (hl : W + (maxL + 11) + rm.locals ≤ R.locals) (hc : cells + rm.cells ≤ R.cells) (hs : slots + rm.slots ≤ R.slots)
    {g : JFrame} (hg : g.method = m) (hsize : g.locals.size = c.maxLocals) {rest : List Value} {ps : List FieldType} {r : Option FieldType} (hd : parseMethodDescriptor y.desc = some ⟨ps, r⟩) (hlen : as.length = ps.length) (hstack : g.stack = as.reverse ++ rest) (hW : 2 * g.monitorRoom + (rest.map fun v => v.category).sum ≤ W) (hdg : decode c.code g.pc = .ok (.invokestatic index, 3))
    {P : State → Outcome → Prop} (k : ∀ v T' L, Rebased p l e R s m args below meth c T' (locs ++ L) (cells + rm.cells) (slots + rm.slots) Z own → h.size ≤ T'.heap.size → Q v T'.heap L → Goes p e below P (T'.setTop { g with pc := g.pc + 3, stack := v.toList ++ rest })) :
    Goes p e below P (T.setTop g) := by
  obtain ⟨v, vm₁, ⟨T', L', k', n'⟩, -, X', hS', hgr, ⟨L, hQ, l', y', z'⟩, st⟩ := callSS X hx hown (mvT hZ w1) (mvT hZ w2) (mvT hZ w3) (mvT hZ w4) hy (backOfS (W := W) (hM []) hZ w4 w3 hf hl) (g := g) hg hsize (argsL := as) (rest := rest) (lenOf hd hlen) hstack hW hdg (fun _ _ => ⟨rfl, eT, hc, hs⟩)
  try dsimp only at X' hS' hgr hQ l' y' z' st
  subst l' y' z'
  exact Goes.tr st (k v T' L (own_rebase hZ hown hS (by rw [eT]; exact hk) X' hS' hgr) (by rw [← eT]; exact hgr) hQ)
theorem Goes.callIW (X : Stand p l e R (s.setVm vm0) m args below meth c T locs cells slots) (hx : p.tables.exec = Jvm.exec) (hZ : Z.Warmed39 (s.setVm vm0).vm) {own : String} {index : Nat} {y : MethodName} {bytes : ByteArray} {maxL : Nat} {rm : Room} {as : List Value} {Q : Option Value → Heap → List Loc → Prop} (hy1 : y.name = "<init>") (hown : (s.setVm vm0).vm.findClass own = some m.cls)
    (w1 : (Jvm.Cond.methodLink own index y).before a0 Z = true) (w2 : (Jvm.Cond.instanceMethod y).before a0 Z = true) (w3 : (Jvm.Cond.code y bytes maxL none).before a0 Z = true) (w4 : (Jvm.Cond.initialized y.cls).before a0 Z = true) (hy : y.cls ≠ "java/lang/invoke/MethodHandle" ∧ y.cls ≠ "java/lang/invoke/VarHandle")
    (eT : T.heap = h) {k0 : Nat} (hS : s.Since (s.setVm vm0).vm k0) (hk : k0 ≤ h.size) {b : Addr} (hM : ConW l Z y bytes maxL none rm (.ref b :: as).toArray h Q) {W : Nat} (hf : rm.frames + 1 ≤ R.frames) (hl : W + (maxL + 11) + rm.locals ≤ R.locals) (hc : cells + rm.cells ≤ R.cells) (hs : slots + rm.slots ≤ R.slots)
    {g : JFrame} (hg : g.method = m) (hsize : g.locals.size = c.maxLocals) {rest : List Value} {ps : List FieldType} {r : Option FieldType} (hd : parseMethodDescriptor y.desc = some ⟨ps, r⟩) (hlen : as.length = ps.length) (hstack : g.stack = as.reverse ++ .ref b :: rest) (hW : 2 * g.monitorRoom + (rest.map fun v => v.category).sum ≤ W) (hdg : decode c.code g.pc = .ok (.invokespecial index, 3))
    {P : State → Outcome → Prop} (k : ∀ v T' L, Rebased p l e R s m args below meth c T' (locs ++ L) (cells + rm.cells) (slots + rm.slots) Z own → h.size ≤ T'.heap.size → Q v T'.heap L → Goes p e below P (T'.setTop { g with pc := g.pc + 3, stack := v.toList ++ rest })) :
    Goes p e below P (T.setTop g) := by
  obtain ⟨v, vm₁, ⟨T', L', k', n'⟩, -, X', hS', hgr, ⟨L, hQ, l', y', z'⟩, st⟩ := X.specialBackS hx (y := y) hy1 hown (mvT hZ w1) (mvT hZ w2) (mvT hZ w3) hy (backOfS (W := W) (hM []) hZ w3 w4 hf hl) (g := g) hg hsize (Steps.refl _) (a := b) (argsL := as) (rest := rest) (lenOf hd hlen) hstack hW hdg (fun _ _ => ⟨rfl, eT, hc, hs⟩)
  try dsimp only at X' hS' hgr hQ l' y' z' st
  subst l' y' z'
  exact Goes.tr st (k v T' L (own_rebase hZ hown hS (by rw [eT]; exact hk) X' hS' hgr) (by rw [← eT]; exact hgr) hQ)
theorem Goes.callVW (X : Stand p l e R (s.setVm vm0) m args below meth c T locs cells slots) (hx : p.tables.exec = Jvm.exec) (hZ : Z.Warmed39 (s.setVm vm0).vm) {own C : String} {index : Nat} {y z : MethodName} {bytes : ByteArray} {maxL : Nat} {ret : Option FieldType} {rm : Room} {as : List Value} {Q : Option Value → Heap → List Loc → Prop} (hown : (s.setVm vm0).vm.findClass own = some m.cls)
    (w1 : (Jvm.Cond.methodLink own index y).before a0 Z = true) (w2 : (Jvm.Cond.declares y).before a0 Z = true) (hnf : NotFace (s.setVm vm0) y) (w3 : (Jvm.Cond.selects C y z).before a0 Z = true) (w4 : (Jvm.Cond.instanceMethod z).before a0 Z = true) (w5 : (Jvm.Cond.code z bytes maxL ret).before a0 Z = true) (w6 : (Jvm.Cond.initialized z.cls).before a0 Z = true) (hy : y.cls ≠ "java/lang/invoke/MethodHandle" ∧ y.cls ≠ "java/lang/invoke/VarHandle")
    (eT : T.heap = h) {k0 : Nat} (hS : s.Since (s.setVm vm0).vm k0) (hk : k0 ≤ h.size) {b : Addr} (E : Exa Z h b C) (hM : ConW l Z z bytes maxL ret rm (.ref b :: as).toArray h Q) {W : Nat} (hf : rm.frames + 1 ≤ R.frames) (hl : W + (maxL + 11) + rm.locals ≤ R.locals) (hc : cells + rm.cells ≤ R.cells) (hs : slots + rm.slots ≤ R.slots)
    {g : JFrame} (hg : g.method = m) (hsize : g.locals.size = c.maxLocals) {rest : List Value} {ps : List FieldType} {r : Option FieldType} (hd : parseMethodDescriptor y.desc = some ⟨ps, r⟩) (hlen : as.length = ps.length) (hstack : g.stack = as.reverse ++ .ref b :: rest) (hW : 2 * g.monitorRoom + (rest.map fun v => v.category).sum ≤ W) (hdg : decode c.code g.pc = .ok (.invokevirtual index, 3))
    {P : State → Outcome → Prop} (k : ∀ v T' L, Rebased p l e R s m args below meth c T' (locs ++ L) (cells + rm.cells) (slots + rm.slots) Z own → h.size ≤ T'.heap.size → Q v T'.heap L → Goes p e below P (T'.setTop { g with pc := g.pc + 3, stack := v.toList ++ rest })) :
    Goes p e below P (T.setTop g) := by
  obtain ⟨cB, kB, q1, -, q3⟩ := isOf hZ eT E
  obtain ⟨v, vm₁, ⟨T', L', k', n'⟩, -, X', hS', hgr, ⟨L, hQ, l', y', z'⟩, st⟩ := X.virtualBackS hx (y := y) (z := z) hown (mvT hZ w1) (mvT hZ w2) hnf (mvT hZ w3) (mvT hZ w4) hy (backOfS (W := W) (hM []) hZ w5 w6 hf hl) q1 q3 (g := g) hg hsize (Steps.refl _) (argsL := as) (rest := rest) (lenOf hd hlen) hstack hW hdg (fun _ _ => ⟨rfl, eT, hc, hs⟩)
  try dsimp only at X' hS' hgr hQ l' y' z' st
  subst l' y' z'
  exact Goes.tr st (k v T' L (own_rebase hZ hown hS (by rw [eT]; exact hk) X' hS' hgr) (by rw [← eT]; exact hgr) hQ)
/-- the law's own contract: it starts in Z itself -/
def ConZ (l : Launch) (Z : State) (y : MethodName) (bytes : ByteArray) (maxL : Nat) (ret : Option FieldType) (rm : Room) (as : Array Value) (h0 : Heap) (Q : Option Value → Heap → List Loc → Prop) : Prop :=
  ∀ ws : List Jvm.Cond, MetFree l y (head1 (Jvm.Cond.code y bytes maxL ret :: ws) rm) (fun a U => a = as ∧ U = Z) (fun _ _ _ _ _ => True) (fun _ U o U' => ∃ v L, o = .returned v ∧ Q v U'.heap L ∧ ReturnedEndW U o U' L rm.cells rm.slots)
theorem ConZ.body {y : MethodName} {bytes : ByteArray} {maxL : Nat} {ret : Option FieldType} {rm : Room} {as : Array Value} {h0 : Heap} {Q : Option Value → Heap → List Loc → Prop} (hp : plainFor y = true) (hh0 : h0 = Z.heap)
    (H : ∀ (p : Program) (e : Env) (s : State) (vm0 : Vm) (m : MethodId) (below : List Frame) (meth : Method) (c : Code) (s₁ : State), p.tables.exec = Jvm.exec → c.code = bytes → c.maxLocals = maxL → Z.Warmed39 (s.setVm vm0).vm → (s.setVm vm0).vm.findClass y.cls = some m.cls → meth.name = y.name → meth.sig.returnType = ret → meth.locks = false →
      Stand p l e rm (s.setVm vm0) m as below meth c s₁ [] 0 0 → s₁.heap = h0 → s.Since (s.setVm vm0).vm h0.size → s.heap = Z.heap → IB Z (s.setVm vm0).vm [] → Goes p e below (AimW s Q rm.cells rm.slots) (s₁.setTop (entryFrame m as maxL))) :
    ConZ l Z y bytes maxL ret rm as h0 Q := by
  intro ws
  refine MetFree.of_bodySF hp hisR ?_
  intro p e s m args below meth c s₁ Bd hml0 hP hK
  obtain ⟨rfl, rfl⟩ := hP
  exact H p e s s.vm m below meth c s₁ Bd.exec Bd.bytes hml0 (State.Warmed39.refl s) (findClass_of_methodNamed Bd.named) (name_of_methodNamed Bd.named Bd.method).1 Bd.returns Bd.notSynchronized (Stand.of_body Bd) (by rw [hh0, Bd.state]; rfl) ((State.WarmedH.refl s).since _) rfl IB.start
theorem Goes.ldcSV (X : Stand p l e R (s.setVm vm0) m args below meth c T locs cells slots) (hx : p.tables.exec = Jvm.exec) (hZ : Z.Warmed39 (s.setVm vm0).vm) {own text : String} {index : Nat} (hown : (s.setVm vm0).vm.findClass own = some m.cls) (w : (Jvm.Cond.stringLink own index text).before a0 Z = true) (wS : ∀ a ∈ Bundle.stringAtoms, a.before a0 Z = true)
    (eT : T.heap = h) {k0 : Nat} (hS : s.Since (s.setVm vm0).vm k0) (hk : k0 ≤ h.size) (hsz : s.heap = Z.heap) (N : Fr Z.heap.size locs) (I : IB Z (s.setVm vm0).vm []) (hh : Jvm.Lit.constHeld Z own index) (hcw : Jvm.Lit.compactW.before a0 Z = true)
    {vs : List Value} {z : Int32} {nl : Nat} (ht : (∀ c ∈ text.toList, c.toNat < 256) ∧ text.toList.map (fun c => Value.int (Jvm.Lit.byteI c.toNat.toUInt16)) = vs) (hz : z.toInt = (nl : Int)) (hl : nl = vs.length)
    {g : JFrame} (hg : g.method = m) (hd : decode c.code g.pc = .ok (.ldc index, 2)) {n : Nat} (hn : 4 * text.toList.length ≤ n) (hbig : n ≤ 536870912) (hc : cells + 2 ≤ R.cells) (hl' : slots + (n + 4) ≤ R.slots) {P : State → Outcome → Prop}
    (k : ∀ (a : Addr) (T' : State) (h' : Heap) (k1 : Nat) (b : Addr), Stand p l e R (s.setVm T'.vm) m args below meth c T' locs (cells + 2) (slots + (n + 4)) → T'.heap = h' → Ext h h' → s.Since (s.setVm T'.vm).vm k1 → k1 ≤ h'.size → Z.Warmed39 (s.setVm T'.vm).vm → (s.setVm T'.vm).vm.findClass own = some m.cls →
      Exa Z h' a "java/lang/String" → Fld Z h' a "java/lang/String" "coder" "B" (.int 0) → Fld Z h' a "java/lang/String" "value" "[B" (.ref b) → Afn Z h' b .byte nl (fun i => vs.getD i (.int 0)) →
      Goes p e below P (T'.setTop { g with pc := g.pc + 2, stack := .ref a :: g.stack })) : Goes p e below P (T.setTop g) := by
  obtain ⟨a, T', h', k1, b, kc, X', e', E, hS', hk', hZ', hown', M, Fc, Fv, A, -, -, -, st⟩ := Jvm.RoadKit.ldcSV X hx hZ hown w wS eT hS hk (by rw [hsz]; exact N) (fun b cl q => by rw [hsz]; exact q) I (by simp) hh hcw ht (z := z) (by rw [Int32.lt_iff_toInt_lt, hz]; simp only [Int32.reduceToInt]; omega) (by rw [own_ixn hz]; exact hl) hg hd hn hbig hc hl'
  exact Goes.step st (k a T' h' k1 b X' e' E hS' hk' hZ' hown' M Fc Fv (Afn.of_arv A hz))
end OwnWide
section OwnHeld
variable {p : Program} {l : Launch} {e : Env} {R : Room} {s : State} {vm0 : Vm} {m : MethodId} {args : Array Value} {below : List Frame} {meth : Method} {c : Code} {T : State} {locs : List Loc} {cells slots : Nat} {Z : State} {a0 : Array Value} {h h' : Heap} {EL : List (String × Nat)}
/-- it returned, what Q says, the constants of EL hold their texts still, and the wide frame -/
def AimH (Z : State) (EL : List (String × Nat)) (s : State) (Q : Option Value → Heap → List Loc → Prop) (k n : Nat) (s₂ : State) (o : Outcome) : Prop :=
  ∃ v L, o = .returned v ∧ Q v s₂.heap L ∧ CHr Z EL s.vm s.heap s₂.vm s₂.heap ∧ ReturnedEndW s o s₂ L k n
def ConH (l : Launch) (Z : State) (EL : List (String × Nat)) (xs : List Addr) (y : MethodName) (bytes : ByteArray) (maxL : Nat) (ret : Option FieldType) (rm : Room) (as : Array Value) (h0 : Heap) (Q : Option Value → Heap → List Loc → Prop) : Prop :=
  ∀ ws : List Jvm.Cond, MetFree l y (head1 (Jvm.Cond.code y bytes maxL ret :: ws) rm) (fun a U => a = as ∧ Z.Warmed39 U.vm ∧ U.heap = h0 ∧ CHv Z EL U.vm h0 ∧ ∀ x ∈ xs, Safe Z EL U.vm h0 x) (fun _ _ _ _ _ => True) (fun _ U o U' => ∃ v L, o = .returned v ∧ Q v U'.heap L ∧ CHr Z EL U.vm U.heap U'.vm U'.heap ∧ ReturnedEndW U o U' L rm.cells rm.slots)
theorem ConH.body {xs : List Addr} {y : MethodName} {bytes : ByteArray} {maxL : Nat} {ret : Option FieldType} {rm : Room} {as : Array Value} {h0 : Heap} {Q : Option Value → Heap → List Loc → Prop} (hp : plainFor y = true)
    (H : ∀ (p : Program) (e : Env) (s : State) (vm0 : Vm) (m : MethodId) (below : List Frame) (meth : Method) (c : Code) (s₁ : State), p.tables.exec = Jvm.exec → c.code = bytes → c.maxLocals = maxL → Z.Warmed39 (s.setVm vm0).vm → (s.setVm vm0).vm.findClass y.cls = some m.cls → meth.name = y.name → meth.sig.returnType = ret → meth.locks = false →
      Stand p l e rm (s.setVm vm0) m as below meth c s₁ [] 0 0 → s₁.heap = h0 → s.Since (s.setVm vm0).vm h0.size → s.heap = h0 → CHr Z EL s.vm h0 (s.setVm vm0).vm h0 → (∀ x ∈ xs, Safe Z EL (s.setVm vm0).vm h0 x) → Goes p e below (AimH Z EL s Q rm.cells rm.slots) (s₁.setTop (entryFrame m as maxL))) :
    ConH l Z EL xs y bytes maxL ret rm as h0 Q := by
  intro ws
  refine MetFree.of_bodySF hp hisR ?_
  intro p e s m args below meth c s₁ Bd hml0 hP hK
  obtain ⟨rfl, hZ, hh, hC, hsf⟩ := hP
  exact H p e s s.vm m below meth c s₁ Bd.exec Bd.bytes hml0 hZ (findClass_of_methodNamed Bd.named) (name_of_methodNamed Bd.named Bd.method).1 Bd.returns Bd.notSynchronized (Stand.of_body Bd) (by rw [← hh, Bd.state]; rfl) ((State.WarmedH.refl s).since _) hh (CHr.refl hC) hsf
/-- the law's own contract: the constants of EL hold at its start; at its end nobody asks -/
def ConK (l : Launch) (Z : State) (EL : List (String × Nat)) (y : MethodName) (bytes : ByteArray) (maxL : Nat) (ret : Option FieldType) (rm : Room) (as : Array Value) (h0 : Heap) (Q : Option Value → Heap → List Loc → Prop) : Prop :=
  ∀ ws : List Jvm.Cond, MetFree l y (head1 (Jvm.Cond.code y bytes maxL ret :: ws) rm) (fun a U => a = as ∧ Z.Warmed39 U.vm ∧ U.heap = h0 ∧ CHv Z EL U.vm h0) (fun _ _ _ _ _ => True) (fun _ U o U' => ∃ v L, o = .returned v ∧ Q v U'.heap L ∧ ReturnedEndW U o U' L rm.cells rm.slots)
theorem ConK.body {y : MethodName} {bytes : ByteArray} {maxL : Nat} {ret : Option FieldType} {rm : Room} {as : Array Value} {h0 : Heap} {Q : Option Value → Heap → List Loc → Prop} (hp : plainFor y = true)
    (H : ∀ (p : Program) (e : Env) (s : State) (vm0 : Vm) (m : MethodId) (below : List Frame) (meth : Method) (c : Code) (s₁ : State), p.tables.exec = Jvm.exec → c.code = bytes → c.maxLocals = maxL → Z.Warmed39 (s.setVm vm0).vm → (s.setVm vm0).vm.findClass y.cls = some m.cls → meth.name = y.name → meth.sig.returnType = ret → meth.locks = false →
      Stand p l e rm (s.setVm vm0) m as below meth c s₁ [] 0 0 → s₁.heap = h0 → s.Since (s.setVm vm0).vm h0.size → s.heap = h0 → CHr Z EL s.vm h0 (s.setVm vm0).vm h0 → Goes p e below (AimW s Q rm.cells rm.slots) (s₁.setTop (entryFrame m as maxL))) :
    ConK l Z EL y bytes maxL ret rm as h0 Q := by
  intro ws
  refine MetFree.of_bodySF hp hisR ?_
  intro p e s m args below meth c s₁ Bd hml0 hP hK
  obtain ⟨rfl, hZ, hh, hC⟩ := hP
  exact H p e s s.vm m below meth c s₁ Bd.exec Bd.bytes hml0 hZ (findClass_of_methodNamed Bd.named) (name_of_methodNamed Bd.named Bd.method).1 Bd.returns Bd.notSynchronized (Stand.of_body Bd) (by rw [← hh, Bd.state]; rfl) ((State.WarmedH.refl s).since _) hh (CHr.refl hC)
theorem own_atT (X : Stand p l e R (s.setVm vm0) m args below meth c T locs cells slots) (hZ : Z.Warmed39 (s.setVm vm0).vm) (hEL : EW Z a0 EL) (eT : T.heap = h) {h0 : Heap} (hs : s.heap = h0) (A : CHr Z EL s.vm h0 (s.setVm vm0).vm h) : CHr Z EL s.vm s.heap T.vm T.heap := by
  subst eT; subst hs
  exact A.trans (CHv.at X hZ hEL A.1)
theorem Goes.retNH (X : Stand p l e R (s.setVm vm0) m args below meth c T locs cells slots) {k0 : Nat} (hS : s.Since (s.setVm vm0).vm k0) (hk0 : k0 ≤ T.heap.size) (hA : CHr Z EL s.vm s.heap T.vm T.heap) (hx : p.tables.exec = Jvm.exec) (hlk : meth.locks = false) {t : FieldType} (hret : meth.sig.returnType = some t) (ht : t = .boolean ∨ t = .byte ∨ t = .char ∨ t = .short) {pc : Nat} {Ls : Array Slot} {z : Int32} {rest : List Value}
    (hd : decode c.code pc = .ok (.ireturn, 1)) {Q : Option Value → Heap → List Loc → Prop} {k n : Nat} (hk : cells ≤ k) (hn : slots ≤ n) (hQ : Q (some (.int (nar t z))) T.heap locs) :
    Goes p e below (AimH Z EL s Q k n) (T.setTop (mkF m pc Ls (.int z :: rest))) := by
  obtain ⟨fs, hr, hrun, hended, hW⟩ := X.leaveW hS hk0 (v := some (.int (nar t z))) (fun h => by rw [hret] at h; cases h) hlk
  exact ⟨_, _, Jvm.RoadKit.retN X hx hret ht hd hr, hrun, hended, _, _, rfl, hQ, hA, own_wmono hW hk hn⟩
theorem Goes.retH (X : Stand p l e R (s.setVm vm0) m args below meth c T locs cells slots) {k0 : Nat} (hS : s.Since (s.setVm vm0).vm k0) (hk0 : k0 ≤ T.heap.size) (hA : CHr Z EL s.vm s.heap T.vm T.heap) (hx : p.tables.exec = Jvm.exec) (hlk : meth.locks = false) {t : FieldType} (hret : meth.sig.returnType = some t) {w : Value} (hnr : narrow t w = w) {i : Instr} {pc : Nat} {Ls : Array Slot} {rest : List Value}
    (hi : (i = .ireturn ∧ (t = .int ∨ t = .boolean ∨ t = .byte ∨ t = .char ∨ t = .short) ∧ ∃ z, w = .int z) ∨ (i = .lreturn ∧ t = .long ∧ ∃ z, w = .long z) ∨ (i = .dreturn ∧ t = .double ∧ ∃ z, w = .double z) ∨ (i = .freturn ∧ t = .float ∧ ∃ z, w = .float z) ∨ (i = .areturn ∧ t.isReference = true ∧ w.isRef = true))
    (hd : decode c.code pc = .ok (i, 1)) {Q : Option Value → Heap → List Loc → Prop} {k n : Nat} (hk : cells ≤ k) (hn : slots ≤ n) (hQ : Q (some w) T.heap locs) :
    Goes p e below (AimH Z EL s Q k n) (T.setTop (mkF m pc Ls (w :: rest))) := by
  obtain ⟨fs, hr, hrun, hended, hW⟩ := X.leaveW hS hk0 (v := some w) (fun h => by rw [hret] at h; cases h) hlk
  exact ⟨_, _, Jvm.RoadKit.retOut X hx hret hnr hi hd hr, hrun, hended, _, _, rfl, hQ, hA, own_wmono hW hk hn⟩
theorem Goes.ret0H (X : Stand p l e R (s.setVm vm0) m args below meth c T locs cells slots) {k0 : Nat} (hS : s.Since (s.setVm vm0).vm k0) (hk0 : k0 ≤ T.heap.size) (hA : CHr Z EL s.vm s.heap T.vm T.heap) (hx : p.tables.exec = Jvm.exec) (hlk : meth.locks = false) (hret : meth.sig.returnType = none) {pc : Nat} {Ls : Array Slot}
    (hd : decode c.code pc = .ok (.return_, 1)) {Q : Option Value → Heap → List Loc → Prop} {k n : Nat} (hk : cells ≤ k) (hn : slots ≤ n) (hQ : Q none T.heap locs) :
    Goes p e below (AimH Z EL s Q k n) (T.setTop (mkF m pc Ls [])) := by
  obtain ⟨fs, hr, hrun, hended, hW⟩ := X.leaveW hS hk0 (v := none) (fun _ => rfl) hlk
  exact ⟨_, _, X.returnOut hx hret hd hr, hrun, hended, _, _, rfl, hQ, hA, own_wmono hW hk hn⟩
/-- ldc of a constant whose text isn't looked at -/
theorem Goes.ldcOH (X : Stand p l e R (s.setVm vm0) m args below meth c T locs cells slots) (hx : p.tables.exec = Jvm.exec) (hZ : Z.Warmed39 (s.setVm vm0).vm) {own text : String} {index : Nat} (hown : (s.setVm vm0).vm.findClass own = some m.cls) (w : (Jvm.Cond.stringLink own index text).before a0 Z = true) (wS : ∀ a ∈ Bundle.stringAtoms, a.before a0 Z = true)
    (eT : T.heap = h) {k0 : Nat} (hS : s.Since (s.setVm vm0).vm k0) (hk : k0 ≤ h.size) (hEL : EW Z a0 EL) {h0 : Heap} (A : CHr Z EL s.vm h0 (s.setVm vm0).vm h)
    {g : JFrame} (hg : g.method = m) (hd : decode c.code g.pc = .ok (.ldc index, 2)) {n : Nat} (hn : 4 * text.toList.length ≤ n) (hbig : n ≤ 536870912) (hc : cells + 2 ≤ R.cells) (hl : slots + (n + 4) ≤ R.slots) {P : State → Outcome → Prop}
    (k : ∀ (a : Addr) (T' : State) (h' : Heap) (k1 : Nat), Stand p l e R (s.setVm T'.vm) m args below meth c T' locs (cells + 2) (slots + (n + 4)) → T'.heap = h' → Ext h h' → s.Since (s.setVm T'.vm).vm k1 → k1 ≤ h'.size → Z.Warmed39 (s.setVm T'.vm).vm → (s.setVm T'.vm).vm.findClass own = some m.cls → CHr Z EL (s.setVm vm0).vm h (s.setVm T'.vm).vm h' →
      Goes p e below P (T'.setTop { g with pc := g.pc + 2, stack := .ref a :: g.stack })) : Goes p e below P (T.setTop g) := by
  obtain ⟨a, T', h', k1, X', e', E, hS', hk', hZ', hown', C', -, st⟩ := Jvm.RoadKit.ldcOH X hx hZ hown w wS eT hS hk hEL A.1 hg hd hn hbig hc hl
  exact Goes.step st (k a T' h' k1 X' e' E hS' hk' hZ' hown' C')
/-- ldc of a constant of EL, its text read -/
theorem Goes.ldcCH (X : Stand p l e R (s.setVm vm0) m args below meth c T locs cells slots) (hx : p.tables.exec = Jvm.exec) (hZ : Z.Warmed39 (s.setVm vm0).vm) {own text : String} {index : Nat} (hown : (s.setVm vm0).vm.findClass own = some m.cls) (w : (Jvm.Cond.stringLink own index text).before a0 Z = true) (wS : ∀ a ∈ Bundle.stringAtoms, a.before a0 Z = true)
    (eT : T.heap = h) {k0 : Nat} (hS : s.Since (s.setVm vm0).vm k0) (hk : k0 ≤ h.size) (hEL : EW Z a0 EL) (hmem : (own, index) ∈ EL) {h0 : Heap} (A : CHr Z EL s.vm h0 (s.setVm vm0).vm h)
    {vs : List Value} {z : Int32} {nl : Nat} (ht : (∀ c ∈ text.toList, c.toNat < 256) ∧ text.toList.map (fun c => Value.int (Jvm.Lit.byteI c.toNat.toUInt16)) = vs) (hz : z.toInt = (nl : Int)) (hl : nl = vs.length)
    {g : JFrame} (hg : g.method = m) (hd : decode c.code g.pc = .ok (.ldc index, 2)) {n : Nat} (hn : 4 * text.toList.length ≤ n) (hbig : n ≤ 536870912) (hc : cells + 2 ≤ R.cells) (hl' : slots + (n + 4) ≤ R.slots) {P : State → Outcome → Prop}
    (k : ∀ (a : Addr) (T' : State) (h' : Heap) (k1 : Nat) (b : Addr), Stand p l e R (s.setVm T'.vm) m args below meth c T' locs (cells + 2) (slots + (n + 4)) → T'.heap = h' → Ext h h' → s.Since (s.setVm T'.vm).vm k1 → k1 ≤ h'.size → Z.Warmed39 (s.setVm T'.vm).vm → (s.setVm T'.vm).vm.findClass own = some m.cls → CHr Z EL (s.setVm vm0).vm h (s.setVm T'.vm).vm h' →
      Exa Z h' a "java/lang/String" → Fld Z h' a "java/lang/String" "coder" "B" (.int 0) → Fld Z h' a "java/lang/String" "value" "[B" (.ref b) → Afn Z h' b .byte nl (fun i => vs.getD i (.int 0)) → (∀ x, Safe Z EL (s.setVm T'.vm).vm h' x → x ≠ a ∧ x ≠ b) →
      Goes p e below P (T'.setTop { g with pc := g.pc + 2, stack := .ref a :: g.stack })) : Goes p e below P (T.setTop g) := by
  obtain ⟨a, T', h', k1, b, kc, X', e', E, hS', hk', hZ', hown', M, Fc, Fv, Ab, -, -, C', -, hne, st⟩ := Jvm.RoadKit.ldcCH X hx hZ hown w wS eT hS hk hEL hmem A.1 ht (z := z) (by rw [Int32.lt_iff_toInt_lt, hz]; simp only [Int32.reduceToInt]; omega) (by rw [own_ixn hz]; exact hl) hg hd hn hbig hc hl'
  exact Goes.step st (k a T' h' k1 b X' e' E hS' hk' hZ' hown' C' M Fc Fv (Afn.of_arv Ab hz) hne)
/-- a callee that keeps the constants of EL and writes at addresses of xs -/
theorem own_backH {xs : List Addr} {y : MethodName} {bytes : ByteArray} {maxL : Nat} {ret : Option FieldType} {rm : Room} {len W : Nat} {as' : Array Value} {Q : Option Value → Heap → List Loc → Prop}
    (hM : ConH l Z EL xs y bytes maxL ret rm as' h Q) (hZ : Z.Warmed39 vm0) (wc : (Jvm.Cond.code y bytes maxL ret).before a0 Z = true) (wz : (Jvm.Cond.initialized y.cls).before a0 Z = true) (hf : rm.frames + 1 ≤ R.frames) (hl : W + (maxL + 11) + rm.locals ≤ R.locals) (hEL : EW Z a0 EL) (H : CHv Z EL vm0 h) (hsx : ∀ x ∈ xs, x < h.size ∧ Safe Z EL vm0 h x) :
    BackS l R p e below (s.setVm vm0) args y len W (fun A a => a = as' ∧ A.U.heap = h ∧ A.cells + rm.cells ≤ R.cells ∧ A.slots + rm.slots ≤ R.slots)
      (fun A _ v B => ∃ L, Q v B.U.heap L ∧ B.locs = A.locs ++ L ∧ B.cells = A.cells + rm.cells ∧ B.slots = A.slots + rm.slots ∧ CHr Z EL vm0 h B.U.vm B.U.heap) :=
  BackS.of_freeW (bytes := bytes) (maxL := maxL) (ret := ret) (E := fun _ first o t L k n => k = rm.cells ∧ n = rm.slots ∧ (∃ v, o = .returned v ∧ Q v t.heap L) ∧ CHr Z EL first.vm first.heap t.vm t.heap) (hM []) hf hl
    (fun m meth c A a Y hp => have hU : Z.Warmed39 A.U.vm := wtrans (s := s.setVm vm0) hZ Y.warmed
      ⟨by show (Jvm.Cond.and _ .tt).before a A.U = true; rw [Cond.before_and, mv hU wc]; rfl, mv hU wc, mv hU wz, hp.2.2.1, hp.2.2.2⟩)
    (fun m meth c A a g mk Y hp => ⟨hp.1, wtrans (s := s.setVm vm0) hZ Y.warmed, hp.2.1, (CHv.at Y hZ hEL H).1, fun x hx => (CHv.at Y hZ hEL H).safe (hsx x hx).1 (hsx x hx).2⟩) (fun _ _ _ _ _ _ _ _ _ => trivial)
    (fun _ _ _ _ ⟨v, L, h1, h2, h3, h4⟩ => ⟨L, _, _, h4, rfl, rfl, ⟨v, h1, h2⟩, h3⟩)
    (fun m meth c A a g mk v t L k n Y hp _ _ ⟨e1, e2, ⟨v', e3, e4⟩, e5⟩ => by
      cases e3; subst e1 e2
      refine ⟨L, e4, rfl, rfl, rfl, (CHv.at Y hZ hEL H).trans ?_⟩
      rw [← hp.2.1]; exact e5)
theorem own_ltE {x : Addr} {C : String} (E : Exa Z h x C) : x < h.size := by
  obtain ⟨cl, k, h1, -⟩ := E
  exact (Array.getElem?_eq_some_iff.mp h1).1
def RebasedH (p : Program) (l : Launch) (e : Env) (R : Room) (s : State) (vm0 : Vm) (m : MethodId) (args : Array Value) (below : List Frame) (meth : Method) (c : Code) (T' : State) (locs : List Loc) (cells slots : Nat) (Z : State) (EL : List (String × Nat)) (own : String) (h : Heap) : Prop :=
  Rebased p l e R s m args below meth c T' locs cells slots Z own ∧ CHr Z EL (s.setVm vm0).vm h (s.setVm T'.vm).vm T'.heap
theorem Goes.callSH (X : Stand p l e R (s.setVm vm0) m args below meth c T locs cells slots) (hx : p.tables.exec = Jvm.exec) (hZ : Z.Warmed39 (s.setVm vm0).vm) {own : String} {index : Nat} {xs : List Addr} {y : MethodName} {bytes : ByteArray} {maxL : Nat} {ret : Option FieldType} {rm : Room} {as : List Value} {Q : Option Value → Heap → List Loc → Prop} (hown : (s.setVm vm0).vm.findClass own = some m.cls)
    (w1 : (Jvm.Cond.methodLink own index y).before a0 Z = true) (w2 : (Jvm.Cond.static y).before a0 Z = true) (w3 : (Jvm.Cond.initialized y.cls).before a0 Z = true) (w4 : (Jvm.Cond.code y bytes maxL ret).before a0 Z = true) (hy : y.cls ≠ "java/lang/invoke/MethodHandle" ∧ y.cls ≠ "java/lang/invoke/VarHandle")
    (eT : T.heap = h) {k0 : Nat} (hS : s.Since (s.setVm vm0).vm k0) (hk : k0 ≤ h.size) (hEL : EW Z a0 EL) {h0 : Heap} (A : CHr Z EL s.vm h0 (s.setVm vm0).vm h) (hsx : ∀ x ∈ xs, x < h.size ∧ Safe Z EL (s.setVm vm0).vm h x) (hM : ConH l Z EL xs y bytes maxL ret rm as.toArray h Q) {W : Nat} (hf : rm.frames + 1 ≤ R.frames) (hl : W + (maxL + 11) + rm.locals ≤ R.locals) (hc : cells + rm.cells ≤ R.cells) (hs : slots + rm.slots ≤ R.slots)
    {g : JFrame} (hg : g.method = m) (hsize : g.locals.size = c.maxLocals) {rest : List Value} {ps : List FieldType} {r : Option FieldType} (hd : parseMethodDescriptor y.desc = some ⟨ps, r⟩) (hlen : as.length = ps.length) (hstack : g.stack = as.reverse ++ rest) (hW : 2 * g.monitorRoom + (rest.map fun v => v.category).sum ≤ W) (hdg : decode c.code g.pc = .ok (.invokestatic index, 3))
    {P : State → Outcome → Prop} (k : ∀ v T' L, RebasedH p l e R s vm0 m args below meth c T' (locs ++ L) (cells + rm.cells) (slots + rm.slots) Z EL own h → h.size ≤ T'.heap.size → Q v T'.heap L → Goes p e below P (T'.setTop { g with pc := g.pc + 3, stack := v.toList ++ rest })) :
    Goes p e below P (T.setTop g) := by
  obtain ⟨v, vm₁, ⟨T', L', k', n'⟩, -, X', hS', hgr, ⟨L, hQ, l', y', z', C'⟩, st⟩ := callSS X hx hown (mvT hZ w1) (mvT hZ w2) (mvT hZ w3) (mvT hZ w4) hy (own_backH (W := W) hM hZ w4 w3 hf hl hEL A.1 hsx) (g := g) hg hsize (argsL := as) (rest := rest) (lenOf hd hlen) hstack hW hdg (fun _ _ => ⟨rfl, eT, hc, hs⟩)
  try dsimp only at X' hS' hgr hQ l' y' z' C' st
  subst l' y' z'
  exact Goes.tr st (k v T' L ⟨own_rebase hZ hown hS (by rw [eT]; exact hk) X' hS' hgr, C'⟩ (by rw [← eT]; exact hgr) hQ)
theorem Goes.callIH (X : Stand p l e R (s.setVm vm0) m args below meth c T locs cells slots) (hx : p.tables.exec = Jvm.exec) (hZ : Z.Warmed39 (s.setVm vm0).vm) {own : String} {index : Nat} {xs : List Addr} {y : MethodName} {bytes : ByteArray} {maxL : Nat} {rm : Room} {as : List Value} {Q : Option Value → Heap → List Loc → Prop} (hy1 : y.name = "<init>") (hown : (s.setVm vm0).vm.findClass own = some m.cls)
    (w1 : (Jvm.Cond.methodLink own index y).before a0 Z = true) (w2 : (Jvm.Cond.instanceMethod y).before a0 Z = true) (w3 : (Jvm.Cond.code y bytes maxL none).before a0 Z = true) (w4 : (Jvm.Cond.initialized y.cls).before a0 Z = true) (hy : y.cls ≠ "java/lang/invoke/MethodHandle" ∧ y.cls ≠ "java/lang/invoke/VarHandle")
    (eT : T.heap = h) {k0 : Nat} (hS : s.Since (s.setVm vm0).vm k0) (hk : k0 ≤ h.size) (hEL : EW Z a0 EL) {h0 : Heap} (A : CHr Z EL s.vm h0 (s.setVm vm0).vm h) {b : Addr} (hsx : ∀ x ∈ xs, x < h.size ∧ Safe Z EL (s.setVm vm0).vm h x) (hM : ConH l Z EL xs y bytes maxL none rm (.ref b :: as).toArray h Q) {W : Nat} (hf : rm.frames + 1 ≤ R.frames) (hl : W + (maxL + 11) + rm.locals ≤ R.locals) (hc : cells + rm.cells ≤ R.cells) (hs : slots + rm.slots ≤ R.slots)
    {g : JFrame} (hg : g.method = m) (hsize : g.locals.size = c.maxLocals) {rest : List Value} {ps : List FieldType} {r : Option FieldType} (hd : parseMethodDescriptor y.desc = some ⟨ps, r⟩) (hlen : as.length = ps.length) (hstack : g.stack = as.reverse ++ .ref b :: rest) (hW : 2 * g.monitorRoom + (rest.map fun v => v.category).sum ≤ W) (hdg : decode c.code g.pc = .ok (.invokespecial index, 3))
    {P : State → Outcome → Prop} (k : ∀ v T' L, RebasedH p l e R s vm0 m args below meth c T' (locs ++ L) (cells + rm.cells) (slots + rm.slots) Z EL own h → h.size ≤ T'.heap.size → Q v T'.heap L → Goes p e below P (T'.setTop { g with pc := g.pc + 3, stack := v.toList ++ rest })) :
    Goes p e below P (T.setTop g) := by
  obtain ⟨v, vm₁, ⟨T', L', k', n'⟩, -, X', hS', hgr, ⟨L, hQ, l', y', z', C'⟩, st⟩ := X.specialBackS hx (y := y) hy1 hown (mvT hZ w1) (mvT hZ w2) (mvT hZ w3) hy (own_backH (W := W) hM hZ w3 w4 hf hl hEL A.1 hsx) (g := g) hg hsize (Steps.refl _) (a := b) (argsL := as) (rest := rest) (lenOf hd hlen) hstack hW hdg (fun _ _ => ⟨rfl, eT, hc, hs⟩)
  try dsimp only at X' hS' hgr hQ l' y' z' C' st
  subst l' y' z'
  exact Goes.tr st (k v T' L ⟨own_rebase hZ hown hS (by rw [eT]; exact hk) X' hS' hgr, C'⟩ (by rw [← eT]; exact hgr) hQ)
end OwnHeld
theorem own_d3_0 : decode jdk_42_method_149_code 0 = .ok (.aload_n 0, 1) := by decide +kernel
theorem own_d3_1 : decode jdk_42_method_149_code 1 = .ok (.invokespecial 1, 3) := by decide +kernel
theorem own_d3_4 : decode jdk_42_method_149_code 4 = .ok (.iload_n 3, 1) := by decide +kernel
theorem own_d3_5 : decode jdk_42_method_149_code 5 = .ok (.ifCond .ne 22, 3) := by decide +kernel
theorem own_d3_8 : decode jdk_42_method_149_code 8 = .ok (.aload_n 0, 1) := by decide +kernel
theorem own_d3_9 : decode jdk_42_method_149_code 9 = .ok (.ldc 7, 2) := by decide +kernel
theorem own_d3_11 : decode jdk_42_method_149_code 11 = .ok (.getfield 9, 3) := by decide +kernel
theorem own_d3_14 : decode jdk_42_method_149_code 14 = .ok (.putfield 9, 3) := by decide +kernel
theorem own_d3_17 : decode jdk_42_method_149_code 17 = .ok (.aload_n 0, 1) := by decide +kernel
theorem own_d3_18 : decode jdk_42_method_149_code 18 = .ok (.ldc 7, 2) := by decide +kernel
theorem own_d3_20 : decode jdk_42_method_149_code 20 = .ok (.getfield 15, 3) := by decide +kernel
theorem own_d3_23 : decode jdk_42_method_149_code 23 = .ok (.putfield 15, 3) := by decide +kernel
theorem own_d3_26 : decode jdk_42_method_149_code 26 = .ok (.return_, 1) := by decide +kernel
theorem own_d2_0 : decode jdk_42_method_3_code 0 = .ok (.aload_n 0, 1) := by decide +kernel
theorem own_d2_1 : decode jdk_42_method_3_code 1 = .ok (.aload_n 1, 1) := by decide +kernel
theorem own_d2_2 : decode jdk_42_method_3_code 2 = .ok (.iconst 0, 1) := by decide +kernel
theorem own_d2_3 : decode jdk_42_method_3_code 3 = .ok (.aload_n 1, 1) := by decide +kernel
theorem own_d2_4 : decode jdk_42_method_3_code 4 = .ok (.arraylength, 1) := by decide +kernel
theorem own_d2_5 : decode jdk_42_method_3_code 5 = .ok (.aconst_null, 1) := by decide +kernel
theorem own_d2_6 : decode jdk_42_method_3_code 6 = .ok (.invokespecial 27, 3) := by decide +kernel
theorem own_d2_9 : decode jdk_42_method_3_code 9 = .ok (.return_, 1) := by decide +kernel
theorem own_d6_0 : decode jdk_52_method_21_code 0 = .ok (.iconst 0, 1) := by decide +kernel
theorem own_d6_1 : decode jdk_52_method_21_code 1 = .ok (.istore 5, 2) := by decide +kernel
theorem own_d6_3 : decode jdk_52_method_21_code 3 = .ok (.iload 5, 2) := by decide +kernel
theorem own_d6_5 : decode jdk_52_method_21_code 5 = .ok (.iload 4, 2) := by decide +kernel
theorem own_d6_7 : decode jdk_52_method_21_code 7 = .ok (.if_icmp .ge 37, 3) := by decide +kernel
theorem own_d6_10 : decode jdk_52_method_21_code 10 = .ok (.aload_n 0, 1) := by decide +kernel
theorem own_d6_11 : decode jdk_52_method_21_code 11 = .ok (.iload_n 1, 1) := by decide +kernel
theorem own_d6_12 : decode jdk_52_method_21_code 12 = .ok (.caload, 1) := by decide +kernel
theorem own_d6_13 : decode jdk_52_method_21_code 13 = .ok (.istore 6, 2) := by decide +kernel
theorem own_d6_15 : decode jdk_52_method_21_code 15 = .ok (.iload 6, 2) := by decide +kernel
theorem own_d6_17 : decode jdk_52_method_21_code 17 = .ok (.sipush 255, 3) := by decide +kernel
theorem own_d6_20 : decode jdk_52_method_21_code 20 = .ok (.if_icmp .le 6, 3) := by decide +kernel
theorem own_d6_26 : decode jdk_52_method_21_code 26 = .ok (.aload_n 2, 1) := by decide +kernel
theorem own_d6_27 : decode jdk_52_method_21_code 27 = .ok (.iload_n 3, 1) := by decide +kernel
theorem own_d6_28 : decode jdk_52_method_21_code 28 = .ok (.iload 6, 2) := by decide +kernel
theorem own_d6_30 : decode jdk_52_method_21_code 30 = .ok (.i2b, 1) := by decide +kernel
theorem own_d6_31 : decode jdk_52_method_21_code 31 = .ok (.bastore, 1) := by decide +kernel
theorem own_d6_32 : decode jdk_52_method_21_code 32 = .ok (.iinc 1 1, 3) := by decide +kernel
theorem own_d6_35 : decode jdk_52_method_21_code 35 = .ok (.iinc 3 1, 3) := by decide +kernel
theorem own_d6_38 : decode jdk_52_method_21_code 38 = .ok (.iinc 5 1, 3) := by decide +kernel
theorem own_d6_41 : decode jdk_52_method_21_code 41 = .ok (.goto (-38), 3) := by decide +kernel
theorem own_d6_44 : decode jdk_52_method_21_code 44 = .ok (.iload 4, 2) := by decide +kernel
theorem own_d6_46 : decode jdk_52_method_21_code 46 = .ok (.ireturn, 1) := by decide +kernel
theorem own_d5_0 : decode jdk_52_method_16_code 0 = .ok (.iload_n 2, 1) := by decide +kernel
theorem own_d5_1 : decode jdk_52_method_16_code 1 = .ok (.newarray .byte, 2) := by decide +kernel
theorem own_d5_3 : decode jdk_52_method_16_code 3 = .ok (.astore_n 3, 1) := by decide +kernel
theorem own_d5_4 : decode jdk_52_method_16_code 4 = .ok (.aload_n 0, 1) := by decide +kernel
theorem own_d5_5 : decode jdk_52_method_16_code 5 = .ok (.iload_n 1, 1) := by decide +kernel
theorem own_d5_6 : decode jdk_52_method_16_code 6 = .ok (.aload_n 3, 1) := by decide +kernel
theorem own_d5_7 : decode jdk_52_method_16_code 7 = .ok (.iconst 0, 1) := by decide +kernel
theorem own_d5_8 : decode jdk_52_method_16_code 8 = .ok (.iload_n 2, 1) := by decide +kernel
theorem own_d5_9 : decode jdk_52_method_16_code 9 = .ok (.invokestatic 115, 3) := by decide +kernel
theorem own_d5_12 : decode jdk_52_method_16_code 12 = .ok (.istore 4, 2) := by decide +kernel
theorem own_d5_14 : decode jdk_52_method_16_code 14 = .ok (.iload 4, 2) := by decide +kernel
theorem own_d5_16 : decode jdk_52_method_16_code 16 = .ok (.iload_n 2, 1) := by decide +kernel
theorem own_d5_17 : decode jdk_52_method_16_code 17 = .ok (.if_icmp .eq 40, 3) := by decide +kernel
theorem own_d5_57 : decode jdk_52_method_16_code 57 = .ok (.aload_n 3, 1) := by decide +kernel
theorem own_d5_58 : decode jdk_52_method_16_code 58 = .ok (.areturn, 1) := by decide +kernel
theorem own_d7_0 : decode jdk_52_method_15_code 0 = .ok (.iload_n 1, 1) := by decide +kernel
theorem own_d7_1 : decode jdk_52_method_15_code 1 = .ok (.aload_n 0, 1) := by decide +kernel
theorem own_d7_2 : decode jdk_52_method_15_code 2 = .ok (.arraylength, 1) := by decide +kernel
theorem own_d7_3 : decode jdk_52_method_15_code 3 = .ok (.isub, 1) := by decide +kernel
theorem own_d7_4 : decode jdk_52_method_15_code 4 = .ok (.bipush 31, 2) := by decide +kernel
theorem own_d7_6 : decode jdk_52_method_15_code 6 = .ok (.iushr, 1) := by decide +kernel
theorem own_d7_7 : decode jdk_52_method_15_code 7 = .ok (.i2b, 1) := by decide +kernel
theorem own_d7_8 : decode jdk_52_method_15_code 8 = .ok (.ireturn, 1) := by decide +kernel
theorem own_d3_27 : decode jdk_42_method_149_code 27 = .ok (.getstatic 38, 3) := by decide +kernel
theorem own_d3_30 : decode jdk_42_method_149_code 30 = .ok (.ifCond .eq 28, 3) := by decide +kernel
theorem own_d3_33 : decode jdk_42_method_149_code 33 = .ok (.aload_n 1, 1) := by decide +kernel
theorem own_d3_34 : decode jdk_42_method_149_code 34 = .ok (.iload_n 2, 1) := by decide +kernel
theorem own_d3_35 : decode jdk_42_method_149_code 35 = .ok (.iload_n 3, 1) := by decide +kernel
theorem own_d3_36 : decode jdk_42_method_149_code 36 = .ok (.invokestatic 177, 3) := by decide +kernel
theorem own_d3_39 : decode jdk_42_method_149_code 39 = .ok (.astore 5, 2) := by decide +kernel
theorem own_d3_41 : decode jdk_42_method_149_code 41 = .ok (.aload_n 0, 1) := by decide +kernel
theorem own_d3_42 : decode jdk_42_method_149_code 42 = .ok (.aload 5, 2) := by decide +kernel
theorem own_d3_44 : decode jdk_42_method_149_code 44 = .ok (.iload_n 3, 1) := by decide +kernel
theorem own_d3_45 : decode jdk_42_method_149_code 45 = .ok (.invokestatic 47, 3) := by decide +kernel
theorem own_d3_48 : decode jdk_42_method_149_code 48 = .ok (.putfield 15, 3) := by decide +kernel
theorem own_d3_51 : decode jdk_42_method_149_code 51 = .ok (.aload_n 0, 1) := by decide +kernel
theorem own_d3_52 : decode jdk_42_method_149_code 52 = .ok (.aload 5, 2) := by decide +kernel
theorem own_d3_54 : decode jdk_42_method_149_code 54 = .ok (.putfield 9, 3) := by decide +kernel
theorem own_d3_57 : decode jdk_42_method_149_code 57 = .ok (.return_, 1) := by decide +kernel
theorem own_d1_0 : decode method_3_code 0 = .ok (.iload_n 0, 1) := by decide +kernel
theorem own_d1_1 : decode method_3_code 1 = .ok (.iconst 3, 1) := by decide +kernel
theorem own_d1_2 : decode method_3_code 2 = .ok (.iand, 1) := by decide +kernel
theorem own_d1_3 : decode method_3_code 3 = .ok (.istore_n 2, 1) := by decide +kernel
theorem own_d1_4 : decode method_3_code 4 = .ok (.iload_n 2, 1) := by decide +kernel
theorem own_d1_5 : decode method_3_code 5 = .ok (.ifCond .ne 11, 3) := by decide +kernel
theorem own_d1_8 : decode method_3_code 8 = .ok (.iload_n 1, 1) := by decide +kernel
theorem own_d1_9 : decode method_3_code 9 = .ok (.ifCond .eq 5, 3) := by decide +kernel
theorem own_d1_14 : decode method_3_code 14 = .ok (.iconst 2, 1) := by decide +kernel
theorem own_d1_15 : decode method_3_code 15 = .ok (.istore_n 2, 1) := by decide +kernel
theorem own_d1_16 : decode method_3_code 16 = .ok (.iload_n 0, 1) := by decide +kernel
theorem own_d1_17 : decode method_3_code 17 = .ok (.iconst 2, 1) := by decide +kernel
theorem own_d1_18 : decode method_3_code 18 = .ok (.iushr, 1) := by decide +kernel
theorem own_d1_19 : decode method_3_code 19 = .ok (.sipush 255, 3) := by decide +kernel
theorem own_d1_22 : decode method_3_code 22 = .ok (.iand, 1) := by decide +kernel
theorem own_d1_23 : decode method_3_code 23 = .ok (.i2c, 1) := by decide +kernel
theorem own_d1_24 : decode method_3_code 24 = .ok (.istore_n 3, 1) := by decide +kernel
theorem own_d1_25 : decode method_3_code 25 = .ok (.iload_n 0, 1) := by decide +kernel
theorem own_d1_26 : decode method_3_code 26 = .ok (.bipush 10, 2) := by decide +kernel
theorem own_d1_28 : decode method_3_code 28 = .ok (.iushr, 1) := by decide +kernel
theorem own_d1_29 : decode method_3_code 29 = .ok (.sipush 255, 3) := by decide +kernel
theorem own_d1_32 : decode method_3_code 32 = .ok (.iand, 1) := by decide +kernel
theorem own_d1_33 : decode method_3_code 33 = .ok (.i2c, 1) := by decide +kernel
theorem own_d1_34 : decode method_3_code 34 = .ok (.istore 4, 2) := by decide +kernel
theorem own_d1_36 : decode method_3_code 36 = .ok (.iload_n 2, 1) := by decide +kernel
theorem own_d1_37 : decode method_3_code 37 = .ok (.iconst 1, 1) := by decide +kernel
theorem own_d1_38 : decode method_3_code 38 = .ok (.if_icmp .ne 14, 3) := by decide +kernel
theorem own_d1_52 : decode method_3_code 52 = .ok (.iload_n 2, 1) := by decide +kernel
theorem own_d1_53 : decode method_3_code 53 = .ok (.iconst 2, 1) := by decide +kernel
theorem own_d1_54 : decode method_3_code 54 = .ok (.if_icmp .ne 18, 3) := by decide +kernel
theorem own_d1_57 : decode method_3_code 57 = .ok (.new 42, 3) := by decide +kernel
theorem own_d1_60 : decode method_3_code 60 = .ok (.dup, 1) := by decide +kernel
theorem own_d1_61 : decode method_3_code 61 = .ok (.iconst 1, 1) := by decide +kernel
theorem own_d1_62 : decode method_3_code 62 = .ok (.newarray .char, 2) := by decide +kernel
theorem own_d1_64 : decode method_3_code 64 = .ok (.dup, 1) := by decide +kernel
theorem own_d1_65 : decode method_3_code 65 = .ok (.iconst 0, 1) := by decide +kernel
theorem own_d1_66 : decode method_3_code 66 = .ok (.iload_n 3, 1) := by decide +kernel
theorem own_d1_67 : decode method_3_code 67 = .ok (.castore, 1) := by decide +kernel
theorem own_d1_68 : decode method_3_code 68 = .ok (.invokespecial 44, 3) := by decide +kernel
theorem own_d1_71 : decode method_3_code 71 = .ok (.areturn, 1) := by decide +kernel
theorem own_d1_12 : decode method_3_code 12 = .ok (.aconst_null, 1) := by decide +kernel
theorem own_d1_13 : decode method_3_code 13 = .ok (.areturn, 1) := by decide +kernel
theorem own_d1_41 : decode method_3_code 41 = .ok (.new 42, 3) := by decide +kernel
theorem own_d1_44 : decode method_3_code 44 = .ok (.dup, 1) := by decide +kernel
theorem own_d1_45 : decode method_3_code 45 = .ok (.iconst 0, 1) := by decide +kernel
theorem own_d1_46 : decode method_3_code 46 = .ok (.newarray .char, 2) := by decide +kernel
theorem own_d1_48 : decode method_3_code 48 = .ok (.invokespecial 44, 3) := by decide +kernel
theorem own_d1_51 : decode method_3_code 51 = .ok (.areturn, 1) := by decide +kernel
theorem own_d1_72 : decode method_3_code 72 = .ok (.new 42, 3) := by decide +kernel
theorem own_d1_75 : decode method_3_code 75 = .ok (.dup, 1) := by decide +kernel
theorem own_d1_76 : decode method_3_code 76 = .ok (.iconst 2, 1) := by decide +kernel
theorem own_d1_77 : decode method_3_code 77 = .ok (.newarray .char, 2) := by decide +kernel
theorem own_d1_79 : decode method_3_code 79 = .ok (.dup, 1) := by decide +kernel
theorem own_d1_80 : decode method_3_code 80 = .ok (.iconst 0, 1) := by decide +kernel
theorem own_d1_81 : decode method_3_code 81 = .ok (.iload_n 3, 1) := by decide +kernel
theorem own_d1_82 : decode method_3_code 82 = .ok (.castore, 1) := by decide +kernel
theorem own_d1_83 : decode method_3_code 83 = .ok (.dup, 1) := by decide +kernel
theorem own_d1_84 : decode method_3_code 84 = .ok (.iconst 1, 1) := by decide +kernel
theorem own_d1_85 : decode method_3_code 85 = .ok (.iload 4, 2) := by decide +kernel
theorem own_d1_87 : decode method_3_code 87 = .ok (.castore, 1) := by decide +kernel
theorem own_d1_88 : decode method_3_code 88 = .ok (.invokespecial 44, 3) := by decide +kernel
theorem own_d1_91 : decode method_3_code 91 = .ok (.areturn, 1) := by decide +kernel
theorem own_d9_0 : decode jdk_30_method_1_code 0 = .ok (.aload_n 0, 1) := by decide +kernel
theorem own_d9_1 : decode jdk_30_method_1_code 1 = .ok (.invokespecial 1, 3) := by decide +kernel
theorem own_d9_4 : decode jdk_30_method_1_code 4 = .ok (.return_, 1) := by decide +kernel
theorem own_d8_0 : decode prog_37_method_1_code 0 = .ok (.aload_n 0, 1) := by decide +kernel
theorem own_d8_1 : decode prog_37_method_1_code 1 = .ok (.invokespecial 1, 3) := by decide +kernel
theorem own_d8_4 : decode prog_37_method_1_code 4 = .ok (.aload_n 0, 1) := by decide +kernel
theorem own_d8_5 : decode prog_37_method_1_code 5 = .ok (.aload_n 1, 1) := by decide +kernel
theorem own_d8_6 : decode prog_37_method_1_code 6 = .ok (.putfield 7, 3) := by decide +kernel
theorem own_d8_9 : decode prog_37_method_1_code 9 = .ok (.aload_n 0, 1) := by decide +kernel
theorem own_d8_10 : decode prog_37_method_1_code 10 = .ok (.aload_n 2, 1) := by decide +kernel
theorem own_d8_11 : decode prog_37_method_1_code 11 = .ok (.putfield 13, 3) := by decide +kernel
theorem own_d8_14 : decode prog_37_method_1_code 14 = .ok (.aload_n 0, 1) := by decide +kernel
theorem own_d8_15 : decode prog_37_method_1_code 15 = .ok (.aload_n 3, 1) := by decide +kernel
theorem own_d8_16 : decode prog_37_method_1_code 16 = .ok (.putfield 16, 3) := by decide +kernel
theorem own_d8_19 : decode prog_37_method_1_code 19 = .ok (.aload_n 0, 1) := by decide +kernel
theorem own_d8_20 : decode prog_37_method_1_code 20 = .ok (.aload 4, 2) := by decide +kernel
theorem own_d8_22 : decode prog_37_method_1_code 22 = .ok (.putfield 19, 3) := by decide +kernel
theorem own_d8_25 : decode prog_37_method_1_code 25 = .ok (.aload_n 0, 1) := by decide +kernel
theorem own_d8_26 : decode prog_37_method_1_code 26 = .ok (.aload 5, 2) := by decide +kernel
theorem own_d8_28 : decode prog_37_method_1_code 28 = .ok (.putfield 22, 3) := by decide +kernel
theorem own_d8_31 : decode prog_37_method_1_code 31 = .ok (.return_, 1) := by decide +kernel
theorem own_d10_0 : decode prog_37_method_3_code 0 = .ok (.new 8, 3) := by decide +kernel
theorem own_d10_3 : decode prog_37_method_3_code 3 = .ok (.dup, 1) := by decide +kernel
theorem own_d10_4 : decode prog_37_method_3_code 4 = .ok (.aload_n 0, 1) := by decide +kernel
theorem own_d10_5 : decode prog_37_method_3_code 5 = .ok (.getfield 7, 3) := by decide +kernel
theorem own_d10_8 : decode prog_37_method_3_code 8 = .ok (.aload_n 0, 1) := by decide +kernel
theorem own_d10_9 : decode prog_37_method_3_code 9 = .ok (.getfield 13, 3) := by decide +kernel
theorem own_d10_12 : decode prog_37_method_3_code 12 = .ok (.aload_n 1, 1) := by decide +kernel
theorem own_d10_13 : decode prog_37_method_3_code 13 = .ok (.aload_n 0, 1) := by decide +kernel
theorem own_d10_14 : decode prog_37_method_3_code 14 = .ok (.getfield 19, 3) := by decide +kernel
theorem own_d10_17 : decode prog_37_method_3_code 17 = .ok (.aload_n 0, 1) := by decide +kernel
theorem own_d10_18 : decode prog_37_method_3_code 18 = .ok (.getfield 22, 3) := by decide +kernel
theorem own_d10_21 : decode prog_37_method_3_code 21 = .ok (.invokespecial 54, 3) := by decide +kernel
theorem own_d10_24 : decode prog_37_method_3_code 24 = .ok (.areturn, 1) := by decide +kernel
theorem own_d11_0 : decode prog_37_method_14_code 0 = .ok (.aload_n 0, 1) := by decide +kernel
theorem own_d11_1 : decode prog_37_method_14_code 1 = .ok (.getfield 7, 3) := by decide +kernel
theorem own_d11_4 : decode prog_37_method_14_code 4 = .ok (.areturn, 1) := by decide +kernel
theorem own_d13_0 : decode prog_37_method_15_code 0 = .ok (.aload_n 0, 1) := by decide +kernel
theorem own_d13_1 : decode prog_37_method_15_code 1 = .ok (.getfield 13, 3) := by decide +kernel
theorem own_d13_4 : decode prog_37_method_15_code 4 = .ok (.areturn, 1) := by decide +kernel
theorem own_d15_0 : decode prog_37_method_16_code 0 = .ok (.aload_n 0, 1) := by decide +kernel
theorem own_d15_1 : decode prog_37_method_16_code 1 = .ok (.getfield 16, 3) := by decide +kernel
theorem own_d15_4 : decode prog_37_method_16_code 4 = .ok (.areturn, 1) := by decide +kernel
theorem own_d16_0 : decode prog_37_method_17_code 0 = .ok (.aload_n 0, 1) := by decide +kernel
theorem own_d16_1 : decode prog_37_method_17_code 1 = .ok (.getfield 19, 3) := by decide +kernel
theorem own_d16_4 : decode prog_37_method_17_code 4 = .ok (.areturn, 1) := by decide +kernel
theorem own_d17_0 : decode prog_37_method_18_code 0 = .ok (.aload_n 0, 1) := by decide +kernel
theorem own_d17_1 : decode prog_37_method_18_code 1 = .ok (.getfield 22, 3) := by decide +kernel
theorem own_d17_4 : decode prog_37_method_18_code 4 = .ok (.areturn, 1) := by decide +kernel
theorem own_d14_0 : decode jdk_42_method_66_code 0 = .ok (.aload_n 0, 1) := by decide +kernel
theorem own_d14_1 : decode jdk_42_method_66_code 1 = .ok (.aload_n 1, 1) := by decide +kernel
theorem own_d14_2 : decode jdk_42_method_66_code 2 = .ok (.if_acmp .ne 5, 3) := by decide +kernel
theorem own_d14_5 : decode jdk_42_method_66_code 5 = .ok (.iconst 1, 1) := by decide +kernel
theorem own_d14_6 : decode jdk_42_method_66_code 6 = .ok (.ireturn, 1) := by decide +kernel
theorem own_d12_0 : decode method_4_code 0 = .ok (.aload_n 0, 1) := by decide +kernel
theorem own_d12_1 : decode method_4_code 1 = .ok (.ifnonnull 13, 3) := by decide +kernel
theorem own_d12_14 : decode method_4_code 14 = .ok (.aload_n 0, 1) := by decide +kernel
theorem own_d12_15 : decode method_4_code 15 = .ok (.aload_n 1, 1) := by decide +kernel
theorem own_d12_16 : decode method_4_code 16 = .ok (.invokevirtual 47, 3) := by decide +kernel
theorem own_d12_19 : decode method_4_code 19 = .ok (.ireturn, 1) := by decide +kernel
theorem own_d12_4 : decode method_4_code 4 = .ok (.aload_n 1, 1) := by decide +kernel
theorem own_d12_5 : decode method_4_code 5 = .ok (.ifnonnull 7, 3) := by decide +kernel
theorem own_d12_8 : decode method_4_code 8 = .ok (.iconst 1, 1) := by decide +kernel
theorem own_d12_9 : decode method_4_code 9 = .ok (.goto 4, 3) := by decide +kernel
theorem own_d12_13 : decode method_4_code 13 = .ok (.ireturn, 1) := by decide +kernel
theorem own_pd0 : parseMethodDescriptor "([CIILjava/lang/Void;)V" = some ⟨[(.array .char), .int, .int, (.object "java/lang/Void")], none⟩ := by decide +kernel
theorem own_pd1 : parseMethodDescriptor "([CI[BII)I" = some ⟨[(.array .char), .int, (.array .byte), .int, .int], some .int⟩ := by decide +kernel
theorem own_pd2 : parseMethodDescriptor "([CII)[B" = some ⟨[(.array .char), .int, .int], some (.array .byte)⟩ := by decide +kernel
theorem own_pd3 : parseMethodDescriptor "([BI)B" = some ⟨[(.array .byte), .int], some .byte⟩ := by decide +kernel
theorem own_pd4 : parseMethodDescriptor "([C)V" = some ⟨[(.array .char)], none⟩ := by decide +kernel
theorem own_pd5 : parseMethodDescriptor "()V" = some ⟨[], none⟩ := by decide +kernel
theorem own_pd6 : parseMethodDescriptor "(Ljava/lang/String;Ljava/lang/String;Ljava/lang/String;Ljava/lang/String;Ljava/lang/String;)V" = some ⟨[(.object "java/lang/String"), (.object "java/lang/String"), (.object "java/lang/String"), (.object "java/lang/String"), (.object "java/lang/String")], none⟩ := by decide +kernel
theorem own_pd7 : parseMethodDescriptor "(Ljava/lang/Object;)Z" = some ⟨[(.object "java/lang/Object")], some .boolean⟩ := by decide +kernel
theorem own_pd8 : parseMethodDescriptor "(IZ)Ljava/lang/String;" = some ⟨[.int, .boolean], some (.object "java/lang/String")⟩ := by decide +kernel
theorem own_pd9 : parseMethodDescriptor "(Ljava/lang/String;)Ldev/callstitch/declaration/UriReference;" = some ⟨[(.object "java/lang/String")], some (.object "dev/callstitch/declaration/UriReference")⟩ := by decide +kernel
theorem own_pd10 : parseMethodDescriptor "()Ljava/lang/String;" = some ⟨[], some (.object "java/lang/String")⟩ := by decide +kernel
theorem own_pd11 : parseMethodDescriptor "(Ljava/lang/String;Ljava/lang/String;)Z" = some ⟨[(.object "java/lang/String"), (.object "java/lang/String")], some .boolean⟩ := by decide +kernel
theorem own_pn0 : plainName "java/lang/String" = true := by first | (simp [plainName, overriddenIn]; done) | decide +kernel
theorem own_pn1 : plainName "java/lang/StringUTF16" = true := by first | (simp [plainName, overriddenIn]; done) | decide +kernel
theorem own_pn2 : plainName "dev/callstitch/declaration/UriReferenceWithPathPinLaw" = true := by first | (simp [plainName, overriddenIn]; done) | decide +kernel
theorem own_pn3 : plainName "java/lang/Record" = true := by first | (simp [plainName, overriddenIn]; done) | decide +kernel
theorem own_pn4 : plainName "dev/callstitch/declaration/UriReference" = true := by first | (simp [plainName, overriddenIn]; done) | decide +kernel
/-- the low bytes of the chars, as a String's byte[] holds them -/
def own_bs (cs : List Int32) (i : Nat) : Value := .int ((cs.getD i 0).toInt8.toInt32)
theorem own_wS {Z : State} {a0 : Array Value} (hw : ∀ d ∈ tables_1, d.before a0 Z = true) : ∀ a ∈ Bundle.stringAtoms, a.before a0 Z = true := by
  intro a ha
  simp only [Bundle.stringAtoms, List.mem_cons, List.not_mem_nil, or_false] at ha
  rcases ha with rfl | rfl | rfl | rfl | rfl | rfl | rfl
  · exact hw _ (List.mem_of_getElem? (i := 6) rfl)
  · exact hw _ (List.mem_of_getElem? (i := 5) rfl)
  · exact hw _ (List.mem_of_getElem? (i := 23) rfl)
  · exact hw _ (List.mem_of_getElem? (i := 33) rfl)
  · exact hw _ (List.mem_of_getElem? (i := 31) rfl)
  · exact hw _ (List.mem_of_getElem? (i := 35) rfl)
  · exact hw _ (List.mem_of_getElem? (i := 36) rfl)
abbrev own_EL : List (String × Nat) := [("java/lang/String", 7)]
theorem own_hEL {Z : State} {a0 : Array Value} (hw : ∀ d ∈ tables_1, d.before a0 Z = true) : EW Z a0 own_EL := EW.cons (hw _ (List.mem_of_getElem? (i := 34) rfl)) (fun c hc => by cases hc) EW.nil
set_option maxRecDepth 65536 in
set_option maxHeartbeats 40000000 in
theorem rmS4_0 (l : Launch) (Z : State) (a0 : Array Value) (hw : ∀ d ∈ tables_1, d.before a0 Z = true) (a1 a2 : Addr) (h0 : Heap) (n0 : Nat) (Z0 : n0 ≤ h0.size) (f : Nat → Value) (A2 : Afn Z h0 a2 .char 0 f) (E1 : Exa Z h0 a1 "java/lang/String") (g1 : n0 ≤ a1) (Fc : Fld Z h0 a1 "java/lang/String" "coder" "B" (.int (0 : Int32))) (Fv : Fld Z h0 a1 "java/lang/String" "value" "[B" .null) :
    ConH l Z own_EL [a1] (⟨"java/lang/String", "<init>", "([CIILjava/lang/Void;)V"⟩ : MethodName) jdk_42_method_149_code 6 none ({ frames := 1, cells := 4, slots := 8, locals := 12 } : Room) #[(.ref a1), (.ref a2), (.int (0 : Int32)), (.int (0 : Int32)), .null] h0 (fun v h L => v = none ∧ Fr n0 L ∧ Keep h0 h [a1] ∧ Fld Z h a1 "java/lang/String" "coder" "B" (.int (0 : Int32)) ∧ ∃ x, Fld Z h a1 "java/lang/String" "value" "[B" (.ref x) ∧ Afn Z h x .byte 0 (fun i => ([] : List Value).getD i (.int 0))) := by
  refine ConH.body (plainFor_of_name own_pn0) ?_
  intro pP eE sS vm0 mM bB mT cC s₁ hx hby hml hZ hown hnm hret hlk X0 e0 hS hs0 C0 sf0
  have hown : (sS.setVm vm0).vm.findClass "java/lang/String" = some mM.cls := hown
  have hml : cC.maxLocals = 6 := hml
  have N0 := Fr.nil n0
  have ef : entryFrame mM #[(.ref a1), (.ref a2), (.int (0 : Int32)), (.int (0 : Int32)), .null] 6 = mkF mM 0 #[.val (.ref a1), .val (.ref a2), .val (.int (0 : Int32)), .val (.int (0 : Int32)), .val .null, .unset] [] := by first | (simp [entryFrame, mkF, argsToLocals, Value.category]; done) | rfl
  rw [ef]
  show Goes pP eE bB _ (s₁.setTop (mkF mM 0 #[.val (.ref a1), .val (.ref a2), .val (.int (0 : Int32)), .val (.int (0 : Int32)), .val .null, .unset] []))
  refine Goes.step (fun _ kK => XS.aloadN X0.here hx rfl (hb hby own_d3_0) rfl rfl kK) ?_
  show Goes pP eE bB _ (s₁.setTop (mkF mM 1 #[.val (.ref a1), .val (.ref a2), .val (.int (0 : Int32)), .val (.int (0 : Int32)), .val .null, .unset] [(.ref a1)]))
  obtain ⟨T_1, X_1, e_1, st_1⟩ := initO X0 hx hZ hown (hw _ (List.mem_of_getElem? (i := 15) rfl)) (hw _ (List.mem_of_getElem? (i := 16) rfl)) (hw _ (List.mem_of_getElem? (i := 17) rfl)) e0 (g := (mkF mM 1 #[.val (.ref a1), .val (.ref a2), .val (.int (0 : Int32)), .val (.int (0 : Int32)), .val .null, .unset] [(.ref a1)])) rfl (by rw [hml]; rfl) rfl (hb hby own_d3_1) (by decide) (W := 0) (by show 2 * 0 + _ ≤ _; exact Nat.le_of_eq rfl) (by decide)
  refine Goes.step st_1 ?_
  show Goes pP eE bB _ (T_1.setTop (mkF mM 4 #[.val (.ref a1), .val (.ref a2), .val (.int (0 : Int32)), .val (.int (0 : Int32)), .val .null, .unset] []))
  refine Goes.step (fun _ kK => XS.iloadN X_1.here hx rfl (hb hby own_d3_4) rfl kK) ?_
  show Goes pP eE bB _ (T_1.setTop (mkF mM 5 #[.val (.ref a1), .val (.ref a2), .val (.int (0 : Int32)), .val (.int (0 : Int32)), .val .null, .unset] [(.int (0 : Int32))]))
  refine Goes.step (fun _ kK => XS.ifNo X_1.here hx rfl (hb hby own_d3_5) rfl ((if0 _ _).trans (teq (by decide)).2) kK) ?_
  show Goes pP eE bB _ (T_1.setTop (mkF mM 8 #[.val (.ref a1), .val (.ref a2), .val (.int (0 : Int32)), .val (.int (0 : Int32)), .val .null, .unset] []))
  refine Goes.step (fun _ kK => XS.aloadN X_1.here hx rfl (hb hby own_d3_8) rfl rfl kK) ?_
  show Goes pP eE bB _ (T_1.setTop (mkF mM 9 #[.val (.ref a1), .val (.ref a2), .val (.int (0 : Int32)), .val (.int (0 : Int32)), .val .null, .unset] [(.ref a1)]))
  have u_3 : a1 < h0.size := own_ltE E1
  refine Goes.ldcCH X_1 hx hZ hown (hw _ (List.mem_of_getElem? (i := 34) rfl)) (own_wS hw) e_1 hS (Nat.le_refl h0.size) (own_hEL hw) (List.mem_singleton.mpr rfl) C0 (vs := []) (z := (0 : Int32)) (nl := 0) ⟨fun c hc => (by cases hc), rfl⟩ (by decide) rfl (g := (mkF mM 9 #[.val (.ref a1), .val (.ref a2), .val (.int (0 : Int32)), .val (.int (0 : Int32)), .val .null, .unset] [(.ref a1)])) rfl (hb hby own_d3_9) (n := 0) (by decide) (by decide) (by decide) (by decide) ?_
  intro a_2 T_2 h_2 k_2 b_2 X_2 e_2 E_2 hS hk_2 hZ hown CC_2 M_2 Fc_2 Fv_2 A_2 ne_2
  have u_4 := CC_2.safe u_3 (sf0 _ (List.mem_of_getElem? (i := 0) rfl))
  have u_5 := C0.trans CC_2
  have u_6 := (ne_2 _ u_4).1
  have u_7 := (ne_2 _ u_4).2
  show Goes pP eE bB _ (T_2.setTop (mkF mM 11 #[.val (.ref a1), .val (.ref a2), .val (.int (0 : Int32)), .val (.int (0 : Int32)), .val .null, .unset] [(.ref a_2), (.ref a1)]))
  obtain ⟨T_8, X_8, e_8, st_8⟩ := getF X_2 hx hZ hown (host := "") (Or.inl (hw _ (List.mem_of_getElem? (i := 32) rfl))) Via.refl e_2 Fv_2 (g := (mkF mM 11 #[.val (.ref a1), .val (.ref a2), .val (.int (0 : Int32)), .val (.int (0 : Int32)), .val .null, .unset] [(.ref a_2), (.ref a1)])) rfl rfl (hb hby own_d3_11)
  refine Goes.step st_8 ?_
  show Goes pP eE bB _ (T_8.setTop (mkF mM 14 #[.val (.ref a1), .val (.ref a2), .val (.int (0 : Int32)), .val (.int (0 : Int32)), .val .null, .unset] [(.ref b_2), (.ref a1)]))
  have u_9 := Fv.ext E_2
  have u_10 := E1.ext E_2
  obtain ⟨T_11, h_11, X_11, e_11, W_11, st_11⟩ := putF X_8 hx hZ hown (host := "") (Or.inl (hw _ (List.mem_of_getElem? (i := 32) rfl))) Via.refl e_8 u_9 u_10 (Or.inr ⟨(hw _ (List.mem_of_getElem? (i := 33) rfl)), rfl, hnm⟩) (hw _ (List.mem_of_getElem? (i := 5) rfl)) (ty := (.array .byte)) (by decide) rfl rfl (g := (mkF mM 14 #[.val (.ref a1), .val (.ref a2), .val (.int (0 : Int32)), .val (.int (0 : Int32)), .val .null, .unset] [(.ref b_2), (.ref a1)])) rfl rfl (hb hby own_d3_14)
  have u_12 := u_9.same W_11
  have N_11 := Fr.snoc X_11 N0 g1
  refine Goes.step st_11 ?_
  have u_13 := Safe.wr W_11 u_4 u_5.1 u_4
  have u_14 := u_5.trans (CHr.wr W_11 u_4 u_5.1)
  show Goes pP eE bB _ (T_11.setTop (mkF mM 17 #[.val (.ref a1), .val (.ref a2), .val (.int (0 : Int32)), .val (.int (0 : Int32)), .val .null, .unset] []))
  refine Goes.step (fun _ kK => XS.aloadN X_11.here hx rfl (hb hby own_d3_17) rfl rfl kK) ?_
  show Goes pP eE bB _ (T_11.setTop (mkF mM 18 #[.val (.ref a1), .val (.ref a2), .val (.int (0 : Int32)), .val (.int (0 : Int32)), .val .null, .unset] [(.ref a1)]))
  have u_16 := u_10.wr W_11
  have u_17 : a1 < h_11.size := own_ltE u_16
  have u_18 := Nat.le_trans hk_2 (Keep.of_wr W_11).1
  refine Goes.ldcCH X_11 hx hZ hown (hw _ (List.mem_of_getElem? (i := 34) rfl)) (own_wS hw) e_11 hS u_18 (own_hEL hw) (List.mem_singleton.mpr rfl) u_14 (vs := []) (z := (0 : Int32)) (nl := 0) ⟨fun c hc => (by cases hc), rfl⟩ (by decide) rfl (g := (mkF mM 18 #[.val (.ref a1), .val (.ref a2), .val (.int (0 : Int32)), .val (.int (0 : Int32)), .val .null, .unset] [(.ref a1)])) rfl (hb hby own_d3_18) (n := 0) (by decide) (by decide) (by decide) (by decide) ?_
  intro a_15 T_15 h_15 k_15 b_15 X_15 e_15 E_15 hS hk_15 hZ hown CC_15 M_15 Fc_15 Fv_15 A_15 ne_15
  have u_19 := CC_15.safe u_17 u_13
  have u_20 := u_14.trans CC_15
  have u_21 := (ne_15 _ u_19).1
  have u_22 := (ne_15 _ u_19).2
  show Goes pP eE bB _ (T_15.setTop (mkF mM 20 #[.val (.ref a1), .val (.ref a2), .val (.int (0 : Int32)), .val (.int (0 : Int32)), .val .null, .unset] [(.ref a_15), (.ref a1)]))
  obtain ⟨T_23, X_23, e_23, st_23⟩ := getF X_15 hx hZ hown (host := "") (Or.inl (hw _ (List.mem_of_getElem? (i := 30) rfl))) Via.refl e_15 Fc_15 (g := (mkF mM 20 #[.val (.ref a1), .val (.ref a2), .val (.int (0 : Int32)), .val (.int (0 : Int32)), .val .null, .unset] [(.ref a_15), (.ref a1)])) rfl rfl (hb hby own_d3_20)
  refine Goes.step st_23 ?_
  show Goes pP eE bB _ (T_23.setTop (mkF mM 23 #[.val (.ref a1), .val (.ref a2), .val (.int (0 : Int32)), .val (.int (0 : Int32)), .val .null, .unset] [(.int (0 : Int32)), (.ref a1)]))
  have u_24 := Fc.ext E_2
  have u_25 := u_24.other W_11 (Or.inr (slot_ne (Or.inr (hw _ (List.mem_of_getElem? (i := 31) rfl))) (Or.inr (hw _ (List.mem_of_getElem? (i := 33) rfl))) (by decide) (t := .byte) (t' := (.array .byte)) (by decide) (by decide)))
  have u_26 := u_25.ext E_15
  have u_27 := u_16.ext E_15
  obtain ⟨T_28, h_28, X_28, e_28, W_28, st_28⟩ := putF X_23 hx hZ hown (host := "") (Or.inl (hw _ (List.mem_of_getElem? (i := 30) rfl))) Via.refl e_23 u_26 u_27 (Or.inr ⟨(hw _ (List.mem_of_getElem? (i := 31) rfl)), rfl, hnm⟩) (hw _ (List.mem_of_getElem? (i := 5) rfl)) (ty := .byte) (by decide) rfl rfl (g := (mkF mM 23 #[.val (.ref a1), .val (.ref a2), .val (.int (0 : Int32)), .val (.int (0 : Int32)), .val .null, .unset] [(.int (0 : Int32)), (.ref a1)])) rfl rfl (hb hby own_d3_23)
  have u_29 := u_26.same W_28
  have N_28 := Fr.snoc X_28 N_11 g1
  refine Goes.step st_28 ?_
  have u_30 := Safe.wr W_28 u_19 u_20.1 u_19
  have u_31 := u_20.trans (CHr.wr W_28 u_19 u_20.1)
  show Goes pP eE bB _ (T_28.setTop (mkF mM 26 #[.val (.ref a1), .val (.ref a2), .val (.int (0 : Int32)), .val (.int (0 : Int32)), .val .null, .unset] []))
  have u_32 := Nat.le_trans hk_15 (Keep.of_wr W_28).1
  refine Goes.ret0H X_28 hS (Nat.le_trans u_32 (Nat.le_of_eq (by rw [e_28]))) (own_atT X_28 hZ (own_hEL hw) e_28 hs0 u_31) hx hlk hret (hb hby own_d3_26) (by decide) (by decide) ?_
  have u_33 := (Keep.refl h0 [a1]).ext E_2
  have u_34 := u_33.wr W_11 (Or.inl (List.mem_of_getElem? (i := 0) rfl))
  have u_35 := u_34.ext E_15
  have u_36 := u_35.wr W_28 (Or.inl (List.mem_of_getElem? (i := 0) rfl))
  have u_37 := u_12.ext E_15
  have u_38 := u_37.other W_28 (Or.inr (slot_ne (Or.inr (hw _ (List.mem_of_getElem? (i := 33) rfl))) (Or.inr (hw _ (List.mem_of_getElem? (i := 31) rfl))) (by decide) (t := (.array .byte)) (t' := .byte) (by decide) (by decide)))
  have u_39 := A_2.other W_11 (Ne.symm u_7)
  have u_40 := u_39.ext E_15
  have u_41 := u_40.other W_28 (Ne.symm u_7)
  exact ⟨rfl, N_28, by rw [e_28]; exact u_36, by rw [e_28]; exact u_29, b_2, by rw [e_28]; exact u_38, by rw [e_28]; exact u_41⟩
set_option maxRecDepth 65536 in
set_option maxHeartbeats 40000000 in
theorem rmS5_0 (l : Launch) (Z : State) (a0 : Array Value) (hw : ∀ d ∈ tables_1, d.before a0 Z = true) (a1 a2 : Addr) (h0 : Heap) (n0 : Nat) (Z0 : n0 ≤ h0.size) (f : Nat → Value) (A2 : Afn Z h0 a2 .char 0 f) (E1 : Exa Z h0 a1 "java/lang/String") (g1 : n0 ≤ a1) (Fc : Fld Z h0 a1 "java/lang/String" "coder" "B" (.int (0 : Int32))) (Fv : Fld Z h0 a1 "java/lang/String" "value" "[B" .null) :
    ConH l Z own_EL [a1] (⟨"java/lang/String", "<init>", "([C)V"⟩ : MethodName) jdk_42_method_3_code 2 none ({ frames := 2, cells := 4, slots := 8, locals := 29 } : Room) #[(.ref a1), (.ref a2)] h0 (fun v h L => v = none ∧ Fr n0 L ∧ Keep h0 h [a1] ∧ Fld Z h a1 "java/lang/String" "coder" "B" (.int (0 : Int32)) ∧ ∃ x, Fld Z h a1 "java/lang/String" "value" "[B" (.ref x) ∧ Afn Z h x .byte 0 (fun i => ([] : List Value).getD i (.int 0))) := by
  refine ConH.body (plainFor_of_name own_pn0) ?_
  intro pP eE sS vm0 mM bB mT cC s₁ hx hby hml hZ hown hnm hret hlk X0 e0 hS hs0 C0 sf0
  have hown : (sS.setVm vm0).vm.findClass "java/lang/String" = some mM.cls := hown
  have hml : cC.maxLocals = 2 := hml
  have N0 := Fr.nil n0
  have ef : entryFrame mM #[(.ref a1), (.ref a2)] 2 = mkF mM 0 #[.val (.ref a1), .val (.ref a2)] [] := by first | (simp [entryFrame, mkF, argsToLocals, Value.category]; done) | rfl
  rw [ef]
  show Goes pP eE bB _ (s₁.setTop (mkF mM 0 #[.val (.ref a1), .val (.ref a2)] []))
  refine Goes.step (fun _ kK => XS.aloadN X0.here hx rfl (hb hby own_d2_0) rfl rfl kK) ?_
  show Goes pP eE bB _ (s₁.setTop (mkF mM 1 #[.val (.ref a1), .val (.ref a2)] [(.ref a1)]))
  refine Goes.step (fun _ kK => XS.aloadN X0.here hx rfl (hb hby own_d2_1) rfl rfl kK) ?_
  show Goes pP eE bB _ (s₁.setTop (mkF mM 2 #[.val (.ref a1), .val (.ref a2)] [(.ref a2), (.ref a1)]))
  refine Goes.step (fun _ kK => XS.iconst X0.here hx rfl (hb hby own_d2_2) kK) ?_
  show Goes pP eE bB _ (s₁.setTop (mkF mM 3 #[.val (.ref a1), .val (.ref a2)] [(.int (0 : Int32)), (.ref a2), (.ref a1)]))
  refine Goes.step (fun _ kK => XS.aloadN X0.here hx rfl (hb hby own_d2_3) rfl rfl kK) ?_
  show Goes pP eE bB _ (s₁.setTop (mkF mM 4 #[.val (.ref a1), .val (.ref a2)] [(.ref a2), (.int (0 : Int32)), (.ref a2), (.ref a1)]))
  refine Goes.alen X0 hx hZ e0 A2 (z := (0 : Int32)) (by decide) (g := (mkF mM 4 #[.val (.ref a1), .val (.ref a2)] [(.ref a2), (.int (0 : Int32)), (.ref a2), (.ref a1)])) rfl rfl (hb hby own_d2_4) ?_
  show Goes pP eE bB _ (s₁.setTop (mkF mM 5 #[.val (.ref a1), .val (.ref a2)] [(.int (0 : Int32)), (.int (0 : Int32)), (.ref a2), (.ref a1)]))
  refine Goes.step (fun _ kK => XS.aconstNull X0.here hx rfl (hb hby own_d2_5) kK) ?_
  show Goes pP eE bB _ (s₁.setTop (mkF mM 6 #[.val (.ref a1), .val (.ref a2)] [.null, (.int (0 : Int32)), (.int (0 : Int32)), (.ref a2), (.ref a1)]))
  refine Goes.callIH X0 hx hZ rfl hown (hw _ (List.mem_of_getElem? (i := 11) rfl)) (hw _ (List.mem_of_getElem? (i := 12) rfl)) (hw _ (List.mem_of_getElem? (i := 14) rfl)) (hw _ (List.mem_of_getElem? (i := 6) rfl)) (by decide) e0 hS (Nat.le_refl h0.size) (own_hEL hw) C0 (allS ⟨own_ltE E1, (sf0 _ (List.mem_of_getElem? (i := 0) rfl))⟩ all0) (rmS4_0 l Z a0 hw a1 a2 h0 n0 Z0 _ A2 E1 g1 Fc Fv) (W := 0) (by decide) (by decide) (by decide) (by decide) (g := (mkF mM 6 #[.val (.ref a1), .val (.ref a2)] [.null, (.int (0 : Int32)), (.int (0 : Int32)), (.ref a2), (.ref a1)])) rfl (by rw [hml]; rfl) (rest := []) own_pd0 rfl rfl (by show 2 * 0 + _ ≤ _; exact Nat.le_of_eq rfl) (hb hby own_d2_6) ?_
  intro v_1 T_1 L_1 RB_1 gr_1 hQ_1
  obtain ⟨⟨X_1, hS, hZ, hown⟩, CC_1⟩ := RB_1
  generalize e_1 : T_1.heap = h_1 at hQ_1
  obtain ⟨rfl, N_1q, K_1, F_1c, b_1, F_1v, A_1⟩ := hQ_1
  have N_1 := Fr.app N0 N_1q
  have hk_1 : T_1.heap.size ≤ h_1.size := Nat.le_of_eq (by rw [e_1])
  rw [e_1] at CC_1
  have u_2 := C0.trans CC_1
  show Goes pP eE bB _ (T_1.setTop (mkF mM 9 #[.val (.ref a1), .val (.ref a2)] []))
  refine Goes.ret0H X_1 hS (Nat.le_trans hk_1 (Nat.le_of_eq (by rw [e_1]))) (own_atT X_1 hZ (own_hEL hw) e_1 hs0 u_2) hx hlk hret (hb hby own_d2_9) (by decide) (by decide) ?_
  have u_3 := (Keep.refl h0 [a1]).trans K_1 (allS (Or.inl (List.mem_of_getElem? (i := 0) rfl)) all0)
  exact ⟨rfl, N_1, by rw [e_1]; exact u_3, by rw [e_1]; exact F_1c, b_1, by rw [e_1]; exact F_1v, by rw [e_1]; exact A_1⟩
set_option maxRecDepth 65536 in
set_option maxHeartbeats 40000000 in
theorem rmS2_1 (l : Launch) (Z : State) (a0 : Array Value) (hw : ∀ d ∈ tables_1, d.before a0 Z = true) (a1 a3 : Addr) (c0 : Int32) (h0 : Heap) (n0 : Nat) (Z0 : n0 ≤ h0.size) (f fb : Nat → Value) (A1 : Afn Z h0 a1 .char 1 f) (A3 : Afn Z h0 a3 .byte 1 fb) (g3 : n0 ≤ a3) (d13 : a1 ≠ a3) (hf0 : f 0 = .int c0) (hc0 : ¬ ((255 : Int32) < c0)) :
    Con l Z (⟨"java/lang/StringUTF16", "compress", "([CI[BII)I"⟩ : MethodName) jdk_52_method_21_code 7 (some .int) ({ frames := 0, cells := 0, slots := 0, locals := 0 } : Room) #[(.ref a1), (.int (0 : Int32)), (.ref a3), (.int (0 : Int32)), (.int (1 : Int32))] h0 (fun v h L => v = some (.int (1 : Int32)) ∧ Fr n0 L ∧ Keep h0 h [a3] ∧ Afn Z h a3 .byte 1 (own_bs [c0])) := by
  refine Con.body (plainFor_of_name own_pn1) ?_
  intro pP eE sS mM bB mT cC s₁ hx hby hml hZ hown hnm hret hlk X0 e0
  have hown : sS.vm.findClass "java/lang/StringUTF16" = some mM.cls := hown
  have hml : cC.maxLocals = 7 := hml
  have N0 := Fr.nil n0
  have ef : entryFrame mM #[(.ref a1), (.int (0 : Int32)), (.ref a3), (.int (0 : Int32)), (.int (1 : Int32))] 7 = mkF mM 0 #[.val (.ref a1), .val (.int (0 : Int32)), .val (.ref a3), .val (.int (0 : Int32)), .val (.int (1 : Int32)), .unset, .unset] [] := by first | (simp [entryFrame, mkF, argsToLocals, Value.category]; done) | rfl
  rw [ef]
  show Goes pP eE bB _ (s₁.setTop (mkF mM 0 #[.val (.ref a1), .val (.int (0 : Int32)), .val (.ref a3), .val (.int (0 : Int32)), .val (.int (1 : Int32)), .unset, .unset] []))
  refine Goes.step (fun _ kK => XS.iconst X0.here hx rfl (hb hby own_d6_0) kK) ?_
  show Goes pP eE bB _ (s₁.setTop (mkF mM 1 #[.val (.ref a1), .val (.int (0 : Int32)), .val (.ref a3), .val (.int (0 : Int32)), .val (.int (1 : Int32)), .unset, .unset] [(.int (0 : Int32))]))
  refine Goes.step (fun _ kK => XS.istore X0.here hx rfl (hb hby own_d6_1) rfl (l' := #[.val (.ref a1), .val (.int (0 : Int32)), .val (.ref a3), .val (.int (0 : Int32)), .val (.int (1 : Int32)), .val (.int (0 : Int32)), .unset]) rfl kK) ?_
  show Goes pP eE bB _ (s₁.setTop (mkF mM 3 #[.val (.ref a1), .val (.int (0 : Int32)), .val (.ref a3), .val (.int (0 : Int32)), .val (.int (1 : Int32)), .val (.int (0 : Int32)), .unset] []))
  refine Goes.step (fun _ kK => XS.iload X0.here hx rfl (hb hby own_d6_3) rfl kK) ?_
  show Goes pP eE bB _ (s₁.setTop (mkF mM 5 #[.val (.ref a1), .val (.int (0 : Int32)), .val (.ref a3), .val (.int (0 : Int32)), .val (.int (1 : Int32)), .val (.int (0 : Int32)), .unset] [(.int (0 : Int32))]))
  refine Goes.step (fun _ kK => XS.iload X0.here hx rfl (hb hby own_d6_5) rfl kK) ?_
  show Goes pP eE bB _ (s₁.setTop (mkF mM 7 #[.val (.ref a1), .val (.int (0 : Int32)), .val (.ref a3), .val (.int (0 : Int32)), .val (.int (1 : Int32)), .val (.int (0 : Int32)), .unset] [(.int (1 : Int32)), (.int (0 : Int32))]))
  refine Goes.step (fun _ kK => XS.icmpNo X0.here hx rfl (hb hby own_d6_7) rfl (tlt (by decide)).2.1 kK) ?_
  show Goes pP eE bB _ (s₁.setTop (mkF mM 10 #[.val (.ref a1), .val (.int (0 : Int32)), .val (.ref a3), .val (.int (0 : Int32)), .val (.int (1 : Int32)), .val (.int (0 : Int32)), .unset] []))
  refine Goes.step (fun _ kK => XS.aloadN X0.here hx rfl (hb hby own_d6_10) rfl rfl kK) ?_
  show Goes pP eE bB _ (s₁.setTop (mkF mM 11 #[.val (.ref a1), .val (.int (0 : Int32)), .val (.ref a3), .val (.int (0 : Int32)), .val (.int (1 : Int32)), .val (.int (0 : Int32)), .unset] [(.ref a1)]))
  refine Goes.step (fun _ kK => XS.iloadN X0.here hx rfl (hb hby own_d6_11) rfl kK) ?_
  show Goes pP eE bB _ (s₁.setTop (mkF mM 12 #[.val (.ref a1), .val (.int (0 : Int32)), .val (.ref a3), .val (.int (0 : Int32)), .val (.int (1 : Int32)), .val (.int (0 : Int32)), .unset] [(.int (0 : Int32)), (.ref a1)]))
  refine Goes.caload X0 hx hZ e0 A1 (i := 0) (by decide) (by decide) hf0 (g := (mkF mM 12 #[.val (.ref a1), .val (.int (0 : Int32)), .val (.ref a3), .val (.int (0 : Int32)), .val (.int (1 : Int32)), .val (.int (0 : Int32)), .unset] [(.int (0 : Int32)), (.ref a1)])) rfl rfl (hb hby own_d6_12) ?_
  show Goes pP eE bB _ (s₁.setTop (mkF mM 13 #[.val (.ref a1), .val (.int (0 : Int32)), .val (.ref a3), .val (.int (0 : Int32)), .val (.int (1 : Int32)), .val (.int (0 : Int32)), .unset] [(.int c0)]))
  refine Goes.step (fun _ kK => XS.istore X0.here hx rfl (hb hby own_d6_13) rfl (l' := #[.val (.ref a1), .val (.int (0 : Int32)), .val (.ref a3), .val (.int (0 : Int32)), .val (.int (1 : Int32)), .val (.int (0 : Int32)), .val (.int c0)]) rfl kK) ?_
  show Goes pP eE bB _ (s₁.setTop (mkF mM 15 #[.val (.ref a1), .val (.int (0 : Int32)), .val (.ref a3), .val (.int (0 : Int32)), .val (.int (1 : Int32)), .val (.int (0 : Int32)), .val (.int c0)] []))
  refine Goes.step (fun _ kK => XS.iload X0.here hx rfl (hb hby own_d6_15) rfl kK) ?_
  show Goes pP eE bB _ (s₁.setTop (mkF mM 17 #[.val (.ref a1), .val (.int (0 : Int32)), .val (.ref a3), .val (.int (0 : Int32)), .val (.int (1 : Int32)), .val (.int (0 : Int32)), .val (.int c0)] [(.int c0)]))
  refine Goes.step (fun _ kK => XS.sipush X0.here hx rfl (hb hby own_d6_17) kK) ?_
  show Goes pP eE bB _ (s₁.setTop (mkF mM 20 #[.val (.ref a1), .val (.int (0 : Int32)), .val (.ref a3), .val (.int (0 : Int32)), .val (.int (1 : Int32)), .val (.int (0 : Int32)), .val (.int c0)] [(.int (255 : Int32)), (.int c0)]))
  have hb_1 : ¬ ((255 : Int32) < c0) := hc0
  refine Goes.step (fun _ kK => XS.icmpYes X0.here hx rfl (pc0 := 20) (pc' := 26) rfl (hb hby own_d6_20) rfl (flt hb_1).2.2.2 (by decide) (by decide) kK) ?_
  show Goes pP eE bB _ (s₁.setTop (mkF mM 26 #[.val (.ref a1), .val (.int (0 : Int32)), .val (.ref a3), .val (.int (0 : Int32)), .val (.int (1 : Int32)), .val (.int (0 : Int32)), .val (.int c0)] []))
  refine Goes.step (fun _ kK => XS.aloadN X0.here hx rfl (hb hby own_d6_26) rfl rfl kK) ?_
  show Goes pP eE bB _ (s₁.setTop (mkF mM 27 #[.val (.ref a1), .val (.int (0 : Int32)), .val (.ref a3), .val (.int (0 : Int32)), .val (.int (1 : Int32)), .val (.int (0 : Int32)), .val (.int c0)] [(.ref a3)]))
  refine Goes.step (fun _ kK => XS.iloadN X0.here hx rfl (hb hby own_d6_27) rfl kK) ?_
  show Goes pP eE bB _ (s₁.setTop (mkF mM 28 #[.val (.ref a1), .val (.int (0 : Int32)), .val (.ref a3), .val (.int (0 : Int32)), .val (.int (1 : Int32)), .val (.int (0 : Int32)), .val (.int c0)] [(.int (0 : Int32)), (.ref a3)]))
  refine Goes.step (fun _ kK => XS.iload X0.here hx rfl (hb hby own_d6_28) rfl kK) ?_
  show Goes pP eE bB _ (s₁.setTop (mkF mM 30 #[.val (.ref a1), .val (.int (0 : Int32)), .val (.ref a3), .val (.int (0 : Int32)), .val (.int (1 : Int32)), .val (.int (0 : Int32)), .val (.int c0)] [(.int c0), (.int (0 : Int32)), (.ref a3)]))
  refine Goes.step (fun _ kK => XS.i2b X0.here hx rfl (hb hby own_d6_30) rfl kK) ?_
  show Goes pP eE bB _ (s₁.setTop (mkF mM 31 #[.val (.ref a1), .val (.int (0 : Int32)), .val (.ref a3), .val (.int (0 : Int32)), .val (.int (1 : Int32)), .val (.int (0 : Int32)), .val (.int c0)] [(.int (c0.toInt8.toInt32)), (.int (0 : Int32)), (.ref a3)]))
  refine Goes.bastore X0 hx hZ e0 A3 (i := 0) (by decide) (by decide) (g := (mkF mM 31 #[.val (.ref a1), .val (.int (0 : Int32)), .val (.ref a3), .val (.int (0 : Int32)), .val (.int (1 : Int32)), .val (.int (0 : Int32)), .val (.int c0)] [(.int (c0.toInt8.toInt32)), (.int (0 : Int32)), (.ref a3)])) rfl rfl (hb hby own_d6_31) ?_
  intro T_2 h_2 X_2 e_2 W_2 A_2
  have N_2 := Fr.snoc X_2 N0 g3
  show Goes pP eE bB _ (T_2.setTop (mkF mM 32 #[.val (.ref a1), .val (.int (0 : Int32)), .val (.ref a3), .val (.int (0 : Int32)), .val (.int (1 : Int32)), .val (.int (0 : Int32)), .val (.int c0)] []))
  refine Goes.step (fun _ kK => XS.iinc X_2.here hx rfl (hb hby own_d6_32) rfl (l' := #[.val (.ref a1), .val (.int ((0 : Int32) + (1 : Int32))), .val (.ref a3), .val (.int (0 : Int32)), .val (.int (1 : Int32)), .val (.int (0 : Int32)), .val (.int c0)]) rfl kK) ?_
  show Goes pP eE bB _ (T_2.setTop (mkF mM 35 #[.val (.ref a1), .val (.int ((0 : Int32) + (1 : Int32))), .val (.ref a3), .val (.int (0 : Int32)), .val (.int (1 : Int32)), .val (.int (0 : Int32)), .val (.int c0)] []))
  refine Goes.step (fun _ kK => XS.iinc X_2.here hx rfl (hb hby own_d6_35) rfl (l' := #[.val (.ref a1), .val (.int ((0 : Int32) + (1 : Int32))), .val (.ref a3), .val (.int ((0 : Int32) + (1 : Int32))), .val (.int (1 : Int32)), .val (.int (0 : Int32)), .val (.int c0)]) rfl kK) ?_
  show Goes pP eE bB _ (T_2.setTop (mkF mM 38 #[.val (.ref a1), .val (.int ((0 : Int32) + (1 : Int32))), .val (.ref a3), .val (.int ((0 : Int32) + (1 : Int32))), .val (.int (1 : Int32)), .val (.int (0 : Int32)), .val (.int c0)] []))
  refine Goes.step (fun _ kK => XS.iinc X_2.here hx rfl (hb hby own_d6_38) rfl (l' := #[.val (.ref a1), .val (.int ((0 : Int32) + (1 : Int32))), .val (.ref a3), .val (.int ((0 : Int32) + (1 : Int32))), .val (.int (1 : Int32)), .val (.int ((0 : Int32) + (1 : Int32))), .val (.int c0)]) rfl kK) ?_
  show Goes pP eE bB _ (T_2.setTop (mkF mM 41 #[.val (.ref a1), .val (.int ((0 : Int32) + (1 : Int32))), .val (.ref a3), .val (.int ((0 : Int32) + (1 : Int32))), .val (.int (1 : Int32)), .val (.int ((0 : Int32) + (1 : Int32))), .val (.int c0)] []))
  refine Goes.step (fun _ kK => XS.goto X_2.here hx rfl (pc0 := 41) (pc' := 3) rfl (hb hby own_d6_41) (by decide) (by decide) kK) ?_
  show Goes pP eE bB _ (T_2.setTop (mkF mM 3 #[.val (.ref a1), .val (.int ((0 : Int32) + (1 : Int32))), .val (.ref a3), .val (.int ((0 : Int32) + (1 : Int32))), .val (.int (1 : Int32)), .val (.int ((0 : Int32) + (1 : Int32))), .val (.int c0)] []))
  refine Goes.step (fun _ kK => XS.iload X_2.here hx rfl (hb hby own_d6_3) rfl kK) ?_
  show Goes pP eE bB _ (T_2.setTop (mkF mM 5 #[.val (.ref a1), .val (.int ((0 : Int32) + (1 : Int32))), .val (.ref a3), .val (.int ((0 : Int32) + (1 : Int32))), .val (.int (1 : Int32)), .val (.int ((0 : Int32) + (1 : Int32))), .val (.int c0)] [(.int ((0 : Int32) + (1 : Int32)))]))
  refine Goes.step (fun _ kK => XS.iload X_2.here hx rfl (hb hby own_d6_5) rfl kK) ?_
  show Goes pP eE bB _ (T_2.setTop (mkF mM 7 #[.val (.ref a1), .val (.int ((0 : Int32) + (1 : Int32))), .val (.ref a3), .val (.int ((0 : Int32) + (1 : Int32))), .val (.int (1 : Int32)), .val (.int ((0 : Int32) + (1 : Int32))), .val (.int c0)] [(.int (1 : Int32)), (.int ((0 : Int32) + (1 : Int32)))]))
  refine Goes.step (fun _ kK => XS.icmpYes X_2.here hx rfl (pc0 := 7) (pc' := 44) rfl (hb hby own_d6_7) rfl (flt (by decide)).2.1 (by decide) (by decide) kK) ?_
  show Goes pP eE bB _ (T_2.setTop (mkF mM 44 #[.val (.ref a1), .val (.int ((0 : Int32) + (1 : Int32))), .val (.ref a3), .val (.int ((0 : Int32) + (1 : Int32))), .val (.int (1 : Int32)), .val (.int ((0 : Int32) + (1 : Int32))), .val (.int c0)] []))
  refine Goes.step (fun _ kK => XS.iload X_2.here hx rfl (hb hby own_d6_44) rfl kK) ?_
  show Goes pP eE bB _ (T_2.setTop (mkF mM 46 #[.val (.ref a1), .val (.int ((0 : Int32) + (1 : Int32))), .val (.ref a3), .val (.int ((0 : Int32) + (1 : Int32))), .val (.int (1 : Int32)), .val (.int ((0 : Int32) + (1 : Int32))), .val (.int c0)] [(.int (1 : Int32))]))
  refine Goes.ret X_2 hx hlk hret rfl (Or.inl ⟨rfl, Or.inl rfl, _, rfl⟩) (hb hby own_d6_46) (by decide) (by decide) ?_
  have u_3 := (Keep.refl h0 [a3]).wr W_2 (Or.inl (List.mem_of_getElem? (i := 0) rfl))
  exact ⟨rfl, N_2, by rw [e_2]; exact u_3, by rw [e_2]; exact (A_2).congr (fun i hi => by obtain rfl : i = 0 := (by omega); simp [own_bs])⟩
set_option maxRecDepth 65536 in
set_option maxHeartbeats 40000000 in
theorem rmS1_1 (l : Launch) (Z : State) (a0 : Array Value) (hw : ∀ d ∈ tables_1, d.before a0 Z = true) (a1 : Addr) (c0 : Int32) (h0 : Heap) (n0 : Nat) (Z0 : n0 ≤ h0.size) (f : Nat → Value) (A1 : Afn Z h0 a1 .char 1 f) (hf0 : f 0 = .int c0) (hc0 : ¬ ((255 : Int32) < c0)) :
    Con l Z (⟨"java/lang/StringUTF16", "compress", "([CII)[B"⟩ : MethodName) jdk_52_method_16_code 6 (some (.array .byte)) ({ frames := 1, cells := 1, slots := 1, locals := 18 } : Room) #[(.ref a1), (.int (0 : Int32)), (.int (1 : Int32))] h0 (fun v h L => ∃ x, v = some (.ref x) ∧ Fr n0 L ∧ Keep h0 h [] ∧ h0.size ≤ x ∧ Afn Z h x .byte 1 (own_bs [c0]) ∧ Exa Z h x "[B") := by
  refine Con.body (plainFor_of_name own_pn1) ?_
  intro pP eE sS mM bB mT cC s₁ hx hby hml hZ hown hnm hret hlk X0 e0
  have hown : sS.vm.findClass "java/lang/StringUTF16" = some mM.cls := hown
  have hml : cC.maxLocals = 6 := hml
  have N0 := Fr.nil n0
  have ef : entryFrame mM #[(.ref a1), (.int (0 : Int32)), (.int (1 : Int32))] 6 = mkF mM 0 #[.val (.ref a1), .val (.int (0 : Int32)), .val (.int (1 : Int32)), .unset, .unset, .unset] [] := by first | (simp [entryFrame, mkF, argsToLocals, Value.category]; done) | rfl
  rw [ef]
  show Goes pP eE bB _ (s₁.setTop (mkF mM 0 #[.val (.ref a1), .val (.int (0 : Int32)), .val (.int (1 : Int32)), .unset, .unset, .unset] []))
  refine Goes.step (fun _ kK => XS.iloadN X0.here hx rfl (hb hby own_d5_0) rfl kK) ?_
  show Goes pP eE bB _ (s₁.setTop (mkF mM 1 #[.val (.ref a1), .val (.int (0 : Int32)), .val (.int (1 : Int32)), .unset, .unset, .unset] [(.int (1 : Int32))]))
  obtain ⟨T_1, h_1, k_1, X_1, e_1, E_1, A_1, M_1, st_1⟩ := newPE X0 hx hZ (hw _ (List.mem_of_getElem? (i := 23) rfl)) e0 (g := (mkF mM 1 #[.val (.ref a1), .val (.int (0 : Int32)), .val (.int (1 : Int32)), .unset, .unset, .unset] [(.int (1 : Int32))])) rfl (hb hby own_d5_1) rfl (by decide) (cap := 1) (by decide) (by decide) (by decide) (by decide) (ad := "[B") rfl
  obtain ⟨b_1, g_1⟩ : ∃ z, z = h0.size := ⟨_, rfl⟩
  rw [← g_1] at A_1 M_1 st_1
  have u_2 : a1 < b_1 := Nat.lt_of_lt_of_le (A1).lt (Nat.le_of_eq g_1.symm)
  have u_3 : n0 ≤ b_1 := Nat.le_trans Z0 (Nat.le_of_eq g_1.symm)
  have u_4 : h0.size ≤ b_1 := Nat.le_trans ((Keep.refl h0 [])).1 (Nat.le_of_eq g_1.symm)
  have u_5 : Afn Z h_1 b_1 .byte 1 (fun _ => (.int (0 : Int32))) := Afn.new (n := 1) A_1 (by decide)
  refine Goes.step st_1 ?_
  show Goes pP eE bB _ (T_1.setTop (mkF mM 3 #[.val (.ref a1), .val (.int (0 : Int32)), .val (.int (1 : Int32)), .unset, .unset, .unset] [(.ref b_1)]))
  refine Goes.step (fun _ kK => XS.astoreN X_1.here hx rfl (hb hby own_d5_3) rfl rfl (l' := #[.val (.ref a1), .val (.int (0 : Int32)), .val (.int (1 : Int32)), .val (.ref b_1), .unset, .unset]) rfl kK) ?_
  show Goes pP eE bB _ (T_1.setTop (mkF mM 4 #[.val (.ref a1), .val (.int (0 : Int32)), .val (.int (1 : Int32)), .val (.ref b_1), .unset, .unset] []))
  refine Goes.step (fun _ kK => XS.aloadN X_1.here hx rfl (hb hby own_d5_4) rfl rfl kK) ?_
  show Goes pP eE bB _ (T_1.setTop (mkF mM 5 #[.val (.ref a1), .val (.int (0 : Int32)), .val (.int (1 : Int32)), .val (.ref b_1), .unset, .unset] [(.ref a1)]))
  refine Goes.step (fun _ kK => XS.iloadN X_1.here hx rfl (hb hby own_d5_5) rfl kK) ?_
  show Goes pP eE bB _ (T_1.setTop (mkF mM 6 #[.val (.ref a1), .val (.int (0 : Int32)), .val (.int (1 : Int32)), .val (.ref b_1), .unset, .unset] [(.int (0 : Int32)), (.ref a1)]))
  refine Goes.step (fun _ kK => XS.aloadN X_1.here hx rfl (hb hby own_d5_6) rfl rfl kK) ?_
  show Goes pP eE bB _ (T_1.setTop (mkF mM 7 #[.val (.ref a1), .val (.int (0 : Int32)), .val (.int (1 : Int32)), .val (.ref b_1), .unset, .unset] [(.ref b_1), (.int (0 : Int32)), (.ref a1)]))
  refine Goes.step (fun _ kK => XS.iconst X_1.here hx rfl (hb hby own_d5_7) kK) ?_
  show Goes pP eE bB _ (T_1.setTop (mkF mM 8 #[.val (.ref a1), .val (.int (0 : Int32)), .val (.int (1 : Int32)), .val (.ref b_1), .unset, .unset] [(.int (0 : Int32)), (.ref b_1), (.int (0 : Int32)), (.ref a1)]))
  refine Goes.step (fun _ kK => XS.iloadN X_1.here hx rfl (hb hby own_d5_8) rfl kK) ?_
  show Goes pP eE bB _ (T_1.setTop (mkF mM 9 #[.val (.ref a1), .val (.int (0 : Int32)), .val (.int (1 : Int32)), .val (.ref b_1), .unset, .unset] [(.int (1 : Int32)), (.int (0 : Int32)), (.ref b_1), (.int (0 : Int32)), (.ref a1)]))
  have u_6 := Nat.le_trans Z0 E_1.1
  have u_7 := A1.ext E_1
  refine Goes.callS X_1 hx hZ hown (hw _ (List.mem_of_getElem? (i := 24) rfl)) (hw _ (List.mem_of_getElem? (i := 25) rfl)) (hw _ (List.mem_of_getElem? (i := 21) rfl)) (hw _ (List.mem_of_getElem? (i := 26) rfl)) (by decide) e_1 (rmS2_1 l Z a0 hw a1 b_1 c0 h_1 n0 u_6 _ _ u_7 u_5 u_3 (Nat.ne_of_lt u_2) hf0 hc0) (W := 0) (by decide) (by decide) (by decide) (by decide) (g := (mkF mM 9 #[.val (.ref a1), .val (.int (0 : Int32)), .val (.int (1 : Int32)), .val (.ref b_1), .unset, .unset] [(.int (1 : Int32)), (.int (0 : Int32)), (.ref b_1), (.int (0 : Int32)), (.ref a1)])) rfl (by rw [hml]; rfl) (rest := []) own_pd1 rfl rfl (by show 2 * 0 + _ ≤ _; exact Nat.le_of_eq rfl) (hb hby own_d5_9) ?_
  intro v_8 T_8 L_8 X_8 hQ_8
  generalize e_8 : T_8.heap = h_8 at hQ_8
  obtain ⟨rfl, N_8q, K_8, A_8⟩ := hQ_8
  have N_8 := Fr.app N0 N_8q
  show Goes pP eE bB _ (T_8.setTop (mkF mM 12 #[.val (.ref a1), .val (.int (0 : Int32)), .val (.int (1 : Int32)), .val (.ref b_1), .unset, .unset] [(.int (1 : Int32))]))
  refine Goes.step (fun _ kK => XS.istore X_8.here hx rfl (hb hby own_d5_12) rfl (l' := #[.val (.ref a1), .val (.int (0 : Int32)), .val (.int (1 : Int32)), .val (.ref b_1), .val (.int (1 : Int32)), .unset]) rfl kK) ?_
  show Goes pP eE bB _ (T_8.setTop (mkF mM 14 #[.val (.ref a1), .val (.int (0 : Int32)), .val (.int (1 : Int32)), .val (.ref b_1), .val (.int (1 : Int32)), .unset] []))
  refine Goes.step (fun _ kK => XS.iload X_8.here hx rfl (hb hby own_d5_14) rfl kK) ?_
  show Goes pP eE bB _ (T_8.setTop (mkF mM 16 #[.val (.ref a1), .val (.int (0 : Int32)), .val (.int (1 : Int32)), .val (.ref b_1), .val (.int (1 : Int32)), .unset] [(.int (1 : Int32))]))
  refine Goes.step (fun _ kK => XS.iloadN X_8.here hx rfl (hb hby own_d5_16) rfl kK) ?_
  show Goes pP eE bB _ (T_8.setTop (mkF mM 17 #[.val (.ref a1), .val (.int (0 : Int32)), .val (.int (1 : Int32)), .val (.ref b_1), .val (.int (1 : Int32)), .unset] [(.int (1 : Int32)), (.int (1 : Int32))]))
  refine Goes.step (fun _ kK => XS.icmpYes X_8.here hx rfl (pc0 := 17) (pc' := 57) rfl (hb hby own_d5_17) rfl (teq (by decide)).1 (by decide) (by decide) kK) ?_
  show Goes pP eE bB _ (T_8.setTop (mkF mM 57 #[.val (.ref a1), .val (.int (0 : Int32)), .val (.int (1 : Int32)), .val (.ref b_1), .val (.int (1 : Int32)), .unset] []))
  refine Goes.step (fun _ kK => XS.aloadN X_8.here hx rfl (hb hby own_d5_57) rfl rfl kK) ?_
  show Goes pP eE bB _ (T_8.setTop (mkF mM 58 #[.val (.ref a1), .val (.int (0 : Int32)), .val (.int (1 : Int32)), .val (.ref b_1), .val (.int (1 : Int32)), .unset] [(.ref b_1)]))
  refine Goes.ret X_8 hx hlk hret rfl (Or.inr (Or.inr (Or.inr (Or.inr ⟨rfl, rfl, rfl⟩)))) (hb hby own_d5_58) (by decide) (by decide) ?_
  have u_9 := (Keep.refl h0 []).ext E_1
  have u_10 := u_9.trans K_8 (allS (Or.inr u_4) all0)
  have u_11 := M_1.keep K_8
  exact ⟨_, rfl, N_8, by rw [e_8]; exact u_10, u_4, by rw [e_8]; exact A_8, by rw [e_8]; exact u_11⟩
set_option maxRecDepth 65536 in
set_option maxHeartbeats 40000000 in
theorem rmS3_1 (l : Launch) (Z : State) (a0 : Array Value) (hw : ∀ d ∈ tables_1, d.before a0 Z = true) (a1 : Addr) (h0 : Heap) (n0 : Nat) (Z0 : n0 ≤ h0.size) (f : Nat → Value) (A1 : Afn Z h0 a1 .byte 1 f) :
    Con l Z (⟨"java/lang/StringUTF16", "coderFromArrayLen", "([BI)B"⟩ : MethodName) jdk_52_method_15_code 2 (some .byte) ({ frames := 0, cells := 0, slots := 0, locals := 0 } : Room) #[(.ref a1), (.int (1 : Int32))] h0 (fun v h L => v = some (.int (0 : Int32)) ∧ Fr n0 L ∧ h = h0) := by
  refine Con.body (plainFor_of_name own_pn1) ?_
  intro pP eE sS mM bB mT cC s₁ hx hby hml hZ hown hnm hret hlk X0 e0
  have hown : sS.vm.findClass "java/lang/StringUTF16" = some mM.cls := hown
  have hml : cC.maxLocals = 2 := hml
  have N0 := Fr.nil n0
  have ef : entryFrame mM #[(.ref a1), (.int (1 : Int32))] 2 = mkF mM 0 #[.val (.ref a1), .val (.int (1 : Int32))] [] := by first | (simp [entryFrame, mkF, argsToLocals, Value.category]; done) | rfl
  rw [ef]
  show Goes pP eE bB _ (s₁.setTop (mkF mM 0 #[.val (.ref a1), .val (.int (1 : Int32))] []))
  refine Goes.step (fun _ kK => XS.iloadN X0.here hx rfl (hb hby own_d7_0) rfl kK) ?_
  show Goes pP eE bB _ (s₁.setTop (mkF mM 1 #[.val (.ref a1), .val (.int (1 : Int32))] [(.int (1 : Int32))]))
  refine Goes.step (fun _ kK => XS.aloadN X0.here hx rfl (hb hby own_d7_1) rfl rfl kK) ?_
  show Goes pP eE bB _ (s₁.setTop (mkF mM 2 #[.val (.ref a1), .val (.int (1 : Int32))] [(.ref a1), (.int (1 : Int32))]))
  refine Goes.alen X0 hx hZ e0 A1 (z := (1 : Int32)) (by decide) (g := (mkF mM 2 #[.val (.ref a1), .val (.int (1 : Int32))] [(.ref a1), (.int (1 : Int32))])) rfl rfl (hb hby own_d7_2) ?_
  show Goes pP eE bB _ (s₁.setTop (mkF mM 3 #[.val (.ref a1), .val (.int (1 : Int32))] [(.int (1 : Int32)), (.int (1 : Int32))]))
  refine Goes.step (fun _ kK => XS.isub X0.here hx rfl (hb hby own_d7_3) rfl kK) ?_
  show Goes pP eE bB _ (s₁.setTop (mkF mM 4 #[.val (.ref a1), .val (.int (1 : Int32))] [(.int ((1 : Int32) - (1 : Int32)))]))
  refine Goes.step (fun _ kK => XS.bipush X0.here hx rfl (hb hby own_d7_4) kK) ?_
  show Goes pP eE bB _ (s₁.setTop (mkF mM 6 #[.val (.ref a1), .val (.int (1 : Int32))] [(.int (31 : Int32)), (.int ((1 : Int32) - (1 : Int32)))]))
  refine Goes.step (fun _ kK => XS.iushr X0.here hx rfl (hb hby own_d7_6) rfl kK) ?_
  show Goes pP eE bB _ (s₁.setTop (mkF mM 7 #[.val (.ref a1), .val (.int (1 : Int32))] [(.int ((((1 : Int32) - (1 : Int32)).toUInt32 >>> ((31 : Int32) &&& 31).toUInt32).toInt32))]))
  refine Goes.step (fun _ kK => XS.i2b X0.here hx rfl (hb hby own_d7_7) rfl kK) ?_
  show Goes pP eE bB _ (s₁.setTop (mkF mM 8 #[.val (.ref a1), .val (.int (1 : Int32))] [(.int (((((1 : Int32) - (1 : Int32)).toUInt32 >>> ((31 : Int32) &&& 31).toUInt32).toInt32).toInt8.toInt32))]))
  refine Goes.retN X0 hx hlk (t := .byte) hret (by simp) (hb hby own_d7_8) (by decide) (by decide) ?_
  exact ⟨rfl, N0, e0⟩
set_option maxRecDepth 65536 in
set_option maxHeartbeats 40000000 in
theorem rmS4_1 (l : Launch) (Z : State) (a0 : Array Value) (hw : ∀ d ∈ tables_1, d.before a0 Z = true) (a1 a2 : Addr) (c0 : Int32) (cs : Int32) (h0 : Heap) (n0 : Nat) (Z0 : n0 ≤ h0.size) (Scs : Sta Z Z.heap "java/lang/String" "COMPACT_STRINGS" "Z" (.int cs)) (hcs : ¬ (cs = (0 : Int32))) (O0 : Old Z n0 h0) (f : Nat → Value) (A2 : Afn Z h0 a2 .char 1 f) (E1 : Exa Z h0 a1 "java/lang/String") (g1 : n0 ≤ a1) (Fc : Fld Z h0 a1 "java/lang/String" "coder" "B" (.int (0 : Int32))) (Fv : Fld Z h0 a1 "java/lang/String" "value" "[B" .null) (hf0 : f 0 = .int c0) (hc0 : ¬ ((255 : Int32) < c0)) :
    Con l Z (⟨"java/lang/String", "<init>", "([CIILjava/lang/Void;)V"⟩ : MethodName) jdk_42_method_149_code 6 none ({ frames := 2, cells := 1, slots := 1, locals := 35 } : Room) #[(.ref a1), (.ref a2), (.int (0 : Int32)), (.int (1 : Int32)), .null] h0 (fun v h L => v = none ∧ Fr n0 L ∧ Keep h0 h [a1] ∧ Fld Z h a1 "java/lang/String" "coder" "B" (.int (0 : Int32)) ∧ ∃ x, Fld Z h a1 "java/lang/String" "value" "[B" (.ref x) ∧ h0.size ≤ x ∧ Afn Z h x .byte 1 (own_bs [c0]) ∧ Exa Z h x "[B") := by
  refine Con.body (plainFor_of_name own_pn0) ?_
  intro pP eE sS mM bB mT cC s₁ hx hby hml hZ hown hnm hret hlk X0 e0
  have hown : sS.vm.findClass "java/lang/String" = some mM.cls := hown
  have hml : cC.maxLocals = 6 := hml
  have N0 := Fr.nil n0
  have ef : entryFrame mM #[(.ref a1), (.ref a2), (.int (0 : Int32)), (.int (1 : Int32)), .null] 6 = mkF mM 0 #[.val (.ref a1), .val (.ref a2), .val (.int (0 : Int32)), .val (.int (1 : Int32)), .val .null, .unset] [] := by first | (simp [entryFrame, mkF, argsToLocals, Value.category]; done) | rfl
  rw [ef]
  show Goes pP eE bB _ (s₁.setTop (mkF mM 0 #[.val (.ref a1), .val (.ref a2), .val (.int (0 : Int32)), .val (.int (1 : Int32)), .val .null, .unset] []))
  refine Goes.step (fun _ kK => XS.aloadN X0.here hx rfl (hb hby own_d3_0) rfl rfl kK) ?_
  show Goes pP eE bB _ (s₁.setTop (mkF mM 1 #[.val (.ref a1), .val (.ref a2), .val (.int (0 : Int32)), .val (.int (1 : Int32)), .val .null, .unset] [(.ref a1)]))
  obtain ⟨T_1, X_1, e_1, st_1⟩ := initO X0 hx hZ hown (hw _ (List.mem_of_getElem? (i := 15) rfl)) (hw _ (List.mem_of_getElem? (i := 16) rfl)) (hw _ (List.mem_of_getElem? (i := 17) rfl)) e0 (g := (mkF mM 1 #[.val (.ref a1), .val (.ref a2), .val (.int (0 : Int32)), .val (.int (1 : Int32)), .val .null, .unset] [(.ref a1)])) rfl (by rw [hml]; rfl) rfl (hb hby own_d3_1) (by decide) (W := 0) (by show 2 * 0 + _ ≤ _; exact Nat.le_of_eq rfl) (by decide)
  refine Goes.step st_1 ?_
  show Goes pP eE bB _ (T_1.setTop (mkF mM 4 #[.val (.ref a1), .val (.ref a2), .val (.int (0 : Int32)), .val (.int (1 : Int32)), .val .null, .unset] []))
  refine Goes.step (fun _ kK => XS.iloadN X_1.here hx rfl (hb hby own_d3_4) rfl kK) ?_
  show Goes pP eE bB _ (T_1.setTop (mkF mM 5 #[.val (.ref a1), .val (.ref a2), .val (.int (0 : Int32)), .val (.int (1 : Int32)), .val .null, .unset] [(.int (1 : Int32))]))
  refine Goes.step (fun _ kK => XS.ifYes X_1.here hx rfl (pc0 := 5) (pc' := 27) rfl (hb hby own_d3_5) rfl ((if0 _ _).trans (feq (by decide)).2) (by decide) (by decide) kK) ?_
  show Goes pP eE bB _ (T_1.setTop (mkF mM 27 #[.val (.ref a1), .val (.ref a2), .val (.int (0 : Int32)), .val (.int (1 : Int32)), .val .null, .unset] []))
  obtain ⟨T_2, X_2, e_2, st_2⟩ := getS2 X_1 hx hZ hown (host := "") (Or.inl (hw _ (List.mem_of_getElem? (i := 18) rfl))) Via.refl e_1 (Scs.ext O0.2) (g := (mkF mM 27 #[.val (.ref a1), .val (.ref a2), .val (.int (0 : Int32)), .val (.int (1 : Int32)), .val .null, .unset] [])) rfl (hb hby own_d3_27)
  refine Goes.step st_2 ?_
  show Goes pP eE bB _ (T_2.setTop (mkF mM 30 #[.val (.ref a1), .val (.ref a2), .val (.int (0 : Int32)), .val (.int (1 : Int32)), .val .null, .unset] [(.int cs)]))
  have hb_3 : ¬ (cs = (0 : Int32)) := hcs
  refine Goes.step (fun _ kK => XS.ifNo X_2.here hx rfl (hb hby own_d3_30) rfl ((if0 _ _).trans (feq hb_3).1) kK) ?_
  show Goes pP eE bB _ (T_2.setTop (mkF mM 33 #[.val (.ref a1), .val (.ref a2), .val (.int (0 : Int32)), .val (.int (1 : Int32)), .val .null, .unset] []))
  refine Goes.step (fun _ kK => XS.aloadN X_2.here hx rfl (hb hby own_d3_33) rfl rfl kK) ?_
  show Goes pP eE bB _ (T_2.setTop (mkF mM 34 #[.val (.ref a1), .val (.ref a2), .val (.int (0 : Int32)), .val (.int (1 : Int32)), .val .null, .unset] [(.ref a2)]))
  refine Goes.step (fun _ kK => XS.iloadN X_2.here hx rfl (hb hby own_d3_34) rfl kK) ?_
  show Goes pP eE bB _ (T_2.setTop (mkF mM 35 #[.val (.ref a1), .val (.ref a2), .val (.int (0 : Int32)), .val (.int (1 : Int32)), .val .null, .unset] [(.int (0 : Int32)), (.ref a2)]))
  refine Goes.step (fun _ kK => XS.iloadN X_2.here hx rfl (hb hby own_d3_35) rfl kK) ?_
  show Goes pP eE bB _ (T_2.setTop (mkF mM 36 #[.val (.ref a1), .val (.ref a2), .val (.int (0 : Int32)), .val (.int (1 : Int32)), .val .null, .unset] [(.int (1 : Int32)), (.int (0 : Int32)), (.ref a2)]))
  refine Goes.callS X_2 hx hZ hown (hw _ (List.mem_of_getElem? (i := 19) rfl)) (hw _ (List.mem_of_getElem? (i := 20) rfl)) (hw _ (List.mem_of_getElem? (i := 21) rfl)) (hw _ (List.mem_of_getElem? (i := 22) rfl)) (by decide) e_2 (rmS1_1 l Z a0 hw a2 c0 h0 n0 Z0 _ A2 hf0 hc0) (W := 0) (by decide) (by decide) (by decide) (by decide) (g := (mkF mM 36 #[.val (.ref a1), .val (.ref a2), .val (.int (0 : Int32)), .val (.int (1 : Int32)), .val .null, .unset] [(.int (1 : Int32)), (.int (0 : Int32)), (.ref a2)])) rfl (by rw [hml]; rfl) (rest := []) own_pd2 rfl rfl (by show 2 * 0 + _ ≤ _; exact Nat.le_of_eq rfl) (hb hby own_d3_36) ?_
  intro v_4 T_4 L_4 X_4 hQ_4
  generalize e_4 : T_4.heap = h_4 at hQ_4
  obtain ⟨b_4, rfl, N_4q, K_4, s_4, A_4, M_4⟩ := hQ_4
  have N_4 := Fr.app N0 N_4q
  have u_5 : a2 < b_4 := Nat.lt_of_lt_of_le (A2).lt s_4
  have u_6 : a1 < b_4 := Nat.lt_of_lt_of_le (E1).lt s_4
  have u_7 : n0 ≤ b_4 := Nat.le_trans Z0 s_4
  have u_8 : h0.size ≤ b_4 := Nat.le_trans ((Keep.refl h0 [a1])).1 s_4
  show Goes pP eE bB _ (T_4.setTop (mkF mM 39 #[.val (.ref a1), .val (.ref a2), .val (.int (0 : Int32)), .val (.int (1 : Int32)), .val .null, .unset] [(.ref b_4)]))
  refine Goes.step (fun _ kK => XS.astore X_4.here hx rfl (hb hby own_d3_39) rfl rfl (l' := #[.val (.ref a1), .val (.ref a2), .val (.int (0 : Int32)), .val (.int (1 : Int32)), .val .null, .val (.ref b_4)]) rfl kK) ?_
  show Goes pP eE bB _ (T_4.setTop (mkF mM 41 #[.val (.ref a1), .val (.ref a2), .val (.int (0 : Int32)), .val (.int (1 : Int32)), .val .null, .val (.ref b_4)] []))
  refine Goes.step (fun _ kK => XS.aloadN X_4.here hx rfl (hb hby own_d3_41) rfl rfl kK) ?_
  show Goes pP eE bB _ (T_4.setTop (mkF mM 42 #[.val (.ref a1), .val (.ref a2), .val (.int (0 : Int32)), .val (.int (1 : Int32)), .val .null, .val (.ref b_4)] [(.ref a1)]))
  refine Goes.step (fun _ kK => XS.aload X_4.here hx rfl (hb hby own_d3_42) rfl rfl kK) ?_
  show Goes pP eE bB _ (T_4.setTop (mkF mM 44 #[.val (.ref a1), .val (.ref a2), .val (.int (0 : Int32)), .val (.int (1 : Int32)), .val .null, .val (.ref b_4)] [(.ref b_4), (.ref a1)]))
  refine Goes.step (fun _ kK => XS.iloadN X_4.here hx rfl (hb hby own_d3_44) rfl kK) ?_
  show Goes pP eE bB _ (T_4.setTop (mkF mM 45 #[.val (.ref a1), .val (.ref a2), .val (.int (0 : Int32)), .val (.int (1 : Int32)), .val .null, .val (.ref b_4)] [(.int (1 : Int32)), (.ref b_4), (.ref a1)]))
  have u_9 := Nat.le_trans Z0 K_4.1
  refine Goes.callS X_4 hx hZ hown (hw _ (List.mem_of_getElem? (i := 27) rfl)) (hw _ (List.mem_of_getElem? (i := 28) rfl)) (hw _ (List.mem_of_getElem? (i := 21) rfl)) (hw _ (List.mem_of_getElem? (i := 29) rfl)) (by decide) e_4 (rmS3_1 l Z a0 hw b_4 h_4 n0 u_9 _ A_4) (W := 1) (by decide) (by decide) (by decide) (by decide) (g := (mkF mM 45 #[.val (.ref a1), .val (.ref a2), .val (.int (0 : Int32)), .val (.int (1 : Int32)), .val .null, .val (.ref b_4)] [(.int (1 : Int32)), (.ref b_4), (.ref a1)])) rfl (by rw [hml]; rfl) (rest := [(.ref a1)]) own_pd3 rfl rfl (by show 2 * 0 + _ ≤ _; exact Nat.le_of_eq rfl) (hb hby own_d3_45) ?_
  intro v_10 T_10 L_10 X_10 hQ_10
  obtain ⟨rfl, N_10q, e_10⟩ := hQ_10
  have N_10 := Fr.app N_4 N_10q
  show Goes pP eE bB _ (T_10.setTop (mkF mM 48 #[.val (.ref a1), .val (.ref a2), .val (.int (0 : Int32)), .val (.int (1 : Int32)), .val .null, .val (.ref b_4)] [(.int (0 : Int32)), (.ref a1)]))
  have u_11 := Fc.keep K_4 nin0
  have u_12 := E1.keep K_4
  obtain ⟨T_13, h_13, X_13, e_13, W_13, st_13⟩ := putF X_10 hx hZ hown (host := "") (Or.inl (hw _ (List.mem_of_getElem? (i := 30) rfl))) Via.refl e_10 u_11 u_12 (Or.inr ⟨(hw _ (List.mem_of_getElem? (i := 31) rfl)), rfl, hnm⟩) (hw _ (List.mem_of_getElem? (i := 5) rfl)) (ty := .byte) (by decide) rfl rfl (g := (mkF mM 48 #[.val (.ref a1), .val (.ref a2), .val (.int (0 : Int32)), .val (.int (1 : Int32)), .val .null, .val (.ref b_4)] [(.int (0 : Int32)), (.ref a1)])) rfl rfl (hb hby own_d3_48)
  have u_14 := u_11.same W_13
  have N_13 := Fr.snoc X_13 N_10 g1
  refine Goes.step st_13 ?_
  show Goes pP eE bB _ (T_13.setTop (mkF mM 51 #[.val (.ref a1), .val (.ref a2), .val (.int (0 : Int32)), .val (.int (1 : Int32)), .val .null, .val (.ref b_4)] []))
  refine Goes.step (fun _ kK => XS.aloadN X_13.here hx rfl (hb hby own_d3_51) rfl rfl kK) ?_
  show Goes pP eE bB _ (T_13.setTop (mkF mM 52 #[.val (.ref a1), .val (.ref a2), .val (.int (0 : Int32)), .val (.int (1 : Int32)), .val .null, .val (.ref b_4)] [(.ref a1)]))
  refine Goes.step (fun _ kK => XS.aload X_13.here hx rfl (hb hby own_d3_52) rfl rfl kK) ?_
  show Goes pP eE bB _ (T_13.setTop (mkF mM 54 #[.val (.ref a1), .val (.ref a2), .val (.int (0 : Int32)), .val (.int (1 : Int32)), .val .null, .val (.ref b_4)] [(.ref b_4), (.ref a1)]))
  have u_15 := Fv.keep K_4 nin0
  have u_16 := u_15.other W_13 (Or.inr (slot_ne (Or.inr (hw _ (List.mem_of_getElem? (i := 33) rfl))) (Or.inr (hw _ (List.mem_of_getElem? (i := 31) rfl))) (by decide) (t := (.array .byte)) (t' := .byte) (by decide) (by decide)))
  have u_17 := u_12.wr W_13
  obtain ⟨T_18, h_18, X_18, e_18, W_18, st_18⟩ := putF X_13 hx hZ hown (host := "") (Or.inl (hw _ (List.mem_of_getElem? (i := 32) rfl))) Via.refl e_13 u_16 u_17 (Or.inr ⟨(hw _ (List.mem_of_getElem? (i := 33) rfl)), rfl, hnm⟩) (hw _ (List.mem_of_getElem? (i := 5) rfl)) (ty := (.array .byte)) (by decide) rfl rfl (g := (mkF mM 54 #[.val (.ref a1), .val (.ref a2), .val (.int (0 : Int32)), .val (.int (1 : Int32)), .val .null, .val (.ref b_4)] [(.ref b_4), (.ref a1)])) rfl rfl (hb hby own_d3_54)
  have u_19 := u_16.same W_18
  have N_18 := Fr.snoc X_18 N_13 g1
  refine Goes.step st_18 ?_
  show Goes pP eE bB _ (T_18.setTop (mkF mM 57 #[.val (.ref a1), .val (.ref a2), .val (.int (0 : Int32)), .val (.int (1 : Int32)), .val .null, .val (.ref b_4)] []))
  refine Goes.ret0 X_18 hx hlk hret (hb hby own_d3_57) (by decide) (by decide) ?_
  have u_20 := (Keep.refl h0 [a1]).trans K_4 all0
  have u_21 := u_20.wr W_13 (Or.inl (List.mem_of_getElem? (i := 0) rfl))
  have u_22 := u_21.wr W_18 (Or.inl (List.mem_of_getElem? (i := 0) rfl))
  have u_23 := u_14.other W_18 (Or.inr (slot_ne (Or.inr (hw _ (List.mem_of_getElem? (i := 31) rfl))) (Or.inr (hw _ (List.mem_of_getElem? (i := 33) rfl))) (by decide) (t := .byte) (t' := (.array .byte)) (by decide) (by decide)))
  have u_24 := A_4.other W_13 (Nat.ne_of_gt u_6)
  have u_25 := u_24.other W_18 (Nat.ne_of_gt u_6)
  have u_26 := M_4.wr W_13
  have u_27 := u_26.wr W_18
  exact ⟨rfl, N_18, by rw [e_18]; exact u_22, by rw [e_18]; exact u_23, b_4, by rw [e_18]; exact u_19, u_8, by rw [e_18]; exact u_25, by rw [e_18]; exact u_27⟩
set_option maxRecDepth 65536 in
set_option maxHeartbeats 40000000 in
theorem rmS5_1 (l : Launch) (Z : State) (a0 : Array Value) (hw : ∀ d ∈ tables_1, d.before a0 Z = true) (a1 a2 : Addr) (c0 : Int32) (cs : Int32) (h0 : Heap) (n0 : Nat) (Z0 : n0 ≤ h0.size) (Scs : Sta Z Z.heap "java/lang/String" "COMPACT_STRINGS" "Z" (.int cs)) (hcs : ¬ (cs = (0 : Int32))) (O0 : Old Z n0 h0) (f : Nat → Value) (A2 : Afn Z h0 a2 .char 1 f) (E1 : Exa Z h0 a1 "java/lang/String") (g1 : n0 ≤ a1) (Fc : Fld Z h0 a1 "java/lang/String" "coder" "B" (.int (0 : Int32))) (Fv : Fld Z h0 a1 "java/lang/String" "value" "[B" .null) (hf0 : f 0 = .int c0) (hc0 : ¬ ((255 : Int32) < c0)) :
    Con l Z (⟨"java/lang/String", "<init>", "([C)V"⟩ : MethodName) jdk_42_method_3_code 2 none ({ frames := 3, cells := 1, slots := 1, locals := 52 } : Room) #[(.ref a1), (.ref a2)] h0 (fun v h L => v = none ∧ Fr n0 L ∧ Keep h0 h [a1] ∧ Fld Z h a1 "java/lang/String" "coder" "B" (.int (0 : Int32)) ∧ ∃ x, Fld Z h a1 "java/lang/String" "value" "[B" (.ref x) ∧ h0.size ≤ x ∧ Afn Z h x .byte 1 (own_bs [c0]) ∧ Exa Z h x "[B") := by
  refine Con.body (plainFor_of_name own_pn0) ?_
  intro pP eE sS mM bB mT cC s₁ hx hby hml hZ hown hnm hret hlk X0 e0
  have hown : sS.vm.findClass "java/lang/String" = some mM.cls := hown
  have hml : cC.maxLocals = 2 := hml
  have N0 := Fr.nil n0
  have ef : entryFrame mM #[(.ref a1), (.ref a2)] 2 = mkF mM 0 #[.val (.ref a1), .val (.ref a2)] [] := by first | (simp [entryFrame, mkF, argsToLocals, Value.category]; done) | rfl
  rw [ef]
  show Goes pP eE bB _ (s₁.setTop (mkF mM 0 #[.val (.ref a1), .val (.ref a2)] []))
  refine Goes.step (fun _ kK => XS.aloadN X0.here hx rfl (hb hby own_d2_0) rfl rfl kK) ?_
  show Goes pP eE bB _ (s₁.setTop (mkF mM 1 #[.val (.ref a1), .val (.ref a2)] [(.ref a1)]))
  refine Goes.step (fun _ kK => XS.aloadN X0.here hx rfl (hb hby own_d2_1) rfl rfl kK) ?_
  show Goes pP eE bB _ (s₁.setTop (mkF mM 2 #[.val (.ref a1), .val (.ref a2)] [(.ref a2), (.ref a1)]))
  refine Goes.step (fun _ kK => XS.iconst X0.here hx rfl (hb hby own_d2_2) kK) ?_
  show Goes pP eE bB _ (s₁.setTop (mkF mM 3 #[.val (.ref a1), .val (.ref a2)] [(.int (0 : Int32)), (.ref a2), (.ref a1)]))
  refine Goes.step (fun _ kK => XS.aloadN X0.here hx rfl (hb hby own_d2_3) rfl rfl kK) ?_
  show Goes pP eE bB _ (s₁.setTop (mkF mM 4 #[.val (.ref a1), .val (.ref a2)] [(.ref a2), (.int (0 : Int32)), (.ref a2), (.ref a1)]))
  refine Goes.alen X0 hx hZ e0 A2 (z := (1 : Int32)) (by decide) (g := (mkF mM 4 #[.val (.ref a1), .val (.ref a2)] [(.ref a2), (.int (0 : Int32)), (.ref a2), (.ref a1)])) rfl rfl (hb hby own_d2_4) ?_
  show Goes pP eE bB _ (s₁.setTop (mkF mM 5 #[.val (.ref a1), .val (.ref a2)] [(.int (1 : Int32)), (.int (0 : Int32)), (.ref a2), (.ref a1)]))
  refine Goes.step (fun _ kK => XS.aconstNull X0.here hx rfl (hb hby own_d2_5) kK) ?_
  show Goes pP eE bB _ (s₁.setTop (mkF mM 6 #[.val (.ref a1), .val (.ref a2)] [.null, (.int (1 : Int32)), (.int (0 : Int32)), (.ref a2), (.ref a1)]))
  refine Goes.callI X0 hx hZ rfl hown (hw _ (List.mem_of_getElem? (i := 11) rfl)) (hw _ (List.mem_of_getElem? (i := 12) rfl)) (hw _ (List.mem_of_getElem? (i := 14) rfl)) (hw _ (List.mem_of_getElem? (i := 6) rfl)) (by decide) e0 (rmS4_1 l Z a0 hw a1 a2 c0 cs h0 n0 Z0 Scs hcs O0 _ A2 E1 g1 Fc Fv hf0 hc0) (W := 0) (by decide) (by decide) (by decide) (by decide) (g := (mkF mM 6 #[.val (.ref a1), .val (.ref a2)] [.null, (.int (1 : Int32)), (.int (0 : Int32)), (.ref a2), (.ref a1)])) rfl (by rw [hml]; rfl) (rest := []) own_pd0 rfl rfl (by show 2 * 0 + _ ≤ _; exact Nat.le_of_eq rfl) (hb hby own_d2_6) ?_
  intro v_1 T_1 L_1 X_1 hQ_1
  generalize e_1 : T_1.heap = h_1 at hQ_1
  obtain ⟨rfl, N_1q, K_1, F_1c, b_1, F_1v, s_1, A_1, M_1⟩ := hQ_1
  have N_1 := Fr.app N0 N_1q
  have u_2 : a2 < b_1 := Nat.lt_of_lt_of_le (A2).lt s_1
  have u_3 : a1 < b_1 := Nat.lt_of_lt_of_le (E1).lt s_1
  have u_4 : n0 ≤ b_1 := Nat.le_trans Z0 s_1
  have u_5 : h0.size ≤ b_1 := Nat.le_trans ((Keep.refl h0 [a1])).1 s_1
  show Goes pP eE bB _ (T_1.setTop (mkF mM 9 #[.val (.ref a1), .val (.ref a2)] []))
  refine Goes.ret0 X_1 hx hlk hret (hb hby own_d2_9) (by decide) (by decide) ?_
  have u_6 := (Keep.refl h0 [a1]).trans K_1 (allS (Or.inl (List.mem_of_getElem? (i := 0) rfl)) all0)
  exact ⟨rfl, N_1, by rw [e_1]; exact u_6, by rw [e_1]; exact F_1c, b_1, by rw [e_1]; exact F_1v, u_5, by rw [e_1]; exact A_1, by rw [e_1]; exact M_1⟩
set_option maxRecDepth 65536 in
set_option maxHeartbeats 40000000 in
theorem rmS2_2 (l : Launch) (Z : State) (a0 : Array Value) (hw : ∀ d ∈ tables_1, d.before a0 Z = true) (a1 a3 : Addr) (c0 c1 : Int32) (h0 : Heap) (n0 : Nat) (Z0 : n0 ≤ h0.size) (f fb : Nat → Value) (A1 : Afn Z h0 a1 .char 2 f) (A3 : Afn Z h0 a3 .byte 2 fb) (g3 : n0 ≤ a3) (d13 : a1 ≠ a3) (hf0 : f 0 = .int c0) (hf1 : f 1 = .int c1) (hc0 : ¬ ((255 : Int32) < c0)) (hc1 : ¬ ((255 : Int32) < c1)) :
    Con l Z (⟨"java/lang/StringUTF16", "compress", "([CI[BII)I"⟩ : MethodName) jdk_52_method_21_code 7 (some .int) ({ frames := 0, cells := 0, slots := 0, locals := 0 } : Room) #[(.ref a1), (.int (0 : Int32)), (.ref a3), (.int (0 : Int32)), (.int (2 : Int32))] h0 (fun v h L => v = some (.int (2 : Int32)) ∧ Fr n0 L ∧ Keep h0 h [a3] ∧ Afn Z h a3 .byte 2 (own_bs [c0, c1])) := by
  refine Con.body (plainFor_of_name own_pn1) ?_
  intro pP eE sS mM bB mT cC s₁ hx hby hml hZ hown hnm hret hlk X0 e0
  have hown : sS.vm.findClass "java/lang/StringUTF16" = some mM.cls := hown
  have hml : cC.maxLocals = 7 := hml
  have N0 := Fr.nil n0
  have ef : entryFrame mM #[(.ref a1), (.int (0 : Int32)), (.ref a3), (.int (0 : Int32)), (.int (2 : Int32))] 7 = mkF mM 0 #[.val (.ref a1), .val (.int (0 : Int32)), .val (.ref a3), .val (.int (0 : Int32)), .val (.int (2 : Int32)), .unset, .unset] [] := by first | (simp [entryFrame, mkF, argsToLocals, Value.category]; done) | rfl
  rw [ef]
  show Goes pP eE bB _ (s₁.setTop (mkF mM 0 #[.val (.ref a1), .val (.int (0 : Int32)), .val (.ref a3), .val (.int (0 : Int32)), .val (.int (2 : Int32)), .unset, .unset] []))
  refine Goes.step (fun _ kK => XS.iconst X0.here hx rfl (hb hby own_d6_0) kK) ?_
  show Goes pP eE bB _ (s₁.setTop (mkF mM 1 #[.val (.ref a1), .val (.int (0 : Int32)), .val (.ref a3), .val (.int (0 : Int32)), .val (.int (2 : Int32)), .unset, .unset] [(.int (0 : Int32))]))
  refine Goes.step (fun _ kK => XS.istore X0.here hx rfl (hb hby own_d6_1) rfl (l' := #[.val (.ref a1), .val (.int (0 : Int32)), .val (.ref a3), .val (.int (0 : Int32)), .val (.int (2 : Int32)), .val (.int (0 : Int32)), .unset]) rfl kK) ?_
  show Goes pP eE bB _ (s₁.setTop (mkF mM 3 #[.val (.ref a1), .val (.int (0 : Int32)), .val (.ref a3), .val (.int (0 : Int32)), .val (.int (2 : Int32)), .val (.int (0 : Int32)), .unset] []))
  refine Goes.step (fun _ kK => XS.iload X0.here hx rfl (hb hby own_d6_3) rfl kK) ?_
  show Goes pP eE bB _ (s₁.setTop (mkF mM 5 #[.val (.ref a1), .val (.int (0 : Int32)), .val (.ref a3), .val (.int (0 : Int32)), .val (.int (2 : Int32)), .val (.int (0 : Int32)), .unset] [(.int (0 : Int32))]))
  refine Goes.step (fun _ kK => XS.iload X0.here hx rfl (hb hby own_d6_5) rfl kK) ?_
  show Goes pP eE bB _ (s₁.setTop (mkF mM 7 #[.val (.ref a1), .val (.int (0 : Int32)), .val (.ref a3), .val (.int (0 : Int32)), .val (.int (2 : Int32)), .val (.int (0 : Int32)), .unset] [(.int (2 : Int32)), (.int (0 : Int32))]))
  refine Goes.step (fun _ kK => XS.icmpNo X0.here hx rfl (hb hby own_d6_7) rfl (tlt (by decide)).2.1 kK) ?_
  show Goes pP eE bB _ (s₁.setTop (mkF mM 10 #[.val (.ref a1), .val (.int (0 : Int32)), .val (.ref a3), .val (.int (0 : Int32)), .val (.int (2 : Int32)), .val (.int (0 : Int32)), .unset] []))
  refine Goes.step (fun _ kK => XS.aloadN X0.here hx rfl (hb hby own_d6_10) rfl rfl kK) ?_
  show Goes pP eE bB _ (s₁.setTop (mkF mM 11 #[.val (.ref a1), .val (.int (0 : Int32)), .val (.ref a3), .val (.int (0 : Int32)), .val (.int (2 : Int32)), .val (.int (0 : Int32)), .unset] [(.ref a1)]))
  refine Goes.step (fun _ kK => XS.iloadN X0.here hx rfl (hb hby own_d6_11) rfl kK) ?_
  show Goes pP eE bB _ (s₁.setTop (mkF mM 12 #[.val (.ref a1), .val (.int (0 : Int32)), .val (.ref a3), .val (.int (0 : Int32)), .val (.int (2 : Int32)), .val (.int (0 : Int32)), .unset] [(.int (0 : Int32)), (.ref a1)]))
  refine Goes.caload X0 hx hZ e0 A1 (i := 0) (by decide) (by decide) hf0 (g := (mkF mM 12 #[.val (.ref a1), .val (.int (0 : Int32)), .val (.ref a3), .val (.int (0 : Int32)), .val (.int (2 : Int32)), .val (.int (0 : Int32)), .unset] [(.int (0 : Int32)), (.ref a1)])) rfl rfl (hb hby own_d6_12) ?_
  show Goes pP eE bB _ (s₁.setTop (mkF mM 13 #[.val (.ref a1), .val (.int (0 : Int32)), .val (.ref a3), .val (.int (0 : Int32)), .val (.int (2 : Int32)), .val (.int (0 : Int32)), .unset] [(.int c0)]))
  refine Goes.step (fun _ kK => XS.istore X0.here hx rfl (hb hby own_d6_13) rfl (l' := #[.val (.ref a1), .val (.int (0 : Int32)), .val (.ref a3), .val (.int (0 : Int32)), .val (.int (2 : Int32)), .val (.int (0 : Int32)), .val (.int c0)]) rfl kK) ?_
  show Goes pP eE bB _ (s₁.setTop (mkF mM 15 #[.val (.ref a1), .val (.int (0 : Int32)), .val (.ref a3), .val (.int (0 : Int32)), .val (.int (2 : Int32)), .val (.int (0 : Int32)), .val (.int c0)] []))
  refine Goes.step (fun _ kK => XS.iload X0.here hx rfl (hb hby own_d6_15) rfl kK) ?_
  show Goes pP eE bB _ (s₁.setTop (mkF mM 17 #[.val (.ref a1), .val (.int (0 : Int32)), .val (.ref a3), .val (.int (0 : Int32)), .val (.int (2 : Int32)), .val (.int (0 : Int32)), .val (.int c0)] [(.int c0)]))
  refine Goes.step (fun _ kK => XS.sipush X0.here hx rfl (hb hby own_d6_17) kK) ?_
  show Goes pP eE bB _ (s₁.setTop (mkF mM 20 #[.val (.ref a1), .val (.int (0 : Int32)), .val (.ref a3), .val (.int (0 : Int32)), .val (.int (2 : Int32)), .val (.int (0 : Int32)), .val (.int c0)] [(.int (255 : Int32)), (.int c0)]))
  have hb_1 : ¬ ((255 : Int32) < c0) := hc0
  refine Goes.step (fun _ kK => XS.icmpYes X0.here hx rfl (pc0 := 20) (pc' := 26) rfl (hb hby own_d6_20) rfl (flt hb_1).2.2.2 (by decide) (by decide) kK) ?_
  show Goes pP eE bB _ (s₁.setTop (mkF mM 26 #[.val (.ref a1), .val (.int (0 : Int32)), .val (.ref a3), .val (.int (0 : Int32)), .val (.int (2 : Int32)), .val (.int (0 : Int32)), .val (.int c0)] []))
  refine Goes.step (fun _ kK => XS.aloadN X0.here hx rfl (hb hby own_d6_26) rfl rfl kK) ?_
  show Goes pP eE bB _ (s₁.setTop (mkF mM 27 #[.val (.ref a1), .val (.int (0 : Int32)), .val (.ref a3), .val (.int (0 : Int32)), .val (.int (2 : Int32)), .val (.int (0 : Int32)), .val (.int c0)] [(.ref a3)]))
  refine Goes.step (fun _ kK => XS.iloadN X0.here hx rfl (hb hby own_d6_27) rfl kK) ?_
  show Goes pP eE bB _ (s₁.setTop (mkF mM 28 #[.val (.ref a1), .val (.int (0 : Int32)), .val (.ref a3), .val (.int (0 : Int32)), .val (.int (2 : Int32)), .val (.int (0 : Int32)), .val (.int c0)] [(.int (0 : Int32)), (.ref a3)]))
  refine Goes.step (fun _ kK => XS.iload X0.here hx rfl (hb hby own_d6_28) rfl kK) ?_
  show Goes pP eE bB _ (s₁.setTop (mkF mM 30 #[.val (.ref a1), .val (.int (0 : Int32)), .val (.ref a3), .val (.int (0 : Int32)), .val (.int (2 : Int32)), .val (.int (0 : Int32)), .val (.int c0)] [(.int c0), (.int (0 : Int32)), (.ref a3)]))
  refine Goes.step (fun _ kK => XS.i2b X0.here hx rfl (hb hby own_d6_30) rfl kK) ?_
  show Goes pP eE bB _ (s₁.setTop (mkF mM 31 #[.val (.ref a1), .val (.int (0 : Int32)), .val (.ref a3), .val (.int (0 : Int32)), .val (.int (2 : Int32)), .val (.int (0 : Int32)), .val (.int c0)] [(.int (c0.toInt8.toInt32)), (.int (0 : Int32)), (.ref a3)]))
  refine Goes.bastore X0 hx hZ e0 A3 (i := 0) (by decide) (by decide) (g := (mkF mM 31 #[.val (.ref a1), .val (.int (0 : Int32)), .val (.ref a3), .val (.int (0 : Int32)), .val (.int (2 : Int32)), .val (.int (0 : Int32)), .val (.int c0)] [(.int (c0.toInt8.toInt32)), (.int (0 : Int32)), (.ref a3)])) rfl rfl (hb hby own_d6_31) ?_
  intro T_2 h_2 X_2 e_2 W_2 A_2
  have N_2 := Fr.snoc X_2 N0 g3
  show Goes pP eE bB _ (T_2.setTop (mkF mM 32 #[.val (.ref a1), .val (.int (0 : Int32)), .val (.ref a3), .val (.int (0 : Int32)), .val (.int (2 : Int32)), .val (.int (0 : Int32)), .val (.int c0)] []))
  refine Goes.step (fun _ kK => XS.iinc X_2.here hx rfl (hb hby own_d6_32) rfl (l' := #[.val (.ref a1), .val (.int ((0 : Int32) + (1 : Int32))), .val (.ref a3), .val (.int (0 : Int32)), .val (.int (2 : Int32)), .val (.int (0 : Int32)), .val (.int c0)]) rfl kK) ?_
  show Goes pP eE bB _ (T_2.setTop (mkF mM 35 #[.val (.ref a1), .val (.int ((0 : Int32) + (1 : Int32))), .val (.ref a3), .val (.int (0 : Int32)), .val (.int (2 : Int32)), .val (.int (0 : Int32)), .val (.int c0)] []))
  refine Goes.step (fun _ kK => XS.iinc X_2.here hx rfl (hb hby own_d6_35) rfl (l' := #[.val (.ref a1), .val (.int ((0 : Int32) + (1 : Int32))), .val (.ref a3), .val (.int ((0 : Int32) + (1 : Int32))), .val (.int (2 : Int32)), .val (.int (0 : Int32)), .val (.int c0)]) rfl kK) ?_
  show Goes pP eE bB _ (T_2.setTop (mkF mM 38 #[.val (.ref a1), .val (.int ((0 : Int32) + (1 : Int32))), .val (.ref a3), .val (.int ((0 : Int32) + (1 : Int32))), .val (.int (2 : Int32)), .val (.int (0 : Int32)), .val (.int c0)] []))
  refine Goes.step (fun _ kK => XS.iinc X_2.here hx rfl (hb hby own_d6_38) rfl (l' := #[.val (.ref a1), .val (.int ((0 : Int32) + (1 : Int32))), .val (.ref a3), .val (.int ((0 : Int32) + (1 : Int32))), .val (.int (2 : Int32)), .val (.int ((0 : Int32) + (1 : Int32))), .val (.int c0)]) rfl kK) ?_
  show Goes pP eE bB _ (T_2.setTop (mkF mM 41 #[.val (.ref a1), .val (.int ((0 : Int32) + (1 : Int32))), .val (.ref a3), .val (.int ((0 : Int32) + (1 : Int32))), .val (.int (2 : Int32)), .val (.int ((0 : Int32) + (1 : Int32))), .val (.int c0)] []))
  refine Goes.step (fun _ kK => XS.goto X_2.here hx rfl (pc0 := 41) (pc' := 3) rfl (hb hby own_d6_41) (by decide) (by decide) kK) ?_
  show Goes pP eE bB _ (T_2.setTop (mkF mM 3 #[.val (.ref a1), .val (.int ((0 : Int32) + (1 : Int32))), .val (.ref a3), .val (.int ((0 : Int32) + (1 : Int32))), .val (.int (2 : Int32)), .val (.int ((0 : Int32) + (1 : Int32))), .val (.int c0)] []))
  refine Goes.step (fun _ kK => XS.iload X_2.here hx rfl (hb hby own_d6_3) rfl kK) ?_
  show Goes pP eE bB _ (T_2.setTop (mkF mM 5 #[.val (.ref a1), .val (.int ((0 : Int32) + (1 : Int32))), .val (.ref a3), .val (.int ((0 : Int32) + (1 : Int32))), .val (.int (2 : Int32)), .val (.int ((0 : Int32) + (1 : Int32))), .val (.int c0)] [(.int ((0 : Int32) + (1 : Int32)))]))
  refine Goes.step (fun _ kK => XS.iload X_2.here hx rfl (hb hby own_d6_5) rfl kK) ?_
  show Goes pP eE bB _ (T_2.setTop (mkF mM 7 #[.val (.ref a1), .val (.int ((0 : Int32) + (1 : Int32))), .val (.ref a3), .val (.int ((0 : Int32) + (1 : Int32))), .val (.int (2 : Int32)), .val (.int ((0 : Int32) + (1 : Int32))), .val (.int c0)] [(.int (2 : Int32)), (.int ((0 : Int32) + (1 : Int32)))]))
  refine Goes.step (fun _ kK => XS.icmpNo X_2.here hx rfl (hb hby own_d6_7) rfl (tlt (by decide)).2.1 kK) ?_
  show Goes pP eE bB _ (T_2.setTop (mkF mM 10 #[.val (.ref a1), .val (.int ((0 : Int32) + (1 : Int32))), .val (.ref a3), .val (.int ((0 : Int32) + (1 : Int32))), .val (.int (2 : Int32)), .val (.int ((0 : Int32) + (1 : Int32))), .val (.int c0)] []))
  refine Goes.step (fun _ kK => XS.aloadN X_2.here hx rfl (hb hby own_d6_10) rfl rfl kK) ?_
  show Goes pP eE bB _ (T_2.setTop (mkF mM 11 #[.val (.ref a1), .val (.int ((0 : Int32) + (1 : Int32))), .val (.ref a3), .val (.int ((0 : Int32) + (1 : Int32))), .val (.int (2 : Int32)), .val (.int ((0 : Int32) + (1 : Int32))), .val (.int c0)] [(.ref a1)]))
  refine Goes.step (fun _ kK => XS.iloadN X_2.here hx rfl (hb hby own_d6_11) rfl kK) ?_
  show Goes pP eE bB _ (T_2.setTop (mkF mM 12 #[.val (.ref a1), .val (.int ((0 : Int32) + (1 : Int32))), .val (.ref a3), .val (.int ((0 : Int32) + (1 : Int32))), .val (.int (2 : Int32)), .val (.int ((0 : Int32) + (1 : Int32))), .val (.int c0)] [(.int ((0 : Int32) + (1 : Int32))), (.ref a1)]))
  have u_3 := A1.other W_2 d13
  refine Goes.caload X_2 hx hZ e_2 u_3 (i := 1) (by decide) (by decide) hf1 (g := (mkF mM 12 #[.val (.ref a1), .val (.int ((0 : Int32) + (1 : Int32))), .val (.ref a3), .val (.int ((0 : Int32) + (1 : Int32))), .val (.int (2 : Int32)), .val (.int ((0 : Int32) + (1 : Int32))), .val (.int c0)] [(.int ((0 : Int32) + (1 : Int32))), (.ref a1)])) rfl rfl (hb hby own_d6_12) ?_
  show Goes pP eE bB _ (T_2.setTop (mkF mM 13 #[.val (.ref a1), .val (.int ((0 : Int32) + (1 : Int32))), .val (.ref a3), .val (.int ((0 : Int32) + (1 : Int32))), .val (.int (2 : Int32)), .val (.int ((0 : Int32) + (1 : Int32))), .val (.int c0)] [(.int c1)]))
  refine Goes.step (fun _ kK => XS.istore X_2.here hx rfl (hb hby own_d6_13) rfl (l' := #[.val (.ref a1), .val (.int ((0 : Int32) + (1 : Int32))), .val (.ref a3), .val (.int ((0 : Int32) + (1 : Int32))), .val (.int (2 : Int32)), .val (.int ((0 : Int32) + (1 : Int32))), .val (.int c1)]) rfl kK) ?_
  show Goes pP eE bB _ (T_2.setTop (mkF mM 15 #[.val (.ref a1), .val (.int ((0 : Int32) + (1 : Int32))), .val (.ref a3), .val (.int ((0 : Int32) + (1 : Int32))), .val (.int (2 : Int32)), .val (.int ((0 : Int32) + (1 : Int32))), .val (.int c1)] []))
  refine Goes.step (fun _ kK => XS.iload X_2.here hx rfl (hb hby own_d6_15) rfl kK) ?_
  show Goes pP eE bB _ (T_2.setTop (mkF mM 17 #[.val (.ref a1), .val (.int ((0 : Int32) + (1 : Int32))), .val (.ref a3), .val (.int ((0 : Int32) + (1 : Int32))), .val (.int (2 : Int32)), .val (.int ((0 : Int32) + (1 : Int32))), .val (.int c1)] [(.int c1)]))
  refine Goes.step (fun _ kK => XS.sipush X_2.here hx rfl (hb hby own_d6_17) kK) ?_
  show Goes pP eE bB _ (T_2.setTop (mkF mM 20 #[.val (.ref a1), .val (.int ((0 : Int32) + (1 : Int32))), .val (.ref a3), .val (.int ((0 : Int32) + (1 : Int32))), .val (.int (2 : Int32)), .val (.int ((0 : Int32) + (1 : Int32))), .val (.int c1)] [(.int (255 : Int32)), (.int c1)]))
  have hb_4 : ¬ ((255 : Int32) < c1) := hc1
  refine Goes.step (fun _ kK => XS.icmpYes X_2.here hx rfl (pc0 := 20) (pc' := 26) rfl (hb hby own_d6_20) rfl (flt hb_4).2.2.2 (by decide) (by decide) kK) ?_
  show Goes pP eE bB _ (T_2.setTop (mkF mM 26 #[.val (.ref a1), .val (.int ((0 : Int32) + (1 : Int32))), .val (.ref a3), .val (.int ((0 : Int32) + (1 : Int32))), .val (.int (2 : Int32)), .val (.int ((0 : Int32) + (1 : Int32))), .val (.int c1)] []))
  refine Goes.step (fun _ kK => XS.aloadN X_2.here hx rfl (hb hby own_d6_26) rfl rfl kK) ?_
  show Goes pP eE bB _ (T_2.setTop (mkF mM 27 #[.val (.ref a1), .val (.int ((0 : Int32) + (1 : Int32))), .val (.ref a3), .val (.int ((0 : Int32) + (1 : Int32))), .val (.int (2 : Int32)), .val (.int ((0 : Int32) + (1 : Int32))), .val (.int c1)] [(.ref a3)]))
  refine Goes.step (fun _ kK => XS.iloadN X_2.here hx rfl (hb hby own_d6_27) rfl kK) ?_
  show Goes pP eE bB _ (T_2.setTop (mkF mM 28 #[.val (.ref a1), .val (.int ((0 : Int32) + (1 : Int32))), .val (.ref a3), .val (.int ((0 : Int32) + (1 : Int32))), .val (.int (2 : Int32)), .val (.int ((0 : Int32) + (1 : Int32))), .val (.int c1)] [(.int ((0 : Int32) + (1 : Int32))), (.ref a3)]))
  refine Goes.step (fun _ kK => XS.iload X_2.here hx rfl (hb hby own_d6_28) rfl kK) ?_
  show Goes pP eE bB _ (T_2.setTop (mkF mM 30 #[.val (.ref a1), .val (.int ((0 : Int32) + (1 : Int32))), .val (.ref a3), .val (.int ((0 : Int32) + (1 : Int32))), .val (.int (2 : Int32)), .val (.int ((0 : Int32) + (1 : Int32))), .val (.int c1)] [(.int c1), (.int ((0 : Int32) + (1 : Int32))), (.ref a3)]))
  refine Goes.step (fun _ kK => XS.i2b X_2.here hx rfl (hb hby own_d6_30) rfl kK) ?_
  show Goes pP eE bB _ (T_2.setTop (mkF mM 31 #[.val (.ref a1), .val (.int ((0 : Int32) + (1 : Int32))), .val (.ref a3), .val (.int ((0 : Int32) + (1 : Int32))), .val (.int (2 : Int32)), .val (.int ((0 : Int32) + (1 : Int32))), .val (.int c1)] [(.int (c1.toInt8.toInt32)), (.int ((0 : Int32) + (1 : Int32))), (.ref a3)]))
  refine Goes.bastore X_2 hx hZ e_2 A_2 (i := 1) (by decide) (by decide) (g := (mkF mM 31 #[.val (.ref a1), .val (.int ((0 : Int32) + (1 : Int32))), .val (.ref a3), .val (.int ((0 : Int32) + (1 : Int32))), .val (.int (2 : Int32)), .val (.int ((0 : Int32) + (1 : Int32))), .val (.int c1)] [(.int (c1.toInt8.toInt32)), (.int ((0 : Int32) + (1 : Int32))), (.ref a3)])) rfl rfl (hb hby own_d6_31) ?_
  intro T_5 h_5 X_5 e_5 W_5 A_5
  have N_5 := Fr.snoc X_5 N_2 g3
  show Goes pP eE bB _ (T_5.setTop (mkF mM 32 #[.val (.ref a1), .val (.int ((0 : Int32) + (1 : Int32))), .val (.ref a3), .val (.int ((0 : Int32) + (1 : Int32))), .val (.int (2 : Int32)), .val (.int ((0 : Int32) + (1 : Int32))), .val (.int c1)] []))
  refine Goes.step (fun _ kK => XS.iinc X_5.here hx rfl (hb hby own_d6_32) rfl (l' := #[.val (.ref a1), .val (.int (((0 : Int32) + (1 : Int32)) + (1 : Int32))), .val (.ref a3), .val (.int ((0 : Int32) + (1 : Int32))), .val (.int (2 : Int32)), .val (.int ((0 : Int32) + (1 : Int32))), .val (.int c1)]) rfl kK) ?_
  show Goes pP eE bB _ (T_5.setTop (mkF mM 35 #[.val (.ref a1), .val (.int (((0 : Int32) + (1 : Int32)) + (1 : Int32))), .val (.ref a3), .val (.int ((0 : Int32) + (1 : Int32))), .val (.int (2 : Int32)), .val (.int ((0 : Int32) + (1 : Int32))), .val (.int c1)] []))
  refine Goes.step (fun _ kK => XS.iinc X_5.here hx rfl (hb hby own_d6_35) rfl (l' := #[.val (.ref a1), .val (.int (((0 : Int32) + (1 : Int32)) + (1 : Int32))), .val (.ref a3), .val (.int (((0 : Int32) + (1 : Int32)) + (1 : Int32))), .val (.int (2 : Int32)), .val (.int ((0 : Int32) + (1 : Int32))), .val (.int c1)]) rfl kK) ?_
  show Goes pP eE bB _ (T_5.setTop (mkF mM 38 #[.val (.ref a1), .val (.int (((0 : Int32) + (1 : Int32)) + (1 : Int32))), .val (.ref a3), .val (.int (((0 : Int32) + (1 : Int32)) + (1 : Int32))), .val (.int (2 : Int32)), .val (.int ((0 : Int32) + (1 : Int32))), .val (.int c1)] []))
  refine Goes.step (fun _ kK => XS.iinc X_5.here hx rfl (hb hby own_d6_38) rfl (l' := #[.val (.ref a1), .val (.int (((0 : Int32) + (1 : Int32)) + (1 : Int32))), .val (.ref a3), .val (.int (((0 : Int32) + (1 : Int32)) + (1 : Int32))), .val (.int (2 : Int32)), .val (.int (((0 : Int32) + (1 : Int32)) + (1 : Int32))), .val (.int c1)]) rfl kK) ?_
  show Goes pP eE bB _ (T_5.setTop (mkF mM 41 #[.val (.ref a1), .val (.int (((0 : Int32) + (1 : Int32)) + (1 : Int32))), .val (.ref a3), .val (.int (((0 : Int32) + (1 : Int32)) + (1 : Int32))), .val (.int (2 : Int32)), .val (.int (((0 : Int32) + (1 : Int32)) + (1 : Int32))), .val (.int c1)] []))
  refine Goes.step (fun _ kK => XS.goto X_5.here hx rfl (pc0 := 41) (pc' := 3) rfl (hb hby own_d6_41) (by decide) (by decide) kK) ?_
  show Goes pP eE bB _ (T_5.setTop (mkF mM 3 #[.val (.ref a1), .val (.int (((0 : Int32) + (1 : Int32)) + (1 : Int32))), .val (.ref a3), .val (.int (((0 : Int32) + (1 : Int32)) + (1 : Int32))), .val (.int (2 : Int32)), .val (.int (((0 : Int32) + (1 : Int32)) + (1 : Int32))), .val (.int c1)] []))
  refine Goes.step (fun _ kK => XS.iload X_5.here hx rfl (hb hby own_d6_3) rfl kK) ?_
  show Goes pP eE bB _ (T_5.setTop (mkF mM 5 #[.val (.ref a1), .val (.int (((0 : Int32) + (1 : Int32)) + (1 : Int32))), .val (.ref a3), .val (.int (((0 : Int32) + (1 : Int32)) + (1 : Int32))), .val (.int (2 : Int32)), .val (.int (((0 : Int32) + (1 : Int32)) + (1 : Int32))), .val (.int c1)] [(.int (((0 : Int32) + (1 : Int32)) + (1 : Int32)))]))
  refine Goes.step (fun _ kK => XS.iload X_5.here hx rfl (hb hby own_d6_5) rfl kK) ?_
  show Goes pP eE bB _ (T_5.setTop (mkF mM 7 #[.val (.ref a1), .val (.int (((0 : Int32) + (1 : Int32)) + (1 : Int32))), .val (.ref a3), .val (.int (((0 : Int32) + (1 : Int32)) + (1 : Int32))), .val (.int (2 : Int32)), .val (.int (((0 : Int32) + (1 : Int32)) + (1 : Int32))), .val (.int c1)] [(.int (2 : Int32)), (.int (((0 : Int32) + (1 : Int32)) + (1 : Int32)))]))
  refine Goes.step (fun _ kK => XS.icmpYes X_5.here hx rfl (pc0 := 7) (pc' := 44) rfl (hb hby own_d6_7) rfl (flt (by decide)).2.1 (by decide) (by decide) kK) ?_
  show Goes pP eE bB _ (T_5.setTop (mkF mM 44 #[.val (.ref a1), .val (.int (((0 : Int32) + (1 : Int32)) + (1 : Int32))), .val (.ref a3), .val (.int (((0 : Int32) + (1 : Int32)) + (1 : Int32))), .val (.int (2 : Int32)), .val (.int (((0 : Int32) + (1 : Int32)) + (1 : Int32))), .val (.int c1)] []))
  refine Goes.step (fun _ kK => XS.iload X_5.here hx rfl (hb hby own_d6_44) rfl kK) ?_
  show Goes pP eE bB _ (T_5.setTop (mkF mM 46 #[.val (.ref a1), .val (.int (((0 : Int32) + (1 : Int32)) + (1 : Int32))), .val (.ref a3), .val (.int (((0 : Int32) + (1 : Int32)) + (1 : Int32))), .val (.int (2 : Int32)), .val (.int (((0 : Int32) + (1 : Int32)) + (1 : Int32))), .val (.int c1)] [(.int (2 : Int32))]))
  refine Goes.ret X_5 hx hlk hret rfl (Or.inl ⟨rfl, Or.inl rfl, _, rfl⟩) (hb hby own_d6_46) (by decide) (by decide) ?_
  have u_6 := (Keep.refl h0 [a3]).wr W_2 (Or.inl (List.mem_of_getElem? (i := 0) rfl))
  have u_7 := u_6.wr W_5 (Or.inl (List.mem_of_getElem? (i := 0) rfl))
  exact ⟨rfl, N_5, by rw [e_5]; exact u_7, by rw [e_5]; exact (A_5).congr (fun i hi => by rcases (show i = 0 ∨ i = 1 by omega) with rfl | rfl <;> simp [own_bs])⟩
set_option maxRecDepth 65536 in
set_option maxHeartbeats 40000000 in
theorem rmS1_2 (l : Launch) (Z : State) (a0 : Array Value) (hw : ∀ d ∈ tables_1, d.before a0 Z = true) (a1 : Addr) (c0 c1 : Int32) (h0 : Heap) (n0 : Nat) (Z0 : n0 ≤ h0.size) (f : Nat → Value) (A1 : Afn Z h0 a1 .char 2 f) (hf0 : f 0 = .int c0) (hf1 : f 1 = .int c1) (hc0 : ¬ ((255 : Int32) < c0)) (hc1 : ¬ ((255 : Int32) < c1)) :
    Con l Z (⟨"java/lang/StringUTF16", "compress", "([CII)[B"⟩ : MethodName) jdk_52_method_16_code 6 (some (.array .byte)) ({ frames := 1, cells := 1, slots := 2, locals := 18 } : Room) #[(.ref a1), (.int (0 : Int32)), (.int (2 : Int32))] h0 (fun v h L => ∃ x, v = some (.ref x) ∧ Fr n0 L ∧ Keep h0 h [] ∧ h0.size ≤ x ∧ Afn Z h x .byte 2 (own_bs [c0, c1]) ∧ Exa Z h x "[B") := by
  refine Con.body (plainFor_of_name own_pn1) ?_
  intro pP eE sS mM bB mT cC s₁ hx hby hml hZ hown hnm hret hlk X0 e0
  have hown : sS.vm.findClass "java/lang/StringUTF16" = some mM.cls := hown
  have hml : cC.maxLocals = 6 := hml
  have N0 := Fr.nil n0
  have ef : entryFrame mM #[(.ref a1), (.int (0 : Int32)), (.int (2 : Int32))] 6 = mkF mM 0 #[.val (.ref a1), .val (.int (0 : Int32)), .val (.int (2 : Int32)), .unset, .unset, .unset] [] := by first | (simp [entryFrame, mkF, argsToLocals, Value.category]; done) | rfl
  rw [ef]
  show Goes pP eE bB _ (s₁.setTop (mkF mM 0 #[.val (.ref a1), .val (.int (0 : Int32)), .val (.int (2 : Int32)), .unset, .unset, .unset] []))
  refine Goes.step (fun _ kK => XS.iloadN X0.here hx rfl (hb hby own_d5_0) rfl kK) ?_
  show Goes pP eE bB _ (s₁.setTop (mkF mM 1 #[.val (.ref a1), .val (.int (0 : Int32)), .val (.int (2 : Int32)), .unset, .unset, .unset] [(.int (2 : Int32))]))
  obtain ⟨T_1, h_1, k_1, X_1, e_1, E_1, A_1, M_1, st_1⟩ := newPE X0 hx hZ (hw _ (List.mem_of_getElem? (i := 23) rfl)) e0 (g := (mkF mM 1 #[.val (.ref a1), .val (.int (0 : Int32)), .val (.int (2 : Int32)), .unset, .unset, .unset] [(.int (2 : Int32))])) rfl (hb hby own_d5_1) rfl (by decide) (cap := 2) (by decide) (by decide) (by decide) (by decide) (ad := "[B") rfl
  obtain ⟨b_1, g_1⟩ : ∃ z, z = h0.size := ⟨_, rfl⟩
  rw [← g_1] at A_1 M_1 st_1
  have u_2 : a1 < b_1 := Nat.lt_of_lt_of_le (A1).lt (Nat.le_of_eq g_1.symm)
  have u_3 : n0 ≤ b_1 := Nat.le_trans Z0 (Nat.le_of_eq g_1.symm)
  have u_4 : h0.size ≤ b_1 := Nat.le_trans ((Keep.refl h0 [])).1 (Nat.le_of_eq g_1.symm)
  have u_5 : Afn Z h_1 b_1 .byte 2 (fun _ => (.int (0 : Int32))) := Afn.new (n := 2) A_1 (by decide)
  refine Goes.step st_1 ?_
  show Goes pP eE bB _ (T_1.setTop (mkF mM 3 #[.val (.ref a1), .val (.int (0 : Int32)), .val (.int (2 : Int32)), .unset, .unset, .unset] [(.ref b_1)]))
  refine Goes.step (fun _ kK => XS.astoreN X_1.here hx rfl (hb hby own_d5_3) rfl rfl (l' := #[.val (.ref a1), .val (.int (0 : Int32)), .val (.int (2 : Int32)), .val (.ref b_1), .unset, .unset]) rfl kK) ?_
  show Goes pP eE bB _ (T_1.setTop (mkF mM 4 #[.val (.ref a1), .val (.int (0 : Int32)), .val (.int (2 : Int32)), .val (.ref b_1), .unset, .unset] []))
  refine Goes.step (fun _ kK => XS.aloadN X_1.here hx rfl (hb hby own_d5_4) rfl rfl kK) ?_
  show Goes pP eE bB _ (T_1.setTop (mkF mM 5 #[.val (.ref a1), .val (.int (0 : Int32)), .val (.int (2 : Int32)), .val (.ref b_1), .unset, .unset] [(.ref a1)]))
  refine Goes.step (fun _ kK => XS.iloadN X_1.here hx rfl (hb hby own_d5_5) rfl kK) ?_
  show Goes pP eE bB _ (T_1.setTop (mkF mM 6 #[.val (.ref a1), .val (.int (0 : Int32)), .val (.int (2 : Int32)), .val (.ref b_1), .unset, .unset] [(.int (0 : Int32)), (.ref a1)]))
  refine Goes.step (fun _ kK => XS.aloadN X_1.here hx rfl (hb hby own_d5_6) rfl rfl kK) ?_
  show Goes pP eE bB _ (T_1.setTop (mkF mM 7 #[.val (.ref a1), .val (.int (0 : Int32)), .val (.int (2 : Int32)), .val (.ref b_1), .unset, .unset] [(.ref b_1), (.int (0 : Int32)), (.ref a1)]))
  refine Goes.step (fun _ kK => XS.iconst X_1.here hx rfl (hb hby own_d5_7) kK) ?_
  show Goes pP eE bB _ (T_1.setTop (mkF mM 8 #[.val (.ref a1), .val (.int (0 : Int32)), .val (.int (2 : Int32)), .val (.ref b_1), .unset, .unset] [(.int (0 : Int32)), (.ref b_1), (.int (0 : Int32)), (.ref a1)]))
  refine Goes.step (fun _ kK => XS.iloadN X_1.here hx rfl (hb hby own_d5_8) rfl kK) ?_
  show Goes pP eE bB _ (T_1.setTop (mkF mM 9 #[.val (.ref a1), .val (.int (0 : Int32)), .val (.int (2 : Int32)), .val (.ref b_1), .unset, .unset] [(.int (2 : Int32)), (.int (0 : Int32)), (.ref b_1), (.int (0 : Int32)), (.ref a1)]))
  have u_6 := Nat.le_trans Z0 E_1.1
  have u_7 := A1.ext E_1
  refine Goes.callS X_1 hx hZ hown (hw _ (List.mem_of_getElem? (i := 24) rfl)) (hw _ (List.mem_of_getElem? (i := 25) rfl)) (hw _ (List.mem_of_getElem? (i := 21) rfl)) (hw _ (List.mem_of_getElem? (i := 26) rfl)) (by decide) e_1 (rmS2_2 l Z a0 hw a1 b_1 c0 c1 h_1 n0 u_6 _ _ u_7 u_5 u_3 (Nat.ne_of_lt u_2) hf0 hf1 hc0 hc1) (W := 0) (by decide) (by decide) (by decide) (by decide) (g := (mkF mM 9 #[.val (.ref a1), .val (.int (0 : Int32)), .val (.int (2 : Int32)), .val (.ref b_1), .unset, .unset] [(.int (2 : Int32)), (.int (0 : Int32)), (.ref b_1), (.int (0 : Int32)), (.ref a1)])) rfl (by rw [hml]; rfl) (rest := []) own_pd1 rfl rfl (by show 2 * 0 + _ ≤ _; exact Nat.le_of_eq rfl) (hb hby own_d5_9) ?_
  intro v_8 T_8 L_8 X_8 hQ_8
  generalize e_8 : T_8.heap = h_8 at hQ_8
  obtain ⟨rfl, N_8q, K_8, A_8⟩ := hQ_8
  have N_8 := Fr.app N0 N_8q
  show Goes pP eE bB _ (T_8.setTop (mkF mM 12 #[.val (.ref a1), .val (.int (0 : Int32)), .val (.int (2 : Int32)), .val (.ref b_1), .unset, .unset] [(.int (2 : Int32))]))
  refine Goes.step (fun _ kK => XS.istore X_8.here hx rfl (hb hby own_d5_12) rfl (l' := #[.val (.ref a1), .val (.int (0 : Int32)), .val (.int (2 : Int32)), .val (.ref b_1), .val (.int (2 : Int32)), .unset]) rfl kK) ?_
  show Goes pP eE bB _ (T_8.setTop (mkF mM 14 #[.val (.ref a1), .val (.int (0 : Int32)), .val (.int (2 : Int32)), .val (.ref b_1), .val (.int (2 : Int32)), .unset] []))
  refine Goes.step (fun _ kK => XS.iload X_8.here hx rfl (hb hby own_d5_14) rfl kK) ?_
  show Goes pP eE bB _ (T_8.setTop (mkF mM 16 #[.val (.ref a1), .val (.int (0 : Int32)), .val (.int (2 : Int32)), .val (.ref b_1), .val (.int (2 : Int32)), .unset] [(.int (2 : Int32))]))
  refine Goes.step (fun _ kK => XS.iloadN X_8.here hx rfl (hb hby own_d5_16) rfl kK) ?_
  show Goes pP eE bB _ (T_8.setTop (mkF mM 17 #[.val (.ref a1), .val (.int (0 : Int32)), .val (.int (2 : Int32)), .val (.ref b_1), .val (.int (2 : Int32)), .unset] [(.int (2 : Int32)), (.int (2 : Int32))]))
  refine Goes.step (fun _ kK => XS.icmpYes X_8.here hx rfl (pc0 := 17) (pc' := 57) rfl (hb hby own_d5_17) rfl (teq (by decide)).1 (by decide) (by decide) kK) ?_
  show Goes pP eE bB _ (T_8.setTop (mkF mM 57 #[.val (.ref a1), .val (.int (0 : Int32)), .val (.int (2 : Int32)), .val (.ref b_1), .val (.int (2 : Int32)), .unset] []))
  refine Goes.step (fun _ kK => XS.aloadN X_8.here hx rfl (hb hby own_d5_57) rfl rfl kK) ?_
  show Goes pP eE bB _ (T_8.setTop (mkF mM 58 #[.val (.ref a1), .val (.int (0 : Int32)), .val (.int (2 : Int32)), .val (.ref b_1), .val (.int (2 : Int32)), .unset] [(.ref b_1)]))
  refine Goes.ret X_8 hx hlk hret rfl (Or.inr (Or.inr (Or.inr (Or.inr ⟨rfl, rfl, rfl⟩)))) (hb hby own_d5_58) (by decide) (by decide) ?_
  have u_9 := (Keep.refl h0 []).ext E_1
  have u_10 := u_9.trans K_8 (allS (Or.inr u_4) all0)
  have u_11 := M_1.keep K_8
  exact ⟨_, rfl, N_8, by rw [e_8]; exact u_10, u_4, by rw [e_8]; exact A_8, by rw [e_8]; exact u_11⟩
set_option maxRecDepth 65536 in
set_option maxHeartbeats 40000000 in
theorem rmS3_2 (l : Launch) (Z : State) (a0 : Array Value) (hw : ∀ d ∈ tables_1, d.before a0 Z = true) (a1 : Addr) (h0 : Heap) (n0 : Nat) (Z0 : n0 ≤ h0.size) (f : Nat → Value) (A1 : Afn Z h0 a1 .byte 2 f) :
    Con l Z (⟨"java/lang/StringUTF16", "coderFromArrayLen", "([BI)B"⟩ : MethodName) jdk_52_method_15_code 2 (some .byte) ({ frames := 0, cells := 0, slots := 0, locals := 0 } : Room) #[(.ref a1), (.int (2 : Int32))] h0 (fun v h L => v = some (.int (0 : Int32)) ∧ Fr n0 L ∧ h = h0) := by
  refine Con.body (plainFor_of_name own_pn1) ?_
  intro pP eE sS mM bB mT cC s₁ hx hby hml hZ hown hnm hret hlk X0 e0
  have hown : sS.vm.findClass "java/lang/StringUTF16" = some mM.cls := hown
  have hml : cC.maxLocals = 2 := hml
  have N0 := Fr.nil n0
  have ef : entryFrame mM #[(.ref a1), (.int (2 : Int32))] 2 = mkF mM 0 #[.val (.ref a1), .val (.int (2 : Int32))] [] := by first | (simp [entryFrame, mkF, argsToLocals, Value.category]; done) | rfl
  rw [ef]
  show Goes pP eE bB _ (s₁.setTop (mkF mM 0 #[.val (.ref a1), .val (.int (2 : Int32))] []))
  refine Goes.step (fun _ kK => XS.iloadN X0.here hx rfl (hb hby own_d7_0) rfl kK) ?_
  show Goes pP eE bB _ (s₁.setTop (mkF mM 1 #[.val (.ref a1), .val (.int (2 : Int32))] [(.int (2 : Int32))]))
  refine Goes.step (fun _ kK => XS.aloadN X0.here hx rfl (hb hby own_d7_1) rfl rfl kK) ?_
  show Goes pP eE bB _ (s₁.setTop (mkF mM 2 #[.val (.ref a1), .val (.int (2 : Int32))] [(.ref a1), (.int (2 : Int32))]))
  refine Goes.alen X0 hx hZ e0 A1 (z := (2 : Int32)) (by decide) (g := (mkF mM 2 #[.val (.ref a1), .val (.int (2 : Int32))] [(.ref a1), (.int (2 : Int32))])) rfl rfl (hb hby own_d7_2) ?_
  show Goes pP eE bB _ (s₁.setTop (mkF mM 3 #[.val (.ref a1), .val (.int (2 : Int32))] [(.int (2 : Int32)), (.int (2 : Int32))]))
  refine Goes.step (fun _ kK => XS.isub X0.here hx rfl (hb hby own_d7_3) rfl kK) ?_
  show Goes pP eE bB _ (s₁.setTop (mkF mM 4 #[.val (.ref a1), .val (.int (2 : Int32))] [(.int ((2 : Int32) - (2 : Int32)))]))
  refine Goes.step (fun _ kK => XS.bipush X0.here hx rfl (hb hby own_d7_4) kK) ?_
  show Goes pP eE bB _ (s₁.setTop (mkF mM 6 #[.val (.ref a1), .val (.int (2 : Int32))] [(.int (31 : Int32)), (.int ((2 : Int32) - (2 : Int32)))]))
  refine Goes.step (fun _ kK => XS.iushr X0.here hx rfl (hb hby own_d7_6) rfl kK) ?_
  show Goes pP eE bB _ (s₁.setTop (mkF mM 7 #[.val (.ref a1), .val (.int (2 : Int32))] [(.int ((((2 : Int32) - (2 : Int32)).toUInt32 >>> ((31 : Int32) &&& 31).toUInt32).toInt32))]))
  refine Goes.step (fun _ kK => XS.i2b X0.here hx rfl (hb hby own_d7_7) rfl kK) ?_
  show Goes pP eE bB _ (s₁.setTop (mkF mM 8 #[.val (.ref a1), .val (.int (2 : Int32))] [(.int (((((2 : Int32) - (2 : Int32)).toUInt32 >>> ((31 : Int32) &&& 31).toUInt32).toInt32).toInt8.toInt32))]))
  refine Goes.retN X0 hx hlk (t := .byte) hret (by simp) (hb hby own_d7_8) (by decide) (by decide) ?_
  exact ⟨rfl, N0, e0⟩
set_option maxRecDepth 65536 in
set_option maxHeartbeats 40000000 in
theorem rmS4_2 (l : Launch) (Z : State) (a0 : Array Value) (hw : ∀ d ∈ tables_1, d.before a0 Z = true) (a1 a2 : Addr) (c0 c1 : Int32) (cs : Int32) (h0 : Heap) (n0 : Nat) (Z0 : n0 ≤ h0.size) (Scs : Sta Z Z.heap "java/lang/String" "COMPACT_STRINGS" "Z" (.int cs)) (hcs : ¬ (cs = (0 : Int32))) (O0 : Old Z n0 h0) (f : Nat → Value) (A2 : Afn Z h0 a2 .char 2 f) (E1 : Exa Z h0 a1 "java/lang/String") (g1 : n0 ≤ a1) (Fc : Fld Z h0 a1 "java/lang/String" "coder" "B" (.int (0 : Int32))) (Fv : Fld Z h0 a1 "java/lang/String" "value" "[B" .null) (hf0 : f 0 = .int c0) (hf1 : f 1 = .int c1) (hc0 : ¬ ((255 : Int32) < c0)) (hc1 : ¬ ((255 : Int32) < c1)) :
    Con l Z (⟨"java/lang/String", "<init>", "([CIILjava/lang/Void;)V"⟩ : MethodName) jdk_42_method_149_code 6 none ({ frames := 2, cells := 1, slots := 2, locals := 35 } : Room) #[(.ref a1), (.ref a2), (.int (0 : Int32)), (.int (2 : Int32)), .null] h0 (fun v h L => v = none ∧ Fr n0 L ∧ Keep h0 h [a1] ∧ Fld Z h a1 "java/lang/String" "coder" "B" (.int (0 : Int32)) ∧ ∃ x, Fld Z h a1 "java/lang/String" "value" "[B" (.ref x) ∧ h0.size ≤ x ∧ Afn Z h x .byte 2 (own_bs [c0, c1]) ∧ Exa Z h x "[B") := by
  refine Con.body (plainFor_of_name own_pn0) ?_
  intro pP eE sS mM bB mT cC s₁ hx hby hml hZ hown hnm hret hlk X0 e0
  have hown : sS.vm.findClass "java/lang/String" = some mM.cls := hown
  have hml : cC.maxLocals = 6 := hml
  have N0 := Fr.nil n0
  have ef : entryFrame mM #[(.ref a1), (.ref a2), (.int (0 : Int32)), (.int (2 : Int32)), .null] 6 = mkF mM 0 #[.val (.ref a1), .val (.ref a2), .val (.int (0 : Int32)), .val (.int (2 : Int32)), .val .null, .unset] [] := by first | (simp [entryFrame, mkF, argsToLocals, Value.category]; done) | rfl
  rw [ef]
  show Goes pP eE bB _ (s₁.setTop (mkF mM 0 #[.val (.ref a1), .val (.ref a2), .val (.int (0 : Int32)), .val (.int (2 : Int32)), .val .null, .unset] []))
  refine Goes.step (fun _ kK => XS.aloadN X0.here hx rfl (hb hby own_d3_0) rfl rfl kK) ?_
  show Goes pP eE bB _ (s₁.setTop (mkF mM 1 #[.val (.ref a1), .val (.ref a2), .val (.int (0 : Int32)), .val (.int (2 : Int32)), .val .null, .unset] [(.ref a1)]))
  obtain ⟨T_1, X_1, e_1, st_1⟩ := initO X0 hx hZ hown (hw _ (List.mem_of_getElem? (i := 15) rfl)) (hw _ (List.mem_of_getElem? (i := 16) rfl)) (hw _ (List.mem_of_getElem? (i := 17) rfl)) e0 (g := (mkF mM 1 #[.val (.ref a1), .val (.ref a2), .val (.int (0 : Int32)), .val (.int (2 : Int32)), .val .null, .unset] [(.ref a1)])) rfl (by rw [hml]; rfl) rfl (hb hby own_d3_1) (by decide) (W := 0) (by show 2 * 0 + _ ≤ _; exact Nat.le_of_eq rfl) (by decide)
  refine Goes.step st_1 ?_
  show Goes pP eE bB _ (T_1.setTop (mkF mM 4 #[.val (.ref a1), .val (.ref a2), .val (.int (0 : Int32)), .val (.int (2 : Int32)), .val .null, .unset] []))
  refine Goes.step (fun _ kK => XS.iloadN X_1.here hx rfl (hb hby own_d3_4) rfl kK) ?_
  show Goes pP eE bB _ (T_1.setTop (mkF mM 5 #[.val (.ref a1), .val (.ref a2), .val (.int (0 : Int32)), .val (.int (2 : Int32)), .val .null, .unset] [(.int (2 : Int32))]))
  refine Goes.step (fun _ kK => XS.ifYes X_1.here hx rfl (pc0 := 5) (pc' := 27) rfl (hb hby own_d3_5) rfl ((if0 _ _).trans (feq (by decide)).2) (by decide) (by decide) kK) ?_
  show Goes pP eE bB _ (T_1.setTop (mkF mM 27 #[.val (.ref a1), .val (.ref a2), .val (.int (0 : Int32)), .val (.int (2 : Int32)), .val .null, .unset] []))
  obtain ⟨T_2, X_2, e_2, st_2⟩ := getS2 X_1 hx hZ hown (host := "") (Or.inl (hw _ (List.mem_of_getElem? (i := 18) rfl))) Via.refl e_1 (Scs.ext O0.2) (g := (mkF mM 27 #[.val (.ref a1), .val (.ref a2), .val (.int (0 : Int32)), .val (.int (2 : Int32)), .val .null, .unset] [])) rfl (hb hby own_d3_27)
  refine Goes.step st_2 ?_
  show Goes pP eE bB _ (T_2.setTop (mkF mM 30 #[.val (.ref a1), .val (.ref a2), .val (.int (0 : Int32)), .val (.int (2 : Int32)), .val .null, .unset] [(.int cs)]))
  have hb_3 : ¬ (cs = (0 : Int32)) := hcs
  refine Goes.step (fun _ kK => XS.ifNo X_2.here hx rfl (hb hby own_d3_30) rfl ((if0 _ _).trans (feq hb_3).1) kK) ?_
  show Goes pP eE bB _ (T_2.setTop (mkF mM 33 #[.val (.ref a1), .val (.ref a2), .val (.int (0 : Int32)), .val (.int (2 : Int32)), .val .null, .unset] []))
  refine Goes.step (fun _ kK => XS.aloadN X_2.here hx rfl (hb hby own_d3_33) rfl rfl kK) ?_
  show Goes pP eE bB _ (T_2.setTop (mkF mM 34 #[.val (.ref a1), .val (.ref a2), .val (.int (0 : Int32)), .val (.int (2 : Int32)), .val .null, .unset] [(.ref a2)]))
  refine Goes.step (fun _ kK => XS.iloadN X_2.here hx rfl (hb hby own_d3_34) rfl kK) ?_
  show Goes pP eE bB _ (T_2.setTop (mkF mM 35 #[.val (.ref a1), .val (.ref a2), .val (.int (0 : Int32)), .val (.int (2 : Int32)), .val .null, .unset] [(.int (0 : Int32)), (.ref a2)]))
  refine Goes.step (fun _ kK => XS.iloadN X_2.here hx rfl (hb hby own_d3_35) rfl kK) ?_
  show Goes pP eE bB _ (T_2.setTop (mkF mM 36 #[.val (.ref a1), .val (.ref a2), .val (.int (0 : Int32)), .val (.int (2 : Int32)), .val .null, .unset] [(.int (2 : Int32)), (.int (0 : Int32)), (.ref a2)]))
  refine Goes.callS X_2 hx hZ hown (hw _ (List.mem_of_getElem? (i := 19) rfl)) (hw _ (List.mem_of_getElem? (i := 20) rfl)) (hw _ (List.mem_of_getElem? (i := 21) rfl)) (hw _ (List.mem_of_getElem? (i := 22) rfl)) (by decide) e_2 (rmS1_2 l Z a0 hw a2 c0 c1 h0 n0 Z0 _ A2 hf0 hf1 hc0 hc1) (W := 0) (by decide) (by decide) (by decide) (by decide) (g := (mkF mM 36 #[.val (.ref a1), .val (.ref a2), .val (.int (0 : Int32)), .val (.int (2 : Int32)), .val .null, .unset] [(.int (2 : Int32)), (.int (0 : Int32)), (.ref a2)])) rfl (by rw [hml]; rfl) (rest := []) own_pd2 rfl rfl (by show 2 * 0 + _ ≤ _; exact Nat.le_of_eq rfl) (hb hby own_d3_36) ?_
  intro v_4 T_4 L_4 X_4 hQ_4
  generalize e_4 : T_4.heap = h_4 at hQ_4
  obtain ⟨b_4, rfl, N_4q, K_4, s_4, A_4, M_4⟩ := hQ_4
  have N_4 := Fr.app N0 N_4q
  have u_5 : a2 < b_4 := Nat.lt_of_lt_of_le (A2).lt s_4
  have u_6 : a1 < b_4 := Nat.lt_of_lt_of_le (E1).lt s_4
  have u_7 : n0 ≤ b_4 := Nat.le_trans Z0 s_4
  have u_8 : h0.size ≤ b_4 := Nat.le_trans ((Keep.refl h0 [a1])).1 s_4
  show Goes pP eE bB _ (T_4.setTop (mkF mM 39 #[.val (.ref a1), .val (.ref a2), .val (.int (0 : Int32)), .val (.int (2 : Int32)), .val .null, .unset] [(.ref b_4)]))
  refine Goes.step (fun _ kK => XS.astore X_4.here hx rfl (hb hby own_d3_39) rfl rfl (l' := #[.val (.ref a1), .val (.ref a2), .val (.int (0 : Int32)), .val (.int (2 : Int32)), .val .null, .val (.ref b_4)]) rfl kK) ?_
  show Goes pP eE bB _ (T_4.setTop (mkF mM 41 #[.val (.ref a1), .val (.ref a2), .val (.int (0 : Int32)), .val (.int (2 : Int32)), .val .null, .val (.ref b_4)] []))
  refine Goes.step (fun _ kK => XS.aloadN X_4.here hx rfl (hb hby own_d3_41) rfl rfl kK) ?_
  show Goes pP eE bB _ (T_4.setTop (mkF mM 42 #[.val (.ref a1), .val (.ref a2), .val (.int (0 : Int32)), .val (.int (2 : Int32)), .val .null, .val (.ref b_4)] [(.ref a1)]))
  refine Goes.step (fun _ kK => XS.aload X_4.here hx rfl (hb hby own_d3_42) rfl rfl kK) ?_
  show Goes pP eE bB _ (T_4.setTop (mkF mM 44 #[.val (.ref a1), .val (.ref a2), .val (.int (0 : Int32)), .val (.int (2 : Int32)), .val .null, .val (.ref b_4)] [(.ref b_4), (.ref a1)]))
  refine Goes.step (fun _ kK => XS.iloadN X_4.here hx rfl (hb hby own_d3_44) rfl kK) ?_
  show Goes pP eE bB _ (T_4.setTop (mkF mM 45 #[.val (.ref a1), .val (.ref a2), .val (.int (0 : Int32)), .val (.int (2 : Int32)), .val .null, .val (.ref b_4)] [(.int (2 : Int32)), (.ref b_4), (.ref a1)]))
  have u_9 := Nat.le_trans Z0 K_4.1
  refine Goes.callS X_4 hx hZ hown (hw _ (List.mem_of_getElem? (i := 27) rfl)) (hw _ (List.mem_of_getElem? (i := 28) rfl)) (hw _ (List.mem_of_getElem? (i := 21) rfl)) (hw _ (List.mem_of_getElem? (i := 29) rfl)) (by decide) e_4 (rmS3_2 l Z a0 hw b_4 h_4 n0 u_9 _ A_4) (W := 1) (by decide) (by decide) (by decide) (by decide) (g := (mkF mM 45 #[.val (.ref a1), .val (.ref a2), .val (.int (0 : Int32)), .val (.int (2 : Int32)), .val .null, .val (.ref b_4)] [(.int (2 : Int32)), (.ref b_4), (.ref a1)])) rfl (by rw [hml]; rfl) (rest := [(.ref a1)]) own_pd3 rfl rfl (by show 2 * 0 + _ ≤ _; exact Nat.le_of_eq rfl) (hb hby own_d3_45) ?_
  intro v_10 T_10 L_10 X_10 hQ_10
  obtain ⟨rfl, N_10q, e_10⟩ := hQ_10
  have N_10 := Fr.app N_4 N_10q
  show Goes pP eE bB _ (T_10.setTop (mkF mM 48 #[.val (.ref a1), .val (.ref a2), .val (.int (0 : Int32)), .val (.int (2 : Int32)), .val .null, .val (.ref b_4)] [(.int (0 : Int32)), (.ref a1)]))
  have u_11 := Fc.keep K_4 nin0
  have u_12 := E1.keep K_4
  obtain ⟨T_13, h_13, X_13, e_13, W_13, st_13⟩ := putF X_10 hx hZ hown (host := "") (Or.inl (hw _ (List.mem_of_getElem? (i := 30) rfl))) Via.refl e_10 u_11 u_12 (Or.inr ⟨(hw _ (List.mem_of_getElem? (i := 31) rfl)), rfl, hnm⟩) (hw _ (List.mem_of_getElem? (i := 5) rfl)) (ty := .byte) (by decide) rfl rfl (g := (mkF mM 48 #[.val (.ref a1), .val (.ref a2), .val (.int (0 : Int32)), .val (.int (2 : Int32)), .val .null, .val (.ref b_4)] [(.int (0 : Int32)), (.ref a1)])) rfl rfl (hb hby own_d3_48)
  have u_14 := u_11.same W_13
  have N_13 := Fr.snoc X_13 N_10 g1
  refine Goes.step st_13 ?_
  show Goes pP eE bB _ (T_13.setTop (mkF mM 51 #[.val (.ref a1), .val (.ref a2), .val (.int (0 : Int32)), .val (.int (2 : Int32)), .val .null, .val (.ref b_4)] []))
  refine Goes.step (fun _ kK => XS.aloadN X_13.here hx rfl (hb hby own_d3_51) rfl rfl kK) ?_
  show Goes pP eE bB _ (T_13.setTop (mkF mM 52 #[.val (.ref a1), .val (.ref a2), .val (.int (0 : Int32)), .val (.int (2 : Int32)), .val .null, .val (.ref b_4)] [(.ref a1)]))
  refine Goes.step (fun _ kK => XS.aload X_13.here hx rfl (hb hby own_d3_52) rfl rfl kK) ?_
  show Goes pP eE bB _ (T_13.setTop (mkF mM 54 #[.val (.ref a1), .val (.ref a2), .val (.int (0 : Int32)), .val (.int (2 : Int32)), .val .null, .val (.ref b_4)] [(.ref b_4), (.ref a1)]))
  have u_15 := Fv.keep K_4 nin0
  have u_16 := u_15.other W_13 (Or.inr (slot_ne (Or.inr (hw _ (List.mem_of_getElem? (i := 33) rfl))) (Or.inr (hw _ (List.mem_of_getElem? (i := 31) rfl))) (by decide) (t := (.array .byte)) (t' := .byte) (by decide) (by decide)))
  have u_17 := u_12.wr W_13
  obtain ⟨T_18, h_18, X_18, e_18, W_18, st_18⟩ := putF X_13 hx hZ hown (host := "") (Or.inl (hw _ (List.mem_of_getElem? (i := 32) rfl))) Via.refl e_13 u_16 u_17 (Or.inr ⟨(hw _ (List.mem_of_getElem? (i := 33) rfl)), rfl, hnm⟩) (hw _ (List.mem_of_getElem? (i := 5) rfl)) (ty := (.array .byte)) (by decide) rfl rfl (g := (mkF mM 54 #[.val (.ref a1), .val (.ref a2), .val (.int (0 : Int32)), .val (.int (2 : Int32)), .val .null, .val (.ref b_4)] [(.ref b_4), (.ref a1)])) rfl rfl (hb hby own_d3_54)
  have u_19 := u_16.same W_18
  have N_18 := Fr.snoc X_18 N_13 g1
  refine Goes.step st_18 ?_
  show Goes pP eE bB _ (T_18.setTop (mkF mM 57 #[.val (.ref a1), .val (.ref a2), .val (.int (0 : Int32)), .val (.int (2 : Int32)), .val .null, .val (.ref b_4)] []))
  refine Goes.ret0 X_18 hx hlk hret (hb hby own_d3_57) (by decide) (by decide) ?_
  have u_20 := (Keep.refl h0 [a1]).trans K_4 all0
  have u_21 := u_20.wr W_13 (Or.inl (List.mem_of_getElem? (i := 0) rfl))
  have u_22 := u_21.wr W_18 (Or.inl (List.mem_of_getElem? (i := 0) rfl))
  have u_23 := u_14.other W_18 (Or.inr (slot_ne (Or.inr (hw _ (List.mem_of_getElem? (i := 31) rfl))) (Or.inr (hw _ (List.mem_of_getElem? (i := 33) rfl))) (by decide) (t := .byte) (t' := (.array .byte)) (by decide) (by decide)))
  have u_24 := A_4.other W_13 (Nat.ne_of_gt u_6)
  have u_25 := u_24.other W_18 (Nat.ne_of_gt u_6)
  have u_26 := M_4.wr W_13
  have u_27 := u_26.wr W_18
  exact ⟨rfl, N_18, by rw [e_18]; exact u_22, by rw [e_18]; exact u_23, b_4, by rw [e_18]; exact u_19, u_8, by rw [e_18]; exact u_25, by rw [e_18]; exact u_27⟩
set_option maxRecDepth 65536 in
set_option maxHeartbeats 40000000 in
theorem rmS5_2 (l : Launch) (Z : State) (a0 : Array Value) (hw : ∀ d ∈ tables_1, d.before a0 Z = true) (a1 a2 : Addr) (c0 c1 : Int32) (cs : Int32) (h0 : Heap) (n0 : Nat) (Z0 : n0 ≤ h0.size) (Scs : Sta Z Z.heap "java/lang/String" "COMPACT_STRINGS" "Z" (.int cs)) (hcs : ¬ (cs = (0 : Int32))) (O0 : Old Z n0 h0) (f : Nat → Value) (A2 : Afn Z h0 a2 .char 2 f) (E1 : Exa Z h0 a1 "java/lang/String") (g1 : n0 ≤ a1) (Fc : Fld Z h0 a1 "java/lang/String" "coder" "B" (.int (0 : Int32))) (Fv : Fld Z h0 a1 "java/lang/String" "value" "[B" .null) (hf0 : f 0 = .int c0) (hf1 : f 1 = .int c1) (hc0 : ¬ ((255 : Int32) < c0)) (hc1 : ¬ ((255 : Int32) < c1)) :
    Con l Z (⟨"java/lang/String", "<init>", "([C)V"⟩ : MethodName) jdk_42_method_3_code 2 none ({ frames := 3, cells := 1, slots := 2, locals := 52 } : Room) #[(.ref a1), (.ref a2)] h0 (fun v h L => v = none ∧ Fr n0 L ∧ Keep h0 h [a1] ∧ Fld Z h a1 "java/lang/String" "coder" "B" (.int (0 : Int32)) ∧ ∃ x, Fld Z h a1 "java/lang/String" "value" "[B" (.ref x) ∧ h0.size ≤ x ∧ Afn Z h x .byte 2 (own_bs [c0, c1]) ∧ Exa Z h x "[B") := by
  refine Con.body (plainFor_of_name own_pn0) ?_
  intro pP eE sS mM bB mT cC s₁ hx hby hml hZ hown hnm hret hlk X0 e0
  have hown : sS.vm.findClass "java/lang/String" = some mM.cls := hown
  have hml : cC.maxLocals = 2 := hml
  have N0 := Fr.nil n0
  have ef : entryFrame mM #[(.ref a1), (.ref a2)] 2 = mkF mM 0 #[.val (.ref a1), .val (.ref a2)] [] := by first | (simp [entryFrame, mkF, argsToLocals, Value.category]; done) | rfl
  rw [ef]
  show Goes pP eE bB _ (s₁.setTop (mkF mM 0 #[.val (.ref a1), .val (.ref a2)] []))
  refine Goes.step (fun _ kK => XS.aloadN X0.here hx rfl (hb hby own_d2_0) rfl rfl kK) ?_
  show Goes pP eE bB _ (s₁.setTop (mkF mM 1 #[.val (.ref a1), .val (.ref a2)] [(.ref a1)]))
  refine Goes.step (fun _ kK => XS.aloadN X0.here hx rfl (hb hby own_d2_1) rfl rfl kK) ?_
  show Goes pP eE bB _ (s₁.setTop (mkF mM 2 #[.val (.ref a1), .val (.ref a2)] [(.ref a2), (.ref a1)]))
  refine Goes.step (fun _ kK => XS.iconst X0.here hx rfl (hb hby own_d2_2) kK) ?_
  show Goes pP eE bB _ (s₁.setTop (mkF mM 3 #[.val (.ref a1), .val (.ref a2)] [(.int (0 : Int32)), (.ref a2), (.ref a1)]))
  refine Goes.step (fun _ kK => XS.aloadN X0.here hx rfl (hb hby own_d2_3) rfl rfl kK) ?_
  show Goes pP eE bB _ (s₁.setTop (mkF mM 4 #[.val (.ref a1), .val (.ref a2)] [(.ref a2), (.int (0 : Int32)), (.ref a2), (.ref a1)]))
  refine Goes.alen X0 hx hZ e0 A2 (z := (2 : Int32)) (by decide) (g := (mkF mM 4 #[.val (.ref a1), .val (.ref a2)] [(.ref a2), (.int (0 : Int32)), (.ref a2), (.ref a1)])) rfl rfl (hb hby own_d2_4) ?_
  show Goes pP eE bB _ (s₁.setTop (mkF mM 5 #[.val (.ref a1), .val (.ref a2)] [(.int (2 : Int32)), (.int (0 : Int32)), (.ref a2), (.ref a1)]))
  refine Goes.step (fun _ kK => XS.aconstNull X0.here hx rfl (hb hby own_d2_5) kK) ?_
  show Goes pP eE bB _ (s₁.setTop (mkF mM 6 #[.val (.ref a1), .val (.ref a2)] [.null, (.int (2 : Int32)), (.int (0 : Int32)), (.ref a2), (.ref a1)]))
  refine Goes.callI X0 hx hZ rfl hown (hw _ (List.mem_of_getElem? (i := 11) rfl)) (hw _ (List.mem_of_getElem? (i := 12) rfl)) (hw _ (List.mem_of_getElem? (i := 14) rfl)) (hw _ (List.mem_of_getElem? (i := 6) rfl)) (by decide) e0 (rmS4_2 l Z a0 hw a1 a2 c0 c1 cs h0 n0 Z0 Scs hcs O0 _ A2 E1 g1 Fc Fv hf0 hf1 hc0 hc1) (W := 0) (by decide) (by decide) (by decide) (by decide) (g := (mkF mM 6 #[.val (.ref a1), .val (.ref a2)] [.null, (.int (2 : Int32)), (.int (0 : Int32)), (.ref a2), (.ref a1)])) rfl (by rw [hml]; rfl) (rest := []) own_pd0 rfl rfl (by show 2 * 0 + _ ≤ _; exact Nat.le_of_eq rfl) (hb hby own_d2_6) ?_
  intro v_1 T_1 L_1 X_1 hQ_1
  generalize e_1 : T_1.heap = h_1 at hQ_1
  obtain ⟨rfl, N_1q, K_1, F_1c, b_1, F_1v, s_1, A_1, M_1⟩ := hQ_1
  have N_1 := Fr.app N0 N_1q
  have u_2 : a2 < b_1 := Nat.lt_of_lt_of_le (A2).lt s_1
  have u_3 : a1 < b_1 := Nat.lt_of_lt_of_le (E1).lt s_1
  have u_4 : n0 ≤ b_1 := Nat.le_trans Z0 s_1
  have u_5 : h0.size ≤ b_1 := Nat.le_trans ((Keep.refl h0 [a1])).1 s_1
  show Goes pP eE bB _ (T_1.setTop (mkF mM 9 #[.val (.ref a1), .val (.ref a2)] []))
  refine Goes.ret0 X_1 hx hlk hret (hb hby own_d2_9) (by decide) (by decide) ?_
  have u_6 := (Keep.refl h0 [a1]).trans K_1 (allS (Or.inl (List.mem_of_getElem? (i := 0) rfl)) all0)
  exact ⟨rfl, N_1, by rw [e_1]; exact u_6, by rw [e_1]; exact F_1c, b_1, by rw [e_1]; exact F_1v, u_5, by rw [e_1]; exact A_1, by rw [e_1]; exact M_1⟩
theorem own_ch (x : Int32) : ¬ ((255 : Int32) < nar .char ((x &&& (255 : Int32)).toUInt32.toUInt16.toUInt32.toInt32)) := by
  rw [i2c_mask]
  show ¬ ((255 : Int32) < (x &&& (255 : Int32)).toUInt32.toUInt16.toUInt32.toInt32)
  rw [i2c_mask]
  have hm : (x &&& (255 : Int32)).toInt = x.toInt % 2 ^ 8 := Jvm.Kit.i32_mask x 255 (k := 8) (by decide) (by decide)
  rw [Int32.lt_iff_toInt_lt, hm, show (255 : Int32).toInt = 255 from by decide]; omega
/-- null, or a String that stands in the heap -/
def Osv (Z : State) (h : Heap) (v : Value) : Prop := v = .null ∨ ∃ a : Addr, v = .ref a ∧ Exa Z h a "java/lang/String"
theorem Osv.ext {Z : State} {h h' : Heap} {v : Value} (H : Osv Z h v) (E : Ext h h') : Osv Z h' v := H.imp id fun ⟨a, q, M⟩ => ⟨a, q, M.ext E⟩
theorem Osv.wr {Z : State} {h h' : Heap} {v w : Value} {a : Addr} {i : Nat} (H : Osv Z h v) (W : Wr h h' a i w) : Osv Z h' v := H.imp id fun ⟨a, q, M⟩ => ⟨a, q, M.wr W⟩
theorem Osv.keep {Z : State} {h h' : Heap} {v : Value} {ws : List Addr} (H : Osv Z h v) (K : Keep h h' ws) : Osv Z h' v := H.imp id fun ⟨a, q, M⟩ => ⟨a, q, M.keep K⟩
theorem Osv.isRef {Z : State} {h : Heap} {v : Value} (H : Osv Z h v) : v.isRef = true := by
  rcases H with rfl | ⟨a, rfl, -⟩ <;> rfl
theorem own_narR {c : String} {v : Value} (h : v.isRef = true) : narrow (.object c) v = v := by
  cases v <;> first | rfl | cases h
theorem own_fitR {c : String} {v : Value} (h : v.isRef = true) : fits (.object c) v = true := by
  cases v <;> first | rfl | cases h
set_option maxRecDepth 65536 in
set_option maxHeartbeats 40000000 in
theorem rmD (l : Launch) (Z : State) (a0 : Array Value) (hw : ∀ d ∈ tables_1, d.before a0 Z = true) (p1 p2 : Int32) (cs : Int32) (h0 : Heap) (n0 : Nat) (Z0 : n0 ≤ h0.size) (Scs : Sta Z Z.heap "java/lang/String" "COMPACT_STRINGS" "Z" (.int cs)) (hcs : ¬ (cs = (0 : Int32))) (O0 : Old Z n0 h0) :
    ConH l Z own_EL [] (⟨"dev/callstitch/declaration/UriReferenceWithPathPinLaw", "draw", "(IZ)Ljava/lang/String;"⟩ : MethodName) method_3_code 5 (some (.object "java/lang/String")) ({ frames := 4, cells := 6, slots := 12, locals := 66 } : Room) #[(.int p1), (.int p2)] h0 (fun v h L => ∃ u, v = some u ∧ Fr n0 L ∧ Keep h0 h [] ∧ Osv Z h u) := by
  refine ConH.body (plainFor_of_name own_pn2) ?_
  intro pP eE sS vm0 mM bB mT cC s₁ hx hby hml hZ hown hnm hret hlk X0 e0 hS hs0 C0 sf0
  have hown : (sS.setVm vm0).vm.findClass "dev/callstitch/declaration/UriReferenceWithPathPinLaw" = some mM.cls := hown
  have hml : cC.maxLocals = 5 := hml
  have N0 := Fr.nil n0
  have ef : entryFrame mM #[(.int p1), (.int p2)] 5 = mkF mM 0 #[.val (.int p1), .val (.int p2), .unset, .unset, .unset] [] := by first | (simp [entryFrame, mkF, argsToLocals, Value.category]; done) | rfl
  rw [ef]
  show Goes pP eE bB _ (s₁.setTop (mkF mM 0 #[.val (.int p1), .val (.int p2), .unset, .unset, .unset] []))
  refine Goes.step (fun _ kK => XS.iloadN X0.here hx rfl (hb hby own_d1_0) rfl kK) ?_
  show Goes pP eE bB _ (s₁.setTop (mkF mM 1 #[.val (.int p1), .val (.int p2), .unset, .unset, .unset] [(.int p1)]))
  refine Goes.step (fun _ kK => XS.iconst X0.here hx rfl (hb hby own_d1_1) kK) ?_
  show Goes pP eE bB _ (s₁.setTop (mkF mM 2 #[.val (.int p1), .val (.int p2), .unset, .unset, .unset] [(.int (3 : Int32)), (.int p1)]))
  refine Goes.step (fun _ kK => XS.iand X0.here hx rfl (hb hby own_d1_2) rfl kK) ?_
  show Goes pP eE bB _ (s₁.setTop (mkF mM 3 #[.val (.int p1), .val (.int p2), .unset, .unset, .unset] [(.int (p1 &&& (3 : Int32)))]))
  refine Goes.step (fun _ kK => XS.istoreN X0.here hx rfl (hb hby own_d1_3) rfl (l' := #[.val (.int p1), .val (.int p2), .val (.int (p1 &&& (3 : Int32))), .unset, .unset]) rfl kK) ?_
  show Goes pP eE bB _ (s₁.setTop (mkF mM 4 #[.val (.int p1), .val (.int p2), .val (.int (p1 &&& (3 : Int32))), .unset, .unset] []))
  refine Goes.step (fun _ kK => XS.iloadN X0.here hx rfl (hb hby own_d1_4) rfl kK) ?_
  show Goes pP eE bB _ (s₁.setTop (mkF mM 5 #[.val (.int p1), .val (.int p2), .val (.int (p1 &&& (3 : Int32))), .unset, .unset] [(.int (p1 &&& (3 : Int32)))]))
  by_cases hc_1 : (p1 &&& (3 : Int32)) = (0 : Int32)
  · refine Goes.step (fun _ kK => XS.ifNo X0.here hx rfl (hb hby own_d1_5) rfl ((if0 _ _).trans (teq hc_1).2) kK) ?_
    show Goes pP eE bB _ (s₁.setTop (mkF mM 8 #[.val (.int p1), .val (.int p2), .val (.int (p1 &&& (3 : Int32))), .unset, .unset] []))
    refine Goes.step (fun _ kK => XS.iloadN X0.here hx rfl (hb hby own_d1_8) rfl kK) ?_
    show Goes pP eE bB _ (s₁.setTop (mkF mM 9 #[.val (.int p1), .val (.int p2), .val (.int (p1 &&& (3 : Int32))), .unset, .unset] [(.int p2)]))
    by_cases hc_2 : p2 = (0 : Int32)
    · refine Goes.step (fun _ kK => XS.ifYes X0.here hx rfl (pc0 := 9) (pc' := 14) rfl (hb hby own_d1_9) rfl ((if0 _ _).trans (teq hc_2).1) (by decide) (by decide) kK) ?_
      show Goes pP eE bB _ (s₁.setTop (mkF mM 14 #[.val (.int p1), .val (.int p2), .val (.int (p1 &&& (3 : Int32))), .unset, .unset] []))
      refine Goes.step (fun _ kK => XS.iconst X0.here hx rfl (hb hby own_d1_14) kK) ?_
      show Goes pP eE bB _ (s₁.setTop (mkF mM 15 #[.val (.int p1), .val (.int p2), .val (.int (p1 &&& (3 : Int32))), .unset, .unset] [(.int (2 : Int32))]))
      refine Goes.step (fun _ kK => XS.istoreN X0.here hx rfl (hb hby own_d1_15) rfl (l' := #[.val (.int p1), .val (.int p2), .val (.int (2 : Int32)), .unset, .unset]) rfl kK) ?_
      show Goes pP eE bB _ (s₁.setTop (mkF mM 16 #[.val (.int p1), .val (.int p2), .val (.int (2 : Int32)), .unset, .unset] []))
      refine Goes.step (fun _ kK => XS.iloadN X0.here hx rfl (hb hby own_d1_16) rfl kK) ?_
      show Goes pP eE bB _ (s₁.setTop (mkF mM 17 #[.val (.int p1), .val (.int p2), .val (.int (2 : Int32)), .unset, .unset] [(.int p1)]))
      refine Goes.step (fun _ kK => XS.iconst X0.here hx rfl (hb hby own_d1_17) kK) ?_
      show Goes pP eE bB _ (s₁.setTop (mkF mM 18 #[.val (.int p1), .val (.int p2), .val (.int (2 : Int32)), .unset, .unset] [(.int (2 : Int32)), (.int p1)]))
      refine Goes.step (fun _ kK => XS.iushr X0.here hx rfl (hb hby own_d1_18) rfl kK) ?_
      show Goes pP eE bB _ (s₁.setTop (mkF mM 19 #[.val (.int p1), .val (.int p2), .val (.int (2 : Int32)), .unset, .unset] [(.int ((p1.toUInt32 >>> ((2 : Int32) &&& 31).toUInt32).toInt32))]))
      refine Goes.step (fun _ kK => XS.sipush X0.here hx rfl (hb hby own_d1_19) kK) ?_
      show Goes pP eE bB _ (s₁.setTop (mkF mM 22 #[.val (.int p1), .val (.int p2), .val (.int (2 : Int32)), .unset, .unset] [(.int (255 : Int32)), (.int ((p1.toUInt32 >>> ((2 : Int32) &&& 31).toUInt32).toInt32))]))
      refine Goes.step (fun _ kK => XS.iand X0.here hx rfl (hb hby own_d1_22) rfl kK) ?_
      show Goes pP eE bB _ (s₁.setTop (mkF mM 23 #[.val (.int p1), .val (.int p2), .val (.int (2 : Int32)), .unset, .unset] [(.int (((p1.toUInt32 >>> ((2 : Int32) &&& 31).toUInt32).toInt32) &&& (255 : Int32)))]))
      refine Goes.step (fun _ kK => XS.i2c X0.here hx rfl (hb hby own_d1_23) rfl kK) ?_
      show Goes pP eE bB _ (s₁.setTop (mkF mM 24 #[.val (.int p1), .val (.int p2), .val (.int (2 : Int32)), .unset, .unset] [(.int ((((p1.toUInt32 >>> ((2 : Int32) &&& 31).toUInt32).toInt32) &&& (255 : Int32)).toUInt32.toUInt16.toUInt32.toInt32))]))
      refine Goes.step (fun _ kK => XS.istoreN X0.here hx rfl (hb hby own_d1_24) rfl (l' := #[.val (.int p1), .val (.int p2), .val (.int (2 : Int32)), .val (.int ((((p1.toUInt32 >>> ((2 : Int32) &&& 31).toUInt32).toInt32) &&& (255 : Int32)).toUInt32.toUInt16.toUInt32.toInt32)), .unset]) rfl kK) ?_
      show Goes pP eE bB _ (s₁.setTop (mkF mM 25 #[.val (.int p1), .val (.int p2), .val (.int (2 : Int32)), .val (.int ((((p1.toUInt32 >>> ((2 : Int32) &&& 31).toUInt32).toInt32) &&& (255 : Int32)).toUInt32.toUInt16.toUInt32.toInt32)), .unset] []))
      refine Goes.step (fun _ kK => XS.iloadN X0.here hx rfl (hb hby own_d1_25) rfl kK) ?_
      show Goes pP eE bB _ (s₁.setTop (mkF mM 26 #[.val (.int p1), .val (.int p2), .val (.int (2 : Int32)), .val (.int ((((p1.toUInt32 >>> ((2 : Int32) &&& 31).toUInt32).toInt32) &&& (255 : Int32)).toUInt32.toUInt16.toUInt32.toInt32)), .unset] [(.int p1)]))
      refine Goes.step (fun _ kK => XS.bipush X0.here hx rfl (hb hby own_d1_26) kK) ?_
      show Goes pP eE bB _ (s₁.setTop (mkF mM 28 #[.val (.int p1), .val (.int p2), .val (.int (2 : Int32)), .val (.int ((((p1.toUInt32 >>> ((2 : Int32) &&& 31).toUInt32).toInt32) &&& (255 : Int32)).toUInt32.toUInt16.toUInt32.toInt32)), .unset] [(.int (10 : Int32)), (.int p1)]))
      refine Goes.step (fun _ kK => XS.iushr X0.here hx rfl (hb hby own_d1_28) rfl kK) ?_
      show Goes pP eE bB _ (s₁.setTop (mkF mM 29 #[.val (.int p1), .val (.int p2), .val (.int (2 : Int32)), .val (.int ((((p1.toUInt32 >>> ((2 : Int32) &&& 31).toUInt32).toInt32) &&& (255 : Int32)).toUInt32.toUInt16.toUInt32.toInt32)), .unset] [(.int ((p1.toUInt32 >>> ((10 : Int32) &&& 31).toUInt32).toInt32))]))
      refine Goes.step (fun _ kK => XS.sipush X0.here hx rfl (hb hby own_d1_29) kK) ?_
      show Goes pP eE bB _ (s₁.setTop (mkF mM 32 #[.val (.int p1), .val (.int p2), .val (.int (2 : Int32)), .val (.int ((((p1.toUInt32 >>> ((2 : Int32) &&& 31).toUInt32).toInt32) &&& (255 : Int32)).toUInt32.toUInt16.toUInt32.toInt32)), .unset] [(.int (255 : Int32)), (.int ((p1.toUInt32 >>> ((10 : Int32) &&& 31).toUInt32).toInt32))]))
      refine Goes.step (fun _ kK => XS.iand X0.here hx rfl (hb hby own_d1_32) rfl kK) ?_
      show Goes pP eE bB _ (s₁.setTop (mkF mM 33 #[.val (.int p1), .val (.int p2), .val (.int (2 : Int32)), .val (.int ((((p1.toUInt32 >>> ((2 : Int32) &&& 31).toUInt32).toInt32) &&& (255 : Int32)).toUInt32.toUInt16.toUInt32.toInt32)), .unset] [(.int (((p1.toUInt32 >>> ((10 : Int32) &&& 31).toUInt32).toInt32) &&& (255 : Int32)))]))
      refine Goes.step (fun _ kK => XS.i2c X0.here hx rfl (hb hby own_d1_33) rfl kK) ?_
      show Goes pP eE bB _ (s₁.setTop (mkF mM 34 #[.val (.int p1), .val (.int p2), .val (.int (2 : Int32)), .val (.int ((((p1.toUInt32 >>> ((2 : Int32) &&& 31).toUInt32).toInt32) &&& (255 : Int32)).toUInt32.toUInt16.toUInt32.toInt32)), .unset] [(.int ((((p1.toUInt32 >>> ((10 : Int32) &&& 31).toUInt32).toInt32) &&& (255 : Int32)).toUInt32.toUInt16.toUInt32.toInt32))]))
      refine Goes.step (fun _ kK => XS.istore X0.here hx rfl (hb hby own_d1_34) rfl (l' := #[.val (.int p1), .val (.int p2), .val (.int (2 : Int32)), .val (.int ((((p1.toUInt32 >>> ((2 : Int32) &&& 31).toUInt32).toInt32) &&& (255 : Int32)).toUInt32.toUInt16.toUInt32.toInt32)), .val (.int ((((p1.toUInt32 >>> ((10 : Int32) &&& 31).toUInt32).toInt32) &&& (255 : Int32)).toUInt32.toUInt16.toUInt32.toInt32))]) rfl kK) ?_
      show Goes pP eE bB _ (s₁.setTop (mkF mM 36 #[.val (.int p1), .val (.int p2), .val (.int (2 : Int32)), .val (.int ((((p1.toUInt32 >>> ((2 : Int32) &&& 31).toUInt32).toInt32) &&& (255 : Int32)).toUInt32.toUInt16.toUInt32.toInt32)), .val (.int ((((p1.toUInt32 >>> ((10 : Int32) &&& 31).toUInt32).toInt32) &&& (255 : Int32)).toUInt32.toUInt16.toUInt32.toInt32))] []))
      refine Goes.step (fun _ kK => XS.iloadN X0.here hx rfl (hb hby own_d1_36) rfl kK) ?_
      show Goes pP eE bB _ (s₁.setTop (mkF mM 37 #[.val (.int p1), .val (.int p2), .val (.int (2 : Int32)), .val (.int ((((p1.toUInt32 >>> ((2 : Int32) &&& 31).toUInt32).toInt32) &&& (255 : Int32)).toUInt32.toUInt16.toUInt32.toInt32)), .val (.int ((((p1.toUInt32 >>> ((10 : Int32) &&& 31).toUInt32).toInt32) &&& (255 : Int32)).toUInt32.toUInt16.toUInt32.toInt32))] [(.int (2 : Int32))]))
      refine Goes.step (fun _ kK => XS.iconst X0.here hx rfl (hb hby own_d1_37) kK) ?_
      show Goes pP eE bB _ (s₁.setTop (mkF mM 38 #[.val (.int p1), .val (.int p2), .val (.int (2 : Int32)), .val (.int ((((p1.toUInt32 >>> ((2 : Int32) &&& 31).toUInt32).toInt32) &&& (255 : Int32)).toUInt32.toUInt16.toUInt32.toInt32)), .val (.int ((((p1.toUInt32 >>> ((10 : Int32) &&& 31).toUInt32).toInt32) &&& (255 : Int32)).toUInt32.toUInt16.toUInt32.toInt32))] [(.int (1 : Int32)), (.int (2 : Int32))]))
      refine Goes.step (fun _ kK => XS.icmpYes X0.here hx rfl (pc0 := 38) (pc' := 52) rfl (hb hby own_d1_38) rfl (feq (by decide)).2 (by decide) (by decide) kK) ?_
      show Goes pP eE bB _ (s₁.setTop (mkF mM 52 #[.val (.int p1), .val (.int p2), .val (.int (2 : Int32)), .val (.int ((((p1.toUInt32 >>> ((2 : Int32) &&& 31).toUInt32).toInt32) &&& (255 : Int32)).toUInt32.toUInt16.toUInt32.toInt32)), .val (.int ((((p1.toUInt32 >>> ((10 : Int32) &&& 31).toUInt32).toInt32) &&& (255 : Int32)).toUInt32.toUInt16.toUInt32.toInt32))] []))
      refine Goes.step (fun _ kK => XS.iloadN X0.here hx rfl (hb hby own_d1_52) rfl kK) ?_
      show Goes pP eE bB _ (s₁.setTop (mkF mM 53 #[.val (.int p1), .val (.int p2), .val (.int (2 : Int32)), .val (.int ((((p1.toUInt32 >>> ((2 : Int32) &&& 31).toUInt32).toInt32) &&& (255 : Int32)).toUInt32.toUInt16.toUInt32.toInt32)), .val (.int ((((p1.toUInt32 >>> ((10 : Int32) &&& 31).toUInt32).toInt32) &&& (255 : Int32)).toUInt32.toUInt16.toUInt32.toInt32))] [(.int (2 : Int32))]))
      refine Goes.step (fun _ kK => XS.iconst X0.here hx rfl (hb hby own_d1_53) kK) ?_
      show Goes pP eE bB _ (s₁.setTop (mkF mM 54 #[.val (.int p1), .val (.int p2), .val (.int (2 : Int32)), .val (.int ((((p1.toUInt32 >>> ((2 : Int32) &&& 31).toUInt32).toInt32) &&& (255 : Int32)).toUInt32.toUInt16.toUInt32.toInt32)), .val (.int ((((p1.toUInt32 >>> ((10 : Int32) &&& 31).toUInt32).toInt32) &&& (255 : Int32)).toUInt32.toUInt16.toUInt32.toInt32))] [(.int (2 : Int32)), (.int (2 : Int32))]))
      refine Goes.step (fun _ kK => XS.icmpNo X0.here hx rfl (hb hby own_d1_54) rfl (teq (by decide)).2 kK) ?_
      show Goes pP eE bB _ (s₁.setTop (mkF mM 57 #[.val (.int p1), .val (.int p2), .val (.int (2 : Int32)), .val (.int ((((p1.toUInt32 >>> ((2 : Int32) &&& 31).toUInt32).toInt32) &&& (255 : Int32)).toUInt32.toUInt16.toUInt32.toInt32)), .val (.int ((((p1.toUInt32 >>> ((10 : Int32) &&& 31).toUInt32).toInt32) &&& (255 : Int32)).toUInt32.toUInt16.toUInt32.toInt32))] []))
      obtain ⟨T_3, h_3, X_3, e_3, E_3, A_3, D_3, -, st_3⟩ := newO X0 hx hZ hown (hw _ (List.mem_of_getElem? (i := 4) rfl)) (hw _ (List.mem_of_getElem? (i := 5) rfl)) (hw _ (List.mem_of_getElem? (i := 6) rfl)) e0 (g := (mkF mM 57 #[.val (.int p1), .val (.int p2), .val (.int (2 : Int32)), .val (.int ((((p1.toUInt32 >>> ((2 : Int32) &&& 31).toUInt32).toInt32) &&& (255 : Int32)).toUInt32.toUInt16.toUInt32.toInt32)), .val (.int ((((p1.toUInt32 >>> ((10 : Int32) &&& 31).toUInt32).toInt32) &&& (255 : Int32)).toUInt32.toUInt16.toUInt32.toInt32))] [])) rfl (hb hby own_d1_57) (by decide) (by decide)
      obtain ⟨b_3, g_3⟩ : ∃ z, z = h0.size := ⟨_, rfl⟩
      rw [← g_3] at A_3 D_3 st_3
      have u_4 : n0 ≤ b_3 := Nat.le_trans Z0 (Nat.le_of_eq g_3.symm)
      have u_5 : h0.size ≤ b_3 := Nat.le_trans ((Keep.refl h0 [])).1 (Nat.le_of_eq g_3.symm)
      have u_6 : Fld Z h_3 b_3 "java/lang/String" "coder" "B" (.int (0 : Int32)) := D_3 (Or.inr (hw _ (List.mem_of_getElem? (i := 31) rfl))) (ty := .byte) (by decide)
      have u_7 : Fld Z h_3 b_3 "java/lang/String" "value" "[B" .null := D_3 (Or.inr (hw _ (List.mem_of_getElem? (i := 33) rfl))) (ty := (.array .byte)) (by decide)
      refine Goes.step st_3 ?_
      have u_8 := Safe.ext E_3 C0.1 (Safe.new (Nat.le_of_eq g_3.symm))
      have u_9 := C0.trans (CHr.ext E_3 C0.1)
      show Goes pP eE bB _ (T_3.setTop (mkF mM 60 #[.val (.int p1), .val (.int p2), .val (.int (2 : Int32)), .val (.int ((((p1.toUInt32 >>> ((2 : Int32) &&& 31).toUInt32).toInt32) &&& (255 : Int32)).toUInt32.toUInt16.toUInt32.toInt32)), .val (.int ((((p1.toUInt32 >>> ((10 : Int32) &&& 31).toUInt32).toInt32) &&& (255 : Int32)).toUInt32.toUInt16.toUInt32.toInt32))] [(.ref b_3)]))
      refine Goes.step (fun _ kK => XS.dup X_3.here hx rfl (hb hby own_d1_60) rfl rfl kK) ?_
      show Goes pP eE bB _ (T_3.setTop (mkF mM 61 #[.val (.int p1), .val (.int p2), .val (.int (2 : Int32)), .val (.int ((((p1.toUInt32 >>> ((2 : Int32) &&& 31).toUInt32).toInt32) &&& (255 : Int32)).toUInt32.toUInt16.toUInt32.toInt32)), .val (.int ((((p1.toUInt32 >>> ((10 : Int32) &&& 31).toUInt32).toInt32) &&& (255 : Int32)).toUInt32.toUInt16.toUInt32.toInt32))] [(.ref b_3), (.ref b_3)]))
      refine Goes.step (fun _ kK => XS.iconst X_3.here hx rfl (hb hby own_d1_61) kK) ?_
      show Goes pP eE bB _ (T_3.setTop (mkF mM 62 #[.val (.int p1), .val (.int p2), .val (.int (2 : Int32)), .val (.int ((((p1.toUInt32 >>> ((2 : Int32) &&& 31).toUInt32).toInt32) &&& (255 : Int32)).toUInt32.toUInt16.toUInt32.toInt32)), .val (.int ((((p1.toUInt32 >>> ((10 : Int32) &&& 31).toUInt32).toInt32) &&& (255 : Int32)).toUInt32.toUInt16.toUInt32.toInt32))] [(.int (1 : Int32)), (.ref b_3), (.ref b_3)]))
      obtain ⟨T_10, h_10, k_10, X_10, e_10, E_10, A_10, M_10, st_10⟩ := newPE X_3 hx hZ (hw _ (List.mem_of_getElem? (i := 7) rfl)) e_3 (g := (mkF mM 62 #[.val (.int p1), .val (.int p2), .val (.int (2 : Int32)), .val (.int ((((p1.toUInt32 >>> ((2 : Int32) &&& 31).toUInt32).toInt32) &&& (255 : Int32)).toUInt32.toUInt16.toUInt32.toInt32)), .val (.int ((((p1.toUInt32 >>> ((10 : Int32) &&& 31).toUInt32).toInt32) &&& (255 : Int32)).toUInt32.toUInt16.toUInt32.toInt32))] [(.int (1 : Int32)), (.ref b_3), (.ref b_3)])) rfl (hb hby own_d1_62) rfl (by decide) (cap := 1) (by decide) (by decide) (by decide) (by decide) (ad := "[C") rfl
      obtain ⟨b_10, g_10⟩ : ∃ z, z = h_3.size := ⟨_, rfl⟩
      rw [← g_10] at A_10 M_10 st_10
      have u_11 : b_3 < b_10 := Nat.lt_of_lt_of_le (A_3).lt (Nat.le_of_eq g_10.symm)
      have u_12 := Nat.le_trans Z0 E_3.1
      have u_13 : n0 ≤ b_10 := Nat.le_trans u_12 (Nat.le_of_eq g_10.symm)
      have u_14 := (Keep.refl h0 []).ext E_3
      have u_15 : h0.size ≤ b_10 := Nat.le_trans (u_14).1 (Nat.le_of_eq g_10.symm)
      have u_16 : Afn Z h_10 b_10 .char 1 (fun _ => (.int (0 : Int32))) := Afn.new (n := 1) A_10 (by decide)
      refine Goes.step st_10 ?_
      have u_17 := Safe.ext E_10 u_9.1 u_8
      have u_18 := Safe.ext E_10 u_9.1 (Safe.new (Nat.le_of_eq g_10.symm))
      have u_19 := u_9.trans (CHr.ext E_10 u_9.1)
      show Goes pP eE bB _ (T_10.setTop (mkF mM 64 #[.val (.int p1), .val (.int p2), .val (.int (2 : Int32)), .val (.int ((((p1.toUInt32 >>> ((2 : Int32) &&& 31).toUInt32).toInt32) &&& (255 : Int32)).toUInt32.toUInt16.toUInt32.toInt32)), .val (.int ((((p1.toUInt32 >>> ((10 : Int32) &&& 31).toUInt32).toInt32) &&& (255 : Int32)).toUInt32.toUInt16.toUInt32.toInt32))] [(.ref b_10), (.ref b_3), (.ref b_3)]))
      refine Goes.step (fun _ kK => XS.dup X_10.here hx rfl (hb hby own_d1_64) rfl rfl kK) ?_
      show Goes pP eE bB _ (T_10.setTop (mkF mM 65 #[.val (.int p1), .val (.int p2), .val (.int (2 : Int32)), .val (.int ((((p1.toUInt32 >>> ((2 : Int32) &&& 31).toUInt32).toInt32) &&& (255 : Int32)).toUInt32.toUInt16.toUInt32.toInt32)), .val (.int ((((p1.toUInt32 >>> ((10 : Int32) &&& 31).toUInt32).toInt32) &&& (255 : Int32)).toUInt32.toUInt16.toUInt32.toInt32))] [(.ref b_10), (.ref b_10), (.ref b_3), (.ref b_3)]))
      refine Goes.step (fun _ kK => XS.iconst X_10.here hx rfl (hb hby own_d1_65) kK) ?_
      show Goes pP eE bB _ (T_10.setTop (mkF mM 66 #[.val (.int p1), .val (.int p2), .val (.int (2 : Int32)), .val (.int ((((p1.toUInt32 >>> ((2 : Int32) &&& 31).toUInt32).toInt32) &&& (255 : Int32)).toUInt32.toUInt16.toUInt32.toInt32)), .val (.int ((((p1.toUInt32 >>> ((10 : Int32) &&& 31).toUInt32).toInt32) &&& (255 : Int32)).toUInt32.toUInt16.toUInt32.toInt32))] [(.int (0 : Int32)), (.ref b_10), (.ref b_10), (.ref b_3), (.ref b_3)]))
      refine Goes.step (fun _ kK => XS.iloadN X_10.here hx rfl (hb hby own_d1_66) rfl kK) ?_
      show Goes pP eE bB _ (T_10.setTop (mkF mM 67 #[.val (.int p1), .val (.int p2), .val (.int (2 : Int32)), .val (.int ((((p1.toUInt32 >>> ((2 : Int32) &&& 31).toUInt32).toInt32) &&& (255 : Int32)).toUInt32.toUInt16.toUInt32.toInt32)), .val (.int ((((p1.toUInt32 >>> ((10 : Int32) &&& 31).toUInt32).toInt32) &&& (255 : Int32)).toUInt32.toUInt16.toUInt32.toInt32))] [(.int ((((p1.toUInt32 >>> ((2 : Int32) &&& 31).toUInt32).toInt32) &&& (255 : Int32)).toUInt32.toUInt16.toUInt32.toInt32)), (.int (0 : Int32)), (.ref b_10), (.ref b_10), (.ref b_3), (.ref b_3)]))
      refine Goes.castore X_10 hx hZ e_10 u_16 (i := 0) (by decide) (by decide) (g := (mkF mM 67 #[.val (.int p1), .val (.int p2), .val (.int (2 : Int32)), .val (.int ((((p1.toUInt32 >>> ((2 : Int32) &&& 31).toUInt32).toInt32) &&& (255 : Int32)).toUInt32.toUInt16.toUInt32.toInt32)), .val (.int ((((p1.toUInt32 >>> ((10 : Int32) &&& 31).toUInt32).toInt32) &&& (255 : Int32)).toUInt32.toUInt16.toUInt32.toInt32))] [(.int ((((p1.toUInt32 >>> ((2 : Int32) &&& 31).toUInt32).toInt32) &&& (255 : Int32)).toUInt32.toUInt16.toUInt32.toInt32)), (.int (0 : Int32)), (.ref b_10), (.ref b_10), (.ref b_3), (.ref b_3)])) rfl rfl (hb hby own_d1_67) ?_
      intro T_20 h_20 X_20 e_20 W_20 A_20
      have N_20 := Fr.snoc X_20 N0 u_13
      have u_21 := Safe.wr W_20 u_18 u_19.1 u_17
      have u_22 := Safe.wr W_20 u_18 u_19.1 u_18
      have u_23 := u_19.trans (CHr.wr W_20 u_18 u_19.1)
      show Goes pP eE bB _ (T_20.setTop (mkF mM 68 #[.val (.int p1), .val (.int p2), .val (.int (2 : Int32)), .val (.int ((((p1.toUInt32 >>> ((2 : Int32) &&& 31).toUInt32).toInt32) &&& (255 : Int32)).toUInt32.toUInt16.toUInt32.toInt32)), .val (.int ((((p1.toUInt32 >>> ((10 : Int32) &&& 31).toUInt32).toInt32) &&& (255 : Int32)).toUInt32.toUInt16.toUInt32.toInt32))] [(.ref b_10), (.ref b_3), (.ref b_3)]))
      have u_24 := O0.ext E_3
      have u_25 := u_24.ext E_10
      have u_26 := u_25.wr W_20 u_13
      have u_27 := Nat.le_trans u_12 E_10.1
      have u_28 := Nat.le_trans u_27 (Keep.of_wr W_20).1
      have u_29 := A_3.ext E_10
      have u_30 := u_29.wr W_20
      have u_31 := u_6.ext E_10
      have u_32 := u_31.other W_20 (Or.inl (Nat.ne_of_lt u_11))
      have u_33 := u_7.ext E_10
      have u_34 := u_33.other W_20 (Or.inl (Nat.ne_of_lt u_11))
      refine Goes.callI X_20 hx hZ rfl hown (hw _ (List.mem_of_getElem? (i := 8) rfl)) (hw _ (List.mem_of_getElem? (i := 9) rfl)) (hw _ (List.mem_of_getElem? (i := 10) rfl)) (hw _ (List.mem_of_getElem? (i := 6) rfl)) (by decide) e_20 (rmS5_1 l Z a0 hw b_3 b_10 (nar .char (((p1.toUInt32 >>> ((2 : Int32) &&& 31).toUInt32).toInt32 &&& (255 : Int32)).toUInt32.toUInt16.toUInt32.toInt32)) cs h_20 n0 u_28 Scs hcs u_26 _ A_20 u_30 u_4 u_32 u_34 rfl (own_ch _)) (W := 1) (by decide) (by decide) (by decide) (by decide) (g := (mkF mM 68 #[.val (.int p1), .val (.int p2), .val (.int (2 : Int32)), .val (.int ((((p1.toUInt32 >>> ((2 : Int32) &&& 31).toUInt32).toInt32) &&& (255 : Int32)).toUInt32.toUInt16.toUInt32.toInt32)), .val (.int ((((p1.toUInt32 >>> ((10 : Int32) &&& 31).toUInt32).toInt32) &&& (255 : Int32)).toUInt32.toUInt16.toUInt32.toInt32))] [(.ref b_10), (.ref b_3), (.ref b_3)])) rfl (by rw [hml]; rfl) (rest := [(.ref b_3)]) own_pd4 rfl rfl (by show 2 * 0 + _ ≤ _; exact Nat.le_of_eq rfl) (hb hby own_d1_68) ?_
      intro v_35 T_35 L_35 X_35 hQ_35
      generalize e_35 : T_35.heap = h_35 at hQ_35
      obtain ⟨rfl, N_35q, K_35, F_35c, b_35, F_35v, s_35, A_35, M_35⟩ := hQ_35
      have N_35 := Fr.app N_20 N_35q
      have u_36 := Nat.lt_of_lt_of_le (A_3).lt E_10.1
      have u_37 := Nat.lt_of_lt_of_le u_36 (Keep.of_wr W_20).1
      have u_38 : b_3 < b_35 := Nat.lt_of_lt_of_le u_37 s_35
      have u_39 : b_10 < b_35 := Nat.lt_of_lt_of_le (A_20).lt s_35
      have u_40 : n0 ≤ b_35 := Nat.le_trans u_28 s_35
      have u_41 := u_14.ext E_10
      have u_42 := u_41.wr W_20 (Or.inr u_15)
      have u_43 : h0.size ≤ b_35 := Nat.le_trans (u_42).1 s_35
      have u_44 := Safe.keep K_35 (allS u_21 all0) u_23.1 u_21
      have u_45 := Safe.keep K_35 (allS u_21 all0) u_23.1 u_22
      have u_46 := u_23.trans (CHr.keep K_35 (allS u_21 all0) u_23.1)
      show Goes pP eE bB _ (T_35.setTop (mkF mM 71 #[.val (.int p1), .val (.int p2), .val (.int (2 : Int32)), .val (.int ((((p1.toUInt32 >>> ((2 : Int32) &&& 31).toUInt32).toInt32) &&& (255 : Int32)).toUInt32.toUInt16.toUInt32.toInt32)), .val (.int ((((p1.toUInt32 >>> ((10 : Int32) &&& 31).toUInt32).toInt32) &&& (255 : Int32)).toUInt32.toUInt16.toUInt32.toInt32))] [(.ref b_3)]))
      have u_47 := Nat.le_trans (Nat.le_refl h0.size) E_3.1
      have u_48 := Nat.le_trans u_47 E_10.1
      have u_49 := Nat.le_trans u_48 (Keep.of_wr W_20).1
      have u_50 := Nat.le_trans u_49 K_35.1
      refine Goes.retH X_35 hS (Nat.le_trans u_50 (Nat.le_of_eq (by rw [e_35]))) (own_atT X_35 hZ (own_hEL hw) e_35 hs0 u_46) hx hlk hret rfl (Or.inr (Or.inr (Or.inr (Or.inr ⟨rfl, rfl, rfl⟩)))) (hb hby own_d1_71) (by decide) (by decide) ?_
      have u_51 := u_30.keep K_35
      have u_52 := u_42.trans K_35 (allS (Or.inr u_5) all0)
      exact ⟨_, rfl, N_35, by rw [e_35]; exact u_52, Or.inr ⟨b_3, rfl, by rw [e_35]; exact u_51⟩⟩
    · refine Goes.step (fun _ kK => XS.ifNo X0.here hx rfl (hb hby own_d1_9) rfl ((if0 _ _).trans (feq hc_2).1) kK) ?_
      show Goes pP eE bB _ (s₁.setTop (mkF mM 12 #[.val (.int p1), .val (.int p2), .val (.int (p1 &&& (3 : Int32))), .unset, .unset] []))
      refine Goes.step (fun _ kK => XS.aconstNull X0.here hx rfl (hb hby own_d1_12) kK) ?_
      show Goes pP eE bB _ (s₁.setTop (mkF mM 13 #[.val (.int p1), .val (.int p2), .val (.int (p1 &&& (3 : Int32))), .unset, .unset] [.null]))
      refine Goes.retH X0 hS (Nat.le_trans (Nat.le_refl h0.size) (Nat.le_of_eq (by rw [e0]))) (own_atT X0 hZ (own_hEL hw) e0 hs0 C0) hx hlk hret rfl (Or.inr (Or.inr (Or.inr (Or.inr ⟨rfl, rfl, rfl⟩)))) (hb hby own_d1_13) (by decide) (by decide) ?_
      exact ⟨_, rfl, N0, by rw [e0]; exact (Keep.refl h0 []), Or.inl rfl⟩
  · refine Goes.step (fun _ kK => XS.ifYes X0.here hx rfl (pc0 := 5) (pc' := 16) rfl (hb hby own_d1_5) rfl ((if0 _ _).trans (feq hc_1).2) (by decide) (by decide) kK) ?_
    show Goes pP eE bB _ (s₁.setTop (mkF mM 16 #[.val (.int p1), .val (.int p2), .val (.int (p1 &&& (3 : Int32))), .unset, .unset] []))
    refine Goes.step (fun _ kK => XS.iloadN X0.here hx rfl (hb hby own_d1_16) rfl kK) ?_
    show Goes pP eE bB _ (s₁.setTop (mkF mM 17 #[.val (.int p1), .val (.int p2), .val (.int (p1 &&& (3 : Int32))), .unset, .unset] [(.int p1)]))
    refine Goes.step (fun _ kK => XS.iconst X0.here hx rfl (hb hby own_d1_17) kK) ?_
    show Goes pP eE bB _ (s₁.setTop (mkF mM 18 #[.val (.int p1), .val (.int p2), .val (.int (p1 &&& (3 : Int32))), .unset, .unset] [(.int (2 : Int32)), (.int p1)]))
    refine Goes.step (fun _ kK => XS.iushr X0.here hx rfl (hb hby own_d1_18) rfl kK) ?_
    show Goes pP eE bB _ (s₁.setTop (mkF mM 19 #[.val (.int p1), .val (.int p2), .val (.int (p1 &&& (3 : Int32))), .unset, .unset] [(.int ((p1.toUInt32 >>> ((2 : Int32) &&& 31).toUInt32).toInt32))]))
    refine Goes.step (fun _ kK => XS.sipush X0.here hx rfl (hb hby own_d1_19) kK) ?_
    show Goes pP eE bB _ (s₁.setTop (mkF mM 22 #[.val (.int p1), .val (.int p2), .val (.int (p1 &&& (3 : Int32))), .unset, .unset] [(.int (255 : Int32)), (.int ((p1.toUInt32 >>> ((2 : Int32) &&& 31).toUInt32).toInt32))]))
    refine Goes.step (fun _ kK => XS.iand X0.here hx rfl (hb hby own_d1_22) rfl kK) ?_
    show Goes pP eE bB _ (s₁.setTop (mkF mM 23 #[.val (.int p1), .val (.int p2), .val (.int (p1 &&& (3 : Int32))), .unset, .unset] [(.int (((p1.toUInt32 >>> ((2 : Int32) &&& 31).toUInt32).toInt32) &&& (255 : Int32)))]))
    refine Goes.step (fun _ kK => XS.i2c X0.here hx rfl (hb hby own_d1_23) rfl kK) ?_
    show Goes pP eE bB _ (s₁.setTop (mkF mM 24 #[.val (.int p1), .val (.int p2), .val (.int (p1 &&& (3 : Int32))), .unset, .unset] [(.int ((((p1.toUInt32 >>> ((2 : Int32) &&& 31).toUInt32).toInt32) &&& (255 : Int32)).toUInt32.toUInt16.toUInt32.toInt32))]))
    refine Goes.step (fun _ kK => XS.istoreN X0.here hx rfl (hb hby own_d1_24) rfl (l' := #[.val (.int p1), .val (.int p2), .val (.int (p1 &&& (3 : Int32))), .val (.int ((((p1.toUInt32 >>> ((2 : Int32) &&& 31).toUInt32).toInt32) &&& (255 : Int32)).toUInt32.toUInt16.toUInt32.toInt32)), .unset]) rfl kK) ?_
    show Goes pP eE bB _ (s₁.setTop (mkF mM 25 #[.val (.int p1), .val (.int p2), .val (.int (p1 &&& (3 : Int32))), .val (.int ((((p1.toUInt32 >>> ((2 : Int32) &&& 31).toUInt32).toInt32) &&& (255 : Int32)).toUInt32.toUInt16.toUInt32.toInt32)), .unset] []))
    refine Goes.step (fun _ kK => XS.iloadN X0.here hx rfl (hb hby own_d1_25) rfl kK) ?_
    show Goes pP eE bB _ (s₁.setTop (mkF mM 26 #[.val (.int p1), .val (.int p2), .val (.int (p1 &&& (3 : Int32))), .val (.int ((((p1.toUInt32 >>> ((2 : Int32) &&& 31).toUInt32).toInt32) &&& (255 : Int32)).toUInt32.toUInt16.toUInt32.toInt32)), .unset] [(.int p1)]))
    refine Goes.step (fun _ kK => XS.bipush X0.here hx rfl (hb hby own_d1_26) kK) ?_
    show Goes pP eE bB _ (s₁.setTop (mkF mM 28 #[.val (.int p1), .val (.int p2), .val (.int (p1 &&& (3 : Int32))), .val (.int ((((p1.toUInt32 >>> ((2 : Int32) &&& 31).toUInt32).toInt32) &&& (255 : Int32)).toUInt32.toUInt16.toUInt32.toInt32)), .unset] [(.int (10 : Int32)), (.int p1)]))
    refine Goes.step (fun _ kK => XS.iushr X0.here hx rfl (hb hby own_d1_28) rfl kK) ?_
    show Goes pP eE bB _ (s₁.setTop (mkF mM 29 #[.val (.int p1), .val (.int p2), .val (.int (p1 &&& (3 : Int32))), .val (.int ((((p1.toUInt32 >>> ((2 : Int32) &&& 31).toUInt32).toInt32) &&& (255 : Int32)).toUInt32.toUInt16.toUInt32.toInt32)), .unset] [(.int ((p1.toUInt32 >>> ((10 : Int32) &&& 31).toUInt32).toInt32))]))
    refine Goes.step (fun _ kK => XS.sipush X0.here hx rfl (hb hby own_d1_29) kK) ?_
    show Goes pP eE bB _ (s₁.setTop (mkF mM 32 #[.val (.int p1), .val (.int p2), .val (.int (p1 &&& (3 : Int32))), .val (.int ((((p1.toUInt32 >>> ((2 : Int32) &&& 31).toUInt32).toInt32) &&& (255 : Int32)).toUInt32.toUInt16.toUInt32.toInt32)), .unset] [(.int (255 : Int32)), (.int ((p1.toUInt32 >>> ((10 : Int32) &&& 31).toUInt32).toInt32))]))
    refine Goes.step (fun _ kK => XS.iand X0.here hx rfl (hb hby own_d1_32) rfl kK) ?_
    show Goes pP eE bB _ (s₁.setTop (mkF mM 33 #[.val (.int p1), .val (.int p2), .val (.int (p1 &&& (3 : Int32))), .val (.int ((((p1.toUInt32 >>> ((2 : Int32) &&& 31).toUInt32).toInt32) &&& (255 : Int32)).toUInt32.toUInt16.toUInt32.toInt32)), .unset] [(.int (((p1.toUInt32 >>> ((10 : Int32) &&& 31).toUInt32).toInt32) &&& (255 : Int32)))]))
    refine Goes.step (fun _ kK => XS.i2c X0.here hx rfl (hb hby own_d1_33) rfl kK) ?_
    show Goes pP eE bB _ (s₁.setTop (mkF mM 34 #[.val (.int p1), .val (.int p2), .val (.int (p1 &&& (3 : Int32))), .val (.int ((((p1.toUInt32 >>> ((2 : Int32) &&& 31).toUInt32).toInt32) &&& (255 : Int32)).toUInt32.toUInt16.toUInt32.toInt32)), .unset] [(.int ((((p1.toUInt32 >>> ((10 : Int32) &&& 31).toUInt32).toInt32) &&& (255 : Int32)).toUInt32.toUInt16.toUInt32.toInt32))]))
    refine Goes.step (fun _ kK => XS.istore X0.here hx rfl (hb hby own_d1_34) rfl (l' := #[.val (.int p1), .val (.int p2), .val (.int (p1 &&& (3 : Int32))), .val (.int ((((p1.toUInt32 >>> ((2 : Int32) &&& 31).toUInt32).toInt32) &&& (255 : Int32)).toUInt32.toUInt16.toUInt32.toInt32)), .val (.int ((((p1.toUInt32 >>> ((10 : Int32) &&& 31).toUInt32).toInt32) &&& (255 : Int32)).toUInt32.toUInt16.toUInt32.toInt32))]) rfl kK) ?_
    show Goes pP eE bB _ (s₁.setTop (mkF mM 36 #[.val (.int p1), .val (.int p2), .val (.int (p1 &&& (3 : Int32))), .val (.int ((((p1.toUInt32 >>> ((2 : Int32) &&& 31).toUInt32).toInt32) &&& (255 : Int32)).toUInt32.toUInt16.toUInt32.toInt32)), .val (.int ((((p1.toUInt32 >>> ((10 : Int32) &&& 31).toUInt32).toInt32) &&& (255 : Int32)).toUInt32.toUInt16.toUInt32.toInt32))] []))
    refine Goes.step (fun _ kK => XS.iloadN X0.here hx rfl (hb hby own_d1_36) rfl kK) ?_
    show Goes pP eE bB _ (s₁.setTop (mkF mM 37 #[.val (.int p1), .val (.int p2), .val (.int (p1 &&& (3 : Int32))), .val (.int ((((p1.toUInt32 >>> ((2 : Int32) &&& 31).toUInt32).toInt32) &&& (255 : Int32)).toUInt32.toUInt16.toUInt32.toInt32)), .val (.int ((((p1.toUInt32 >>> ((10 : Int32) &&& 31).toUInt32).toInt32) &&& (255 : Int32)).toUInt32.toUInt16.toUInt32.toInt32))] [(.int (p1 &&& (3 : Int32)))]))
    refine Goes.step (fun _ kK => XS.iconst X0.here hx rfl (hb hby own_d1_37) kK) ?_
    show Goes pP eE bB _ (s₁.setTop (mkF mM 38 #[.val (.int p1), .val (.int p2), .val (.int (p1 &&& (3 : Int32))), .val (.int ((((p1.toUInt32 >>> ((2 : Int32) &&& 31).toUInt32).toInt32) &&& (255 : Int32)).toUInt32.toUInt16.toUInt32.toInt32)), .val (.int ((((p1.toUInt32 >>> ((10 : Int32) &&& 31).toUInt32).toInt32) &&& (255 : Int32)).toUInt32.toUInt16.toUInt32.toInt32))] [(.int (1 : Int32)), (.int (p1 &&& (3 : Int32)))]))
    by_cases hc_53 : (p1 &&& (3 : Int32)) = (1 : Int32)
    · refine Goes.step (fun _ kK => XS.icmpNo X0.here hx rfl (hb hby own_d1_38) rfl (teq hc_53).2 kK) ?_
      show Goes pP eE bB _ (s₁.setTop (mkF mM 41 #[.val (.int p1), .val (.int p2), .val (.int (p1 &&& (3 : Int32))), .val (.int ((((p1.toUInt32 >>> ((2 : Int32) &&& 31).toUInt32).toInt32) &&& (255 : Int32)).toUInt32.toUInt16.toUInt32.toInt32)), .val (.int ((((p1.toUInt32 >>> ((10 : Int32) &&& 31).toUInt32).toInt32) &&& (255 : Int32)).toUInt32.toUInt16.toUInt32.toInt32))] []))
      obtain ⟨T_54, h_54, X_54, e_54, E_54, A_54, D_54, -, st_54⟩ := newO X0 hx hZ hown (hw _ (List.mem_of_getElem? (i := 4) rfl)) (hw _ (List.mem_of_getElem? (i := 5) rfl)) (hw _ (List.mem_of_getElem? (i := 6) rfl)) e0 (g := (mkF mM 41 #[.val (.int p1), .val (.int p2), .val (.int (p1 &&& (3 : Int32))), .val (.int ((((p1.toUInt32 >>> ((2 : Int32) &&& 31).toUInt32).toInt32) &&& (255 : Int32)).toUInt32.toUInt16.toUInt32.toInt32)), .val (.int ((((p1.toUInt32 >>> ((10 : Int32) &&& 31).toUInt32).toInt32) &&& (255 : Int32)).toUInt32.toUInt16.toUInt32.toInt32))] [])) rfl (hb hby own_d1_41) (by decide) (by decide)
      obtain ⟨b_54, g_54⟩ : ∃ z, z = h0.size := ⟨_, rfl⟩
      rw [← g_54] at A_54 D_54 st_54
      have u_55 : n0 ≤ b_54 := Nat.le_trans Z0 (Nat.le_of_eq g_54.symm)
      have u_56 : h0.size ≤ b_54 := Nat.le_trans ((Keep.refl h0 [])).1 (Nat.le_of_eq g_54.symm)
      have u_57 : Fld Z h_54 b_54 "java/lang/String" "coder" "B" (.int (0 : Int32)) := D_54 (Or.inr (hw _ (List.mem_of_getElem? (i := 31) rfl))) (ty := .byte) (by decide)
      have u_58 : Fld Z h_54 b_54 "java/lang/String" "value" "[B" .null := D_54 (Or.inr (hw _ (List.mem_of_getElem? (i := 33) rfl))) (ty := (.array .byte)) (by decide)
      refine Goes.step st_54 ?_
      have u_59 := Safe.ext E_54 C0.1 (Safe.new (Nat.le_of_eq g_54.symm))
      have u_60 := C0.trans (CHr.ext E_54 C0.1)
      show Goes pP eE bB _ (T_54.setTop (mkF mM 44 #[.val (.int p1), .val (.int p2), .val (.int (p1 &&& (3 : Int32))), .val (.int ((((p1.toUInt32 >>> ((2 : Int32) &&& 31).toUInt32).toInt32) &&& (255 : Int32)).toUInt32.toUInt16.toUInt32.toInt32)), .val (.int ((((p1.toUInt32 >>> ((10 : Int32) &&& 31).toUInt32).toInt32) &&& (255 : Int32)).toUInt32.toUInt16.toUInt32.toInt32))] [(.ref b_54)]))
      refine Goes.step (fun _ kK => XS.dup X_54.here hx rfl (hb hby own_d1_44) rfl rfl kK) ?_
      show Goes pP eE bB _ (T_54.setTop (mkF mM 45 #[.val (.int p1), .val (.int p2), .val (.int (p1 &&& (3 : Int32))), .val (.int ((((p1.toUInt32 >>> ((2 : Int32) &&& 31).toUInt32).toInt32) &&& (255 : Int32)).toUInt32.toUInt16.toUInt32.toInt32)), .val (.int ((((p1.toUInt32 >>> ((10 : Int32) &&& 31).toUInt32).toInt32) &&& (255 : Int32)).toUInt32.toUInt16.toUInt32.toInt32))] [(.ref b_54), (.ref b_54)]))
      refine Goes.step (fun _ kK => XS.iconst X_54.here hx rfl (hb hby own_d1_45) kK) ?_
      show Goes pP eE bB _ (T_54.setTop (mkF mM 46 #[.val (.int p1), .val (.int p2), .val (.int (p1 &&& (3 : Int32))), .val (.int ((((p1.toUInt32 >>> ((2 : Int32) &&& 31).toUInt32).toInt32) &&& (255 : Int32)).toUInt32.toUInt16.toUInt32.toInt32)), .val (.int ((((p1.toUInt32 >>> ((10 : Int32) &&& 31).toUInt32).toInt32) &&& (255 : Int32)).toUInt32.toUInt16.toUInt32.toInt32))] [(.int (0 : Int32)), (.ref b_54), (.ref b_54)]))
      obtain ⟨T_61, h_61, k_61, X_61, e_61, E_61, A_61, M_61, st_61⟩ := newPE X_54 hx hZ (hw _ (List.mem_of_getElem? (i := 7) rfl)) e_54 (g := (mkF mM 46 #[.val (.int p1), .val (.int p2), .val (.int (p1 &&& (3 : Int32))), .val (.int ((((p1.toUInt32 >>> ((2 : Int32) &&& 31).toUInt32).toInt32) &&& (255 : Int32)).toUInt32.toUInt16.toUInt32.toInt32)), .val (.int ((((p1.toUInt32 >>> ((10 : Int32) &&& 31).toUInt32).toInt32) &&& (255 : Int32)).toUInt32.toUInt16.toUInt32.toInt32))] [(.int (0 : Int32)), (.ref b_54), (.ref b_54)])) rfl (hb hby own_d1_46) rfl (by decide) (cap := 0) (by decide) (by decide) (by decide) (by decide) (ad := "[C") rfl
      obtain ⟨b_61, g_61⟩ : ∃ z, z = h_54.size := ⟨_, rfl⟩
      rw [← g_61] at A_61 M_61 st_61
      have u_62 : b_54 < b_61 := Nat.lt_of_lt_of_le (A_54).lt (Nat.le_of_eq g_61.symm)
      have u_63 := Nat.le_trans Z0 E_54.1
      have u_64 : n0 ≤ b_61 := Nat.le_trans u_63 (Nat.le_of_eq g_61.symm)
      have u_65 := (Keep.refl h0 []).ext E_54
      have u_66 : h0.size ≤ b_61 := Nat.le_trans (u_65).1 (Nat.le_of_eq g_61.symm)
      have u_67 : Afn Z h_61 b_61 .char 0 (fun _ => (.int (0 : Int32))) := Afn.new (n := 0) A_61 (by decide)
      refine Goes.step st_61 ?_
      have u_68 := Safe.ext E_61 u_60.1 u_59
      have u_69 := Safe.ext E_61 u_60.1 (Safe.new (Nat.le_of_eq g_61.symm))
      have u_70 := u_60.trans (CHr.ext E_61 u_60.1)
      show Goes pP eE bB _ (T_61.setTop (mkF mM 48 #[.val (.int p1), .val (.int p2), .val (.int (p1 &&& (3 : Int32))), .val (.int ((((p1.toUInt32 >>> ((2 : Int32) &&& 31).toUInt32).toInt32) &&& (255 : Int32)).toUInt32.toUInt16.toUInt32.toInt32)), .val (.int ((((p1.toUInt32 >>> ((10 : Int32) &&& 31).toUInt32).toInt32) &&& (255 : Int32)).toUInt32.toUInt16.toUInt32.toInt32))] [(.ref b_61), (.ref b_54), (.ref b_54)]))
      have u_71 := Nat.le_trans u_63 E_61.1
      have u_72 := A_54.ext E_61
      have u_73 := u_57.ext E_61
      have u_74 := u_58.ext E_61
      have u_76 := Nat.le_trans (Nat.le_refl h0.size) E_54.1
      have u_77 := Nat.le_trans u_76 E_61.1
      refine Goes.callIH X_61 hx hZ rfl hown (hw _ (List.mem_of_getElem? (i := 8) rfl)) (hw _ (List.mem_of_getElem? (i := 9) rfl)) (hw _ (List.mem_of_getElem? (i := 10) rfl)) (hw _ (List.mem_of_getElem? (i := 6) rfl)) (by decide) e_61 hS u_77 (own_hEL hw) u_70 (allS ⟨own_ltE u_72, u_68⟩ all0) (rmS5_0 l Z a0 hw b_54 b_61 h_61 n0 u_71 _ u_67 u_72 u_55 u_73 u_74) (W := 1) (by decide) (by decide) (by decide) (by decide) (g := (mkF mM 48 #[.val (.int p1), .val (.int p2), .val (.int (p1 &&& (3 : Int32))), .val (.int ((((p1.toUInt32 >>> ((2 : Int32) &&& 31).toUInt32).toInt32) &&& (255 : Int32)).toUInt32.toUInt16.toUInt32.toInt32)), .val (.int ((((p1.toUInt32 >>> ((10 : Int32) &&& 31).toUInt32).toInt32) &&& (255 : Int32)).toUInt32.toUInt16.toUInt32.toInt32))] [(.ref b_61), (.ref b_54), (.ref b_54)])) rfl (by rw [hml]; rfl) (rest := [(.ref b_54)]) own_pd4 rfl rfl (by show 2 * 0 + _ ≤ _; exact Nat.le_of_eq rfl) (hb hby own_d1_48) ?_
      intro v_75 T_75 L_75 RB_75 gr_75 hQ_75
      obtain ⟨⟨X_75, hS, hZ, hown⟩, CC_75⟩ := RB_75
      generalize e_75 : T_75.heap = h_75 at hQ_75
      obtain ⟨rfl, N_75q, K_75, F_75c, b_75, F_75v, A_75⟩ := hQ_75
      have N_75 := Fr.app N0 N_75q
      have hk_75 : T_75.heap.size ≤ h_75.size := Nat.le_of_eq (by rw [e_75])
      rw [e_75] at CC_75
      have u_78 := u_70.trans CC_75
      show Goes pP eE bB _ (T_75.setTop (mkF mM 51 #[.val (.int p1), .val (.int p2), .val (.int (p1 &&& (3 : Int32))), .val (.int ((((p1.toUInt32 >>> ((2 : Int32) &&& 31).toUInt32).toInt32) &&& (255 : Int32)).toUInt32.toUInt16.toUInt32.toInt32)), .val (.int ((((p1.toUInt32 >>> ((10 : Int32) &&& 31).toUInt32).toInt32) &&& (255 : Int32)).toUInt32.toUInt16.toUInt32.toInt32))] [(.ref b_54)]))
      refine Goes.retH X_75 hS (Nat.le_trans hk_75 (Nat.le_of_eq (by rw [e_75]))) (own_atT X_75 hZ (own_hEL hw) e_75 hs0 u_78) hx hlk hret rfl (Or.inr (Or.inr (Or.inr (Or.inr ⟨rfl, rfl, rfl⟩)))) (hb hby own_d1_51) (by decide) (by decide) ?_
      have u_79 := u_72.keep K_75
      have u_80 := u_65.ext E_61
      have u_81 := u_80.trans K_75 (allS (Or.inr u_56) all0)
      exact ⟨_, rfl, N_75, by rw [e_75]; exact u_81, Or.inr ⟨b_54, rfl, by rw [e_75]; exact u_79⟩⟩
    · refine Goes.step (fun _ kK => XS.icmpYes X0.here hx rfl (pc0 := 38) (pc' := 52) rfl (hb hby own_d1_38) rfl (feq hc_53).2 (by decide) (by decide) kK) ?_
      show Goes pP eE bB _ (s₁.setTop (mkF mM 52 #[.val (.int p1), .val (.int p2), .val (.int (p1 &&& (3 : Int32))), .val (.int ((((p1.toUInt32 >>> ((2 : Int32) &&& 31).toUInt32).toInt32) &&& (255 : Int32)).toUInt32.toUInt16.toUInt32.toInt32)), .val (.int ((((p1.toUInt32 >>> ((10 : Int32) &&& 31).toUInt32).toInt32) &&& (255 : Int32)).toUInt32.toUInt16.toUInt32.toInt32))] []))
      refine Goes.step (fun _ kK => XS.iloadN X0.here hx rfl (hb hby own_d1_52) rfl kK) ?_
      show Goes pP eE bB _ (s₁.setTop (mkF mM 53 #[.val (.int p1), .val (.int p2), .val (.int (p1 &&& (3 : Int32))), .val (.int ((((p1.toUInt32 >>> ((2 : Int32) &&& 31).toUInt32).toInt32) &&& (255 : Int32)).toUInt32.toUInt16.toUInt32.toInt32)), .val (.int ((((p1.toUInt32 >>> ((10 : Int32) &&& 31).toUInt32).toInt32) &&& (255 : Int32)).toUInt32.toUInt16.toUInt32.toInt32))] [(.int (p1 &&& (3 : Int32)))]))
      refine Goes.step (fun _ kK => XS.iconst X0.here hx rfl (hb hby own_d1_53) kK) ?_
      show Goes pP eE bB _ (s₁.setTop (mkF mM 54 #[.val (.int p1), .val (.int p2), .val (.int (p1 &&& (3 : Int32))), .val (.int ((((p1.toUInt32 >>> ((2 : Int32) &&& 31).toUInt32).toInt32) &&& (255 : Int32)).toUInt32.toUInt16.toUInt32.toInt32)), .val (.int ((((p1.toUInt32 >>> ((10 : Int32) &&& 31).toUInt32).toInt32) &&& (255 : Int32)).toUInt32.toUInt16.toUInt32.toInt32))] [(.int (2 : Int32)), (.int (p1 &&& (3 : Int32)))]))
      by_cases hc_82 : (p1 &&& (3 : Int32)) = (2 : Int32)
      · refine Goes.step (fun _ kK => XS.icmpNo X0.here hx rfl (hb hby own_d1_54) rfl (teq hc_82).2 kK) ?_
        show Goes pP eE bB _ (s₁.setTop (mkF mM 57 #[.val (.int p1), .val (.int p2), .val (.int (p1 &&& (3 : Int32))), .val (.int ((((p1.toUInt32 >>> ((2 : Int32) &&& 31).toUInt32).toInt32) &&& (255 : Int32)).toUInt32.toUInt16.toUInt32.toInt32)), .val (.int ((((p1.toUInt32 >>> ((10 : Int32) &&& 31).toUInt32).toInt32) &&& (255 : Int32)).toUInt32.toUInt16.toUInt32.toInt32))] []))
        obtain ⟨T_83, h_83, X_83, e_83, E_83, A_83, D_83, -, st_83⟩ := newO X0 hx hZ hown (hw _ (List.mem_of_getElem? (i := 4) rfl)) (hw _ (List.mem_of_getElem? (i := 5) rfl)) (hw _ (List.mem_of_getElem? (i := 6) rfl)) e0 (g := (mkF mM 57 #[.val (.int p1), .val (.int p2), .val (.int (p1 &&& (3 : Int32))), .val (.int ((((p1.toUInt32 >>> ((2 : Int32) &&& 31).toUInt32).toInt32) &&& (255 : Int32)).toUInt32.toUInt16.toUInt32.toInt32)), .val (.int ((((p1.toUInt32 >>> ((10 : Int32) &&& 31).toUInt32).toInt32) &&& (255 : Int32)).toUInt32.toUInt16.toUInt32.toInt32))] [])) rfl (hb hby own_d1_57) (by decide) (by decide)
        obtain ⟨b_83, g_83⟩ : ∃ z, z = h0.size := ⟨_, rfl⟩
        rw [← g_83] at A_83 D_83 st_83
        have u_84 : n0 ≤ b_83 := Nat.le_trans Z0 (Nat.le_of_eq g_83.symm)
        have u_85 : h0.size ≤ b_83 := Nat.le_trans ((Keep.refl h0 [])).1 (Nat.le_of_eq g_83.symm)
        have u_86 : Fld Z h_83 b_83 "java/lang/String" "coder" "B" (.int (0 : Int32)) := D_83 (Or.inr (hw _ (List.mem_of_getElem? (i := 31) rfl))) (ty := .byte) (by decide)
        have u_87 : Fld Z h_83 b_83 "java/lang/String" "value" "[B" .null := D_83 (Or.inr (hw _ (List.mem_of_getElem? (i := 33) rfl))) (ty := (.array .byte)) (by decide)
        refine Goes.step st_83 ?_
        have u_88 := Safe.ext E_83 C0.1 (Safe.new (Nat.le_of_eq g_83.symm))
        have u_89 := C0.trans (CHr.ext E_83 C0.1)
        show Goes pP eE bB _ (T_83.setTop (mkF mM 60 #[.val (.int p1), .val (.int p2), .val (.int (p1 &&& (3 : Int32))), .val (.int ((((p1.toUInt32 >>> ((2 : Int32) &&& 31).toUInt32).toInt32) &&& (255 : Int32)).toUInt32.toUInt16.toUInt32.toInt32)), .val (.int ((((p1.toUInt32 >>> ((10 : Int32) &&& 31).toUInt32).toInt32) &&& (255 : Int32)).toUInt32.toUInt16.toUInt32.toInt32))] [(.ref b_83)]))
        refine Goes.step (fun _ kK => XS.dup X_83.here hx rfl (hb hby own_d1_60) rfl rfl kK) ?_
        show Goes pP eE bB _ (T_83.setTop (mkF mM 61 #[.val (.int p1), .val (.int p2), .val (.int (p1 &&& (3 : Int32))), .val (.int ((((p1.toUInt32 >>> ((2 : Int32) &&& 31).toUInt32).toInt32) &&& (255 : Int32)).toUInt32.toUInt16.toUInt32.toInt32)), .val (.int ((((p1.toUInt32 >>> ((10 : Int32) &&& 31).toUInt32).toInt32) &&& (255 : Int32)).toUInt32.toUInt16.toUInt32.toInt32))] [(.ref b_83), (.ref b_83)]))
        refine Goes.step (fun _ kK => XS.iconst X_83.here hx rfl (hb hby own_d1_61) kK) ?_
        show Goes pP eE bB _ (T_83.setTop (mkF mM 62 #[.val (.int p1), .val (.int p2), .val (.int (p1 &&& (3 : Int32))), .val (.int ((((p1.toUInt32 >>> ((2 : Int32) &&& 31).toUInt32).toInt32) &&& (255 : Int32)).toUInt32.toUInt16.toUInt32.toInt32)), .val (.int ((((p1.toUInt32 >>> ((10 : Int32) &&& 31).toUInt32).toInt32) &&& (255 : Int32)).toUInt32.toUInt16.toUInt32.toInt32))] [(.int (1 : Int32)), (.ref b_83), (.ref b_83)]))
        obtain ⟨T_90, h_90, k_90, X_90, e_90, E_90, A_90, M_90, st_90⟩ := newPE X_83 hx hZ (hw _ (List.mem_of_getElem? (i := 7) rfl)) e_83 (g := (mkF mM 62 #[.val (.int p1), .val (.int p2), .val (.int (p1 &&& (3 : Int32))), .val (.int ((((p1.toUInt32 >>> ((2 : Int32) &&& 31).toUInt32).toInt32) &&& (255 : Int32)).toUInt32.toUInt16.toUInt32.toInt32)), .val (.int ((((p1.toUInt32 >>> ((10 : Int32) &&& 31).toUInt32).toInt32) &&& (255 : Int32)).toUInt32.toUInt16.toUInt32.toInt32))] [(.int (1 : Int32)), (.ref b_83), (.ref b_83)])) rfl (hb hby own_d1_62) rfl (by decide) (cap := 1) (by decide) (by decide) (by decide) (by decide) (ad := "[C") rfl
        obtain ⟨b_90, g_90⟩ : ∃ z, z = h_83.size := ⟨_, rfl⟩
        rw [← g_90] at A_90 M_90 st_90
        have u_91 : b_83 < b_90 := Nat.lt_of_lt_of_le (A_83).lt (Nat.le_of_eq g_90.symm)
        have u_92 := Nat.le_trans Z0 E_83.1
        have u_93 : n0 ≤ b_90 := Nat.le_trans u_92 (Nat.le_of_eq g_90.symm)
        have u_94 := (Keep.refl h0 []).ext E_83
        have u_95 : h0.size ≤ b_90 := Nat.le_trans (u_94).1 (Nat.le_of_eq g_90.symm)
        have u_96 : Afn Z h_90 b_90 .char 1 (fun _ => (.int (0 : Int32))) := Afn.new (n := 1) A_90 (by decide)
        refine Goes.step st_90 ?_
        have u_97 := Safe.ext E_90 u_89.1 u_88
        have u_98 := Safe.ext E_90 u_89.1 (Safe.new (Nat.le_of_eq g_90.symm))
        have u_99 := u_89.trans (CHr.ext E_90 u_89.1)
        show Goes pP eE bB _ (T_90.setTop (mkF mM 64 #[.val (.int p1), .val (.int p2), .val (.int (p1 &&& (3 : Int32))), .val (.int ((((p1.toUInt32 >>> ((2 : Int32) &&& 31).toUInt32).toInt32) &&& (255 : Int32)).toUInt32.toUInt16.toUInt32.toInt32)), .val (.int ((((p1.toUInt32 >>> ((10 : Int32) &&& 31).toUInt32).toInt32) &&& (255 : Int32)).toUInt32.toUInt16.toUInt32.toInt32))] [(.ref b_90), (.ref b_83), (.ref b_83)]))
        refine Goes.step (fun _ kK => XS.dup X_90.here hx rfl (hb hby own_d1_64) rfl rfl kK) ?_
        show Goes pP eE bB _ (T_90.setTop (mkF mM 65 #[.val (.int p1), .val (.int p2), .val (.int (p1 &&& (3 : Int32))), .val (.int ((((p1.toUInt32 >>> ((2 : Int32) &&& 31).toUInt32).toInt32) &&& (255 : Int32)).toUInt32.toUInt16.toUInt32.toInt32)), .val (.int ((((p1.toUInt32 >>> ((10 : Int32) &&& 31).toUInt32).toInt32) &&& (255 : Int32)).toUInt32.toUInt16.toUInt32.toInt32))] [(.ref b_90), (.ref b_90), (.ref b_83), (.ref b_83)]))
        refine Goes.step (fun _ kK => XS.iconst X_90.here hx rfl (hb hby own_d1_65) kK) ?_
        show Goes pP eE bB _ (T_90.setTop (mkF mM 66 #[.val (.int p1), .val (.int p2), .val (.int (p1 &&& (3 : Int32))), .val (.int ((((p1.toUInt32 >>> ((2 : Int32) &&& 31).toUInt32).toInt32) &&& (255 : Int32)).toUInt32.toUInt16.toUInt32.toInt32)), .val (.int ((((p1.toUInt32 >>> ((10 : Int32) &&& 31).toUInt32).toInt32) &&& (255 : Int32)).toUInt32.toUInt16.toUInt32.toInt32))] [(.int (0 : Int32)), (.ref b_90), (.ref b_90), (.ref b_83), (.ref b_83)]))
        refine Goes.step (fun _ kK => XS.iloadN X_90.here hx rfl (hb hby own_d1_66) rfl kK) ?_
        show Goes pP eE bB _ (T_90.setTop (mkF mM 67 #[.val (.int p1), .val (.int p2), .val (.int (p1 &&& (3 : Int32))), .val (.int ((((p1.toUInt32 >>> ((2 : Int32) &&& 31).toUInt32).toInt32) &&& (255 : Int32)).toUInt32.toUInt16.toUInt32.toInt32)), .val (.int ((((p1.toUInt32 >>> ((10 : Int32) &&& 31).toUInt32).toInt32) &&& (255 : Int32)).toUInt32.toUInt16.toUInt32.toInt32))] [(.int ((((p1.toUInt32 >>> ((2 : Int32) &&& 31).toUInt32).toInt32) &&& (255 : Int32)).toUInt32.toUInt16.toUInt32.toInt32)), (.int (0 : Int32)), (.ref b_90), (.ref b_90), (.ref b_83), (.ref b_83)]))
        refine Goes.castore X_90 hx hZ e_90 u_96 (i := 0) (by decide) (by decide) (g := (mkF mM 67 #[.val (.int p1), .val (.int p2), .val (.int (p1 &&& (3 : Int32))), .val (.int ((((p1.toUInt32 >>> ((2 : Int32) &&& 31).toUInt32).toInt32) &&& (255 : Int32)).toUInt32.toUInt16.toUInt32.toInt32)), .val (.int ((((p1.toUInt32 >>> ((10 : Int32) &&& 31).toUInt32).toInt32) &&& (255 : Int32)).toUInt32.toUInt16.toUInt32.toInt32))] [(.int ((((p1.toUInt32 >>> ((2 : Int32) &&& 31).toUInt32).toInt32) &&& (255 : Int32)).toUInt32.toUInt16.toUInt32.toInt32)), (.int (0 : Int32)), (.ref b_90), (.ref b_90), (.ref b_83), (.ref b_83)])) rfl rfl (hb hby own_d1_67) ?_
        intro T_100 h_100 X_100 e_100 W_100 A_100
        have N_100 := Fr.snoc X_100 N0 u_93
        have u_101 := Safe.wr W_100 u_98 u_99.1 u_97
        have u_102 := Safe.wr W_100 u_98 u_99.1 u_98
        have u_103 := u_99.trans (CHr.wr W_100 u_98 u_99.1)
        show Goes pP eE bB _ (T_100.setTop (mkF mM 68 #[.val (.int p1), .val (.int p2), .val (.int (p1 &&& (3 : Int32))), .val (.int ((((p1.toUInt32 >>> ((2 : Int32) &&& 31).toUInt32).toInt32) &&& (255 : Int32)).toUInt32.toUInt16.toUInt32.toInt32)), .val (.int ((((p1.toUInt32 >>> ((10 : Int32) &&& 31).toUInt32).toInt32) &&& (255 : Int32)).toUInt32.toUInt16.toUInt32.toInt32))] [(.ref b_90), (.ref b_83), (.ref b_83)]))
        have u_104 := O0.ext E_83
        have u_105 := u_104.ext E_90
        have u_106 := u_105.wr W_100 u_93
        have u_107 := Nat.le_trans u_92 E_90.1
        have u_108 := Nat.le_trans u_107 (Keep.of_wr W_100).1
        have u_109 := A_83.ext E_90
        have u_110 := u_109.wr W_100
        have u_111 := u_86.ext E_90
        have u_112 := u_111.other W_100 (Or.inl (Nat.ne_of_lt u_91))
        have u_113 := u_87.ext E_90
        have u_114 := u_113.other W_100 (Or.inl (Nat.ne_of_lt u_91))
        refine Goes.callI X_100 hx hZ rfl hown (hw _ (List.mem_of_getElem? (i := 8) rfl)) (hw _ (List.mem_of_getElem? (i := 9) rfl)) (hw _ (List.mem_of_getElem? (i := 10) rfl)) (hw _ (List.mem_of_getElem? (i := 6) rfl)) (by decide) e_100 (rmS5_1 l Z a0 hw b_83 b_90 (nar .char (((p1.toUInt32 >>> ((2 : Int32) &&& 31).toUInt32).toInt32 &&& (255 : Int32)).toUInt32.toUInt16.toUInt32.toInt32)) cs h_100 n0 u_108 Scs hcs u_106 _ A_100 u_110 u_84 u_112 u_114 rfl (own_ch _)) (W := 1) (by decide) (by decide) (by decide) (by decide) (g := (mkF mM 68 #[.val (.int p1), .val (.int p2), .val (.int (p1 &&& (3 : Int32))), .val (.int ((((p1.toUInt32 >>> ((2 : Int32) &&& 31).toUInt32).toInt32) &&& (255 : Int32)).toUInt32.toUInt16.toUInt32.toInt32)), .val (.int ((((p1.toUInt32 >>> ((10 : Int32) &&& 31).toUInt32).toInt32) &&& (255 : Int32)).toUInt32.toUInt16.toUInt32.toInt32))] [(.ref b_90), (.ref b_83), (.ref b_83)])) rfl (by rw [hml]; rfl) (rest := [(.ref b_83)]) own_pd4 rfl rfl (by show 2 * 0 + _ ≤ _; exact Nat.le_of_eq rfl) (hb hby own_d1_68) ?_
        intro v_115 T_115 L_115 X_115 hQ_115
        generalize e_115 : T_115.heap = h_115 at hQ_115
        obtain ⟨rfl, N_115q, K_115, F_115c, b_115, F_115v, s_115, A_115, M_115⟩ := hQ_115
        have N_115 := Fr.app N_100 N_115q
        have u_116 := Nat.lt_of_lt_of_le (A_83).lt E_90.1
        have u_117 := Nat.lt_of_lt_of_le u_116 (Keep.of_wr W_100).1
        have u_118 : b_83 < b_115 := Nat.lt_of_lt_of_le u_117 s_115
        have u_119 : b_90 < b_115 := Nat.lt_of_lt_of_le (A_100).lt s_115
        have u_120 : n0 ≤ b_115 := Nat.le_trans u_108 s_115
        have u_121 := u_94.ext E_90
        have u_122 := u_121.wr W_100 (Or.inr u_95)
        have u_123 : h0.size ≤ b_115 := Nat.le_trans (u_122).1 s_115
        have u_124 := Safe.keep K_115 (allS u_101 all0) u_103.1 u_101
        have u_125 := Safe.keep K_115 (allS u_101 all0) u_103.1 u_102
        have u_126 := u_103.trans (CHr.keep K_115 (allS u_101 all0) u_103.1)
        show Goes pP eE bB _ (T_115.setTop (mkF mM 71 #[.val (.int p1), .val (.int p2), .val (.int (p1 &&& (3 : Int32))), .val (.int ((((p1.toUInt32 >>> ((2 : Int32) &&& 31).toUInt32).toInt32) &&& (255 : Int32)).toUInt32.toUInt16.toUInt32.toInt32)), .val (.int ((((p1.toUInt32 >>> ((10 : Int32) &&& 31).toUInt32).toInt32) &&& (255 : Int32)).toUInt32.toUInt16.toUInt32.toInt32))] [(.ref b_83)]))
        have u_127 := Nat.le_trans (Nat.le_refl h0.size) E_83.1
        have u_128 := Nat.le_trans u_127 E_90.1
        have u_129 := Nat.le_trans u_128 (Keep.of_wr W_100).1
        have u_130 := Nat.le_trans u_129 K_115.1
        refine Goes.retH X_115 hS (Nat.le_trans u_130 (Nat.le_of_eq (by rw [e_115]))) (own_atT X_115 hZ (own_hEL hw) e_115 hs0 u_126) hx hlk hret rfl (Or.inr (Or.inr (Or.inr (Or.inr ⟨rfl, rfl, rfl⟩)))) (hb hby own_d1_71) (by decide) (by decide) ?_
        have u_131 := u_110.keep K_115
        have u_132 := u_122.trans K_115 (allS (Or.inr u_85) all0)
        exact ⟨_, rfl, N_115, by rw [e_115]; exact u_132, Or.inr ⟨b_83, rfl, by rw [e_115]; exact u_131⟩⟩
      · refine Goes.step (fun _ kK => XS.icmpYes X0.here hx rfl (pc0 := 54) (pc' := 72) rfl (hb hby own_d1_54) rfl (feq hc_82).2 (by decide) (by decide) kK) ?_
        show Goes pP eE bB _ (s₁.setTop (mkF mM 72 #[.val (.int p1), .val (.int p2), .val (.int (p1 &&& (3 : Int32))), .val (.int ((((p1.toUInt32 >>> ((2 : Int32) &&& 31).toUInt32).toInt32) &&& (255 : Int32)).toUInt32.toUInt16.toUInt32.toInt32)), .val (.int ((((p1.toUInt32 >>> ((10 : Int32) &&& 31).toUInt32).toInt32) &&& (255 : Int32)).toUInt32.toUInt16.toUInt32.toInt32))] []))
        obtain ⟨T_133, h_133, X_133, e_133, E_133, A_133, D_133, -, st_133⟩ := newO X0 hx hZ hown (hw _ (List.mem_of_getElem? (i := 4) rfl)) (hw _ (List.mem_of_getElem? (i := 5) rfl)) (hw _ (List.mem_of_getElem? (i := 6) rfl)) e0 (g := (mkF mM 72 #[.val (.int p1), .val (.int p2), .val (.int (p1 &&& (3 : Int32))), .val (.int ((((p1.toUInt32 >>> ((2 : Int32) &&& 31).toUInt32).toInt32) &&& (255 : Int32)).toUInt32.toUInt16.toUInt32.toInt32)), .val (.int ((((p1.toUInt32 >>> ((10 : Int32) &&& 31).toUInt32).toInt32) &&& (255 : Int32)).toUInt32.toUInt16.toUInt32.toInt32))] [])) rfl (hb hby own_d1_72) (by decide) (by decide)
        obtain ⟨b_133, g_133⟩ : ∃ z, z = h0.size := ⟨_, rfl⟩
        rw [← g_133] at A_133 D_133 st_133
        have u_134 : n0 ≤ b_133 := Nat.le_trans Z0 (Nat.le_of_eq g_133.symm)
        have u_135 : h0.size ≤ b_133 := Nat.le_trans ((Keep.refl h0 [])).1 (Nat.le_of_eq g_133.symm)
        have u_136 : Fld Z h_133 b_133 "java/lang/String" "coder" "B" (.int (0 : Int32)) := D_133 (Or.inr (hw _ (List.mem_of_getElem? (i := 31) rfl))) (ty := .byte) (by decide)
        have u_137 : Fld Z h_133 b_133 "java/lang/String" "value" "[B" .null := D_133 (Or.inr (hw _ (List.mem_of_getElem? (i := 33) rfl))) (ty := (.array .byte)) (by decide)
        refine Goes.step st_133 ?_
        have u_138 := Safe.ext E_133 C0.1 (Safe.new (Nat.le_of_eq g_133.symm))
        have u_139 := C0.trans (CHr.ext E_133 C0.1)
        show Goes pP eE bB _ (T_133.setTop (mkF mM 75 #[.val (.int p1), .val (.int p2), .val (.int (p1 &&& (3 : Int32))), .val (.int ((((p1.toUInt32 >>> ((2 : Int32) &&& 31).toUInt32).toInt32) &&& (255 : Int32)).toUInt32.toUInt16.toUInt32.toInt32)), .val (.int ((((p1.toUInt32 >>> ((10 : Int32) &&& 31).toUInt32).toInt32) &&& (255 : Int32)).toUInt32.toUInt16.toUInt32.toInt32))] [(.ref b_133)]))
        refine Goes.step (fun _ kK => XS.dup X_133.here hx rfl (hb hby own_d1_75) rfl rfl kK) ?_
        show Goes pP eE bB _ (T_133.setTop (mkF mM 76 #[.val (.int p1), .val (.int p2), .val (.int (p1 &&& (3 : Int32))), .val (.int ((((p1.toUInt32 >>> ((2 : Int32) &&& 31).toUInt32).toInt32) &&& (255 : Int32)).toUInt32.toUInt16.toUInt32.toInt32)), .val (.int ((((p1.toUInt32 >>> ((10 : Int32) &&& 31).toUInt32).toInt32) &&& (255 : Int32)).toUInt32.toUInt16.toUInt32.toInt32))] [(.ref b_133), (.ref b_133)]))
        refine Goes.step (fun _ kK => XS.iconst X_133.here hx rfl (hb hby own_d1_76) kK) ?_
        show Goes pP eE bB _ (T_133.setTop (mkF mM 77 #[.val (.int p1), .val (.int p2), .val (.int (p1 &&& (3 : Int32))), .val (.int ((((p1.toUInt32 >>> ((2 : Int32) &&& 31).toUInt32).toInt32) &&& (255 : Int32)).toUInt32.toUInt16.toUInt32.toInt32)), .val (.int ((((p1.toUInt32 >>> ((10 : Int32) &&& 31).toUInt32).toInt32) &&& (255 : Int32)).toUInt32.toUInt16.toUInt32.toInt32))] [(.int (2 : Int32)), (.ref b_133), (.ref b_133)]))
        obtain ⟨T_140, h_140, k_140, X_140, e_140, E_140, A_140, M_140, st_140⟩ := newPE X_133 hx hZ (hw _ (List.mem_of_getElem? (i := 7) rfl)) e_133 (g := (mkF mM 77 #[.val (.int p1), .val (.int p2), .val (.int (p1 &&& (3 : Int32))), .val (.int ((((p1.toUInt32 >>> ((2 : Int32) &&& 31).toUInt32).toInt32) &&& (255 : Int32)).toUInt32.toUInt16.toUInt32.toInt32)), .val (.int ((((p1.toUInt32 >>> ((10 : Int32) &&& 31).toUInt32).toInt32) &&& (255 : Int32)).toUInt32.toUInt16.toUInt32.toInt32))] [(.int (2 : Int32)), (.ref b_133), (.ref b_133)])) rfl (hb hby own_d1_77) rfl (by decide) (cap := 2) (by decide) (by decide) (by decide) (by decide) (ad := "[C") rfl
        obtain ⟨b_140, g_140⟩ : ∃ z, z = h_133.size := ⟨_, rfl⟩
        rw [← g_140] at A_140 M_140 st_140
        have u_141 : b_133 < b_140 := Nat.lt_of_lt_of_le (A_133).lt (Nat.le_of_eq g_140.symm)
        have u_142 := Nat.le_trans Z0 E_133.1
        have u_143 : n0 ≤ b_140 := Nat.le_trans u_142 (Nat.le_of_eq g_140.symm)
        have u_144 := (Keep.refl h0 []).ext E_133
        have u_145 : h0.size ≤ b_140 := Nat.le_trans (u_144).1 (Nat.le_of_eq g_140.symm)
        have u_146 : Afn Z h_140 b_140 .char 2 (fun _ => (.int (0 : Int32))) := Afn.new (n := 2) A_140 (by decide)
        refine Goes.step st_140 ?_
        have u_147 := Safe.ext E_140 u_139.1 u_138
        have u_148 := Safe.ext E_140 u_139.1 (Safe.new (Nat.le_of_eq g_140.symm))
        have u_149 := u_139.trans (CHr.ext E_140 u_139.1)
        show Goes pP eE bB _ (T_140.setTop (mkF mM 79 #[.val (.int p1), .val (.int p2), .val (.int (p1 &&& (3 : Int32))), .val (.int ((((p1.toUInt32 >>> ((2 : Int32) &&& 31).toUInt32).toInt32) &&& (255 : Int32)).toUInt32.toUInt16.toUInt32.toInt32)), .val (.int ((((p1.toUInt32 >>> ((10 : Int32) &&& 31).toUInt32).toInt32) &&& (255 : Int32)).toUInt32.toUInt16.toUInt32.toInt32))] [(.ref b_140), (.ref b_133), (.ref b_133)]))
        refine Goes.step (fun _ kK => XS.dup X_140.here hx rfl (hb hby own_d1_79) rfl rfl kK) ?_
        show Goes pP eE bB _ (T_140.setTop (mkF mM 80 #[.val (.int p1), .val (.int p2), .val (.int (p1 &&& (3 : Int32))), .val (.int ((((p1.toUInt32 >>> ((2 : Int32) &&& 31).toUInt32).toInt32) &&& (255 : Int32)).toUInt32.toUInt16.toUInt32.toInt32)), .val (.int ((((p1.toUInt32 >>> ((10 : Int32) &&& 31).toUInt32).toInt32) &&& (255 : Int32)).toUInt32.toUInt16.toUInt32.toInt32))] [(.ref b_140), (.ref b_140), (.ref b_133), (.ref b_133)]))
        refine Goes.step (fun _ kK => XS.iconst X_140.here hx rfl (hb hby own_d1_80) kK) ?_
        show Goes pP eE bB _ (T_140.setTop (mkF mM 81 #[.val (.int p1), .val (.int p2), .val (.int (p1 &&& (3 : Int32))), .val (.int ((((p1.toUInt32 >>> ((2 : Int32) &&& 31).toUInt32).toInt32) &&& (255 : Int32)).toUInt32.toUInt16.toUInt32.toInt32)), .val (.int ((((p1.toUInt32 >>> ((10 : Int32) &&& 31).toUInt32).toInt32) &&& (255 : Int32)).toUInt32.toUInt16.toUInt32.toInt32))] [(.int (0 : Int32)), (.ref b_140), (.ref b_140), (.ref b_133), (.ref b_133)]))
        refine Goes.step (fun _ kK => XS.iloadN X_140.here hx rfl (hb hby own_d1_81) rfl kK) ?_
        show Goes pP eE bB _ (T_140.setTop (mkF mM 82 #[.val (.int p1), .val (.int p2), .val (.int (p1 &&& (3 : Int32))), .val (.int ((((p1.toUInt32 >>> ((2 : Int32) &&& 31).toUInt32).toInt32) &&& (255 : Int32)).toUInt32.toUInt16.toUInt32.toInt32)), .val (.int ((((p1.toUInt32 >>> ((10 : Int32) &&& 31).toUInt32).toInt32) &&& (255 : Int32)).toUInt32.toUInt16.toUInt32.toInt32))] [(.int ((((p1.toUInt32 >>> ((2 : Int32) &&& 31).toUInt32).toInt32) &&& (255 : Int32)).toUInt32.toUInt16.toUInt32.toInt32)), (.int (0 : Int32)), (.ref b_140), (.ref b_140), (.ref b_133), (.ref b_133)]))
        refine Goes.castore X_140 hx hZ e_140 u_146 (i := 0) (by decide) (by decide) (g := (mkF mM 82 #[.val (.int p1), .val (.int p2), .val (.int (p1 &&& (3 : Int32))), .val (.int ((((p1.toUInt32 >>> ((2 : Int32) &&& 31).toUInt32).toInt32) &&& (255 : Int32)).toUInt32.toUInt16.toUInt32.toInt32)), .val (.int ((((p1.toUInt32 >>> ((10 : Int32) &&& 31).toUInt32).toInt32) &&& (255 : Int32)).toUInt32.toUInt16.toUInt32.toInt32))] [(.int ((((p1.toUInt32 >>> ((2 : Int32) &&& 31).toUInt32).toInt32) &&& (255 : Int32)).toUInt32.toUInt16.toUInt32.toInt32)), (.int (0 : Int32)), (.ref b_140), (.ref b_140), (.ref b_133), (.ref b_133)])) rfl rfl (hb hby own_d1_82) ?_
        intro T_150 h_150 X_150 e_150 W_150 A_150
        have N_150 := Fr.snoc X_150 N0 u_143
        have u_151 := Safe.wr W_150 u_148 u_149.1 u_147
        have u_152 := Safe.wr W_150 u_148 u_149.1 u_148
        have u_153 := u_149.trans (CHr.wr W_150 u_148 u_149.1)
        show Goes pP eE bB _ (T_150.setTop (mkF mM 83 #[.val (.int p1), .val (.int p2), .val (.int (p1 &&& (3 : Int32))), .val (.int ((((p1.toUInt32 >>> ((2 : Int32) &&& 31).toUInt32).toInt32) &&& (255 : Int32)).toUInt32.toUInt16.toUInt32.toInt32)), .val (.int ((((p1.toUInt32 >>> ((10 : Int32) &&& 31).toUInt32).toInt32) &&& (255 : Int32)).toUInt32.toUInt16.toUInt32.toInt32))] [(.ref b_140), (.ref b_133), (.ref b_133)]))
        refine Goes.step (fun _ kK => XS.dup X_150.here hx rfl (hb hby own_d1_83) rfl rfl kK) ?_
        show Goes pP eE bB _ (T_150.setTop (mkF mM 84 #[.val (.int p1), .val (.int p2), .val (.int (p1 &&& (3 : Int32))), .val (.int ((((p1.toUInt32 >>> ((2 : Int32) &&& 31).toUInt32).toInt32) &&& (255 : Int32)).toUInt32.toUInt16.toUInt32.toInt32)), .val (.int ((((p1.toUInt32 >>> ((10 : Int32) &&& 31).toUInt32).toInt32) &&& (255 : Int32)).toUInt32.toUInt16.toUInt32.toInt32))] [(.ref b_140), (.ref b_140), (.ref b_133), (.ref b_133)]))
        refine Goes.step (fun _ kK => XS.iconst X_150.here hx rfl (hb hby own_d1_84) kK) ?_
        show Goes pP eE bB _ (T_150.setTop (mkF mM 85 #[.val (.int p1), .val (.int p2), .val (.int (p1 &&& (3 : Int32))), .val (.int ((((p1.toUInt32 >>> ((2 : Int32) &&& 31).toUInt32).toInt32) &&& (255 : Int32)).toUInt32.toUInt16.toUInt32.toInt32)), .val (.int ((((p1.toUInt32 >>> ((10 : Int32) &&& 31).toUInt32).toInt32) &&& (255 : Int32)).toUInt32.toUInt16.toUInt32.toInt32))] [(.int (1 : Int32)), (.ref b_140), (.ref b_140), (.ref b_133), (.ref b_133)]))
        refine Goes.step (fun _ kK => XS.iload X_150.here hx rfl (hb hby own_d1_85) rfl kK) ?_
        show Goes pP eE bB _ (T_150.setTop (mkF mM 87 #[.val (.int p1), .val (.int p2), .val (.int (p1 &&& (3 : Int32))), .val (.int ((((p1.toUInt32 >>> ((2 : Int32) &&& 31).toUInt32).toInt32) &&& (255 : Int32)).toUInt32.toUInt16.toUInt32.toInt32)), .val (.int ((((p1.toUInt32 >>> ((10 : Int32) &&& 31).toUInt32).toInt32) &&& (255 : Int32)).toUInt32.toUInt16.toUInt32.toInt32))] [(.int ((((p1.toUInt32 >>> ((10 : Int32) &&& 31).toUInt32).toInt32) &&& (255 : Int32)).toUInt32.toUInt16.toUInt32.toInt32)), (.int (1 : Int32)), (.ref b_140), (.ref b_140), (.ref b_133), (.ref b_133)]))
        refine Goes.castore X_150 hx hZ e_150 A_150 (i := 1) (by decide) (by decide) (g := (mkF mM 87 #[.val (.int p1), .val (.int p2), .val (.int (p1 &&& (3 : Int32))), .val (.int ((((p1.toUInt32 >>> ((2 : Int32) &&& 31).toUInt32).toInt32) &&& (255 : Int32)).toUInt32.toUInt16.toUInt32.toInt32)), .val (.int ((((p1.toUInt32 >>> ((10 : Int32) &&& 31).toUInt32).toInt32) &&& (255 : Int32)).toUInt32.toUInt16.toUInt32.toInt32))] [(.int ((((p1.toUInt32 >>> ((10 : Int32) &&& 31).toUInt32).toInt32) &&& (255 : Int32)).toUInt32.toUInt16.toUInt32.toInt32)), (.int (1 : Int32)), (.ref b_140), (.ref b_140), (.ref b_133), (.ref b_133)])) rfl rfl (hb hby own_d1_87) ?_
        intro T_154 h_154 X_154 e_154 W_154 A_154
        have N_154 := Fr.snoc X_154 N_150 u_143
        have u_155 := Safe.wr W_154 u_152 u_153.1 u_151
        have u_156 := Safe.wr W_154 u_152 u_153.1 u_152
        have u_157 := u_153.trans (CHr.wr W_154 u_152 u_153.1)
        show Goes pP eE bB _ (T_154.setTop (mkF mM 88 #[.val (.int p1), .val (.int p2), .val (.int (p1 &&& (3 : Int32))), .val (.int ((((p1.toUInt32 >>> ((2 : Int32) &&& 31).toUInt32).toInt32) &&& (255 : Int32)).toUInt32.toUInt16.toUInt32.toInt32)), .val (.int ((((p1.toUInt32 >>> ((10 : Int32) &&& 31).toUInt32).toInt32) &&& (255 : Int32)).toUInt32.toUInt16.toUInt32.toInt32))] [(.ref b_140), (.ref b_133), (.ref b_133)]))
        have u_158 := O0.ext E_133
        have u_159 := u_158.ext E_140
        have u_160 := u_159.wr W_150 u_143
        have u_161 := u_160.wr W_154 u_143
        have u_162 := Nat.le_trans u_142 E_140.1
        have u_163 := Nat.le_trans u_162 (Keep.of_wr W_150).1
        have u_164 := Nat.le_trans u_163 (Keep.of_wr W_154).1
        have u_165 := A_133.ext E_140
        have u_166 := u_165.wr W_150
        have u_167 := u_166.wr W_154
        have u_168 := u_136.ext E_140
        have u_169 := u_168.other W_150 (Or.inl (Nat.ne_of_lt u_141))
        have u_170 := u_169.other W_154 (Or.inl (Nat.ne_of_lt u_141))
        have u_171 := u_137.ext E_140
        have u_172 := u_171.other W_150 (Or.inl (Nat.ne_of_lt u_141))
        have u_173 := u_172.other W_154 (Or.inl (Nat.ne_of_lt u_141))
        refine Goes.callI X_154 hx hZ rfl hown (hw _ (List.mem_of_getElem? (i := 8) rfl)) (hw _ (List.mem_of_getElem? (i := 9) rfl)) (hw _ (List.mem_of_getElem? (i := 10) rfl)) (hw _ (List.mem_of_getElem? (i := 6) rfl)) (by decide) e_154 (rmS5_2 l Z a0 hw b_133 b_140 (nar .char (((p1.toUInt32 >>> ((2 : Int32) &&& 31).toUInt32).toInt32 &&& (255 : Int32)).toUInt32.toUInt16.toUInt32.toInt32)) (nar .char (((p1.toUInt32 >>> ((10 : Int32) &&& 31).toUInt32).toInt32 &&& (255 : Int32)).toUInt32.toUInt16.toUInt32.toInt32)) cs h_154 n0 u_164 Scs hcs u_161 _ A_154 u_167 u_134 u_170 u_173 rfl rfl (own_ch _) (own_ch _)) (W := 1) (by decide) (by decide) (by decide) (by decide) (g := (mkF mM 88 #[.val (.int p1), .val (.int p2), .val (.int (p1 &&& (3 : Int32))), .val (.int ((((p1.toUInt32 >>> ((2 : Int32) &&& 31).toUInt32).toInt32) &&& (255 : Int32)).toUInt32.toUInt16.toUInt32.toInt32)), .val (.int ((((p1.toUInt32 >>> ((10 : Int32) &&& 31).toUInt32).toInt32) &&& (255 : Int32)).toUInt32.toUInt16.toUInt32.toInt32))] [(.ref b_140), (.ref b_133), (.ref b_133)])) rfl (by rw [hml]; rfl) (rest := [(.ref b_133)]) own_pd4 rfl rfl (by show 2 * 0 + _ ≤ _; exact Nat.le_of_eq rfl) (hb hby own_d1_88) ?_
        intro v_174 T_174 L_174 X_174 hQ_174
        generalize e_174 : T_174.heap = h_174 at hQ_174
        obtain ⟨rfl, N_174q, K_174, F_174c, b_174, F_174v, s_174, A_174, M_174⟩ := hQ_174
        have N_174 := Fr.app N_154 N_174q
        have u_175 := Nat.lt_of_lt_of_le (A_133).lt E_140.1
        have u_176 := Nat.lt_of_lt_of_le u_175 (Keep.of_wr W_150).1
        have u_177 := Nat.lt_of_lt_of_le u_176 (Keep.of_wr W_154).1
        have u_178 : b_133 < b_174 := Nat.lt_of_lt_of_le u_177 s_174
        have u_179 : b_140 < b_174 := Nat.lt_of_lt_of_le (A_154).lt s_174
        have u_180 : n0 ≤ b_174 := Nat.le_trans u_164 s_174
        have u_181 := u_144.ext E_140
        have u_182 := u_181.wr W_150 (Or.inr u_145)
        have u_183 := u_182.wr W_154 (Or.inr u_145)
        have u_184 : h0.size ≤ b_174 := Nat.le_trans (u_183).1 s_174
        have u_185 := Safe.keep K_174 (allS u_155 all0) u_157.1 u_155
        have u_186 := Safe.keep K_174 (allS u_155 all0) u_157.1 u_156
        have u_187 := u_157.trans (CHr.keep K_174 (allS u_155 all0) u_157.1)
        show Goes pP eE bB _ (T_174.setTop (mkF mM 91 #[.val (.int p1), .val (.int p2), .val (.int (p1 &&& (3 : Int32))), .val (.int ((((p1.toUInt32 >>> ((2 : Int32) &&& 31).toUInt32).toInt32) &&& (255 : Int32)).toUInt32.toUInt16.toUInt32.toInt32)), .val (.int ((((p1.toUInt32 >>> ((10 : Int32) &&& 31).toUInt32).toInt32) &&& (255 : Int32)).toUInt32.toUInt16.toUInt32.toInt32))] [(.ref b_133)]))
        have u_188 := Nat.le_trans (Nat.le_refl h0.size) E_133.1
        have u_189 := Nat.le_trans u_188 E_140.1
        have u_190 := Nat.le_trans u_189 (Keep.of_wr W_150).1
        have u_191 := Nat.le_trans u_190 (Keep.of_wr W_154).1
        have u_192 := Nat.le_trans u_191 K_174.1
        refine Goes.retH X_174 hS (Nat.le_trans u_192 (Nat.le_of_eq (by rw [e_174]))) (own_atT X_174 hZ (own_hEL hw) e_174 hs0 u_187) hx hlk hret rfl (Or.inr (Or.inr (Or.inr (Or.inr ⟨rfl, rfl, rfl⟩)))) (hb hby own_d1_91) (by decide) (by decide) ?_
        have u_193 := u_167.keep K_174
        have u_194 := u_183.trans K_174 (allS (Or.inr u_135) all0)
        exact ⟨_, rfl, N_174, by rw [e_174]; exact u_194, Or.inr ⟨b_133, rfl, by rw [e_174]; exact u_193⟩⟩
set_option maxRecDepth 65536 in
set_option maxHeartbeats 40000000 in
theorem rmR (l : Launch) (Z : State) (a0 : Array Value) (hw : ∀ d ∈ tables_1, d.before a0 Z = true) (a1 : Addr) (h0 : Heap) (n0 : Nat) (Z0 : n0 ≤ h0.size) :
    Con l Z (⟨"java/lang/Record", "<init>", "()V"⟩ : MethodName) jdk_30_method_1_code 1 none ({ frames := 1, cells := 0, slots := 0, locals := 12 } : Room) #[(.ref a1)] h0 (fun v h L => v = none ∧ Fr n0 L ∧ h = h0) := by
  refine Con.body (plainFor_of_name own_pn3) ?_
  intro pP eE sS mM bB mT cC s₁ hx hby hml hZ hown hnm hret hlk X0 e0
  have hown : sS.vm.findClass "java/lang/Record" = some mM.cls := hown
  have hml : cC.maxLocals = 1 := hml
  have N0 := Fr.nil n0
  have ef : entryFrame mM #[(.ref a1)] 1 = mkF mM 0 #[.val (.ref a1)] [] := by first | (simp [entryFrame, mkF, argsToLocals, Value.category]; done) | rfl
  rw [ef]
  show Goes pP eE bB _ (s₁.setTop (mkF mM 0 #[.val (.ref a1)] []))
  refine Goes.step (fun _ kK => XS.aloadN X0.here hx rfl (hb hby own_d9_0) rfl rfl kK) ?_
  show Goes pP eE bB _ (s₁.setTop (mkF mM 1 #[.val (.ref a1)] [(.ref a1)]))
  obtain ⟨T_1, X_1, e_1, st_1⟩ := initO X0 hx hZ hown (hw _ (List.mem_of_getElem? (i := 48) rfl)) (hw _ (List.mem_of_getElem? (i := 16) rfl)) (hw _ (List.mem_of_getElem? (i := 17) rfl)) e0 (g := (mkF mM 1 #[.val (.ref a1)] [(.ref a1)])) rfl (by rw [hml]; rfl) rfl (hb hby own_d9_1) (by decide) (W := 0) (by show 2 * 0 + _ ≤ _; exact Nat.le_of_eq rfl) (by decide)
  refine Goes.step st_1 ?_
  show Goes pP eE bB _ (T_1.setTop (mkF mM 4 #[.val (.ref a1)] []))
  refine Goes.ret0 X_1 hx hlk hret (hb hby own_d9_4) (by decide) (by decide) ?_
  exact ⟨rfl, N0, e_1⟩
set_option maxRecDepth 65536 in
set_option maxHeartbeats 40000000 in
theorem rmU (l : Launch) (Z : State) (a0 : Array Value) (hw : ∀ d ∈ tables_1, d.before a0 Z = true) (a1 : Addr) (u0 u1 u2 u3 u4 : Value) (h0 : Heap) (n0 : Nat) (Z0 : n0 ≤ h0.size) (E1 : Exa Z h0 a1 "dev/callstitch/declaration/UriReference") (g1 : n0 ≤ a1) (r0 : u0.isRef = true) (r1 : u1.isRef = true) (r2 : u2.isRef = true) (r3 : u3.isRef = true) (r4 : u4.isRef = true) (F_scheme : Fld Z h0 a1 "dev/callstitch/declaration/UriReference" "scheme" "Ljava/lang/String;" .null) (F_authority : Fld Z h0 a1 "dev/callstitch/declaration/UriReference" "authority" "Ljava/lang/String;" .null) (F_path : Fld Z h0 a1 "dev/callstitch/declaration/UriReference" "path" "Ljava/lang/String;" .null) (F_query : Fld Z h0 a1 "dev/callstitch/declaration/UriReference" "query" "Ljava/lang/String;" .null) (F_fragment : Fld Z h0 a1 "dev/callstitch/declaration/UriReference" "fragment" "Ljava/lang/String;" .null) :
    Con l Z (⟨"dev/callstitch/declaration/UriReference", "<init>", "(Ljava/lang/String;Ljava/lang/String;Ljava/lang/String;Ljava/lang/String;Ljava/lang/String;)V"⟩ : MethodName) prog_37_method_1_code 6 none ({ frames := 2, cells := 0, slots := 0, locals := 24 } : Room) #[(.ref a1), u0, u1, u2, u3, u4] h0 (fun v h L => v = none ∧ Fr n0 L ∧ Keep h0 h [a1] ∧ Fld Z h a1 "dev/callstitch/declaration/UriReference" "scheme" "Ljava/lang/String;" u0 ∧ Fld Z h a1 "dev/callstitch/declaration/UriReference" "authority" "Ljava/lang/String;" u1 ∧ Fld Z h a1 "dev/callstitch/declaration/UriReference" "path" "Ljava/lang/String;" u2 ∧ Fld Z h a1 "dev/callstitch/declaration/UriReference" "query" "Ljava/lang/String;" u3 ∧ Fld Z h a1 "dev/callstitch/declaration/UriReference" "fragment" "Ljava/lang/String;" u4) := by
  refine Con.body (plainFor_of_name own_pn4) ?_
  intro pP eE sS mM bB mT cC s₁ hx hby hml hZ hown hnm hret hlk X0 e0
  have hown : sS.vm.findClass "dev/callstitch/declaration/UriReference" = some mM.cls := hown
  have hml : cC.maxLocals = 6 := hml
  have N0 := Fr.nil n0
  have ef : entryFrame mM #[(.ref a1), u0, u1, u2, u3, u4] 6 = mkF mM 0 #[.val (.ref a1), .val u0, .val u1, .val u2, .val u3, .val u4] [] := by first | (simp [entryFrame, mkF, argsToLocals, Value.category]; done) | rfl | (rcases own_refR r0 with rfl | ⟨_, rfl⟩ <;> rcases own_refR r1 with rfl | ⟨_, rfl⟩ <;> rcases own_refR r2 with rfl | ⟨_, rfl⟩ <;> rcases own_refR r3 with rfl | ⟨_, rfl⟩ <;> rcases own_refR r4 with rfl | ⟨_, rfl⟩ <;> rfl)
  rw [ef]
  show Goes pP eE bB _ (s₁.setTop (mkF mM 0 #[.val (.ref a1), .val u0, .val u1, .val u2, .val u3, .val u4] []))
  refine Goes.step (fun _ kK => XS.aloadN X0.here hx rfl (hb hby own_d8_0) rfl rfl kK) ?_
  show Goes pP eE bB _ (s₁.setTop (mkF mM 1 #[.val (.ref a1), .val u0, .val u1, .val u2, .val u3, .val u4] [(.ref a1)]))
  refine Goes.callI X0 hx hZ rfl hown (hw _ (List.mem_of_getElem? (i := 43) rfl)) (hw _ (List.mem_of_getElem? (i := 44) rfl)) (hw _ (List.mem_of_getElem? (i := 47) rfl)) (hw _ (List.mem_of_getElem? (i := 46) rfl)) (by decide) e0 (rmR l Z a0 hw a1 h0 n0 Z0) (W := 0) (by decide) (by decide) (by decide) (by decide) (g := (mkF mM 1 #[.val (.ref a1), .val u0, .val u1, .val u2, .val u3, .val u4] [(.ref a1)])) rfl (by rw [hml]; rfl) (rest := []) own_pd5 rfl rfl (by show 2 * 0 + _ ≤ _; exact Nat.le_of_eq rfl) (hb hby own_d8_1) ?_
  intro v_1 T_1 L_1 X_1 hQ_1
  obtain ⟨rfl, N_1q, e_1⟩ := hQ_1
  have N_1 := Fr.app N0 N_1q
  show Goes pP eE bB _ (T_1.setTop (mkF mM 4 #[.val (.ref a1), .val u0, .val u1, .val u2, .val u3, .val u4] []))
  refine Goes.step (fun _ kK => XS.aloadN X_1.here hx rfl (hb hby own_d8_4) rfl rfl kK) ?_
  show Goes pP eE bB _ (T_1.setTop (mkF mM 5 #[.val (.ref a1), .val u0, .val u1, .val u2, .val u3, .val u4] [(.ref a1)]))
  refine Goes.step (fun _ kK => XS.aloadN X_1.here hx rfl (hb hby own_d8_5) rfl r0 kK) ?_
  show Goes pP eE bB _ (T_1.setTop (mkF mM 6 #[.val (.ref a1), .val u0, .val u1, .val u2, .val u3, .val u4] [u0, (.ref a1)]))
  obtain ⟨T_2, h_2, X_2, e_2, W_2, st_2⟩ := putF X_1 hx hZ hown (host := "") (Or.inl (hw _ (List.mem_of_getElem? (i := 49) rfl))) Via.refl e_1 F_scheme E1 (Or.inr ⟨(hw _ (List.mem_of_getElem? (i := 50) rfl)), rfl, hnm⟩) (hw _ (List.mem_of_getElem? (i := 38) rfl)) (ty := (.object "java/lang/String")) (by decide) (own_narR r0) (own_fitR r0) (g := (mkF mM 6 #[.val (.ref a1), .val u0, .val u1, .val u2, .val u3, .val u4] [u0, (.ref a1)])) rfl rfl (hb hby own_d8_6)
  have u_3 := F_scheme.same W_2
  have N_2 := Fr.snoc X_2 N_1 g1
  refine Goes.step st_2 ?_
  show Goes pP eE bB _ (T_2.setTop (mkF mM 9 #[.val (.ref a1), .val u0, .val u1, .val u2, .val u3, .val u4] []))
  refine Goes.step (fun _ kK => XS.aloadN X_2.here hx rfl (hb hby own_d8_9) rfl rfl kK) ?_
  show Goes pP eE bB _ (T_2.setTop (mkF mM 10 #[.val (.ref a1), .val u0, .val u1, .val u2, .val u3, .val u4] [(.ref a1)]))
  refine Goes.step (fun _ kK => XS.aloadN X_2.here hx rfl (hb hby own_d8_10) rfl r1 kK) ?_
  show Goes pP eE bB _ (T_2.setTop (mkF mM 11 #[.val (.ref a1), .val u0, .val u1, .val u2, .val u3, .val u4] [u1, (.ref a1)]))
  have u_4 := F_authority.other W_2 (Or.inr (slot_ne (Or.inr (hw _ (List.mem_of_getElem? (i := 52) rfl))) (Or.inr (hw _ (List.mem_of_getElem? (i := 50) rfl))) (by decide) (t := (.object "java/lang/String")) (t' := (.object "java/lang/String")) (by decide) (by decide)))
  have u_5 := E1.wr W_2
  obtain ⟨T_6, h_6, X_6, e_6, W_6, st_6⟩ := putF X_2 hx hZ hown (host := "") (Or.inl (hw _ (List.mem_of_getElem? (i := 51) rfl))) Via.refl e_2 u_4 u_5 (Or.inr ⟨(hw _ (List.mem_of_getElem? (i := 52) rfl)), rfl, hnm⟩) (hw _ (List.mem_of_getElem? (i := 38) rfl)) (ty := (.object "java/lang/String")) (by decide) (own_narR r1) (own_fitR r1) (g := (mkF mM 11 #[.val (.ref a1), .val u0, .val u1, .val u2, .val u3, .val u4] [u1, (.ref a1)])) rfl rfl (hb hby own_d8_11)
  have u_7 := u_4.same W_6
  have N_6 := Fr.snoc X_6 N_2 g1
  refine Goes.step st_6 ?_
  show Goes pP eE bB _ (T_6.setTop (mkF mM 14 #[.val (.ref a1), .val u0, .val u1, .val u2, .val u3, .val u4] []))
  refine Goes.step (fun _ kK => XS.aloadN X_6.here hx rfl (hb hby own_d8_14) rfl rfl kK) ?_
  show Goes pP eE bB _ (T_6.setTop (mkF mM 15 #[.val (.ref a1), .val u0, .val u1, .val u2, .val u3, .val u4] [(.ref a1)]))
  refine Goes.step (fun _ kK => XS.aloadN X_6.here hx rfl (hb hby own_d8_15) rfl r2 kK) ?_
  show Goes pP eE bB _ (T_6.setTop (mkF mM 16 #[.val (.ref a1), .val u0, .val u1, .val u2, .val u3, .val u4] [u2, (.ref a1)]))
  have u_8 := F_path.other W_2 (Or.inr (slot_ne (Or.inr (hw _ (List.mem_of_getElem? (i := 54) rfl))) (Or.inr (hw _ (List.mem_of_getElem? (i := 50) rfl))) (by decide) (t := (.object "java/lang/String")) (t' := (.object "java/lang/String")) (by decide) (by decide)))
  have u_9 := u_8.other W_6 (Or.inr (slot_ne (Or.inr (hw _ (List.mem_of_getElem? (i := 54) rfl))) (Or.inr (hw _ (List.mem_of_getElem? (i := 52) rfl))) (by decide) (t := (.object "java/lang/String")) (t' := (.object "java/lang/String")) (by decide) (by decide)))
  have u_10 := u_5.wr W_6
  obtain ⟨T_11, h_11, X_11, e_11, W_11, st_11⟩ := putF X_6 hx hZ hown (host := "") (Or.inl (hw _ (List.mem_of_getElem? (i := 53) rfl))) Via.refl e_6 u_9 u_10 (Or.inr ⟨(hw _ (List.mem_of_getElem? (i := 54) rfl)), rfl, hnm⟩) (hw _ (List.mem_of_getElem? (i := 38) rfl)) (ty := (.object "java/lang/String")) (by decide) (own_narR r2) (own_fitR r2) (g := (mkF mM 16 #[.val (.ref a1), .val u0, .val u1, .val u2, .val u3, .val u4] [u2, (.ref a1)])) rfl rfl (hb hby own_d8_16)
  have u_12 := u_9.same W_11
  have N_11 := Fr.snoc X_11 N_6 g1
  refine Goes.step st_11 ?_
  show Goes pP eE bB _ (T_11.setTop (mkF mM 19 #[.val (.ref a1), .val u0, .val u1, .val u2, .val u3, .val u4] []))
  refine Goes.step (fun _ kK => XS.aloadN X_11.here hx rfl (hb hby own_d8_19) rfl rfl kK) ?_
  show Goes pP eE bB _ (T_11.setTop (mkF mM 20 #[.val (.ref a1), .val u0, .val u1, .val u2, .val u3, .val u4] [(.ref a1)]))
  refine Goes.step (fun _ kK => XS.aload X_11.here hx rfl (hb hby own_d8_20) rfl r3 kK) ?_
  show Goes pP eE bB _ (T_11.setTop (mkF mM 22 #[.val (.ref a1), .val u0, .val u1, .val u2, .val u3, .val u4] [u3, (.ref a1)]))
  have u_13 := F_query.other W_2 (Or.inr (slot_ne (Or.inr (hw _ (List.mem_of_getElem? (i := 56) rfl))) (Or.inr (hw _ (List.mem_of_getElem? (i := 50) rfl))) (by decide) (t := (.object "java/lang/String")) (t' := (.object "java/lang/String")) (by decide) (by decide)))
  have u_14 := u_13.other W_6 (Or.inr (slot_ne (Or.inr (hw _ (List.mem_of_getElem? (i := 56) rfl))) (Or.inr (hw _ (List.mem_of_getElem? (i := 52) rfl))) (by decide) (t := (.object "java/lang/String")) (t' := (.object "java/lang/String")) (by decide) (by decide)))
  have u_15 := u_14.other W_11 (Or.inr (slot_ne (Or.inr (hw _ (List.mem_of_getElem? (i := 56) rfl))) (Or.inr (hw _ (List.mem_of_getElem? (i := 54) rfl))) (by decide) (t := (.object "java/lang/String")) (t' := (.object "java/lang/String")) (by decide) (by decide)))
  have u_16 := u_10.wr W_11
  obtain ⟨T_17, h_17, X_17, e_17, W_17, st_17⟩ := putF X_11 hx hZ hown (host := "") (Or.inl (hw _ (List.mem_of_getElem? (i := 55) rfl))) Via.refl e_11 u_15 u_16 (Or.inr ⟨(hw _ (List.mem_of_getElem? (i := 56) rfl)), rfl, hnm⟩) (hw _ (List.mem_of_getElem? (i := 38) rfl)) (ty := (.object "java/lang/String")) (by decide) (own_narR r3) (own_fitR r3) (g := (mkF mM 22 #[.val (.ref a1), .val u0, .val u1, .val u2, .val u3, .val u4] [u3, (.ref a1)])) rfl rfl (hb hby own_d8_22)
  have u_18 := u_15.same W_17
  have N_17 := Fr.snoc X_17 N_11 g1
  refine Goes.step st_17 ?_
  show Goes pP eE bB _ (T_17.setTop (mkF mM 25 #[.val (.ref a1), .val u0, .val u1, .val u2, .val u3, .val u4] []))
  refine Goes.step (fun _ kK => XS.aloadN X_17.here hx rfl (hb hby own_d8_25) rfl rfl kK) ?_
  show Goes pP eE bB _ (T_17.setTop (mkF mM 26 #[.val (.ref a1), .val u0, .val u1, .val u2, .val u3, .val u4] [(.ref a1)]))
  refine Goes.step (fun _ kK => XS.aload X_17.here hx rfl (hb hby own_d8_26) rfl r4 kK) ?_
  show Goes pP eE bB _ (T_17.setTop (mkF mM 28 #[.val (.ref a1), .val u0, .val u1, .val u2, .val u3, .val u4] [u4, (.ref a1)]))
  have u_19 := F_fragment.other W_2 (Or.inr (slot_ne (Or.inr (hw _ (List.mem_of_getElem? (i := 58) rfl))) (Or.inr (hw _ (List.mem_of_getElem? (i := 50) rfl))) (by decide) (t := (.object "java/lang/String")) (t' := (.object "java/lang/String")) (by decide) (by decide)))
  have u_20 := u_19.other W_6 (Or.inr (slot_ne (Or.inr (hw _ (List.mem_of_getElem? (i := 58) rfl))) (Or.inr (hw _ (List.mem_of_getElem? (i := 52) rfl))) (by decide) (t := (.object "java/lang/String")) (t' := (.object "java/lang/String")) (by decide) (by decide)))
  have u_21 := u_20.other W_11 (Or.inr (slot_ne (Or.inr (hw _ (List.mem_of_getElem? (i := 58) rfl))) (Or.inr (hw _ (List.mem_of_getElem? (i := 54) rfl))) (by decide) (t := (.object "java/lang/String")) (t' := (.object "java/lang/String")) (by decide) (by decide)))
  have u_22 := u_21.other W_17 (Or.inr (slot_ne (Or.inr (hw _ (List.mem_of_getElem? (i := 58) rfl))) (Or.inr (hw _ (List.mem_of_getElem? (i := 56) rfl))) (by decide) (t := (.object "java/lang/String")) (t' := (.object "java/lang/String")) (by decide) (by decide)))
  have u_23 := u_16.wr W_17
  obtain ⟨T_24, h_24, X_24, e_24, W_24, st_24⟩ := putF X_17 hx hZ hown (host := "") (Or.inl (hw _ (List.mem_of_getElem? (i := 57) rfl))) Via.refl e_17 u_22 u_23 (Or.inr ⟨(hw _ (List.mem_of_getElem? (i := 58) rfl)), rfl, hnm⟩) (hw _ (List.mem_of_getElem? (i := 38) rfl)) (ty := (.object "java/lang/String")) (by decide) (own_narR r4) (own_fitR r4) (g := (mkF mM 28 #[.val (.ref a1), .val u0, .val u1, .val u2, .val u3, .val u4] [u4, (.ref a1)])) rfl rfl (hb hby own_d8_28)
  have u_25 := u_22.same W_24
  have N_24 := Fr.snoc X_24 N_17 g1
  refine Goes.step st_24 ?_
  show Goes pP eE bB _ (T_24.setTop (mkF mM 31 #[.val (.ref a1), .val u0, .val u1, .val u2, .val u3, .val u4] []))
  refine Goes.ret0 X_24 hx hlk hret (hb hby own_d8_31) (by decide) (by decide) ?_
  have u_26 := (Keep.refl h0 [a1]).wr W_2 (Or.inl (List.mem_of_getElem? (i := 0) rfl))
  have u_27 := u_26.wr W_6 (Or.inl (List.mem_of_getElem? (i := 0) rfl))
  have u_28 := u_27.wr W_11 (Or.inl (List.mem_of_getElem? (i := 0) rfl))
  have u_29 := u_28.wr W_17 (Or.inl (List.mem_of_getElem? (i := 0) rfl))
  have u_30 := u_29.wr W_24 (Or.inl (List.mem_of_getElem? (i := 0) rfl))
  have u_31 := u_3.other W_6 (Or.inr (slot_ne (Or.inr (hw _ (List.mem_of_getElem? (i := 50) rfl))) (Or.inr (hw _ (List.mem_of_getElem? (i := 52) rfl))) (by decide) (t := (.object "java/lang/String")) (t' := (.object "java/lang/String")) (by decide) (by decide)))
  have u_32 := u_31.other W_11 (Or.inr (slot_ne (Or.inr (hw _ (List.mem_of_getElem? (i := 50) rfl))) (Or.inr (hw _ (List.mem_of_getElem? (i := 54) rfl))) (by decide) (t := (.object "java/lang/String")) (t' := (.object "java/lang/String")) (by decide) (by decide)))
  have u_33 := u_32.other W_17 (Or.inr (slot_ne (Or.inr (hw _ (List.mem_of_getElem? (i := 50) rfl))) (Or.inr (hw _ (List.mem_of_getElem? (i := 56) rfl))) (by decide) (t := (.object "java/lang/String")) (t' := (.object "java/lang/String")) (by decide) (by decide)))
  have u_34 := u_33.other W_24 (Or.inr (slot_ne (Or.inr (hw _ (List.mem_of_getElem? (i := 50) rfl))) (Or.inr (hw _ (List.mem_of_getElem? (i := 58) rfl))) (by decide) (t := (.object "java/lang/String")) (t' := (.object "java/lang/String")) (by decide) (by decide)))
  have u_35 := u_7.other W_11 (Or.inr (slot_ne (Or.inr (hw _ (List.mem_of_getElem? (i := 52) rfl))) (Or.inr (hw _ (List.mem_of_getElem? (i := 54) rfl))) (by decide) (t := (.object "java/lang/String")) (t' := (.object "java/lang/String")) (by decide) (by decide)))
  have u_36 := u_35.other W_17 (Or.inr (slot_ne (Or.inr (hw _ (List.mem_of_getElem? (i := 52) rfl))) (Or.inr (hw _ (List.mem_of_getElem? (i := 56) rfl))) (by decide) (t := (.object "java/lang/String")) (t' := (.object "java/lang/String")) (by decide) (by decide)))
  have u_37 := u_36.other W_24 (Or.inr (slot_ne (Or.inr (hw _ (List.mem_of_getElem? (i := 52) rfl))) (Or.inr (hw _ (List.mem_of_getElem? (i := 58) rfl))) (by decide) (t := (.object "java/lang/String")) (t' := (.object "java/lang/String")) (by decide) (by decide)))
  have u_38 := u_12.other W_17 (Or.inr (slot_ne (Or.inr (hw _ (List.mem_of_getElem? (i := 54) rfl))) (Or.inr (hw _ (List.mem_of_getElem? (i := 56) rfl))) (by decide) (t := (.object "java/lang/String")) (t' := (.object "java/lang/String")) (by decide) (by decide)))
  have u_39 := u_38.other W_24 (Or.inr (slot_ne (Or.inr (hw _ (List.mem_of_getElem? (i := 54) rfl))) (Or.inr (hw _ (List.mem_of_getElem? (i := 58) rfl))) (by decide) (t := (.object "java/lang/String")) (t' := (.object "java/lang/String")) (by decide) (by decide)))
  have u_40 := u_18.other W_24 (Or.inr (slot_ne (Or.inr (hw _ (List.mem_of_getElem? (i := 56) rfl))) (Or.inr (hw _ (List.mem_of_getElem? (i := 58) rfl))) (by decide) (t := (.object "java/lang/String")) (t' := (.object "java/lang/String")) (by decide) (by decide)))
  exact ⟨rfl, N_24, by rw [e_24]; exact u_30, by rw [e_24]; exact u_34, by rw [e_24]; exact u_37, by rw [e_24]; exact u_39, by rw [e_24]; exact u_40, by rw [e_24]; exact u_25⟩
set_option maxRecDepth 65536 in
set_option maxHeartbeats 40000000 in
theorem rmW (l : Launch) (Z : State) (a0 : Array Value) (hw : ∀ d ∈ tables_1, d.before a0 Z = true) (a1 : Addr) (w : Value) (u0 u1 u2 u3 u4 : Value) (h0 : Heap) (n0 : Nat) (Z0 : n0 ≤ h0.size) (E1 : Exa Z h0 a1 "dev/callstitch/declaration/UriReference") (rw_ : w.isRef = true) (r0 : u0.isRef = true) (r1 : u1.isRef = true) (r2 : u2.isRef = true) (r3 : u3.isRef = true) (r4 : u4.isRef = true) (F_scheme : Fld Z h0 a1 "dev/callstitch/declaration/UriReference" "scheme" "Ljava/lang/String;" u0) (F_authority : Fld Z h0 a1 "dev/callstitch/declaration/UriReference" "authority" "Ljava/lang/String;" u1) (F_path : Fld Z h0 a1 "dev/callstitch/declaration/UriReference" "path" "Ljava/lang/String;" u2) (F_query : Fld Z h0 a1 "dev/callstitch/declaration/UriReference" "query" "Ljava/lang/String;" u3) (F_fragment : Fld Z h0 a1 "dev/callstitch/declaration/UriReference" "fragment" "Ljava/lang/String;" u4) :
    Con l Z (⟨"dev/callstitch/declaration/UriReference", "withPath", "(Ljava/lang/String;)Ldev/callstitch/declaration/UriReference;"⟩ : MethodName) prog_37_method_3_code 2 (some (.object "dev/callstitch/declaration/UriReference")) ({ frames := 3, cells := 1, slots := 5, locals := 42 } : Room) #[(.ref a1), w] h0 (fun v h L => ∃ a, v = some (.ref a) ∧ Fr n0 L ∧ Keep h0 h [] ∧ h0.size ≤ a ∧ Exa Z h a "dev/callstitch/declaration/UriReference" ∧ Fld Z h a "dev/callstitch/declaration/UriReference" "scheme" "Ljava/lang/String;" u0 ∧ Fld Z h a "dev/callstitch/declaration/UriReference" "authority" "Ljava/lang/String;" u1 ∧ Fld Z h a "dev/callstitch/declaration/UriReference" "path" "Ljava/lang/String;" w ∧ Fld Z h a "dev/callstitch/declaration/UriReference" "query" "Ljava/lang/String;" u3 ∧ Fld Z h a "dev/callstitch/declaration/UriReference" "fragment" "Ljava/lang/String;" u4) := by
  refine Con.body (plainFor_of_name own_pn4) ?_
  intro pP eE sS mM bB mT cC s₁ hx hby hml hZ hown hnm hret hlk X0 e0
  have hown : sS.vm.findClass "dev/callstitch/declaration/UriReference" = some mM.cls := hown
  have hml : cC.maxLocals = 2 := hml
  have N0 := Fr.nil n0
  have ef : entryFrame mM #[(.ref a1), w] 2 = mkF mM 0 #[.val (.ref a1), .val w] [] := by first | (simp [entryFrame, mkF, argsToLocals, Value.category]; done) | rfl | (rcases own_refR rw_ with rfl | ⟨_, rfl⟩ <;> rfl)
  rw [ef]
  show Goes pP eE bB _ (s₁.setTop (mkF mM 0 #[.val (.ref a1), .val w] []))
  obtain ⟨T_1, h_1, X_1, e_1, E_1, A_1, D_1, -, st_1⟩ := newO X0 hx hZ hown (hw _ (List.mem_of_getElem? (i := 64) rfl)) (hw _ (List.mem_of_getElem? (i := 38) rfl)) (hw _ (List.mem_of_getElem? (i := 39) rfl)) e0 (g := (mkF mM 0 #[.val (.ref a1), .val w] [])) rfl (hb hby own_d10_0) (by decide) (by decide)
  obtain ⟨b_1, g_1⟩ : ∃ z, z = h0.size := ⟨_, rfl⟩
  rw [← g_1] at A_1 D_1 st_1
  have u_2 : a1 < b_1 := Nat.lt_of_lt_of_le (E1).lt (Nat.le_of_eq g_1.symm)
  have u_3 : n0 ≤ b_1 := Nat.le_trans Z0 (Nat.le_of_eq g_1.symm)
  have u_4 : h0.size ≤ b_1 := Nat.le_trans ((Keep.refl h0 [])).1 (Nat.le_of_eq g_1.symm)
  have u_5 : Fld Z h_1 b_1 "dev/callstitch/declaration/UriReference" "scheme" "Ljava/lang/String;" .null := D_1 (Or.inr (hw _ (List.mem_of_getElem? (i := 50) rfl))) (ty := (.object "java/lang/String")) (by decide)
  have u_6 : Fld Z h_1 b_1 "dev/callstitch/declaration/UriReference" "authority" "Ljava/lang/String;" .null := D_1 (Or.inr (hw _ (List.mem_of_getElem? (i := 52) rfl))) (ty := (.object "java/lang/String")) (by decide)
  have u_7 : Fld Z h_1 b_1 "dev/callstitch/declaration/UriReference" "path" "Ljava/lang/String;" .null := D_1 (Or.inr (hw _ (List.mem_of_getElem? (i := 54) rfl))) (ty := (.object "java/lang/String")) (by decide)
  have u_8 : Fld Z h_1 b_1 "dev/callstitch/declaration/UriReference" "query" "Ljava/lang/String;" .null := D_1 (Or.inr (hw _ (List.mem_of_getElem? (i := 56) rfl))) (ty := (.object "java/lang/String")) (by decide)
  have u_9 : Fld Z h_1 b_1 "dev/callstitch/declaration/UriReference" "fragment" "Ljava/lang/String;" .null := D_1 (Or.inr (hw _ (List.mem_of_getElem? (i := 58) rfl))) (ty := (.object "java/lang/String")) (by decide)
  refine Goes.step st_1 ?_
  show Goes pP eE bB _ (T_1.setTop (mkF mM 3 #[.val (.ref a1), .val w] [(.ref b_1)]))
  refine Goes.step (fun _ kK => XS.dup X_1.here hx rfl (hb hby own_d10_3) rfl rfl kK) ?_
  show Goes pP eE bB _ (T_1.setTop (mkF mM 4 #[.val (.ref a1), .val w] [(.ref b_1), (.ref b_1)]))
  refine Goes.step (fun _ kK => XS.aloadN X_1.here hx rfl (hb hby own_d10_4) rfl rfl kK) ?_
  show Goes pP eE bB _ (T_1.setTop (mkF mM 5 #[.val (.ref a1), .val w] [(.ref a1), (.ref b_1), (.ref b_1)]))
  have u_10 := F_scheme.ext E_1
  obtain ⟨T_11, X_11, e_11, st_11⟩ := getF X_1 hx hZ hown (host := "") (Or.inl (hw _ (List.mem_of_getElem? (i := 49) rfl))) Via.refl e_1 u_10 (g := (mkF mM 5 #[.val (.ref a1), .val w] [(.ref a1), (.ref b_1), (.ref b_1)])) rfl rfl (hb hby own_d10_5)
  refine Goes.step st_11 ?_
  show Goes pP eE bB _ (T_11.setTop (mkF mM 8 #[.val (.ref a1), .val w] [u0, (.ref b_1), (.ref b_1)]))
  refine Goes.step (fun _ kK => XS.aloadN X_11.here hx rfl (hb hby own_d10_8) rfl rfl kK) ?_
  show Goes pP eE bB _ (T_11.setTop (mkF mM 9 #[.val (.ref a1), .val w] [(.ref a1), u0, (.ref b_1), (.ref b_1)]))
  have u_12 := F_authority.ext E_1
  obtain ⟨T_13, X_13, e_13, st_13⟩ := getF X_11 hx hZ hown (host := "") (Or.inl (hw _ (List.mem_of_getElem? (i := 51) rfl))) Via.refl e_11 u_12 (g := (mkF mM 9 #[.val (.ref a1), .val w] [(.ref a1), u0, (.ref b_1), (.ref b_1)])) rfl rfl (hb hby own_d10_9)
  refine Goes.step st_13 ?_
  show Goes pP eE bB _ (T_13.setTop (mkF mM 12 #[.val (.ref a1), .val w] [u1, u0, (.ref b_1), (.ref b_1)]))
  refine Goes.step (fun _ kK => XS.aloadN X_13.here hx rfl (hb hby own_d10_12) rfl rw_ kK) ?_
  show Goes pP eE bB _ (T_13.setTop (mkF mM 13 #[.val (.ref a1), .val w] [w, u1, u0, (.ref b_1), (.ref b_1)]))
  refine Goes.step (fun _ kK => XS.aloadN X_13.here hx rfl (hb hby own_d10_13) rfl rfl kK) ?_
  show Goes pP eE bB _ (T_13.setTop (mkF mM 14 #[.val (.ref a1), .val w] [(.ref a1), w, u1, u0, (.ref b_1), (.ref b_1)]))
  have u_14 := F_query.ext E_1
  obtain ⟨T_15, X_15, e_15, st_15⟩ := getF X_13 hx hZ hown (host := "") (Or.inl (hw _ (List.mem_of_getElem? (i := 55) rfl))) Via.refl e_13 u_14 (g := (mkF mM 14 #[.val (.ref a1), .val w] [(.ref a1), w, u1, u0, (.ref b_1), (.ref b_1)])) rfl rfl (hb hby own_d10_14)
  refine Goes.step st_15 ?_
  show Goes pP eE bB _ (T_15.setTop (mkF mM 17 #[.val (.ref a1), .val w] [u3, w, u1, u0, (.ref b_1), (.ref b_1)]))
  refine Goes.step (fun _ kK => XS.aloadN X_15.here hx rfl (hb hby own_d10_17) rfl rfl kK) ?_
  show Goes pP eE bB _ (T_15.setTop (mkF mM 18 #[.val (.ref a1), .val w] [(.ref a1), u3, w, u1, u0, (.ref b_1), (.ref b_1)]))
  have u_16 := F_fragment.ext E_1
  obtain ⟨T_17, X_17, e_17, st_17⟩ := getF X_15 hx hZ hown (host := "") (Or.inl (hw _ (List.mem_of_getElem? (i := 57) rfl))) Via.refl e_15 u_16 (g := (mkF mM 18 #[.val (.ref a1), .val w] [(.ref a1), u3, w, u1, u0, (.ref b_1), (.ref b_1)])) rfl rfl (hb hby own_d10_18)
  refine Goes.step st_17 ?_
  show Goes pP eE bB _ (T_17.setTop (mkF mM 21 #[.val (.ref a1), .val w] [u4, u3, w, u1, u0, (.ref b_1), (.ref b_1)]))
  have u_18 := Nat.le_trans Z0 E_1.1
  refine Goes.callI X_17 hx hZ rfl hown (hw _ (List.mem_of_getElem? (i := 65) rfl)) (hw _ (List.mem_of_getElem? (i := 41) rfl)) (hw _ (List.mem_of_getElem? (i := 42) rfl)) (hw _ (List.mem_of_getElem? (i := 39) rfl)) (by decide) e_17 (rmU l Z a0 hw b_1 u0 u1 w u3 u4 h_1 n0 u_18 A_1 u_3 r0 r1 rw_ r3 r4 u_5 u_6 u_7 u_8 u_9) (W := 1) (by decide) (by decide) (by decide) (by decide) (g := (mkF mM 21 #[.val (.ref a1), .val w] [u4, u3, w, u1, u0, (.ref b_1), (.ref b_1)])) rfl (by rw [hml]; rfl) (rest := [(.ref b_1)]) own_pd6 rfl rfl (by show 2 * 0 + _ ≤ _; exact Nat.le_of_eq rfl) (hb hby own_d10_21) ?_
  intro v_19 T_19 L_19 X_19 hQ_19
  generalize e_19 : T_19.heap = h_19 at hQ_19
  obtain ⟨rfl, N_19q, K_19, F_19_scheme, F_19_authority, F_19_path, F_19_query, F_19_fragment⟩ := hQ_19
  have N_19 := Fr.app N0 N_19q
  show Goes pP eE bB _ (T_19.setTop (mkF mM 24 #[.val (.ref a1), .val w] [(.ref b_1)]))
  refine Goes.ret X_19 hx hlk hret rfl (Or.inr (Or.inr (Or.inr (Or.inr ⟨rfl, rfl, rfl⟩)))) (hb hby own_d10_24) (by decide) (by decide) ?_
  have u_20 := (Keep.refl h0 []).ext E_1
  have u_21 := u_20.trans K_19 (allS (Or.inr u_4) all0)
  have u_22 := A_1.keep K_19
  exact ⟨_, rfl, N_19, by rw [e_19]; exact u_21, u_4, by rw [e_19]; exact u_22, by rw [e_19]; exact F_19_scheme, by rw [e_19]; exact F_19_authority, by rw [e_19]; exact F_19_path, by rw [e_19]; exact F_19_query, by rw [e_19]; exact F_19_fragment⟩
set_option maxRecDepth 65536 in
set_option maxHeartbeats 40000000 in
theorem rmg_scheme (l : Launch) (Z : State) (a0 : Array Value) (hw : ∀ d ∈ tables_1, d.before a0 Z = true) (a1 : Addr) (u : Value) (h0 : Heap) (n0 : Nat) (Z0 : n0 ≤ h0.size) (ru : u.isRef = true) (F0 : Fld Z h0 a1 "dev/callstitch/declaration/UriReference" "scheme" "Ljava/lang/String;" u) :
    Con l Z (⟨"dev/callstitch/declaration/UriReference", "scheme", "()Ljava/lang/String;"⟩ : MethodName) prog_37_method_14_code 1 (some (.object "java/lang/String")) ({ frames := 0, cells := 0, slots := 0, locals := 0 } : Room) #[(.ref a1)] h0 (fun v h L => v = some u ∧ Fr n0 L ∧ h = h0) := by
  refine Con.body (plainFor_of_name own_pn4) ?_
  intro pP eE sS mM bB mT cC s₁ hx hby hml hZ hown hnm hret hlk X0 e0
  have hown : sS.vm.findClass "dev/callstitch/declaration/UriReference" = some mM.cls := hown
  have hml : cC.maxLocals = 1 := hml
  have N0 := Fr.nil n0
  have ef : entryFrame mM #[(.ref a1)] 1 = mkF mM 0 #[.val (.ref a1)] [] := by first | (simp [entryFrame, mkF, argsToLocals, Value.category]; done) | rfl
  rw [ef]
  show Goes pP eE bB _ (s₁.setTop (mkF mM 0 #[.val (.ref a1)] []))
  refine Goes.step (fun _ kK => XS.aloadN X0.here hx rfl (hb hby own_d11_0) rfl rfl kK) ?_
  show Goes pP eE bB _ (s₁.setTop (mkF mM 1 #[.val (.ref a1)] [(.ref a1)]))
  obtain ⟨T_1, X_1, e_1, st_1⟩ := getF X0 hx hZ hown (host := "") (Or.inl (hw _ (List.mem_of_getElem? (i := 49) rfl))) Via.refl e0 F0 (g := (mkF mM 1 #[.val (.ref a1)] [(.ref a1)])) rfl rfl (hb hby own_d11_1)
  refine Goes.step st_1 ?_
  show Goes pP eE bB _ (T_1.setTop (mkF mM 4 #[.val (.ref a1)] [u]))
  refine Goes.ret X_1 hx hlk hret rfl (Or.inr (Or.inr (Or.inr (Or.inr ⟨rfl, rfl, ru⟩)))) (hb hby own_d11_4) (by decide) (by decide) ?_
  exact ⟨rfl, N0, e_1⟩
set_option maxRecDepth 65536 in
set_option maxHeartbeats 40000000 in
theorem rmg_authority (l : Launch) (Z : State) (a0 : Array Value) (hw : ∀ d ∈ tables_1, d.before a0 Z = true) (a1 : Addr) (u : Value) (h0 : Heap) (n0 : Nat) (Z0 : n0 ≤ h0.size) (ru : u.isRef = true) (F0 : Fld Z h0 a1 "dev/callstitch/declaration/UriReference" "authority" "Ljava/lang/String;" u) :
    Con l Z (⟨"dev/callstitch/declaration/UriReference", "authority", "()Ljava/lang/String;"⟩ : MethodName) prog_37_method_15_code 1 (some (.object "java/lang/String")) ({ frames := 0, cells := 0, slots := 0, locals := 0 } : Room) #[(.ref a1)] h0 (fun v h L => v = some u ∧ Fr n0 L ∧ h = h0) := by
  refine Con.body (plainFor_of_name own_pn4) ?_
  intro pP eE sS mM bB mT cC s₁ hx hby hml hZ hown hnm hret hlk X0 e0
  have hown : sS.vm.findClass "dev/callstitch/declaration/UriReference" = some mM.cls := hown
  have hml : cC.maxLocals = 1 := hml
  have N0 := Fr.nil n0
  have ef : entryFrame mM #[(.ref a1)] 1 = mkF mM 0 #[.val (.ref a1)] [] := by first | (simp [entryFrame, mkF, argsToLocals, Value.category]; done) | rfl
  rw [ef]
  show Goes pP eE bB _ (s₁.setTop (mkF mM 0 #[.val (.ref a1)] []))
  refine Goes.step (fun _ kK => XS.aloadN X0.here hx rfl (hb hby own_d13_0) rfl rfl kK) ?_
  show Goes pP eE bB _ (s₁.setTop (mkF mM 1 #[.val (.ref a1)] [(.ref a1)]))
  obtain ⟨T_1, X_1, e_1, st_1⟩ := getF X0 hx hZ hown (host := "") (Or.inl (hw _ (List.mem_of_getElem? (i := 51) rfl))) Via.refl e0 F0 (g := (mkF mM 1 #[.val (.ref a1)] [(.ref a1)])) rfl rfl (hb hby own_d13_1)
  refine Goes.step st_1 ?_
  show Goes pP eE bB _ (T_1.setTop (mkF mM 4 #[.val (.ref a1)] [u]))
  refine Goes.ret X_1 hx hlk hret rfl (Or.inr (Or.inr (Or.inr (Or.inr ⟨rfl, rfl, ru⟩)))) (hb hby own_d13_4) (by decide) (by decide) ?_
  exact ⟨rfl, N0, e_1⟩
set_option maxRecDepth 65536 in
set_option maxHeartbeats 40000000 in
theorem rmg_path (l : Launch) (Z : State) (a0 : Array Value) (hw : ∀ d ∈ tables_1, d.before a0 Z = true) (a1 : Addr) (u : Value) (h0 : Heap) (n0 : Nat) (Z0 : n0 ≤ h0.size) (ru : u.isRef = true) (F0 : Fld Z h0 a1 "dev/callstitch/declaration/UriReference" "path" "Ljava/lang/String;" u) :
    Con l Z (⟨"dev/callstitch/declaration/UriReference", "path", "()Ljava/lang/String;"⟩ : MethodName) prog_37_method_16_code 1 (some (.object "java/lang/String")) ({ frames := 0, cells := 0, slots := 0, locals := 0 } : Room) #[(.ref a1)] h0 (fun v h L => v = some u ∧ Fr n0 L ∧ h = h0) := by
  refine Con.body (plainFor_of_name own_pn4) ?_
  intro pP eE sS mM bB mT cC s₁ hx hby hml hZ hown hnm hret hlk X0 e0
  have hown : sS.vm.findClass "dev/callstitch/declaration/UriReference" = some mM.cls := hown
  have hml : cC.maxLocals = 1 := hml
  have N0 := Fr.nil n0
  have ef : entryFrame mM #[(.ref a1)] 1 = mkF mM 0 #[.val (.ref a1)] [] := by first | (simp [entryFrame, mkF, argsToLocals, Value.category]; done) | rfl
  rw [ef]
  show Goes pP eE bB _ (s₁.setTop (mkF mM 0 #[.val (.ref a1)] []))
  refine Goes.step (fun _ kK => XS.aloadN X0.here hx rfl (hb hby own_d15_0) rfl rfl kK) ?_
  show Goes pP eE bB _ (s₁.setTop (mkF mM 1 #[.val (.ref a1)] [(.ref a1)]))
  obtain ⟨T_1, X_1, e_1, st_1⟩ := getF X0 hx hZ hown (host := "") (Or.inl (hw _ (List.mem_of_getElem? (i := 53) rfl))) Via.refl e0 F0 (g := (mkF mM 1 #[.val (.ref a1)] [(.ref a1)])) rfl rfl (hb hby own_d15_1)
  refine Goes.step st_1 ?_
  show Goes pP eE bB _ (T_1.setTop (mkF mM 4 #[.val (.ref a1)] [u]))
  refine Goes.ret X_1 hx hlk hret rfl (Or.inr (Or.inr (Or.inr (Or.inr ⟨rfl, rfl, ru⟩)))) (hb hby own_d15_4) (by decide) (by decide) ?_
  exact ⟨rfl, N0, e_1⟩
set_option maxRecDepth 65536 in
set_option maxHeartbeats 40000000 in
theorem rmg_query (l : Launch) (Z : State) (a0 : Array Value) (hw : ∀ d ∈ tables_1, d.before a0 Z = true) (a1 : Addr) (u : Value) (h0 : Heap) (n0 : Nat) (Z0 : n0 ≤ h0.size) (ru : u.isRef = true) (F0 : Fld Z h0 a1 "dev/callstitch/declaration/UriReference" "query" "Ljava/lang/String;" u) :
    Con l Z (⟨"dev/callstitch/declaration/UriReference", "query", "()Ljava/lang/String;"⟩ : MethodName) prog_37_method_17_code 1 (some (.object "java/lang/String")) ({ frames := 0, cells := 0, slots := 0, locals := 0 } : Room) #[(.ref a1)] h0 (fun v h L => v = some u ∧ Fr n0 L ∧ h = h0) := by
  refine Con.body (plainFor_of_name own_pn4) ?_
  intro pP eE sS mM bB mT cC s₁ hx hby hml hZ hown hnm hret hlk X0 e0
  have hown : sS.vm.findClass "dev/callstitch/declaration/UriReference" = some mM.cls := hown
  have hml : cC.maxLocals = 1 := hml
  have N0 := Fr.nil n0
  have ef : entryFrame mM #[(.ref a1)] 1 = mkF mM 0 #[.val (.ref a1)] [] := by first | (simp [entryFrame, mkF, argsToLocals, Value.category]; done) | rfl
  rw [ef]
  show Goes pP eE bB _ (s₁.setTop (mkF mM 0 #[.val (.ref a1)] []))
  refine Goes.step (fun _ kK => XS.aloadN X0.here hx rfl (hb hby own_d16_0) rfl rfl kK) ?_
  show Goes pP eE bB _ (s₁.setTop (mkF mM 1 #[.val (.ref a1)] [(.ref a1)]))
  obtain ⟨T_1, X_1, e_1, st_1⟩ := getF X0 hx hZ hown (host := "") (Or.inl (hw _ (List.mem_of_getElem? (i := 55) rfl))) Via.refl e0 F0 (g := (mkF mM 1 #[.val (.ref a1)] [(.ref a1)])) rfl rfl (hb hby own_d16_1)
  refine Goes.step st_1 ?_
  show Goes pP eE bB _ (T_1.setTop (mkF mM 4 #[.val (.ref a1)] [u]))
  refine Goes.ret X_1 hx hlk hret rfl (Or.inr (Or.inr (Or.inr (Or.inr ⟨rfl, rfl, ru⟩)))) (hb hby own_d16_4) (by decide) (by decide) ?_
  exact ⟨rfl, N0, e_1⟩
set_option maxRecDepth 65536 in
set_option maxHeartbeats 40000000 in
theorem rmg_fragment (l : Launch) (Z : State) (a0 : Array Value) (hw : ∀ d ∈ tables_1, d.before a0 Z = true) (a1 : Addr) (u : Value) (h0 : Heap) (n0 : Nat) (Z0 : n0 ≤ h0.size) (ru : u.isRef = true) (F0 : Fld Z h0 a1 "dev/callstitch/declaration/UriReference" "fragment" "Ljava/lang/String;" u) :
    Con l Z (⟨"dev/callstitch/declaration/UriReference", "fragment", "()Ljava/lang/String;"⟩ : MethodName) prog_37_method_18_code 1 (some (.object "java/lang/String")) ({ frames := 0, cells := 0, slots := 0, locals := 0 } : Room) #[(.ref a1)] h0 (fun v h L => v = some u ∧ Fr n0 L ∧ h = h0) := by
  refine Con.body (plainFor_of_name own_pn4) ?_
  intro pP eE sS mM bB mT cC s₁ hx hby hml hZ hown hnm hret hlk X0 e0
  have hown : sS.vm.findClass "dev/callstitch/declaration/UriReference" = some mM.cls := hown
  have hml : cC.maxLocals = 1 := hml
  have N0 := Fr.nil n0
  have ef : entryFrame mM #[(.ref a1)] 1 = mkF mM 0 #[.val (.ref a1)] [] := by first | (simp [entryFrame, mkF, argsToLocals, Value.category]; done) | rfl
  rw [ef]
  show Goes pP eE bB _ (s₁.setTop (mkF mM 0 #[.val (.ref a1)] []))
  refine Goes.step (fun _ kK => XS.aloadN X0.here hx rfl (hb hby own_d17_0) rfl rfl kK) ?_
  show Goes pP eE bB _ (s₁.setTop (mkF mM 1 #[.val (.ref a1)] [(.ref a1)]))
  obtain ⟨T_1, X_1, e_1, st_1⟩ := getF X0 hx hZ hown (host := "") (Or.inl (hw _ (List.mem_of_getElem? (i := 57) rfl))) Via.refl e0 F0 (g := (mkF mM 1 #[.val (.ref a1)] [(.ref a1)])) rfl rfl (hb hby own_d17_1)
  refine Goes.step st_1 ?_
  show Goes pP eE bB _ (T_1.setTop (mkF mM 4 #[.val (.ref a1)] [u]))
  refine Goes.ret X_1 hx hlk hret rfl (Or.inr (Or.inr (Or.inr (Or.inr ⟨rfl, rfl, ru⟩)))) (hb hby own_d17_4) (by decide) (by decide) ?_
  exact ⟨rfl, N0, e_1⟩
set_option maxRecDepth 65536 in
set_option maxHeartbeats 40000000 in
theorem rmE (l : Launch) (Z : State) (a0 : Array Value) (hw : ∀ d ∈ tables_1, d.before a0 Z = true) (a1 : Addr) (h0 : Heap) (n0 : Nat) (Z0 : n0 ≤ h0.size) :
    Con l Z (⟨"java/lang/String", "equals", "(Ljava/lang/Object;)Z"⟩ : MethodName) jdk_42_method_66_code 3 (some .boolean) ({ frames := 0, cells := 0, slots := 0, locals := 0 } : Room) #[(.ref a1), (.ref a1)] h0 (fun v h L => v = some (.int (1 : Int32)) ∧ Fr n0 L ∧ h = h0) := by
  refine Con.body (plainFor_of_name own_pn0) ?_
  intro pP eE sS mM bB mT cC s₁ hx hby hml hZ hown hnm hret hlk X0 e0
  have hown : sS.vm.findClass "java/lang/String" = some mM.cls := hown
  have hml : cC.maxLocals = 3 := hml
  have N0 := Fr.nil n0
  have ef : entryFrame mM #[(.ref a1), (.ref a1)] 3 = mkF mM 0 #[.val (.ref a1), .val (.ref a1), .unset] [] := by first | (simp [entryFrame, mkF, argsToLocals, Value.category]; done) | rfl
  rw [ef]
  show Goes pP eE bB _ (s₁.setTop (mkF mM 0 #[.val (.ref a1), .val (.ref a1), .unset] []))
  refine Goes.step (fun _ kK => XS.aloadN X0.here hx rfl (hb hby own_d14_0) rfl rfl kK) ?_
  show Goes pP eE bB _ (s₁.setTop (mkF mM 1 #[.val (.ref a1), .val (.ref a1), .unset] [(.ref a1)]))
  refine Goes.step (fun _ kK => XS.aloadN X0.here hx rfl (hb hby own_d14_1) rfl rfl kK) ?_
  show Goes pP eE bB _ (s₁.setTop (mkF mM 2 #[.val (.ref a1), .val (.ref a1), .unset] [(.ref a1), (.ref a1)]))
  refine Goes.step (fun _ kK => Jvm.RoadKit.acmp (g := (mkF mM 2 #[.val (.ref a1), .val (.ref a1), .unset] [(.ref a1), (.ref a1)])) X0 hx rfl rfl rfl (pc0 := 2) (pc' := 5) (same := true) rfl (hb hby own_d14_2) rfl (decide_eq_true rfl) (by decide) (by decide) kK) ?_
  show Goes pP eE bB _ (s₁.setTop (mkF mM 5 #[.val (.ref a1), .val (.ref a1), .unset] []))
  refine Goes.step (fun _ kK => XS.iconst X0.here hx rfl (hb hby own_d14_5) kK) ?_
  show Goes pP eE bB _ (s₁.setTop (mkF mM 6 #[.val (.ref a1), .val (.ref a1), .unset] [(.int (1 : Int32))]))
  refine Goes.retN X0 hx hlk (t := .boolean) hret (by simp) (hb hby own_d14_6) (by decide) (by decide) ?_
  exact ⟨rfl, N0, e0⟩
set_option maxRecDepth 65536 in
set_option maxHeartbeats 40000000 in
theorem rmS_r (l : Launch) (Z : State) (a0 : Array Value) (hw : ∀ d ∈ tables_1, d.before a0 Z = true) (a1 : Addr) (h0 : Heap) (n0 : Nat) (Z0 : n0 ≤ h0.size) (E1 : Exa Z h0 a1 "java/lang/String") :
    Con l Z (⟨"dev/callstitch/declaration/UriReferenceWithPathPinLaw", "same", "(Ljava/lang/String;Ljava/lang/String;)Z"⟩ : MethodName) method_4_code 2 (some .boolean) ({ frames := 1, cells := 0, slots := 0, locals := 14 } : Room) #[(.ref a1), (.ref a1)] h0 (fun v h L => v = some (.int (1 : Int32)) ∧ Fr n0 L ∧ h = h0) := by
  refine Con.body (plainFor_of_name own_pn2) ?_
  intro pP eE sS mM bB mT cC s₁ hx hby hml hZ hown hnm hret hlk X0 e0
  have hown : sS.vm.findClass "dev/callstitch/declaration/UriReferenceWithPathPinLaw" = some mM.cls := hown
  have hml : cC.maxLocals = 2 := hml
  have N0 := Fr.nil n0
  have ef : entryFrame mM #[(.ref a1), (.ref a1)] 2 = mkF mM 0 #[.val (.ref a1), .val (.ref a1)] [] := by first | (simp [entryFrame, mkF, argsToLocals, Value.category]; done) | rfl
  rw [ef]
  show Goes pP eE bB _ (s₁.setTop (mkF mM 0 #[.val (.ref a1), .val (.ref a1)] []))
  refine Goes.step (fun _ kK => XS.aloadN X0.here hx rfl (hb hby own_d12_0) rfl rfl kK) ?_
  show Goes pP eE bB _ (s₁.setTop (mkF mM 1 #[.val (.ref a1), .val (.ref a1)] [(.ref a1)]))
  refine Goes.step (fun _ kK => XS.ifnonnullYes X0.here hx rfl (pc0 := 1) (pc' := 14) rfl (hb hby own_d12_1) rfl (by decide) (by decide) kK) ?_
  show Goes pP eE bB _ (s₁.setTop (mkF mM 14 #[.val (.ref a1), .val (.ref a1)] []))
  refine Goes.step (fun _ kK => XS.aloadN X0.here hx rfl (hb hby own_d12_14) rfl rfl kK) ?_
  show Goes pP eE bB _ (s₁.setTop (mkF mM 15 #[.val (.ref a1), .val (.ref a1)] [(.ref a1)]))
  refine Goes.step (fun _ kK => XS.aloadN X0.here hx rfl (hb hby own_d12_15) rfl rfl kK) ?_
  show Goes pP eE bB _ (s₁.setTop (mkF mM 16 #[.val (.ref a1), .val (.ref a1)] [(.ref a1), (.ref a1)]))
  refine Goes.callV X0 hx hZ hown (hw _ (List.mem_of_getElem? (i := 79) rfl)) (hw _ (List.mem_of_getElem? (i := 80) rfl)) (notFace_of_selects (args := #[]) (mvT hZ (hw _ (List.mem_of_getElem? (i := 82) rfl)))) (hw _ (List.mem_of_getElem? (i := 82) rfl)) (hw _ (List.mem_of_getElem? (i := 81) rfl)) (hw _ (List.mem_of_getElem? (i := 83) rfl)) (hw _ (List.mem_of_getElem? (i := 6) rfl)) (by decide) e0 E1 (rmE l Z a0 hw a1 h0 n0 Z0) (W := 0) (by decide) (by decide) (by decide) (by decide) (g := (mkF mM 16 #[.val (.ref a1), .val (.ref a1)] [(.ref a1), (.ref a1)])) rfl (by rw [hml]; rfl) (rest := []) own_pd7 rfl rfl (by show 2 * 0 + _ ≤ _; exact Nat.le_of_eq rfl) (hb hby own_d12_16) ?_
  intro v_1 T_1 L_1 X_1 hQ_1
  obtain ⟨rfl, N_1q, e_1⟩ := hQ_1
  have N_1 := Fr.app N0 N_1q
  show Goes pP eE bB _ (T_1.setTop (mkF mM 19 #[.val (.ref a1), .val (.ref a1)] [(.int (1 : Int32))]))
  refine Goes.retN X_1 hx hlk (t := .boolean) hret (by simp) (hb hby own_d12_19) (by decide) (by decide) ?_
  exact ⟨rfl, N_1, e_1⟩
set_option maxRecDepth 65536 in
set_option maxHeartbeats 40000000 in
theorem rmS_n (l : Launch) (Z : State) (a0 : Array Value) (hw : ∀ d ∈ tables_1, d.before a0 Z = true)  (h0 : Heap) (n0 : Nat) (Z0 : n0 ≤ h0.size) :
    Con l Z (⟨"dev/callstitch/declaration/UriReferenceWithPathPinLaw", "same", "(Ljava/lang/String;Ljava/lang/String;)Z"⟩ : MethodName) method_4_code 2 (some .boolean) ({ frames := 1, cells := 0, slots := 0, locals := 14 } : Room) #[.null, .null] h0 (fun v h L => v = some (.int (1 : Int32)) ∧ Fr n0 L ∧ h = h0) := by
  refine Con.body (plainFor_of_name own_pn2) ?_
  intro pP eE sS mM bB mT cC s₁ hx hby hml hZ hown hnm hret hlk X0 e0
  have hown : sS.vm.findClass "dev/callstitch/declaration/UriReferenceWithPathPinLaw" = some mM.cls := hown
  have hml : cC.maxLocals = 2 := hml
  have N0 := Fr.nil n0
  have ef : entryFrame mM #[.null, .null] 2 = mkF mM 0 #[.val .null, .val .null] [] := by first | (simp [entryFrame, mkF, argsToLocals, Value.category]; done) | rfl
  rw [ef]
  show Goes pP eE bB _ (s₁.setTop (mkF mM 0 #[.val .null, .val .null] []))
  refine Goes.step (fun _ kK => XS.aloadN X0.here hx rfl (hb hby own_d12_0) rfl rfl kK) ?_
  show Goes pP eE bB _ (s₁.setTop (mkF mM 1 #[.val .null, .val .null] [.null]))
  refine Goes.step (fun _ kK => XS.ifnonnullNo X0.here hx rfl (hb hby own_d12_1) rfl kK) ?_
  show Goes pP eE bB _ (s₁.setTop (mkF mM 4 #[.val .null, .val .null] []))
  refine Goes.step (fun _ kK => XS.aloadN X0.here hx rfl (hb hby own_d12_4) rfl rfl kK) ?_
  show Goes pP eE bB _ (s₁.setTop (mkF mM 5 #[.val .null, .val .null] [.null]))
  refine Goes.step (fun _ kK => XS.ifnonnullNo X0.here hx rfl (hb hby own_d12_5) rfl kK) ?_
  show Goes pP eE bB _ (s₁.setTop (mkF mM 8 #[.val .null, .val .null] []))
  refine Goes.step (fun _ kK => XS.iconst X0.here hx rfl (hb hby own_d12_8) kK) ?_
  show Goes pP eE bB _ (s₁.setTop (mkF mM 9 #[.val .null, .val .null] [(.int (1 : Int32))]))
  refine Goes.step (fun _ kK => XS.goto X0.here hx rfl (pc0 := 9) (pc' := 13) rfl (hb hby own_d12_9) (by decide) (by decide) kK) ?_
  show Goes pP eE bB _ (s₁.setTop (mkF mM 13 #[.val .null, .val .null] [(.int (1 : Int32))]))
  refine Goes.retN X0 hx hlk (t := .boolean) hret (by simp) (hb hby own_d12_13) (by decide) (by decide) ?_
  exact ⟨rfl, N0, e0⟩
theorem rmS (l : Launch) (Z : State) (a0 : Array Value) (hw : ∀ d ∈ tables_1, d.before a0 Z = true) (u : Value) (h0 : Heap) (n0 : Nat) (Z0 : n0 ≤ h0.size) (V : Osv Z h0 u) :
    Con l Z (⟨"dev/callstitch/declaration/UriReferenceWithPathPinLaw", "same", "(Ljava/lang/String;Ljava/lang/String;)Z"⟩ : MethodName) method_4_code 2 (some .boolean) ({ frames := 1, cells := 0, slots := 0, locals := 14 } : Room) #[u, u] h0 (fun v h L => v = some (.int (1 : Int32)) ∧ Fr n0 L ∧ h = h0) := by
  rcases V with rfl | ⟨a, rfl, E⟩
  · exact rmS_n l Z a0 hw h0 n0 Z0
  · exact rmS_r l Z a0 hw a h0 n0 Z0 E
set_option maxRecDepth 65536 in
set_option maxHeartbeats 40000000 in
theorem rm0 (l : Launch) (Z : State) (a0 : Array Value) (hw : ∀ d ∈ tables_1, d.before a0 Z = true) (p1 p2 p3 p4 p5 p6 : Int32) (cs : Int32) (h0 : Heap) (n0 : Nat) (Z0 : n0 ≤ h0.size) (Scs : Sta Z Z.heap "java/lang/String" "COMPACT_STRINGS" "Z" (.int cs)) (hcs : ¬ (cs = (0 : Int32))) (O0 : Old Z n0 h0) :
    ConK l Z own_EL x code maxLocals ret room_1 #[(.int p1), (.int p2), (.int p3), (.int p4), (.int p5), (.int p6)] h0 (fun v h L => v = some (.int 1) ∧ Fr n0 L) := by
  refine ConK.body (plainFor_of_name own_pn2) ?_
  intro pP eE sS vm0 mM bB mT cC s₁ hx hby hml hZ hown hnm hret hlk X0 e0 hS hs0 C0
  have hown : (sS.setVm vm0).vm.findClass "dev/callstitch/declaration/UriReferenceWithPathPinLaw" = some mM.cls := hown
  have hml : cC.maxLocals = 14 := hml
  have N0 := Fr.nil n0
  have ef : entryFrame mM #[(.int p1), (.int p2), (.int p3), (.int p4), (.int p5), (.int p6)] maxLocals = mkF mM 0 #[.val (.int p1), .val (.int p2), .val (.int p3), .val (.int p4), .val (.int p5), .val (.int p6), .unset, .unset, .unset, .unset, .unset, .unset, .unset, .unset] [] := by first | (simp [entryFrame, mkF, argsToLocals, Value.category, maxLocals]; done) | rfl
  rw [ef]
  show Goes pP eE bB _ (s₁.setTop (mkF mM 0 #[.val (.int p1), .val (.int p2), .val (.int p3), .val (.int p4), .val (.int p5), .val (.int p6), .unset, .unset, .unset, .unset, .unset, .unset, .unset, .unset] []))
  refine Goes.step (fun _ kK => XS.iloadN X0.here hx rfl (hb hby at_0) rfl kK) ?_
  show Goes pP eE bB _ (s₁.setTop (mkF mM 1 #[.val (.int p1), .val (.int p2), .val (.int p3), .val (.int p4), .val (.int p5), .val (.int p6), .unset, .unset, .unset, .unset, .unset, .unset, .unset, .unset] [(.int p1)]))
  refine Goes.step (fun _ kK => XS.iconst X0.here hx rfl (hb hby at_1) kK) ?_
  show Goes pP eE bB _ (s₁.setTop (mkF mM 2 #[.val (.int p1), .val (.int p2), .val (.int p3), .val (.int p4), .val (.int p5), .val (.int p6), .unset, .unset, .unset, .unset, .unset, .unset, .unset, .unset] [(.int (1 : Int32)), (.int p1)]))
  refine Goes.callSH X0 hx hZ hown (hw _ (List.mem_of_getElem? (i := 0) rfl)) (hw _ (List.mem_of_getElem? (i := 1) rfl)) (hw _ (List.mem_of_getElem? (i := 2) rfl)) (hw _ (List.mem_of_getElem? (i := 3) rfl)) (by decide) e0 hS (Nat.le_refl h0.size) (own_hEL hw) C0 all0 (rmD l Z a0 hw p1 (1 : Int32) cs h0 n0 Z0 Scs hcs O0) (W := 0) (by decide) (by decide) (by decide) (by decide) (g := (mkF mM 2 #[.val (.int p1), .val (.int p2), .val (.int p3), .val (.int p4), .val (.int p5), .val (.int p6), .unset, .unset, .unset, .unset, .unset, .unset, .unset, .unset] [(.int (1 : Int32)), (.int p1)])) rfl (by rw [hml]; rfl) (rest := []) own_pd8 rfl rfl (by show 2 * 0 + _ ≤ _; exact Nat.le_of_eq rfl) (hb hby at_2) ?_
  intro v_1 T_1 L_1 RB_1 gr_1 hQ_1
  obtain ⟨⟨X_1, hS, hZ, hown⟩, CC_1⟩ := RB_1
  generalize e_1 : T_1.heap = h_1 at hQ_1
  obtain ⟨u_1, rfl, N_1q, K_1, V_1⟩ := hQ_1
  have r_1 : u_1.isRef = true := V_1.isRef
  have N_1 := Fr.app N0 N_1q
  have hk_1 : T_1.heap.size ≤ h_1.size := Nat.le_of_eq (by rw [e_1])
  rw [e_1] at CC_1
  have u_2 := C0.trans CC_1
  show Goes pP eE bB _ (T_1.setTop (mkF mM 5 #[.val (.int p1), .val (.int p2), .val (.int p3), .val (.int p4), .val (.int p5), .val (.int p6), .unset, .unset, .unset, .unset, .unset, .unset, .unset, .unset] [u_1]))
  refine Goes.step (fun _ kK => XS.astore X_1.here hx rfl (hb hby at_5) rfl r_1 (l' := #[.val (.int p1), .val (.int p2), .val (.int p3), .val (.int p4), .val (.int p5), .val (.int p6), .val u_1, .unset, .unset, .unset, .unset, .unset, .unset, .unset]) (by rcases own_refR r_1 with rfl | ⟨_, rfl⟩ <;> rfl) kK) ?_
  show Goes pP eE bB _ (T_1.setTop (mkF mM 7 #[.val (.int p1), .val (.int p2), .val (.int p3), .val (.int p4), .val (.int p5), .val (.int p6), .val u_1, .unset, .unset, .unset, .unset, .unset, .unset, .unset] []))
  refine Goes.step (fun _ kK => XS.iloadN X_1.here hx rfl (hb hby at_7) rfl kK) ?_
  show Goes pP eE bB _ (T_1.setTop (mkF mM 8 #[.val (.int p1), .val (.int p2), .val (.int p3), .val (.int p4), .val (.int p5), .val (.int p6), .val u_1, .unset, .unset, .unset, .unset, .unset, .unset, .unset] [(.int p2)]))
  refine Goes.step (fun _ kK => XS.iconst X_1.here hx rfl (hb hby at_8) kK) ?_
  show Goes pP eE bB _ (T_1.setTop (mkF mM 9 #[.val (.int p1), .val (.int p2), .val (.int p3), .val (.int p4), .val (.int p5), .val (.int p6), .val u_1, .unset, .unset, .unset, .unset, .unset, .unset, .unset] [(.int (1 : Int32)), (.int p2)]))
  have u_3 := Nat.le_trans Z0 K_1.1
  have u_4 := O0.keep K_1 all0
  refine Goes.callSH X_1 hx hZ hown (hw _ (List.mem_of_getElem? (i := 0) rfl)) (hw _ (List.mem_of_getElem? (i := 1) rfl)) (hw _ (List.mem_of_getElem? (i := 2) rfl)) (hw _ (List.mem_of_getElem? (i := 3) rfl)) (by decide) e_1 hS hk_1 (own_hEL hw) u_2 all0 (rmD l Z a0 hw p2 (1 : Int32) cs h_1 n0 u_3 Scs hcs u_4) (W := 0) (by decide) (by decide) (by decide) (by decide) (g := (mkF mM 9 #[.val (.int p1), .val (.int p2), .val (.int p3), .val (.int p4), .val (.int p5), .val (.int p6), .val u_1, .unset, .unset, .unset, .unset, .unset, .unset, .unset] [(.int (1 : Int32)), (.int p2)])) rfl (by rw [hml]; rfl) (rest := []) own_pd8 rfl rfl (by show 2 * 0 + _ ≤ _; exact Nat.le_of_eq rfl) (hb hby at_9) ?_
  intro v_5 T_5 L_5 RB_5 gr_5 hQ_5
  obtain ⟨⟨X_5, hS, hZ, hown⟩, CC_5⟩ := RB_5
  generalize e_5 : T_5.heap = h_5 at hQ_5
  obtain ⟨u_5, rfl, N_5q, K_5, V_5⟩ := hQ_5
  have r_5 : u_5.isRef = true := V_5.isRef
  have N_5 := Fr.app N_1 N_5q
  have hk_5 : T_5.heap.size ≤ h_5.size := Nat.le_of_eq (by rw [e_5])
  rw [e_5] at CC_5
  have u_6 := u_2.trans CC_5
  show Goes pP eE bB _ (T_5.setTop (mkF mM 12 #[.val (.int p1), .val (.int p2), .val (.int p3), .val (.int p4), .val (.int p5), .val (.int p6), .val u_1, .unset, .unset, .unset, .unset, .unset, .unset, .unset] [u_5]))
  refine Goes.step (fun _ kK => XS.astore X_5.here hx rfl (hb hby at_12) rfl r_5 (l' := #[.val (.int p1), .val (.int p2), .val (.int p3), .val (.int p4), .val (.int p5), .val (.int p6), .val u_1, .val u_5, .unset, .unset, .unset, .unset, .unset, .unset]) (by rcases own_refR r_5 with rfl | ⟨_, rfl⟩ <;> rfl) kK) ?_
  show Goes pP eE bB _ (T_5.setTop (mkF mM 14 #[.val (.int p1), .val (.int p2), .val (.int p3), .val (.int p4), .val (.int p5), .val (.int p6), .val u_1, .val u_5, .unset, .unset, .unset, .unset, .unset, .unset] []))
  refine Goes.step (fun _ kK => XS.iloadN X_5.here hx rfl (hb hby at_14) rfl kK) ?_
  show Goes pP eE bB _ (T_5.setTop (mkF mM 15 #[.val (.int p1), .val (.int p2), .val (.int p3), .val (.int p4), .val (.int p5), .val (.int p6), .val u_1, .val u_5, .unset, .unset, .unset, .unset, .unset, .unset] [(.int p3)]))
  refine Goes.step (fun _ kK => XS.iconst X_5.here hx rfl (hb hby at_15) kK) ?_
  show Goes pP eE bB _ (T_5.setTop (mkF mM 16 #[.val (.int p1), .val (.int p2), .val (.int p3), .val (.int p4), .val (.int p5), .val (.int p6), .val u_1, .val u_5, .unset, .unset, .unset, .unset, .unset, .unset] [(.int (0 : Int32)), (.int p3)]))
  have u_7 := Nat.le_trans u_3 K_5.1
  have u_8 := u_4.keep K_5 all0
  refine Goes.callSH X_5 hx hZ hown (hw _ (List.mem_of_getElem? (i := 0) rfl)) (hw _ (List.mem_of_getElem? (i := 1) rfl)) (hw _ (List.mem_of_getElem? (i := 2) rfl)) (hw _ (List.mem_of_getElem? (i := 3) rfl)) (by decide) e_5 hS hk_5 (own_hEL hw) u_6 all0 (rmD l Z a0 hw p3 (0 : Int32) cs h_5 n0 u_7 Scs hcs u_8) (W := 0) (by decide) (by decide) (by decide) (by decide) (g := (mkF mM 16 #[.val (.int p1), .val (.int p2), .val (.int p3), .val (.int p4), .val (.int p5), .val (.int p6), .val u_1, .val u_5, .unset, .unset, .unset, .unset, .unset, .unset] [(.int (0 : Int32)), (.int p3)])) rfl (by rw [hml]; rfl) (rest := []) own_pd8 rfl rfl (by show 2 * 0 + _ ≤ _; exact Nat.le_of_eq rfl) (hb hby at_16) ?_
  intro v_9 T_9 L_9 RB_9 gr_9 hQ_9
  obtain ⟨⟨X_9, hS, hZ, hown⟩, CC_9⟩ := RB_9
  generalize e_9 : T_9.heap = h_9 at hQ_9
  obtain ⟨u_9, rfl, N_9q, K_9, V_9⟩ := hQ_9
  have r_9 : u_9.isRef = true := V_9.isRef
  have N_9 := Fr.app N_5 N_9q
  have hk_9 : T_9.heap.size ≤ h_9.size := Nat.le_of_eq (by rw [e_9])
  rw [e_9] at CC_9
  have u_10 := u_6.trans CC_9
  show Goes pP eE bB _ (T_9.setTop (mkF mM 19 #[.val (.int p1), .val (.int p2), .val (.int p3), .val (.int p4), .val (.int p5), .val (.int p6), .val u_1, .val u_5, .unset, .unset, .unset, .unset, .unset, .unset] [u_9]))
  refine Goes.step (fun _ kK => XS.astore X_9.here hx rfl (hb hby at_19) rfl r_9 (l' := #[.val (.int p1), .val (.int p2), .val (.int p3), .val (.int p4), .val (.int p5), .val (.int p6), .val u_1, .val u_5, .val u_9, .unset, .unset, .unset, .unset, .unset]) (by rcases own_refR r_9 with rfl | ⟨_, rfl⟩ <;> rfl) kK) ?_
  show Goes pP eE bB _ (T_9.setTop (mkF mM 21 #[.val (.int p1), .val (.int p2), .val (.int p3), .val (.int p4), .val (.int p5), .val (.int p6), .val u_1, .val u_5, .val u_9, .unset, .unset, .unset, .unset, .unset] []))
  refine Goes.step (fun _ kK => XS.iloadN X_9.here hx rfl (hb hby at_21) rfl kK) ?_
  show Goes pP eE bB _ (T_9.setTop (mkF mM 22 #[.val (.int p1), .val (.int p2), .val (.int p3), .val (.int p4), .val (.int p5), .val (.int p6), .val u_1, .val u_5, .val u_9, .unset, .unset, .unset, .unset, .unset] [(.int p4)]))
  refine Goes.step (fun _ kK => XS.iconst X_9.here hx rfl (hb hby at_22) kK) ?_
  show Goes pP eE bB _ (T_9.setTop (mkF mM 23 #[.val (.int p1), .val (.int p2), .val (.int p3), .val (.int p4), .val (.int p5), .val (.int p6), .val u_1, .val u_5, .val u_9, .unset, .unset, .unset, .unset, .unset] [(.int (1 : Int32)), (.int p4)]))
  have u_11 := Nat.le_trans u_7 K_9.1
  have u_12 := u_8.keep K_9 all0
  refine Goes.callSH X_9 hx hZ hown (hw _ (List.mem_of_getElem? (i := 0) rfl)) (hw _ (List.mem_of_getElem? (i := 1) rfl)) (hw _ (List.mem_of_getElem? (i := 2) rfl)) (hw _ (List.mem_of_getElem? (i := 3) rfl)) (by decide) e_9 hS hk_9 (own_hEL hw) u_10 all0 (rmD l Z a0 hw p4 (1 : Int32) cs h_9 n0 u_11 Scs hcs u_12) (W := 0) (by decide) (by decide) (by decide) (by decide) (g := (mkF mM 23 #[.val (.int p1), .val (.int p2), .val (.int p3), .val (.int p4), .val (.int p5), .val (.int p6), .val u_1, .val u_5, .val u_9, .unset, .unset, .unset, .unset, .unset] [(.int (1 : Int32)), (.int p4)])) rfl (by rw [hml]; rfl) (rest := []) own_pd8 rfl rfl (by show 2 * 0 + _ ≤ _; exact Nat.le_of_eq rfl) (hb hby at_23) ?_
  intro v_13 T_13 L_13 RB_13 gr_13 hQ_13
  obtain ⟨⟨X_13, hS, hZ, hown⟩, CC_13⟩ := RB_13
  generalize e_13 : T_13.heap = h_13 at hQ_13
  obtain ⟨u_13, rfl, N_13q, K_13, V_13⟩ := hQ_13
  have r_13 : u_13.isRef = true := V_13.isRef
  have N_13 := Fr.app N_9 N_13q
  have hk_13 : T_13.heap.size ≤ h_13.size := Nat.le_of_eq (by rw [e_13])
  rw [e_13] at CC_13
  have u_14 := u_10.trans CC_13
  show Goes pP eE bB _ (T_13.setTop (mkF mM 26 #[.val (.int p1), .val (.int p2), .val (.int p3), .val (.int p4), .val (.int p5), .val (.int p6), .val u_1, .val u_5, .val u_9, .unset, .unset, .unset, .unset, .unset] [u_13]))
  refine Goes.step (fun _ kK => XS.astore X_13.here hx rfl (hb hby at_26) rfl r_13 (l' := #[.val (.int p1), .val (.int p2), .val (.int p3), .val (.int p4), .val (.int p5), .val (.int p6), .val u_1, .val u_5, .val u_9, .val u_13, .unset, .unset, .unset, .unset]) (by rcases own_refR r_13 with rfl | ⟨_, rfl⟩ <;> rfl) kK) ?_
  show Goes pP eE bB _ (T_13.setTop (mkF mM 28 #[.val (.int p1), .val (.int p2), .val (.int p3), .val (.int p4), .val (.int p5), .val (.int p6), .val u_1, .val u_5, .val u_9, .val u_13, .unset, .unset, .unset, .unset] []))
  refine Goes.step (fun _ kK => XS.iload X_13.here hx rfl (hb hby at_28) rfl kK) ?_
  show Goes pP eE bB _ (T_13.setTop (mkF mM 30 #[.val (.int p1), .val (.int p2), .val (.int p3), .val (.int p4), .val (.int p5), .val (.int p6), .val u_1, .val u_5, .val u_9, .val u_13, .unset, .unset, .unset, .unset] [(.int p5)]))
  refine Goes.step (fun _ kK => XS.iconst X_13.here hx rfl (hb hby at_30) kK) ?_
  show Goes pP eE bB _ (T_13.setTop (mkF mM 31 #[.val (.int p1), .val (.int p2), .val (.int p3), .val (.int p4), .val (.int p5), .val (.int p6), .val u_1, .val u_5, .val u_9, .val u_13, .unset, .unset, .unset, .unset] [(.int (1 : Int32)), (.int p5)]))
  have u_15 := Nat.le_trans u_11 K_13.1
  have u_16 := u_12.keep K_13 all0
  refine Goes.callSH X_13 hx hZ hown (hw _ (List.mem_of_getElem? (i := 0) rfl)) (hw _ (List.mem_of_getElem? (i := 1) rfl)) (hw _ (List.mem_of_getElem? (i := 2) rfl)) (hw _ (List.mem_of_getElem? (i := 3) rfl)) (by decide) e_13 hS hk_13 (own_hEL hw) u_14 all0 (rmD l Z a0 hw p5 (1 : Int32) cs h_13 n0 u_15 Scs hcs u_16) (W := 0) (by decide) (by decide) (by decide) (by decide) (g := (mkF mM 31 #[.val (.int p1), .val (.int p2), .val (.int p3), .val (.int p4), .val (.int p5), .val (.int p6), .val u_1, .val u_5, .val u_9, .val u_13, .unset, .unset, .unset, .unset] [(.int (1 : Int32)), (.int p5)])) rfl (by rw [hml]; rfl) (rest := []) own_pd8 rfl rfl (by show 2 * 0 + _ ≤ _; exact Nat.le_of_eq rfl) (hb hby at_31) ?_
  intro v_17 T_17 L_17 RB_17 gr_17 hQ_17
  obtain ⟨⟨X_17, hS, hZ, hown⟩, CC_17⟩ := RB_17
  generalize e_17 : T_17.heap = h_17 at hQ_17
  obtain ⟨u_17, rfl, N_17q, K_17, V_17⟩ := hQ_17
  have r_17 : u_17.isRef = true := V_17.isRef
  have N_17 := Fr.app N_13 N_17q
  have hk_17 : T_17.heap.size ≤ h_17.size := Nat.le_of_eq (by rw [e_17])
  rw [e_17] at CC_17
  have u_18 := u_14.trans CC_17
  show Goes pP eE bB _ (T_17.setTop (mkF mM 34 #[.val (.int p1), .val (.int p2), .val (.int p3), .val (.int p4), .val (.int p5), .val (.int p6), .val u_1, .val u_5, .val u_9, .val u_13, .unset, .unset, .unset, .unset] [u_17]))
  refine Goes.step (fun _ kK => XS.astore X_17.here hx rfl (hb hby at_34) rfl r_17 (l' := #[.val (.int p1), .val (.int p2), .val (.int p3), .val (.int p4), .val (.int p5), .val (.int p6), .val u_1, .val u_5, .val u_9, .val u_13, .val u_17, .unset, .unset, .unset]) (by rcases own_refR r_17 with rfl | ⟨_, rfl⟩ <;> rfl) kK) ?_
  show Goes pP eE bB _ (T_17.setTop (mkF mM 36 #[.val (.int p1), .val (.int p2), .val (.int p3), .val (.int p4), .val (.int p5), .val (.int p6), .val u_1, .val u_5, .val u_9, .val u_13, .val u_17, .unset, .unset, .unset] []))
  refine Goes.step (fun _ kK => XS.iload X_17.here hx rfl (hb hby at_36) rfl kK) ?_
  show Goes pP eE bB _ (T_17.setTop (mkF mM 38 #[.val (.int p1), .val (.int p2), .val (.int p3), .val (.int p4), .val (.int p5), .val (.int p6), .val u_1, .val u_5, .val u_9, .val u_13, .val u_17, .unset, .unset, .unset] [(.int p6)]))
  refine Goes.step (fun _ kK => XS.iconst X_17.here hx rfl (hb hby at_38) kK) ?_
  show Goes pP eE bB _ (T_17.setTop (mkF mM 39 #[.val (.int p1), .val (.int p2), .val (.int p3), .val (.int p4), .val (.int p5), .val (.int p6), .val u_1, .val u_5, .val u_9, .val u_13, .val u_17, .unset, .unset, .unset] [(.int (0 : Int32)), (.int p6)]))
  have u_19 := Nat.le_trans u_15 K_17.1
  have u_20 := u_16.keep K_17 all0
  refine Goes.callSH X_17 hx hZ hown (hw _ (List.mem_of_getElem? (i := 0) rfl)) (hw _ (List.mem_of_getElem? (i := 1) rfl)) (hw _ (List.mem_of_getElem? (i := 2) rfl)) (hw _ (List.mem_of_getElem? (i := 3) rfl)) (by decide) e_17 hS hk_17 (own_hEL hw) u_18 all0 (rmD l Z a0 hw p6 (0 : Int32) cs h_17 n0 u_19 Scs hcs u_20) (W := 0) (by decide) (by decide) (by decide) (by decide) (g := (mkF mM 39 #[.val (.int p1), .val (.int p2), .val (.int p3), .val (.int p4), .val (.int p5), .val (.int p6), .val u_1, .val u_5, .val u_9, .val u_13, .val u_17, .unset, .unset, .unset] [(.int (0 : Int32)), (.int p6)])) rfl (by rw [hml]; rfl) (rest := []) own_pd8 rfl rfl (by show 2 * 0 + _ ≤ _; exact Nat.le_of_eq rfl) (hb hby at_39) ?_
  intro v_21 T_21 L_21 RB_21 gr_21 hQ_21
  obtain ⟨⟨X_21, hS, hZ, hown⟩, CC_21⟩ := RB_21
  generalize e_21 : T_21.heap = h_21 at hQ_21
  obtain ⟨u_21, rfl, N_21q, K_21, V_21⟩ := hQ_21
  have r_21 : u_21.isRef = true := V_21.isRef
  have N_21 := Fr.app N_17 N_21q
  have hk_21 : T_21.heap.size ≤ h_21.size := Nat.le_of_eq (by rw [e_21])
  rw [e_21] at CC_21
  have u_22 := u_18.trans CC_21
  show Goes pP eE bB _ (T_21.setTop (mkF mM 42 #[.val (.int p1), .val (.int p2), .val (.int p3), .val (.int p4), .val (.int p5), .val (.int p6), .val u_1, .val u_5, .val u_9, .val u_13, .val u_17, .unset, .unset, .unset] [u_21]))
  refine Goes.step (fun _ kK => XS.astore X_21.here hx rfl (hb hby at_42) rfl r_21 (l' := #[.val (.int p1), .val (.int p2), .val (.int p3), .val (.int p4), .val (.int p5), .val (.int p6), .val u_1, .val u_5, .val u_9, .val u_13, .val u_17, .val u_21, .unset, .unset]) (by rcases own_refR r_21 with rfl | ⟨_, rfl⟩ <;> rfl) kK) ?_
  show Goes pP eE bB _ (T_21.setTop (mkF mM 44 #[.val (.int p1), .val (.int p2), .val (.int p3), .val (.int p4), .val (.int p5), .val (.int p6), .val u_1, .val u_5, .val u_9, .val u_13, .val u_17, .val u_21, .unset, .unset] []))
  obtain ⟨T_23, h_23, X_23, e_23, E_23, A_23, D_23, -, st_23⟩ := newO X_21 hx hZ hown (hw _ (List.mem_of_getElem? (i := 37) rfl)) (hw _ (List.mem_of_getElem? (i := 38) rfl)) (hw _ (List.mem_of_getElem? (i := 39) rfl)) e_21 (g := (mkF mM 44 #[.val (.int p1), .val (.int p2), .val (.int p3), .val (.int p4), .val (.int p5), .val (.int p6), .val u_1, .val u_5, .val u_9, .val u_13, .val u_17, .val u_21, .unset, .unset] [])) rfl (hb hby at_44) (by decide) (by decide)
  obtain ⟨b_23, g_23⟩ : ∃ z, z = h_21.size := ⟨_, rfl⟩
  rw [← g_23] at A_23 D_23 st_23
  have u_24 := Nat.le_trans u_19 K_21.1
  have u_25 : n0 ≤ b_23 := Nat.le_trans u_24 (Nat.le_of_eq g_23.symm)
  have u_26 : Fld Z h_23 b_23 "dev/callstitch/declaration/UriReference" "scheme" "Ljava/lang/String;" .null := D_23 (Or.inr (hw _ (List.mem_of_getElem? (i := 50) rfl))) (ty := (.object "java/lang/String")) (by decide)
  have u_27 : Fld Z h_23 b_23 "dev/callstitch/declaration/UriReference" "authority" "Ljava/lang/String;" .null := D_23 (Or.inr (hw _ (List.mem_of_getElem? (i := 52) rfl))) (ty := (.object "java/lang/String")) (by decide)
  have u_28 : Fld Z h_23 b_23 "dev/callstitch/declaration/UriReference" "path" "Ljava/lang/String;" .null := D_23 (Or.inr (hw _ (List.mem_of_getElem? (i := 54) rfl))) (ty := (.object "java/lang/String")) (by decide)
  have u_29 : Fld Z h_23 b_23 "dev/callstitch/declaration/UriReference" "query" "Ljava/lang/String;" .null := D_23 (Or.inr (hw _ (List.mem_of_getElem? (i := 56) rfl))) (ty := (.object "java/lang/String")) (by decide)
  have u_30 : Fld Z h_23 b_23 "dev/callstitch/declaration/UriReference" "fragment" "Ljava/lang/String;" .null := D_23 (Or.inr (hw _ (List.mem_of_getElem? (i := 58) rfl))) (ty := (.object "java/lang/String")) (by decide)
  refine Goes.step st_23 ?_
  have u_31 := Safe.ext E_23 u_22.1 (Safe.new (Nat.le_of_eq g_23.symm))
  have u_32 := u_22.trans (CHr.ext E_23 u_22.1)
  show Goes pP eE bB _ (T_23.setTop (mkF mM 47 #[.val (.int p1), .val (.int p2), .val (.int p3), .val (.int p4), .val (.int p5), .val (.int p6), .val u_1, .val u_5, .val u_9, .val u_13, .val u_17, .val u_21, .unset, .unset] [(.ref b_23)]))
  refine Goes.step (fun _ kK => XS.dup X_23.here hx rfl (hb hby at_47) rfl rfl kK) ?_
  show Goes pP eE bB _ (T_23.setTop (mkF mM 48 #[.val (.int p1), .val (.int p2), .val (.int p3), .val (.int p4), .val (.int p5), .val (.int p6), .val u_1, .val u_5, .val u_9, .val u_13, .val u_17, .val u_21, .unset, .unset] [(.ref b_23), (.ref b_23)]))
  refine Goes.step (fun _ kK => XS.aload X_23.here hx rfl (hb hby at_48) rfl r_1 kK) ?_
  show Goes pP eE bB _ (T_23.setTop (mkF mM 50 #[.val (.int p1), .val (.int p2), .val (.int p3), .val (.int p4), .val (.int p5), .val (.int p6), .val u_1, .val u_5, .val u_9, .val u_13, .val u_17, .val u_21, .unset, .unset] [u_1, (.ref b_23), (.ref b_23)]))
  refine Goes.step (fun _ kK => XS.aload X_23.here hx rfl (hb hby at_50) rfl r_5 kK) ?_
  show Goes pP eE bB _ (T_23.setTop (mkF mM 52 #[.val (.int p1), .val (.int p2), .val (.int p3), .val (.int p4), .val (.int p5), .val (.int p6), .val u_1, .val u_5, .val u_9, .val u_13, .val u_17, .val u_21, .unset, .unset] [u_5, u_1, (.ref b_23), (.ref b_23)]))
  refine Goes.step (fun _ kK => XS.aload X_23.here hx rfl (hb hby at_52) rfl r_9 kK) ?_
  show Goes pP eE bB _ (T_23.setTop (mkF mM 54 #[.val (.int p1), .val (.int p2), .val (.int p3), .val (.int p4), .val (.int p5), .val (.int p6), .val u_1, .val u_5, .val u_9, .val u_13, .val u_17, .val u_21, .unset, .unset] [u_9, u_5, u_1, (.ref b_23), (.ref b_23)]))
  refine Goes.step (fun _ kK => XS.aload X_23.here hx rfl (hb hby at_54) rfl r_13 kK) ?_
  show Goes pP eE bB _ (T_23.setTop (mkF mM 56 #[.val (.int p1), .val (.int p2), .val (.int p3), .val (.int p4), .val (.int p5), .val (.int p6), .val u_1, .val u_5, .val u_9, .val u_13, .val u_17, .val u_21, .unset, .unset] [u_13, u_9, u_5, u_1, (.ref b_23), (.ref b_23)]))
  refine Goes.step (fun _ kK => XS.aload X_23.here hx rfl (hb hby at_56) rfl r_17 kK) ?_
  show Goes pP eE bB _ (T_23.setTop (mkF mM 58 #[.val (.int p1), .val (.int p2), .val (.int p3), .val (.int p4), .val (.int p5), .val (.int p6), .val u_1, .val u_5, .val u_9, .val u_13, .val u_17, .val u_21, .unset, .unset] [u_17, u_13, u_9, u_5, u_1, (.ref b_23), (.ref b_23)]))
  have u_33 := Nat.le_trans u_24 E_23.1
  refine Goes.callI X_23 hx hZ rfl hown (hw _ (List.mem_of_getElem? (i := 40) rfl)) (hw _ (List.mem_of_getElem? (i := 41) rfl)) (hw _ (List.mem_of_getElem? (i := 42) rfl)) (hw _ (List.mem_of_getElem? (i := 39) rfl)) (by decide) e_23 (rmU l Z a0 hw b_23 u_1 u_5 u_9 u_13 u_17 h_23 n0 u_33 A_23 u_25 r_1 r_5 r_9 r_13 r_17 u_26 u_27 u_28 u_29 u_30) (W := 1) (by decide) (by decide) (by decide) (by decide) (g := (mkF mM 58 #[.val (.int p1), .val (.int p2), .val (.int p3), .val (.int p4), .val (.int p5), .val (.int p6), .val u_1, .val u_5, .val u_9, .val u_13, .val u_17, .val u_21, .unset, .unset] [u_17, u_13, u_9, u_5, u_1, (.ref b_23), (.ref b_23)])) rfl (by rw [hml]; rfl) (rest := [(.ref b_23)]) own_pd6 rfl rfl (by show 2 * 0 + _ ≤ _; exact Nat.le_of_eq rfl) (hb hby at_58) ?_
  intro v_34 T_34 L_34 X_34 hQ_34
  generalize e_34 : T_34.heap = h_34 at hQ_34
  obtain ⟨rfl, N_34q, K_34, F_34_scheme, F_34_authority, F_34_path, F_34_query, F_34_fragment⟩ := hQ_34
  have N_34 := Fr.app N_21 N_34q
  show Goes pP eE bB _ (T_34.setTop (mkF mM 61 #[.val (.int p1), .val (.int p2), .val (.int p3), .val (.int p4), .val (.int p5), .val (.int p6), .val u_1, .val u_5, .val u_9, .val u_13, .val u_17, .val u_21, .unset, .unset] [(.ref b_23)]))
  refine Goes.step (fun _ kK => XS.astore X_34.here hx rfl (hb hby at_61) rfl rfl (l' := #[.val (.int p1), .val (.int p2), .val (.int p3), .val (.int p4), .val (.int p5), .val (.int p6), .val u_1, .val u_5, .val u_9, .val u_13, .val u_17, .val u_21, .val (.ref b_23), .unset]) rfl kK) ?_
  show Goes pP eE bB _ (T_34.setTop (mkF mM 63 #[.val (.int p1), .val (.int p2), .val (.int p3), .val (.int p4), .val (.int p5), .val (.int p6), .val u_1, .val u_5, .val u_9, .val u_13, .val u_17, .val u_21, .val (.ref b_23), .unset] []))
  refine Goes.step (fun _ kK => XS.aload X_34.here hx rfl (hb hby at_63) rfl rfl kK) ?_
  show Goes pP eE bB _ (T_34.setTop (mkF mM 65 #[.val (.int p1), .val (.int p2), .val (.int p3), .val (.int p4), .val (.int p5), .val (.int p6), .val u_1, .val u_5, .val u_9, .val u_13, .val u_17, .val u_21, .val (.ref b_23), .unset] [(.ref b_23)]))
  refine Goes.step (fun _ kK => XS.aload X_34.here hx rfl (hb hby at_65) rfl r_21 kK) ?_
  show Goes pP eE bB _ (T_34.setTop (mkF mM 67 #[.val (.int p1), .val (.int p2), .val (.int p3), .val (.int p4), .val (.int p5), .val (.int p6), .val u_1, .val u_5, .val u_9, .val u_13, .val u_17, .val u_21, .val (.ref b_23), .unset] [u_21, (.ref b_23)]))
  have u_35 := Nat.le_trans u_33 K_34.1
  have u_36 := A_23.keep K_34
  refine Goes.callV X_34 hx hZ hown (hw _ (List.mem_of_getElem? (i := 59) rfl)) (hw _ (List.mem_of_getElem? (i := 60) rfl)) (notFace_of_selects (args := #[]) (mvT hZ (hw _ (List.mem_of_getElem? (i := 62) rfl)))) (hw _ (List.mem_of_getElem? (i := 62) rfl)) (hw _ (List.mem_of_getElem? (i := 61) rfl)) (hw _ (List.mem_of_getElem? (i := 63) rfl)) (hw _ (List.mem_of_getElem? (i := 39) rfl)) (by decide) e_34 u_36 (rmW l Z a0 hw b_23 u_21 u_1 u_5 u_9 u_13 u_17 h_34 n0 u_35 u_36 r_21 r_1 r_5 r_9 r_13 r_17 F_34_scheme F_34_authority F_34_path F_34_query F_34_fragment) (W := 0) (by decide) (by decide) (by decide) (by decide) (g := (mkF mM 67 #[.val (.int p1), .val (.int p2), .val (.int p3), .val (.int p4), .val (.int p5), .val (.int p6), .val u_1, .val u_5, .val u_9, .val u_13, .val u_17, .val u_21, .val (.ref b_23), .unset] [u_21, (.ref b_23)])) rfl (by rw [hml]; rfl) (rest := []) own_pd9 rfl rfl (by show 2 * 0 + _ ≤ _; exact Nat.le_of_eq rfl) (hb hby at_67) ?_
  intro v_37 T_37 L_37 X_37 hQ_37
  generalize e_37 : T_37.heap = h_37 at hQ_37
  obtain ⟨a_37, rfl, N_37q, K_37, s_37, M_37, F_37_scheme, F_37_authority, F_37_path, F_37_query, F_37_fragment⟩ := hQ_37
  have N_37 := Fr.app N_34 N_37q
  have u_38 : b_23 < a_37 := Nat.lt_of_lt_of_le (u_36).lt s_37
  have u_39 : n0 ≤ a_37 := Nat.le_trans u_35 s_37
  show Goes pP eE bB _ (T_37.setTop (mkF mM 70 #[.val (.int p1), .val (.int p2), .val (.int p3), .val (.int p4), .val (.int p5), .val (.int p6), .val u_1, .val u_5, .val u_9, .val u_13, .val u_17, .val u_21, .val (.ref b_23), .unset] [(.ref a_37)]))
  refine Goes.step (fun _ kK => XS.astore X_37.here hx rfl (hb hby at_70) rfl rfl (l' := #[.val (.int p1), .val (.int p2), .val (.int p3), .val (.int p4), .val (.int p5), .val (.int p6), .val u_1, .val u_5, .val u_9, .val u_13, .val u_17, .val u_21, .val (.ref b_23), .val (.ref a_37)]) rfl kK) ?_
  show Goes pP eE bB _ (T_37.setTop (mkF mM 72 #[.val (.int p1), .val (.int p2), .val (.int p3), .val (.int p4), .val (.int p5), .val (.int p6), .val u_1, .val u_5, .val u_9, .val u_13, .val u_17, .val u_21, .val (.ref b_23), .val (.ref a_37)] []))
  refine Goes.step (fun _ kK => XS.aload X_37.here hx rfl (hb hby at_72) rfl rfl kK) ?_
  show Goes pP eE bB _ (T_37.setTop (mkF mM 74 #[.val (.int p1), .val (.int p2), .val (.int p3), .val (.int p4), .val (.int p5), .val (.int p6), .val u_1, .val u_5, .val u_9, .val u_13, .val u_17, .val u_21, .val (.ref b_23), .val (.ref a_37)] [(.ref a_37)]))
  have u_40 := Nat.le_trans u_35 K_37.1
  refine Goes.callV X_37 hx hZ hown (hw _ (List.mem_of_getElem? (i := 66) rfl)) (hw _ (List.mem_of_getElem? (i := 67) rfl)) (notFace_of_selects (args := #[]) (mvT hZ (hw _ (List.mem_of_getElem? (i := 69) rfl)))) (hw _ (List.mem_of_getElem? (i := 69) rfl)) (hw _ (List.mem_of_getElem? (i := 68) rfl)) (hw _ (List.mem_of_getElem? (i := 70) rfl)) (hw _ (List.mem_of_getElem? (i := 39) rfl)) (by decide) e_37 M_37 (rmg_scheme l Z a0 hw a_37 u_1 h_37 n0 u_40 r_1 F_37_scheme) (W := 0) (by decide) (by decide) (by decide) (by decide) (g := (mkF mM 74 #[.val (.int p1), .val (.int p2), .val (.int p3), .val (.int p4), .val (.int p5), .val (.int p6), .val u_1, .val u_5, .val u_9, .val u_13, .val u_17, .val u_21, .val (.ref b_23), .val (.ref a_37)] [(.ref a_37)])) rfl (by rw [hml]; rfl) (rest := []) own_pd10 rfl rfl (by show 2 * 0 + _ ≤ _; exact Nat.le_of_eq rfl) (hb hby at_74) ?_
  intro v_41 T_41 L_41 X_41 hQ_41
  obtain ⟨rfl, N_41q, e_41⟩ := hQ_41
  have N_41 := Fr.app N_37 N_41q
  show Goes pP eE bB _ (T_41.setTop (mkF mM 77 #[.val (.int p1), .val (.int p2), .val (.int p3), .val (.int p4), .val (.int p5), .val (.int p6), .val u_1, .val u_5, .val u_9, .val u_13, .val u_17, .val u_21, .val (.ref b_23), .val (.ref a_37)] [u_1]))
  refine Goes.step (fun _ kK => XS.aload X_41.here hx rfl (hb hby at_77) rfl r_1 kK) ?_
  show Goes pP eE bB _ (T_41.setTop (mkF mM 79 #[.val (.int p1), .val (.int p2), .val (.int p3), .val (.int p4), .val (.int p5), .val (.int p6), .val u_1, .val u_5, .val u_9, .val u_13, .val u_17, .val u_21, .val (.ref b_23), .val (.ref a_37)] [u_1, u_1]))
  have u_42 := V_1.keep K_5
  have u_43 := u_42.keep K_9
  have u_44 := u_43.keep K_13
  have u_45 := u_44.keep K_17
  have u_46 := u_45.keep K_21
  have u_47 := u_46.ext E_23
  have u_48 := u_47.keep K_34
  have u_49 := u_48.keep K_37
  refine Goes.callS X_41 hx hZ hown (hw _ (List.mem_of_getElem? (i := 71) rfl)) (hw _ (List.mem_of_getElem? (i := 72) rfl)) (hw _ (List.mem_of_getElem? (i := 2) rfl)) (hw _ (List.mem_of_getElem? (i := 73) rfl)) (by decide) e_41 (rmS l Z a0 hw u_1 h_37 n0 u_40 u_49) (W := 0) (by decide) (by decide) (by decide) (by decide) (g := (mkF mM 79 #[.val (.int p1), .val (.int p2), .val (.int p3), .val (.int p4), .val (.int p5), .val (.int p6), .val u_1, .val u_5, .val u_9, .val u_13, .val u_17, .val u_21, .val (.ref b_23), .val (.ref a_37)] [u_1, u_1])) rfl (by rw [hml]; rfl) (rest := []) own_pd11 rfl rfl (by show 2 * 0 + _ ≤ _; exact Nat.le_of_eq rfl) (hb hby at_79) ?_
  intro v_50 T_50 L_50 X_50 hQ_50
  obtain ⟨rfl, N_50q, e_50⟩ := hQ_50
  have N_50 := Fr.app N_41 N_50q
  show Goes pP eE bB _ (T_50.setTop (mkF mM 82 #[.val (.int p1), .val (.int p2), .val (.int p3), .val (.int p4), .val (.int p5), .val (.int p6), .val u_1, .val u_5, .val u_9, .val u_13, .val u_17, .val u_21, .val (.ref b_23), .val (.ref a_37)] [(.int (1 : Int32))]))
  refine Goes.step (fun _ kK => XS.ifNo X_50.here hx rfl (hb hby at_82) rfl ((if0 _ _).trans (feq (by decide)).1) kK) ?_
  show Goes pP eE bB _ (T_50.setTop (mkF mM 85 #[.val (.int p1), .val (.int p2), .val (.int p3), .val (.int p4), .val (.int p5), .val (.int p6), .val u_1, .val u_5, .val u_9, .val u_13, .val u_17, .val u_21, .val (.ref b_23), .val (.ref a_37)] []))
  refine Goes.step (fun _ kK => XS.aload X_50.here hx rfl (hb hby at_85) rfl rfl kK) ?_
  show Goes pP eE bB _ (T_50.setTop (mkF mM 87 #[.val (.int p1), .val (.int p2), .val (.int p3), .val (.int p4), .val (.int p5), .val (.int p6), .val u_1, .val u_5, .val u_9, .val u_13, .val u_17, .val u_21, .val (.ref b_23), .val (.ref a_37)] [(.ref a_37)]))
  refine Goes.callV X_50 hx hZ hown (hw _ (List.mem_of_getElem? (i := 74) rfl)) (hw _ (List.mem_of_getElem? (i := 75) rfl)) (notFace_of_selects (args := #[]) (mvT hZ (hw _ (List.mem_of_getElem? (i := 77) rfl)))) (hw _ (List.mem_of_getElem? (i := 77) rfl)) (hw _ (List.mem_of_getElem? (i := 76) rfl)) (hw _ (List.mem_of_getElem? (i := 78) rfl)) (hw _ (List.mem_of_getElem? (i := 39) rfl)) (by decide) e_50 M_37 (rmg_authority l Z a0 hw a_37 u_5 h_37 n0 u_40 r_5 F_37_authority) (W := 0) (by decide) (by decide) (by decide) (by decide) (g := (mkF mM 87 #[.val (.int p1), .val (.int p2), .val (.int p3), .val (.int p4), .val (.int p5), .val (.int p6), .val u_1, .val u_5, .val u_9, .val u_13, .val u_17, .val u_21, .val (.ref b_23), .val (.ref a_37)] [(.ref a_37)])) rfl (by rw [hml]; rfl) (rest := []) own_pd10 rfl rfl (by show 2 * 0 + _ ≤ _; exact Nat.le_of_eq rfl) (hb hby at_87) ?_
  intro v_51 T_51 L_51 X_51 hQ_51
  obtain ⟨rfl, N_51q, e_51⟩ := hQ_51
  have N_51 := Fr.app N_50 N_51q
  show Goes pP eE bB _ (T_51.setTop (mkF mM 90 #[.val (.int p1), .val (.int p2), .val (.int p3), .val (.int p4), .val (.int p5), .val (.int p6), .val u_1, .val u_5, .val u_9, .val u_13, .val u_17, .val u_21, .val (.ref b_23), .val (.ref a_37)] [u_5]))
  refine Goes.step (fun _ kK => XS.aload X_51.here hx rfl (hb hby at_90) rfl r_5 kK) ?_
  show Goes pP eE bB _ (T_51.setTop (mkF mM 92 #[.val (.int p1), .val (.int p2), .val (.int p3), .val (.int p4), .val (.int p5), .val (.int p6), .val u_1, .val u_5, .val u_9, .val u_13, .val u_17, .val u_21, .val (.ref b_23), .val (.ref a_37)] [u_5, u_5]))
  have u_52 := V_5.keep K_9
  have u_53 := u_52.keep K_13
  have u_54 := u_53.keep K_17
  have u_55 := u_54.keep K_21
  have u_56 := u_55.ext E_23
  have u_57 := u_56.keep K_34
  have u_58 := u_57.keep K_37
  refine Goes.callS X_51 hx hZ hown (hw _ (List.mem_of_getElem? (i := 71) rfl)) (hw _ (List.mem_of_getElem? (i := 72) rfl)) (hw _ (List.mem_of_getElem? (i := 2) rfl)) (hw _ (List.mem_of_getElem? (i := 73) rfl)) (by decide) e_51 (rmS l Z a0 hw u_5 h_37 n0 u_40 u_58) (W := 0) (by decide) (by decide) (by decide) (by decide) (g := (mkF mM 92 #[.val (.int p1), .val (.int p2), .val (.int p3), .val (.int p4), .val (.int p5), .val (.int p6), .val u_1, .val u_5, .val u_9, .val u_13, .val u_17, .val u_21, .val (.ref b_23), .val (.ref a_37)] [u_5, u_5])) rfl (by rw [hml]; rfl) (rest := []) own_pd11 rfl rfl (by show 2 * 0 + _ ≤ _; exact Nat.le_of_eq rfl) (hb hby at_92) ?_
  intro v_59 T_59 L_59 X_59 hQ_59
  obtain ⟨rfl, N_59q, e_59⟩ := hQ_59
  have N_59 := Fr.app N_51 N_59q
  show Goes pP eE bB _ (T_59.setTop (mkF mM 95 #[.val (.int p1), .val (.int p2), .val (.int p3), .val (.int p4), .val (.int p5), .val (.int p6), .val u_1, .val u_5, .val u_9, .val u_13, .val u_17, .val u_21, .val (.ref b_23), .val (.ref a_37)] [(.int (1 : Int32))]))
  refine Goes.step (fun _ kK => XS.ifNo X_59.here hx rfl (hb hby at_95) rfl ((if0 _ _).trans (feq (by decide)).1) kK) ?_
  show Goes pP eE bB _ (T_59.setTop (mkF mM 98 #[.val (.int p1), .val (.int p2), .val (.int p3), .val (.int p4), .val (.int p5), .val (.int p6), .val u_1, .val u_5, .val u_9, .val u_13, .val u_17, .val u_21, .val (.ref b_23), .val (.ref a_37)] []))
  refine Goes.step (fun _ kK => XS.aload X_59.here hx rfl (hb hby at_98) rfl rfl kK) ?_
  show Goes pP eE bB _ (T_59.setTop (mkF mM 100 #[.val (.int p1), .val (.int p2), .val (.int p3), .val (.int p4), .val (.int p5), .val (.int p6), .val u_1, .val u_5, .val u_9, .val u_13, .val u_17, .val u_21, .val (.ref b_23), .val (.ref a_37)] [(.ref a_37)]))
  refine Goes.callV X_59 hx hZ hown (hw _ (List.mem_of_getElem? (i := 84) rfl)) (hw _ (List.mem_of_getElem? (i := 85) rfl)) (notFace_of_selects (args := #[]) (mvT hZ (hw _ (List.mem_of_getElem? (i := 87) rfl)))) (hw _ (List.mem_of_getElem? (i := 87) rfl)) (hw _ (List.mem_of_getElem? (i := 86) rfl)) (hw _ (List.mem_of_getElem? (i := 88) rfl)) (hw _ (List.mem_of_getElem? (i := 39) rfl)) (by decide) e_59 M_37 (rmg_path l Z a0 hw a_37 u_21 h_37 n0 u_40 r_21 F_37_path) (W := 0) (by decide) (by decide) (by decide) (by decide) (g := (mkF mM 100 #[.val (.int p1), .val (.int p2), .val (.int p3), .val (.int p4), .val (.int p5), .val (.int p6), .val u_1, .val u_5, .val u_9, .val u_13, .val u_17, .val u_21, .val (.ref b_23), .val (.ref a_37)] [(.ref a_37)])) rfl (by rw [hml]; rfl) (rest := []) own_pd10 rfl rfl (by show 2 * 0 + _ ≤ _; exact Nat.le_of_eq rfl) (hb hby at_100) ?_
  intro v_60 T_60 L_60 X_60 hQ_60
  obtain ⟨rfl, N_60q, e_60⟩ := hQ_60
  have N_60 := Fr.app N_59 N_60q
  show Goes pP eE bB _ (T_60.setTop (mkF mM 103 #[.val (.int p1), .val (.int p2), .val (.int p3), .val (.int p4), .val (.int p5), .val (.int p6), .val u_1, .val u_5, .val u_9, .val u_13, .val u_17, .val u_21, .val (.ref b_23), .val (.ref a_37)] [u_21]))
  refine Goes.step (fun _ kK => XS.aload X_60.here hx rfl (hb hby at_103) rfl r_21 kK) ?_
  show Goes pP eE bB _ (T_60.setTop (mkF mM 105 #[.val (.int p1), .val (.int p2), .val (.int p3), .val (.int p4), .val (.int p5), .val (.int p6), .val u_1, .val u_5, .val u_9, .val u_13, .val u_17, .val u_21, .val (.ref b_23), .val (.ref a_37)] [u_21, u_21]))
  have u_61 := V_21.ext E_23
  have u_62 := u_61.keep K_34
  have u_63 := u_62.keep K_37
  refine Goes.callS X_60 hx hZ hown (hw _ (List.mem_of_getElem? (i := 71) rfl)) (hw _ (List.mem_of_getElem? (i := 72) rfl)) (hw _ (List.mem_of_getElem? (i := 2) rfl)) (hw _ (List.mem_of_getElem? (i := 73) rfl)) (by decide) e_60 (rmS l Z a0 hw u_21 h_37 n0 u_40 u_63) (W := 0) (by decide) (by decide) (by decide) (by decide) (g := (mkF mM 105 #[.val (.int p1), .val (.int p2), .val (.int p3), .val (.int p4), .val (.int p5), .val (.int p6), .val u_1, .val u_5, .val u_9, .val u_13, .val u_17, .val u_21, .val (.ref b_23), .val (.ref a_37)] [u_21, u_21])) rfl (by rw [hml]; rfl) (rest := []) own_pd11 rfl rfl (by show 2 * 0 + _ ≤ _; exact Nat.le_of_eq rfl) (hb hby at_105) ?_
  intro v_64 T_64 L_64 X_64 hQ_64
  obtain ⟨rfl, N_64q, e_64⟩ := hQ_64
  have N_64 := Fr.app N_60 N_64q
  show Goes pP eE bB _ (T_64.setTop (mkF mM 108 #[.val (.int p1), .val (.int p2), .val (.int p3), .val (.int p4), .val (.int p5), .val (.int p6), .val u_1, .val u_5, .val u_9, .val u_13, .val u_17, .val u_21, .val (.ref b_23), .val (.ref a_37)] [(.int (1 : Int32))]))
  refine Goes.step (fun _ kK => XS.ifNo X_64.here hx rfl (hb hby at_108) rfl ((if0 _ _).trans (feq (by decide)).1) kK) ?_
  show Goes pP eE bB _ (T_64.setTop (mkF mM 111 #[.val (.int p1), .val (.int p2), .val (.int p3), .val (.int p4), .val (.int p5), .val (.int p6), .val u_1, .val u_5, .val u_9, .val u_13, .val u_17, .val u_21, .val (.ref b_23), .val (.ref a_37)] []))
  refine Goes.step (fun _ kK => XS.aload X_64.here hx rfl (hb hby at_111) rfl rfl kK) ?_
  show Goes pP eE bB _ (T_64.setTop (mkF mM 113 #[.val (.int p1), .val (.int p2), .val (.int p3), .val (.int p4), .val (.int p5), .val (.int p6), .val u_1, .val u_5, .val u_9, .val u_13, .val u_17, .val u_21, .val (.ref b_23), .val (.ref a_37)] [(.ref a_37)]))
  refine Goes.callV X_64 hx hZ hown (hw _ (List.mem_of_getElem? (i := 89) rfl)) (hw _ (List.mem_of_getElem? (i := 90) rfl)) (notFace_of_selects (args := #[]) (mvT hZ (hw _ (List.mem_of_getElem? (i := 92) rfl)))) (hw _ (List.mem_of_getElem? (i := 92) rfl)) (hw _ (List.mem_of_getElem? (i := 91) rfl)) (hw _ (List.mem_of_getElem? (i := 93) rfl)) (hw _ (List.mem_of_getElem? (i := 39) rfl)) (by decide) e_64 M_37 (rmg_query l Z a0 hw a_37 u_13 h_37 n0 u_40 r_13 F_37_query) (W := 0) (by decide) (by decide) (by decide) (by decide) (g := (mkF mM 113 #[.val (.int p1), .val (.int p2), .val (.int p3), .val (.int p4), .val (.int p5), .val (.int p6), .val u_1, .val u_5, .val u_9, .val u_13, .val u_17, .val u_21, .val (.ref b_23), .val (.ref a_37)] [(.ref a_37)])) rfl (by rw [hml]; rfl) (rest := []) own_pd10 rfl rfl (by show 2 * 0 + _ ≤ _; exact Nat.le_of_eq rfl) (hb hby at_113) ?_
  intro v_65 T_65 L_65 X_65 hQ_65
  obtain ⟨rfl, N_65q, e_65⟩ := hQ_65
  have N_65 := Fr.app N_64 N_65q
  show Goes pP eE bB _ (T_65.setTop (mkF mM 116 #[.val (.int p1), .val (.int p2), .val (.int p3), .val (.int p4), .val (.int p5), .val (.int p6), .val u_1, .val u_5, .val u_9, .val u_13, .val u_17, .val u_21, .val (.ref b_23), .val (.ref a_37)] [u_13]))
  refine Goes.step (fun _ kK => XS.aload X_65.here hx rfl (hb hby at_116) rfl r_13 kK) ?_
  show Goes pP eE bB _ (T_65.setTop (mkF mM 118 #[.val (.int p1), .val (.int p2), .val (.int p3), .val (.int p4), .val (.int p5), .val (.int p6), .val u_1, .val u_5, .val u_9, .val u_13, .val u_17, .val u_21, .val (.ref b_23), .val (.ref a_37)] [u_13, u_13]))
  have u_66 := V_13.keep K_17
  have u_67 := u_66.keep K_21
  have u_68 := u_67.ext E_23
  have u_69 := u_68.keep K_34
  have u_70 := u_69.keep K_37
  refine Goes.callS X_65 hx hZ hown (hw _ (List.mem_of_getElem? (i := 71) rfl)) (hw _ (List.mem_of_getElem? (i := 72) rfl)) (hw _ (List.mem_of_getElem? (i := 2) rfl)) (hw _ (List.mem_of_getElem? (i := 73) rfl)) (by decide) e_65 (rmS l Z a0 hw u_13 h_37 n0 u_40 u_70) (W := 0) (by decide) (by decide) (by decide) (by decide) (g := (mkF mM 118 #[.val (.int p1), .val (.int p2), .val (.int p3), .val (.int p4), .val (.int p5), .val (.int p6), .val u_1, .val u_5, .val u_9, .val u_13, .val u_17, .val u_21, .val (.ref b_23), .val (.ref a_37)] [u_13, u_13])) rfl (by rw [hml]; rfl) (rest := []) own_pd11 rfl rfl (by show 2 * 0 + _ ≤ _; exact Nat.le_of_eq rfl) (hb hby at_118) ?_
  intro v_71 T_71 L_71 X_71 hQ_71
  obtain ⟨rfl, N_71q, e_71⟩ := hQ_71
  have N_71 := Fr.app N_65 N_71q
  show Goes pP eE bB _ (T_71.setTop (mkF mM 121 #[.val (.int p1), .val (.int p2), .val (.int p3), .val (.int p4), .val (.int p5), .val (.int p6), .val u_1, .val u_5, .val u_9, .val u_13, .val u_17, .val u_21, .val (.ref b_23), .val (.ref a_37)] [(.int (1 : Int32))]))
  refine Goes.step (fun _ kK => XS.ifNo X_71.here hx rfl (hb hby at_121) rfl ((if0 _ _).trans (feq (by decide)).1) kK) ?_
  show Goes pP eE bB _ (T_71.setTop (mkF mM 124 #[.val (.int p1), .val (.int p2), .val (.int p3), .val (.int p4), .val (.int p5), .val (.int p6), .val u_1, .val u_5, .val u_9, .val u_13, .val u_17, .val u_21, .val (.ref b_23), .val (.ref a_37)] []))
  refine Goes.step (fun _ kK => XS.aload X_71.here hx rfl (hb hby at_124) rfl rfl kK) ?_
  show Goes pP eE bB _ (T_71.setTop (mkF mM 126 #[.val (.int p1), .val (.int p2), .val (.int p3), .val (.int p4), .val (.int p5), .val (.int p6), .val u_1, .val u_5, .val u_9, .val u_13, .val u_17, .val u_21, .val (.ref b_23), .val (.ref a_37)] [(.ref a_37)]))
  refine Goes.callV X_71 hx hZ hown (hw _ (List.mem_of_getElem? (i := 94) rfl)) (hw _ (List.mem_of_getElem? (i := 95) rfl)) (notFace_of_selects (args := #[]) (mvT hZ (hw _ (List.mem_of_getElem? (i := 97) rfl)))) (hw _ (List.mem_of_getElem? (i := 97) rfl)) (hw _ (List.mem_of_getElem? (i := 96) rfl)) (hw _ (List.mem_of_getElem? (i := 98) rfl)) (hw _ (List.mem_of_getElem? (i := 39) rfl)) (by decide) e_71 M_37 (rmg_fragment l Z a0 hw a_37 u_17 h_37 n0 u_40 r_17 F_37_fragment) (W := 0) (by decide) (by decide) (by decide) (by decide) (g := (mkF mM 126 #[.val (.int p1), .val (.int p2), .val (.int p3), .val (.int p4), .val (.int p5), .val (.int p6), .val u_1, .val u_5, .val u_9, .val u_13, .val u_17, .val u_21, .val (.ref b_23), .val (.ref a_37)] [(.ref a_37)])) rfl (by rw [hml]; rfl) (rest := []) own_pd10 rfl rfl (by show 2 * 0 + _ ≤ _; exact Nat.le_of_eq rfl) (hb hby at_126) ?_
  intro v_72 T_72 L_72 X_72 hQ_72
  obtain ⟨rfl, N_72q, e_72⟩ := hQ_72
  have N_72 := Fr.app N_71 N_72q
  show Goes pP eE bB _ (T_72.setTop (mkF mM 129 #[.val (.int p1), .val (.int p2), .val (.int p3), .val (.int p4), .val (.int p5), .val (.int p6), .val u_1, .val u_5, .val u_9, .val u_13, .val u_17, .val u_21, .val (.ref b_23), .val (.ref a_37)] [u_17]))
  refine Goes.step (fun _ kK => XS.aload X_72.here hx rfl (hb hby at_129) rfl r_17 kK) ?_
  show Goes pP eE bB _ (T_72.setTop (mkF mM 131 #[.val (.int p1), .val (.int p2), .val (.int p3), .val (.int p4), .val (.int p5), .val (.int p6), .val u_1, .val u_5, .val u_9, .val u_13, .val u_17, .val u_21, .val (.ref b_23), .val (.ref a_37)] [u_17, u_17]))
  have u_73 := V_17.keep K_21
  have u_74 := u_73.ext E_23
  have u_75 := u_74.keep K_34
  have u_76 := u_75.keep K_37
  refine Goes.callS X_72 hx hZ hown (hw _ (List.mem_of_getElem? (i := 71) rfl)) (hw _ (List.mem_of_getElem? (i := 72) rfl)) (hw _ (List.mem_of_getElem? (i := 2) rfl)) (hw _ (List.mem_of_getElem? (i := 73) rfl)) (by decide) e_72 (rmS l Z a0 hw u_17 h_37 n0 u_40 u_76) (W := 0) (by decide) (by decide) (by decide) (by decide) (g := (mkF mM 131 #[.val (.int p1), .val (.int p2), .val (.int p3), .val (.int p4), .val (.int p5), .val (.int p6), .val u_1, .val u_5, .val u_9, .val u_13, .val u_17, .val u_21, .val (.ref b_23), .val (.ref a_37)] [u_17, u_17])) rfl (by rw [hml]; rfl) (rest := []) own_pd11 rfl rfl (by show 2 * 0 + _ ≤ _; exact Nat.le_of_eq rfl) (hb hby at_131) ?_
  intro v_77 T_77 L_77 X_77 hQ_77
  obtain ⟨rfl, N_77q, e_77⟩ := hQ_77
  have N_77 := Fr.app N_72 N_77q
  show Goes pP eE bB _ (T_77.setTop (mkF mM 134 #[.val (.int p1), .val (.int p2), .val (.int p3), .val (.int p4), .val (.int p5), .val (.int p6), .val u_1, .val u_5, .val u_9, .val u_13, .val u_17, .val u_21, .val (.ref b_23), .val (.ref a_37)] [(.int (1 : Int32))]))
  refine Goes.step (fun _ kK => XS.ifNo X_77.here hx rfl (hb hby at_134) rfl ((if0 _ _).trans (feq (by decide)).1) kK) ?_
  show Goes pP eE bB _ (T_77.setTop (mkF mM 137 #[.val (.int p1), .val (.int p2), .val (.int p3), .val (.int p4), .val (.int p5), .val (.int p6), .val u_1, .val u_5, .val u_9, .val u_13, .val u_17, .val u_21, .val (.ref b_23), .val (.ref a_37)] []))
  refine Goes.step (fun _ kK => XS.aload X_77.here hx rfl (hb hby at_137) rfl rfl kK) ?_
  show Goes pP eE bB _ (T_77.setTop (mkF mM 139 #[.val (.int p1), .val (.int p2), .val (.int p3), .val (.int p4), .val (.int p5), .val (.int p6), .val u_1, .val u_5, .val u_9, .val u_13, .val u_17, .val u_21, .val (.ref b_23), .val (.ref a_37)] [(.ref b_23)]))
  have u_78 := F_34_path.keep K_37 nin0
  have u_80 := u_36.keep K_37
  refine Goes.callV X_77 hx hZ hown (hw _ (List.mem_of_getElem? (i := 84) rfl)) (hw _ (List.mem_of_getElem? (i := 85) rfl)) (notFace_of_selects (args := #[]) (mvT hZ (hw _ (List.mem_of_getElem? (i := 87) rfl)))) (hw _ (List.mem_of_getElem? (i := 87) rfl)) (hw _ (List.mem_of_getElem? (i := 86) rfl)) (hw _ (List.mem_of_getElem? (i := 88) rfl)) (hw _ (List.mem_of_getElem? (i := 39) rfl)) (by decide) e_77 u_80 (rmg_path l Z a0 hw b_23 u_9 h_37 n0 u_40 r_9 u_78) (W := 0) (by decide) (by decide) (by decide) (by decide) (g := (mkF mM 139 #[.val (.int p1), .val (.int p2), .val (.int p3), .val (.int p4), .val (.int p5), .val (.int p6), .val u_1, .val u_5, .val u_9, .val u_13, .val u_17, .val u_21, .val (.ref b_23), .val (.ref a_37)] [(.ref b_23)])) rfl (by rw [hml]; rfl) (rest := []) own_pd10 rfl rfl (by show 2 * 0 + _ ≤ _; exact Nat.le_of_eq rfl) (hb hby at_139) ?_
  intro v_79 T_79 L_79 X_79 hQ_79
  obtain ⟨rfl, N_79q, e_79⟩ := hQ_79
  have N_79 := Fr.app N_77 N_79q
  show Goes pP eE bB _ (T_79.setTop (mkF mM 142 #[.val (.int p1), .val (.int p2), .val (.int p3), .val (.int p4), .val (.int p5), .val (.int p6), .val u_1, .val u_5, .val u_9, .val u_13, .val u_17, .val u_21, .val (.ref b_23), .val (.ref a_37)] [u_9]))
  refine Goes.step (fun _ kK => XS.aload X_79.here hx rfl (hb hby at_142) rfl r_9 kK) ?_
  show Goes pP eE bB _ (T_79.setTop (mkF mM 144 #[.val (.int p1), .val (.int p2), .val (.int p3), .val (.int p4), .val (.int p5), .val (.int p6), .val u_1, .val u_5, .val u_9, .val u_13, .val u_17, .val u_21, .val (.ref b_23), .val (.ref a_37)] [u_9, u_9]))
  have u_81 := V_9.keep K_13
  have u_82 := u_81.keep K_17
  have u_83 := u_82.keep K_21
  have u_84 := u_83.ext E_23
  have u_85 := u_84.keep K_34
  have u_86 := u_85.keep K_37
  refine Goes.callS X_79 hx hZ hown (hw _ (List.mem_of_getElem? (i := 71) rfl)) (hw _ (List.mem_of_getElem? (i := 72) rfl)) (hw _ (List.mem_of_getElem? (i := 2) rfl)) (hw _ (List.mem_of_getElem? (i := 73) rfl)) (by decide) e_79 (rmS l Z a0 hw u_9 h_37 n0 u_40 u_86) (W := 0) (by decide) (by decide) (by decide) (by decide) (g := (mkF mM 144 #[.val (.int p1), .val (.int p2), .val (.int p3), .val (.int p4), .val (.int p5), .val (.int p6), .val u_1, .val u_5, .val u_9, .val u_13, .val u_17, .val u_21, .val (.ref b_23), .val (.ref a_37)] [u_9, u_9])) rfl (by rw [hml]; rfl) (rest := []) own_pd11 rfl rfl (by show 2 * 0 + _ ≤ _; exact Nat.le_of_eq rfl) (hb hby at_144) ?_
  intro v_87 T_87 L_87 X_87 hQ_87
  obtain ⟨rfl, N_87q, e_87⟩ := hQ_87
  have N_87 := Fr.app N_79 N_87q
  show Goes pP eE bB _ (T_87.setTop (mkF mM 147 #[.val (.int p1), .val (.int p2), .val (.int p3), .val (.int p4), .val (.int p5), .val (.int p6), .val u_1, .val u_5, .val u_9, .val u_13, .val u_17, .val u_21, .val (.ref b_23), .val (.ref a_37)] [(.int (1 : Int32))]))
  refine Goes.step (fun _ kK => XS.ifNo X_87.here hx rfl (hb hby at_147) rfl ((if0 _ _).trans (feq (by decide)).1) kK) ?_
  show Goes pP eE bB _ (T_87.setTop (mkF mM 150 #[.val (.int p1), .val (.int p2), .val (.int p3), .val (.int p4), .val (.int p5), .val (.int p6), .val u_1, .val u_5, .val u_9, .val u_13, .val u_17, .val u_21, .val (.ref b_23), .val (.ref a_37)] []))
  refine Goes.step (fun _ kK => XS.iconst X_87.here hx rfl (hb hby at_150) kK) ?_
  show Goes pP eE bB _ (T_87.setTop (mkF mM 151 #[.val (.int p1), .val (.int p2), .val (.int p3), .val (.int p4), .val (.int p5), .val (.int p6), .val u_1, .val u_5, .val u_9, .val u_13, .val u_17, .val u_21, .val (.ref b_23), .val (.ref a_37)] [(.int (1 : Int32))]))
  refine Goes.step (fun _ kK => XS.goto X_87.here hx rfl (pc0 := 151) (pc' := 155) rfl (hb hby at_151) (by decide) (by decide) kK) ?_
  show Goes pP eE bB _ (T_87.setTop (mkF mM 155 #[.val (.int p1), .val (.int p2), .val (.int p3), .val (.int p4), .val (.int p5), .val (.int p6), .val u_1, .val u_5, .val u_9, .val u_13, .val u_17, .val u_21, .val (.ref b_23), .val (.ref a_37)] [(.int (1 : Int32))]))
  have u_88 := Nat.le_trans hk_21 E_23.1
  have u_89 := Nat.le_trans u_88 K_34.1
  have u_90 := Nat.le_trans u_89 K_37.1
  refine Goes.retNW X_87 hS (Nat.le_trans u_90 (Nat.le_of_eq (by rw [e_87]))) hx hlk (t := .boolean) hret (by simp) (hb hby at_155) (by decide) (by decide) ?_
  exact ⟨rfl, N_87⟩
set_option maxRecDepth 65536 in
set_option maxHeartbeats 40000000 in
theorem comes_1 {Post : Tables → Env → Array Value → State → Outcome → State → Prop} (hpost : ∀ tb e args s v u, (limb_1_1.after args s (.returned v) u = true ∧ limb_1_2.after args s (.returned v) u = true ∧ True) → ReturnedEndW s (.returned v) u (Jvm.fieldLocs frame_1_writes args s ++ Jvm.arrayLocs frame_1_arrays args s ++ Jvm.staticLocs frame_1_statics s) 56 1216 → Post tb e args s (.returned v) u) :
    ArmFor flags0 classFile x code maxLocals ret World_1 tables_1 room_1 Calls_1 rest_1 Pre_1 Post := by
  intro l hfl _ _ p e ha hc hk s m args below hf hA hF happ hP
  obtain ⟨hcalls, hrest, hpre⟩ := hP
  obtain ⟨-, -, -, hnamed, -, -, -, hat⟩ := (Spec.applies_iff hf).mp happ
  obtain ⟨hg, hn⟩ := and_e (Cond.before_iff.mp (show (Jvm.Cond.and given_1 narrow_1).before args s = true from hpre))
  obtain ⟨hcnt, g0⟩ := and_e hg
  obtain ⟨q0, g1⟩ := and_e g0
  obtain ⟨q1, g2⟩ := and_e g1
  obtain ⟨q2, g3⟩ := and_e g2
  obtain ⟨q3, g4⟩ := and_e g3
  obtain ⟨q4, g5⟩ := and_e g4
  have q5 := g5
  obtain ⟨w0, w1, w2, w3, w4, w5, rfl⟩ : ∃ w0 w1 w2 w3 w4 w5 : Value, args = #[w0, w1, w2, w3, w4, w5] := by
    have hs : args.size = 6 := by simpa [Cond.value, given_1] using hcnt
    obtain ⟨L⟩ := args
    match L, hs with
    | [w0, w1, w2, w3, w4, w5], _ => exact ⟨w0, w1, w2, w3, w4, w5, rfl⟩
  have hw := fun d (hd : d ∈ tables_1) => atoms_spec (ws := Jvm.Cond.code x code maxLocals ret :: tables_1) hat d (List.mem_cons_of_mem _ hd)
  obtain ⟨i0, e0⟩ := is_v q0
  obtain rfl : w0 = (.int i0) := Option.some.inj e0
  obtain ⟨i1, e1⟩ := is_v q1
  obtain rfl : w1 = (.int i1) := Option.some.inj e1
  obtain ⟨i2, e2⟩ := is_v q2
  obtain rfl : w2 = (.int i2) := Option.some.inj e2
  obtain ⟨i3, e3⟩ := is_v q3
  obtain rfl : w3 = (.int i3) := Option.some.inj e3
  obtain ⟨i4, e4⟩ := is_v q4
  obtain rfl : w4 = (.int i4) := Option.some.inj e4
  obtain ⟨i5, e5⟩ := is_v q5
  obtain rfl : w5 = (.int i5) := Option.some.inj e5
  obtain ⟨hsets, hown0⟩ := atoms_of _ (rest_1_c_eq ▸ (show rest_1_c.before _ s = true from hrest))
  have n5 := not_v (Cond.before_iff.mp (hsets _ (List.mem_of_getElem? (i := 2) rfl)))
  obtain ⟨cs, ecs⟩ := is_v (Cond.before_iff.mp (hsets _ (List.mem_of_getElem? (i := 1) rfl)))
  have Scs : Sta s s.heap "java/lang/String" "COMPACT_STRINGS" "Z" (.int cs) := Sta.start ecs (Or.inl (hsets _ (List.mem_of_getElem? (i := 0) rfl)))
  have hcs : ¬ (cs = (0 : Int32)) := gotF (Cond.eq_ints ecs (Term.int_eval (0))) n5
  have hheld : ∀ p ∈ own_EL, Jvm.Lit.constHeld s p.1 p.2 := fun p hp => by rw [List.mem_singleton.mp hp]; exact hcalls.1 ("java/lang/String", 7) (List.mem_of_getElem? (i := 0) rfl)
  have hcw := hsets _ (List.mem_of_getElem? (i := 2) rfl)
  have hCH : CHv s own_EL s.vm s.heap := CHv.start (own_hEL hw) hheld hcw (hw _ (List.mem_of_getElem? (i := 23) rfl)) (hw _ (List.mem_of_getElem? (i := 5) rfl))
  obtain ⟨n, o, h1, h2, h3, _, L, rfl, ⟨rfl, N⟩, hq⟩ := rm0 l s _ hw i0 i1 i2 i3 i4 i5 cs s.heap s.heap.size (Nat.le_refl _) Scs hcs (Old.start s) tables_1 p e ha hc hk s m _ below hf ((Spec.applies_iff_loose hf).mp happ).1 ⟨rfl, State.Warmed39.refl s, rfl, hCH⟩ trivial
  refine ⟨n, _, h1, h2, h3, hpost _ _ _ _ _ _ ⟨Cond.after_iff.mpr rfl, Cond.after_iff.mpr (eq_i res_at (Term.int_eval (1)) rfl), trivial⟩ ⟨hq.1, hq.2.1, hq.2.2.1, (hq.2.2.2.sift fun y hy => Or.inr (N y hy)).mono (by decide) (by decide)⟩⟩
theorem main_1_1 : Claimed_1_1 := comes_1 fun _ _ _ _ _ _ h hF => ⟨h.1, hF⟩
theorem main_1_2 : Claimed_1_2 := comes_1 fun _ _ _ _ _ _ h hF => ⟨h.2.1, hF⟩
end Jvm.Pilot.@@N@@
namespace Jvm.Pilot.@@N@@
open Jvm Jvm.ClassFile Sem Op Lib Jvm.Free Jvm.Stand Jvm.Pilot.@@N@@.Jvm.D
/-! MADE BY PROGRAM (witnessworld.py) out of the Statement's table words and the real class files: 21 classes; the members and pool entries that the words name. The judged class is class 1, her method 1. -/
namespace start1
open Jvm.ClassFile
def u (s : String) : CpInfo := .utf8 (stringToUtf16 s)
/-- a pool by its gaps: so many unusable entries, then the entry; so many at the end -/
def gap : Nat → List CpInfo → List CpInfo
  | 0, r => r
  | n + 1, r => .unusable :: gap n r
def poolList (es : List (Nat × CpInfo)) (last : Nat) : List CpInfo := es.foldr (fun e r => gap e.1 (e.2 :: r)) (gap last [])
def pool (es : List (Nat × CpInfo)) (last : Nat) : Array CpInfo := ⟨poolList es last⟩
def fileOf (pool : Array CpInfo) (this : Nat) (attrs : Array Attribute := #[]) (ms : Array MethodInfo := #[]) (fl : Nat := 33) (sup : Nat := 0) (ifs : Array Nat := #[]) (fds : Array FieldInfo := #[]) : ClassFile where
  minorVersion := 0
  majorVersion := 65
  constantPool := pool
  accessFlags := fl
  thisClass := this
  superClass := sup
  interfaces := ifs
  fields := fds
  methods := ms
  attributes := attrs
def plain (name : String) (sup : Option ClassId) : Class where
  name := name
  kind := .ordinary
  loader := none
  accessFlags := 33
  super := sup
  interfaces := #[]
  cf := none
  fields := #[]
  methods := #[]
  instanceTypes := #[]
  staticTypes := #[]
  resolved := #[]
  callSites := []
  init := .initialized
  statics := none
  mirror := none

def pool0 : Array CpInfo := pool [(5, u "<init>"), (0, u "()V"), (1, .class_ 10), (1, u "java/lang/Object")] 113

def k0c0 : Code := { maxStack := 0, maxLocals := 1, code := object_method_1_code, exceptionTable := #[], attributes := #[] }
def k0m0 : Method := { name := "<init>", desc := "()V", sig := { parameters := [], returnType := none }, accessFlags := 1, code := some k0c0 }
/-- java/lang/Object -/
def k0 : Class := { plain "java/lang/Object" none with
  accessFlags := 33
  interfaces := #[]
  cf := some (fileOf pool0 8 #[] #[{ accessFlags := 1, nameIndex := 5, descriptorIndex := 6, attributes := #[] }] 33 0 #[] #[])
  fields := #[]
  methods := #[k0m0]
  instanceTypes := #[]
  staticTypes := #[]
  resolved := Array.replicate 124 none
  statics := none }

def pool1 : Array CpInfo := pool [(2, .class_ 4), (1, u "java/lang/Object"), (0, u "<init>"), (0, u "()V"), (0, .methodref 8 9), (0, .class_ 10), (0, .nameAndType 11 12), (0, u "dev/callstitch/declaration/UriReferenceWithPathPinLaw"), (0, u "draw"), (0, u "(IZ)Ljava/lang/String;"), (0, .class_ 14), (0, u "dev/callstitch/declaration/UriReference"), (0, .methodref 13 16), (0, .nameAndType 5 17), (0, u "(Ljava/lang/String;Ljava/lang/String;Ljava/lang/String;Ljava/lang/String;Ljava/lang/String;)V"), (0, .methodref 13 19), (0, .nameAndType 20 21), (0, u "withPath"), (0, u "(Ljava/lang/String;)Ldev/callstitch/declaration/UriReference;"), (0, .methodref 13 23), (0, .nameAndType 24 25), (0, u "scheme"), (0, u "()Ljava/lang/String;"), (0, .methodref 8 27), (0, .nameAndType 28 29), (0, u "same"), (0, u "(Ljava/lang/String;Ljava/lang/String;)Z"), (0, .methodref 13 31), (0, .nameAndType 32 25), (0, u "authority"), (0, .methodref 13 34), (0, .nameAndType 35 25), (0, u "path"), (0, .methodref 13 37), (0, .nameAndType 38 25), (0, u "query"), (0, .methodref 13 40), (0, .nameAndType 41 25), (0, u "fragment"), (0, .class_ 43), (0, u "java/lang/String"), (0, .methodref 42 45), (0, .nameAndType 5 46), (0, u "([C)V"), (0, .methodref 42 48), (0, .nameAndType 49 50), (0, u "equals"), (0, u "(Ljava/lang/Object;)Z"), (2, u "law"), (0, u "(IIIIII)Z")] 3

def k1m0 : Method := { name := "<init>", desc := "()V", sig := { parameters := [], returnType := none }, accessFlags := 1, code := none }
def k1c1 : Code := { maxStack := 7, maxLocals := 14, code := code, exceptionTable := #[], attributes := #[] }
def k1m1 : Method := { name := "law", desc := "(IIIIII)Z", sig := { parameters := [.int, .int, .int, .int, .int, .int], returnType := some .boolean }, accessFlags := 9, code := some k1c1 }
def k1c2 : Code := { maxStack := 6, maxLocals := 5, code := method_3_code, exceptionTable := #[], attributes := #[] }
def k1m2 : Method := { name := "draw", desc := "(IZ)Ljava/lang/String;", sig := { parameters := [.int, .boolean], returnType := some (.object "java/lang/String") }, accessFlags := 10, code := some k1c2 }
def k1c3 : Code := { maxStack := 2, maxLocals := 2, code := method_4_code, exceptionTable := #[], attributes := #[] }
def k1m3 : Method := { name := "same", desc := "(Ljava/lang/String;Ljava/lang/String;)Z", sig := { parameters := [(.object "java/lang/String"), (.object "java/lang/String")], returnType := some .boolean }, accessFlags := 10, code := some k1c3 }
/-- dev/callstitch/declaration/UriReferenceWithPathPinLaw -/
def k1 : Class := { plain "dev/callstitch/declaration/UriReferenceWithPathPinLaw" (some 0) with
  accessFlags := 49
  interfaces := #[]
  cf := some (fileOf pool1 8 #[] #[{ accessFlags := 1, nameIndex := 5, descriptorIndex := 6, attributes := #[] }, { accessFlags := 9, nameIndex := 53, descriptorIndex := 54, attributes := #[] }, { accessFlags := 10, nameIndex := 11, descriptorIndex := 12, attributes := #[] }, { accessFlags := 10, nameIndex := 28, descriptorIndex := 29, attributes := #[] }] 49 2 #[] #[])
  fields := #[]
  methods := #[k1m0, k1m1, k1m2, k1m3]
  instanceTypes := #[]
  staticTypes := #[]
  resolved := Array.replicate 58 none
  statics := none }

def pool2 : Array CpInfo := pool [(1, .class_ 2), (0, u "java/io/Serializable"), (0, .class_ 4), (0, u "java/lang/Object")] 2

/-- java/io/Serializable -/
def k2 : Class := { plain "java/io/Serializable" (some 0) with
  accessFlags := 1537
  interfaces := #[]
  cf := some (fileOf pool2 1 #[] #[] 1537 3 #[] #[])
  fields := #[]
  methods := #[]
  instanceTypes := #[]
  staticTypes := #[]
  resolved := Array.replicate 7 none
  statics := none }

def pool3 : Array CpInfo := pool [(1, .class_ 2), (0, u "java/lang/Comparable"), (0, .class_ 4), (0, u "java/lang/Object")] 7

/-- java/lang/Comparable -/
def k3 : Class := { plain "java/lang/Comparable" (some 0) with
  accessFlags := 1537
  interfaces := #[]
  cf := some (fileOf pool3 1 #[] #[] 1537 3 #[] #[])
  fields := #[]
  methods := #[]
  instanceTypes := #[]
  staticTypes := #[]
  resolved := Array.replicate 12 none
  statics := none }

def pool4 : Array CpInfo := pool [(2, .class_ 4), (1, u "java/lang/CharSequence"), (42, .class_ 48), (0, u "java/lang/CharSequence$1CodePointIterator"), (10, .class_ 60), (0, u "java/lang/CharSequence$1CharIterator"), (5, .class_ 67), (0, u "java/lang/Object")] 63

/-- java/lang/CharSequence -/
def k4 : Class := { plain "java/lang/CharSequence" (some 0) with
  accessFlags := 1537
  interfaces := #[]
  cf := some (fileOf pool4 2 #[.nestMembers #[47, 59]] #[] 1537 66 #[] #[])
  fields := #[]
  methods := #[]
  instanceTypes := #[]
  staticTypes := #[]
  resolved := Array.replicate 131 none
  statics := none }

def pool5 : Array CpInfo := pool [(1, .class_ 2), (0, u "java/lang/constant/Constable"), (0, .class_ 4), (0, u "java/lang/Object")] 6

/-- java/lang/constant/Constable -/
def k5 : Class := { plain "java/lang/constant/Constable" (some 0) with
  accessFlags := 1537
  interfaces := #[]
  cf := some (fileOf pool5 1 #[] #[] 1537 3 #[] #[])
  fields := #[]
  methods := #[]
  instanceTypes := #[]
  staticTypes := #[]
  resolved := Array.replicate 11 none
  statics := none }

def pool6 : Array CpInfo := pool [(1, .class_ 2), (0, u "java/lang/constant/ConstantDesc"), (0, .class_ 4), (0, u "java/lang/Object")] 32

/-- java/lang/constant/ConstantDesc -/
def k6 : Class := { plain "java/lang/constant/ConstantDesc" (some 0) with
  accessFlags := 1537
  interfaces := #[]
  cf := some (fileOf pool6 1 #[] #[] 1537 3 #[] #[])
  fields := #[]
  methods := #[]
  instanceTypes := #[]
  staticTypes := #[]
  resolved := Array.replicate 37 none
  statics := none }

def pool7 : Array CpInfo := pool [(1, .methodref 2 3), (0, .class_ 4), (0, .nameAndType 5 6), (0, u "java/lang/Object"), (0, u "<init>"), (0, u "()V"), (0, .string 8), (0, u ""), (0, .fieldref 10 11), (0, .class_ 12), (0, .nameAndType 13 14), (0, u "java/lang/String"), (0, u "value"), (0, u "[B"), (0, .fieldref 10 16), (0, .nameAndType 17 18), (0, u "coder"), (0, u "B"), (2, u "hash"), (0, u "I"), (2, u "hashIsZero"), (0, u "Z"), (0, .methodref 10 28), (0, .nameAndType 5 29), (0, u "([CIILjava/lang/Void;)V"), (8, .fieldref 10 39), (0, .nameAndType 40 26), (0, u "COMPACT_STRINGS"), (1, .class_ 44), (1, u "java/lang/StringUTF16"), (0, u "compress"), (1, .methodref 42 48), (0, .nameAndType 49 50), (0, u "coderFromArrayLen"), (0, u "([BI)B"), (126, .methodref 42 178), (0, .nameAndType 45 179), (0, u "([CII)[B"), (363, u "equals"), (29, u "(Ljava/lang/Object;)Z"), (1, .class_ 576), (0, u "java/lang/CharSequence"), (22, u "CASE_INSENSITIVE_ORDER"), (0, u "Ljava/util/Comparator;"), (409, u "([C)V"), (90, u "serialPersistentFields"), (0, u "[Ljava/io/ObjectStreamField;"), (0, .class_ 1104), (0, u "java/lang/String$CaseInsensitiveComparator"), (1, .class_ 1107), (0, u "java/io/Serializable"), (0, .class_ 1109), (0, u "java/lang/Comparable"), (0, .class_ 1111), (0, u "java/lang/constant/Constable"), (0, .class_ 1113), (0, u "java/lang/constant/ConstantDesc"), (2, u "serialVersionUID"), (0, u "J"), (3, u "REPL"), (0, u "C"), (2, u "LATIN1"), (1, u "UTF16")] 323

def k7m0 : Method := { name := "<init>", desc := "()V", sig := { parameters := [], returnType := none }, accessFlags := 1, code := none }
def k7c1 : Code := { maxStack := 5, maxLocals := 2, code := jdk_42_method_3_code, exceptionTable := #[], attributes := #[] }
def k7m1 : Method := { name := "<init>", desc := "([C)V", sig := { parameters := [(.array .char)], returnType := none }, accessFlags := 1, code := some k7c1 }
def k7c2 : Code := { maxStack := 2, maxLocals := 3, code := jdk_42_method_66_code, exceptionTable := #[], attributes := #[] }
def k7m2 : Method := { name := "equals", desc := "(Ljava/lang/Object;)Z", sig := { parameters := [(.object "java/lang/Object")], returnType := some .boolean }, accessFlags := 1, code := some k7c2 }
def k7c3 : Code := { maxStack := 4, maxLocals := 6, code := jdk_42_method_149_code, exceptionTable := #[], attributes := #[] }
def k7m3 : Method := { name := "<init>", desc := "([CIILjava/lang/Void;)V", sig := { parameters := [(.array .char), .int, .int, (.object "java/lang/Void")], returnType := none }, accessFlags := 2, code := some k7c3 }
/-- java/lang/String -/
def k7 : Class := { plain "java/lang/String" (some 0) with
  accessFlags := 49
  interfaces := #[2, 3, 4, 5, 6]
  cf := some (fileOf pool7 10 #[.nestMembers #[1103]] #[{ accessFlags := 1, nameIndex := 5, descriptorIndex := 6, attributes := #[] }, { accessFlags := 1, nameIndex := 5, descriptorIndex := 1010, attributes := #[] }, { accessFlags := 1, nameIndex := 543, descriptorIndex := 573, attributes := #[] }, { accessFlags := 2, nameIndex := 5, descriptorIndex := 29, attributes := #[] }] 49 2 #[1106, 1108, 575, 1110, 1112] #[{ accessFlags := 18, nameIndex := 13, descriptorIndex := 14, attributes := #[] }, { accessFlags := 18, nameIndex := 17, descriptorIndex := 18, attributes := #[] }, { accessFlags := 2, nameIndex := 21, descriptorIndex := 22, attributes := #[] }, { accessFlags := 2, nameIndex := 25, descriptorIndex := 26, attributes := #[] }, { accessFlags := 26, nameIndex := 1116, descriptorIndex := 1117, attributes := #[] }, { accessFlags := 24, nameIndex := 40, descriptorIndex := 26, attributes := #[] }, { accessFlags := 26, nameIndex := 1101, descriptorIndex := 1102, attributes := #[] }, { accessFlags := 26, nameIndex := 1121, descriptorIndex := 1122, attributes := #[] }, { accessFlags := 25, nameIndex := 599, descriptorIndex := 600, attributes := #[] }, { accessFlags := 24, nameIndex := 1125, descriptorIndex := 18, attributes := #[] }, { accessFlags := 24, nameIndex := 1127, descriptorIndex := 18, attributes := #[] }])
  fields := #[{ name := "value", type := (.array .byte), accessFlags := 18, slot := 0, constantValue := 0 }, { name := "coder", type := .byte, accessFlags := 18, slot := 1, constantValue := 0 }, { name := "hash", type := .int, accessFlags := 2, slot := 2, constantValue := 0 }, { name := "hashIsZero", type := .boolean, accessFlags := 2, slot := 3, constantValue := 0 }, { name := "serialVersionUID", type := .long, accessFlags := 26, slot := 0, constantValue := 0 }, { name := "COMPACT_STRINGS", type := .boolean, accessFlags := 24, slot := 1, constantValue := 0 }, { name := "serialPersistentFields", type := (.array (.object "java/io/ObjectStreamField")), accessFlags := 26, slot := 2, constantValue := 0 }, { name := "REPL", type := .char, accessFlags := 26, slot := 3, constantValue := 0 }, { name := "CASE_INSENSITIVE_ORDER", type := (.object "java/util/Comparator"), accessFlags := 25, slot := 4, constantValue := 0 }, { name := "LATIN1", type := .byte, accessFlags := 24, slot := 5, constantValue := 0 }, { name := "UTF16", type := .byte, accessFlags := 24, slot := 6, constantValue := 0 }]
  methods := #[k7m0, k7m1, k7m2, k7m3]
  instanceTypes := #[(.array .byte), .byte, .int, .boolean]
  staticTypes := #[.long, .boolean, (.array (.object "java/io/ObjectStreamField")), .char, (.object "java/util/Comparator"), .byte, .byte]
  resolved := Array.replicate 1451 none
  statics := some 0 }

def pool8 : Array CpInfo := pool [(6, .class_ 8), (1, u "java/lang/Object"), (0, u "<init>"), (0, u "()V"), (1, .class_ 14), (1, u "java/lang/StringUTF16"), (31, u "$assertionsDisabled"), (0, u "Z"), (13, u "HI_BYTE_SHIFT"), (0, u "I"), (2, u "LO_BYTE_SHIFT"), (49, .methodref 12 116), (0, .nameAndType 117 118), (0, u "compress"), (0, u "([CI[BII)I"), (3, u "([CII)[B"), (138, u "coderFromArrayLen"), (0, u "([BI)B"), (106, .class_ 371), (1, u "java/lang/StringUTF16$LinesSpliterator"), (58, u "MAX_LENGTH"), (196, .class_ 628), (0, u "java/lang/StringUTF16$CodePointsSpliterator"), (0, .class_ 630), (0, u "java/lang/StringUTF16$CharsSpliterator")] 4

def k8m0 : Method := { name := "<init>", desc := "()V", sig := { parameters := [], returnType := none }, accessFlags := 0, code := none }
def k8c1 : Code := { maxStack := 2, maxLocals := 2, code := jdk_52_method_15_code, exceptionTable := #[], attributes := #[] }
def k8m1 : Method := { name := "coderFromArrayLen", desc := "([BI)B", sig := { parameters := [(.array .byte), .int], returnType := some .byte }, accessFlags := 8, code := some k8c1 }
def k8c2 : Code := { maxStack := 5, maxLocals := 6, code := jdk_52_method_16_code, exceptionTable := #[], attributes := #[] }
def k8m2 : Method := { name := "compress", desc := "([CII)[B", sig := { parameters := [(.array .char), .int, .int], returnType := some (.array .byte) }, accessFlags := 9, code := some k8c2 }
def k8c3 : Code := { maxStack := 3, maxLocals := 7, code := jdk_52_method_21_code, exceptionTable := #[], attributes := #[] }
def k8m3 : Method := { name := "compress", desc := "([CI[BII)I", sig := { parameters := [(.array .char), .int, (.array .byte), .int, .int], returnType := some .int }, accessFlags := 9, code := some k8c3 }
/-- java/lang/StringUTF16 -/
def k8 : Class := { plain "java/lang/StringUTF16" (some 0) with
  accessFlags := 48
  interfaces := #[]
  cf := some (fileOf pool8 12 #[.nestMembers #[627, 629, 369]] #[{ accessFlags := 0, nameIndex := 9, descriptorIndex := 10, attributes := #[] }, { accessFlags := 8, nameIndex := 261, descriptorIndex := 262, attributes := #[] }, { accessFlags := 9, nameIndex := 117, descriptorIndex := 122, attributes := #[] }, { accessFlags := 9, nameIndex := 117, descriptorIndex := 118, attributes := #[] }] 48 6 #[] #[{ accessFlags := 26, nameIndex := 61, descriptorIndex := 62, attributes := #[] }, { accessFlags := 26, nameIndex := 65, descriptorIndex := 62, attributes := #[] }, { accessFlags := 24, nameIndex := 430, descriptorIndex := 62, attributes := #[] }, { accessFlags := 4120, nameIndex := 46, descriptorIndex := 47, attributes := #[] }])
  fields := #[{ name := "HI_BYTE_SHIFT", type := .int, accessFlags := 26, slot := 0, constantValue := 0 }, { name := "LO_BYTE_SHIFT", type := .int, accessFlags := 26, slot := 1, constantValue := 0 }, { name := "MAX_LENGTH", type := .int, accessFlags := 24, slot := 2, constantValue := 0 }, { name := "$assertionsDisabled", type := .boolean, accessFlags := 4120, slot := 3, constantValue := 0 }]
  methods := #[k8m0, k8m1, k8m2, k8m3]
  instanceTypes := #[]
  staticTypes := #[.int, .int, .int, .boolean]
  resolved := Array.replicate 635 none
  statics := none }

def pool9 : Array CpInfo := pool [(1, .methodref 2 3), (0, .class_ 4), (0, .nameAndType 5 6), (0, u "java/lang/Object"), (0, u "<init>"), (0, u "()V"), (0, .class_ 8), (0, u "java/lang/Record")] 13

def k9c0 : Code := { maxStack := 1, maxLocals := 1, code := jdk_30_method_1_code, exceptionTable := #[], attributes := #[] }
def k9m0 : Method := { name := "<init>", desc := "()V", sig := { parameters := [], returnType := none }, accessFlags := 4, code := some k9c0 }
/-- java/lang/Record -/
def k9 : Class := { plain "java/lang/Record" (some 0) with
  accessFlags := 1057
  interfaces := #[]
  cf := some (fileOf pool9 7 #[] #[{ accessFlags := 4, nameIndex := 5, descriptorIndex := 6, attributes := #[] }] 1057 2 #[] #[])
  fields := #[]
  methods := #[k9m0]
  instanceTypes := #[]
  staticTypes := #[]
  resolved := Array.replicate 22 none
  statics := none }

def pool10 : Array CpInfo := pool [(1, .methodref 2 3), (0, .class_ 4), (0, .nameAndType 5 6), (0, u "java/lang/Record"), (0, u "<init>"), (0, u "()V"), (0, .fieldref 8 9), (0, .class_ 10), (0, .nameAndType 11 12), (0, u "dev/callstitch/declaration/UriReference"), (0, u "scheme"), (0, u "Ljava/lang/String;"), (0, .fieldref 8 14), (0, .nameAndType 15 12), (0, u "authority"), (0, .fieldref 8 17), (0, .nameAndType 18 12), (0, u "path"), (0, .fieldref 8 20), (0, .nameAndType 21 12), (0, u "query"), (0, .fieldref 8 23), (0, .nameAndType 24 12), (0, u "fragment"), (2, u "COMPONENTS"), (0, u "Ljava/util/regex/Pattern;"), (25, .methodref 8 55), (0, .nameAndType 5 56), (0, u "(Ljava/lang/String;Ljava/lang/String;Ljava/lang/String;Ljava/lang/String;Ljava/lang/String;)V"), (14, u "()Ljava/lang/String;"), (143, u "(Ljava/lang/String;)Ldev/callstitch/declaration/UriReference;"), (1, u "withPath")] 47

def k10c0 : Code := { maxStack := 2, maxLocals := 6, code := prog_37_method_1_code, exceptionTable := #[], attributes := #[] }
def k10m0 : Method := { name := "<init>", desc := "(Ljava/lang/String;Ljava/lang/String;Ljava/lang/String;Ljava/lang/String;Ljava/lang/String;)V", sig := { parameters := [(.object "java/lang/String"), (.object "java/lang/String"), (.object "java/lang/String"), (.object "java/lang/String"), (.object "java/lang/String")], returnType := none }, accessFlags := 0, code := some k10c0 }
def k10c1 : Code := { maxStack := 7, maxLocals := 2, code := prog_37_method_3_code, exceptionTable := #[], attributes := #[] }
def k10m1 : Method := { name := "withPath", desc := "(Ljava/lang/String;)Ldev/callstitch/declaration/UriReference;", sig := { parameters := [(.object "java/lang/String")], returnType := some (.object "dev/callstitch/declaration/UriReference") }, accessFlags := 0, code := some k10c1 }
def k10c2 : Code := { maxStack := 1, maxLocals := 1, code := prog_37_method_14_code, exceptionTable := #[], attributes := #[] }
def k10m2 : Method := { name := "scheme", desc := "()Ljava/lang/String;", sig := { parameters := [], returnType := some (.object "java/lang/String") }, accessFlags := 1, code := some k10c2 }
def k10c3 : Code := { maxStack := 1, maxLocals := 1, code := prog_37_method_15_code, exceptionTable := #[], attributes := #[] }
def k10m3 : Method := { name := "authority", desc := "()Ljava/lang/String;", sig := { parameters := [], returnType := some (.object "java/lang/String") }, accessFlags := 1, code := some k10c3 }
def k10c4 : Code := { maxStack := 1, maxLocals := 1, code := prog_37_method_16_code, exceptionTable := #[], attributes := #[] }
def k10m4 : Method := { name := "path", desc := "()Ljava/lang/String;", sig := { parameters := [], returnType := some (.object "java/lang/String") }, accessFlags := 1, code := some k10c4 }
def k10c5 : Code := { maxStack := 1, maxLocals := 1, code := prog_37_method_17_code, exceptionTable := #[], attributes := #[] }
def k10m5 : Method := { name := "query", desc := "()Ljava/lang/String;", sig := { parameters := [], returnType := some (.object "java/lang/String") }, accessFlags := 1, code := some k10c5 }
def k10c6 : Code := { maxStack := 1, maxLocals := 1, code := prog_37_method_18_code, exceptionTable := #[], attributes := #[] }
def k10m6 : Method := { name := "fragment", desc := "()Ljava/lang/String;", sig := { parameters := [], returnType := some (.object "java/lang/String") }, accessFlags := 1, code := some k10c6 }
/-- dev/callstitch/declaration/UriReference -/
def k10 : Class := { plain "dev/callstitch/declaration/UriReference" (some 9) with
  accessFlags := 48
  interfaces := #[]
  cf := some (fileOf pool10 8 #[] #[{ accessFlags := 0, nameIndex := 5, descriptorIndex := 56, attributes := #[] }, { accessFlags := 0, nameIndex := 217, descriptorIndex := 215, attributes := #[] }, { accessFlags := 1, nameIndex := 11, descriptorIndex := 71, attributes := #[] }, { accessFlags := 1, nameIndex := 15, descriptorIndex := 71, attributes := #[] }, { accessFlags := 1, nameIndex := 18, descriptorIndex := 71, attributes := #[] }, { accessFlags := 1, nameIndex := 21, descriptorIndex := 71, attributes := #[] }, { accessFlags := 1, nameIndex := 24, descriptorIndex := 71, attributes := #[] }] 48 2 #[] #[{ accessFlags := 18, nameIndex := 11, descriptorIndex := 12, attributes := #[] }, { accessFlags := 18, nameIndex := 15, descriptorIndex := 12, attributes := #[] }, { accessFlags := 18, nameIndex := 18, descriptorIndex := 12, attributes := #[] }, { accessFlags := 18, nameIndex := 21, descriptorIndex := 12, attributes := #[] }, { accessFlags := 18, nameIndex := 24, descriptorIndex := 12, attributes := #[] }, { accessFlags := 26, nameIndex := 27, descriptorIndex := 28, attributes := #[] }])
  fields := #[{ name := "scheme", type := (.object "java/lang/String"), accessFlags := 18, slot := 0, constantValue := 0 }, { name := "authority", type := (.object "java/lang/String"), accessFlags := 18, slot := 1, constantValue := 0 }, { name := "path", type := (.object "java/lang/String"), accessFlags := 18, slot := 2, constantValue := 0 }, { name := "query", type := (.object "java/lang/String"), accessFlags := 18, slot := 3, constantValue := 0 }, { name := "fragment", type := (.object "java/lang/String"), accessFlags := 18, slot := 4, constantValue := 0 }, { name := "COMPONENTS", type := (.object "java/util/regex/Pattern"), accessFlags := 26, slot := 0, constantValue := 0 }]
  methods := #[k10m0, k10m1, k10m2, k10m3, k10m4, k10m5, k10m6]
  instanceTypes := #[(.object "java/lang/String"), (.object "java/lang/String"), (.object "java/lang/String"), (.object "java/lang/String"), (.object "java/lang/String")]
  staticTypes := #[(.object "java/util/regex/Pattern")]
  resolved := Array.replicate 265 none
  statics := none }

def pool11 : Array CpInfo := pool [(4, .class_ 6), (1, u "java/lang/Object"), (0, u "<init>"), (0, u "()V"), (5, .class_ 16), (1, u "java/lang/StringLatin1"), (104, u "$assertionsDisabled"), (0, u "Z"), (98, .class_ 223), (1, u "java/lang/StringLatin1$LinesSpliterator"), (166, .class_ 391), (0, u "java/lang/StringLatin1$CharsSpliterator")] 3

def k11m0 : Method := { name := "<init>", desc := "()V", sig := { parameters := [], returnType := none }, accessFlags := 0, code := none }
/-- java/lang/StringLatin1 -/
def k11 : Class := { plain "java/lang/StringLatin1" (some 0) with
  accessFlags := 48
  interfaces := #[]
  cf := some (fileOf pool11 14 #[.nestMembers #[390, 221]] #[{ accessFlags := 0, nameIndex := 7, descriptorIndex := 8, attributes := #[] }] 48 4 #[] #[{ accessFlags := 4120, nameIndex := 121, descriptorIndex := 122, attributes := #[] }])
  fields := #[{ name := "$assertionsDisabled", type := .boolean, accessFlags := 4120, slot := 0, constantValue := 0 }]
  methods := #[k11m0]
  instanceTypes := #[]
  staticTypes := #[.boolean]
  resolved := Array.replicate 395 none
  statics := none }

def pool12 : Array CpInfo := pool [(2, .class_ 4), (1, u "java/lang/Object"), (0, u "<init>"), (0, u "()V"), (17, .class_ 26), (1, u "jdk/internal/util/Preconditions"), (28, .class_ 56), (0, u "jdk/internal/util/Preconditions$4"), (57, .class_ 115), (0, u "jdk/internal/util/Preconditions$1"), (7, u "SIOOBE_FORMATTER"), (0, u "Ljava/util/function/BiFunction;"), (0, .class_ 126), (0, u "jdk/internal/util/Preconditions$2"), (3, u "AIOOBE_FORMATTER"), (0, .class_ 132), (0, u "jdk/internal/util/Preconditions$3"), (3, u "IOOBE_FORMATTER")] 57

def k12m0 : Method := { name := "<init>", desc := "()V", sig := { parameters := [], returnType := none }, accessFlags := 1, code := none }
/-- jdk/internal/util/Preconditions -/
def k12 : Class := { plain "jdk/internal/util/Preconditions" (some 0) with
  accessFlags := 33
  interfaces := #[]
  cf := some (fileOf pool12 24 #[.nestMembers #[55, 131, 125, 114]] #[{ accessFlags := 1, nameIndex := 5, descriptorIndex := 6, attributes := #[] }] 33 2 #[] #[{ accessFlags := 25, nameIndex := 123, descriptorIndex := 124, attributes := #[] }, { accessFlags := 25, nameIndex := 130, descriptorIndex := 124, attributes := #[] }, { accessFlags := 25, nameIndex := 136, descriptorIndex := 124, attributes := #[] }])
  fields := #[{ name := "SIOOBE_FORMATTER", type := (.object "java/util/function/BiFunction"), accessFlags := 25, slot := 0, constantValue := 0 }, { name := "AIOOBE_FORMATTER", type := (.object "java/util/function/BiFunction"), accessFlags := 25, slot := 1, constantValue := 0 }, { name := "IOOBE_FORMATTER", type := (.object "java/util/function/BiFunction"), accessFlags := 25, slot := 2, constantValue := 0 }]
  methods := #[k12m0]
  instanceTypes := #[]
  staticTypes := #[(.object "java/util/function/BiFunction"), (.object "java/util/function/BiFunction"), (.object "java/util/function/BiFunction")]
  resolved := Array.replicate 194 none
  statics := some 1 }

def pool13 : Array CpInfo := pool [(9, u "<init>"), (6, .class_ 18), (1, u "java/lang/Object"), (0, u "()V"), (1, .class_ 23), (1, u "jdk/internal/util/ArraysSupport"), (0, u "LOG2_ARRAY_LONG_INDEX_SCALE"), (0, u "I"), (2, u "U"), (0, u "Ljdk/internal/misc/Unsafe;"), (8, u "BIG_ENDIAN"), (0, u "Z"), (8, u "LOG2_BYTE_BIT_SIZE"), (4, u "LOG2_ARRAY_INT_INDEX_SCALE"), (54, u "JLA"), (0, u "Ljdk/internal/access/JavaLangAccess;"), (11, u "LOG2_ARRAY_BOOLEAN_INDEX_SCALE"), (9, u "LOG2_ARRAY_BYTE_INDEX_SCALE"), (5, u "LOG2_ARRAY_CHAR_INDEX_SCALE"), (5, u "LOG2_ARRAY_SHORT_INDEX_SCALE"), (18, u "LOG2_ARRAY_FLOAT_INDEX_SCALE"), (24, u "LOG2_ARRAY_DOUBLE_INDEX_SCALE"), (89, u "T_BOOLEAN"), (2, u "T_CHAR"), (1, u "T_FLOAT"), (1, u "T_DOUBLE"), (1, u "T_BYTE"), (1, u "T_SHORT"), (1, u "T_INT"), (1, u "T_LONG"), (1, u "SOFT_MAX_ARRAY_LENGTH")] 83

def k13m0 : Method := { name := "<init>", desc := "()V", sig := { parameters := [], returnType := none }, accessFlags := 2, code := none }
/-- jdk/internal/util/ArraysSupport -/
def k13 : Class := { plain "jdk/internal/util/ArraysSupport" (some 0) with
  accessFlags := 33
  interfaces := #[]
  cf := some (fileOf pool13 21 #[] #[{ accessFlags := 2, nameIndex := 9, descriptorIndex := 19, attributes := #[] }] 33 16 #[] #[{ accessFlags := 24, nameIndex := 28, descriptorIndex := 29, attributes := #[] }, { accessFlags := 26, nameIndex := 38, descriptorIndex := 39, attributes := #[] }, { accessFlags := 25, nameIndex := 121, descriptorIndex := 25, attributes := #[] }, { accessFlags := 25, nameIndex := 131, descriptorIndex := 25, attributes := #[] }, { accessFlags := 25, nameIndex := 137, descriptorIndex := 25, attributes := #[] }, { accessFlags := 25, nameIndex := 143, descriptorIndex := 25, attributes := #[] }, { accessFlags := 25, nameIndex := 53, descriptorIndex := 25, attributes := #[] }, { accessFlags := 25, nameIndex := 24, descriptorIndex := 25, attributes := #[] }, { accessFlags := 25, nameIndex := 162, descriptorIndex := 25, attributes := #[] }, { accessFlags := 25, nameIndex := 187, descriptorIndex := 25, attributes := #[] }, { accessFlags := 26, nameIndex := 48, descriptorIndex := 25, attributes := #[] }, { accessFlags := 25, nameIndex := 277, descriptorIndex := 25, attributes := #[] }, { accessFlags := 25, nameIndex := 280, descriptorIndex := 25, attributes := #[] }, { accessFlags := 25, nameIndex := 282, descriptorIndex := 25, attributes := #[] }, { accessFlags := 25, nameIndex := 284, descriptorIndex := 25, attributes := #[] }, { accessFlags := 25, nameIndex := 286, descriptorIndex := 25, attributes := #[] }, { accessFlags := 25, nameIndex := 288, descriptorIndex := 25, attributes := #[] }, { accessFlags := 25, nameIndex := 290, descriptorIndex := 25, attributes := #[] }, { accessFlags := 25, nameIndex := 292, descriptorIndex := 25, attributes := #[] }, { accessFlags := 26, nameIndex := 108, descriptorIndex := 109, attributes := #[] }, { accessFlags := 25, nameIndex := 294, descriptorIndex := 25, attributes := #[] }])
  fields := #[{ name := "U", type := (.object "jdk/internal/misc/Unsafe"), accessFlags := 24, slot := 0, constantValue := 0 }, { name := "BIG_ENDIAN", type := .boolean, accessFlags := 26, slot := 1, constantValue := 0 }, { name := "LOG2_ARRAY_BOOLEAN_INDEX_SCALE", type := .int, accessFlags := 25, slot := 2, constantValue := 0 }, { name := "LOG2_ARRAY_BYTE_INDEX_SCALE", type := .int, accessFlags := 25, slot := 3, constantValue := 0 }, { name := "LOG2_ARRAY_CHAR_INDEX_SCALE", type := .int, accessFlags := 25, slot := 4, constantValue := 0 }, { name := "LOG2_ARRAY_SHORT_INDEX_SCALE", type := .int, accessFlags := 25, slot := 5, constantValue := 0 }, { name := "LOG2_ARRAY_INT_INDEX_SCALE", type := .int, accessFlags := 25, slot := 6, constantValue := 0 }, { name := "LOG2_ARRAY_LONG_INDEX_SCALE", type := .int, accessFlags := 25, slot := 7, constantValue := 0 }, { name := "LOG2_ARRAY_FLOAT_INDEX_SCALE", type := .int, accessFlags := 25, slot := 8, constantValue := 0 }, { name := "LOG2_ARRAY_DOUBLE_INDEX_SCALE", type := .int, accessFlags := 25, slot := 9, constantValue := 0 }, { name := "LOG2_BYTE_BIT_SIZE", type := .int, accessFlags := 26, slot := 10, constantValue := 0 }, { name := "T_BOOLEAN", type := .int, accessFlags := 25, slot := 11, constantValue := 0 }, { name := "T_CHAR", type := .int, accessFlags := 25, slot := 12, constantValue := 0 }, { name := "T_FLOAT", type := .int, accessFlags := 25, slot := 13, constantValue := 0 }, { name := "T_DOUBLE", type := .int, accessFlags := 25, slot := 14, constantValue := 0 }, { name := "T_BYTE", type := .int, accessFlags := 25, slot := 15, constantValue := 0 }, { name := "T_SHORT", type := .int, accessFlags := 25, slot := 16, constantValue := 0 }, { name := "T_INT", type := .int, accessFlags := 25, slot := 17, constantValue := 0 }, { name := "T_LONG", type := .int, accessFlags := 25, slot := 18, constantValue := 0 }, { name := "JLA", type := (.object "jdk/internal/access/JavaLangAccess"), accessFlags := 26, slot := 19, constantValue := 0 }, { name := "SOFT_MAX_ARRAY_LENGTH", type := .int, accessFlags := 25, slot := 20, constantValue := 0 }]
  methods := #[k13m0]
  instanceTypes := #[]
  staticTypes := #[(.object "jdk/internal/misc/Unsafe"), .boolean, .int, .int, .int, .int, .int, .int, .int, .int, .int, .int, .int, .int, .int, .int, .int, .int, .int, (.object "jdk/internal/access/JavaLangAccess"), .int]
  resolved := Array.replicate 378 none
  statics := none }

def pool14 : Array CpInfo := pool [(1, u "java/lang/Cloneable"), (0, .class_ 1), (0, u "java/lang/Object"), (0, .class_ 3)] 3

/-- java/lang/Cloneable -/
def k14 : Class := { plain "java/lang/Cloneable" (some 0) with
  accessFlags := 1537
  interfaces := #[]
  cf := some (fileOf pool14 2 #[] #[] 1537 4 #[] #[])
  fields := #[]
  methods := #[]
  instanceTypes := #[]
  staticTypes := #[]
  resolved := Array.replicate 8 none
  statics := none }

/-- the primitive byte -/
def k15 : Class := { plain "byte" none with kind := .primitive 'B', accessFlags := 0x411 }
/-- [B -/
def k16 : Class := { plain "[B" (some 0) with kind := .array 15 .byte, interfaces := #[14, 2], accessFlags := 1041 }

/-- the primitive char -/
def k17 : Class := { plain "char" none with kind := .primitive 'C', accessFlags := 0x411 }
/-- [C -/
def k18 : Class := { plain "[C" (some 0) with kind := .array 17 .char, interfaces := #[14, 2], accessFlags := 1041 }

/-- the primitive int -/
def k19 : Class := { plain "int" none with kind := .primitive 'I', accessFlags := 0x411 }
/-- [I -/
def k20 : Class := { plain "[I" (some 0) with kind := .array 19 .int, interfaces := #[14, 2], accessFlags := 1041 }

def heap : Heap := #[{ cls := 7, slots := #[.long 0, .int 1, .null, .int 0, .null, .int 0, .int 0], vm := .statics 7 },
  { cls := 12, slots := #[.null, .null, .null], vm := .statics 12 }]
def classes : Array Class := #[k0, k1, k2, k3, k4, k5, k6, k7, k8, k9, k10, k11, k12, k13, k14, k15, k16, k17, k18, k19, k20]
def interned : List (Array UInt16 × Addr) := []
def slotsUsed : Nat := 10
def theMethod : MethodId := ⟨1, 1⟩
def args0 : Array Value := #[.int 0, .int 2, .int 6, .int 3, .int 7, .int 10]
def aboutOver (below : List Frame) : State where
  vm := { classes := classes, interned := interned.toArray }
  heap := heap
  slotsUsed := slotsUsed
  threads := #[{ frames := .invoking theMethod args0 :: below }]
def below0 : List Frame := [.native { method := ⟨0, 0⟩, args := #[] }]
def about1 : State := aboutOver below0
def p0 : Program := .bare "" "" ""
def e0 : Env := launch0.env 0 0 0
theorem w_frames : about1.frames = Frame.invoking theMethod args0 :: below0 := rfl
set_option maxRecDepth 65536 in
theorem w_args : argsFit about1.vm theMethod args0 = true := by decide +kernel
set_option maxRecDepth 65536 in
theorem w_heap : heapFits about1 = true := by decide +kernel
set_option maxRecDepth 65536 in
theorem w_runnable : about1.curStatus? = some .runnable := by decide +kernel
set_option maxRecDepth 65536 in
theorem w_alone : about1.alone = true := by decide +kernel
set_option maxRecDepth 65536 in
theorem w_named : about1.methodNamed? x = some theMethod := by decide +kernel
set_option maxRecDepth 65536 in
theorem w_hears : about1.hears theMethod below0 = true := by decide +kernel
set_option maxRecDepth 65536 in
theorem w_ripe : about1.ripe theMethod args0 below0 = true := by decide +kernel
theorem w_running : about1.status = .running := rfl
set_option maxRecDepth 65536 in
theorem w_room : about1.hasRoom e0.platform room_1 = true :=
  launch0.hasRoom_least _ room_1 (by decide +kernel) (by decide +kernel) (by decide +kernel) (by decide +kernel) (by decide +kernel) (by decide +kernel)
theorem allAtoms_all (ts : List Jvm.Cond) (a : Array Jvm.Value) (st : Jvm.State) : (allAtoms ts).before a st = ts.all (fun c => c.before a st) := by
  induction ts with
  | nil => rfl
  | cons c t ih =>
    show (Jvm.Cond.and c (allAtoms t)).before a st = _
    rw [Jvm.Cond.before_and, ih, List.all_cons]
def words1 : List Jvm.Cond := Jvm.Cond.code x code maxLocals ret :: tables_1
/-- a 'code' word, met by the world's own term for the bytes: nothing is compared byte by byte -/
theorem code_word {y : MethodName} {bytes : ByteArray} {mx : Nat} {rt : Option FieldType} {a : Array Value} {s : State} {m : MethodId} {meth : Method} {c : Code} (h1 : s.methodNamed? y = some m) (h2 : s.vm.method? m = some meth) (h3 : meth.code = some c) (h4 : c.code = bytes)
    (h5 : (c.maxLocals == mx && c.exceptionTable.isEmpty && decide (c.maxStack ≤ mostOperands) && decide (meth.sig.returnType = rt) && !meth.locks && decide (parseMethodDescriptor y.desc = some meth.sig)) = true) : (Jvm.Cond.code y bytes mx rt).before a s = true := by
  simp only [Bool.and_eq_true, beq_iff_eq, Bool.not_eq_true', decide_eq_true_eq] at h5
  obtain ⟨⟨⟨⟨⟨g1, g2⟩, g3⟩, g4⟩, g5⟩, g6⟩ := h5
  simp [Cond.before, Cond.holds, Cond.value, h1, h2, h3, h4, g1, g2, g3, g4, g5, g6]
def isCode : Jvm.Cond → Bool
  | .code _ _ _ _ => true
  | _ => false
theorem all_split {L : List Jvm.Cond} {P : Jvm.Cond → Bool} (h1 : L.all (fun c => isCode c || P c) = true) (h2 : ∀ c ∈ L.filter isCode, P c = true) : L.all P = true := by
  refine List.all_eq_true.mpr fun c hc => ?_
  have h := List.all_eq_true.mp h1 c hc
  rcases Bool.eq_false_or_eq_true (isCode c) with hi | hi
  · exact h2 c (List.mem_filter.mpr ⟨hc, hi⟩)
  · simpa [hi] using h
set_option maxRecDepth 65536 in
theorem w_c0 : (Jvm.Cond.code x code maxLocals ret).before args0 about1 = true := code_word (m := ⟨1, 1⟩) (meth := k1m1) (c := k1c1) (by decide +kernel) rfl rfl rfl (by decide +kernel)
set_option maxRecDepth 65536 in
theorem w_c1 : (Jvm.Cond.code ({ cls := "dev/callstitch/declaration/UriReferenceWithPathPinLaw", name := "draw", desc := "(IZ)Ljava/lang/String;" } : Jvm.MethodName) method_3_code (5 : Nat) (Option.some (Jvm.ClassFile.FieldType.object "java/lang/String"))).before args0 about1 = true := code_word (m := ⟨1, 2⟩) (meth := k1m2) (c := k1c2) (by decide +kernel) rfl rfl rfl (by decide +kernel)
set_option maxRecDepth 65536 in
theorem w_c2 : (Jvm.Cond.code ({ cls := "java/lang/String", name := "<init>", desc := "([C)V" } : Jvm.MethodName) jdk_42_method_3_code (2 : Nat) (Option.none : Option Jvm.ClassFile.FieldType)).before args0 about1 = true := code_word (m := ⟨7, 1⟩) (meth := k7m1) (c := k7c1) (by decide +kernel) rfl rfl rfl (by decide +kernel)
set_option maxRecDepth 65536 in
theorem w_c3 : (Jvm.Cond.code ({ cls := "java/lang/String", name := "<init>", desc := "([CIILjava/lang/Void;)V" } : Jvm.MethodName) jdk_42_method_149_code (6 : Nat) (Option.none : Option Jvm.ClassFile.FieldType)).before args0 about1 = true := code_word (m := ⟨7, 3⟩) (meth := k7m3) (c := k7c3) (by decide +kernel) rfl rfl rfl (by decide +kernel)
set_option maxRecDepth 65536 in
theorem w_c4 : (Jvm.Cond.code ({ cls := "java/lang/Object", name := "<init>", desc := "()V" } : Jvm.MethodName) object_method_1_code (1 : Nat) (Option.none : Option Jvm.ClassFile.FieldType)).before args0 about1 = true := code_word (m := ⟨0, 0⟩) (meth := k0m0) (c := k0c0) (by decide +kernel) rfl rfl rfl (by decide +kernel)
set_option maxRecDepth 65536 in
theorem w_c5 : (Jvm.Cond.code ({ cls := "java/lang/StringUTF16", name := "compress", desc := "([CII)[B" } : Jvm.MethodName) jdk_52_method_16_code (6 : Nat) (Option.some (Jvm.ClassFile.FieldType.array Jvm.ClassFile.FieldType.byte))).before args0 about1 = true := code_word (m := ⟨8, 2⟩) (meth := k8m2) (c := k8c2) (by decide +kernel) rfl rfl rfl (by decide +kernel)
set_option maxRecDepth 65536 in
theorem w_c6 : (Jvm.Cond.code ({ cls := "java/lang/StringUTF16", name := "compress", desc := "([CI[BII)I" } : Jvm.MethodName) jdk_52_method_21_code (7 : Nat) (Option.some Jvm.ClassFile.FieldType.int)).before args0 about1 = true := code_word (m := ⟨8, 3⟩) (meth := k8m3) (c := k8c3) (by decide +kernel) rfl rfl rfl (by decide +kernel)
set_option maxRecDepth 65536 in
theorem w_c7 : (Jvm.Cond.code ({ cls := "java/lang/StringUTF16", name := "coderFromArrayLen", desc := "([BI)B" } : Jvm.MethodName) jdk_52_method_15_code (2 : Nat) (Option.some Jvm.ClassFile.FieldType.byte)).before args0 about1 = true := code_word (m := ⟨8, 1⟩) (meth := k8m1) (c := k8c1) (by decide +kernel) rfl rfl rfl (by decide +kernel)
set_option maxRecDepth 65536 in
theorem w_c8 : (Jvm.Cond.code ({ cls := "dev/callstitch/declaration/UriReference", name := "<init>", desc := "(Ljava/lang/String;Ljava/lang/String;Ljava/lang/String;Ljava/lang/String;Ljava/lang/String;)V" } : Jvm.MethodName) prog_37_method_1_code (6 : Nat) (Option.none : Option Jvm.ClassFile.FieldType)).before args0 about1 = true := code_word (m := ⟨10, 0⟩) (meth := k10m0) (c := k10c0) (by decide +kernel) rfl rfl rfl (by decide +kernel)
set_option maxRecDepth 65536 in
theorem w_c9 : (Jvm.Cond.code ({ cls := "java/lang/Record", name := "<init>", desc := "()V" } : Jvm.MethodName) jdk_30_method_1_code (1 : Nat) (Option.none : Option Jvm.ClassFile.FieldType)).before args0 about1 = true := code_word (m := ⟨9, 0⟩) (meth := k9m0) (c := k9c0) (by decide +kernel) rfl rfl rfl (by decide +kernel)
set_option maxRecDepth 65536 in
theorem w_c10 : (Jvm.Cond.code ({ cls := "dev/callstitch/declaration/UriReference", name := "withPath", desc := "(Ljava/lang/String;)Ldev/callstitch/declaration/UriReference;" } : Jvm.MethodName) prog_37_method_3_code (2 : Nat) (Option.some (Jvm.ClassFile.FieldType.object "dev/callstitch/declaration/UriReference"))).before args0 about1 = true := code_word (m := ⟨10, 1⟩) (meth := k10m1) (c := k10c1) (by decide +kernel) rfl rfl rfl (by decide +kernel)
set_option maxRecDepth 65536 in
theorem w_c11 : (Jvm.Cond.code ({ cls := "dev/callstitch/declaration/UriReference", name := "scheme", desc := "()Ljava/lang/String;" } : Jvm.MethodName) prog_37_method_14_code (1 : Nat) (Option.some (Jvm.ClassFile.FieldType.object "java/lang/String"))).before args0 about1 = true := code_word (m := ⟨10, 2⟩) (meth := k10m2) (c := k10c2) (by decide +kernel) rfl rfl rfl (by decide +kernel)
set_option maxRecDepth 65536 in
theorem w_c12 : (Jvm.Cond.code ({ cls := "dev/callstitch/declaration/UriReferenceWithPathPinLaw", name := "same", desc := "(Ljava/lang/String;Ljava/lang/String;)Z" } : Jvm.MethodName) method_4_code (2 : Nat) (Option.some Jvm.ClassFile.FieldType.boolean)).before args0 about1 = true := code_word (m := ⟨1, 3⟩) (meth := k1m3) (c := k1c3) (by decide +kernel) rfl rfl rfl (by decide +kernel)
set_option maxRecDepth 65536 in
theorem w_c13 : (Jvm.Cond.code ({ cls := "dev/callstitch/declaration/UriReference", name := "authority", desc := "()Ljava/lang/String;" } : Jvm.MethodName) prog_37_method_15_code (1 : Nat) (Option.some (Jvm.ClassFile.FieldType.object "java/lang/String"))).before args0 about1 = true := code_word (m := ⟨10, 3⟩) (meth := k10m3) (c := k10c3) (by decide +kernel) rfl rfl rfl (by decide +kernel)
set_option maxRecDepth 65536 in
theorem w_c14 : (Jvm.Cond.code ({ cls := "java/lang/String", name := "equals", desc := "(Ljava/lang/Object;)Z" } : Jvm.MethodName) jdk_42_method_66_code (3 : Nat) (Option.some Jvm.ClassFile.FieldType.boolean)).before args0 about1 = true := code_word (m := ⟨7, 2⟩) (meth := k7m2) (c := k7c2) (by decide +kernel) rfl rfl rfl (by decide +kernel)
set_option maxRecDepth 65536 in
theorem w_c15 : (Jvm.Cond.code ({ cls := "dev/callstitch/declaration/UriReference", name := "path", desc := "()Ljava/lang/String;" } : Jvm.MethodName) prog_37_method_16_code (1 : Nat) (Option.some (Jvm.ClassFile.FieldType.object "java/lang/String"))).before args0 about1 = true := code_word (m := ⟨10, 4⟩) (meth := k10m4) (c := k10c4) (by decide +kernel) rfl rfl rfl (by decide +kernel)
set_option maxRecDepth 65536 in
theorem w_c16 : (Jvm.Cond.code ({ cls := "dev/callstitch/declaration/UriReference", name := "query", desc := "()Ljava/lang/String;" } : Jvm.MethodName) prog_37_method_17_code (1 : Nat) (Option.some (Jvm.ClassFile.FieldType.object "java/lang/String"))).before args0 about1 = true := code_word (m := ⟨10, 5⟩) (meth := k10m5) (c := k10c5) (by decide +kernel) rfl rfl rfl (by decide +kernel)
set_option maxRecDepth 65536 in
theorem w_c17 : (Jvm.Cond.code ({ cls := "dev/callstitch/declaration/UriReference", name := "fragment", desc := "()Ljava/lang/String;" } : Jvm.MethodName) prog_37_method_18_code (1 : Nat) (Option.some (Jvm.ClassFile.FieldType.object "java/lang/String"))).before args0 about1 = true := code_word (m := ⟨10, 6⟩) (meth := k10m6) (c := k10c6) (by decide +kernel) rfl rfl rfl (by decide +kernel)
def codes1 : List Jvm.Cond := [Jvm.Cond.code x code maxLocals ret, Jvm.Cond.code ({ cls := "dev/callstitch/declaration/UriReferenceWithPathPinLaw", name := "draw", desc := "(IZ)Ljava/lang/String;" } : Jvm.MethodName) method_3_code (5 : Nat) (Option.some (Jvm.ClassFile.FieldType.object "java/lang/String")), Jvm.Cond.code ({ cls := "java/lang/String", name := "<init>", desc := "([C)V" } : Jvm.MethodName) jdk_42_method_3_code (2 : Nat) (Option.none : Option Jvm.ClassFile.FieldType), Jvm.Cond.code ({ cls := "java/lang/String", name := "<init>", desc := "([CIILjava/lang/Void;)V" } : Jvm.MethodName) jdk_42_method_149_code (6 : Nat) (Option.none : Option Jvm.ClassFile.FieldType), Jvm.Cond.code ({ cls := "java/lang/Object", name := "<init>", desc := "()V" } : Jvm.MethodName) object_method_1_code (1 : Nat) (Option.none : Option Jvm.ClassFile.FieldType), Jvm.Cond.code ({ cls := "java/lang/StringUTF16", name := "compress", desc := "([CII)[B" } : Jvm.MethodName) jdk_52_method_16_code (6 : Nat) (Option.some (Jvm.ClassFile.FieldType.array Jvm.ClassFile.FieldType.byte)), Jvm.Cond.code ({ cls := "java/lang/StringUTF16", name := "compress", desc := "([CI[BII)I" } : Jvm.MethodName) jdk_52_method_21_code (7 : Nat) (Option.some Jvm.ClassFile.FieldType.int), Jvm.Cond.code ({ cls := "java/lang/StringUTF16", name := "coderFromArrayLen", desc := "([BI)B" } : Jvm.MethodName) jdk_52_method_15_code (2 : Nat) (Option.some Jvm.ClassFile.FieldType.byte), Jvm.Cond.code ({ cls := "dev/callstitch/declaration/UriReference", name := "<init>", desc := "(Ljava/lang/String;Ljava/lang/String;Ljava/lang/String;Ljava/lang/String;Ljava/lang/String;)V" } : Jvm.MethodName) prog_37_method_1_code (6 : Nat) (Option.none : Option Jvm.ClassFile.FieldType), Jvm.Cond.code ({ cls := "java/lang/Record", name := "<init>", desc := "()V" } : Jvm.MethodName) jdk_30_method_1_code (1 : Nat) (Option.none : Option Jvm.ClassFile.FieldType), Jvm.Cond.code ({ cls := "dev/callstitch/declaration/UriReference", name := "withPath", desc := "(Ljava/lang/String;)Ldev/callstitch/declaration/UriReference;" } : Jvm.MethodName) prog_37_method_3_code (2 : Nat) (Option.some (Jvm.ClassFile.FieldType.object "dev/callstitch/declaration/UriReference")), Jvm.Cond.code ({ cls := "dev/callstitch/declaration/UriReference", name := "scheme", desc := "()Ljava/lang/String;" } : Jvm.MethodName) prog_37_method_14_code (1 : Nat) (Option.some (Jvm.ClassFile.FieldType.object "java/lang/String")), Jvm.Cond.code ({ cls := "dev/callstitch/declaration/UriReferenceWithPathPinLaw", name := "same", desc := "(Ljava/lang/String;Ljava/lang/String;)Z" } : Jvm.MethodName) method_4_code (2 : Nat) (Option.some Jvm.ClassFile.FieldType.boolean), Jvm.Cond.code ({ cls := "dev/callstitch/declaration/UriReference", name := "authority", desc := "()Ljava/lang/String;" } : Jvm.MethodName) prog_37_method_15_code (1 : Nat) (Option.some (Jvm.ClassFile.FieldType.object "java/lang/String")), Jvm.Cond.code ({ cls := "java/lang/String", name := "equals", desc := "(Ljava/lang/Object;)Z" } : Jvm.MethodName) jdk_42_method_66_code (3 : Nat) (Option.some Jvm.ClassFile.FieldType.boolean), Jvm.Cond.code ({ cls := "dev/callstitch/declaration/UriReference", name := "path", desc := "()Ljava/lang/String;" } : Jvm.MethodName) prog_37_method_16_code (1 : Nat) (Option.some (Jvm.ClassFile.FieldType.object "java/lang/String")), Jvm.Cond.code ({ cls := "dev/callstitch/declaration/UriReference", name := "query", desc := "()Ljava/lang/String;" } : Jvm.MethodName) prog_37_method_17_code (1 : Nat) (Option.some (Jvm.ClassFile.FieldType.object "java/lang/String")), Jvm.Cond.code ({ cls := "dev/callstitch/declaration/UriReference", name := "fragment", desc := "()Ljava/lang/String;" } : Jvm.MethodName) prog_37_method_18_code (1 : Nat) (Option.some (Jvm.ClassFile.FieldType.object "java/lang/String"))]
set_option maxRecDepth 65536 in
theorem codes_eq : words1.filter isCode = codes1 := rfl
theorem w_codes : ∀ c ∈ words1.filter isCode, c.before args0 about1 = true := by
  rw [codes_eq]
  intro c hc
  simp only [codes1, List.mem_cons, List.not_mem_nil, or_false] at hc
  rcases hc with rfl | rfl | rfl | rfl | rfl | rfl | rfl | rfl | rfl | rfl | rfl | rfl | rfl | rfl | rfl | rfl | rfl | rfl
  · exact w_c0
  · exact w_c1
  · exact w_c2
  · exact w_c3
  · exact w_c4
  · exact w_c5
  · exact w_c6
  · exact w_c7
  · exact w_c8
  · exact w_c9
  · exact w_c10
  · exact w_c11
  · exact w_c12
  · exact w_c13
  · exact w_c14
  · exact w_c15
  · exact w_c16
  · exact w_c17
set_option maxRecDepth 65536 in
theorem w_t1 : (words1.take 24).all (fun c => isCode c || c.before args0 about1) = true := by decide +kernel
set_option maxRecDepth 65536 in
theorem w_t2 : ((words1.drop 24).take 24).all (fun c => isCode c || c.before args0 about1) = true := by decide +kernel
set_option maxRecDepth 65536 in
theorem w_t3 : (((words1.drop 24).drop 24).take 24).all (fun c => isCode c || c.before args0 about1) = true := by decide +kernel
set_option maxRecDepth 65536 in
theorem w_t4 : ((((words1.drop 24).drop 24).drop 24).take 24).all (fun c => isCode c || c.before args0 about1) = true := by decide +kernel
set_option maxRecDepth 65536 in
theorem w_t5 : ((((words1.drop 24).drop 24).drop 24).drop 24).all (fun c => isCode c || c.before args0 about1) = true := by decide +kernel
theorem w_tables : (allAtoms (Jvm.Cond.code x code maxLocals ret :: tables_1)).before args0 about1 = true := by
  rw [allAtoms_all]
  show words1.all (fun c => c.before args0 about1) = true
  refine all_split ?_ w_codes
  rw [← List.take_append_drop 24 words1, List.all_append, w_t1, ← List.take_append_drop 24 (words1.drop 24), List.all_append, w_t2, ← List.take_append_drop 24 ((words1.drop 24).drop 24), List.all_append, w_t3, ← List.take_append_drop 24 (((words1.drop 24).drop 24).drop 24), List.all_append, w_t4, w_t5]
  rfl
set_option maxRecDepth 65536 in
theorem w_rest : rest_1_c.before args0 about1 = true := by decide +kernel
set_option maxRecDepth 65536 in
theorem w_case : (Jvm.Cond.and given_1 narrow_1).before args0 about1 = true := by decide +kernel
set_option maxRecDepth 65536 in
theorem w_consts : constsHeld consts_1 about1 := Jvm.Lit.constsHeldB_iff.mp (by decide +kernel)
theorem w_applies : (headSpec (Jvm.Cond.code x code maxLocals ret :: tables_1) room_1).applies x e0.platform about1 = true :=
  (Spec.applies_iff w_frames).mpr ⟨w_running, w_runnable, w_alone, w_named, w_hears, w_ripe, w_room, w_tables⟩
theorem atStart : AtStart classFile x code maxLocals ret World_1 tables_1 room_1 Calls_1 rest_1 Pre_1 launch0 p0 e0 about1 theMethod args0 below0 :=
  ⟨lists_1, trivial, launch0.admits_env _ _ _, launch0.least_env, fairChoices_fair.cas, fairChoices_fair.clock, w_frames, w_args, w_heap, w_applies, ⟨w_consts, trivial⟩, w_rest, w_case⟩
end start1
theorem witness_1 : WitnessClaimed_1 := ⟨start1.p0, start1.e0, start1.about1, start1.theMethod, start1.args0, start1.below0, start1.atStart⟩
end Jvm.Pilot.@@N@@
