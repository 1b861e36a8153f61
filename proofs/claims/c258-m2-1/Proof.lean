import JvmDerived
import JvmDerived.Pilot.@@N@@Statement
import JvmDerived.Pilot.@@N@@Code
set_option linter.unusedVariables false
set_option linter.unusedSimpArgs false
@@BLOCK:NumsL.lean.txt@@
namespace Jvm.Pilot.@@N@@
open Jvm Jvm.ClassFile Sem Op Lib Jvm.Free Jvm.Stand Jvm.LawKit Jvm.RoadKit Bundle Jvm.Pilot.@@N@@.Jvm.D
section Own
variable {p : Program} {l : Launch} {e : Env} {R : Room} {s : State} {m : MethodId} {args : Array Value} {below : List Frame} {meth : Method} {c : Code} {T : State} {locs : List Loc} {cells slots : Nat} {Z : State} {a0 : Array Value} {h : Heap}
/-- from t the run comes to an end that P speaks of -/
def Goes (p : Program) (e : Env) (below : List Frame) (P : State → Outcome → Prop) (t : State) : Prop :=
  ∃ s₂ o, Steps p.tables e below t s₂ ∧ s₂.status = .running ∧ Ended s₂ below o ∧ P s₂ o
/-- it returned, what Q says, and the frame -/
def Aim (s : State) (Q : Option Value → Heap → List Loc → Prop) (k n : Nat) (s₂ : State) (o : Outcome) : Prop :=
  ∃ v L, o = .returned v ∧ Q v s₂.heap L ∧ FrameEnd s o s₂ L k n
theorem Goes.step {P : State → Outcome → Prop} {t t' : State} (st : ∀ tgt, Steps p.tables e below t' tgt → Steps p.tables e below t tgt) (q : Goes p e below P t') : Goes p e below P t := by
  obtain ⟨s₂, o, k, r⟩ := q
  exact ⟨s₂, o, st _ k, r⟩
theorem Goes.tr {P : State → Outcome → Prop} {t t' : State} (st : Steps p.tables e below t t') (q : Goes p e below P t') : Goes p e below P t := by
  obtain ⟨s₂, o, k, r⟩ := q
  exact ⟨s₂, o, st.trans k, r⟩
theorem Goes.retN (X : Stand p l e R s m args below meth c T locs cells slots) (hx : p.tables.exec = Jvm.exec) (hlk : meth.locks = false) {t : FieldType} (hret : meth.sig.returnType = some t) (ht : t = .boolean ∨ t = .byte ∨ t = .char ∨ t = .short) {pc : Nat} {Ls : Array Slot} {z : Int32} {rest : List Value}
    (hd : decode c.code pc = .ok (.ireturn, 1)) {Q : Option Value → Heap → List Loc → Prop} {k n : Nat} (hk : cells ≤ k) (hn : slots ≤ n) (hQ : Q (some (.int (nar t z))) T.heap locs) :
    Goes p e below (Aim s Q k n) (T.setTop (mkF m pc Ls (.int z :: rest))) := by
  obtain ⟨fs, hr, hrun, hended, hW, hsame⟩ := X.leave (v := some (.int (nar t z))) (fun h => by rw [hret] at h; cases h) hlk
  exact ⟨_, _, Jvm.RoadKit.retN X hx hret ht hd hr, hrun, hended, _, _, rfl, hQ, ⟨_, rfl⟩, hW, hsame.mono hk hn⟩
theorem Goes.ret (X : Stand p l e R s m args below meth c T locs cells slots) (hx : p.tables.exec = Jvm.exec) (hlk : meth.locks = false) {t : FieldType} (hret : meth.sig.returnType = some t) {w : Value} (hnr : narrow t w = w) {i : Instr} {pc : Nat} {Ls : Array Slot} {rest : List Value}
    (hi : (i = .ireturn ∧ (t = .int ∨ t = .boolean ∨ t = .byte ∨ t = .char ∨ t = .short) ∧ ∃ z, w = .int z) ∨ (i = .lreturn ∧ t = .long ∧ ∃ z, w = .long z) ∨ (i = .dreturn ∧ t = .double ∧ ∃ z, w = .double z) ∨ (i = .freturn ∧ t = .float ∧ ∃ z, w = .float z) ∨ (i = .areturn ∧ t.isReference = true ∧ w.isRef = true))
    (hd : decode c.code pc = .ok (i, 1)) {Q : Option Value → Heap → List Loc → Prop} {k n : Nat} (hk : cells ≤ k) (hn : slots ≤ n) (hQ : Q (some w) T.heap locs) :
    Goes p e below (Aim s Q k n) (T.setTop (mkF m pc Ls (w :: rest))) := by
  obtain ⟨fs, hr, hrun, hended, hW, hsame⟩ := X.leave (v := some w) (fun h => by rw [hret] at h; cases h) hlk
  exact ⟨_, _, Jvm.RoadKit.retOut X hx hret hnr hi hd hr, hrun, hended, _, _, rfl, hQ, ⟨_, rfl⟩, hW, hsame.mono hk hn⟩
theorem Goes.ret0 (X : Stand p l e R s m args below meth c T locs cells slots) (hx : p.tables.exec = Jvm.exec) (hlk : meth.locks = false) (hret : meth.sig.returnType = none) {pc : Nat} {Ls : Array Slot}
    (hd : decode c.code pc = .ok (.return_, 1)) {Q : Option Value → Heap → List Loc → Prop} {k n : Nat} (hk : cells ≤ k) (hn : slots ≤ n) (hQ : Q none T.heap locs) :
    Goes p e below (Aim s Q k n) (T.setTop (mkF m pc Ls [])) := by
  obtain ⟨fs, hr, hrun, hended, hW, hsame⟩ := X.leave (v := none) (fun _ => rfl) hlk
  exact ⟨_, _, X.returnOut hx hret hd hr, hrun, hended, _, _, rfl, hQ, ⟨_, rfl⟩, hW, hsame.mono hk hn⟩
/-- a body's contract: called with these arguments over the heap h0 it returns, and Q says what it leaves -/
def Con (l : Launch) (Z : State) (y : MethodName) (bytes : ByteArray) (maxL : Nat) (ret : Option FieldType) (rm : Room) (as : Array Value) (h0 : Heap) (Q : Option Value → Heap → List Loc → Prop) : Prop :=
  ∀ ws : List Jvm.Cond, MetFree l y (head1 (Jvm.Cond.code y bytes maxL ret :: ws) rm) (fun a U => a = as ∧ Z.Warmed39 U.vm ∧ U.heap = h0) (fun _ _ _ _ _ => True) (fun _ U o U' => ∃ v L, o = .returned v ∧ Q v U'.heap L ∧ FrameEnd U o U' L rm.cells rm.slots)
theorem Con.body {y : MethodName} {bytes : ByteArray} {maxL : Nat} {ret : Option FieldType} {rm : Room} {as : Array Value} {h0 : Heap} {Q : Option Value → Heap → List Loc → Prop} (hp : plainFor y = true)
    (H : ∀ (p : Program) (e : Env) (s : State) (m : MethodId) (below : List Frame) (meth : Method) (c : Code) (s₁ : State), p.tables.exec = Jvm.exec → c.code = bytes → c.maxLocals = maxL → Z.Warmed39 s.vm → s.vm.findClass y.cls = some m.cls → meth.name = y.name → meth.sig.returnType = ret → meth.locks = false →
      Stand p l e rm s m as below meth c s₁ [] 0 0 → s₁.heap = h0 → Goes p e below (Aim s Q rm.cells rm.slots) (s₁.setTop (entryFrame m as maxL))) :
    Con l Z y bytes maxL ret rm as h0 Q := by
  intro ws
  refine MetFree.of_bodySF hp hisR ?_
  intro p e s m args below meth c s₁ Bd hml0 hP hK
  obtain ⟨rfl, hZ, hh⟩ := hP
  exact H p e s m below meth c s₁ Bd.exec Bd.bytes hml0 hZ (findClass_of_methodNamed Bd.named) (name_of_methodNamed Bd.named Bd.method).1 Bd.returns Bd.notSynchronized (Stand.of_body Bd) (by rw [← hh, Bd.state]; rfl)
theorem Goes.callS (X : Stand p l e R s m args below meth c T locs cells slots) (hx : p.tables.exec = Jvm.exec) (hZ : Z.Warmed39 s.vm) {own : String} {index : Nat} {y : MethodName} {bytes : ByteArray} {maxL : Nat} {ret : Option FieldType} {rm : Room} {as : List Value} {Q : Option Value → Heap → List Loc → Prop} (hown : s.vm.findClass own = some m.cls)
    (w1 : (Jvm.Cond.methodLink own index y).before a0 Z = true) (w2 : (Jvm.Cond.static y).before a0 Z = true) (w3 : (Jvm.Cond.initialized y.cls).before a0 Z = true) (w4 : (Jvm.Cond.code y bytes maxL ret).before a0 Z = true) (hy : y.cls ≠ "java/lang/invoke/MethodHandle" ∧ y.cls ≠ "java/lang/invoke/VarHandle")
    (eT : T.heap = h) (hM : Con l Z y bytes maxL ret rm as.toArray h Q) {W : Nat} (hf : rm.frames + 1 ≤ R.frames) (hl : W + (maxL + 11) + rm.locals ≤ R.locals) (hc : cells + rm.cells ≤ R.cells) (hs : slots + rm.slots ≤ R.slots)
    {g : JFrame} (hg : g.method = m) (hsize : g.locals.size = c.maxLocals) {rest : List Value} {ps : List FieldType} {r : Option FieldType} (hd : parseMethodDescriptor y.desc = some ⟨ps, r⟩) (hlen : as.length = ps.length) (hstack : g.stack = as.reverse ++ rest) (hW : 2 * g.monitorRoom + (rest.map fun v => v.category).sum ≤ W) (hdg : decode c.code g.pc = .ok (.invokestatic index, 3))
    {P : State → Outcome → Prop} (k : ∀ v T' L, Stand p l e R s m args below meth c T' (locs ++ L) (cells + rm.cells) (slots + rm.slots) → Q v T'.heap L → Goes p e below P (T'.setTop { g with pc := g.pc + 3, stack := v.toList ++ rest })) :
    Goes p e below P (T.setTop g) := by
  obtain ⟨v, vm₁, ⟨T', L', k', n'⟩, -, X', ⟨L, hQ, l', y', z'⟩, st⟩ := Jvm.LawKit.callS X hx hown (mvT hZ w1) (mvT hZ w2) (mvT hZ w3) (mvT hZ w4) hy (backOf (W := W) (hM []) hZ w4 w3 hf hl) (g := g) hg hsize (argsL := as) (rest := rest) (lenOf hd hlen) hstack hW hdg (fun _ _ => ⟨rfl, eT, hc, hs⟩)
  try dsimp only at X' hQ l' y' z' st
  subst l' y' z'
  exact Goes.step st (k v T' L X' hQ)
theorem Goes.callV (X : Stand p l e R s m args below meth c T locs cells slots) (hx : p.tables.exec = Jvm.exec) (hZ : Z.Warmed39 s.vm) {own C : String} {index : Nat} {y z : MethodName} {bytes : ByteArray} {maxL : Nat} {ret : Option FieldType} {rm : Room} {as : List Value} {Q : Option Value → Heap → List Loc → Prop} (hown : s.vm.findClass own = some m.cls)
    (w1 : (Jvm.Cond.methodLink own index y).before a0 Z = true) (w2 : (Jvm.Cond.declares y).before a0 Z = true) (hnf : NotFace s y) (w3 : (Jvm.Cond.selects C y z).before a0 Z = true) (w4 : (Jvm.Cond.instanceMethod z).before a0 Z = true) (w5 : (Jvm.Cond.code z bytes maxL ret).before a0 Z = true) (w6 : (Jvm.Cond.initialized z.cls).before a0 Z = true) (hy : y.cls ≠ "java/lang/invoke/MethodHandle" ∧ y.cls ≠ "java/lang/invoke/VarHandle")
    (eT : T.heap = h) {b : Addr} (E : Exa Z h b C) (hM : Con l Z z bytes maxL ret rm (.ref b :: as).toArray h Q) {W : Nat} (hf : rm.frames + 1 ≤ R.frames) (hl : W + (maxL + 11) + rm.locals ≤ R.locals) (hc : cells + rm.cells ≤ R.cells) (hs : slots + rm.slots ≤ R.slots)
    {g : JFrame} (hg : g.method = m) (hsize : g.locals.size = c.maxLocals) {rest : List Value} {ps : List FieldType} {r : Option FieldType} (hd : parseMethodDescriptor y.desc = some ⟨ps, r⟩) (hlen : as.length = ps.length) (hstack : g.stack = as.reverse ++ .ref b :: rest) (hW : 2 * g.monitorRoom + (rest.map fun v => v.category).sum ≤ W) (hdg : decode c.code g.pc = .ok (.invokevirtual index, 3))
    {P : State → Outcome → Prop} (k : ∀ v T' L, Stand p l e R s m args below meth c T' (locs ++ L) (cells + rm.cells) (slots + rm.slots) → Q v T'.heap L → Goes p e below P (T'.setTop { g with pc := g.pc + 3, stack := v.toList ++ rest })) :
    Goes p e below P (T.setTop g) := by
  obtain ⟨cB, kB, q1, -, q3⟩ := isOf hZ eT E
  obtain ⟨v, vm₁, ⟨T', L', k', n'⟩, -, X', ⟨L, hQ, l', y', z'⟩, st⟩ := X.virtualBack hx (y := y) (z := z) hown (mvT hZ w1) (mvT hZ w2) hnf (mvT hZ w3) (mvT hZ w4) hy (backOf (W := W) (hM []) hZ w5 w6 hf hl) q1 q3 (g := g) hg hsize (Steps.refl _) (argsL := as) (rest := rest) (lenOf hd hlen) hstack hW hdg (fun _ _ => ⟨rfl, eT, hc, hs⟩)
  try dsimp only at X' hQ l' y' z' st
  subst l' y' z'
  exact Goes.tr st (k v T' L X' hQ)
theorem Goes.callI (X : Stand p l e R s m args below meth c T locs cells slots) (hx : p.tables.exec = Jvm.exec) (hZ : Z.Warmed39 s.vm) {own : String} {index : Nat} {y : MethodName} {bytes : ByteArray} {maxL : Nat} {rm : Room} {as : List Value} {Q : Option Value → Heap → List Loc → Prop} (hy1 : y.name = "<init>") (hown : s.vm.findClass own = some m.cls)
    (w1 : (Jvm.Cond.methodLink own index y).before a0 Z = true) (w2 : (Jvm.Cond.instanceMethod y).before a0 Z = true) (w3 : (Jvm.Cond.code y bytes maxL none).before a0 Z = true) (w4 : (Jvm.Cond.initialized y.cls).before a0 Z = true) (hy : y.cls ≠ "java/lang/invoke/MethodHandle" ∧ y.cls ≠ "java/lang/invoke/VarHandle")
    (eT : T.heap = h) {b : Addr} (hM : Con l Z y bytes maxL none rm (.ref b :: as).toArray h Q) {W : Nat} (hf : rm.frames + 1 ≤ R.frames) (hl : W + (maxL + 11) + rm.locals ≤ R.locals) (hc : cells + rm.cells ≤ R.cells) (hs : slots + rm.slots ≤ R.slots)
    {g : JFrame} (hg : g.method = m) (hsize : g.locals.size = c.maxLocals) {rest : List Value} {ps : List FieldType} {r : Option FieldType} (hd : parseMethodDescriptor y.desc = some ⟨ps, r⟩) (hlen : as.length = ps.length) (hstack : g.stack = as.reverse ++ .ref b :: rest) (hW : 2 * g.monitorRoom + (rest.map fun v => v.category).sum ≤ W) (hdg : decode c.code g.pc = .ok (.invokespecial index, 3))
    {P : State → Outcome → Prop} (k : ∀ v T' L, Stand p l e R s m args below meth c T' (locs ++ L) (cells + rm.cells) (slots + rm.slots) → Q v T'.heap L → Goes p e below P (T'.setTop { g with pc := g.pc + 3, stack := v.toList ++ rest })) :
    Goes p e below P (T.setTop g) := by
  obtain ⟨v, vm₁, ⟨T', L', k', n'⟩, -, X', ⟨L, hQ, l', y', z'⟩, st⟩ := X.specialBack hx (y := y) hy1 hown (mvT hZ w1) (mvT hZ w2) (mvT hZ w3) hy (backOf (W := W) (hM []) hZ w3 w4 hf hl) (g := g) hg hsize (Steps.refl _) (a := b) (argsL := as) (rest := rest) (lenOf hd hlen) hstack hW hdg (fun _ _ => ⟨rfl, eT, hc, hs⟩)
  try dsimp only at X' hQ l' y' z' st
  subst l' y' z'
  exact Goes.tr st (k v T' L X' hQ)
theorem own_refR {v : Value} (h : v.isRef = true) : v = .null ∨ ∃ a, v = .ref a := by
  cases v <;> first | exact Or.inl rfl | exact Or.inr ⟨_, rfl⟩ | cases h
theorem jlt {a b : Int64} : lcmpW a b < 0 ↔ a < b := by rw [lcW]; exact lc_lt a b
theorem jgt {a b : Int64} : 0 < lcmpW a b ↔ b < a := by rw [lcW]; exact lc_gt a b
theorem jeq {a b : Int64} : lcmpW a b = 0 ↔ a = b := by rw [lcW]; exact lc_eq a b
end Own
section OwnHeap
variable {p : Program} {l : Launch} {e : Env} {R : Room} {s : State} {m : MethodId} {args : Array Value} {below : List Frame} {meth : Method} {c : Code} {T : State} {locs : List Loc} {cells slots : Nat} {Z : State} {a0 : Array Value} {h h' : Heap} {a b : Addr} {ty : FieldType} {n : Nat} {f f' : Nat → Value} {sl : Nat} {v : Value} {ws : List Addr}
theorem own_ix {j : Int32} {i n : Nat} (hj : j.toInt = (i : Int)) (hi : i < n) : ¬ (j < 0 ∨ n ≤ j.toNatClampNeg) := by
  simp only [Int32.lt_iff_toInt_lt, Int32.toNatClampNeg, hj, Int32.reduceToInt]; omega
theorem own_ixn {j : Int32} {i : Nat} (hj : j.toInt = (i : Int)) : j.toNatClampNeg = i := by
  simp only [Int32.toNatClampNeg, hj]; omega
/-- the array at a holds n places, the i-th f i -/
def Afn (Z : State) (h : Heap) (a : Addr) (ty : FieldType) (n : Nat) (f : Nat → Value) : Prop :=
  ∃ c : Cell, Arr Z h a c ty ∧ c.slots.size = n ∧ n < 2 ^ 31 ∧ (∀ i, i < n → c.slots[i]? = some (f i)) ∧ ∀ i, i < n → fits ty (f i) = true
theorem Afn.lt (F : Afn Z h a ty n f) : a < h.size := by obtain ⟨c, A, -⟩ := F; exact A.lt
theorem Afn.ext (F : Afn Z h a ty n f) (E : Ext h h') : Afn Z h' a ty n f := by obtain ⟨c, A, r⟩ := F; exact ⟨c, A.ext E, r⟩
theorem Afn.other (F : Afn Z h b ty n f) (W : Wr h h' a sl v) (q : b ≠ a) : Afn Z h' b ty n f := by obtain ⟨c, A, r⟩ := F; exact ⟨c, A.other W q, r⟩
theorem Afn.keep (F : Afn Z h a ty n f) (K : Keep h h' ws) (q : a ∉ ws) : Afn Z h' a ty n f := by obtain ⟨c, A, r⟩ := F; exact ⟨c, ⟨K.2.1 a c A.1 q, A.2⟩, r⟩
theorem Afn.congr (F : Afn Z h a ty n f) (q : ∀ i, i < n → f i = f' i) : Afn Z h a ty n f' := by
  obtain ⟨c, A, S, B, H, G⟩ := F
  exact ⟨c, A, S, B, fun i hi => by rw [← q i hi]; exact H i hi, fun i hi => by rw [← q i hi]; exact G i hi⟩
theorem Afn.new {k : ClassId} {z : Int32} (A : Arr Z h a (newA k ty z) ty) (q : z.toInt = (n : Int)) : Afn Z h a ty n (fun _ => defaultValue ty) := by
  obtain ⟨c, A', -, S, q3, H, G⟩ := Arv.new A (by rw [Int32.lt_iff_toInt_lt, q]; simp only [Int32.reduceToInt]; omega)
  rw [own_ixn q] at S
  refine ⟨c, A', S, ?_, fun i hi => H i (by rw [S]; exact hi), fun i hi => G i (by rw [S]; exact hi)⟩
  have := z.toInt_lt
  omega
theorem Afn.set {i : Nat} (F : Afn Z h a ty n f) (W : Wr h h' a i v) (hv : fits ty v = true) : Afn Z h' a ty n (fun x => if x = i then v else f x) := by
  obtain ⟨c, A, S, B, H, G⟩ := F
  refine ⟨_, A.same W, by rw [sz_set]; exact S, B, fun x hx => ?_, fun x hx => ?_⟩
  · show _ = some (if x = i then v else f x)
    by_cases q : x = i
    · subst q
      rw [if_pos rfl]
      have hx' : x < c.slots.size := by rw [S]; exact hx
      simp [Cell.setSlot, hx']
    · rw [if_neg q, ← H x hx]
      exact Array.getElem?_setIfInBounds_ne (Ne.symm q)
  · by_cases q : x = i
    · simp only [q, if_true]; exact hv
    · simp only [if_neg q]; exact G x hx
theorem Goes.iastore (X : Stand p l e R s m args below meth c T locs cells slots) (hx : p.tables.exec = Jvm.exec) (hZ : Z.Warmed39 s.vm) (eT : T.heap = h) (A : Afn Z h a .int n f) {j : Int32} {i : Nat} (hj : j.toInt = (i : Int)) (hi : i < n) {x : Int32} {g : JFrame} (hg : g.method = m) {rest : List Value} (hs : g.stack = .int x :: .int j :: .ref a :: rest) (hd : decode c.code g.pc = .ok (.iastore, 1)) {P : State → Outcome → Prop}
    (k : ∀ T' h', Stand p l e R s m args below meth c T' (locs ++ [⟨a, i⟩]) cells slots → T'.heap = h' → Wr h h' a i (.int x) → Afn Z h' a .int n (fun z => if z = i then .int x else f z) → Goes p e below P (T'.setTop { g with pc := g.pc + 1, stack := rest })) : Goes p e below P (T.setTop g) := by
  obtain ⟨cl, A1, S, -⟩ := id A
  obtain ⟨T', h', X', e', W, st⟩ := stI X hx hZ eT A1 (j := j) (by rw [S]; exact own_ix hj hi) hg hs hd
  rw [own_ixn hj] at X' W
  exact Goes.step st (k T' h' X' e' W (A.set W rfl))
theorem Goes.lastore (X : Stand p l e R s m args below meth c T locs cells slots) (hx : p.tables.exec = Jvm.exec) (hZ : Z.Warmed39 s.vm) (eT : T.heap = h) (A : Afn Z h a .long n f) {j : Int32} {i : Nat} (hj : j.toInt = (i : Int)) (hi : i < n) {x : Int64} {g : JFrame} (hg : g.method = m) {rest : List Value} (hs : g.stack = .long x :: .int j :: .ref a :: rest) (hd : decode c.code g.pc = .ok (.lastore, 1)) {P : State → Outcome → Prop}
    (k : ∀ T' h', Stand p l e R s m args below meth c T' (locs ++ [⟨a, i⟩]) cells slots → T'.heap = h' → Wr h h' a i (.long x) → Afn Z h' a .long n (fun z => if z = i then .long x else f z) → Goes p e below P (T'.setTop { g with pc := g.pc + 1, stack := rest })) : Goes p e below P (T.setTop g) := by
  obtain ⟨cl, A1, S, -⟩ := id A
  obtain ⟨T', h', X', e', W, st⟩ := stJ X hx hZ eT A1 (j := j) (by rw [S]; exact own_ix hj hi) hg hs hd
  rw [own_ixn hj] at X' W
  exact Goes.step st (k T' h' X' e' W (A.set W rfl))
theorem Goes.bastore (X : Stand p l e R s m args below meth c T locs cells slots) (hx : p.tables.exec = Jvm.exec) (hZ : Z.Warmed39 s.vm) (eT : T.heap = h) (A : Afn Z h a .byte n f) {j : Int32} {i : Nat} (hj : j.toInt = (i : Int)) (hi : i < n) {x : Int32} {g : JFrame} (hg : g.method = m) {rest : List Value} (hs : g.stack = .int x :: .int j :: .ref a :: rest) (hd : decode c.code g.pc = .ok (.bastore, 1)) {P : State → Outcome → Prop}
    (k : ∀ T' h', Stand p l e R s m args below meth c T' (locs ++ [⟨a, i⟩]) cells slots → T'.heap = h' → Wr h h' a i (.int x.toInt8.toInt32) → Afn Z h' a .byte n (fun z => if z = i then .int x.toInt8.toInt32 else f z) → Goes p e below P (T'.setTop { g with pc := g.pc + 1, stack := rest })) : Goes p e below P (T.setTop g) := by
  obtain ⟨cl, A1, S, -⟩ := id A
  obtain ⟨T', h', X', e', W, st⟩ := stB X hx hZ eT A1 (j := j) (by rw [S]; exact own_ix hj hi) hg hs hd
  rw [own_ixn hj] at X' W
  exact Goes.step st (k T' h' X' e' W (A.set W (fits_nar_byte x)))
theorem Goes.castore (X : Stand p l e R s m args below meth c T locs cells slots) (hx : p.tables.exec = Jvm.exec) (hZ : Z.Warmed39 s.vm) (eT : T.heap = h) (A : Afn Z h a .char n f) {j : Int32} {i : Nat} (hj : j.toInt = (i : Int)) (hi : i < n) {x : Int32} {g : JFrame} (hg : g.method = m) {rest : List Value} (hs : g.stack = .int x :: .int j :: .ref a :: rest) (hd : decode c.code g.pc = .ok (.castore, 1)) {P : State → Outcome → Prop}
    (k : ∀ T' h', Stand p l e R s m args below meth c T' (locs ++ [⟨a, i⟩]) cells slots → T'.heap = h' → Wr h h' a i (.int (nar .char x)) → Afn Z h' a .char n (fun z => if z = i then .int (nar .char x) else f z) → Goes p e below P (T'.setTop { g with pc := g.pc + 1, stack := rest })) : Goes p e below P (T.setTop g) := by
  obtain ⟨cl, A1, S, -⟩ := id A
  obtain ⟨T', h', X', e', W, st⟩ := stC X hx hZ eT A1 (j := j) (by rw [S]; exact own_ix hj hi) hg hs hd
  rw [own_ixn hj] at X' W
  exact Goes.step st (k T' h' X' e' W (A.set W (fits_nar_char x)))
theorem Goes.iaload (X : Stand p l e R s m args below meth c T locs cells slots) (hx : p.tables.exec = Jvm.exec) (hZ : Z.Warmed39 s.vm) (eT : T.heap = h) (A : Afn Z h a .int n f) {j : Int32} {i : Nat} (hj : j.toInt = (i : Int)) (hi : i < n) (hv : f i = v) {g : JFrame} (hg : g.method = m) {rest : List Value} (hs : g.stack = .int j :: .ref a :: rest) (hd : decode c.code g.pc = .ok (.iaload, 1)) {P : State → Outcome → Prop}
    (k : Goes p e below P (T.setTop { g with pc := g.pc + 1, stack := v :: rest })) : Goes p e below P (T.setTop g) := by
  obtain ⟨cl, A1, S, B, H, G⟩ := A
  exact Goes.step (fun tgt q => X.iaload hx (j := j) (v := v) (by rw [eT]; exact A1.1) (State.isArrayOf_alike hZ.alike A1.2.1) A1.2.2 (by rw [S]; exact own_ix hj hi) (by rw [own_ixn hj, ← hv]; exact H i hi) hg hs hd tgt q) k
theorem Goes.laload (X : Stand p l e R s m args below meth c T locs cells slots) (hx : p.tables.exec = Jvm.exec) (hZ : Z.Warmed39 s.vm) (eT : T.heap = h) (A : Afn Z h a .long n f) {j : Int32} {i : Nat} (hj : j.toInt = (i : Int)) (hi : i < n) (hv : f i = v) {g : JFrame} (hg : g.method = m) {rest : List Value} (hs : g.stack = .int j :: .ref a :: rest) (hd : decode c.code g.pc = .ok (.laload, 1)) {P : State → Outcome → Prop}
    (k : Goes p e below P (T.setTop { g with pc := g.pc + 1, stack := v :: rest })) : Goes p e below P (T.setTop g) := by
  obtain ⟨cl, A1, S, B, H, G⟩ := A
  exact Goes.step (fun tgt q => X.laload hx (j := j) (v := v) (by rw [eT]; exact A1.1) (State.isArrayOf_alike hZ.alike A1.2.1) A1.2.2 (by rw [S]; exact own_ix hj hi) (by rw [own_ixn hj, ← hv]; exact H i hi) hg hs hd tgt q) k
theorem Goes.baload (X : Stand p l e R s m args below meth c T locs cells slots) (hx : p.tables.exec = Jvm.exec) (hZ : Z.Warmed39 s.vm) (eT : T.heap = h) (A : Afn Z h a .byte n f) {j : Int32} {i : Nat} (hj : j.toInt = (i : Int)) (hi : i < n) (hv : f i = v) {g : JFrame} (hg : g.method = m) {rest : List Value} (hs : g.stack = .int j :: .ref a :: rest) (hd : decode c.code g.pc = .ok (.baload, 1)) {P : State → Outcome → Prop}
    (k : Goes p e below P (T.setTop { g with pc := g.pc + 1, stack := v :: rest })) : Goes p e below P (T.setTop g) := by
  obtain ⟨cl, A1, S, B, H, G⟩ := A
  exact Goes.step (fun tgt q => X.baloadBytes hx (j := j) (v := v) (by rw [eT]; exact A1.1) (State.isArrayOf_alike hZ.alike A1.2.1) A1.2.2 (by rw [S]; exact own_ix hj hi) (by rw [own_ixn hj, ← hv]; exact H i hi) hg hs hd tgt q) k
theorem Goes.caload (X : Stand p l e R s m args below meth c T locs cells slots) (hx : p.tables.exec = Jvm.exec) (hZ : Z.Warmed39 s.vm) (eT : T.heap = h) (A : Afn Z h a .char n f) {j : Int32} {i : Nat} (hj : j.toInt = (i : Int)) (hi : i < n) (hv : f i = v) {g : JFrame} (hg : g.method = m) {rest : List Value} (hs : g.stack = .int j :: .ref a :: rest) (hd : decode c.code g.pc = .ok (.caload, 1)) {P : State → Outcome → Prop}
    (k : Goes p e below P (T.setTop { g with pc := g.pc + 1, stack := v :: rest })) : Goes p e below P (T.setTop g) := by
  obtain ⟨cl, A1, S, B, H, G⟩ := A
  exact Goes.step (fun tgt q => X.caload hx (j := j) (v := v) (by rw [eT]; exact A1.1) (State.isArrayOf_alike hZ.alike A1.2.1) A1.2.2 (by rw [S]; exact own_ix hj hi) (by rw [own_ixn hj, ← hv]; exact H i hi) hg hs hd tgt q) k
theorem Goes.aaload {C : FieldType} (X : Stand p l e R s m args below meth c T locs cells slots) (hx : p.tables.exec = Jvm.exec) (hZ : Z.Warmed39 s.vm) (eT : T.heap = h) (A : Afn Z h a C n f) (hC : C.isReference = true) {j : Int32} {i : Nat} (hj : j.toInt = (i : Int)) (hi : i < n) (hv : f i = v) {g : JFrame} (hg : g.method = m) {rest : List Value} (hs : g.stack = .int j :: .ref a :: rest) (hd : decode c.code g.pc = .ok (.aaload, 1)) {P : State → Outcome → Prop}
    (k : Goes p e below P (T.setTop { g with pc := g.pc + 1, stack := v :: rest })) : Goes p e below P (T.setTop g) := by
  obtain ⟨cl, A1, S, B, H, G⟩ := A
  exact Goes.step (fun tgt q => X.aaload hx (j := j) (v := v) (by rw [eT]; exact A1.1) (State.isArrayOf_alike hZ.alike A1.2.1) hC A1.2.2 (by rw [S]; exact own_ix hj hi) (by rw [own_ixn hj, ← hv]; exact H i hi) hg hs hd tgt q) k
theorem Goes.alen (X : Stand p l e R s m args below meth c T locs cells slots) (hx : p.tables.exec = Jvm.exec) (hZ : Z.Warmed39 s.vm) (eT : T.heap = h) (A : Afn Z h a ty n f) {z : Int32} (hz : z.toInt = (n : Int)) {g : JFrame} (hg : g.method = m) {rest : List Value} (hs : g.stack = .ref a :: rest) (hd : decode c.code g.pc = .ok (.arraylength, 1)) {P : State → Outcome → Prop}
    (k : Goes p e below P (T.setTop { g with pc := g.pc + 1, stack := .int z :: rest })) : Goes p e below P (T.setTop g) := by
  obtain ⟨cl, A1, S, B, H, G⟩ := A
  have q : cl.slots.size.toInt32 = z := by rw [S, ← Int32.toInt_inj, hz]; exact len_toInt B
  exact Goes.step (fun tgt r => X.arraylength hx (by rw [eT]; exact A1.1) (State.isArrayOf_alike hZ.alike A1.2.1) hg hs hd tgt (by rw [q]; exact r)) k
theorem Goes.clone (X : Stand p l e R s m args below meth c T locs cells slots) (hx : p.tables.exec = Jvm.exec) (hZ : Z.Warmed39 s.vm) {own ad : String} {index : Nat} (hown : s.vm.findClass own = some m.cls)
    (w1 : (Jvm.Cond.methodLink own index ⟨ad, "clone", "()Ljava/lang/Object;"⟩).before a0 Z = true) (w2 : (Jvm.Cond.sameMethod ad "java/lang/Object" "clone" "()Ljava/lang/Object;").before a0 Z = true) (w3 : (Jvm.Cond.native ⟨"java/lang/Object", "clone", "()Ljava/lang/Object;"⟩).before a0 Z = true)
    (w4 : (Jvm.Cond.instanceMethod ⟨"java/lang/Object", "clone", "()Ljava/lang/Object;"⟩).before a0 Z = true) (w5 : (Jvm.Cond.selects ad ⟨ad, "clone", "()Ljava/lang/Object;"⟩ ⟨"java/lang/Object", "clone", "()Ljava/lang/Object;"⟩).before a0 Z = true) (w6 : (Jvm.Cond.castable ad "java/lang/Cloneable").before a0 Z = true)
    (eT : T.heap = h) (A : Afn Z h a ty n f) (E : Exa Z h a ad) {g : JFrame} (hg : g.method = m) (hsize : g.locals.size = c.maxLocals) {rest : List Value} (hs : g.stack = .ref a :: rest) (hd : decode c.code g.pc = .ok (.invokevirtual index, 3))
    (hf : 1 ≤ R.frames) {W cap : Nat} (hW : 2 * g.monitorRoom + (rest.map fun v => v.category).sum ≤ W) (hl : W + 14 ≤ R.locals) (hcap : n ≤ cap) (hc : cells + 1 ≤ R.cells) (hsl : slots + cap ≤ R.slots) {P : State → Outcome → Prop}
    (k : ∀ T' h' b, b = h.size → Stand p l e R s m args below meth c T' locs (cells + 1) (slots + cap) → T'.heap = h' → Ext h h' → Afn Z h' b ty n f → Exa Z h' b ad → Goes p e below P (T'.setTop { g with pc := g.pc + 3, stack := .ref b :: rest })) : Goes p e below P (T.setTop g) := by
  obtain ⟨cl, A1, S, B, H, G⟩ := id A
  have FC : FitC Z cl := fitC_of A1 fun i hi v hv => by
    rw [S] at hi
    rw [H i hi] at hv
    cases hv
    exact G i hi
  obtain ⟨T', h', X', e', ex, A', E', st⟩ := cloneA X hx hZ hown w1 w2 w3 w4 w5 w6 eT A1 E FC hg hsize hs hd hf hW hl (by rw [S]; exact hcap) hc hsl
  exact Goes.step st (k T' h' _ rfl X' e' ex ⟨cloneOf cl, A', S, B, H, G⟩ E')
theorem Goes.callP (X : Stand p l e R s m args below meth c T locs cells slots) (hx : p.tables.exec = Jvm.exec) (hZ : Z.Warmed39 s.vm) {own C0 C1 : String} {index : Nat} {y z : MethodName} {bytes : ByteArray} {maxL : Nat} {ret : Option FieldType} {rm : Room} {as : List Value} {Q : Option Value → Heap → List Loc → Prop} (hown : s.vm.findClass own = some m.cls)
    (w1 : (Jvm.Cond.methodLink own index y).before a0 Z = true) (w2 : (Jvm.Cond.instanceMethod y).before a0 Z = true) (w3 : (Jvm.Cond.privateMethod y).before a0 Z = true) (w4 : (Jvm.Cond.selects C0 z z).before a0 Z = true) (hz : z.cls = y.cls) (w5 : (Jvm.Cond.code y bytes maxL ret).before a0 Z = true) (w6 : (Jvm.Cond.initialized y.cls).before a0 Z = true) (hy : y.cls ≠ "java/lang/invoke/MethodHandle" ∧ y.cls ≠ "java/lang/invoke/VarHandle")
    (eT : T.heap = h) {b : Addr} (E : Exa Z h b C1) (hM : Con l Z y bytes maxL ret rm (.ref b :: as).toArray h Q) {W : Nat} (hf : rm.frames + 1 ≤ R.frames) (hl : W + (maxL + 11) + rm.locals ≤ R.locals) (hc : cells + rm.cells ≤ R.cells) (hs : slots + rm.slots ≤ R.slots)
    {g : JFrame} (hg : g.method = m) (hsize : g.locals.size = c.maxLocals) {rest : List Value} {ps : List FieldType} {r : Option FieldType} (hd : parseMethodDescriptor y.desc = some ⟨ps, r⟩) (hlen : as.length = ps.length) (hstack : g.stack = as.reverse ++ .ref b :: rest) (hW : 2 * g.monitorRoom + (rest.map fun v => v.category).sum ≤ W) (hdg : decode c.code g.pc = .ok (.invokevirtual index, 3))
    {P : State → Outcome → Prop} (k : ∀ v T' L, Stand p l e R s m args below meth c T' (locs ++ L) (cells + rm.cells) (slots + rm.slots) → Q v T'.heap L → Goes p e below P (T'.setTop { g with pc := g.pc + 3, stack := v.toList ++ rest })) :
    Goes p e below P (T.setTop g) := by
  have hpr := Cond.privateMethod_at (mvP hZ w3 (args := args))
  have hsel : (Jvm.Cond.selects y.cls y y).before args s = true := by
    obtain ⟨c2, r2, m2, -, -, q3, -, kP, hkP, hkPi⟩ := Cond.selects_spec (mvT (args := args) hZ w4)
    exact selects_self_of_private (hz ▸ findClass_of_methodNamed q3) hkP hkPi hpr (mvT hZ w2) hy
  obtain ⟨cell, hcell, hobj⟩ := E.cell
  obtain ⟨v, vm₁, ⟨T', L', k', n'⟩, -, X', ⟨L, hQ, l', y', z'⟩, st⟩ := X.privateBack hx (y := y) hown (mvT hZ w1) (mvT hZ w2) hsel hpr (mvT hZ w5) hy (backOf (W := W) (hM []) hZ w5 w6 hf hl) (g := g) hg hsize (Steps.refl _) (a := b) (by rw [eT]; exact hcell) hobj (argsL := as) (rest := rest) (lenOf hd hlen) hstack hW hdg (fun _ _ => ⟨rfl, eT, hc, hs⟩)
  try dsimp only at X' hQ l' y' z' st
  subst l' y' z'
  exact Goes.tr st (k v T' L X' hQ)
theorem Afn.of_arv {k : ClassId} {z : Int32} {vs : List Value} {d : Value} (F : Arv Z h a k ty z vs d) (q : z.toInt = (n : Int)) : Afn Z h a ty n (fun i => vs.getD i d) := by
  obtain ⟨c, A', -, S, q3, H, G⟩ := F
  rw [own_ixn q] at S
  refine ⟨c, A', S, ?_, fun i hi => H i (by rw [S]; exact hi), fun i hi => G i (by rw [S]; exact hi)⟩
  have := z.toInt_lt
  omega
theorem Afn.to_arv {z : Int32} {d : Value} (F : Afn Z h a ty n f) (q : z.toInt = (n : Int)) : ∃ k, Arv Z h a k ty z ((List.range n).map f) d := by
  obtain ⟨c, A, S, B, H, G⟩ := F
  have e : ∀ i, i < n → ((List.range n).map f).getD i d = f i := fun i hi => by simp [List.getD_eq_getElem?_getD, hi]
  refine ⟨c.cls, c, A, rfl, by rw [S, own_ixn q], by rw [Int32.lt_iff_toInt_lt, q]; simp only [Int32.reduceToInt]; omega, fun i hi => ?_, fun i hi => ?_⟩
  · rw [e i (S ▸ hi)]; exact H i (S ▸ hi)
  · rw [e i (S ▸ hi)]; exact G i (S ▸ hi)
theorem own_cp {n n' sp dp nn : Nat} {f g : Nat → Value} {d d' : Value} (h1 : sp + nn ≤ n) (h2 : dp + nn ≤ n') : ∀ i, i < n' →
    (((List.range n').map g).take dp ++ (List.range nn).map (fun i => ((List.range n).map f).getD (sp + i) d) ++ ((List.range n').map g).drop (dp + nn)).getD i d' = if dp ≤ i ∧ i < dp + nn then f (sp + (i - dp)) else g i := fun i hi => by
  have e : ∀ j, j < nn → ((List.range n).map f).getD (sp + j) d = f (sp + j) := fun j hj => by
    have hh : sp + j < n := by omega
    simp [List.getD_eq_getElem?_getD, hh]
  rw [List.getD_eq_getElem?_getD]
  by_cases q1 : i < dp
  · have q2 : ¬ (dp ≤ i ∧ i < dp + nn) := by omega
    rw [if_neg q2, List.append_assoc, List.getElem?_append_left (by simp; omega)]
    simp [List.getElem?_take, q1, hi]
  · by_cases q2 : i < dp + nn
    · rw [if_pos ⟨by omega, q2⟩, List.getElem?_append_left (by simp; omega), List.getElem?_append_right (by simp; omega)]
      have hl : (((List.range n').map g).take dp).length = dp := by simp; omega
      rw [hl, List.getElem?_map, List.getElem?_range (by omega : i - dp < nn)]
      simp only [Option.map_some, Option.getD_some]
      exact e _ (by omega)
    · rw [if_neg (by omega), List.getElem?_append_right (by simp; omega)]
      have hl : (((List.range n').map g).take dp ++ (List.range nn).map (fun i => ((List.range n).map f).getD (sp + i) d)).length = dp + nn := by simp; omega
      rw [hl, List.getElem?_drop, show dp + nn + (i - (dp + nn)) = i from by omega]
      simp [hi]
/-- System.arraycopy between two arrays of one primitive kind -/
theorem Goes.acopy {n' sp dp nn : Nat} {g' : Nat → Value} {z z' zs zd zn : Int32} (X : Stand p l e R s m args below meth c T locs cells slots) (hx : p.tables.exec = Jvm.exec) (hZ : Z.Warmed39 s.vm) {own : String} {index : Nat} (hown : s.vm.findClass own = some m.cls)
    (w1 : (Jvm.Cond.methodLink own index Jvm.Stand.acN).before a0 Z = true) (w2 : (Jvm.Cond.native Jvm.Stand.acN).before a0 Z = true) (w3 : (Jvm.Cond.static Jvm.Stand.acN).before a0 Z = true) (w4 : (Jvm.Cond.initialized "java/lang/System").before a0 Z = true) (eT : T.heap = h)
    (A : Afn Z h a ty n f) (B : Afn Z h b ty n' g') (hty : refKind ty = false) (hz : z.toInt = (n : Int)) (hz' : z'.toInt = (n' : Int)) (hzs : zs.toInt = (sp : Int)) (hzd : zd.toInt = (dp : Int)) (hzn : zn.toInt = (nn : Int)) (h4 : sp + nn ≤ n) (h5 : dp + nn ≤ n') {n0 : Nat} (N : Fr n0 locs) (ge : n0 ≤ b)
    {g : JFrame} (hg : g.method = m) (hsize : g.locals.size = c.maxLocals) {rest : List Value} (hs : g.stack = .int zn :: .int zd :: .ref b :: .int zs :: .ref a :: rest) (hd : decode c.code g.pc = .ok (.invokestatic index, 3))
    (hf : 1 ≤ R.frames) {W : Nat} (hW : 2 * g.monitorRoom + (rest.map fun v => v.category).sum ≤ W) (hlo : W + (nativeFrameWords "java/lang/System" "arraycopy" 5 + 11) ≤ R.locals) {P : State → Outcome → Prop}
    (k : ∀ T' h' L, Stand p l e R s m args below meth c T' L cells slots → T'.heap = h' → Fr n0 L → Keep h h' [b] → Afn Z h' b ty n' (fun i => if dp ≤ i ∧ i < dp + nn then f (sp + (i - dp)) else g' i) → Goes p e below P (T'.setTop { g with pc := g.pc + 3, stack := rest })) : Goes p e below P (T.setTop g) := by
  have ng : ∀ {x : Int32} {i : Nat}, x.toInt = (i : Int) → ¬ x < 0 := fun {x i} q => by rw [Int32.lt_iff_toInt_lt, q]; simp only [Int32.reduceToInt]; omega
  obtain ⟨k1, A'⟩ := A.to_arv (d := .null) hz
  obtain ⟨k2, B'⟩ := B.to_arv (d := .null) hz'
  obtain ⟨T', h', L, X', e', N', K, C, st⟩ := cpA X hx hZ hown w1 w2 w3 w4 eT A' B' (Or.inl ⟨rfl, hty⟩) (sp := zs) (dp := zd) (nn := zn) (ng hzs) (ng hzd) (ng hzn) (by rw [own_ixn hz, own_ixn hzs, own_ixn hzn]; exact h4) (by rw [own_ixn hz', own_ixn hzd, own_ixn hzn]; exact h5) rfl (by simp [own_ixn hzd, own_ixn hzn]; exact h5) N ge hg hsize hs hd hf hW hlo
  rw [own_ixn hzd, own_ixn hzn, own_ixn hzs] at C
  exact Goes.step st (k T' h' L X' e' N' K ((Afn.of_arv C hz').congr (own_cp h4 h5)))
theorem own_len {t : Term} {cl : Cell} {z : Int32} (ev : t.eval args Z none [] Z = some (.ref a)) (ha : Z.arrayAt? a = some cl) (q : (Term.length t).eval args Z none [] Z = some (.int z)) : cl.slots.size < 2 ^ 31 ∧ cl.slots.size.toInt32 = z := by
  by_cases hl : cl.slots.size < 2 ^ 31
  · rw [len_f ev ha hl] at q
    exact ⟨hl, Value.int.inj (Option.some.inj q)⟩
  · simp [Term.eval, ev, ha, hl] at q
theorem own_eqR {t u : Term} (hb : u.eval args Z none [] Z = some (.ref a)) (q : (Jvm.Cond.eq t u).value args Z none Z [] = some true) : t.eval args Z none [] Z = some (.ref a) := by
  obtain ⟨x, y, e1, e2, k1, k2⟩ := cmp_v (Or.inl q)
  cases hb.symm.trans e2
  have hx : x.isRef = true := k2.2
  have hh := gotT (eq_R e1 e2 hx rfl) q
  rw [e1, hh]
end OwnHeap
section OwnWide
variable {p : Program} {l : Launch} {e : Env} {R : Room} {s : State} {vm0 : Vm} {m : MethodId} {args : Array Value} {below : List Frame} {meth : Method} {c : Code} {T : State} {locs : List Loc} {cells slots : Nat} {Z : State} {a0 : Array Value} {h h' : Heap}
/-- it returned, what Q says, and the wide frame -/
def AimW (s : State) (Q : Option Value → Heap → List Loc → Prop) (k n : Nat) (s₂ : State) (o : Outcome) : Prop :=
  ∃ v L, o = .returned v ∧ Q v s₂.heap L ∧ ReturnedEndW s o s₂ L k n
theorem own_wmono {t : State} {o : Outcome} {L : List Loc} {k n k' n' : Nat} (w : ReturnedEndW s o t L k n) (hk : k ≤ k') (hn : n ≤ n') : ReturnedEndW s o t L k' n' := ⟨w.1, w.2.1, w.2.2.1, w.2.2.2.mono hk hn⟩
theorem Goes.retNW (X : Stand p l e R (s.setVm vm0) m args below meth c T locs cells slots) {k0 : Nat} (hS : s.Since (s.setVm vm0).vm k0) (hk0 : k0 ≤ T.heap.size) (hx : p.tables.exec = Jvm.exec) (hlk : meth.locks = false) {t : FieldType} (hret : meth.sig.returnType = some t) (ht : t = .boolean ∨ t = .byte ∨ t = .char ∨ t = .short) {pc : Nat} {Ls : Array Slot} {z : Int32} {rest : List Value}
    (hd : decode c.code pc = .ok (.ireturn, 1)) {Q : Option Value → Heap → List Loc → Prop} {k n : Nat} (hk : cells ≤ k) (hn : slots ≤ n) (hQ : Q (some (.int (nar t z))) T.heap locs) :
    Goes p e below (AimW s Q k n) (T.setTop (mkF m pc Ls (.int z :: rest))) := by
  obtain ⟨fs, hr, hrun, hended, hW⟩ := X.leaveW hS hk0 (v := some (.int (nar t z))) (fun h => by rw [hret] at h; cases h) hlk
  exact ⟨_, _, Jvm.RoadKit.retN X hx hret ht hd hr, hrun, hended, _, _, rfl, hQ, own_wmono hW hk hn⟩
theorem Goes.retW (X : Stand p l e R (s.setVm vm0) m args below meth c T locs cells slots) {k0 : Nat} (hS : s.Since (s.setVm vm0).vm k0) (hk0 : k0 ≤ T.heap.size) (hx : p.tables.exec = Jvm.exec) (hlk : meth.locks = false) {t : FieldType} (hret : meth.sig.returnType = some t) {w : Value} (hnr : narrow t w = w) {i : Instr} {pc : Nat} {Ls : Array Slot} {rest : List Value}
    (hi : (i = .ireturn ∧ (t = .int ∨ t = .boolean ∨ t = .byte ∨ t = .char ∨ t = .short) ∧ ∃ z, w = .int z) ∨ (i = .lreturn ∧ t = .long ∧ ∃ z, w = .long z) ∨ (i = .dreturn ∧ t = .double ∧ ∃ z, w = .double z) ∨ (i = .freturn ∧ t = .float ∧ ∃ z, w = .float z) ∨ (i = .areturn ∧ t.isReference = true ∧ w.isRef = true))
    (hd : decode c.code pc = .ok (i, 1)) {Q : Option Value → Heap → List Loc → Prop} {k n : Nat} (hk : cells ≤ k) (hn : slots ≤ n) (hQ : Q (some w) T.heap locs) :
    Goes p e below (AimW s Q k n) (T.setTop (mkF m pc Ls (w :: rest))) := by
  obtain ⟨fs, hr, hrun, hended, hW⟩ := X.leaveW hS hk0 (v := some w) (fun h => by rw [hret] at h; cases h) hlk
  exact ⟨_, _, Jvm.RoadKit.retOut X hx hret hnr hi hd hr, hrun, hended, _, _, rfl, hQ, own_wmono hW hk hn⟩
theorem Goes.ret0W (X : Stand p l e R (s.setVm vm0) m args below meth c T locs cells slots) {k0 : Nat} (hS : s.Since (s.setVm vm0).vm k0) (hk0 : k0 ≤ T.heap.size) (hx : p.tables.exec = Jvm.exec) (hlk : meth.locks = false) (hret : meth.sig.returnType = none) {pc : Nat} {Ls : Array Slot}
    (hd : decode c.code pc = .ok (.return_, 1)) {Q : Option Value → Heap → List Loc → Prop} {k n : Nat} (hk : cells ≤ k) (hn : slots ≤ n) (hQ : Q none T.heap locs) :
    Goes p e below (AimW s Q k n) (T.setTop (mkF m pc Ls [])) := by
  obtain ⟨fs, hr, hrun, hended, hW⟩ := X.leaveW hS hk0 (v := none) (fun _ => rfl) hlk
  exact ⟨_, _, X.returnOut hx hret hd hr, hrun, hended, _, _, rfl, hQ, own_wmono hW hk hn⟩
def ConW (l : Launch) (Z : State) (y : MethodName) (bytes : ByteArray) (maxL : Nat) (ret : Option FieldType) (rm : Room) (as : Array Value) (h0 : Heap) (Q : Option Value → Heap → List Loc → Prop) : Prop :=
  ∀ ws : List Jvm.Cond, MetFree l y (head1 (Jvm.Cond.code y bytes maxL ret :: ws) rm) (fun a U => a = as ∧ Z.Warmed39 U.vm ∧ U.heap = h0) (fun _ _ _ _ _ => True) (fun _ U o U' => ∃ v L, o = .returned v ∧ Q v U'.heap L ∧ ReturnedEndW U o U' L rm.cells rm.slots)
theorem ConW.body {y : MethodName} {bytes : ByteArray} {maxL : Nat} {ret : Option FieldType} {rm : Room} {as : Array Value} {h0 : Heap} {Q : Option Value → Heap → List Loc → Prop} (hp : plainFor y = true)
    (H : ∀ (p : Program) (e : Env) (s : State) (vm0 : Vm) (m : MethodId) (below : List Frame) (meth : Method) (c : Code) (s₁ : State), p.tables.exec = Jvm.exec → c.code = bytes → c.maxLocals = maxL → Z.Warmed39 (s.setVm vm0).vm → (s.setVm vm0).vm.findClass y.cls = some m.cls → meth.name = y.name → meth.sig.returnType = ret → meth.locks = false →
      Stand p l e rm (s.setVm vm0) m as below meth c s₁ [] 0 0 → s₁.heap = h0 → s.Since (s.setVm vm0).vm h0.size → Goes p e below (AimW s Q rm.cells rm.slots) (s₁.setTop (entryFrame m as maxL))) :
    ConW l Z y bytes maxL ret rm as h0 Q := by
  intro ws
  refine MetFree.of_bodySF hp hisR ?_
  intro p e s m args below meth c s₁ Bd hml0 hP hK
  obtain ⟨rfl, hZ, hh⟩ := hP
  exact H p e s s.vm m below meth c s₁ Bd.exec Bd.bytes hml0 hZ (findClass_of_methodNamed Bd.named) (name_of_methodNamed Bd.named Bd.method).1 Bd.returns Bd.notSynchronized (Stand.of_body Bd) (by rw [← hh, Bd.state]; rfl) ((State.WarmedH.refl s).since _)
theorem Goes.ldcS (X : Stand p l e R (s.setVm vm0) m args below meth c T locs cells slots) (hx : p.tables.exec = Jvm.exec) (hZ : Z.Warmed39 (s.setVm vm0).vm) {own text : String} {index : Nat} (hown : (s.setVm vm0).vm.findClass own = some m.cls) (w : (Jvm.Cond.stringLink own index text).before a0 Z = true) (wS : ∀ a ∈ Bundle.stringAtoms, a.before a0 Z = true)
    (eT : T.heap = h) {k0 : Nat} (hS : s.Since (s.setVm vm0).vm k0) (hk : k0 ≤ h.size) {g : JFrame} (hg : g.method = m) (hd : decode c.code g.pc = .ok (.ldc index, 2)) {n : Nat} (hn : 4 * text.toList.length ≤ n) (hbig : n ≤ 536870912) (hc : cells + 2 ≤ R.cells) (hl : slots + (n + 4) ≤ R.slots) {P : State → Outcome → Prop}
    (k : ∀ (a : Addr) (T' : State) (h' : Heap) (k1 : Nat), Stand p l e R (s.setVm T'.vm) m args below meth c T' locs (cells + 2) (slots + (n + 4)) → T'.heap = h' → Ext h h' → s.Since (s.setVm T'.vm).vm k1 → k1 ≤ h'.size → Z.Warmed39 (s.setVm T'.vm).vm → (s.setVm T'.vm).vm.findClass own = some m.cls →
      Goes p e below P (T'.setTop { g with pc := g.pc + 2, stack := .ref a :: g.stack })) : Goes p e below P (T.setTop g) := by
  obtain ⟨a, T', h', k1, X', e', E, hS', hk', hZ', hown', st⟩ := Jvm.RoadKit.ldcS X hx hZ hown w wS eT hS hk hg hd hn hbig hc hl
  exact Goes.step st (k a T' h' k1 X' e' E hS' hk' hZ' hown')
/-- what a wide callee leaves: the start is re-based -/
def Rebased (p : Program) (l : Launch) (e : Env) (R : Room) (s : State) (m : MethodId) (args : Array Value) (below : List Frame) (meth : Method) (c : Code) (T' : State) (locs : List Loc) (cells slots : Nat) (Z : State) (own : String) : Prop :=
  Stand p l e R (s.setVm T'.vm) m args below meth c T' locs cells slots ∧ s.Since (s.setVm T'.vm).vm T'.heap.size ∧ Z.Warmed39 (s.setVm T'.vm).vm ∧ (s.setVm T'.vm).vm.findClass own = some m.cls
theorem own_rebase {T' : State} {L : List Loc} {k n k0 : Nat} {own : String} (hZ : Z.Warmed39 (s.setVm vm0).vm) (hown : (s.setVm vm0).vm.findClass own = some m.cls) (hS : s.Since (s.setVm vm0).vm k0) (hk : k0 ≤ T.heap.size)
    (X' : Stand p l e R ((s.setVm vm0).setVm T'.vm) m args below meth c T' L k n) (h2 : (s.setVm vm0).Since T'.vm T'.heap.size) (g : T.heap.size ≤ T'.heap.size) : Rebased p l e R s m args below meth c T' L k n Z own :=
  ⟨X', foldS (T := T) hS hk h2 g, State.Warmed39.trans (t := s.setVm vm0) hZ h2.1, by rw [show (s.setVm T'.vm).vm = T'.vm from rfl, h2.1.alike.findClass]; exact hown⟩
theorem Goes.callSW (X : Stand p l e R (s.setVm vm0) m args below meth c T locs cells slots) (hx : p.tables.exec = Jvm.exec) (hZ : Z.Warmed39 (s.setVm vm0).vm) {own : String} {index : Nat} {y : MethodName} {bytes : ByteArray} {maxL : Nat} {ret : Option FieldType} {rm : Room} {as : List Value} {Q : Option Value → Heap → List Loc → Prop} (hown : (s.setVm vm0).vm.findClass own = some m.cls)
    (w1 : (Jvm.Cond.methodLink own index y).before a0 Z = true) (w2 : (Jvm.Cond.static y).before a0 Z = true) (w3 : (Jvm.Cond.initialized y.cls).before a0 Z = true) (w4 : (Jvm.Cond.code y bytes maxL ret).before a0 Z = true) (hy : y.cls ≠ "java/lang/invoke/MethodHandle" ∧ y.cls ≠ "java/lang/invoke/VarHandle")
    (eT : T.heap = h) {k0 : Nat} (hS : s.Since (s.setVm vm0).vm k0) (hk : k0 ≤ h.size) (hM : ConW l Z y bytes maxL ret rm as.toArray h Q) {W : Nat} (hf : rm.frames + 1 ≤ R.frames) (hl : W + (maxL + 11) + rm.locals ≤ R.locals) (hc : cells + rm.cells ≤ R.cells) (hs : slots + rm.slots ≤ R.slots)
    {g : JFrame} (hg : g.method = m) (hsize : g.locals.size = c.maxLocals) {rest : List Value} {ps : List FieldType} {r : Option FieldType} (hd : parseMethodDescriptor y.desc = some ⟨ps, r⟩) (hlen : as.length = ps.length) (hstack : g.stack = as.reverse ++ rest) (hW : 2 * g.monitorRoom + (rest.map fun v => v.category).sum ≤ W) (hdg : decode c.code g.pc = .ok (.invokestatic index, 3))
    {P : State → Outcome → Prop} (k : ∀ v T' L, Rebased p l e R s m args below meth c T' (locs ++ L) (cells + rm.cells) (slots + rm.slots) Z own → h.size ≤ T'.heap.size → Q v T'.heap L → Goes p e below P (T'.setTop { g with pc := g.pc + 3, stack := v.toList ++ rest })) :
    Goes p e below P (T.setTop g) := by
  obtain ⟨v, vm₁, ⟨T', L', k', n'⟩, -, X', hS', hgr, ⟨L, hQ, l', y', z'⟩, st⟩ := callSS X hx hown (mvT hZ w1) (mvT hZ w2) (mvT hZ w3) (mvT hZ w4) hy (backOfS (W := W) (hM []) hZ w4 w3 hf hl) (g := g) hg hsize (argsL := as) (rest := rest) (lenOf hd hlen) hstack hW hdg (fun _ _ => ⟨rfl, eT, hc, hs⟩)
  try dsimp only at X' hS' hgr hQ l' y' z' st
  subst l' y' z'
  exact Goes.tr st (k v T' L (own_rebase hZ hown hS (by rw [eT]; exact hk) X' hS' hgr) (by rw [← eT]; exact hgr) hQ)
theorem Goes.callIW (X : Stand p l e R (s.setVm vm0) m args below meth c T locs cells slots) (hx : p.tables.exec = Jvm.exec) (hZ : Z.Warmed39 (s.setVm vm0).vm) {own : String} {index : Nat} {y : MethodName} {bytes : ByteArray} {maxL : Nat} {rm : Room} {as : List Value} {Q : Option Value → Heap → List Loc → Prop} (hy1 : y.name = "<init>") (hown : (s.setVm vm0).vm.findClass own = some m.cls)
    (w1 : (Jvm.Cond.methodLink own index y).before a0 Z = true) (w2 : (Jvm.Cond.instanceMethod y).before a0 Z = true) (w3 : (Jvm.Cond.code y bytes maxL none).before a0 Z = true) (w4 : (Jvm.Cond.initialized y.cls).before a0 Z = true) (hy : y.cls ≠ "java/lang/invoke/MethodHandle" ∧ y.cls ≠ "java/lang/invoke/VarHandle")
    (eT : T.heap = h) {k0 : Nat} (hS : s.Since (s.setVm vm0).vm k0) (hk : k0 ≤ h.size) {b : Addr} (hM : ConW l Z y bytes maxL none rm (.ref b :: as).toArray h Q) {W : Nat} (hf : rm.frames + 1 ≤ R.frames) (hl : W + (maxL + 11) + rm.locals ≤ R.locals) (hc : cells + rm.cells ≤ R.cells) (hs : slots + rm.slots ≤ R.slots)
    {g : JFrame} (hg : g.method = m) (hsize : g.locals.size = c.maxLocals) {rest : List Value} {ps : List FieldType} {r : Option FieldType} (hd : parseMethodDescriptor y.desc = some ⟨ps, r⟩) (hlen : as.length = ps.length) (hstack : g.stack = as.reverse ++ .ref b :: rest) (hW : 2 * g.monitorRoom + (rest.map fun v => v.category).sum ≤ W) (hdg : decode c.code g.pc = .ok (.invokespecial index, 3))
    {P : State → Outcome → Prop} (k : ∀ v T' L, Rebased p l e R s m args below meth c T' (locs ++ L) (cells + rm.cells) (slots + rm.slots) Z own → h.size ≤ T'.heap.size → Q v T'.heap L → Goes p e below P (T'.setTop { g with pc := g.pc + 3, stack := v.toList ++ rest })) :
    Goes p e below P (T.setTop g) := by
  obtain ⟨v, vm₁, ⟨T', L', k', n'⟩, -, X', hS', hgr, ⟨L, hQ, l', y', z'⟩, st⟩ := X.specialBackS hx (y := y) hy1 hown (mvT hZ w1) (mvT hZ w2) (mvT hZ w3) hy (backOfS (W := W) (hM []) hZ w3 w4 hf hl) (g := g) hg hsize (Steps.refl _) (a := b) (argsL := as) (rest := rest) (lenOf hd hlen) hstack hW hdg (fun _ _ => ⟨rfl, eT, hc, hs⟩)
  try dsimp only at X' hS' hgr hQ l' y' z' st
  subst l' y' z'
  exact Goes.tr st (k v T' L (own_rebase hZ hown hS (by rw [eT]; exact hk) X' hS' hgr) (by rw [← eT]; exact hgr) hQ)
theorem Goes.callVW (X : Stand p l e R (s.setVm vm0) m args below meth c T locs cells slots) (hx : p.tables.exec = Jvm.exec) (hZ : Z.Warmed39 (s.setVm vm0).vm) {own C : String} {index : Nat} {y z : MethodName} {bytes : ByteArray} {maxL : Nat} {ret : Option FieldType} {rm : Room} {as : List Value} {Q : Option Value → Heap → List Loc → Prop} (hown : (s.setVm vm0).vm.findClass own = some m.cls)
    (w1 : (Jvm.Cond.methodLink own index y).before a0 Z = true) (w2 : (Jvm.Cond.declares y).before a0 Z = true) (hnf : NotFace (s.setVm vm0) y) (w3 : (Jvm.Cond.selects C y z).before a0 Z = true) (w4 : (Jvm.Cond.instanceMethod z).before a0 Z = true) (w5 : (Jvm.Cond.code z bytes maxL ret).before a0 Z = true) (w6 : (Jvm.Cond.initialized z.cls).before a0 Z = true) (hy : y.cls ≠ "java/lang/invoke/MethodHandle" ∧ y.cls ≠ "java/lang/invoke/VarHandle")
    (eT : T.heap = h) {k0 : Nat} (hS : s.Since (s.setVm vm0).vm k0) (hk : k0 ≤ h.size) {b : Addr} (E : Exa Z h b C) (hM : ConW l Z z bytes maxL ret rm (.ref b :: as).toArray h Q) {W : Nat} (hf : rm.frames + 1 ≤ R.frames) (hl : W + (maxL + 11) + rm.locals ≤ R.locals) (hc : cells + rm.cells ≤ R.cells) (hs : slots + rm.slots ≤ R.slots)
    {g : JFrame} (hg : g.method = m) (hsize : g.locals.size = c.maxLocals) {rest : List Value} {ps : List FieldType} {r : Option FieldType} (hd : parseMethodDescriptor y.desc = some ⟨ps, r⟩) (hlen : as.length = ps.length) (hstack : g.stack = as.reverse ++ .ref b :: rest) (hW : 2 * g.monitorRoom + (rest.map fun v => v.category).sum ≤ W) (hdg : decode c.code g.pc = .ok (.invokevirtual index, 3))
    {P : State → Outcome → Prop} (k : ∀ v T' L, Rebased p l e R s m args below meth c T' (locs ++ L) (cells + rm.cells) (slots + rm.slots) Z own → h.size ≤ T'.heap.size → Q v T'.heap L → Goes p e below P (T'.setTop { g with pc := g.pc + 3, stack := v.toList ++ rest })) :
    Goes p e below P (T.setTop g) := by
  obtain ⟨cB, kB, q1, -, q3⟩ := isOf hZ eT E
  obtain ⟨v, vm₁, ⟨T', L', k', n'⟩, -, X', hS', hgr, ⟨L, hQ, l', y', z'⟩, st⟩ := X.virtualBackS hx (y := y) (z := z) hown (mvT hZ w1) (mvT hZ w2) hnf (mvT hZ w3) (mvT hZ w4) hy (backOfS (W := W) (hM []) hZ w5 w6 hf hl) q1 q3 (g := g) hg hsize (Steps.refl _) (argsL := as) (rest := rest) (lenOf hd hlen) hstack hW hdg (fun _ _ => ⟨rfl, eT, hc, hs⟩)
  try dsimp only at X' hS' hgr hQ l' y' z' st
  subst l' y' z'
  exact Goes.tr st (k v T' L (own_rebase hZ hown hS (by rw [eT]; exact hk) X' hS' hgr) (by rw [← eT]; exact hgr) hQ)
/-- the law's own contract: it starts in Z itself -/
def ConZ (l : Launch) (Z : State) (y : MethodName) (bytes : ByteArray) (maxL : Nat) (ret : Option FieldType) (rm : Room) (as : Array Value) (h0 : Heap) (Q : Option Value → Heap → List Loc → Prop) : Prop :=
  ∀ ws : List Jvm.Cond, MetFree l y (head1 (Jvm.Cond.code y bytes maxL ret :: ws) rm) (fun a U => a = as ∧ U = Z) (fun _ _ _ _ _ => True) (fun _ U o U' => ∃ v L, o = .returned v ∧ Q v U'.heap L ∧ ReturnedEndW U o U' L rm.cells rm.slots)
theorem ConZ.body {y : MethodName} {bytes : ByteArray} {maxL : Nat} {ret : Option FieldType} {rm : Room} {as : Array Value} {h0 : Heap} {Q : Option Value → Heap → List Loc → Prop} (hp : plainFor y = true) (hh0 : h0 = Z.heap)
    (H : ∀ (p : Program) (e : Env) (s : State) (vm0 : Vm) (m : MethodId) (below : List Frame) (meth : Method) (c : Code) (s₁ : State), p.tables.exec = Jvm.exec → c.code = bytes → c.maxLocals = maxL → Z.Warmed39 (s.setVm vm0).vm → (s.setVm vm0).vm.findClass y.cls = some m.cls → meth.name = y.name → meth.sig.returnType = ret → meth.locks = false →
      Stand p l e rm (s.setVm vm0) m as below meth c s₁ [] 0 0 → s₁.heap = h0 → s.Since (s.setVm vm0).vm h0.size → s.heap = Z.heap → IB Z (s.setVm vm0).vm [] → Goes p e below (AimW s Q rm.cells rm.slots) (s₁.setTop (entryFrame m as maxL))) :
    ConZ l Z y bytes maxL ret rm as h0 Q := by
  intro ws
  refine MetFree.of_bodySF hp hisR ?_
  intro p e s m args below meth c s₁ Bd hml0 hP hK
  obtain ⟨rfl, rfl⟩ := hP
  exact H p e s s.vm m below meth c s₁ Bd.exec Bd.bytes hml0 (State.Warmed39.refl s) (findClass_of_methodNamed Bd.named) (name_of_methodNamed Bd.named Bd.method).1 Bd.returns Bd.notSynchronized (Stand.of_body Bd) (by rw [hh0, Bd.state]; rfl) ((State.WarmedH.refl s).since _) rfl IB.start
theorem Goes.ldcSV (X : Stand p l e R (s.setVm vm0) m args below meth c T locs cells slots) (hx : p.tables.exec = Jvm.exec) (hZ : Z.Warmed39 (s.setVm vm0).vm) {own text : String} {index : Nat} (hown : (s.setVm vm0).vm.findClass own = some m.cls) (w : (Jvm.Cond.stringLink own index text).before a0 Z = true) (wS : ∀ a ∈ Bundle.stringAtoms, a.before a0 Z = true)
    (eT : T.heap = h) {k0 : Nat} (hS : s.Since (s.setVm vm0).vm k0) (hk : k0 ≤ h.size) (hsz : s.heap = Z.heap) (N : Fr Z.heap.size locs) (I : IB Z (s.setVm vm0).vm []) (hh : Jvm.Lit.constHeld Z own index) (hcw : Jvm.Lit.compactW.before a0 Z = true)
    {vs : List Value} {z : Int32} {nl : Nat} (ht : (∀ c ∈ text.toList, c.toNat < 256) ∧ text.toList.map (fun c => Value.int (Jvm.Lit.byteI c.toNat.toUInt16)) = vs) (hz : z.toInt = (nl : Int)) (hl : nl = vs.length)
    {g : JFrame} (hg : g.method = m) (hd : decode c.code g.pc = .ok (.ldc index, 2)) {n : Nat} (hn : 4 * text.toList.length ≤ n) (hbig : n ≤ 536870912) (hc : cells + 2 ≤ R.cells) (hl' : slots + (n + 4) ≤ R.slots) {P : State → Outcome → Prop}
    (k : ∀ (a : Addr) (T' : State) (h' : Heap) (k1 : Nat) (b : Addr), Stand p l e R (s.setVm T'.vm) m args below meth c T' locs (cells + 2) (slots + (n + 4)) → T'.heap = h' → Ext h h' → s.Since (s.setVm T'.vm).vm k1 → k1 ≤ h'.size → Z.Warmed39 (s.setVm T'.vm).vm → (s.setVm T'.vm).vm.findClass own = some m.cls →
      Exa Z h' a "java/lang/String" → Fld Z h' a "java/lang/String" "coder" "B" (.int 0) → Fld Z h' a "java/lang/String" "value" "[B" (.ref b) → Afn Z h' b .byte nl (fun i => vs.getD i (.int 0)) →
      Goes p e below P (T'.setTop { g with pc := g.pc + 2, stack := .ref a :: g.stack })) : Goes p e below P (T.setTop g) := by
  obtain ⟨a, T', h', k1, b, kc, X', e', E, hS', hk', hZ', hown', M, Fc, Fv, A, -, -, -, st⟩ := Jvm.RoadKit.ldcSV X hx hZ hown w wS eT hS hk (by rw [hsz]; exact N) (fun b cl q => by rw [hsz]; exact q) I (by simp) hh hcw ht (z := z) (by rw [Int32.lt_iff_toInt_lt, hz]; simp only [Int32.reduceToInt]; omega) (by rw [own_ixn hz]; exact hl) hg hd hn hbig hc hl'
  exact Goes.step st (k a T' h' k1 b X' e' E hS' hk' hZ' hown' M Fc Fv (Afn.of_arv A hz))
end OwnWide
theorem own_d1_0 : decode prog_5_method_4_code 0 = .ok (.iload_n 0, 1) := by decide +kernel
theorem own_d1_1 : decode prog_5_method_4_code 1 = .ok (.bipush 48, 2) := by decide +kernel
theorem own_d1_3 : decode prog_5_method_4_code 3 = .ok (.if_icmp .lt 13, 3) := by decide +kernel
theorem own_d1_16 : decode prog_5_method_4_code 16 = .ok (.iconst 0, 1) := by decide +kernel
theorem own_d1_17 : decode prog_5_method_4_code 17 = .ok (.ireturn, 1) := by decide +kernel
theorem own_d1_6 : decode prog_5_method_4_code 6 = .ok (.iload_n 0, 1) := by decide +kernel
theorem own_d1_7 : decode prog_5_method_4_code 7 = .ok (.bipush 57, 2) := by decide +kernel
theorem own_d1_9 : decode prog_5_method_4_code 9 = .ok (.if_icmp .gt 7, 3) := by decide +kernel
theorem own_d1_12 : decode prog_5_method_4_code 12 = .ok (.iconst 1, 1) := by decide +kernel
theorem own_d1_13 : decode prog_5_method_4_code 13 = .ok (.goto 4, 3) := by decide +kernel
theorem own_d6_0 : decode jdk_41_method_11_code 0 = .ok (.iload_n 0, 1) := by decide +kernel
theorem own_d6_1 : decode jdk_41_method_11_code 1 = .ok (.ifCond .lt 8, 3) := by decide +kernel
theorem own_d6_4 : decode jdk_41_method_11_code 4 = .ok (.iload_n 0, 1) := by decide +kernel
theorem own_d6_5 : decode jdk_41_method_11_code 5 = .ok (.iload_n 1, 1) := by decide +kernel
theorem own_d6_6 : decode jdk_41_method_11_code 6 = .ok (.if_icmp .lt 10, 3) := by decide +kernel
theorem own_d6_16 : decode jdk_41_method_11_code 16 = .ok (.iload_n 0, 1) := by decide +kernel
theorem own_d6_17 : decode jdk_41_method_11_code 17 = .ok (.ireturn, 1) := by decide +kernel
theorem own_d5_0 : decode jdk_42_method_155_code 0 = .ok (.iload_n 0, 1) := by decide +kernel
theorem own_d5_1 : decode jdk_42_method_155_code 1 = .ok (.iload_n 1, 1) := by decide +kernel
theorem own_d5_2 : decode jdk_42_method_155_code 2 = .ok (.getstatic 1053, 3) := by decide +kernel
theorem own_d5_5 : decode jdk_42_method_155_code 5 = .ok (.invokestatic 1059, 3) := by decide +kernel
theorem own_d5_8 : decode jdk_42_method_155_code 8 = .ok (.pop, 1) := by decide +kernel
theorem own_d5_9 : decode jdk_42_method_155_code 9 = .ok (.return_, 1) := by decide +kernel
theorem own_d4_0 : decode jdk_43_method_2_code 0 = .ok (.iload_n 1, 1) := by decide +kernel
theorem own_d4_1 : decode jdk_43_method_2_code 1 = .ok (.aload_n 0, 1) := by decide +kernel
theorem own_d4_2 : decode jdk_43_method_2_code 2 = .ok (.arraylength, 1) := by decide +kernel
theorem own_d4_3 : decode jdk_43_method_2_code 3 = .ok (.invokestatic 9, 3) := by decide +kernel
theorem own_d4_6 : decode jdk_43_method_2_code 6 = .ok (.aload_n 0, 1) := by decide +kernel
theorem own_d4_7 : decode jdk_43_method_2_code 7 = .ok (.iload_n 1, 1) := by decide +kernel
theorem own_d4_8 : decode jdk_43_method_2_code 8 = .ok (.baload, 1) := by decide +kernel
theorem own_d4_9 : decode jdk_43_method_2_code 9 = .ok (.sipush 255, 3) := by decide +kernel
theorem own_d4_12 : decode jdk_43_method_2_code 12 = .ok (.iand, 1) := by decide +kernel
theorem own_d4_13 : decode jdk_43_method_2_code 13 = .ok (.i2c, 1) := by decide +kernel
theorem own_d4_14 : decode jdk_43_method_2_code 14 = .ok (.ireturn, 1) := by decide +kernel
theorem own_d3_0 : decode jdk_42_method_154_code 0 = .ok (.getstatic 38, 3) := by decide +kernel
theorem own_d3_3 : decode jdk_42_method_154_code 3 = .ok (.ifCond .eq 14, 3) := by decide +kernel
theorem own_d3_6 : decode jdk_42_method_154_code 6 = .ok (.aload_n 0, 1) := by decide +kernel
theorem own_d3_7 : decode jdk_42_method_154_code 7 = .ok (.getfield 15, 3) := by decide +kernel
theorem own_d3_10 : decode jdk_42_method_154_code 10 = .ok (.ifCond .ne 7, 3) := by decide +kernel
theorem own_d3_13 : decode jdk_42_method_154_code 13 = .ok (.iconst 1, 1) := by decide +kernel
theorem own_d3_14 : decode jdk_42_method_154_code 14 = .ok (.goto 4, 3) := by decide +kernel
theorem own_d3_18 : decode jdk_42_method_154_code 18 = .ok (.ireturn, 1) := by decide +kernel
theorem own_d2_0 : decode jdk_42_method_56_code 0 = .ok (.aload_n 0, 1) := by decide +kernel
theorem own_d2_1 : decode jdk_42_method_56_code 1 = .ok (.invokevirtual 492, 3) := by decide +kernel
theorem own_d2_4 : decode jdk_42_method_56_code 4 = .ok (.ifCond .eq 12, 3) := by decide +kernel
theorem own_d2_7 : decode jdk_42_method_56_code 7 = .ok (.aload_n 0, 1) := by decide +kernel
theorem own_d2_8 : decode jdk_42_method_56_code 8 = .ok (.getfield 9, 3) := by decide +kernel
theorem own_d2_11 : decode jdk_42_method_56_code 11 = .ok (.iload_n 1, 1) := by decide +kernel
theorem own_d2_12 : decode jdk_42_method_56_code 12 = .ok (.invokestatic 495, 3) := by decide +kernel
theorem own_d2_15 : decode jdk_42_method_56_code 15 = .ok (.ireturn, 1) := by decide +kernel
theorem own_pd0 : parseMethodDescriptor "(IILjava/util/function/BiFunction;)I" = some ⟨[.int, .int, (.object "java/util/function/BiFunction")], some .int⟩ := by decide +kernel
theorem own_pd1 : parseMethodDescriptor "(II)V" = some ⟨[.int, .int], none⟩ := by decide +kernel
theorem own_pd2 : parseMethodDescriptor "()Z" = some ⟨[], some .boolean⟩ := by decide +kernel
theorem own_pd3 : parseMethodDescriptor "([BI)C" = some ⟨[(.array .byte), .int], some .char⟩ := by decide +kernel
theorem own_pd4 : parseMethodDescriptor "(I)Z" = some ⟨[.int], some .boolean⟩ := by decide +kernel
theorem own_pd5 : parseMethodDescriptor "(I)C" = some ⟨[.int], some .char⟩ := by decide +kernel
theorem own_pn0 : plainName "com/example/cicada/cicada/engine/Decimal" = true := by first | (simp [plainName, overriddenIn]; done) | decide +kernel
theorem own_pn1 : plainName "jdk/internal/util/Preconditions" = true := by first | (simp [plainName, overriddenIn]; done) | decide +kernel
theorem own_pn2 : plainName "java/lang/String" = true := by first | (simp [plainName, overriddenIn]; done) | decide +kernel
theorem own_pn3 : plainName "java/lang/StringLatin1" = true := by first | (simp [plainName, overriddenIn]; done) | decide +kernel
theorem own_pn4 : plainName "com/example/cicada/cicada/engine/DecimalIsDigitPinLaw" = true := by first | (simp [plainName, overriddenIn]; done) | decide +kernel
theorem own_wS {Z : State} {a0 : Array Value} (hw : ∀ d ∈ tables_1, d.before a0 Z = true) : ∀ a ∈ Bundle.stringAtoms, a.before a0 Z = true := by
  intro a ha
  simp only [Bundle.stringAtoms, List.mem_cons, List.not_mem_nil, or_false] at ha
  rcases ha with rfl | rfl | rfl | rfl | rfl | rfl | rfl
  · exact hw _ (List.mem_of_getElem? (i := 6) rfl)
  · exact hw _ (List.mem_of_getElem? (i := 7) rfl)
  · exact hw _ (List.mem_of_getElem? (i := 8) rfl)
  · exact hw _ (List.mem_of_getElem? (i := 9) rfl)
  · exact hw _ (List.mem_of_getElem? (i := 10) rfl)
  · exact hw _ (List.mem_of_getElem? (i := 11) rfl)
  · exact hw _ (List.mem_of_getElem? (i := 12) rfl)
def own_v_dig (p1 : Int32) : Int32 := (if p1 < (48 : Int32) then (0 : Int32) else (if (57 : Int32) < p1 then (0 : Int32) else (1 : Int32)))
set_option maxRecDepth 65536 in
set_option maxHeartbeats 40000000 in
theorem rm_dig (l : Launch) (Z : State) (a0 : Array Value) (hw : ∀ d ∈ tables_1, d.before a0 Z = true) (p1 : Int32) (h0 : Heap) (n0 : Nat) (Z0 : n0 ≤ h0.size) :
    Con l Z (⟨"com/example/cicada/cicada/engine/Decimal", "isDigit", "(I)Z"⟩ : MethodName) prog_5_method_4_code 1 (some .boolean) ({ frames := 0, cells := 0, slots := 0, locals := 0 } : Room) #[(.int p1)] h0 (fun v h L => v = some (.int (own_v_dig p1)) ∧ Fr n0 L ∧ h = h0) := by
  refine Con.body (plainFor_of_name own_pn0) ?_
  intro pP eE sS mM bB mT cC s₁ hx hby hml hZ hown hnm hret hlk X0 e0
  have hown : sS.vm.findClass "com/example/cicada/cicada/engine/Decimal" = some mM.cls := hown
  have hml : cC.maxLocals = 1 := hml
  have N0 := Fr.nil n0
  have ef : entryFrame mM #[(.int p1)] 1 = mkF mM 0 #[.val (.int p1)] [] := by first | (simp [entryFrame, mkF, argsToLocals, Value.category]; done) | rfl
  rw [ef]
  show Goes pP eE bB _ (s₁.setTop (mkF mM 0 #[.val (.int p1)] []))
  refine Goes.step (fun _ kK => XS.iloadN X0.here hx rfl (hb hby own_d1_0) rfl kK) ?_
  show Goes pP eE bB _ (s₁.setTop (mkF mM 1 #[.val (.int p1)] [(.int p1)]))
  refine Goes.step (fun _ kK => XS.bipush X0.here hx rfl (hb hby own_d1_1) kK) ?_
  show Goes pP eE bB _ (s₁.setTop (mkF mM 3 #[.val (.int p1)] [(.int (48 : Int32)), (.int p1)]))
  by_cases hc_1 : p1 < (48 : Int32)
  · refine Goes.step (fun _ kK => XS.icmpYes X0.here hx rfl (pc0 := 3) (pc' := 16) rfl (hb hby own_d1_3) rfl (tlt hc_1).1 (by decide) (by decide) kK) ?_
    show Goes pP eE bB _ (s₁.setTop (mkF mM 16 #[.val (.int p1)] []))
    refine Goes.step (fun _ kK => XS.iconst X0.here hx rfl (hb hby own_d1_16) kK) ?_
    show Goes pP eE bB _ (s₁.setTop (mkF mM 17 #[.val (.int p1)] [(.int (0 : Int32))]))
    refine Goes.retN X0 hx hlk (t := .boolean) hret (by simp) (hb hby own_d1_17) (by decide) (by decide) ?_
    exact ⟨by rw [own_v_dig, if_pos hc_1] <;> rfl, N0, e0⟩
  · refine Goes.step (fun _ kK => XS.icmpNo X0.here hx rfl (hb hby own_d1_3) rfl (flt hc_1).1 kK) ?_
    show Goes pP eE bB _ (s₁.setTop (mkF mM 6 #[.val (.int p1)] []))
    refine Goes.step (fun _ kK => XS.iloadN X0.here hx rfl (hb hby own_d1_6) rfl kK) ?_
    show Goes pP eE bB _ (s₁.setTop (mkF mM 7 #[.val (.int p1)] [(.int p1)]))
    refine Goes.step (fun _ kK => XS.bipush X0.here hx rfl (hb hby own_d1_7) kK) ?_
    show Goes pP eE bB _ (s₁.setTop (mkF mM 9 #[.val (.int p1)] [(.int (57 : Int32)), (.int p1)]))
    by_cases hc_2 : (57 : Int32) < p1
    · refine Goes.step (fun _ kK => XS.icmpYes X0.here hx rfl (pc0 := 9) (pc' := 16) rfl (hb hby own_d1_9) rfl (tlt hc_2).2.2.1 (by decide) (by decide) kK) ?_
      show Goes pP eE bB _ (s₁.setTop (mkF mM 16 #[.val (.int p1)] []))
      refine Goes.step (fun _ kK => XS.iconst X0.here hx rfl (hb hby own_d1_16) kK) ?_
      show Goes pP eE bB _ (s₁.setTop (mkF mM 17 #[.val (.int p1)] [(.int (0 : Int32))]))
      refine Goes.retN X0 hx hlk (t := .boolean) hret (by simp) (hb hby own_d1_17) (by decide) (by decide) ?_
      exact ⟨by rw [own_v_dig, if_neg hc_1, if_pos hc_2] <;> rfl, N0, e0⟩
    · refine Goes.step (fun _ kK => XS.icmpNo X0.here hx rfl (hb hby own_d1_9) rfl (flt hc_2).2.2.1 kK) ?_
      show Goes pP eE bB _ (s₁.setTop (mkF mM 12 #[.val (.int p1)] []))
      refine Goes.step (fun _ kK => XS.iconst X0.here hx rfl (hb hby own_d1_12) kK) ?_
      show Goes pP eE bB _ (s₁.setTop (mkF mM 13 #[.val (.int p1)] [(.int (1 : Int32))]))
      refine Goes.step (fun _ kK => XS.goto X0.here hx rfl (pc0 := 13) (pc' := 17) rfl (hb hby own_d1_13) (by decide) (by decide) kK) ?_
      show Goes pP eE bB _ (s₁.setTop (mkF mM 17 #[.val (.int p1)] [(.int (1 : Int32))]))
      refine Goes.retN X0 hx hlk (t := .boolean) hret (by simp) (hb hby own_d1_17) (by decide) (by decide) ?_
      exact ⟨by rw [own_v_dig, if_neg hc_1, if_neg hc_2] <;> rfl, N0, e0⟩
set_option maxRecDepth 65536 in
set_option maxHeartbeats 40000000 in
theorem rmPC (l : Launch) (Z : State) (a0 : Array Value) (hw : ∀ d ∈ tables_1, d.before a0 Z = true) (p1 : Int32) (sf : Value) (rsf : sf.isRef = true) (h0 : Heap) (n0 : Nat) (Z0 : n0 ≤ h0.size) (hlo : ¬ (p1 < (0 : Int32))) (hhi : p1 < (10 : Int32)) :
    Con l Z (⟨"jdk/internal/util/Preconditions", "checkIndex", "(IILjava/util/function/BiFunction;)I"⟩ : MethodName) jdk_41_method_11_code 3 (some .int) ({ frames := 0, cells := 0, slots := 0, locals := 0 } : Room) #[(.int p1), (.int (10 : Int32)), sf] h0 (fun v h L => v = some (.int p1) ∧ Fr n0 L ∧ h = h0) := by
  refine Con.body (plainFor_of_name own_pn1) ?_
  intro pP eE sS mM bB mT cC s₁ hx hby hml hZ hown hnm hret hlk X0 e0
  have hown : sS.vm.findClass "jdk/internal/util/Preconditions" = some mM.cls := hown
  have hml : cC.maxLocals = 3 := hml
  have N0 := Fr.nil n0
  have ef : entryFrame mM #[(.int p1), (.int (10 : Int32)), sf] 3 = mkF mM 0 #[.val (.int p1), .val (.int (10 : Int32)), .val sf] [] := by first | (simp [entryFrame, mkF, argsToLocals, Value.category]; done) | rfl | (rcases own_refR rsf with rfl | ⟨_, rfl⟩ <;> rfl)
  rw [ef]
  show Goes pP eE bB _ (s₁.setTop (mkF mM 0 #[.val (.int p1), .val (.int (10 : Int32)), .val sf] []))
  refine Goes.step (fun _ kK => XS.iloadN X0.here hx rfl (hb hby own_d6_0) rfl kK) ?_
  show Goes pP eE bB _ (s₁.setTop (mkF mM 1 #[.val (.int p1), .val (.int (10 : Int32)), .val sf] [(.int p1)]))
  have hb_1 : ¬ (p1 < (0 : Int32)) := hlo
  refine Goes.step (fun _ kK => XS.ifNo X0.here hx rfl (hb hby own_d6_1) rfl ((if0 _ _).trans (flt hb_1).1) kK) ?_
  show Goes pP eE bB _ (s₁.setTop (mkF mM 4 #[.val (.int p1), .val (.int (10 : Int32)), .val sf] []))
  refine Goes.step (fun _ kK => XS.iloadN X0.here hx rfl (hb hby own_d6_4) rfl kK) ?_
  show Goes pP eE bB _ (s₁.setTop (mkF mM 5 #[.val (.int p1), .val (.int (10 : Int32)), .val sf] [(.int p1)]))
  refine Goes.step (fun _ kK => XS.iloadN X0.here hx rfl (hb hby own_d6_5) rfl kK) ?_
  show Goes pP eE bB _ (s₁.setTop (mkF mM 6 #[.val (.int p1), .val (.int (10 : Int32)), .val sf] [(.int (10 : Int32)), (.int p1)]))
  have hb_2 : p1 < (10 : Int32) := hhi
  refine Goes.step (fun _ kK => XS.icmpYes X0.here hx rfl (pc0 := 6) (pc' := 16) rfl (hb hby own_d6_6) rfl (tlt hb_2).1 (by decide) (by decide) kK) ?_
  show Goes pP eE bB _ (s₁.setTop (mkF mM 16 #[.val (.int p1), .val (.int (10 : Int32)), .val sf] []))
  refine Goes.step (fun _ kK => XS.iloadN X0.here hx rfl (hb hby own_d6_16) rfl kK) ?_
  show Goes pP eE bB _ (s₁.setTop (mkF mM 17 #[.val (.int p1), .val (.int (10 : Int32)), .val sf] [(.int p1)]))
  refine Goes.ret X0 hx hlk hret rfl (Or.inl ⟨rfl, Or.inl rfl, _, rfl⟩) (hb hby own_d6_17) (by decide) (by decide) ?_
  exact ⟨rfl, N0, e0⟩
set_option maxRecDepth 65536 in
set_option maxHeartbeats 40000000 in
theorem rmCI (l : Launch) (Z : State) (a0 : Array Value) (hw : ∀ d ∈ tables_1, d.before a0 Z = true) (p1 : Int32) (sf : Value) (h0 : Heap) (n0 : Nat) (Z0 : n0 ≤ h0.size) (hlo : ¬ (p1 < (0 : Int32))) (hhi : p1 < (10 : Int32)) (rsf : sf.isRef = true) (Ssf : Sta Z Z.heap "jdk/internal/util/Preconditions" "SIOOBE_FORMATTER" "Ljava/util/function/BiFunction;" sf) (O0 : Old Z n0 h0) :
    Con l Z (⟨"java/lang/String", "checkIndex", "(II)V"⟩ : MethodName) jdk_42_method_155_code 2 none ({ frames := 1, cells := 0, slots := 0, locals := 14 } : Room) #[(.int p1), (.int (10 : Int32))] h0 (fun v h L => v = none ∧ Fr n0 L ∧ h = h0) := by
  refine Con.body (plainFor_of_name own_pn2) ?_
  intro pP eE sS mM bB mT cC s₁ hx hby hml hZ hown hnm hret hlk X0 e0
  have hown : sS.vm.findClass "java/lang/String" = some mM.cls := hown
  have hml : cC.maxLocals = 2 := hml
  have N0 := Fr.nil n0
  have ef : entryFrame mM #[(.int p1), (.int (10 : Int32))] 2 = mkF mM 0 #[.val (.int p1), .val (.int (10 : Int32))] [] := by first | (simp [entryFrame, mkF, argsToLocals, Value.category]; done) | rfl
  rw [ef]
  show Goes pP eE bB _ (s₁.setTop (mkF mM 0 #[.val (.int p1), .val (.int (10 : Int32))] []))
  refine Goes.step (fun _ kK => XS.iloadN X0.here hx rfl (hb hby own_d5_0) rfl kK) ?_
  show Goes pP eE bB _ (s₁.setTop (mkF mM 1 #[.val (.int p1), .val (.int (10 : Int32))] [(.int p1)]))
  refine Goes.step (fun _ kK => XS.iloadN X0.here hx rfl (hb hby own_d5_1) rfl kK) ?_
  show Goes pP eE bB _ (s₁.setTop (mkF mM 2 #[.val (.int p1), .val (.int (10 : Int32))] [(.int (10 : Int32)), (.int p1)]))
  obtain ⟨T_1, X_1, e_1, st_1⟩ := getS2 X0 hx hZ hown (host := "") (Or.inl (hw _ (List.mem_of_getElem? (i := 34) rfl))) Via.refl e0 (Ssf.ext O0.2) (g := (mkF mM 2 #[.val (.int p1), .val (.int (10 : Int32))] [(.int (10 : Int32)), (.int p1)])) rfl (hb hby own_d5_2)
  refine Goes.step st_1 ?_
  show Goes pP eE bB _ (T_1.setTop (mkF mM 5 #[.val (.int p1), .val (.int (10 : Int32))] [sf, (.int (10 : Int32)), (.int p1)]))
  refine Goes.callS X_1 hx hZ hown (hw _ (List.mem_of_getElem? (i := 36) rfl)) (hw _ (List.mem_of_getElem? (i := 37) rfl)) (hw _ (List.mem_of_getElem? (i := 35) rfl)) (hw _ (List.mem_of_getElem? (i := 38) rfl)) (by decide) e_1 (rmPC l Z a0 hw p1 sf rsf h0 n0 Z0 hlo hhi) (W := 0) (by decide) (by decide) (by decide) (by decide) (g := (mkF mM 5 #[.val (.int p1), .val (.int (10 : Int32))] [sf, (.int (10 : Int32)), (.int p1)])) rfl (by rw [hml]; rfl) (rest := []) own_pd0 rfl rfl (by show 2 * 0 + _ ≤ _; exact Nat.le_of_eq rfl) (hb hby own_d5_5) ?_
  intro v_2 T_2 L_2 X_2 hQ_2
  obtain ⟨rfl, N_2q, e_2⟩ := hQ_2
  have N_2 := Fr.app N0 N_2q
  show Goes pP eE bB _ (T_2.setTop (mkF mM 8 #[.val (.int p1), .val (.int (10 : Int32))] [(.int p1)]))
  refine Goes.step (fun _ kK => XS.pop X_2.here hx rfl (hb hby own_d5_8) rfl rfl kK) ?_
  show Goes pP eE bB _ (T_2.setTop (mkF mM 9 #[.val (.int p1), .val (.int (10 : Int32))] []))
  refine Goes.ret0 X_2 hx hlk hret (hb hby own_d5_9) (by decide) (by decide) ?_
  exact ⟨rfl, N_2, e_2⟩
set_option maxRecDepth 65536 in
set_option maxHeartbeats 40000000 in
theorem rmLC (l : Launch) (Z : State) (a0 : Array Value) (hw : ∀ d ∈ tables_1, d.before a0 Z = true) (a1 : Addr) (p1 : Int32) (sf : Value) (w : Int32) (h0 : Heap) (n0 : Nat) (Z0 : n0 ≤ h0.size) (hlo : ¬ (p1 < (0 : Int32))) (hhi : p1 < (10 : Int32)) (rsf : sf.isRef = true) (Ssf : Sta Z Z.heap "jdk/internal/util/Preconditions" "SIOOBE_FORMATTER" "Ljava/util/function/BiFunction;" sf) (O0 : Old Z n0 h0) (f : Nat → Value) (A1 : Afn Z h0 a1 .byte 10 f) (k : Nat) (hk : p1.toInt = (k : Int)) (hk9 : k < 10) (hv : f k = .int w) :
    Con l Z (⟨"java/lang/StringLatin1", "charAt", "([BI)C"⟩ : MethodName) jdk_43_method_2_code 2 (some .char) ({ frames := 2, cells := 0, slots := 0, locals := 27 } : Room) #[(.ref a1), (.int p1)] h0 (fun v h L => v = some (.int (nar .char ((w &&& (255 : Int32)).toUInt32.toUInt16.toUInt32.toInt32))) ∧ Fr n0 L ∧ h = h0) := by
  refine Con.body (plainFor_of_name own_pn3) ?_
  intro pP eE sS mM bB mT cC s₁ hx hby hml hZ hown hnm hret hlk X0 e0
  have hown : sS.vm.findClass "java/lang/StringLatin1" = some mM.cls := hown
  have hml : cC.maxLocals = 2 := hml
  have N0 := Fr.nil n0
  have ef : entryFrame mM #[(.ref a1), (.int p1)] 2 = mkF mM 0 #[.val (.ref a1), .val (.int p1)] [] := by first | (simp [entryFrame, mkF, argsToLocals, Value.category]; done) | rfl
  rw [ef]
  show Goes pP eE bB _ (s₁.setTop (mkF mM 0 #[.val (.ref a1), .val (.int p1)] []))
  refine Goes.step (fun _ kK => XS.iloadN X0.here hx rfl (hb hby own_d4_0) rfl kK) ?_
  show Goes pP eE bB _ (s₁.setTop (mkF mM 1 #[.val (.ref a1), .val (.int p1)] [(.int p1)]))
  refine Goes.step (fun _ kK => XS.aloadN X0.here hx rfl (hb hby own_d4_1) rfl rfl kK) ?_
  show Goes pP eE bB _ (s₁.setTop (mkF mM 2 #[.val (.ref a1), .val (.int p1)] [(.ref a1), (.int p1)]))
  refine Goes.alen X0 hx hZ e0 A1 (z := (10 : Int32)) (by decide) (g := (mkF mM 2 #[.val (.ref a1), .val (.int p1)] [(.ref a1), (.int p1)])) rfl rfl (hb hby own_d4_2) ?_
  show Goes pP eE bB _ (s₁.setTop (mkF mM 3 #[.val (.ref a1), .val (.int p1)] [(.int (10 : Int32)), (.int p1)]))
  refine Goes.callS X0 hx hZ hown (hw _ (List.mem_of_getElem? (i := 31) rfl)) (hw _ (List.mem_of_getElem? (i := 32) rfl)) (hw _ (List.mem_of_getElem? (i := 6) rfl)) (hw _ (List.mem_of_getElem? (i := 33) rfl)) (by decide) e0 (rmCI l Z a0 hw p1 sf h0 n0 Z0 hlo hhi rsf Ssf O0) (W := 0) (by decide) (by decide) (by decide) (by decide) (g := (mkF mM 3 #[.val (.ref a1), .val (.int p1)] [(.int (10 : Int32)), (.int p1)])) rfl (by rw [hml]; rfl) (rest := []) own_pd1 rfl rfl (by show 2 * 0 + _ ≤ _; exact Nat.le_of_eq rfl) (hb hby own_d4_3) ?_
  intro v_1 T_1 L_1 X_1 hQ_1
  obtain ⟨rfl, N_1q, e_1⟩ := hQ_1
  have N_1 := Fr.app N0 N_1q
  show Goes pP eE bB _ (T_1.setTop (mkF mM 6 #[.val (.ref a1), .val (.int p1)] []))
  refine Goes.step (fun _ kK => XS.aloadN X_1.here hx rfl (hb hby own_d4_6) rfl rfl kK) ?_
  show Goes pP eE bB _ (T_1.setTop (mkF mM 7 #[.val (.ref a1), .val (.int p1)] [(.ref a1)]))
  refine Goes.step (fun _ kK => XS.iloadN X_1.here hx rfl (hb hby own_d4_7) rfl kK) ?_
  show Goes pP eE bB _ (T_1.setTop (mkF mM 8 #[.val (.ref a1), .val (.int p1)] [(.int p1), (.ref a1)]))
  refine Goes.baload X_1 hx hZ e_1 A1 (i := k) hk hk9 hv (g := (mkF mM 8 #[.val (.ref a1), .val (.int p1)] [(.int p1), (.ref a1)])) rfl rfl (hb hby own_d4_8) ?_
  show Goes pP eE bB _ (T_1.setTop (mkF mM 9 #[.val (.ref a1), .val (.int p1)] [(.int w)]))
  refine Goes.step (fun _ kK => XS.sipush X_1.here hx rfl (hb hby own_d4_9) kK) ?_
  show Goes pP eE bB _ (T_1.setTop (mkF mM 12 #[.val (.ref a1), .val (.int p1)] [(.int (255 : Int32)), (.int w)]))
  refine Goes.step (fun _ kK => XS.iand X_1.here hx rfl (hb hby own_d4_12) rfl kK) ?_
  show Goes pP eE bB _ (T_1.setTop (mkF mM 13 #[.val (.ref a1), .val (.int p1)] [(.int (w &&& (255 : Int32)))]))
  refine Goes.step (fun _ kK => XS.i2c X_1.here hx rfl (hb hby own_d4_13) rfl kK) ?_
  show Goes pP eE bB _ (T_1.setTop (mkF mM 14 #[.val (.ref a1), .val (.int p1)] [(.int ((w &&& (255 : Int32)).toUInt32.toUInt16.toUInt32.toInt32))]))
  refine Goes.retN X_1 hx hlk (t := .char) hret (by simp) (hb hby own_d4_14) (by decide) (by decide) ?_
  exact ⟨rfl, N_1, e_1⟩
set_option maxRecDepth 65536 in
set_option maxHeartbeats 40000000 in
theorem rmIL (l : Launch) (Z : State) (a0 : Array Value) (hw : ∀ d ∈ tables_1, d.before a0 Z = true) (a1 : Addr) (cs : Int32) (h0 : Heap) (n0 : Nat) (Z0 : n0 ≤ h0.size) (Scs : Sta Z Z.heap "java/lang/String" "COMPACT_STRINGS" "Z" (.int cs)) (hcs : ¬ (cs = (0 : Int32))) (O0 : Old Z n0 h0) (Fc : Fld Z h0 a1 "java/lang/String" "coder" "B" (.int (0 : Int32))) :
    Con l Z (⟨"java/lang/String", "isLatin1", "()Z"⟩ : MethodName) jdk_42_method_154_code 1 (some .boolean) ({ frames := 0, cells := 0, slots := 0, locals := 0 } : Room) #[(.ref a1)] h0 (fun v h L => v = some (.int (1 : Int32)) ∧ Fr n0 L ∧ h = h0) := by
  refine Con.body (plainFor_of_name own_pn2) ?_
  intro pP eE sS mM bB mT cC s₁ hx hby hml hZ hown hnm hret hlk X0 e0
  have hown : sS.vm.findClass "java/lang/String" = some mM.cls := hown
  have hml : cC.maxLocals = 1 := hml
  have N0 := Fr.nil n0
  have ef : entryFrame mM #[(.ref a1)] 1 = mkF mM 0 #[.val (.ref a1)] [] := by first | (simp [entryFrame, mkF, argsToLocals, Value.category]; done) | rfl
  rw [ef]
  show Goes pP eE bB _ (s₁.setTop (mkF mM 0 #[.val (.ref a1)] []))
  obtain ⟨T_1, X_1, e_1, st_1⟩ := getS2 X0 hx hZ hown (host := "") (Or.inl (hw _ (List.mem_of_getElem? (i := 24) rfl))) Via.refl e0 (Scs.ext O0.2) (g := (mkF mM 0 #[.val (.ref a1)] [])) rfl (hb hby own_d3_0)
  refine Goes.step st_1 ?_
  show Goes pP eE bB _ (T_1.setTop (mkF mM 3 #[.val (.ref a1)] [(.int cs)]))
  have hb_2 : ¬ (cs = (0 : Int32)) := hcs
  refine Goes.step (fun _ kK => XS.ifNo X_1.here hx rfl (hb hby own_d3_3) rfl ((if0 _ _).trans (feq hb_2).1) kK) ?_
  show Goes pP eE bB _ (T_1.setTop (mkF mM 6 #[.val (.ref a1)] []))
  refine Goes.step (fun _ kK => XS.aloadN X_1.here hx rfl (hb hby own_d3_6) rfl rfl kK) ?_
  show Goes pP eE bB _ (T_1.setTop (mkF mM 7 #[.val (.ref a1)] [(.ref a1)]))
  obtain ⟨T_3, X_3, e_3, st_3⟩ := getF X_1 hx hZ hown (host := "") (Or.inl (hw _ (List.mem_of_getElem? (i := 25) rfl))) Via.refl e_1 Fc (g := (mkF mM 7 #[.val (.ref a1)] [(.ref a1)])) rfl rfl (hb hby own_d3_7)
  refine Goes.step st_3 ?_
  show Goes pP eE bB _ (T_3.setTop (mkF mM 10 #[.val (.ref a1)] [(.int (0 : Int32))]))
  refine Goes.step (fun _ kK => XS.ifNo X_3.here hx rfl (hb hby own_d3_10) rfl ((if0 _ _).trans (teq (by decide)).2) kK) ?_
  show Goes pP eE bB _ (T_3.setTop (mkF mM 13 #[.val (.ref a1)] []))
  refine Goes.step (fun _ kK => XS.iconst X_3.here hx rfl (hb hby own_d3_13) kK) ?_
  show Goes pP eE bB _ (T_3.setTop (mkF mM 14 #[.val (.ref a1)] [(.int (1 : Int32))]))
  refine Goes.step (fun _ kK => XS.goto X_3.here hx rfl (pc0 := 14) (pc' := 18) rfl (hb hby own_d3_14) (by decide) (by decide) kK) ?_
  show Goes pP eE bB _ (T_3.setTop (mkF mM 18 #[.val (.ref a1)] [(.int (1 : Int32))]))
  refine Goes.retN X_3 hx hlk (t := .boolean) hret (by simp) (hb hby own_d3_18) (by decide) (by decide) ?_
  exact ⟨rfl, N0, e_3⟩
set_option maxRecDepth 65536 in
set_option maxHeartbeats 40000000 in
theorem rmCA (l : Launch) (Z : State) (a0 : Array Value) (hw : ∀ d ∈ tables_1, d.before a0 Z = true) (a1 b : Addr) (p1 : Int32) (sf : Value) (w cs : Int32) (h0 : Heap) (n0 : Nat) (Z0 : n0 ≤ h0.size) (hlo : ¬ (p1 < (0 : Int32))) (hhi : p1 < (10 : Int32)) (rsf : sf.isRef = true) (Ssf : Sta Z Z.heap "jdk/internal/util/Preconditions" "SIOOBE_FORMATTER" "Ljava/util/function/BiFunction;" sf) (Scs : Sta Z Z.heap "java/lang/String" "COMPACT_STRINGS" "Z" (.int cs)) (hcs : ¬ (cs = (0 : Int32))) (O0 : Old Z n0 h0) (Fc : Fld Z h0 a1 "java/lang/String" "coder" "B" (.int (0 : Int32))) (E1 : Exa Z h0 a1 "java/lang/String") (Fv : Fld Z h0 a1 "java/lang/String" "value" "[B" (.ref b)) (f : Nat → Value) (Ab : Afn Z h0 b .byte 10 f) (k : Nat) (hk : p1.toInt = (k : Int)) (hk9 : k < 10) (hv : f k = .int w) :
    Con l Z (⟨"java/lang/String", "charAt", "(I)C"⟩ : MethodName) jdk_42_method_56_code 2 (some .char) ({ frames := 3, cells := 0, slots := 0, locals := 40 } : Room) #[(.ref a1), (.int p1)] h0 (fun v h L => v = some (.int (nar .char (nar .char ((w &&& (255 : Int32)).toUInt32.toUInt16.toUInt32.toInt32)))) ∧ Fr n0 L ∧ h = h0) := by
  refine Con.body (plainFor_of_name own_pn2) ?_
  intro pP eE sS mM bB mT cC s₁ hx hby hml hZ hown hnm hret hlk X0 e0
  have hown : sS.vm.findClass "java/lang/String" = some mM.cls := hown
  have hml : cC.maxLocals = 2 := hml
  have N0 := Fr.nil n0
  have ef : entryFrame mM #[(.ref a1), (.int p1)] 2 = mkF mM 0 #[.val (.ref a1), .val (.int p1)] [] := by first | (simp [entryFrame, mkF, argsToLocals, Value.category]; done) | rfl
  rw [ef]
  show Goes pP eE bB _ (s₁.setTop (mkF mM 0 #[.val (.ref a1), .val (.int p1)] []))
  refine Goes.step (fun _ kK => XS.aloadN X0.here hx rfl (hb hby own_d2_0) rfl rfl kK) ?_
  show Goes pP eE bB _ (s₁.setTop (mkF mM 1 #[.val (.ref a1), .val (.int p1)] [(.ref a1)]))
  refine Goes.callV X0 hx hZ hown (hw _ (List.mem_of_getElem? (i := 19) rfl)) (hw _ (List.mem_of_getElem? (i := 20) rfl)) (notFace_of_selects (args := #[]) (mvT hZ (hw _ (List.mem_of_getElem? (i := 22) rfl)))) (hw _ (List.mem_of_getElem? (i := 22) rfl)) (hw _ (List.mem_of_getElem? (i := 21) rfl)) (hw _ (List.mem_of_getElem? (i := 23) rfl)) (hw _ (List.mem_of_getElem? (i := 6) rfl)) (by decide) e0 E1 (rmIL l Z a0 hw a1 cs h0 n0 Z0 Scs hcs O0 Fc) (W := 0) (by decide) (by decide) (by decide) (by decide) (g := (mkF mM 1 #[.val (.ref a1), .val (.int p1)] [(.ref a1)])) rfl (by rw [hml]; rfl) (rest := []) own_pd2 rfl rfl (by show 2 * 0 + _ ≤ _; exact Nat.le_of_eq rfl) (hb hby own_d2_1) ?_
  intro v_1 T_1 L_1 X_1 hQ_1
  obtain ⟨rfl, N_1q, e_1⟩ := hQ_1
  have N_1 := Fr.app N0 N_1q
  show Goes pP eE bB _ (T_1.setTop (mkF mM 4 #[.val (.ref a1), .val (.int p1)] [(.int (1 : Int32))]))
  refine Goes.step (fun _ kK => XS.ifNo X_1.here hx rfl (hb hby own_d2_4) rfl ((if0 _ _).trans (feq (by decide)).1) kK) ?_
  show Goes pP eE bB _ (T_1.setTop (mkF mM 7 #[.val (.ref a1), .val (.int p1)] []))
  refine Goes.step (fun _ kK => XS.aloadN X_1.here hx rfl (hb hby own_d2_7) rfl rfl kK) ?_
  show Goes pP eE bB _ (T_1.setTop (mkF mM 8 #[.val (.ref a1), .val (.int p1)] [(.ref a1)]))
  obtain ⟨T_2, X_2, e_2, st_2⟩ := getF X_1 hx hZ hown (host := "") (Or.inl (hw _ (List.mem_of_getElem? (i := 26) rfl))) Via.refl e_1 Fv (g := (mkF mM 8 #[.val (.ref a1), .val (.int p1)] [(.ref a1)])) rfl rfl (hb hby own_d2_8)
  refine Goes.step st_2 ?_
  show Goes pP eE bB _ (T_2.setTop (mkF mM 11 #[.val (.ref a1), .val (.int p1)] [(.ref b)]))
  refine Goes.step (fun _ kK => XS.iloadN X_2.here hx rfl (hb hby own_d2_11) rfl kK) ?_
  show Goes pP eE bB _ (T_2.setTop (mkF mM 12 #[.val (.ref a1), .val (.int p1)] [(.int p1), (.ref b)]))
  refine Goes.callS X_2 hx hZ hown (hw _ (List.mem_of_getElem? (i := 27) rfl)) (hw _ (List.mem_of_getElem? (i := 28) rfl)) (hw _ (List.mem_of_getElem? (i := 29) rfl)) (hw _ (List.mem_of_getElem? (i := 30) rfl)) (by decide) e_2 (rmLC l Z a0 hw b p1 sf w h0 n0 Z0 hlo hhi rsf Ssf O0 _ Ab k hk hk9 hv) (W := 0) (by decide) (by decide) (by decide) (by decide) (g := (mkF mM 12 #[.val (.ref a1), .val (.int p1)] [(.int p1), (.ref b)])) rfl (by rw [hml]; rfl) (rest := []) own_pd3 rfl rfl (by show 2 * 0 + _ ≤ _; exact Nat.le_of_eq rfl) (hb hby own_d2_12) ?_
  intro v_3 T_3 L_3 X_3 hQ_3
  obtain ⟨rfl, N_3q, e_3⟩ := hQ_3
  have N_3 := Fr.app N_1 N_3q
  show Goes pP eE bB _ (T_3.setTop (mkF mM 15 #[.val (.ref a1), .val (.int p1)] [(.int (nar .char ((w &&& (255 : Int32)).toUInt32.toUInt16.toUInt32.toInt32)))]))
  refine Goes.retN X_3 hx hlk (t := .char) hret (by simp) (hb hby own_d2_15) (by decide) (by decide) ?_
  exact ⟨rfl, N_3, e_3⟩
/-- the digits' codes -/
def own_dg (k : Nat) : Int32 := Int32.ofNat (48 + k)
theorem own_text : (∀ c ∈ "0123456789".toList, c.toNat < 256) ∧ "0123456789".toList.map (fun c => Value.int (Jvm.Lit.byteI c.toNat.toUInt16)) = [.int 48, .int 49, .int 50, .int 51, .int 52, .int 53, .int 54, .int 55, .int 56, .int 57] := by
  refine ⟨by decide, by decide⟩
theorem own_at {k : Nat} (hk : k < 10) : ([.int 48, .int 49, .int 50, .int 51, .int 52, .int 53, .int 54, .int 55, .int 56, .int 57] : List Value).getD k (.int 0) = .int (own_dg k) := by
  obtain rfl | rfl | rfl | rfl | rfl | rfl | rfl | rfl | rfl | rfl : k = 0 ∨ k = 1 ∨ k = 2 ∨ k = 3 ∨ k = 4 ∨ k = 5 ∨ k = 6 ∨ k = 7 ∨ k = 8 ∨ k = 9 := by omega
  all_goals rfl
theorem own_isd {k : Nat} (hk : k < 10) : own_v_dig (nar .char (nar .char ((own_dg k &&& (255 : Int32)).toUInt32.toUInt16.toUInt32.toInt32))) = 1 := by
  obtain rfl | rfl | rfl | rfl | rfl | rfl | rfl | rfl | rfl | rfl : k = 0 ∨ k = 1 ∨ k = 2 ∨ k = 3 ∨ k = 4 ∨ k = 5 ∨ k = 6 ∨ k = 7 ∨ k = 8 ∨ k = 9 := by omega
  all_goals decide
theorem own_mod10 (x : Int32) : ∃ i : Nat, ((x &&& (2147483647 : Int32)) % (10 : Int32)).toInt = (i : Int) ∧ i < 10 := by
  have hm : (x &&& (2147483647 : Int32)).toInt = x.toInt % 2 ^ 31 := Jvm.Kit.i32_mask x 2147483647 (k := 31) (by decide) (by decide)
  have hr : ((x &&& (2147483647 : Int32)) % (10 : Int32)).toInt = (x.toInt % 2 ^ 31) % 10 := by rw [Jvm.Kit.i32_rem_nonneg (by rw [hm]; omega), hm]; rfl
  exact ⟨((x.toInt % 2 ^ 31) % 10).toNat, by omega, by omega⟩
theorem own_d (c : Int32) : ((c.toInt64) - (48 : Int64)).toInt = c.toInt - 48 := by
  have h1 := c.toInt_lt
  have h2 := c.le_toInt
  rw [Jvm.Kit.i64_sub] <;> rw [Int32.toInt_toInt64, show (48 : Int64).toInt = 48 from by decide] <;> omega
set_option maxRecDepth 65536 in
set_option maxHeartbeats 40000000 in
theorem rm0 (l : Launch) (Z : State) (a0 : Array Value) (hw : ∀ d ∈ tables_1, d.before a0 Z = true) (p1 p2 : Int32) (cs : Int32) (sf : Value) (h0 : Heap) (n0 : Nat) (Z0 : n0 ≤ h0.size) (rsf : sf.isRef = true) (Ssf : Sta Z Z.heap "jdk/internal/util/Preconditions" "SIOOBE_FORMATTER" "Ljava/util/function/BiFunction;" sf) (Scs : Sta Z Z.heap "java/lang/String" "COMPACT_STRINGS" "Z" (.int cs)) (hcs : ¬ (cs = (0 : Int32))) (O0 : Old Z n0 h0) (hh0 : h0 = Z.heap) (hn0 : n0 = Z.heap.size) (hheld : Jvm.Lit.constHeld Z "com/example/cicada/cicada/engine/DecimalIsDigitPinLaw" 17) (hcw : Jvm.Lit.compactW.before a0 Z = true) :
    ConZ l Z x code maxLocals ret room_1 #[(.int p1), (.int p2)] h0 (fun v h L => v = some (.int 1) ∧ Fr n0 L) := by
  refine ConZ.body (plainFor_of_name own_pn4) hh0 ?_
  intro pP eE sS vm0 mM bB mT cC s₁ hx hby hml hZ hown hnm hret hlk X0 e0 hS hsz hI
  have hown : (sS.setVm vm0).vm.findClass "com/example/cicada/cicada/engine/DecimalIsDigitPinLaw" = some mM.cls := hown
  have hml : cC.maxLocals = 6 := hml
  have N0 := Fr.nil n0
  have ef : entryFrame mM #[(.int p1), (.int p2)] maxLocals = mkF mM 0 #[.val (.int p1), .val (.int p2), .unset, .unset, .unset, .unset] [] := by first | (simp [entryFrame, mkF, argsToLocals, Value.category, maxLocals]; done) | rfl
  rw [ef]
  show Goes pP eE bB _ (s₁.setTop (mkF mM 0 #[.val (.int p1), .val (.int p2), .unset, .unset, .unset, .unset] []))
  refine Goes.step (fun _ kK => XS.iloadN X0.here hx rfl (hb hby at_0) rfl kK) ?_
  show Goes pP eE bB _ (s₁.setTop (mkF mM 1 #[.val (.int p1), .val (.int p2), .unset, .unset, .unset, .unset] [(.int p1)]))
  refine Goes.step (fun _ kK => XS.i2l X0.here hx rfl (hb hby at_1) rfl kK) ?_
  show Goes pP eE bB _ (s₁.setTop (mkF mM 2 #[.val (.int p1), .val (.int p2), .unset, .unset, .unset, .unset] [(.long (p1.toInt64))]))
  refine Goes.step (fun _ kK => X0.ldc2J hx hown (mvT hZ (hw _ (List.mem_of_getElem? (i := 0) rfl))) rfl (hb hby at_2) kK) ?_
  show Goes pP eE bB _ (s₁.setTop (mkF mM 5 #[.val (.int p1), .val (.int p2), .unset, .unset, .unset, .unset] [(.long (48 : Int64)), (.long (p1.toInt64))]))
  refine Goes.step (fun _ kK => XS.lsub X0.here hx rfl (hb hby at_5) rfl kK) ?_
  show Goes pP eE bB _ (s₁.setTop (mkF mM 6 #[.val (.int p1), .val (.int p2), .unset, .unset, .unset, .unset] [(.long ((p1.toInt64) - (48 : Int64)))]))
  refine Goes.step (fun _ kK => XS.lstoreN X0.here hx rfl (hb hby at_6) rfl (l' := #[.val (.int p1), .val (.int p2), .val (.long ((p1.toInt64) - (48 : Int64))), .second, .unset, .unset]) rfl kK) ?_
  show Goes pP eE bB _ (s₁.setTop (mkF mM 7 #[.val (.int p1), .val (.int p2), .val (.long ((p1.toInt64) - (48 : Int64))), .second, .unset, .unset] []))
  refine Goes.step (fun _ kK => XS.lloadN X0.here hx rfl (hb hby at_7) rfl kK) ?_
  show Goes pP eE bB _ (s₁.setTop (mkF mM 8 #[.val (.int p1), .val (.int p2), .val (.long ((p1.toInt64) - (48 : Int64))), .second, .unset, .unset] [(.long ((p1.toInt64) - (48 : Int64)))]))
  refine Goes.step (fun _ kK => XS.lconst X0.here hx rfl (hb hby at_8) kK) ?_
  show Goes pP eE bB _ (s₁.setTop (mkF mM 9 #[.val (.int p1), .val (.int p2), .val (.long ((p1.toInt64) - (48 : Int64))), .second, .unset, .unset] [(.long (0 : Int64)), (.long ((p1.toInt64) - (48 : Int64)))]))
  refine Goes.step (fun _ kK => XS.lcmp X0.here hx rfl (hb hby at_9) rfl kK) ?_
  show Goes pP eE bB _ (s₁.setTop (mkF mM 10 #[.val (.int p1), .val (.int p2), .val (.long ((p1.toInt64) - (48 : Int64))), .second, .unset, .unset] [(.int (lcmpW ((p1.toInt64) - (48 : Int64)) (0 : Int64)))]))
  by_cases hc_1 : ((p1.toInt64) - (48 : Int64)) < (0 : Int64)
  · refine Goes.step (fun _ kK => XS.ifYes X0.here hx rfl (pc0 := 10) (pc' := 25) rfl (hb hby at_10) rfl ((if0 _ _).trans (tlt (jlt.mpr hc_1)).1) (by decide) (by decide) kK) ?_
    show Goes pP eE bB _ (s₁.setTop (mkF mM 25 #[.val (.int p1), .val (.int p2), .val (.long ((p1.toInt64) - (48 : Int64))), .second, .unset, .unset] []))
    refine Goes.step (fun _ kK => XS.iconst X0.here hx rfl (hb hby at_25) kK) ?_
    show Goes pP eE bB _ (s₁.setTop (mkF mM 26 #[.val (.int p1), .val (.int p2), .val (.long ((p1.toInt64) - (48 : Int64))), .second, .unset, .unset] [(.int (0 : Int32))]))
    refine Goes.step (fun _ kK => XS.istore X0.here hx rfl (hb hby at_26) rfl (l' := #[.val (.int p1), .val (.int p2), .val (.long ((p1.toInt64) - (48 : Int64))), .second, .val (.int (0 : Int32)), .unset]) rfl kK) ?_
    show Goes pP eE bB _ (s₁.setTop (mkF mM 28 #[.val (.int p1), .val (.int p2), .val (.long ((p1.toInt64) - (48 : Int64))), .second, .val (.int (0 : Int32)), .unset] []))
    refine Goes.step (fun _ kK => XS.iloadN X0.here hx rfl (hb hby at_28) rfl kK) ?_
    show Goes pP eE bB _ (s₁.setTop (mkF mM 29 #[.val (.int p1), .val (.int p2), .val (.long ((p1.toInt64) - (48 : Int64))), .second, .val (.int (0 : Int32)), .unset] [(.int p1)]))
    refine Goes.callS X0 hx hZ hown (hw _ (List.mem_of_getElem? (i := 1) rfl)) (hw _ (List.mem_of_getElem? (i := 2) rfl)) (hw _ (List.mem_of_getElem? (i := 3) rfl)) (hw _ (List.mem_of_getElem? (i := 4) rfl)) (by decide) e0 (rm_dig l Z a0 hw p1 h0 n0 Z0) (W := 0) (by decide) (by decide) (by decide) (by decide) (g := (mkF mM 29 #[.val (.int p1), .val (.int p2), .val (.long ((p1.toInt64) - (48 : Int64))), .second, .val (.int (0 : Int32)), .unset] [(.int p1)])) rfl (by rw [hml]; rfl) (rest := []) own_pd4 rfl rfl (by show 2 * 0 + _ ≤ _; exact Nat.le_of_eq rfl) (hb hby at_29) ?_
    intro v_2 T_2 L_2 X_2 hQ_2
    obtain ⟨rfl, N_2q, e_2⟩ := hQ_2
    have N_2 := Fr.app N0 N_2q
    show Goes pP eE bB _ (T_2.setTop (mkF mM 32 #[.val (.int p1), .val (.int p2), .val (.long ((p1.toInt64) - (48 : Int64))), .second, .val (.int (0 : Int32)), .unset] [(.int (own_v_dig p1))]))
    refine Goes.step (fun _ kK => XS.iload X_2.here hx rfl (hb hby at_32) rfl kK) ?_
    show Goes pP eE bB _ (T_2.setTop (mkF mM 34 #[.val (.int p1), .val (.int p2), .val (.long ((p1.toInt64) - (48 : Int64))), .second, .val (.int (0 : Int32)), .unset] [(.int (0 : Int32)), (.int (own_v_dig p1))]))
    have hb_3 : (own_v_dig p1) = (0 : Int32) := (by have z0 := hc_1; rw [Int64.lt_iff_toInt_lt, own_d] at z0;  simp only [show (0 : Int64).toInt = 0 from by decide, show (10 : Int64).toInt = 10 from by decide] at *; unfold own_v_dig; simp only [Int32.lt_iff_toInt_lt, show (48 : Int32).toInt = 48 from by decide, show (57 : Int32).toInt = 57 from by decide]; (repeat' split) <;> first | rfl | omega)
    refine Goes.step (fun _ kK => XS.icmpYes X_2.here hx rfl (pc0 := 34) (pc' := 39) rfl (hb hby at_34) rfl (teq hb_3).1 (by decide) (by decide) kK) ?_
    show Goes pP eE bB _ (T_2.setTop (mkF mM 39 #[.val (.int p1), .val (.int p2), .val (.long ((p1.toInt64) - (48 : Int64))), .second, .val (.int (0 : Int32)), .unset] []))
    refine Goes.ldcSV X_2 hx hZ hown (hw _ (List.mem_of_getElem? (i := 5) rfl)) (own_wS hw) e_2 hS (Nat.le_refl h0.size) hsz (hn0 ▸ N_2) hI hheld hcw own_text (z := (10 : Int32)) (nl := 10) (by decide) rfl (g := (mkF mM 39 #[.val (.int p1), .val (.int p2), .val (.long ((p1.toInt64) - (48 : Int64))), .second, .val (.int (0 : Int32)), .unset] [])) rfl (hb hby at_39) (n := 40) (by decide) (by decide) (by decide) (by decide) ?_
    intro a_4 T_4 h_4 k_4 b_4 X_4 e_4 E_4 hS hk_4 hZ hown M_4 Fc_4 Fv_4 A_4
    show Goes pP eE bB _ (T_4.setTop (mkF mM 41 #[.val (.int p1), .val (.int p2), .val (.long ((p1.toInt64) - (48 : Int64))), .second, .val (.int (0 : Int32)), .unset] [(.ref a_4)]))
    refine Goes.step (fun _ kK => XS.iloadN X_4.here hx rfl (hb hby at_41) rfl kK) ?_
    show Goes pP eE bB _ (T_4.setTop (mkF mM 42 #[.val (.int p1), .val (.int p2), .val (.long ((p1.toInt64) - (48 : Int64))), .second, .val (.int (0 : Int32)), .unset] [(.int p2), (.ref a_4)]))
    refine Goes.step (fun _ kK => X_4.ldcI hx hown (mvT hZ (hw _ (List.mem_of_getElem? (i := 13) rfl))) rfl (hb hby at_42) kK) ?_
    show Goes pP eE bB _ (T_4.setTop (mkF mM 44 #[.val (.int p1), .val (.int p2), .val (.long ((p1.toInt64) - (48 : Int64))), .second, .val (.int (0 : Int32)), .unset] [(.int (2147483647 : Int32)), (.int p2), (.ref a_4)]))
    refine Goes.step (fun _ kK => XS.iand X_4.here hx rfl (hb hby at_44) rfl kK) ?_
    show Goes pP eE bB _ (T_4.setTop (mkF mM 45 #[.val (.int p1), .val (.int p2), .val (.long ((p1.toInt64) - (48 : Int64))), .second, .val (.int (0 : Int32)), .unset] [(.int (p2 &&& (2147483647 : Int32))), (.ref a_4)]))
    refine Goes.step (fun _ kK => XS.bipush X_4.here hx rfl (hb hby at_45) kK) ?_
    show Goes pP eE bB _ (T_4.setTop (mkF mM 47 #[.val (.int p1), .val (.int p2), .val (.long ((p1.toInt64) - (48 : Int64))), .second, .val (.int (0 : Int32)), .unset] [(.int (10 : Int32)), (.int (p2 &&& (2147483647 : Int32))), (.ref a_4)]))
    refine Goes.step (fun _ kK => Jvm.RoadKit.iremM X_4 hx rfl (hb hby at_47) rfl (by decide) kK) ?_
    show Goes pP eE bB _ (T_4.setTop (mkF mM 48 #[.val (.int p1), .val (.int p2), .val (.long ((p1.toInt64) - (48 : Int64))), .second, .val (.int (0 : Int32)), .unset] [(.int ((p2 &&& (2147483647 : Int32)) % (10 : Int32))), (.ref a_4)]))
    obtain ⟨k, hk, hk9⟩ := own_mod10 p2
    have hlo : ¬ (((p2 &&& (2147483647 : Int32)) % (10 : Int32)) < (0 : Int32)) := by rw [Int32.lt_iff_toInt_lt, hk, show (0 : Int32).toInt = 0 from by decide]; omega
    have hhi : ((p2 &&& (2147483647 : Int32)) % (10 : Int32)) < (10 : Int32) := by rw [Int32.lt_iff_toInt_lt, hk, show (10 : Int32).toInt = 10 from by decide]; omega
    have u_5 := Nat.le_trans Z0 E_4.1
    have u_6 := O0.ext E_4
    refine Goes.callV X_4 hx hZ hown (hw _ (List.mem_of_getElem? (i := 14) rfl)) (hw _ (List.mem_of_getElem? (i := 15) rfl)) (notFace_of_selects (args := #[]) (mvT hZ (hw _ (List.mem_of_getElem? (i := 17) rfl)))) (hw _ (List.mem_of_getElem? (i := 17) rfl)) (hw _ (List.mem_of_getElem? (i := 16) rfl)) (hw _ (List.mem_of_getElem? (i := 18) rfl)) (hw _ (List.mem_of_getElem? (i := 6) rfl)) (by decide) e_4 M_4 (rmCA l Z a0 hw a_4 b_4 ((p2 &&& (2147483647 : Int32)) % (10 : Int32)) sf (own_dg k) cs h_4 n0 u_5 hlo hhi rsf Ssf Scs hcs u_6 Fc_4 M_4 Fv_4 _ A_4 k hk hk9 (own_at hk9)) (W := 0) (by decide) (by decide) (by decide) (by decide) (g := (mkF mM 48 #[.val (.int p1), .val (.int p2), .val (.long ((p1.toInt64) - (48 : Int64))), .second, .val (.int (0 : Int32)), .unset] [(.int ((p2 &&& (2147483647 : Int32)) % (10 : Int32))), (.ref a_4)])) rfl (by rw [hml]; rfl) (rest := []) own_pd5 rfl rfl (by show 2 * 0 + _ ≤ _; exact Nat.le_of_eq rfl) (hb hby at_48) ?_
    intro v_7 T_7 L_7 X_7 hQ_7
    obtain ⟨rfl, N_7q, e_7⟩ := hQ_7
    have N_7 := Fr.app N_2 N_7q
    show Goes pP eE bB _ (T_7.setTop (mkF mM 51 #[.val (.int p1), .val (.int p2), .val (.long ((p1.toInt64) - (48 : Int64))), .second, .val (.int (0 : Int32)), .unset] [(.int (nar .char (nar .char ((own_dg k &&& (255 : Int32)).toUInt32.toUInt16.toUInt32.toInt32))))]))
    refine Goes.step (fun _ kK => XS.istore X_7.here hx rfl (hb hby at_51) rfl (l' := #[.val (.int p1), .val (.int p2), .val (.long ((p1.toInt64) - (48 : Int64))), .second, .val (.int (0 : Int32)), .val (.int (nar .char (nar .char ((own_dg k &&& (255 : Int32)).toUInt32.toUInt16.toUInt32.toInt32))))]) rfl kK) ?_
    show Goes pP eE bB _ (T_7.setTop (mkF mM 53 #[.val (.int p1), .val (.int p2), .val (.long ((p1.toInt64) - (48 : Int64))), .second, .val (.int (0 : Int32)), .val (.int (nar .char (nar .char ((own_dg k &&& (255 : Int32)).toUInt32.toUInt16.toUInt32.toInt32))))] []))
    refine Goes.step (fun _ kK => XS.iload X_7.here hx rfl (hb hby at_53) rfl kK) ?_
    show Goes pP eE bB _ (T_7.setTop (mkF mM 55 #[.val (.int p1), .val (.int p2), .val (.long ((p1.toInt64) - (48 : Int64))), .second, .val (.int (0 : Int32)), .val (.int (nar .char (nar .char ((own_dg k &&& (255 : Int32)).toUInt32.toUInt16.toUInt32.toInt32))))] [(.int (nar .char (nar .char ((own_dg k &&& (255 : Int32)).toUInt32.toUInt16.toUInt32.toInt32))))]))
    refine Goes.callS X_7 hx hZ hown (hw _ (List.mem_of_getElem? (i := 1) rfl)) (hw _ (List.mem_of_getElem? (i := 2) rfl)) (hw _ (List.mem_of_getElem? (i := 3) rfl)) (hw _ (List.mem_of_getElem? (i := 4) rfl)) (by decide) e_7 (rm_dig l Z a0 hw (nar .char (nar .char ((own_dg k &&& (255 : Int32)).toUInt32.toUInt16.toUInt32.toInt32))) h_4 n0 u_5) (W := 0) (by decide) (by decide) (by decide) (by decide) (g := (mkF mM 55 #[.val (.int p1), .val (.int p2), .val (.long ((p1.toInt64) - (48 : Int64))), .second, .val (.int (0 : Int32)), .val (.int (nar .char (nar .char ((own_dg k &&& (255 : Int32)).toUInt32.toUInt16.toUInt32.toInt32))))] [(.int (nar .char (nar .char ((own_dg k &&& (255 : Int32)).toUInt32.toUInt16.toUInt32.toInt32))))])) rfl (by rw [hml]; rfl) (rest := []) own_pd4 rfl rfl (by show 2 * 0 + _ ≤ _; exact Nat.le_of_eq rfl) (hb hby at_55) ?_
    intro v_8 T_8 L_8 X_8 hQ_8
    obtain ⟨rfl, N_8q, e_8⟩ := hQ_8
    have N_8 := Fr.app N_7 N_8q
    show Goes pP eE bB _ (T_8.setTop (mkF mM 58 #[.val (.int p1), .val (.int p2), .val (.long ((p1.toInt64) - (48 : Int64))), .second, .val (.int (0 : Int32)), .val (.int (nar .char (nar .char ((own_dg k &&& (255 : Int32)).toUInt32.toUInt16.toUInt32.toInt32))))] [(.int (own_v_dig (nar .char (nar .char ((own_dg k &&& (255 : Int32)).toUInt32.toUInt16.toUInt32.toInt32)))))]))
    have hb_9 : ¬ ((own_v_dig (nar .char (nar .char ((own_dg k &&& (255 : Int32)).toUInt32.toUInt16.toUInt32.toInt32)))) = (0 : Int32)) := (by rw [own_isd hk9]; decide)
    refine Goes.step (fun _ kK => XS.ifYes X_8.here hx rfl (pc0 := 58) (pc' := 63) rfl (hb hby at_58) rfl ((if0 _ _).trans (feq hb_9).2) (by decide) (by decide) kK) ?_
    show Goes pP eE bB _ (T_8.setTop (mkF mM 63 #[.val (.int p1), .val (.int p2), .val (.long ((p1.toInt64) - (48 : Int64))), .second, .val (.int (0 : Int32)), .val (.int (nar .char (nar .char ((own_dg k &&& (255 : Int32)).toUInt32.toUInt16.toUInt32.toInt32))))] []))
    refine Goes.step (fun _ kK => XS.bipush X_8.here hx rfl (hb hby at_63) kK) ?_
    show Goes pP eE bB _ (T_8.setTop (mkF mM 65 #[.val (.int p1), .val (.int p2), .val (.long ((p1.toInt64) - (48 : Int64))), .second, .val (.int (0 : Int32)), .val (.int (nar .char (nar .char ((own_dg k &&& (255 : Int32)).toUInt32.toUInt16.toUInt32.toInt32))))] [(.int (47 : Int32))]))
    refine Goes.callS X_8 hx hZ hown (hw _ (List.mem_of_getElem? (i := 1) rfl)) (hw _ (List.mem_of_getElem? (i := 2) rfl)) (hw _ (List.mem_of_getElem? (i := 3) rfl)) (hw _ (List.mem_of_getElem? (i := 4) rfl)) (by decide) e_8 (rm_dig l Z a0 hw (47 : Int32) h_4 n0 u_5) (W := 0) (by decide) (by decide) (by decide) (by decide) (g := (mkF mM 65 #[.val (.int p1), .val (.int p2), .val (.long ((p1.toInt64) - (48 : Int64))), .second, .val (.int (0 : Int32)), .val (.int (nar .char (nar .char ((own_dg k &&& (255 : Int32)).toUInt32.toUInt16.toUInt32.toInt32))))] [(.int (47 : Int32))])) rfl (by rw [hml]; rfl) (rest := []) own_pd4 rfl rfl (by show 2 * 0 + _ ≤ _; exact Nat.le_of_eq rfl) (hb hby at_65) ?_
    intro v_10 T_10 L_10 X_10 hQ_10
    obtain ⟨rfl, N_10q, e_10⟩ := hQ_10
    have N_10 := Fr.app N_8 N_10q
    show Goes pP eE bB _ (T_10.setTop (mkF mM 68 #[.val (.int p1), .val (.int p2), .val (.long ((p1.toInt64) - (48 : Int64))), .second, .val (.int (0 : Int32)), .val (.int (nar .char (nar .char ((own_dg k &&& (255 : Int32)).toUInt32.toUInt16.toUInt32.toInt32))))] [(.int (own_v_dig (47 : Int32)))]))
    refine Goes.step (fun _ kK => XS.ifNo X_10.here hx rfl (hb hby at_68) rfl ((if0 _ _).trans (teq (by decide)).2) kK) ?_
    show Goes pP eE bB _ (T_10.setTop (mkF mM 71 #[.val (.int p1), .val (.int p2), .val (.long ((p1.toInt64) - (48 : Int64))), .second, .val (.int (0 : Int32)), .val (.int (nar .char (nar .char ((own_dg k &&& (255 : Int32)).toUInt32.toUInt16.toUInt32.toInt32))))] []))
    refine Goes.step (fun _ kK => XS.bipush X_10.here hx rfl (hb hby at_71) kK) ?_
    show Goes pP eE bB _ (T_10.setTop (mkF mM 73 #[.val (.int p1), .val (.int p2), .val (.long ((p1.toInt64) - (48 : Int64))), .second, .val (.int (0 : Int32)), .val (.int (nar .char (nar .char ((own_dg k &&& (255 : Int32)).toUInt32.toUInt16.toUInt32.toInt32))))] [(.int (58 : Int32))]))
    refine Goes.callS X_10 hx hZ hown (hw _ (List.mem_of_getElem? (i := 1) rfl)) (hw _ (List.mem_of_getElem? (i := 2) rfl)) (hw _ (List.mem_of_getElem? (i := 3) rfl)) (hw _ (List.mem_of_getElem? (i := 4) rfl)) (by decide) e_10 (rm_dig l Z a0 hw (58 : Int32) h_4 n0 u_5) (W := 0) (by decide) (by decide) (by decide) (by decide) (g := (mkF mM 73 #[.val (.int p1), .val (.int p2), .val (.long ((p1.toInt64) - (48 : Int64))), .second, .val (.int (0 : Int32)), .val (.int (nar .char (nar .char ((own_dg k &&& (255 : Int32)).toUInt32.toUInt16.toUInt32.toInt32))))] [(.int (58 : Int32))])) rfl (by rw [hml]; rfl) (rest := []) own_pd4 rfl rfl (by show 2 * 0 + _ ≤ _; exact Nat.le_of_eq rfl) (hb hby at_73) ?_
    intro v_11 T_11 L_11 X_11 hQ_11
    obtain ⟨rfl, N_11q, e_11⟩ := hQ_11
    have N_11 := Fr.app N_10 N_11q
    show Goes pP eE bB _ (T_11.setTop (mkF mM 76 #[.val (.int p1), .val (.int p2), .val (.long ((p1.toInt64) - (48 : Int64))), .second, .val (.int (0 : Int32)), .val (.int (nar .char (nar .char ((own_dg k &&& (255 : Int32)).toUInt32.toUInt16.toUInt32.toInt32))))] [(.int (own_v_dig (58 : Int32)))]))
    refine Goes.step (fun _ kK => XS.ifNo X_11.here hx rfl (hb hby at_76) rfl ((if0 _ _).trans (teq (by decide)).2) kK) ?_
    show Goes pP eE bB _ (T_11.setTop (mkF mM 79 #[.val (.int p1), .val (.int p2), .val (.long ((p1.toInt64) - (48 : Int64))), .second, .val (.int (0 : Int32)), .val (.int (nar .char (nar .char ((own_dg k &&& (255 : Int32)).toUInt32.toUInt16.toUInt32.toInt32))))] []))
    refine Goes.step (fun _ kK => XS.bipush X_11.here hx rfl (hb hby at_79) kK) ?_
    show Goes pP eE bB _ (T_11.setTop (mkF mM 81 #[.val (.int p1), .val (.int p2), .val (.long ((p1.toInt64) - (48 : Int64))), .second, .val (.int (0 : Int32)), .val (.int (nar .char (nar .char ((own_dg k &&& (255 : Int32)).toUInt32.toUInt16.toUInt32.toInt32))))] [(.int (48 : Int32))]))
    refine Goes.callS X_11 hx hZ hown (hw _ (List.mem_of_getElem? (i := 1) rfl)) (hw _ (List.mem_of_getElem? (i := 2) rfl)) (hw _ (List.mem_of_getElem? (i := 3) rfl)) (hw _ (List.mem_of_getElem? (i := 4) rfl)) (by decide) e_11 (rm_dig l Z a0 hw (48 : Int32) h_4 n0 u_5) (W := 0) (by decide) (by decide) (by decide) (by decide) (g := (mkF mM 81 #[.val (.int p1), .val (.int p2), .val (.long ((p1.toInt64) - (48 : Int64))), .second, .val (.int (0 : Int32)), .val (.int (nar .char (nar .char ((own_dg k &&& (255 : Int32)).toUInt32.toUInt16.toUInt32.toInt32))))] [(.int (48 : Int32))])) rfl (by rw [hml]; rfl) (rest := []) own_pd4 rfl rfl (by show 2 * 0 + _ ≤ _; exact Nat.le_of_eq rfl) (hb hby at_81) ?_
    intro v_12 T_12 L_12 X_12 hQ_12
    obtain ⟨rfl, N_12q, e_12⟩ := hQ_12
    have N_12 := Fr.app N_11 N_12q
    show Goes pP eE bB _ (T_12.setTop (mkF mM 84 #[.val (.int p1), .val (.int p2), .val (.long ((p1.toInt64) - (48 : Int64))), .second, .val (.int (0 : Int32)), .val (.int (nar .char (nar .char ((own_dg k &&& (255 : Int32)).toUInt32.toUInt16.toUInt32.toInt32))))] [(.int (own_v_dig (48 : Int32)))]))
    refine Goes.step (fun _ kK => XS.ifNo X_12.here hx rfl (hb hby at_84) rfl ((if0 _ _).trans (feq (by decide)).1) kK) ?_
    show Goes pP eE bB _ (T_12.setTop (mkF mM 87 #[.val (.int p1), .val (.int p2), .val (.long ((p1.toInt64) - (48 : Int64))), .second, .val (.int (0 : Int32)), .val (.int (nar .char (nar .char ((own_dg k &&& (255 : Int32)).toUInt32.toUInt16.toUInt32.toInt32))))] []))
    refine Goes.step (fun _ kK => XS.bipush X_12.here hx rfl (hb hby at_87) kK) ?_
    show Goes pP eE bB _ (T_12.setTop (mkF mM 89 #[.val (.int p1), .val (.int p2), .val (.long ((p1.toInt64) - (48 : Int64))), .second, .val (.int (0 : Int32)), .val (.int (nar .char (nar .char ((own_dg k &&& (255 : Int32)).toUInt32.toUInt16.toUInt32.toInt32))))] [(.int (57 : Int32))]))
    refine Goes.callS X_12 hx hZ hown (hw _ (List.mem_of_getElem? (i := 1) rfl)) (hw _ (List.mem_of_getElem? (i := 2) rfl)) (hw _ (List.mem_of_getElem? (i := 3) rfl)) (hw _ (List.mem_of_getElem? (i := 4) rfl)) (by decide) e_12 (rm_dig l Z a0 hw (57 : Int32) h_4 n0 u_5) (W := 0) (by decide) (by decide) (by decide) (by decide) (g := (mkF mM 89 #[.val (.int p1), .val (.int p2), .val (.long ((p1.toInt64) - (48 : Int64))), .second, .val (.int (0 : Int32)), .val (.int (nar .char (nar .char ((own_dg k &&& (255 : Int32)).toUInt32.toUInt16.toUInt32.toInt32))))] [(.int (57 : Int32))])) rfl (by rw [hml]; rfl) (rest := []) own_pd4 rfl rfl (by show 2 * 0 + _ ≤ _; exact Nat.le_of_eq rfl) (hb hby at_89) ?_
    intro v_13 T_13 L_13 X_13 hQ_13
    obtain ⟨rfl, N_13q, e_13⟩ := hQ_13
    have N_13 := Fr.app N_12 N_13q
    show Goes pP eE bB _ (T_13.setTop (mkF mM 92 #[.val (.int p1), .val (.int p2), .val (.long ((p1.toInt64) - (48 : Int64))), .second, .val (.int (0 : Int32)), .val (.int (nar .char (nar .char ((own_dg k &&& (255 : Int32)).toUInt32.toUInt16.toUInt32.toInt32))))] [(.int (own_v_dig (57 : Int32)))]))
    refine Goes.step (fun _ kK => XS.ifNo X_13.here hx rfl (hb hby at_92) rfl ((if0 _ _).trans (feq (by decide)).1) kK) ?_
    show Goes pP eE bB _ (T_13.setTop (mkF mM 95 #[.val (.int p1), .val (.int p2), .val (.long ((p1.toInt64) - (48 : Int64))), .second, .val (.int (0 : Int32)), .val (.int (nar .char (nar .char ((own_dg k &&& (255 : Int32)).toUInt32.toUInt16.toUInt32.toInt32))))] []))
    refine Goes.step (fun _ kK => XS.iconst X_13.here hx rfl (hb hby at_95) kK) ?_
    show Goes pP eE bB _ (T_13.setTop (mkF mM 96 #[.val (.int p1), .val (.int p2), .val (.long ((p1.toInt64) - (48 : Int64))), .second, .val (.int (0 : Int32)), .val (.int (nar .char (nar .char ((own_dg k &&& (255 : Int32)).toUInt32.toUInt16.toUInt32.toInt32))))] [(.int (1 : Int32))]))
    refine Goes.step (fun _ kK => XS.goto X_13.here hx rfl (pc0 := 96) (pc' := 100) rfl (hb hby at_96) (by decide) (by decide) kK) ?_
    show Goes pP eE bB _ (T_13.setTop (mkF mM 100 #[.val (.int p1), .val (.int p2), .val (.long ((p1.toInt64) - (48 : Int64))), .second, .val (.int (0 : Int32)), .val (.int (nar .char (nar .char ((own_dg k &&& (255 : Int32)).toUInt32.toUInt16.toUInt32.toInt32))))] [(.int (1 : Int32))]))
    refine Goes.retNW X_13 hS (by rw [e_13]; exact hk_4) hx hlk (t := .boolean) hret (by simp) (hb hby at_100) (by decide) (by decide) ?_
    exact ⟨rfl, N_13⟩
  · refine Goes.step (fun _ kK => XS.ifNo X0.here hx rfl (hb hby at_10) rfl ((if0 _ _).trans (flt (fun q => hc_1 (jlt.mp q))).1) kK) ?_
    show Goes pP eE bB _ (s₁.setTop (mkF mM 13 #[.val (.int p1), .val (.int p2), .val (.long ((p1.toInt64) - (48 : Int64))), .second, .unset, .unset] []))
    refine Goes.step (fun _ kK => XS.lloadN X0.here hx rfl (hb hby at_13) rfl kK) ?_
    show Goes pP eE bB _ (s₁.setTop (mkF mM 14 #[.val (.int p1), .val (.int p2), .val (.long ((p1.toInt64) - (48 : Int64))), .second, .unset, .unset] [(.long ((p1.toInt64) - (48 : Int64)))]))
    refine Goes.step (fun _ kK => X0.ldc2J hx hown (mvT hZ (hw _ (List.mem_of_getElem? (i := 39) rfl))) rfl (hb hby at_14) kK) ?_
    show Goes pP eE bB _ (s₁.setTop (mkF mM 17 #[.val (.int p1), .val (.int p2), .val (.long ((p1.toInt64) - (48 : Int64))), .second, .unset, .unset] [(.long (10 : Int64)), (.long ((p1.toInt64) - (48 : Int64)))]))
    refine Goes.step (fun _ kK => XS.lcmp X0.here hx rfl (hb hby at_17) rfl kK) ?_
    show Goes pP eE bB _ (s₁.setTop (mkF mM 18 #[.val (.int p1), .val (.int p2), .val (.long ((p1.toInt64) - (48 : Int64))), .second, .unset, .unset] [(.int (lcmpW ((p1.toInt64) - (48 : Int64)) (10 : Int64)))]))
    by_cases hc_14 : ((p1.toInt64) - (48 : Int64)) < (10 : Int64)
    · refine Goes.step (fun _ kK => XS.ifNo X0.here hx rfl (hb hby at_18) rfl ((if0 _ _).trans (tlt (jlt.mpr hc_14)).2.1) kK) ?_
      show Goes pP eE bB _ (s₁.setTop (mkF mM 21 #[.val (.int p1), .val (.int p2), .val (.long ((p1.toInt64) - (48 : Int64))), .second, .unset, .unset] []))
      refine Goes.step (fun _ kK => XS.iconst X0.here hx rfl (hb hby at_21) kK) ?_
      show Goes pP eE bB _ (s₁.setTop (mkF mM 22 #[.val (.int p1), .val (.int p2), .val (.long ((p1.toInt64) - (48 : Int64))), .second, .unset, .unset] [(.int (1 : Int32))]))
      refine Goes.step (fun _ kK => XS.goto X0.here hx rfl (pc0 := 22) (pc' := 26) rfl (hb hby at_22) (by decide) (by decide) kK) ?_
      show Goes pP eE bB _ (s₁.setTop (mkF mM 26 #[.val (.int p1), .val (.int p2), .val (.long ((p1.toInt64) - (48 : Int64))), .second, .unset, .unset] [(.int (1 : Int32))]))
      refine Goes.step (fun _ kK => XS.istore X0.here hx rfl (hb hby at_26) rfl (l' := #[.val (.int p1), .val (.int p2), .val (.long ((p1.toInt64) - (48 : Int64))), .second, .val (.int (1 : Int32)), .unset]) rfl kK) ?_
      show Goes pP eE bB _ (s₁.setTop (mkF mM 28 #[.val (.int p1), .val (.int p2), .val (.long ((p1.toInt64) - (48 : Int64))), .second, .val (.int (1 : Int32)), .unset] []))
      refine Goes.step (fun _ kK => XS.iloadN X0.here hx rfl (hb hby at_28) rfl kK) ?_
      show Goes pP eE bB _ (s₁.setTop (mkF mM 29 #[.val (.int p1), .val (.int p2), .val (.long ((p1.toInt64) - (48 : Int64))), .second, .val (.int (1 : Int32)), .unset] [(.int p1)]))
      refine Goes.callS X0 hx hZ hown (hw _ (List.mem_of_getElem? (i := 1) rfl)) (hw _ (List.mem_of_getElem? (i := 2) rfl)) (hw _ (List.mem_of_getElem? (i := 3) rfl)) (hw _ (List.mem_of_getElem? (i := 4) rfl)) (by decide) e0 (rm_dig l Z a0 hw p1 h0 n0 Z0) (W := 0) (by decide) (by decide) (by decide) (by decide) (g := (mkF mM 29 #[.val (.int p1), .val (.int p2), .val (.long ((p1.toInt64) - (48 : Int64))), .second, .val (.int (1 : Int32)), .unset] [(.int p1)])) rfl (by rw [hml]; rfl) (rest := []) own_pd4 rfl rfl (by show 2 * 0 + _ ≤ _; exact Nat.le_of_eq rfl) (hb hby at_29) ?_
      intro v_15 T_15 L_15 X_15 hQ_15
      obtain ⟨rfl, N_15q, e_15⟩ := hQ_15
      have N_15 := Fr.app N0 N_15q
      show Goes pP eE bB _ (T_15.setTop (mkF mM 32 #[.val (.int p1), .val (.int p2), .val (.long ((p1.toInt64) - (48 : Int64))), .second, .val (.int (1 : Int32)), .unset] [(.int (own_v_dig p1))]))
      refine Goes.step (fun _ kK => XS.iload X_15.here hx rfl (hb hby at_32) rfl kK) ?_
      show Goes pP eE bB _ (T_15.setTop (mkF mM 34 #[.val (.int p1), .val (.int p2), .val (.long ((p1.toInt64) - (48 : Int64))), .second, .val (.int (1 : Int32)), .unset] [(.int (1 : Int32)), (.int (own_v_dig p1))]))
      have hb_16 : (own_v_dig p1) = (1 : Int32) := (by have z0 := hc_1; rw [Int64.lt_iff_toInt_lt, own_d] at z0; have z1 := hc_14; rw [Int64.lt_iff_toInt_lt, own_d] at z1;  simp only [show (0 : Int64).toInt = 0 from by decide, show (10 : Int64).toInt = 10 from by decide] at *; unfold own_v_dig; simp only [Int32.lt_iff_toInt_lt, show (48 : Int32).toInt = 48 from by decide, show (57 : Int32).toInt = 57 from by decide]; (repeat' split) <;> first | rfl | omega)
      refine Goes.step (fun _ kK => XS.icmpYes X_15.here hx rfl (pc0 := 34) (pc' := 39) rfl (hb hby at_34) rfl (teq hb_16).1 (by decide) (by decide) kK) ?_
      show Goes pP eE bB _ (T_15.setTop (mkF mM 39 #[.val (.int p1), .val (.int p2), .val (.long ((p1.toInt64) - (48 : Int64))), .second, .val (.int (1 : Int32)), .unset] []))
      refine Goes.ldcSV X_15 hx hZ hown (hw _ (List.mem_of_getElem? (i := 5) rfl)) (own_wS hw) e_15 hS (Nat.le_refl h0.size) hsz (hn0 ▸ N_15) hI hheld hcw own_text (z := (10 : Int32)) (nl := 10) (by decide) rfl (g := (mkF mM 39 #[.val (.int p1), .val (.int p2), .val (.long ((p1.toInt64) - (48 : Int64))), .second, .val (.int (1 : Int32)), .unset] [])) rfl (hb hby at_39) (n := 40) (by decide) (by decide) (by decide) (by decide) ?_
      intro a_17 T_17 h_17 k_17 b_17 X_17 e_17 E_17 hS hk_17 hZ hown M_17 Fc_17 Fv_17 A_17
      show Goes pP eE bB _ (T_17.setTop (mkF mM 41 #[.val (.int p1), .val (.int p2), .val (.long ((p1.toInt64) - (48 : Int64))), .second, .val (.int (1 : Int32)), .unset] [(.ref a_17)]))
      refine Goes.step (fun _ kK => XS.iloadN X_17.here hx rfl (hb hby at_41) rfl kK) ?_
      show Goes pP eE bB _ (T_17.setTop (mkF mM 42 #[.val (.int p1), .val (.int p2), .val (.long ((p1.toInt64) - (48 : Int64))), .second, .val (.int (1 : Int32)), .unset] [(.int p2), (.ref a_17)]))
      refine Goes.step (fun _ kK => X_17.ldcI hx hown (mvT hZ (hw _ (List.mem_of_getElem? (i := 13) rfl))) rfl (hb hby at_42) kK) ?_
      show Goes pP eE bB _ (T_17.setTop (mkF mM 44 #[.val (.int p1), .val (.int p2), .val (.long ((p1.toInt64) - (48 : Int64))), .second, .val (.int (1 : Int32)), .unset] [(.int (2147483647 : Int32)), (.int p2), (.ref a_17)]))
      refine Goes.step (fun _ kK => XS.iand X_17.here hx rfl (hb hby at_44) rfl kK) ?_
      show Goes pP eE bB _ (T_17.setTop (mkF mM 45 #[.val (.int p1), .val (.int p2), .val (.long ((p1.toInt64) - (48 : Int64))), .second, .val (.int (1 : Int32)), .unset] [(.int (p2 &&& (2147483647 : Int32))), (.ref a_17)]))
      refine Goes.step (fun _ kK => XS.bipush X_17.here hx rfl (hb hby at_45) kK) ?_
      show Goes pP eE bB _ (T_17.setTop (mkF mM 47 #[.val (.int p1), .val (.int p2), .val (.long ((p1.toInt64) - (48 : Int64))), .second, .val (.int (1 : Int32)), .unset] [(.int (10 : Int32)), (.int (p2 &&& (2147483647 : Int32))), (.ref a_17)]))
      refine Goes.step (fun _ kK => Jvm.RoadKit.iremM X_17 hx rfl (hb hby at_47) rfl (by decide) kK) ?_
      show Goes pP eE bB _ (T_17.setTop (mkF mM 48 #[.val (.int p1), .val (.int p2), .val (.long ((p1.toInt64) - (48 : Int64))), .second, .val (.int (1 : Int32)), .unset] [(.int ((p2 &&& (2147483647 : Int32)) % (10 : Int32))), (.ref a_17)]))
      obtain ⟨k, hk, hk9⟩ := own_mod10 p2
      have hlo : ¬ (((p2 &&& (2147483647 : Int32)) % (10 : Int32)) < (0 : Int32)) := by rw [Int32.lt_iff_toInt_lt, hk, show (0 : Int32).toInt = 0 from by decide]; omega
      have hhi : ((p2 &&& (2147483647 : Int32)) % (10 : Int32)) < (10 : Int32) := by rw [Int32.lt_iff_toInt_lt, hk, show (10 : Int32).toInt = 10 from by decide]; omega
      have u_18 := Nat.le_trans Z0 E_17.1
      have u_19 := O0.ext E_17
      refine Goes.callV X_17 hx hZ hown (hw _ (List.mem_of_getElem? (i := 14) rfl)) (hw _ (List.mem_of_getElem? (i := 15) rfl)) (notFace_of_selects (args := #[]) (mvT hZ (hw _ (List.mem_of_getElem? (i := 17) rfl)))) (hw _ (List.mem_of_getElem? (i := 17) rfl)) (hw _ (List.mem_of_getElem? (i := 16) rfl)) (hw _ (List.mem_of_getElem? (i := 18) rfl)) (hw _ (List.mem_of_getElem? (i := 6) rfl)) (by decide) e_17 M_17 (rmCA l Z a0 hw a_17 b_17 ((p2 &&& (2147483647 : Int32)) % (10 : Int32)) sf (own_dg k) cs h_17 n0 u_18 hlo hhi rsf Ssf Scs hcs u_19 Fc_17 M_17 Fv_17 _ A_17 k hk hk9 (own_at hk9)) (W := 0) (by decide) (by decide) (by decide) (by decide) (g := (mkF mM 48 #[.val (.int p1), .val (.int p2), .val (.long ((p1.toInt64) - (48 : Int64))), .second, .val (.int (1 : Int32)), .unset] [(.int ((p2 &&& (2147483647 : Int32)) % (10 : Int32))), (.ref a_17)])) rfl (by rw [hml]; rfl) (rest := []) own_pd5 rfl rfl (by show 2 * 0 + _ ≤ _; exact Nat.le_of_eq rfl) (hb hby at_48) ?_
      intro v_20 T_20 L_20 X_20 hQ_20
      obtain ⟨rfl, N_20q, e_20⟩ := hQ_20
      have N_20 := Fr.app N_15 N_20q
      show Goes pP eE bB _ (T_20.setTop (mkF mM 51 #[.val (.int p1), .val (.int p2), .val (.long ((p1.toInt64) - (48 : Int64))), .second, .val (.int (1 : Int32)), .unset] [(.int (nar .char (nar .char ((own_dg k &&& (255 : Int32)).toUInt32.toUInt16.toUInt32.toInt32))))]))
      refine Goes.step (fun _ kK => XS.istore X_20.here hx rfl (hb hby at_51) rfl (l' := #[.val (.int p1), .val (.int p2), .val (.long ((p1.toInt64) - (48 : Int64))), .second, .val (.int (1 : Int32)), .val (.int (nar .char (nar .char ((own_dg k &&& (255 : Int32)).toUInt32.toUInt16.toUInt32.toInt32))))]) rfl kK) ?_
      show Goes pP eE bB _ (T_20.setTop (mkF mM 53 #[.val (.int p1), .val (.int p2), .val (.long ((p1.toInt64) - (48 : Int64))), .second, .val (.int (1 : Int32)), .val (.int (nar .char (nar .char ((own_dg k &&& (255 : Int32)).toUInt32.toUInt16.toUInt32.toInt32))))] []))
      refine Goes.step (fun _ kK => XS.iload X_20.here hx rfl (hb hby at_53) rfl kK) ?_
      show Goes pP eE bB _ (T_20.setTop (mkF mM 55 #[.val (.int p1), .val (.int p2), .val (.long ((p1.toInt64) - (48 : Int64))), .second, .val (.int (1 : Int32)), .val (.int (nar .char (nar .char ((own_dg k &&& (255 : Int32)).toUInt32.toUInt16.toUInt32.toInt32))))] [(.int (nar .char (nar .char ((own_dg k &&& (255 : Int32)).toUInt32.toUInt16.toUInt32.toInt32))))]))
      refine Goes.callS X_20 hx hZ hown (hw _ (List.mem_of_getElem? (i := 1) rfl)) (hw _ (List.mem_of_getElem? (i := 2) rfl)) (hw _ (List.mem_of_getElem? (i := 3) rfl)) (hw _ (List.mem_of_getElem? (i := 4) rfl)) (by decide) e_20 (rm_dig l Z a0 hw (nar .char (nar .char ((own_dg k &&& (255 : Int32)).toUInt32.toUInt16.toUInt32.toInt32))) h_17 n0 u_18) (W := 0) (by decide) (by decide) (by decide) (by decide) (g := (mkF mM 55 #[.val (.int p1), .val (.int p2), .val (.long ((p1.toInt64) - (48 : Int64))), .second, .val (.int (1 : Int32)), .val (.int (nar .char (nar .char ((own_dg k &&& (255 : Int32)).toUInt32.toUInt16.toUInt32.toInt32))))] [(.int (nar .char (nar .char ((own_dg k &&& (255 : Int32)).toUInt32.toUInt16.toUInt32.toInt32))))])) rfl (by rw [hml]; rfl) (rest := []) own_pd4 rfl rfl (by show 2 * 0 + _ ≤ _; exact Nat.le_of_eq rfl) (hb hby at_55) ?_
      intro v_21 T_21 L_21 X_21 hQ_21
      obtain ⟨rfl, N_21q, e_21⟩ := hQ_21
      have N_21 := Fr.app N_20 N_21q
      show Goes pP eE bB _ (T_21.setTop (mkF mM 58 #[.val (.int p1), .val (.int p2), .val (.long ((p1.toInt64) - (48 : Int64))), .second, .val (.int (1 : Int32)), .val (.int (nar .char (nar .char ((own_dg k &&& (255 : Int32)).toUInt32.toUInt16.toUInt32.toInt32))))] [(.int (own_v_dig (nar .char (nar .char ((own_dg k &&& (255 : Int32)).toUInt32.toUInt16.toUInt32.toInt32)))))]))
      have hb_22 : ¬ ((own_v_dig (nar .char (nar .char ((own_dg k &&& (255 : Int32)).toUInt32.toUInt16.toUInt32.toInt32)))) = (0 : Int32)) := (by rw [own_isd hk9]; decide)
      refine Goes.step (fun _ kK => XS.ifYes X_21.here hx rfl (pc0 := 58) (pc' := 63) rfl (hb hby at_58) rfl ((if0 _ _).trans (feq hb_22).2) (by decide) (by decide) kK) ?_
      show Goes pP eE bB _ (T_21.setTop (mkF mM 63 #[.val (.int p1), .val (.int p2), .val (.long ((p1.toInt64) - (48 : Int64))), .second, .val (.int (1 : Int32)), .val (.int (nar .char (nar .char ((own_dg k &&& (255 : Int32)).toUInt32.toUInt16.toUInt32.toInt32))))] []))
      refine Goes.step (fun _ kK => XS.bipush X_21.here hx rfl (hb hby at_63) kK) ?_
      show Goes pP eE bB _ (T_21.setTop (mkF mM 65 #[.val (.int p1), .val (.int p2), .val (.long ((p1.toInt64) - (48 : Int64))), .second, .val (.int (1 : Int32)), .val (.int (nar .char (nar .char ((own_dg k &&& (255 : Int32)).toUInt32.toUInt16.toUInt32.toInt32))))] [(.int (47 : Int32))]))
      refine Goes.callS X_21 hx hZ hown (hw _ (List.mem_of_getElem? (i := 1) rfl)) (hw _ (List.mem_of_getElem? (i := 2) rfl)) (hw _ (List.mem_of_getElem? (i := 3) rfl)) (hw _ (List.mem_of_getElem? (i := 4) rfl)) (by decide) e_21 (rm_dig l Z a0 hw (47 : Int32) h_17 n0 u_18) (W := 0) (by decide) (by decide) (by decide) (by decide) (g := (mkF mM 65 #[.val (.int p1), .val (.int p2), .val (.long ((p1.toInt64) - (48 : Int64))), .second, .val (.int (1 : Int32)), .val (.int (nar .char (nar .char ((own_dg k &&& (255 : Int32)).toUInt32.toUInt16.toUInt32.toInt32))))] [(.int (47 : Int32))])) rfl (by rw [hml]; rfl) (rest := []) own_pd4 rfl rfl (by show 2 * 0 + _ ≤ _; exact Nat.le_of_eq rfl) (hb hby at_65) ?_
      intro v_23 T_23 L_23 X_23 hQ_23
      obtain ⟨rfl, N_23q, e_23⟩ := hQ_23
      have N_23 := Fr.app N_21 N_23q
      show Goes pP eE bB _ (T_23.setTop (mkF mM 68 #[.val (.int p1), .val (.int p2), .val (.long ((p1.toInt64) - (48 : Int64))), .second, .val (.int (1 : Int32)), .val (.int (nar .char (nar .char ((own_dg k &&& (255 : Int32)).toUInt32.toUInt16.toUInt32.toInt32))))] [(.int (own_v_dig (47 : Int32)))]))
      refine Goes.step (fun _ kK => XS.ifNo X_23.here hx rfl (hb hby at_68) rfl ((if0 _ _).trans (teq (by decide)).2) kK) ?_
      show Goes pP eE bB _ (T_23.setTop (mkF mM 71 #[.val (.int p1), .val (.int p2), .val (.long ((p1.toInt64) - (48 : Int64))), .second, .val (.int (1 : Int32)), .val (.int (nar .char (nar .char ((own_dg k &&& (255 : Int32)).toUInt32.toUInt16.toUInt32.toInt32))))] []))
      refine Goes.step (fun _ kK => XS.bipush X_23.here hx rfl (hb hby at_71) kK) ?_
      show Goes pP eE bB _ (T_23.setTop (mkF mM 73 #[.val (.int p1), .val (.int p2), .val (.long ((p1.toInt64) - (48 : Int64))), .second, .val (.int (1 : Int32)), .val (.int (nar .char (nar .char ((own_dg k &&& (255 : Int32)).toUInt32.toUInt16.toUInt32.toInt32))))] [(.int (58 : Int32))]))
      refine Goes.callS X_23 hx hZ hown (hw _ (List.mem_of_getElem? (i := 1) rfl)) (hw _ (List.mem_of_getElem? (i := 2) rfl)) (hw _ (List.mem_of_getElem? (i := 3) rfl)) (hw _ (List.mem_of_getElem? (i := 4) rfl)) (by decide) e_23 (rm_dig l Z a0 hw (58 : Int32) h_17 n0 u_18) (W := 0) (by decide) (by decide) (by decide) (by decide) (g := (mkF mM 73 #[.val (.int p1), .val (.int p2), .val (.long ((p1.toInt64) - (48 : Int64))), .second, .val (.int (1 : Int32)), .val (.int (nar .char (nar .char ((own_dg k &&& (255 : Int32)).toUInt32.toUInt16.toUInt32.toInt32))))] [(.int (58 : Int32))])) rfl (by rw [hml]; rfl) (rest := []) own_pd4 rfl rfl (by show 2 * 0 + _ ≤ _; exact Nat.le_of_eq rfl) (hb hby at_73) ?_
      intro v_24 T_24 L_24 X_24 hQ_24
      obtain ⟨rfl, N_24q, e_24⟩ := hQ_24
      have N_24 := Fr.app N_23 N_24q
      show Goes pP eE bB _ (T_24.setTop (mkF mM 76 #[.val (.int p1), .val (.int p2), .val (.long ((p1.toInt64) - (48 : Int64))), .second, .val (.int (1 : Int32)), .val (.int (nar .char (nar .char ((own_dg k &&& (255 : Int32)).toUInt32.toUInt16.toUInt32.toInt32))))] [(.int (own_v_dig (58 : Int32)))]))
      refine Goes.step (fun _ kK => XS.ifNo X_24.here hx rfl (hb hby at_76) rfl ((if0 _ _).trans (teq (by decide)).2) kK) ?_
      show Goes pP eE bB _ (T_24.setTop (mkF mM 79 #[.val (.int p1), .val (.int p2), .val (.long ((p1.toInt64) - (48 : Int64))), .second, .val (.int (1 : Int32)), .val (.int (nar .char (nar .char ((own_dg k &&& (255 : Int32)).toUInt32.toUInt16.toUInt32.toInt32))))] []))
      refine Goes.step (fun _ kK => XS.bipush X_24.here hx rfl (hb hby at_79) kK) ?_
      show Goes pP eE bB _ (T_24.setTop (mkF mM 81 #[.val (.int p1), .val (.int p2), .val (.long ((p1.toInt64) - (48 : Int64))), .second, .val (.int (1 : Int32)), .val (.int (nar .char (nar .char ((own_dg k &&& (255 : Int32)).toUInt32.toUInt16.toUInt32.toInt32))))] [(.int (48 : Int32))]))
      refine Goes.callS X_24 hx hZ hown (hw _ (List.mem_of_getElem? (i := 1) rfl)) (hw _ (List.mem_of_getElem? (i := 2) rfl)) (hw _ (List.mem_of_getElem? (i := 3) rfl)) (hw _ (List.mem_of_getElem? (i := 4) rfl)) (by decide) e_24 (rm_dig l Z a0 hw (48 : Int32) h_17 n0 u_18) (W := 0) (by decide) (by decide) (by decide) (by decide) (g := (mkF mM 81 #[.val (.int p1), .val (.int p2), .val (.long ((p1.toInt64) - (48 : Int64))), .second, .val (.int (1 : Int32)), .val (.int (nar .char (nar .char ((own_dg k &&& (255 : Int32)).toUInt32.toUInt16.toUInt32.toInt32))))] [(.int (48 : Int32))])) rfl (by rw [hml]; rfl) (rest := []) own_pd4 rfl rfl (by show 2 * 0 + _ ≤ _; exact Nat.le_of_eq rfl) (hb hby at_81) ?_
      intro v_25 T_25 L_25 X_25 hQ_25
      obtain ⟨rfl, N_25q, e_25⟩ := hQ_25
      have N_25 := Fr.app N_24 N_25q
      show Goes pP eE bB _ (T_25.setTop (mkF mM 84 #[.val (.int p1), .val (.int p2), .val (.long ((p1.toInt64) - (48 : Int64))), .second, .val (.int (1 : Int32)), .val (.int (nar .char (nar .char ((own_dg k &&& (255 : Int32)).toUInt32.toUInt16.toUInt32.toInt32))))] [(.int (own_v_dig (48 : Int32)))]))
      refine Goes.step (fun _ kK => XS.ifNo X_25.here hx rfl (hb hby at_84) rfl ((if0 _ _).trans (feq (by decide)).1) kK) ?_
      show Goes pP eE bB _ (T_25.setTop (mkF mM 87 #[.val (.int p1), .val (.int p2), .val (.long ((p1.toInt64) - (48 : Int64))), .second, .val (.int (1 : Int32)), .val (.int (nar .char (nar .char ((own_dg k &&& (255 : Int32)).toUInt32.toUInt16.toUInt32.toInt32))))] []))
      refine Goes.step (fun _ kK => XS.bipush X_25.here hx rfl (hb hby at_87) kK) ?_
      show Goes pP eE bB _ (T_25.setTop (mkF mM 89 #[.val (.int p1), .val (.int p2), .val (.long ((p1.toInt64) - (48 : Int64))), .second, .val (.int (1 : Int32)), .val (.int (nar .char (nar .char ((own_dg k &&& (255 : Int32)).toUInt32.toUInt16.toUInt32.toInt32))))] [(.int (57 : Int32))]))
      refine Goes.callS X_25 hx hZ hown (hw _ (List.mem_of_getElem? (i := 1) rfl)) (hw _ (List.mem_of_getElem? (i := 2) rfl)) (hw _ (List.mem_of_getElem? (i := 3) rfl)) (hw _ (List.mem_of_getElem? (i := 4) rfl)) (by decide) e_25 (rm_dig l Z a0 hw (57 : Int32) h_17 n0 u_18) (W := 0) (by decide) (by decide) (by decide) (by decide) (g := (mkF mM 89 #[.val (.int p1), .val (.int p2), .val (.long ((p1.toInt64) - (48 : Int64))), .second, .val (.int (1 : Int32)), .val (.int (nar .char (nar .char ((own_dg k &&& (255 : Int32)).toUInt32.toUInt16.toUInt32.toInt32))))] [(.int (57 : Int32))])) rfl (by rw [hml]; rfl) (rest := []) own_pd4 rfl rfl (by show 2 * 0 + _ ≤ _; exact Nat.le_of_eq rfl) (hb hby at_89) ?_
      intro v_26 T_26 L_26 X_26 hQ_26
      obtain ⟨rfl, N_26q, e_26⟩ := hQ_26
      have N_26 := Fr.app N_25 N_26q
      show Goes pP eE bB _ (T_26.setTop (mkF mM 92 #[.val (.int p1), .val (.int p2), .val (.long ((p1.toInt64) - (48 : Int64))), .second, .val (.int (1 : Int32)), .val (.int (nar .char (nar .char ((own_dg k &&& (255 : Int32)).toUInt32.toUInt16.toUInt32.toInt32))))] [(.int (own_v_dig (57 : Int32)))]))
      refine Goes.step (fun _ kK => XS.ifNo X_26.here hx rfl (hb hby at_92) rfl ((if0 _ _).trans (feq (by decide)).1) kK) ?_
      show Goes pP eE bB _ (T_26.setTop (mkF mM 95 #[.val (.int p1), .val (.int p2), .val (.long ((p1.toInt64) - (48 : Int64))), .second, .val (.int (1 : Int32)), .val (.int (nar .char (nar .char ((own_dg k &&& (255 : Int32)).toUInt32.toUInt16.toUInt32.toInt32))))] []))
      refine Goes.step (fun _ kK => XS.iconst X_26.here hx rfl (hb hby at_95) kK) ?_
      show Goes pP eE bB _ (T_26.setTop (mkF mM 96 #[.val (.int p1), .val (.int p2), .val (.long ((p1.toInt64) - (48 : Int64))), .second, .val (.int (1 : Int32)), .val (.int (nar .char (nar .char ((own_dg k &&& (255 : Int32)).toUInt32.toUInt16.toUInt32.toInt32))))] [(.int (1 : Int32))]))
      refine Goes.step (fun _ kK => XS.goto X_26.here hx rfl (pc0 := 96) (pc' := 100) rfl (hb hby at_96) (by decide) (by decide) kK) ?_
      show Goes pP eE bB _ (T_26.setTop (mkF mM 100 #[.val (.int p1), .val (.int p2), .val (.long ((p1.toInt64) - (48 : Int64))), .second, .val (.int (1 : Int32)), .val (.int (nar .char (nar .char ((own_dg k &&& (255 : Int32)).toUInt32.toUInt16.toUInt32.toInt32))))] [(.int (1 : Int32))]))
      refine Goes.retNW X_26 hS (by rw [e_26]; exact hk_17) hx hlk (t := .boolean) hret (by simp) (hb hby at_100) (by decide) (by decide) ?_
      exact ⟨rfl, N_26⟩
    · refine Goes.step (fun _ kK => XS.ifYes X0.here hx rfl (pc0 := 18) (pc' := 25) rfl (hb hby at_18) rfl ((if0 _ _).trans (flt (fun q => hc_14 (jlt.mp q))).2.1) (by decide) (by decide) kK) ?_
      show Goes pP eE bB _ (s₁.setTop (mkF mM 25 #[.val (.int p1), .val (.int p2), .val (.long ((p1.toInt64) - (48 : Int64))), .second, .unset, .unset] []))
      refine Goes.step (fun _ kK => XS.iconst X0.here hx rfl (hb hby at_25) kK) ?_
      show Goes pP eE bB _ (s₁.setTop (mkF mM 26 #[.val (.int p1), .val (.int p2), .val (.long ((p1.toInt64) - (48 : Int64))), .second, .unset, .unset] [(.int (0 : Int32))]))
      refine Goes.step (fun _ kK => XS.istore X0.here hx rfl (hb hby at_26) rfl (l' := #[.val (.int p1), .val (.int p2), .val (.long ((p1.toInt64) - (48 : Int64))), .second, .val (.int (0 : Int32)), .unset]) rfl kK) ?_
      show Goes pP eE bB _ (s₁.setTop (mkF mM 28 #[.val (.int p1), .val (.int p2), .val (.long ((p1.toInt64) - (48 : Int64))), .second, .val (.int (0 : Int32)), .unset] []))
      refine Goes.step (fun _ kK => XS.iloadN X0.here hx rfl (hb hby at_28) rfl kK) ?_
      show Goes pP eE bB _ (s₁.setTop (mkF mM 29 #[.val (.int p1), .val (.int p2), .val (.long ((p1.toInt64) - (48 : Int64))), .second, .val (.int (0 : Int32)), .unset] [(.int p1)]))
      refine Goes.callS X0 hx hZ hown (hw _ (List.mem_of_getElem? (i := 1) rfl)) (hw _ (List.mem_of_getElem? (i := 2) rfl)) (hw _ (List.mem_of_getElem? (i := 3) rfl)) (hw _ (List.mem_of_getElem? (i := 4) rfl)) (by decide) e0 (rm_dig l Z a0 hw p1 h0 n0 Z0) (W := 0) (by decide) (by decide) (by decide) (by decide) (g := (mkF mM 29 #[.val (.int p1), .val (.int p2), .val (.long ((p1.toInt64) - (48 : Int64))), .second, .val (.int (0 : Int32)), .unset] [(.int p1)])) rfl (by rw [hml]; rfl) (rest := []) own_pd4 rfl rfl (by show 2 * 0 + _ ≤ _; exact Nat.le_of_eq rfl) (hb hby at_29) ?_
      intro v_27 T_27 L_27 X_27 hQ_27
      obtain ⟨rfl, N_27q, e_27⟩ := hQ_27
      have N_27 := Fr.app N0 N_27q
      show Goes pP eE bB _ (T_27.setTop (mkF mM 32 #[.val (.int p1), .val (.int p2), .val (.long ((p1.toInt64) - (48 : Int64))), .second, .val (.int (0 : Int32)), .unset] [(.int (own_v_dig p1))]))
      refine Goes.step (fun _ kK => XS.iload X_27.here hx rfl (hb hby at_32) rfl kK) ?_
      show Goes pP eE bB _ (T_27.setTop (mkF mM 34 #[.val (.int p1), .val (.int p2), .val (.long ((p1.toInt64) - (48 : Int64))), .second, .val (.int (0 : Int32)), .unset] [(.int (0 : Int32)), (.int (own_v_dig p1))]))
      have hb_28 : (own_v_dig p1) = (0 : Int32) := (by have z0 := hc_1; rw [Int64.lt_iff_toInt_lt, own_d] at z0; have z1 := hc_14; rw [Int64.lt_iff_toInt_lt, own_d] at z1;  simp only [show (0 : Int64).toInt = 0 from by decide, show (10 : Int64).toInt = 10 from by decide] at *; unfold own_v_dig; simp only [Int32.lt_iff_toInt_lt, show (48 : Int32).toInt = 48 from by decide, show (57 : Int32).toInt = 57 from by decide]; (repeat' split) <;> first | rfl | omega)
      refine Goes.step (fun _ kK => XS.icmpYes X_27.here hx rfl (pc0 := 34) (pc' := 39) rfl (hb hby at_34) rfl (teq hb_28).1 (by decide) (by decide) kK) ?_
      show Goes pP eE bB _ (T_27.setTop (mkF mM 39 #[.val (.int p1), .val (.int p2), .val (.long ((p1.toInt64) - (48 : Int64))), .second, .val (.int (0 : Int32)), .unset] []))
      refine Goes.ldcSV X_27 hx hZ hown (hw _ (List.mem_of_getElem? (i := 5) rfl)) (own_wS hw) e_27 hS (Nat.le_refl h0.size) hsz (hn0 ▸ N_27) hI hheld hcw own_text (z := (10 : Int32)) (nl := 10) (by decide) rfl (g := (mkF mM 39 #[.val (.int p1), .val (.int p2), .val (.long ((p1.toInt64) - (48 : Int64))), .second, .val (.int (0 : Int32)), .unset] [])) rfl (hb hby at_39) (n := 40) (by decide) (by decide) (by decide) (by decide) ?_
      intro a_29 T_29 h_29 k_29 b_29 X_29 e_29 E_29 hS hk_29 hZ hown M_29 Fc_29 Fv_29 A_29
      show Goes pP eE bB _ (T_29.setTop (mkF mM 41 #[.val (.int p1), .val (.int p2), .val (.long ((p1.toInt64) - (48 : Int64))), .second, .val (.int (0 : Int32)), .unset] [(.ref a_29)]))
      refine Goes.step (fun _ kK => XS.iloadN X_29.here hx rfl (hb hby at_41) rfl kK) ?_
      show Goes pP eE bB _ (T_29.setTop (mkF mM 42 #[.val (.int p1), .val (.int p2), .val (.long ((p1.toInt64) - (48 : Int64))), .second, .val (.int (0 : Int32)), .unset] [(.int p2), (.ref a_29)]))
      refine Goes.step (fun _ kK => X_29.ldcI hx hown (mvT hZ (hw _ (List.mem_of_getElem? (i := 13) rfl))) rfl (hb hby at_42) kK) ?_
      show Goes pP eE bB _ (T_29.setTop (mkF mM 44 #[.val (.int p1), .val (.int p2), .val (.long ((p1.toInt64) - (48 : Int64))), .second, .val (.int (0 : Int32)), .unset] [(.int (2147483647 : Int32)), (.int p2), (.ref a_29)]))
      refine Goes.step (fun _ kK => XS.iand X_29.here hx rfl (hb hby at_44) rfl kK) ?_
      show Goes pP eE bB _ (T_29.setTop (mkF mM 45 #[.val (.int p1), .val (.int p2), .val (.long ((p1.toInt64) - (48 : Int64))), .second, .val (.int (0 : Int32)), .unset] [(.int (p2 &&& (2147483647 : Int32))), (.ref a_29)]))
      refine Goes.step (fun _ kK => XS.bipush X_29.here hx rfl (hb hby at_45) kK) ?_
      show Goes pP eE bB _ (T_29.setTop (mkF mM 47 #[.val (.int p1), .val (.int p2), .val (.long ((p1.toInt64) - (48 : Int64))), .second, .val (.int (0 : Int32)), .unset] [(.int (10 : Int32)), (.int (p2 &&& (2147483647 : Int32))), (.ref a_29)]))
      refine Goes.step (fun _ kK => Jvm.RoadKit.iremM X_29 hx rfl (hb hby at_47) rfl (by decide) kK) ?_
      show Goes pP eE bB _ (T_29.setTop (mkF mM 48 #[.val (.int p1), .val (.int p2), .val (.long ((p1.toInt64) - (48 : Int64))), .second, .val (.int (0 : Int32)), .unset] [(.int ((p2 &&& (2147483647 : Int32)) % (10 : Int32))), (.ref a_29)]))
      obtain ⟨k, hk, hk9⟩ := own_mod10 p2
      have hlo : ¬ (((p2 &&& (2147483647 : Int32)) % (10 : Int32)) < (0 : Int32)) := by rw [Int32.lt_iff_toInt_lt, hk, show (0 : Int32).toInt = 0 from by decide]; omega
      have hhi : ((p2 &&& (2147483647 : Int32)) % (10 : Int32)) < (10 : Int32) := by rw [Int32.lt_iff_toInt_lt, hk, show (10 : Int32).toInt = 10 from by decide]; omega
      have u_30 := Nat.le_trans Z0 E_29.1
      have u_31 := O0.ext E_29
      refine Goes.callV X_29 hx hZ hown (hw _ (List.mem_of_getElem? (i := 14) rfl)) (hw _ (List.mem_of_getElem? (i := 15) rfl)) (notFace_of_selects (args := #[]) (mvT hZ (hw _ (List.mem_of_getElem? (i := 17) rfl)))) (hw _ (List.mem_of_getElem? (i := 17) rfl)) (hw _ (List.mem_of_getElem? (i := 16) rfl)) (hw _ (List.mem_of_getElem? (i := 18) rfl)) (hw _ (List.mem_of_getElem? (i := 6) rfl)) (by decide) e_29 M_29 (rmCA l Z a0 hw a_29 b_29 ((p2 &&& (2147483647 : Int32)) % (10 : Int32)) sf (own_dg k) cs h_29 n0 u_30 hlo hhi rsf Ssf Scs hcs u_31 Fc_29 M_29 Fv_29 _ A_29 k hk hk9 (own_at hk9)) (W := 0) (by decide) (by decide) (by decide) (by decide) (g := (mkF mM 48 #[.val (.int p1), .val (.int p2), .val (.long ((p1.toInt64) - (48 : Int64))), .second, .val (.int (0 : Int32)), .unset] [(.int ((p2 &&& (2147483647 : Int32)) % (10 : Int32))), (.ref a_29)])) rfl (by rw [hml]; rfl) (rest := []) own_pd5 rfl rfl (by show 2 * 0 + _ ≤ _; exact Nat.le_of_eq rfl) (hb hby at_48) ?_
      intro v_32 T_32 L_32 X_32 hQ_32
      obtain ⟨rfl, N_32q, e_32⟩ := hQ_32
      have N_32 := Fr.app N_27 N_32q
      show Goes pP eE bB _ (T_32.setTop (mkF mM 51 #[.val (.int p1), .val (.int p2), .val (.long ((p1.toInt64) - (48 : Int64))), .second, .val (.int (0 : Int32)), .unset] [(.int (nar .char (nar .char ((own_dg k &&& (255 : Int32)).toUInt32.toUInt16.toUInt32.toInt32))))]))
      refine Goes.step (fun _ kK => XS.istore X_32.here hx rfl (hb hby at_51) rfl (l' := #[.val (.int p1), .val (.int p2), .val (.long ((p1.toInt64) - (48 : Int64))), .second, .val (.int (0 : Int32)), .val (.int (nar .char (nar .char ((own_dg k &&& (255 : Int32)).toUInt32.toUInt16.toUInt32.toInt32))))]) rfl kK) ?_
      show Goes pP eE bB _ (T_32.setTop (mkF mM 53 #[.val (.int p1), .val (.int p2), .val (.long ((p1.toInt64) - (48 : Int64))), .second, .val (.int (0 : Int32)), .val (.int (nar .char (nar .char ((own_dg k &&& (255 : Int32)).toUInt32.toUInt16.toUInt32.toInt32))))] []))
      refine Goes.step (fun _ kK => XS.iload X_32.here hx rfl (hb hby at_53) rfl kK) ?_
      show Goes pP eE bB _ (T_32.setTop (mkF mM 55 #[.val (.int p1), .val (.int p2), .val (.long ((p1.toInt64) - (48 : Int64))), .second, .val (.int (0 : Int32)), .val (.int (nar .char (nar .char ((own_dg k &&& (255 : Int32)).toUInt32.toUInt16.toUInt32.toInt32))))] [(.int (nar .char (nar .char ((own_dg k &&& (255 : Int32)).toUInt32.toUInt16.toUInt32.toInt32))))]))
      refine Goes.callS X_32 hx hZ hown (hw _ (List.mem_of_getElem? (i := 1) rfl)) (hw _ (List.mem_of_getElem? (i := 2) rfl)) (hw _ (List.mem_of_getElem? (i := 3) rfl)) (hw _ (List.mem_of_getElem? (i := 4) rfl)) (by decide) e_32 (rm_dig l Z a0 hw (nar .char (nar .char ((own_dg k &&& (255 : Int32)).toUInt32.toUInt16.toUInt32.toInt32))) h_29 n0 u_30) (W := 0) (by decide) (by decide) (by decide) (by decide) (g := (mkF mM 55 #[.val (.int p1), .val (.int p2), .val (.long ((p1.toInt64) - (48 : Int64))), .second, .val (.int (0 : Int32)), .val (.int (nar .char (nar .char ((own_dg k &&& (255 : Int32)).toUInt32.toUInt16.toUInt32.toInt32))))] [(.int (nar .char (nar .char ((own_dg k &&& (255 : Int32)).toUInt32.toUInt16.toUInt32.toInt32))))])) rfl (by rw [hml]; rfl) (rest := []) own_pd4 rfl rfl (by show 2 * 0 + _ ≤ _; exact Nat.le_of_eq rfl) (hb hby at_55) ?_
      intro v_33 T_33 L_33 X_33 hQ_33
      obtain ⟨rfl, N_33q, e_33⟩ := hQ_33
      have N_33 := Fr.app N_32 N_33q
      show Goes pP eE bB _ (T_33.setTop (mkF mM 58 #[.val (.int p1), .val (.int p2), .val (.long ((p1.toInt64) - (48 : Int64))), .second, .val (.int (0 : Int32)), .val (.int (nar .char (nar .char ((own_dg k &&& (255 : Int32)).toUInt32.toUInt16.toUInt32.toInt32))))] [(.int (own_v_dig (nar .char (nar .char ((own_dg k &&& (255 : Int32)).toUInt32.toUInt16.toUInt32.toInt32)))))]))
      have hb_34 : ¬ ((own_v_dig (nar .char (nar .char ((own_dg k &&& (255 : Int32)).toUInt32.toUInt16.toUInt32.toInt32)))) = (0 : Int32)) := (by rw [own_isd hk9]; decide)
      refine Goes.step (fun _ kK => XS.ifYes X_33.here hx rfl (pc0 := 58) (pc' := 63) rfl (hb hby at_58) rfl ((if0 _ _).trans (feq hb_34).2) (by decide) (by decide) kK) ?_
      show Goes pP eE bB _ (T_33.setTop (mkF mM 63 #[.val (.int p1), .val (.int p2), .val (.long ((p1.toInt64) - (48 : Int64))), .second, .val (.int (0 : Int32)), .val (.int (nar .char (nar .char ((own_dg k &&& (255 : Int32)).toUInt32.toUInt16.toUInt32.toInt32))))] []))
      refine Goes.step (fun _ kK => XS.bipush X_33.here hx rfl (hb hby at_63) kK) ?_
      show Goes pP eE bB _ (T_33.setTop (mkF mM 65 #[.val (.int p1), .val (.int p2), .val (.long ((p1.toInt64) - (48 : Int64))), .second, .val (.int (0 : Int32)), .val (.int (nar .char (nar .char ((own_dg k &&& (255 : Int32)).toUInt32.toUInt16.toUInt32.toInt32))))] [(.int (47 : Int32))]))
      refine Goes.callS X_33 hx hZ hown (hw _ (List.mem_of_getElem? (i := 1) rfl)) (hw _ (List.mem_of_getElem? (i := 2) rfl)) (hw _ (List.mem_of_getElem? (i := 3) rfl)) (hw _ (List.mem_of_getElem? (i := 4) rfl)) (by decide) e_33 (rm_dig l Z a0 hw (47 : Int32) h_29 n0 u_30) (W := 0) (by decide) (by decide) (by decide) (by decide) (g := (mkF mM 65 #[.val (.int p1), .val (.int p2), .val (.long ((p1.toInt64) - (48 : Int64))), .second, .val (.int (0 : Int32)), .val (.int (nar .char (nar .char ((own_dg k &&& (255 : Int32)).toUInt32.toUInt16.toUInt32.toInt32))))] [(.int (47 : Int32))])) rfl (by rw [hml]; rfl) (rest := []) own_pd4 rfl rfl (by show 2 * 0 + _ ≤ _; exact Nat.le_of_eq rfl) (hb hby at_65) ?_
      intro v_35 T_35 L_35 X_35 hQ_35
      obtain ⟨rfl, N_35q, e_35⟩ := hQ_35
      have N_35 := Fr.app N_33 N_35q
      show Goes pP eE bB _ (T_35.setTop (mkF mM 68 #[.val (.int p1), .val (.int p2), .val (.long ((p1.toInt64) - (48 : Int64))), .second, .val (.int (0 : Int32)), .val (.int (nar .char (nar .char ((own_dg k &&& (255 : Int32)).toUInt32.toUInt16.toUInt32.toInt32))))] [(.int (own_v_dig (47 : Int32)))]))
      refine Goes.step (fun _ kK => XS.ifNo X_35.here hx rfl (hb hby at_68) rfl ((if0 _ _).trans (teq (by decide)).2) kK) ?_
      show Goes pP eE bB _ (T_35.setTop (mkF mM 71 #[.val (.int p1), .val (.int p2), .val (.long ((p1.toInt64) - (48 : Int64))), .second, .val (.int (0 : Int32)), .val (.int (nar .char (nar .char ((own_dg k &&& (255 : Int32)).toUInt32.toUInt16.toUInt32.toInt32))))] []))
      refine Goes.step (fun _ kK => XS.bipush X_35.here hx rfl (hb hby at_71) kK) ?_
      show Goes pP eE bB _ (T_35.setTop (mkF mM 73 #[.val (.int p1), .val (.int p2), .val (.long ((p1.toInt64) - (48 : Int64))), .second, .val (.int (0 : Int32)), .val (.int (nar .char (nar .char ((own_dg k &&& (255 : Int32)).toUInt32.toUInt16.toUInt32.toInt32))))] [(.int (58 : Int32))]))
      refine Goes.callS X_35 hx hZ hown (hw _ (List.mem_of_getElem? (i := 1) rfl)) (hw _ (List.mem_of_getElem? (i := 2) rfl)) (hw _ (List.mem_of_getElem? (i := 3) rfl)) (hw _ (List.mem_of_getElem? (i := 4) rfl)) (by decide) e_35 (rm_dig l Z a0 hw (58 : Int32) h_29 n0 u_30) (W := 0) (by decide) (by decide) (by decide) (by decide) (g := (mkF mM 73 #[.val (.int p1), .val (.int p2), .val (.long ((p1.toInt64) - (48 : Int64))), .second, .val (.int (0 : Int32)), .val (.int (nar .char (nar .char ((own_dg k &&& (255 : Int32)).toUInt32.toUInt16.toUInt32.toInt32))))] [(.int (58 : Int32))])) rfl (by rw [hml]; rfl) (rest := []) own_pd4 rfl rfl (by show 2 * 0 + _ ≤ _; exact Nat.le_of_eq rfl) (hb hby at_73) ?_
      intro v_36 T_36 L_36 X_36 hQ_36
      obtain ⟨rfl, N_36q, e_36⟩ := hQ_36
      have N_36 := Fr.app N_35 N_36q
      show Goes pP eE bB _ (T_36.setTop (mkF mM 76 #[.val (.int p1), .val (.int p2), .val (.long ((p1.toInt64) - (48 : Int64))), .second, .val (.int (0 : Int32)), .val (.int (nar .char (nar .char ((own_dg k &&& (255 : Int32)).toUInt32.toUInt16.toUInt32.toInt32))))] [(.int (own_v_dig (58 : Int32)))]))
      refine Goes.step (fun _ kK => XS.ifNo X_36.here hx rfl (hb hby at_76) rfl ((if0 _ _).trans (teq (by decide)).2) kK) ?_
      show Goes pP eE bB _ (T_36.setTop (mkF mM 79 #[.val (.int p1), .val (.int p2), .val (.long ((p1.toInt64) - (48 : Int64))), .second, .val (.int (0 : Int32)), .val (.int (nar .char (nar .char ((own_dg k &&& (255 : Int32)).toUInt32.toUInt16.toUInt32.toInt32))))] []))
      refine Goes.step (fun _ kK => XS.bipush X_36.here hx rfl (hb hby at_79) kK) ?_
      show Goes pP eE bB _ (T_36.setTop (mkF mM 81 #[.val (.int p1), .val (.int p2), .val (.long ((p1.toInt64) - (48 : Int64))), .second, .val (.int (0 : Int32)), .val (.int (nar .char (nar .char ((own_dg k &&& (255 : Int32)).toUInt32.toUInt16.toUInt32.toInt32))))] [(.int (48 : Int32))]))
      refine Goes.callS X_36 hx hZ hown (hw _ (List.mem_of_getElem? (i := 1) rfl)) (hw _ (List.mem_of_getElem? (i := 2) rfl)) (hw _ (List.mem_of_getElem? (i := 3) rfl)) (hw _ (List.mem_of_getElem? (i := 4) rfl)) (by decide) e_36 (rm_dig l Z a0 hw (48 : Int32) h_29 n0 u_30) (W := 0) (by decide) (by decide) (by decide) (by decide) (g := (mkF mM 81 #[.val (.int p1), .val (.int p2), .val (.long ((p1.toInt64) - (48 : Int64))), .second, .val (.int (0 : Int32)), .val (.int (nar .char (nar .char ((own_dg k &&& (255 : Int32)).toUInt32.toUInt16.toUInt32.toInt32))))] [(.int (48 : Int32))])) rfl (by rw [hml]; rfl) (rest := []) own_pd4 rfl rfl (by show 2 * 0 + _ ≤ _; exact Nat.le_of_eq rfl) (hb hby at_81) ?_
      intro v_37 T_37 L_37 X_37 hQ_37
      obtain ⟨rfl, N_37q, e_37⟩ := hQ_37
      have N_37 := Fr.app N_36 N_37q
      show Goes pP eE bB _ (T_37.setTop (mkF mM 84 #[.val (.int p1), .val (.int p2), .val (.long ((p1.toInt64) - (48 : Int64))), .second, .val (.int (0 : Int32)), .val (.int (nar .char (nar .char ((own_dg k &&& (255 : Int32)).toUInt32.toUInt16.toUInt32.toInt32))))] [(.int (own_v_dig (48 : Int32)))]))
      refine Goes.step (fun _ kK => XS.ifNo X_37.here hx rfl (hb hby at_84) rfl ((if0 _ _).trans (feq (by decide)).1) kK) ?_
      show Goes pP eE bB _ (T_37.setTop (mkF mM 87 #[.val (.int p1), .val (.int p2), .val (.long ((p1.toInt64) - (48 : Int64))), .second, .val (.int (0 : Int32)), .val (.int (nar .char (nar .char ((own_dg k &&& (255 : Int32)).toUInt32.toUInt16.toUInt32.toInt32))))] []))
      refine Goes.step (fun _ kK => XS.bipush X_37.here hx rfl (hb hby at_87) kK) ?_
      show Goes pP eE bB _ (T_37.setTop (mkF mM 89 #[.val (.int p1), .val (.int p2), .val (.long ((p1.toInt64) - (48 : Int64))), .second, .val (.int (0 : Int32)), .val (.int (nar .char (nar .char ((own_dg k &&& (255 : Int32)).toUInt32.toUInt16.toUInt32.toInt32))))] [(.int (57 : Int32))]))
      refine Goes.callS X_37 hx hZ hown (hw _ (List.mem_of_getElem? (i := 1) rfl)) (hw _ (List.mem_of_getElem? (i := 2) rfl)) (hw _ (List.mem_of_getElem? (i := 3) rfl)) (hw _ (List.mem_of_getElem? (i := 4) rfl)) (by decide) e_37 (rm_dig l Z a0 hw (57 : Int32) h_29 n0 u_30) (W := 0) (by decide) (by decide) (by decide) (by decide) (g := (mkF mM 89 #[.val (.int p1), .val (.int p2), .val (.long ((p1.toInt64) - (48 : Int64))), .second, .val (.int (0 : Int32)), .val (.int (nar .char (nar .char ((own_dg k &&& (255 : Int32)).toUInt32.toUInt16.toUInt32.toInt32))))] [(.int (57 : Int32))])) rfl (by rw [hml]; rfl) (rest := []) own_pd4 rfl rfl (by show 2 * 0 + _ ≤ _; exact Nat.le_of_eq rfl) (hb hby at_89) ?_
      intro v_38 T_38 L_38 X_38 hQ_38
      obtain ⟨rfl, N_38q, e_38⟩ := hQ_38
      have N_38 := Fr.app N_37 N_38q
      show Goes pP eE bB _ (T_38.setTop (mkF mM 92 #[.val (.int p1), .val (.int p2), .val (.long ((p1.toInt64) - (48 : Int64))), .second, .val (.int (0 : Int32)), .val (.int (nar .char (nar .char ((own_dg k &&& (255 : Int32)).toUInt32.toUInt16.toUInt32.toInt32))))] [(.int (own_v_dig (57 : Int32)))]))
      refine Goes.step (fun _ kK => XS.ifNo X_38.here hx rfl (hb hby at_92) rfl ((if0 _ _).trans (feq (by decide)).1) kK) ?_
      show Goes pP eE bB _ (T_38.setTop (mkF mM 95 #[.val (.int p1), .val (.int p2), .val (.long ((p1.toInt64) - (48 : Int64))), .second, .val (.int (0 : Int32)), .val (.int (nar .char (nar .char ((own_dg k &&& (255 : Int32)).toUInt32.toUInt16.toUInt32.toInt32))))] []))
      refine Goes.step (fun _ kK => XS.iconst X_38.here hx rfl (hb hby at_95) kK) ?_
      show Goes pP eE bB _ (T_38.setTop (mkF mM 96 #[.val (.int p1), .val (.int p2), .val (.long ((p1.toInt64) - (48 : Int64))), .second, .val (.int (0 : Int32)), .val (.int (nar .char (nar .char ((own_dg k &&& (255 : Int32)).toUInt32.toUInt16.toUInt32.toInt32))))] [(.int (1 : Int32))]))
      refine Goes.step (fun _ kK => XS.goto X_38.here hx rfl (pc0 := 96) (pc' := 100) rfl (hb hby at_96) (by decide) (by decide) kK) ?_
      show Goes pP eE bB _ (T_38.setTop (mkF mM 100 #[.val (.int p1), .val (.int p2), .val (.long ((p1.toInt64) - (48 : Int64))), .second, .val (.int (0 : Int32)), .val (.int (nar .char (nar .char ((own_dg k &&& (255 : Int32)).toUInt32.toUInt16.toUInt32.toInt32))))] [(.int (1 : Int32))]))
      refine Goes.retNW X_38 hS (by rw [e_38]; exact hk_29) hx hlk (t := .boolean) hret (by simp) (hb hby at_100) (by decide) (by decide) ?_
      exact ⟨rfl, N_38⟩
set_option maxRecDepth 65536 in
set_option maxHeartbeats 40000000 in
theorem comes_1 {Post : Tables → Env → Array Value → State → Outcome → State → Prop} (hpost : ∀ tb e args s v u, (limb_1_1.after args s (.returned v) u = true ∧ limb_1_2.after args s (.returned v) u = true ∧ True) → ReturnedEndW s (.returned v) u (Jvm.fieldLocs frame_1_writes args s ++ Jvm.arrayLocs frame_1_arrays args s ++ Jvm.staticLocs frame_1_statics s) 8 1088 → Post tb e args s (.returned v) u) :
    ArmFor flags0 classFile x code maxLocals ret World_1 tables_1 room_1 Calls_1 rest_1 Pre_1 Post := by
  intro l hfl _ _ p e ha hc hk s m args below hf hA hF happ hP
  obtain ⟨hcalls, hrest, hpre⟩ := hP
  obtain ⟨-, -, -, hnamed, -, -, -, hat⟩ := (Spec.applies_iff hf).mp happ
  obtain ⟨hg, hn⟩ := and_e (Cond.before_iff.mp (show (Jvm.Cond.and given_1 narrow_1).before args s = true from hpre))
  obtain ⟨hcnt, g0⟩ := and_e hg
  obtain ⟨q0, g1⟩ := and_e g0
  have q1 := g1
  obtain ⟨w0, w1, rfl⟩ : ∃ w0 w1 : Value, args = #[w0, w1] := by
    have hs : args.size = 2 := by simpa [Cond.value, given_1] using hcnt
    obtain ⟨L⟩ := args
    match L, hs with
    | [w0, w1], _ => exact ⟨w0, w1, rfl⟩
  have hw := fun d (hd : d ∈ tables_1) => atoms_spec (ws := Jvm.Cond.code x code maxLocals ret :: tables_1) hat d (List.mem_cons_of_mem _ hd)
  obtain ⟨i0, e0⟩ := is_v q0
  obtain rfl : w0 = (.int i0) := Option.some.inj e0
  obtain ⟨i1, e1⟩ := is_v q1
  obtain rfl : w1 = (.int i1) := Option.some.inj e1
  obtain ⟨hsets, hown0⟩ := atoms_of _ (rest_1_c_eq ▸ (show rest_1_c.before _ s = true from hrest))
  have n5 := not_v (Cond.before_iff.mp (hsets _ (List.mem_of_getElem? (i := 2) rfl)))
  obtain ⟨cs, ecs⟩ := is_v (Cond.before_iff.mp (hsets _ (List.mem_of_getElem? (i := 1) rfl)))
  have Scs : Sta s s.heap "java/lang/String" "COMPACT_STRINGS" "Z" (.int cs) := Sta.start ecs (Or.inl (hsets _ (List.mem_of_getElem? (i := 0) rfl)))
  have hcs : ¬ (cs = (0 : Int32)) := gotF (Cond.eq_ints ecs (Term.int_eval (0))) n5
  obtain ⟨sf, esf, rsf⟩ := isR_v (Cond.before_iff.mp (hsets _ (List.mem_of_getElem? (i := 8) rfl)))
  have Ssf : Sta s s.heap "jdk/internal/util/Preconditions" "SIOOBE_FORMATTER" "Ljava/util/function/BiFunction;" sf := Sta.start esf (Or.inl (hsets _ (List.mem_of_getElem? (i := 7) rfl)))
  have hheld : Jvm.Lit.constHeld s "com/example/cicada/cicada/engine/DecimalIsDigitPinLaw" 17 := hcalls.1 ("com/example/cicada/cicada/engine/DecimalIsDigitPinLaw", 17) (List.mem_singleton.mpr rfl)
  have hcw := hsets _ (List.mem_of_getElem? (i := 2) rfl)
  obtain ⟨n, o, h1, h2, h3, _, L, rfl, ⟨rfl, N⟩, hq⟩ := rm0 l s _ hw i0 i1 cs sf s.heap s.heap.size (Nat.le_refl _) rsf Ssf Scs hcs (Old.start s) rfl rfl hheld hcw tables_1 p e ha hc hk s m _ below hf ((Spec.applies_iff_loose hf).mp happ).1 ⟨rfl, rfl⟩ trivial
  refine ⟨n, _, h1, h2, h3, hpost _ _ _ _ _ _ ⟨Cond.after_iff.mpr rfl, Cond.after_iff.mpr (eq_i res_at (Term.int_eval (1)) rfl), trivial⟩ ⟨hq.1, hq.2.1, hq.2.2.1, (hq.2.2.2.sift fun y hy => Or.inr (N y hy)).mono (by decide) (by decide)⟩⟩
theorem main_1_1 : Claimed_1_1 := comes_1 fun _ _ _ _ _ _ h hF => ⟨h.1, hF⟩
theorem main_1_2 : Claimed_1_2 := comes_1 fun _ _ _ _ _ _ h hF => ⟨h.2.1, hF⟩
end Jvm.Pilot.@@N@@
namespace Jvm.Pilot.@@N@@
open Jvm Jvm.ClassFile Sem Op Lib Jvm.Free Jvm.Stand Jvm.Pilot.@@N@@.Jvm.D
/-! MADE BY PROGRAM (witnessworld.py) out of the Statement's table words and the real class files: 17 classes; the members and pool entries that the words name. The judged class is class 1, her method 1. -/
namespace start1
open Jvm.ClassFile
def u (s : String) : CpInfo := .utf8 (stringToUtf16 s)
/-- a pool by its gaps: so many unusable entries, then the entry; so many at the end -/
def gap : Nat → List CpInfo → List CpInfo
  | 0, r => r
  | n + 1, r => .unusable :: gap n r
def poolList (es : List (Nat × CpInfo)) (last : Nat) : List CpInfo := es.foldr (fun e r => gap e.1 (e.2 :: r)) (gap last [])
def pool (es : List (Nat × CpInfo)) (last : Nat) : Array CpInfo := ⟨poolList es last⟩
def fileOf (pool : Array CpInfo) (this : Nat) (attrs : Array Attribute := #[]) (ms : Array MethodInfo := #[]) (fl : Nat := 33) (sup : Nat := 0) (ifs : Array Nat := #[]) (fds : Array FieldInfo := #[]) : ClassFile where
  minorVersion := 0
  majorVersion := 65
  constantPool := pool
  accessFlags := fl
  thisClass := this
  superClass := sup
  interfaces := ifs
  fields := fds
  methods := ms
  attributes := attrs
def plain (name : String) (sup : Option ClassId) : Class where
  name := name
  kind := .ordinary
  loader := none
  accessFlags := 33
  super := sup
  interfaces := #[]
  cf := none
  fields := #[]
  methods := #[]
  instanceTypes := #[]
  staticTypes := #[]
  resolved := #[]
  callSites := []
  init := .initialized
  statics := none
  mirror := none

def pool0 : Array CpInfo := pool [(5, u "<init>"), (0, u "()V"), (1, .class_ 10), (1, u "java/lang/Object")] 113

def k0m0 : Method := { name := "<init>", desc := "()V", sig := { parameters := [], returnType := none }, accessFlags := 1, code := none }
/-- java/lang/Object -/
def k0 : Class := { plain "java/lang/Object" none with
  accessFlags := 33
  interfaces := #[]
  cf := some (fileOf pool0 8 #[] #[{ accessFlags := 1, nameIndex := 5, descriptorIndex := 6, attributes := #[] }] 33 0 #[] #[])
  fields := #[]
  methods := #[k0m0]
  instanceTypes := #[]
  staticTypes := #[]
  resolved := Array.replicate 124 none
  statics := none }

def pool1 : Array CpInfo := pool [(2, .class_ 4), (1, u "java/lang/Object"), (0, u "<init>"), (0, u "()V"), (0, .long 48), (1, .long 10), (1, .methodref 12 13), (0, .class_ 14), (0, .nameAndType 15 16), (0, u "com/example/cicada/cicada/engine/Decimal"), (0, u "isDigit"), (0, u "(I)Z"), (0, .string 18), (0, u "0123456789"), (0, .integer 2147483647), (0, .methodref 21 22), (0, .class_ 23), (0, .nameAndType 24 25), (0, u "java/lang/String"), (0, u "charAt"), (0, u "(I)C"), (0, .class_ 27), (0, u "com/example/cicada/cicada/engine/DecimalIsDigitPinLaw"), (2, u "law"), (0, u "(II)Z")] 3

def k1m0 : Method := { name := "<init>", desc := "()V", sig := { parameters := [], returnType := none }, accessFlags := 1, code := none }
def k1c1 : Code := { maxStack := 4, maxLocals := 6, code := code, exceptionTable := #[], attributes := #[] }
def k1m1 : Method := { name := "law", desc := "(II)Z", sig := { parameters := [.int, .int], returnType := some .boolean }, accessFlags := 9, code := some k1c1 }
/-- com/example/cicada/cicada/engine/DecimalIsDigitPinLaw -/
def k1 : Class := { plain "com/example/cicada/cicada/engine/DecimalIsDigitPinLaw" (some 0) with
  accessFlags := 49
  interfaces := #[]
  cf := some (fileOf pool1 26 #[] #[{ accessFlags := 1, nameIndex := 5, descriptorIndex := 6, attributes := #[] }, { accessFlags := 9, nameIndex := 30, descriptorIndex := 31, attributes := #[] }] 49 2 #[] #[])
  fields := #[]
  methods := #[k1m0, k1m1]
  instanceTypes := #[]
  staticTypes := #[]
  resolved := Array.replicate 35 none
  statics := none }

def pool2 : Array CpInfo := pool [(1, .class_ 2), (0, u "java/lang/Comparable"), (0, .class_ 4), (0, u "java/lang/Object")] 7

/-- java/lang/Comparable -/
def k2 : Class := { plain "java/lang/Comparable" (some 0) with
  accessFlags := 1537
  interfaces := #[]
  cf := some (fileOf pool2 1 #[] #[] 1537 3 #[] #[])
  fields := #[]
  methods := #[]
  instanceTypes := #[]
  staticTypes := #[]
  resolved := Array.replicate 12 none
  statics := none }

def pool3 : Array CpInfo := pool [(2, .class_ 4), (1, u "java/lang/Object"), (3, .class_ 10), (1, u "com/example/cicada/cicada/engine/Decimal"), (0, u "signum"), (0, u "I"), (2, u "whole"), (0, u "Ljava/lang/String;"), (2, u "fraction"), (2, u "integer"), (0, u "Z"), (38, u "isDigit"), (0, u "(I)Z"), (16, .class_ 81), (0, u "java/lang/Comparable")] 14

def k3c0 : Code := { maxStack := 2, maxLocals := 1, code := prog_5_method_4_code, exceptionTable := #[], attributes := #[] }
def k3m0 : Method := { name := "isDigit", desc := "(I)Z", sig := { parameters := [.int], returnType := some .boolean }, accessFlags := 8, code := some k3c0 }
/-- com/example/cicada/cicada/engine/Decimal -/
def k3 : Class := { plain "com/example/cicada/cicada/engine/Decimal" (some 0) with
  accessFlags := 48
  interfaces := #[2]
  cf := some (fileOf pool3 8 #[] #[{ accessFlags := 8, nameIndex := 62, descriptorIndex := 63, attributes := #[] }] 48 2 #[80] #[{ accessFlags := 18, nameIndex := 11, descriptorIndex := 12, attributes := #[] }, { accessFlags := 18, nameIndex := 15, descriptorIndex := 16, attributes := #[] }, { accessFlags := 18, nameIndex := 19, descriptorIndex := 16, attributes := #[] }, { accessFlags := 18, nameIndex := 22, descriptorIndex := 23, attributes := #[] }])
  fields := #[{ name := "signum", type := .int, accessFlags := 18, slot := 0, constantValue := 0 }, { name := "whole", type := (.object "java/lang/String"), accessFlags := 18, slot := 1, constantValue := 0 }, { name := "fraction", type := (.object "java/lang/String"), accessFlags := 18, slot := 2, constantValue := 0 }, { name := "integer", type := .boolean, accessFlags := 18, slot := 3, constantValue := 0 }]
  methods := #[k3m0]
  instanceTypes := #[.int, (.object "java/lang/String"), (.object "java/lang/String"), .boolean]
  staticTypes := #[]
  resolved := Array.replicate 96 none
  statics := none }

def pool4 : Array CpInfo := pool [(1, .class_ 2), (0, u "java/io/Serializable"), (0, .class_ 4), (0, u "java/lang/Object")] 2

/-- java/io/Serializable -/
def k4 : Class := { plain "java/io/Serializable" (some 0) with
  accessFlags := 1537
  interfaces := #[]
  cf := some (fileOf pool4 1 #[] #[] 1537 3 #[] #[])
  fields := #[]
  methods := #[]
  instanceTypes := #[]
  staticTypes := #[]
  resolved := Array.replicate 7 none
  statics := none }

def pool5 : Array CpInfo := pool [(2, .class_ 4), (1, u "java/lang/CharSequence"), (42, .class_ 48), (0, u "java/lang/CharSequence$1CodePointIterator"), (10, .class_ 60), (0, u "java/lang/CharSequence$1CharIterator"), (5, .class_ 67), (0, u "java/lang/Object")] 63

/-- java/lang/CharSequence -/
def k5 : Class := { plain "java/lang/CharSequence" (some 0) with
  accessFlags := 1537
  interfaces := #[]
  cf := some (fileOf pool5 2 #[.nestMembers #[47, 59]] #[] 1537 66 #[] #[])
  fields := #[]
  methods := #[]
  instanceTypes := #[]
  staticTypes := #[]
  resolved := Array.replicate 131 none
  statics := none }

def pool6 : Array CpInfo := pool [(1, .class_ 2), (0, u "java/lang/constant/Constable"), (0, .class_ 4), (0, u "java/lang/Object")] 6

/-- java/lang/constant/Constable -/
def k6 : Class := { plain "java/lang/constant/Constable" (some 0) with
  accessFlags := 1537
  interfaces := #[]
  cf := some (fileOf pool6 1 #[] #[] 1537 3 #[] #[])
  fields := #[]
  methods := #[]
  instanceTypes := #[]
  staticTypes := #[]
  resolved := Array.replicate 11 none
  statics := none }

def pool7 : Array CpInfo := pool [(1, .class_ 2), (0, u "java/lang/constant/ConstantDesc"), (0, .class_ 4), (0, u "java/lang/Object")] 32

/-- java/lang/constant/ConstantDesc -/
def k7 : Class := { plain "java/lang/constant/ConstantDesc" (some 0) with
  accessFlags := 1537
  interfaces := #[]
  cf := some (fileOf pool7 1 #[] #[] 1537 3 #[] #[])
  fields := #[]
  methods := #[]
  instanceTypes := #[]
  staticTypes := #[]
  resolved := Array.replicate 37 none
  statics := none }

def pool8 : Array CpInfo := pool [(2, .class_ 4), (1, u "java/lang/Object"), (0, u "<init>"), (0, u "()V"), (2, .fieldref 10 11), (0, .class_ 12), (0, .nameAndType 13 14), (0, u "java/lang/String"), (0, u "value"), (0, u "[B"), (0, .fieldref 10 16), (0, .nameAndType 17 18), (0, u "coder"), (0, u "B"), (2, u "hash"), (0, u "I"), (2, u "hashIsZero"), (0, u "Z"), (11, .fieldref 10 39), (0, .nameAndType 40 26), (0, u "COMPACT_STRINGS"), (66, .class_ 109), (1, u "java/lang/StringLatin1"), (32, u "()Z"), (220, u "([BI)C"), (27, u "(II)V"), (35, u "(I)C"), (64, .methodref 10 493), (0, .nameAndType 494 142), (0, u "isLatin1"), (0, .methodref 107 496), (0, .nameAndType 497 363), (0, u "charAt"), (3, u "checkIndex"), (73, .class_ 576), (0, u "java/lang/CharSequence"), (22, u "CASE_INSENSITIVE_ORDER"), (0, u "Ljava/util/Comparator;"), (452, .fieldref 1054 1055), (0, .class_ 1056), (0, .nameAndType 1057 1058), (0, u "jdk/internal/util/Preconditions"), (0, u "SIOOBE_FORMATTER"), (0, u "Ljava/util/function/BiFunction;"), (0, .methodref 1054 1060), (0, .nameAndType 501 1061), (0, u "(IILjava/util/function/BiFunction;)I"), (39, u "serialPersistentFields"), (0, u "[Ljava/io/ObjectStreamField;"), (0, .class_ 1104), (0, u "java/lang/String$CaseInsensitiveComparator"), (1, .class_ 1107), (0, u "java/io/Serializable"), (0, .class_ 1109), (0, u "java/lang/Comparable"), (0, .class_ 1111), (0, u "java/lang/constant/Constable"), (0, .class_ 1113), (0, u "java/lang/constant/ConstantDesc"), (2, u "serialVersionUID"), (0, u "J"), (3, u "REPL"), (0, u "C"), (2, u "LATIN1"), (1, u "UTF16")] 323

def k8m0 : Method := { name := "<init>", desc := "()V", sig := { parameters := [], returnType := none }, accessFlags := 1, code := none }
def k8c1 : Code := { maxStack := 2, maxLocals := 2, code := jdk_42_method_56_code, exceptionTable := #[], attributes := #[] }
def k8m1 : Method := { name := "charAt", desc := "(I)C", sig := { parameters := [.int], returnType := some .char }, accessFlags := 1, code := some k8c1 }
def k8c2 : Code := { maxStack := 1, maxLocals := 1, code := jdk_42_method_154_code, exceptionTable := #[], attributes := #[] }
def k8m2 : Method := { name := "isLatin1", desc := "()Z", sig := { parameters := [], returnType := some .boolean }, accessFlags := 0, code := some k8c2 }
def k8c3 : Code := { maxStack := 3, maxLocals := 2, code := jdk_42_method_155_code, exceptionTable := #[], attributes := #[] }
def k8m3 : Method := { name := "checkIndex", desc := "(II)V", sig := { parameters := [.int, .int], returnType := none }, accessFlags := 8, code := some k8c3 }
/-- java/lang/String -/
def k8 : Class := { plain "java/lang/String" (some 0) with
  accessFlags := 49
  interfaces := #[4, 2, 5, 6, 7]
  cf := some (fileOf pool8 10 #[.nestMembers #[1103]] #[{ accessFlags := 1, nameIndex := 5, descriptorIndex := 6, attributes := #[] }, { accessFlags := 1, nameIndex := 497, descriptorIndex := 427, attributes := #[] }, { accessFlags := 0, nameIndex := 494, descriptorIndex := 142, attributes := #[] }, { accessFlags := 8, nameIndex := 501, descriptorIndex := 391, attributes := #[] }] 49 2 #[1106, 1108, 575, 1110, 1112] #[{ accessFlags := 18, nameIndex := 13, descriptorIndex := 14, attributes := #[] }, { accessFlags := 18, nameIndex := 17, descriptorIndex := 18, attributes := #[] }, { accessFlags := 2, nameIndex := 21, descriptorIndex := 22, attributes := #[] }, { accessFlags := 2, nameIndex := 25, descriptorIndex := 26, attributes := #[] }, { accessFlags := 26, nameIndex := 1116, descriptorIndex := 1117, attributes := #[] }, { accessFlags := 24, nameIndex := 40, descriptorIndex := 26, attributes := #[] }, { accessFlags := 26, nameIndex := 1101, descriptorIndex := 1102, attributes := #[] }, { accessFlags := 26, nameIndex := 1121, descriptorIndex := 1122, attributes := #[] }, { accessFlags := 25, nameIndex := 599, descriptorIndex := 600, attributes := #[] }, { accessFlags := 24, nameIndex := 1125, descriptorIndex := 18, attributes := #[] }, { accessFlags := 24, nameIndex := 1127, descriptorIndex := 18, attributes := #[] }])
  fields := #[{ name := "value", type := (.array .byte), accessFlags := 18, slot := 0, constantValue := 0 }, { name := "coder", type := .byte, accessFlags := 18, slot := 1, constantValue := 0 }, { name := "hash", type := .int, accessFlags := 2, slot := 2, constantValue := 0 }, { name := "hashIsZero", type := .boolean, accessFlags := 2, slot := 3, constantValue := 0 }, { name := "serialVersionUID", type := .long, accessFlags := 26, slot := 0, constantValue := 0 }, { name := "COMPACT_STRINGS", type := .boolean, accessFlags := 24, slot := 1, constantValue := 0 }, { name := "serialPersistentFields", type := (.array (.object "java/io/ObjectStreamField")), accessFlags := 26, slot := 2, constantValue := 0 }, { name := "REPL", type := .char, accessFlags := 26, slot := 3, constantValue := 0 }, { name := "CASE_INSENSITIVE_ORDER", type := (.object "java/util/Comparator"), accessFlags := 25, slot := 4, constantValue := 0 }, { name := "LATIN1", type := .byte, accessFlags := 24, slot := 5, constantValue := 0 }, { name := "UTF16", type := .byte, accessFlags := 24, slot := 6, constantValue := 0 }]
  methods := #[k8m0, k8m1, k8m2, k8m3]
  instanceTypes := #[(.array .byte), .byte, .int, .boolean]
  staticTypes := #[.long, .boolean, (.array (.object "java/io/ObjectStreamField")), .char, (.object "java/util/Comparator"), .byte, .byte]
  resolved := Array.replicate 1451 none
  statics := some 0 }

def pool9 : Array CpInfo := pool [(1, .class_ 2), (0, u "java/lang/String"), (1, .class_ 6), (1, u "java/lang/Object"), (0, u "<init>"), (0, u "()V"), (0, .methodref 1 10), (0, .nameAndType 11 12), (0, u "checkIndex"), (0, u "(II)V"), (1, .class_ 16), (1, u "java/lang/StringLatin1"), (36, u "([BI)C"), (67, u "$assertionsDisabled"), (0, u "Z"), (98, .class_ 223), (1, u "java/lang/StringLatin1$LinesSpliterator"), (28, u "charAt"), (137, .class_ 391), (0, u "java/lang/StringLatin1$CharsSpliterator")] 3

def k9m0 : Method := { name := "<init>", desc := "()V", sig := { parameters := [], returnType := none }, accessFlags := 0, code := none }
def k9c1 : Code := { maxStack := 2, maxLocals := 2, code := jdk_43_method_2_code, exceptionTable := #[], attributes := #[] }
def k9m1 : Method := { name := "charAt", desc := "([BI)C", sig := { parameters := [(.array .byte), .int], returnType := some .char }, accessFlags := 9, code := some k9c1 }
/-- java/lang/StringLatin1 -/
def k9 : Class := { plain "java/lang/StringLatin1" (some 0) with
  accessFlags := 48
  interfaces := #[]
  cf := some (fileOf pool9 14 #[.nestMembers #[390, 221]] #[{ accessFlags := 0, nameIndex := 7, descriptorIndex := 8, attributes := #[] }, { accessFlags := 9, nameIndex := 252, descriptorIndex := 53, attributes := #[] }] 48 4 #[] #[{ accessFlags := 4120, nameIndex := 121, descriptorIndex := 122, attributes := #[] }])
  fields := #[{ name := "$assertionsDisabled", type := .boolean, accessFlags := 4120, slot := 0, constantValue := 0 }]
  methods := #[k9m0, k9m1]
  instanceTypes := #[]
  staticTypes := #[.boolean]
  resolved := Array.replicate 395 none
  statics := none }

def pool10 : Array CpInfo := pool [(2, .class_ 4), (1, u "java/lang/Object"), (0, u "<init>"), (0, u "()V"), (17, .class_ 26), (1, u "jdk/internal/util/Preconditions"), (6, u "checkIndex"), (21, .class_ 56), (0, u "jdk/internal/util/Preconditions$4"), (57, .class_ 115), (0, u "jdk/internal/util/Preconditions$1"), (7, u "SIOOBE_FORMATTER"), (0, u "Ljava/util/function/BiFunction;"), (0, .class_ 126), (0, u "jdk/internal/util/Preconditions$2"), (3, u "AIOOBE_FORMATTER"), (0, .class_ 132), (0, u "jdk/internal/util/Preconditions$3"), (3, u "IOOBE_FORMATTER"), (41, u "(IILjava/util/function/BiFunction;)I")] 15

def k10m0 : Method := { name := "<init>", desc := "()V", sig := { parameters := [], returnType := none }, accessFlags := 1, code := none }
def k10c1 : Code := { maxStack := 3, maxLocals := 3, code := jdk_41_method_11_code, exceptionTable := #[], attributes := #[] }
def k10m1 : Method := { name := "checkIndex", desc := "(IILjava/util/function/BiFunction;)I", sig := { parameters := [.int, .int, (.object "java/util/function/BiFunction")], returnType := some .int }, accessFlags := 9, code := some k10c1 }
/-- jdk/internal/util/Preconditions -/
def k10 : Class := { plain "jdk/internal/util/Preconditions" (some 0) with
  accessFlags := 33
  interfaces := #[]
  cf := some (fileOf pool10 24 #[.nestMembers #[55, 131, 125, 114]] #[{ accessFlags := 1, nameIndex := 5, descriptorIndex := 6, attributes := #[] }, { accessFlags := 9, nameIndex := 33, descriptorIndex := 178, attributes := #[] }] 33 2 #[] #[{ accessFlags := 25, nameIndex := 123, descriptorIndex := 124, attributes := #[] }, { accessFlags := 25, nameIndex := 130, descriptorIndex := 124, attributes := #[] }, { accessFlags := 25, nameIndex := 136, descriptorIndex := 124, attributes := #[] }])
  fields := #[{ name := "SIOOBE_FORMATTER", type := (.object "java/util/function/BiFunction"), accessFlags := 25, slot := 0, constantValue := 0 }, { name := "AIOOBE_FORMATTER", type := (.object "java/util/function/BiFunction"), accessFlags := 25, slot := 1, constantValue := 0 }, { name := "IOOBE_FORMATTER", type := (.object "java/util/function/BiFunction"), accessFlags := 25, slot := 2, constantValue := 0 }]
  methods := #[k10m0, k10m1]
  instanceTypes := #[]
  staticTypes := #[(.object "java/util/function/BiFunction"), (.object "java/util/function/BiFunction"), (.object "java/util/function/BiFunction")]
  resolved := Array.replicate 194 none
  statics := some 1 }

def pool11 : Array CpInfo := pool [(9, u "<init>"), (6, .class_ 18), (1, u "java/lang/Object"), (0, u "()V"), (1, .class_ 23), (1, u "jdk/internal/util/ArraysSupport"), (0, u "LOG2_ARRAY_LONG_INDEX_SCALE"), (0, u "I"), (2, u "U"), (0, u "Ljdk/internal/misc/Unsafe;"), (8, u "BIG_ENDIAN"), (0, u "Z"), (8, u "LOG2_BYTE_BIT_SIZE"), (4, u "LOG2_ARRAY_INT_INDEX_SCALE"), (54, u "JLA"), (0, u "Ljdk/internal/access/JavaLangAccess;"), (11, u "LOG2_ARRAY_BOOLEAN_INDEX_SCALE"), (9, u "LOG2_ARRAY_BYTE_INDEX_SCALE"), (5, u "LOG2_ARRAY_CHAR_INDEX_SCALE"), (5, u "LOG2_ARRAY_SHORT_INDEX_SCALE"), (18, u "LOG2_ARRAY_FLOAT_INDEX_SCALE"), (24, u "LOG2_ARRAY_DOUBLE_INDEX_SCALE"), (89, u "T_BOOLEAN"), (2, u "T_CHAR"), (1, u "T_FLOAT"), (1, u "T_DOUBLE"), (1, u "T_BYTE"), (1, u "T_SHORT"), (1, u "T_INT"), (1, u "T_LONG"), (1, u "SOFT_MAX_ARRAY_LENGTH")] 83

def k11m0 : Method := { name := "<init>", desc := "()V", sig := { parameters := [], returnType := none }, accessFlags := 2, code := none }
/-- jdk/internal/util/ArraysSupport -/
def k11 : Class := { plain "jdk/internal/util/ArraysSupport" (some 0) with
  accessFlags := 33
  interfaces := #[]
  cf := some (fileOf pool11 21 #[] #[{ accessFlags := 2, nameIndex := 9, descriptorIndex := 19, attributes := #[] }] 33 16 #[] #[{ accessFlags := 24, nameIndex := 28, descriptorIndex := 29, attributes := #[] }, { accessFlags := 26, nameIndex := 38, descriptorIndex := 39, attributes := #[] }, { accessFlags := 25, nameIndex := 121, descriptorIndex := 25, attributes := #[] }, { accessFlags := 25, nameIndex := 131, descriptorIndex := 25, attributes := #[] }, { accessFlags := 25, nameIndex := 137, descriptorIndex := 25, attributes := #[] }, { accessFlags := 25, nameIndex := 143, descriptorIndex := 25, attributes := #[] }, { accessFlags := 25, nameIndex := 53, descriptorIndex := 25, attributes := #[] }, { accessFlags := 25, nameIndex := 24, descriptorIndex := 25, attributes := #[] }, { accessFlags := 25, nameIndex := 162, descriptorIndex := 25, attributes := #[] }, { accessFlags := 25, nameIndex := 187, descriptorIndex := 25, attributes := #[] }, { accessFlags := 26, nameIndex := 48, descriptorIndex := 25, attributes := #[] }, { accessFlags := 25, nameIndex := 277, descriptorIndex := 25, attributes := #[] }, { accessFlags := 25, nameIndex := 280, descriptorIndex := 25, attributes := #[] }, { accessFlags := 25, nameIndex := 282, descriptorIndex := 25, attributes := #[] }, { accessFlags := 25, nameIndex := 284, descriptorIndex := 25, attributes := #[] }, { accessFlags := 25, nameIndex := 286, descriptorIndex := 25, attributes := #[] }, { accessFlags := 25, nameIndex := 288, descriptorIndex := 25, attributes := #[] }, { accessFlags := 25, nameIndex := 290, descriptorIndex := 25, attributes := #[] }, { accessFlags := 25, nameIndex := 292, descriptorIndex := 25, attributes := #[] }, { accessFlags := 26, nameIndex := 108, descriptorIndex := 109, attributes := #[] }, { accessFlags := 25, nameIndex := 294, descriptorIndex := 25, attributes := #[] }])
  fields := #[{ name := "U", type := (.object "jdk/internal/misc/Unsafe"), accessFlags := 24, slot := 0, constantValue := 0 }, { name := "BIG_ENDIAN", type := .boolean, accessFlags := 26, slot := 1, constantValue := 0 }, { name := "LOG2_ARRAY_BOOLEAN_INDEX_SCALE", type := .int, accessFlags := 25, slot := 2, constantValue := 0 }, { name := "LOG2_ARRAY_BYTE_INDEX_SCALE", type := .int, accessFlags := 25, slot := 3, constantValue := 0 }, { name := "LOG2_ARRAY_CHAR_INDEX_SCALE", type := .int, accessFlags := 25, slot := 4, constantValue := 0 }, { name := "LOG2_ARRAY_SHORT_INDEX_SCALE", type := .int, accessFlags := 25, slot := 5, constantValue := 0 }, { name := "LOG2_ARRAY_INT_INDEX_SCALE", type := .int, accessFlags := 25, slot := 6, constantValue := 0 }, { name := "LOG2_ARRAY_LONG_INDEX_SCALE", type := .int, accessFlags := 25, slot := 7, constantValue := 0 }, { name := "LOG2_ARRAY_FLOAT_INDEX_SCALE", type := .int, accessFlags := 25, slot := 8, constantValue := 0 }, { name := "LOG2_ARRAY_DOUBLE_INDEX_SCALE", type := .int, accessFlags := 25, slot := 9, constantValue := 0 }, { name := "LOG2_BYTE_BIT_SIZE", type := .int, accessFlags := 26, slot := 10, constantValue := 0 }, { name := "T_BOOLEAN", type := .int, accessFlags := 25, slot := 11, constantValue := 0 }, { name := "T_CHAR", type := .int, accessFlags := 25, slot := 12, constantValue := 0 }, { name := "T_FLOAT", type := .int, accessFlags := 25, slot := 13, constantValue := 0 }, { name := "T_DOUBLE", type := .int, accessFlags := 25, slot := 14, constantValue := 0 }, { name := "T_BYTE", type := .int, accessFlags := 25, slot := 15, constantValue := 0 }, { name := "T_SHORT", type := .int, accessFlags := 25, slot := 16, constantValue := 0 }, { name := "T_INT", type := .int, accessFlags := 25, slot := 17, constantValue := 0 }, { name := "T_LONG", type := .int, accessFlags := 25, slot := 18, constantValue := 0 }, { name := "JLA", type := (.object "jdk/internal/access/JavaLangAccess"), accessFlags := 26, slot := 19, constantValue := 0 }, { name := "SOFT_MAX_ARRAY_LENGTH", type := .int, accessFlags := 25, slot := 20, constantValue := 0 }]
  methods := #[k11m0]
  instanceTypes := #[]
  staticTypes := #[(.object "jdk/internal/misc/Unsafe"), .boolean, .int, .int, .int, .int, .int, .int, .int, .int, .int, .int, .int, .int, .int, .int, .int, .int, .int, (.object "jdk/internal/access/JavaLangAccess"), .int]
  resolved := Array.replicate 378 none
  statics := none }

def pool12 : Array CpInfo := pool [(1, u "java/lang/Cloneable"), (0, .class_ 1), (0, u "java/lang/Object"), (0, .class_ 3)] 3

/-- java/lang/Cloneable -/
def k12 : Class := { plain "java/lang/Cloneable" (some 0) with
  accessFlags := 1537
  interfaces := #[]
  cf := some (fileOf pool12 2 #[] #[] 1537 4 #[] #[])
  fields := #[]
  methods := #[]
  instanceTypes := #[]
  staticTypes := #[]
  resolved := Array.replicate 8 none
  statics := none }

/-- the primitive byte -/
def k13 : Class := { plain "byte" none with kind := .primitive 'B', accessFlags := 0x411 }
/-- [B -/
def k14 : Class := { plain "[B" (some 0) with kind := .array 13 .byte, interfaces := #[12, 4], accessFlags := 1041 }

/-- the primitive int -/
def k15 : Class := { plain "int" none with kind := .primitive 'I', accessFlags := 0x411 }
/-- [I -/
def k16 : Class := { plain "[I" (some 0) with kind := .array 15 .int, interfaces := #[12, 4], accessFlags := 1041 }

def heap : Heap := #[{ cls := 8, slots := #[.long 0, .int 1, .null, .int 0, .null, .int 0, .int 0], vm := .statics 8 },
  { cls := 10, slots := #[.null, .null, .null], vm := .statics 10 }]
def classes : Array Class := #[k0, k1, k2, k3, k4, k5, k6, k7, k8, k9, k10, k11, k12, k13, k14, k15, k16]
def interned : List (Array UInt16 × Addr) := []
def slotsUsed : Nat := 10
def theMethod : MethodId := ⟨1, 1⟩
def args0 : Array Value := #[.int 52, .int 7]
def aboutOver (below : List Frame) : State where
  vm := { classes := classes, interned := interned.toArray }
  heap := heap
  slotsUsed := slotsUsed
  threads := #[{ frames := .invoking theMethod args0 :: below }]
def below0 : List Frame := [.native { method := ⟨0, 0⟩, args := #[] }]
def about1 : State := aboutOver below0
def p0 : Program := .bare "" "" ""
def e0 : Env := launch0.env 0 0 0
theorem w_frames : about1.frames = Frame.invoking theMethod args0 :: below0 := rfl
set_option maxRecDepth 65536 in
theorem w_args : argsFit about1.vm theMethod args0 = true := by decide +kernel
set_option maxRecDepth 65536 in
theorem w_heap : heapFits about1 = true := by decide +kernel
set_option maxRecDepth 65536 in
theorem w_runnable : about1.curStatus? = some .runnable := by decide +kernel
set_option maxRecDepth 65536 in
theorem w_alone : about1.alone = true := by decide +kernel
set_option maxRecDepth 65536 in
theorem w_named : about1.methodNamed? x = some theMethod := by decide +kernel
set_option maxRecDepth 65536 in
theorem w_hears : about1.hears theMethod below0 = true := by decide +kernel
set_option maxRecDepth 65536 in
theorem w_ripe : about1.ripe theMethod args0 below0 = true := by decide +kernel
theorem w_running : about1.status = .running := rfl
set_option maxRecDepth 65536 in
theorem w_room : about1.hasRoom e0.platform room_1 = true :=
  launch0.hasRoom_least _ room_1 (by decide +kernel) (by decide +kernel) (by decide +kernel) (by decide +kernel) (by decide +kernel) (by decide +kernel)
theorem allAtoms_all (ts : List Jvm.Cond) (a : Array Jvm.Value) (st : Jvm.State) : (allAtoms ts).before a st = ts.all (fun c => c.before a st) := by
  induction ts with
  | nil => rfl
  | cons c t ih =>
    show (Jvm.Cond.and c (allAtoms t)).before a st = _
    rw [Jvm.Cond.before_and, ih, List.all_cons]
def words1 : List Jvm.Cond := Jvm.Cond.code x code maxLocals ret :: tables_1
/-- a 'code' word, met by the world's own term for the bytes: nothing is compared byte by byte -/
theorem code_word {y : MethodName} {bytes : ByteArray} {mx : Nat} {rt : Option FieldType} {a : Array Value} {s : State} {m : MethodId} {meth : Method} {c : Code} (h1 : s.methodNamed? y = some m) (h2 : s.vm.method? m = some meth) (h3 : meth.code = some c) (h4 : c.code = bytes)
    (h5 : (c.maxLocals == mx && c.exceptionTable.isEmpty && decide (c.maxStack ≤ mostOperands) && decide (meth.sig.returnType = rt) && !meth.locks && decide (parseMethodDescriptor y.desc = some meth.sig)) = true) : (Jvm.Cond.code y bytes mx rt).before a s = true := by
  simp only [Bool.and_eq_true, beq_iff_eq, Bool.not_eq_true', decide_eq_true_eq] at h5
  obtain ⟨⟨⟨⟨⟨g1, g2⟩, g3⟩, g4⟩, g5⟩, g6⟩ := h5
  simp [Cond.before, Cond.holds, Cond.value, h1, h2, h3, h4, g1, g2, g3, g4, g5, g6]
def isCode : Jvm.Cond → Bool
  | .code _ _ _ _ => true
  | _ => false
theorem all_split {L : List Jvm.Cond} {P : Jvm.Cond → Bool} (h1 : L.all (fun c => isCode c || P c) = true) (h2 : ∀ c ∈ L.filter isCode, P c = true) : L.all P = true := by
  refine List.all_eq_true.mpr fun c hc => ?_
  have h := List.all_eq_true.mp h1 c hc
  rcases Bool.eq_false_or_eq_true (isCode c) with hi | hi
  · exact h2 c (List.mem_filter.mpr ⟨hc, hi⟩)
  · simpa [hi] using h
set_option maxRecDepth 65536 in
theorem w_c0 : (Jvm.Cond.code x code maxLocals ret).before args0 about1 = true := code_word (m := ⟨1, 1⟩) (meth := k1m1) (c := k1c1) (by decide +kernel) rfl rfl rfl (by decide +kernel)
set_option maxRecDepth 65536 in
theorem w_c1 : (Jvm.Cond.code ({ cls := "com/example/cicada/cicada/engine/Decimal", name := "isDigit", desc := "(I)Z" } : Jvm.MethodName) prog_5_method_4_code (1 : Nat) (Option.some Jvm.ClassFile.FieldType.boolean)).before args0 about1 = true := code_word (m := ⟨3, 0⟩) (meth := k3m0) (c := k3c0) (by decide +kernel) rfl rfl rfl (by decide +kernel)
set_option maxRecDepth 65536 in
theorem w_c2 : (Jvm.Cond.code ({ cls := "java/lang/String", name := "charAt", desc := "(I)C" } : Jvm.MethodName) jdk_42_method_56_code (2 : Nat) (Option.some Jvm.ClassFile.FieldType.char)).before args0 about1 = true := code_word (m := ⟨8, 1⟩) (meth := k8m1) (c := k8c1) (by decide +kernel) rfl rfl rfl (by decide +kernel)
set_option maxRecDepth 65536 in
theorem w_c3 : (Jvm.Cond.code ({ cls := "java/lang/String", name := "isLatin1", desc := "()Z" } : Jvm.MethodName) jdk_42_method_154_code (1 : Nat) (Option.some Jvm.ClassFile.FieldType.boolean)).before args0 about1 = true := code_word (m := ⟨8, 2⟩) (meth := k8m2) (c := k8c2) (by decide +kernel) rfl rfl rfl (by decide +kernel)
set_option maxRecDepth 65536 in
theorem w_c4 : (Jvm.Cond.code ({ cls := "java/lang/StringLatin1", name := "charAt", desc := "([BI)C" } : Jvm.MethodName) jdk_43_method_2_code (2 : Nat) (Option.some Jvm.ClassFile.FieldType.char)).before args0 about1 = true := code_word (m := ⟨9, 1⟩) (meth := k9m1) (c := k9c1) (by decide +kernel) rfl rfl rfl (by decide +kernel)
set_option maxRecDepth 65536 in
theorem w_c5 : (Jvm.Cond.code ({ cls := "java/lang/String", name := "checkIndex", desc := "(II)V" } : Jvm.MethodName) jdk_42_method_155_code (2 : Nat) (Option.none : Option Jvm.ClassFile.FieldType)).before args0 about1 = true := code_word (m := ⟨8, 3⟩) (meth := k8m3) (c := k8c3) (by decide +kernel) rfl rfl rfl (by decide +kernel)
set_option maxRecDepth 65536 in
theorem w_c6 : (Jvm.Cond.code ({ cls := "jdk/internal/util/Preconditions", name := "checkIndex", desc := "(IILjava/util/function/BiFunction;)I" } : Jvm.MethodName) jdk_41_method_11_code (3 : Nat) (Option.some Jvm.ClassFile.FieldType.int)).before args0 about1 = true := code_word (m := ⟨10, 1⟩) (meth := k10m1) (c := k10c1) (by decide +kernel) rfl rfl rfl (by decide +kernel)
def codes1 : List Jvm.Cond := [Jvm.Cond.code x code maxLocals ret, Jvm.Cond.code ({ cls := "com/example/cicada/cicada/engine/Decimal", name := "isDigit", desc := "(I)Z" } : Jvm.MethodName) prog_5_method_4_code (1 : Nat) (Option.some Jvm.ClassFile.FieldType.boolean), Jvm.Cond.code ({ cls := "java/lang/String", name := "charAt", desc := "(I)C" } : Jvm.MethodName) jdk_42_method_56_code (2 : Nat) (Option.some Jvm.ClassFile.FieldType.char), Jvm.Cond.code ({ cls := "java/lang/String", name := "isLatin1", desc := "()Z" } : Jvm.MethodName) jdk_42_method_154_code (1 : Nat) (Option.some Jvm.ClassFile.FieldType.boolean), Jvm.Cond.code ({ cls := "java/lang/StringLatin1", name := "charAt", desc := "([BI)C" } : Jvm.MethodName) jdk_43_method_2_code (2 : Nat) (Option.some Jvm.ClassFile.FieldType.char), Jvm.Cond.code ({ cls := "java/lang/String", name := "checkIndex", desc := "(II)V" } : Jvm.MethodName) jdk_42_method_155_code (2 : Nat) (Option.none : Option Jvm.ClassFile.FieldType), Jvm.Cond.code ({ cls := "jdk/internal/util/Preconditions", name := "checkIndex", desc := "(IILjava/util/function/BiFunction;)I" } : Jvm.MethodName) jdk_41_method_11_code (3 : Nat) (Option.some Jvm.ClassFile.FieldType.int)]
set_option maxRecDepth 65536 in
theorem codes_eq : words1.filter isCode = codes1 := rfl
theorem w_codes : ∀ c ∈ words1.filter isCode, c.before args0 about1 = true := by
  rw [codes_eq]
  intro c hc
  simp only [codes1, List.mem_cons, List.not_mem_nil, or_false] at hc
  rcases hc with rfl | rfl | rfl | rfl | rfl | rfl | rfl
  · exact w_c0
  · exact w_c1
  · exact w_c2
  · exact w_c3
  · exact w_c4
  · exact w_c5
  · exact w_c6
set_option maxRecDepth 65536 in
theorem w_t1 : (words1.take 24).all (fun c => isCode c || c.before args0 about1) = true := by decide +kernel
set_option maxRecDepth 65536 in
theorem w_t2 : (words1.drop 24).all (fun c => isCode c || c.before args0 about1) = true := by decide +kernel
theorem w_tables : (allAtoms (Jvm.Cond.code x code maxLocals ret :: tables_1)).before args0 about1 = true := by
  rw [allAtoms_all]
  show words1.all (fun c => c.before args0 about1) = true
  refine all_split ?_ w_codes
  rw [← List.take_append_drop 24 words1, List.all_append, w_t1, w_t2]
  rfl
set_option maxRecDepth 65536 in
theorem w_rest : rest_1_c.before args0 about1 = true := by decide +kernel
set_option maxRecDepth 65536 in
theorem w_case : (Jvm.Cond.and given_1 narrow_1).before args0 about1 = true := by decide +kernel
set_option maxRecDepth 65536 in
theorem w_consts : constsHeld consts_1 about1 := Jvm.Lit.constsHeldB_iff.mp (by decide +kernel)
theorem w_applies : (headSpec (Jvm.Cond.code x code maxLocals ret :: tables_1) room_1).applies x e0.platform about1 = true :=
  (Spec.applies_iff w_frames).mpr ⟨w_running, w_runnable, w_alone, w_named, w_hears, w_ripe, w_room, w_tables⟩
theorem atStart : AtStart classFile x code maxLocals ret World_1 tables_1 room_1 Calls_1 rest_1 Pre_1 launch0 p0 e0 about1 theMethod args0 below0 :=
  ⟨lists_1, trivial, launch0.admits_env _ _ _, launch0.least_env, fairChoices_fair.cas, fairChoices_fair.clock, w_frames, w_args, w_heap, w_applies, ⟨w_consts, trivial⟩, w_rest, w_case⟩
end start1
theorem witness_1 : WitnessClaimed_1 := ⟨start1.p0, start1.e0, start1.about1, start1.theMethod, start1.args0, start1.below0, start1.atStart⟩
end Jvm.Pilot.@@N@@
