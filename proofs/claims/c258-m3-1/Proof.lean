import JvmDerived
import JvmDerived.Pilot.@@N@@Statement
import JvmDerived.Pilot.@@N@@Code
set_option linter.unusedVariables false
set_option linter.unusedSimpArgs false
@@BLOCK:NumsL.lean.txt@@
namespace Jvm.Pilot.@@N@@
open Jvm Jvm.ClassFile Sem Op Lib Jvm.Free Jvm.Stand Jvm.LawKit Jvm.RoadKit Bundle Jvm.Pilot.@@N@@.Jvm.D
section Own
variable {p : Program} {l : Launch} {e : Env} {R : Room} {s : State} {m : MethodId} {args : Array Value} {below : List Frame} {meth : Method} {c : Code} {T : State} {locs : List Loc} {cells slots : Nat} {Z : State} {a0 : Array Value} {h : Heap}
/-- from t the run comes to an end that P speaks of -/
def Goes (p : Program) (e : Env) (below : List Frame) (P : State → Outcome → Prop) (t : State) : Prop :=
  ∃ s₂ o, Steps p.tables e below t s₂ ∧ s₂.status = .running ∧ Ended s₂ below o ∧ P s₂ o
/-- it returned, what Q says, and the frame -/
def Aim (s : State) (Q : Option Value → Heap → List Loc → Prop) (k n : Nat) (s₂ : State) (o : Outcome) : Prop :=
  ∃ v L, o = .returned v ∧ Q v s₂.heap L ∧ FrameEnd s o s₂ L k n
theorem Goes.step {P : State → Outcome → Prop} {t t' : State} (st : ∀ tgt, Steps p.tables e below t' tgt → Steps p.tables e below t tgt) (q : Goes p e below P t') : Goes p e below P t := by
  obtain ⟨s₂, o, k, r⟩ := q
  exact ⟨s₂, o, st _ k, r⟩
theorem Goes.tr {P : State → Outcome → Prop} {t t' : State} (st : Steps p.tables e below t t') (q : Goes p e below P t') : Goes p e below P t := by
  obtain ⟨s₂, o, k, r⟩ := q
  exact ⟨s₂, o, st.trans k, r⟩
theorem Goes.retN (X : Stand p l e R s m args below meth c T locs cells slots) (hx : p.tables.exec = Jvm.exec) (hlk : meth.locks = false) {t : FieldType} (hret : meth.sig.returnType = some t) (ht : t = .boolean ∨ t = .byte ∨ t = .char ∨ t = .short) {pc : Nat} {Ls : Array Slot} {z : Int32} {rest : List Value}
    (hd : decode c.code pc = .ok (.ireturn, 1)) {Q : Option Value → Heap → List Loc → Prop} {k n : Nat} (hk : cells ≤ k) (hn : slots ≤ n) (hQ : Q (some (.int (nar t z))) T.heap locs) :
    Goes p e below (Aim s Q k n) (T.setTop (mkF m pc Ls (.int z :: rest))) := by
  obtain ⟨fs, hr, hrun, hended, hW, hsame⟩ := X.leave (v := some (.int (nar t z))) (fun h => by rw [hret] at h; cases h) hlk
  exact ⟨_, _, Jvm.RoadKit.retN X hx hret ht hd hr, hrun, hended, _, _, rfl, hQ, ⟨_, rfl⟩, hW, hsame.mono hk hn⟩
theorem Goes.ret (X : Stand p l e R s m args below meth c T locs cells slots) (hx : p.tables.exec = Jvm.exec) (hlk : meth.locks = false) {t : FieldType} (hret : meth.sig.returnType = some t) {w : Value} (hnr : narrow t w = w) {i : Instr} {pc : Nat} {Ls : Array Slot} {rest : List Value}
    (hi : (i = .ireturn ∧ (t = .int ∨ t = .boolean ∨ t = .byte ∨ t = .char ∨ t = .short) ∧ ∃ z, w = .int z) ∨ (i = .lreturn ∧ t = .long ∧ ∃ z, w = .long z) ∨ (i = .dreturn ∧ t = .double ∧ ∃ z, w = .double z) ∨ (i = .freturn ∧ t = .float ∧ ∃ z, w = .float z) ∨ (i = .areturn ∧ t.isReference = true ∧ w.isRef = true))
    (hd : decode c.code pc = .ok (i, 1)) {Q : Option Value → Heap → List Loc → Prop} {k n : Nat} (hk : cells ≤ k) (hn : slots ≤ n) (hQ : Q (some w) T.heap locs) :
    Goes p e below (Aim s Q k n) (T.setTop (mkF m pc Ls (w :: rest))) := by
  obtain ⟨fs, hr, hrun, hended, hW, hsame⟩ := X.leave (v := some w) (fun h => by rw [hret] at h; cases h) hlk
  exact ⟨_, _, Jvm.RoadKit.retOut X hx hret hnr hi hd hr, hrun, hended, _, _, rfl, hQ, ⟨_, rfl⟩, hW, hsame.mono hk hn⟩
theorem Goes.ret0 (X : Stand p l e R s m args below meth c T locs cells slots) (hx : p.tables.exec = Jvm.exec) (hlk : meth.locks = false) (hret : meth.sig.returnType = none) {pc : Nat} {Ls : Array Slot}
    (hd : decode c.code pc = .ok (.return_, 1)) {Q : Option Value → Heap → List Loc → Prop} {k n : Nat} (hk : cells ≤ k) (hn : slots ≤ n) (hQ : Q none T.heap locs) :
    Goes p e below (Aim s Q k n) (T.setTop (mkF m pc Ls [])) := by
  obtain ⟨fs, hr, hrun, hended, hW, hsame⟩ := X.leave (v := none) (fun _ => rfl) hlk
  exact ⟨_, _, X.returnOut hx hret hd hr, hrun, hended, _, _, rfl, hQ, ⟨_, rfl⟩, hW, hsame.mono hk hn⟩
/-- a body's contract: called with these arguments over the heap h0 it returns, and Q says what it leaves -/
def Con (l : Launch) (Z : State) (y : MethodName) (bytes : ByteArray) (maxL : Nat) (ret : Option FieldType) (rm : Room) (as : Array Value) (h0 : Heap) (Q : Option Value → Heap → List Loc → Prop) : Prop :=
  ∀ ws : List Jvm.Cond, MetFree l y (head1 (Jvm.Cond.code y bytes maxL ret :: ws) rm) (fun a U => a = as ∧ Z.Warmed39 U.vm ∧ U.heap = h0) (fun _ _ _ _ _ => True) (fun _ U o U' => ∃ v L, o = .returned v ∧ Q v U'.heap L ∧ FrameEnd U o U' L rm.cells rm.slots)
theorem Con.body {y : MethodName} {bytes : ByteArray} {maxL : Nat} {ret : Option FieldType} {rm : Room} {as : Array Value} {h0 : Heap} {Q : Option Value → Heap → List Loc → Prop} (hp : plainFor y = true)
    (H : ∀ (p : Program) (e : Env) (s : State) (m : MethodId) (below : List Frame) (meth : Method) (c : Code) (s₁ : State), p.tables.exec = Jvm.exec → c.code = bytes → c.maxLocals = maxL → Z.Warmed39 s.vm → s.vm.findClass y.cls = some m.cls → meth.name = y.name → meth.sig.returnType = ret → meth.locks = false →
      Stand p l e rm s m as below meth c s₁ [] 0 0 → s₁.heap = h0 → Goes p e below (Aim s Q rm.cells rm.slots) (s₁.setTop (entryFrame m as maxL))) :
    Con l Z y bytes maxL ret rm as h0 Q := by
  intro ws
  refine MetFree.of_bodySF hp hisR ?_
  intro p e s m args below meth c s₁ Bd hml0 hP hK
  obtain ⟨rfl, hZ, hh⟩ := hP
  exact H p e s m below meth c s₁ Bd.exec Bd.bytes hml0 hZ (findClass_of_methodNamed Bd.named) (name_of_methodNamed Bd.named Bd.method).1 Bd.returns Bd.notSynchronized (Stand.of_body Bd) (by rw [← hh, Bd.state]; rfl)
theorem Goes.callS (X : Stand p l e R s m args below meth c T locs cells slots) (hx : p.tables.exec = Jvm.exec) (hZ : Z.Warmed39 s.vm) {own : String} {index : Nat} {y : MethodName} {bytes : ByteArray} {maxL : Nat} {ret : Option FieldType} {rm : Room} {as : List Value} {Q : Option Value → Heap → List Loc → Prop} (hown : s.vm.findClass own = some m.cls)
    (w1 : (Jvm.Cond.methodLink own index y).before a0 Z = true) (w2 : (Jvm.Cond.static y).before a0 Z = true) (w3 : (Jvm.Cond.initialized y.cls).before a0 Z = true) (w4 : (Jvm.Cond.code y bytes maxL ret).before a0 Z = true) (hy : y.cls ≠ "java/lang/invoke/MethodHandle" ∧ y.cls ≠ "java/lang/invoke/VarHandle")
    (eT : T.heap = h) (hM : Con l Z y bytes maxL ret rm as.toArray h Q) {W : Nat} (hf : rm.frames + 1 ≤ R.frames) (hl : W + (maxL + 11) + rm.locals ≤ R.locals) (hc : cells + rm.cells ≤ R.cells) (hs : slots + rm.slots ≤ R.slots)
    {g : JFrame} (hg : g.method = m) (hsize : g.locals.size = c.maxLocals) {rest : List Value} {ps : List FieldType} {r : Option FieldType} (hd : parseMethodDescriptor y.desc = some ⟨ps, r⟩) (hlen : as.length = ps.length) (hstack : g.stack = as.reverse ++ rest) (hW : 2 * g.monitorRoom + (rest.map fun v => v.category).sum ≤ W) (hdg : decode c.code g.pc = .ok (.invokestatic index, 3))
    {P : State → Outcome → Prop} (k : ∀ v T' L, Stand p l e R s m args below meth c T' (locs ++ L) (cells + rm.cells) (slots + rm.slots) → Q v T'.heap L → Goes p e below P (T'.setTop { g with pc := g.pc + 3, stack := v.toList ++ rest })) :
    Goes p e below P (T.setTop g) := by
  obtain ⟨v, vm₁, ⟨T', L', k', n'⟩, -, X', ⟨L, hQ, l', y', z'⟩, st⟩ := Jvm.LawKit.callS X hx hown (mvT hZ w1) (mvT hZ w2) (mvT hZ w3) (mvT hZ w4) hy (backOf (W := W) (hM []) hZ w4 w3 hf hl) (g := g) hg hsize (argsL := as) (rest := rest) (lenOf hd hlen) hstack hW hdg (fun _ _ => ⟨rfl, eT, hc, hs⟩)
  try dsimp only at X' hQ l' y' z' st
  subst l' y' z'
  exact Goes.step st (k v T' L X' hQ)
theorem Goes.callV (X : Stand p l e R s m args below meth c T locs cells slots) (hx : p.tables.exec = Jvm.exec) (hZ : Z.Warmed39 s.vm) {own C : String} {index : Nat} {y z : MethodName} {bytes : ByteArray} {maxL : Nat} {ret : Option FieldType} {rm : Room} {as : List Value} {Q : Option Value → Heap → List Loc → Prop} (hown : s.vm.findClass own = some m.cls)
    (w1 : (Jvm.Cond.methodLink own index y).before a0 Z = true) (w2 : (Jvm.Cond.declares y).before a0 Z = true) (hnf : NotFace s y) (w3 : (Jvm.Cond.selects C y z).before a0 Z = true) (w4 : (Jvm.Cond.instanceMethod z).before a0 Z = true) (w5 : (Jvm.Cond.code z bytes maxL ret).before a0 Z = true) (w6 : (Jvm.Cond.initialized z.cls).before a0 Z = true) (hy : y.cls ≠ "java/lang/invoke/MethodHandle" ∧ y.cls ≠ "java/lang/invoke/VarHandle")
    (eT : T.heap = h) {b : Addr} (E : Exa Z h b C) (hM : Con l Z z bytes maxL ret rm (.ref b :: as).toArray h Q) {W : Nat} (hf : rm.frames + 1 ≤ R.frames) (hl : W + (maxL + 11) + rm.locals ≤ R.locals) (hc : cells + rm.cells ≤ R.cells) (hs : slots + rm.slots ≤ R.slots)
    {g : JFrame} (hg : g.method = m) (hsize : g.locals.size = c.maxLocals) {rest : List Value} {ps : List FieldType} {r : Option FieldType} (hd : parseMethodDescriptor y.desc = some ⟨ps, r⟩) (hlen : as.length = ps.length) (hstack : g.stack = as.reverse ++ .ref b :: rest) (hW : 2 * g.monitorRoom + (rest.map fun v => v.category).sum ≤ W) (hdg : decode c.code g.pc = .ok (.invokevirtual index, 3))
    {P : State → Outcome → Prop} (k : ∀ v T' L, Stand p l e R s m args below meth c T' (locs ++ L) (cells + rm.cells) (slots + rm.slots) → Q v T'.heap L → Goes p e below P (T'.setTop { g with pc := g.pc + 3, stack := v.toList ++ rest })) :
    Goes p e below P (T.setTop g) := by
  obtain ⟨cB, kB, q1, -, q3⟩ := isOf hZ eT E
  obtain ⟨v, vm₁, ⟨T', L', k', n'⟩, -, X', ⟨L, hQ, l', y', z'⟩, st⟩ := X.virtualBack hx (y := y) (z := z) hown (mvT hZ w1) (mvT hZ w2) hnf (mvT hZ w3) (mvT hZ w4) hy (backOf (W := W) (hM []) hZ w5 w6 hf hl) q1 q3 (g := g) hg hsize (Steps.refl _) (argsL := as) (rest := rest) (lenOf hd hlen) hstack hW hdg (fun _ _ => ⟨rfl, eT, hc, hs⟩)
  try dsimp only at X' hQ l' y' z' st
  subst l' y' z'
  exact Goes.tr st (k v T' L X' hQ)
theorem Goes.callI (X : Stand p l e R s m args below meth c T locs cells slots) (hx : p.tables.exec = Jvm.exec) (hZ : Z.Warmed39 s.vm) {own : String} {index : Nat} {y : MethodName} {bytes : ByteArray} {maxL : Nat} {rm : Room} {as : List Value} {Q : Option Value → Heap → List Loc → Prop} (hy1 : y.name = "<init>") (hown : s.vm.findClass own = some m.cls)
    (w1 : (Jvm.Cond.methodLink own index y).before a0 Z = true) (w2 : (Jvm.Cond.instanceMethod y).before a0 Z = true) (w3 : (Jvm.Cond.code y bytes maxL none).before a0 Z = true) (w4 : (Jvm.Cond.initialized y.cls).before a0 Z = true) (hy : y.cls ≠ "java/lang/invoke/MethodHandle" ∧ y.cls ≠ "java/lang/invoke/VarHandle")
    (eT : T.heap = h) {b : Addr} (hM : Con l Z y bytes maxL none rm (.ref b :: as).toArray h Q) {W : Nat} (hf : rm.frames + 1 ≤ R.frames) (hl : W + (maxL + 11) + rm.locals ≤ R.locals) (hc : cells + rm.cells ≤ R.cells) (hs : slots + rm.slots ≤ R.slots)
    {g : JFrame} (hg : g.method = m) (hsize : g.locals.size = c.maxLocals) {rest : List Value} {ps : List FieldType} {r : Option FieldType} (hd : parseMethodDescriptor y.desc = some ⟨ps, r⟩) (hlen : as.length = ps.length) (hstack : g.stack = as.reverse ++ .ref b :: rest) (hW : 2 * g.monitorRoom + (rest.map fun v => v.category).sum ≤ W) (hdg : decode c.code g.pc = .ok (.invokespecial index, 3))
    {P : State → Outcome → Prop} (k : ∀ v T' L, Stand p l e R s m args below meth c T' (locs ++ L) (cells + rm.cells) (slots + rm.slots) → Q v T'.heap L → Goes p e below P (T'.setTop { g with pc := g.pc + 3, stack := v.toList ++ rest })) :
    Goes p e below P (T.setTop g) := by
  obtain ⟨v, vm₁, ⟨T', L', k', n'⟩, -, X', ⟨L, hQ, l', y', z'⟩, st⟩ := X.specialBack hx (y := y) hy1 hown (mvT hZ w1) (mvT hZ w2) (mvT hZ w3) hy (backOf (W := W) (hM []) hZ w3 w4 hf hl) (g := g) hg hsize (Steps.refl _) (a := b) (argsL := as) (rest := rest) (lenOf hd hlen) hstack hW hdg (fun _ _ => ⟨rfl, eT, hc, hs⟩)
  try dsimp only at X' hQ l' y' z' st
  subst l' y' z'
  exact Goes.tr st (k v T' L X' hQ)
theorem own_refR {v : Value} (h : v.isRef = true) : v = .null ∨ ∃ a, v = .ref a := by
  cases v <;> first | exact Or.inl rfl | exact Or.inr ⟨_, rfl⟩ | cases h
theorem jlt {a b : Int64} : lcmpW a b < 0 ↔ a < b := by rw [lcW]; exact lc_lt a b
theorem jgt {a b : Int64} : 0 < lcmpW a b ↔ b < a := by rw [lcW]; exact lc_gt a b
theorem jeq {a b : Int64} : lcmpW a b = 0 ↔ a = b := by rw [lcW]; exact lc_eq a b
end Own
section OwnHeap
variable {p : Program} {l : Launch} {e : Env} {R : Room} {s : State} {m : MethodId} {args : Array Value} {below : List Frame} {meth : Method} {c : Code} {T : State} {locs : List Loc} {cells slots : Nat} {Z : State} {a0 : Array Value} {h h' : Heap} {a b : Addr} {ty : FieldType} {n : Nat} {f f' : Nat → Value} {sl : Nat} {v : Value} {ws : List Addr}
theorem own_ix {j : Int32} {i n : Nat} (hj : j.toInt = (i : Int)) (hi : i < n) : ¬ (j < 0 ∨ n ≤ j.toNatClampNeg) := by
  simp only [Int32.lt_iff_toInt_lt, Int32.toNatClampNeg, hj, Int32.reduceToInt]; omega
theorem own_ixn {j : Int32} {i : Nat} (hj : j.toInt = (i : Int)) : j.toNatClampNeg = i := by
  simp only [Int32.toNatClampNeg, hj]; omega
/-- the array at a holds n places, the i-th f i -/
def Afn (Z : State) (h : Heap) (a : Addr) (ty : FieldType) (n : Nat) (f : Nat → Value) : Prop :=
  ∃ c : Cell, Arr Z h a c ty ∧ c.slots.size = n ∧ n < 2 ^ 31 ∧ (∀ i, i < n → c.slots[i]? = some (f i)) ∧ ∀ i, i < n → fits ty (f i) = true
theorem Afn.lt (F : Afn Z h a ty n f) : a < h.size := by obtain ⟨c, A, -⟩ := F; exact A.lt
theorem Afn.ext (F : Afn Z h a ty n f) (E : Ext h h') : Afn Z h' a ty n f := by obtain ⟨c, A, r⟩ := F; exact ⟨c, A.ext E, r⟩
theorem Afn.other (F : Afn Z h b ty n f) (W : Wr h h' a sl v) (q : b ≠ a) : Afn Z h' b ty n f := by obtain ⟨c, A, r⟩ := F; exact ⟨c, A.other W q, r⟩
theorem Afn.keep (F : Afn Z h a ty n f) (K : Keep h h' ws) (q : a ∉ ws) : Afn Z h' a ty n f := by obtain ⟨c, A, r⟩ := F; exact ⟨c, ⟨K.2.1 a c A.1 q, A.2⟩, r⟩
theorem Afn.congr (F : Afn Z h a ty n f) (q : ∀ i, i < n → f i = f' i) : Afn Z h a ty n f' := by
  obtain ⟨c, A, S, B, H, G⟩ := F
  exact ⟨c, A, S, B, fun i hi => by rw [← q i hi]; exact H i hi, fun i hi => by rw [← q i hi]; exact G i hi⟩
theorem Afn.new {k : ClassId} {z : Int32} (A : Arr Z h a (newA k ty z) ty) (q : z.toInt = (n : Int)) : Afn Z h a ty n (fun _ => defaultValue ty) := by
  obtain ⟨c, A', -, S, q3, H, G⟩ := Arv.new A (by rw [Int32.lt_iff_toInt_lt, q]; simp only [Int32.reduceToInt]; omega)
  rw [own_ixn q] at S
  refine ⟨c, A', S, ?_, fun i hi => H i (by rw [S]; exact hi), fun i hi => G i (by rw [S]; exact hi)⟩
  have := z.toInt_lt
  omega
theorem Afn.set {i : Nat} (F : Afn Z h a ty n f) (W : Wr h h' a i v) (hv : fits ty v = true) : Afn Z h' a ty n (fun x => if x = i then v else f x) := by
  obtain ⟨c, A, S, B, H, G⟩ := F
  refine ⟨_, A.same W, by rw [sz_set]; exact S, B, fun x hx => ?_, fun x hx => ?_⟩
  · show _ = some (if x = i then v else f x)
    by_cases q : x = i
    · subst q
      rw [if_pos rfl]
      have hx' : x < c.slots.size := by rw [S]; exact hx
      simp [Cell.setSlot, hx']
    · rw [if_neg q, ← H x hx]
      exact Array.getElem?_setIfInBounds_ne (Ne.symm q)
  · by_cases q : x = i
    · simp only [q, if_true]; exact hv
    · simp only [if_neg q]; exact G x hx
theorem Goes.iastore (X : Stand p l e R s m args below meth c T locs cells slots) (hx : p.tables.exec = Jvm.exec) (hZ : Z.Warmed39 s.vm) (eT : T.heap = h) (A : Afn Z h a .int n f) {j : Int32} {i : Nat} (hj : j.toInt = (i : Int)) (hi : i < n) {x : Int32} {g : JFrame} (hg : g.method = m) {rest : List Value} (hs : g.stack = .int x :: .int j :: .ref a :: rest) (hd : decode c.code g.pc = .ok (.iastore, 1)) {P : State → Outcome → Prop}
    (k : ∀ T' h', Stand p l e R s m args below meth c T' (locs ++ [⟨a, i⟩]) cells slots → T'.heap = h' → Wr h h' a i (.int x) → Afn Z h' a .int n (fun z => if z = i then .int x else f z) → Goes p e below P (T'.setTop { g with pc := g.pc + 1, stack := rest })) : Goes p e below P (T.setTop g) := by
  obtain ⟨cl, A1, S, -⟩ := id A
  obtain ⟨T', h', X', e', W, st⟩ := stI X hx hZ eT A1 (j := j) (by rw [S]; exact own_ix hj hi) hg hs hd
  rw [own_ixn hj] at X' W
  exact Goes.step st (k T' h' X' e' W (A.set W rfl))
theorem Goes.lastore (X : Stand p l e R s m args below meth c T locs cells slots) (hx : p.tables.exec = Jvm.exec) (hZ : Z.Warmed39 s.vm) (eT : T.heap = h) (A : Afn Z h a .long n f) {j : Int32} {i : Nat} (hj : j.toInt = (i : Int)) (hi : i < n) {x : Int64} {g : JFrame} (hg : g.method = m) {rest : List Value} (hs : g.stack = .long x :: .int j :: .ref a :: rest) (hd : decode c.code g.pc = .ok (.lastore, 1)) {P : State → Outcome → Prop}
    (k : ∀ T' h', Stand p l e R s m args below meth c T' (locs ++ [⟨a, i⟩]) cells slots → T'.heap = h' → Wr h h' a i (.long x) → Afn Z h' a .long n (fun z => if z = i then .long x else f z) → Goes p e below P (T'.setTop { g with pc := g.pc + 1, stack := rest })) : Goes p e below P (T.setTop g) := by
  obtain ⟨cl, A1, S, -⟩ := id A
  obtain ⟨T', h', X', e', W, st⟩ := stJ X hx hZ eT A1 (j := j) (by rw [S]; exact own_ix hj hi) hg hs hd
  rw [own_ixn hj] at X' W
  exact Goes.step st (k T' h' X' e' W (A.set W rfl))
theorem Goes.bastore (X : Stand p l e R s m args below meth c T locs cells slots) (hx : p.tables.exec = Jvm.exec) (hZ : Z.Warmed39 s.vm) (eT : T.heap = h) (A : Afn Z h a .byte n f) {j : Int32} {i : Nat} (hj : j.toInt = (i : Int)) (hi : i < n) {x : Int32} {g : JFrame} (hg : g.method = m) {rest : List Value} (hs : g.stack = .int x :: .int j :: .ref a :: rest) (hd : decode c.code g.pc = .ok (.bastore, 1)) {P : State → Outcome → Prop}
    (k : ∀ T' h', Stand p l e R s m args below meth c T' (locs ++ [⟨a, i⟩]) cells slots → T'.heap = h' → Wr h h' a i (.int x.toInt8.toInt32) → Afn Z h' a .byte n (fun z => if z = i then .int x.toInt8.toInt32 else f z) → Goes p e below P (T'.setTop { g with pc := g.pc + 1, stack := rest })) : Goes p e below P (T.setTop g) := by
  obtain ⟨cl, A1, S, -⟩ := id A
  obtain ⟨T', h', X', e', W, st⟩ := stB X hx hZ eT A1 (j := j) (by rw [S]; exact own_ix hj hi) hg hs hd
  rw [own_ixn hj] at X' W
  exact Goes.step st (k T' h' X' e' W (A.set W (fits_nar_byte x)))
theorem Goes.castore (X : Stand p l e R s m args below meth c T locs cells slots) (hx : p.tables.exec = Jvm.exec) (hZ : Z.Warmed39 s.vm) (eT : T.heap = h) (A : Afn Z h a .char n f) {j : Int32} {i : Nat} (hj : j.toInt = (i : Int)) (hi : i < n) {x : Int32} {g : JFrame} (hg : g.method = m) {rest : List Value} (hs : g.stack = .int x :: .int j :: .ref a :: rest) (hd : decode c.code g.pc = .ok (.castore, 1)) {P : State → Outcome → Prop}
    (k : ∀ T' h', Stand p l e R s m args below meth c T' (locs ++ [⟨a, i⟩]) cells slots → T'.heap = h' → Wr h h' a i (.int (nar .char x)) → Afn Z h' a .char n (fun z => if z = i then .int (nar .char x) else f z) → Goes p e below P (T'.setTop { g with pc := g.pc + 1, stack := rest })) : Goes p e below P (T.setTop g) := by
  obtain ⟨cl, A1, S, -⟩ := id A
  obtain ⟨T', h', X', e', W, st⟩ := stC X hx hZ eT A1 (j := j) (by rw [S]; exact own_ix hj hi) hg hs hd
  rw [own_ixn hj] at X' W
  exact Goes.step st (k T' h' X' e' W (A.set W (fits_nar_char x)))
theorem Goes.iaload (X : Stand p l e R s m args below meth c T locs cells slots) (hx : p.tables.exec = Jvm.exec) (hZ : Z.Warmed39 s.vm) (eT : T.heap = h) (A : Afn Z h a .int n f) {j : Int32} {i : Nat} (hj : j.toInt = (i : Int)) (hi : i < n) (hv : f i = v) {g : JFrame} (hg : g.method = m) {rest : List Value} (hs : g.stack = .int j :: .ref a :: rest) (hd : decode c.code g.pc = .ok (.iaload, 1)) {P : State → Outcome → Prop}
    (k : Goes p e below P (T.setTop { g with pc := g.pc + 1, stack := v :: rest })) : Goes p e below P (T.setTop g) := by
  obtain ⟨cl, A1, S, B, H, G⟩ := A
  exact Goes.step (fun tgt q => X.iaload hx (j := j) (v := v) (by rw [eT]; exact A1.1) (State.isArrayOf_alike hZ.alike A1.2.1) A1.2.2 (by rw [S]; exact own_ix hj hi) (by rw [own_ixn hj, ← hv]; exact H i hi) hg hs hd tgt q) k
theorem Goes.laload (X : Stand p l e R s m args below meth c T locs cells slots) (hx : p.tables.exec = Jvm.exec) (hZ : Z.Warmed39 s.vm) (eT : T.heap = h) (A : Afn Z h a .long n f) {j : Int32} {i : Nat} (hj : j.toInt = (i : Int)) (hi : i < n) (hv : f i = v) {g : JFrame} (hg : g.method = m) {rest : List Value} (hs : g.stack = .int j :: .ref a :: rest) (hd : decode c.code g.pc = .ok (.laload, 1)) {P : State → Outcome → Prop}
    (k : Goes p e below P (T.setTop { g with pc := g.pc + 1, stack := v :: rest })) : Goes p e below P (T.setTop g) := by
  obtain ⟨cl, A1, S, B, H, G⟩ := A
  exact Goes.step (fun tgt q => X.laload hx (j := j) (v := v) (by rw [eT]; exact A1.1) (State.isArrayOf_alike hZ.alike A1.2.1) A1.2.2 (by rw [S]; exact own_ix hj hi) (by rw [own_ixn hj, ← hv]; exact H i hi) hg hs hd tgt q) k
theorem Goes.baload (X : Stand p l e R s m args below meth c T locs cells slots) (hx : p.tables.exec = Jvm.exec) (hZ : Z.Warmed39 s.vm) (eT : T.heap = h) (A : Afn Z h a .byte n f) {j : Int32} {i : Nat} (hj : j.toInt = (i : Int)) (hi : i < n) (hv : f i = v) {g : JFrame} (hg : g.method = m) {rest : List Value} (hs : g.stack = .int j :: .ref a :: rest) (hd : decode c.code g.pc = .ok (.baload, 1)) {P : State → Outcome → Prop}
    (k : Goes p e below P (T.setTop { g with pc := g.pc + 1, stack := v :: rest })) : Goes p e below P (T.setTop g) := by
  obtain ⟨cl, A1, S, B, H, G⟩ := A
  exact Goes.step (fun tgt q => X.baloadBytes hx (j := j) (v := v) (by rw [eT]; exact A1.1) (State.isArrayOf_alike hZ.alike A1.2.1) A1.2.2 (by rw [S]; exact own_ix hj hi) (by rw [own_ixn hj, ← hv]; exact H i hi) hg hs hd tgt q) k
theorem Goes.caload (X : Stand p l e R s m args below meth c T locs cells slots) (hx : p.tables.exec = Jvm.exec) (hZ : Z.Warmed39 s.vm) (eT : T.heap = h) (A : Afn Z h a .char n f) {j : Int32} {i : Nat} (hj : j.toInt = (i : Int)) (hi : i < n) (hv : f i = v) {g : JFrame} (hg : g.method = m) {rest : List Value} (hs : g.stack = .int j :: .ref a :: rest) (hd : decode c.code g.pc = .ok (.caload, 1)) {P : State → Outcome → Prop}
    (k : Goes p e below P (T.setTop { g with pc := g.pc + 1, stack := v :: rest })) : Goes p e below P (T.setTop g) := by
  obtain ⟨cl, A1, S, B, H, G⟩ := A
  exact Goes.step (fun tgt q => X.caload hx (j := j) (v := v) (by rw [eT]; exact A1.1) (State.isArrayOf_alike hZ.alike A1.2.1) A1.2.2 (by rw [S]; exact own_ix hj hi) (by rw [own_ixn hj, ← hv]; exact H i hi) hg hs hd tgt q) k
theorem Goes.aaload {C : FieldType} (X : Stand p l e R s m args below meth c T locs cells slots) (hx : p.tables.exec = Jvm.exec) (hZ : Z.Warmed39 s.vm) (eT : T.heap = h) (A : Afn Z h a C n f) (hC : C.isReference = true) {j : Int32} {i : Nat} (hj : j.toInt = (i : Int)) (hi : i < n) (hv : f i = v) {g : JFrame} (hg : g.method = m) {rest : List Value} (hs : g.stack = .int j :: .ref a :: rest) (hd : decode c.code g.pc = .ok (.aaload, 1)) {P : State → Outcome → Prop}
    (k : Goes p e below P (T.setTop { g with pc := g.pc + 1, stack := v :: rest })) : Goes p e below P (T.setTop g) := by
  obtain ⟨cl, A1, S, B, H, G⟩ := A
  exact Goes.step (fun tgt q => X.aaload hx (j := j) (v := v) (by rw [eT]; exact A1.1) (State.isArrayOf_alike hZ.alike A1.2.1) hC A1.2.2 (by rw [S]; exact own_ix hj hi) (by rw [own_ixn hj, ← hv]; exact H i hi) hg hs hd tgt q) k
theorem Goes.alen (X : Stand p l e R s m args below meth c T locs cells slots) (hx : p.tables.exec = Jvm.exec) (hZ : Z.Warmed39 s.vm) (eT : T.heap = h) (A : Afn Z h a ty n f) {z : Int32} (hz : z.toInt = (n : Int)) {g : JFrame} (hg : g.method = m) {rest : List Value} (hs : g.stack = .ref a :: rest) (hd : decode c.code g.pc = .ok (.arraylength, 1)) {P : State → Outcome → Prop}
    (k : Goes p e below P (T.setTop { g with pc := g.pc + 1, stack := .int z :: rest })) : Goes p e below P (T.setTop g) := by
  obtain ⟨cl, A1, S, B, H, G⟩ := A
  have q : cl.slots.size.toInt32 = z := by rw [S, ← Int32.toInt_inj, hz]; exact len_toInt B
  exact Goes.step (fun tgt r => X.arraylength hx (by rw [eT]; exact A1.1) (State.isArrayOf_alike hZ.alike A1.2.1) hg hs hd tgt (by rw [q]; exact r)) k
theorem Goes.clone (X : Stand p l e R s m args below meth c T locs cells slots) (hx : p.tables.exec = Jvm.exec) (hZ : Z.Warmed39 s.vm) {own ad : String} {index : Nat} (hown : s.vm.findClass own = some m.cls)
    (w1 : (Jvm.Cond.methodLink own index ⟨ad, "clone", "()Ljava/lang/Object;"⟩).before a0 Z = true) (w2 : (Jvm.Cond.sameMethod ad "java/lang/Object" "clone" "()Ljava/lang/Object;").before a0 Z = true) (w3 : (Jvm.Cond.native ⟨"java/lang/Object", "clone", "()Ljava/lang/Object;"⟩).before a0 Z = true)
    (w4 : (Jvm.Cond.instanceMethod ⟨"java/lang/Object", "clone", "()Ljava/lang/Object;"⟩).before a0 Z = true) (w5 : (Jvm.Cond.selects ad ⟨ad, "clone", "()Ljava/lang/Object;"⟩ ⟨"java/lang/Object", "clone", "()Ljava/lang/Object;"⟩).before a0 Z = true) (w6 : (Jvm.Cond.castable ad "java/lang/Cloneable").before a0 Z = true)
    (eT : T.heap = h) (A : Afn Z h a ty n f) (E : Exa Z h a ad) {g : JFrame} (hg : g.method = m) (hsize : g.locals.size = c.maxLocals) {rest : List Value} (hs : g.stack = .ref a :: rest) (hd : decode c.code g.pc = .ok (.invokevirtual index, 3))
    (hf : 1 ≤ R.frames) {W cap : Nat} (hW : 2 * g.monitorRoom + (rest.map fun v => v.category).sum ≤ W) (hl : W + 14 ≤ R.locals) (hcap : n ≤ cap) (hc : cells + 1 ≤ R.cells) (hsl : slots + cap ≤ R.slots) {P : State → Outcome → Prop}
    (k : ∀ T' h' b, b = h.size → Stand p l e R s m args below meth c T' locs (cells + 1) (slots + cap) → T'.heap = h' → Ext h h' → Afn Z h' b ty n f → Exa Z h' b ad → Goes p e below P (T'.setTop { g with pc := g.pc + 3, stack := .ref b :: rest })) : Goes p e below P (T.setTop g) := by
  obtain ⟨cl, A1, S, B, H, G⟩ := id A
  have FC : FitC Z cl := fitC_of A1 fun i hi v hv => by
    rw [S] at hi
    rw [H i hi] at hv
    cases hv
    exact G i hi
  obtain ⟨T', h', X', e', ex, A', E', st⟩ := cloneA X hx hZ hown w1 w2 w3 w4 w5 w6 eT A1 E FC hg hsize hs hd hf hW hl (by rw [S]; exact hcap) hc hsl
  exact Goes.step st (k T' h' _ rfl X' e' ex ⟨cloneOf cl, A', S, B, H, G⟩ E')
theorem Goes.callP (X : Stand p l e R s m args below meth c T locs cells slots) (hx : p.tables.exec = Jvm.exec) (hZ : Z.Warmed39 s.vm) {own C0 C1 : String} {index : Nat} {y z : MethodName} {bytes : ByteArray} {maxL : Nat} {ret : Option FieldType} {rm : Room} {as : List Value} {Q : Option Value → Heap → List Loc → Prop} (hown : s.vm.findClass own = some m.cls)
    (w1 : (Jvm.Cond.methodLink own index y).before a0 Z = true) (w2 : (Jvm.Cond.instanceMethod y).before a0 Z = true) (w3 : (Jvm.Cond.privateMethod y).before a0 Z = true) (w4 : (Jvm.Cond.selects C0 z z).before a0 Z = true) (hz : z.cls = y.cls) (w5 : (Jvm.Cond.code y bytes maxL ret).before a0 Z = true) (w6 : (Jvm.Cond.initialized y.cls).before a0 Z = true) (hy : y.cls ≠ "java/lang/invoke/MethodHandle" ∧ y.cls ≠ "java/lang/invoke/VarHandle")
    (eT : T.heap = h) {b : Addr} (E : Exa Z h b C1) (hM : Con l Z y bytes maxL ret rm (.ref b :: as).toArray h Q) {W : Nat} (hf : rm.frames + 1 ≤ R.frames) (hl : W + (maxL + 11) + rm.locals ≤ R.locals) (hc : cells + rm.cells ≤ R.cells) (hs : slots + rm.slots ≤ R.slots)
    {g : JFrame} (hg : g.method = m) (hsize : g.locals.size = c.maxLocals) {rest : List Value} {ps : List FieldType} {r : Option FieldType} (hd : parseMethodDescriptor y.desc = some ⟨ps, r⟩) (hlen : as.length = ps.length) (hstack : g.stack = as.reverse ++ .ref b :: rest) (hW : 2 * g.monitorRoom + (rest.map fun v => v.category).sum ≤ W) (hdg : decode c.code g.pc = .ok (.invokevirtual index, 3))
    {P : State → Outcome → Prop} (k : ∀ v T' L, Stand p l e R s m args below meth c T' (locs ++ L) (cells + rm.cells) (slots + rm.slots) → Q v T'.heap L → Goes p e below P (T'.setTop { g with pc := g.pc + 3, stack := v.toList ++ rest })) :
    Goes p e below P (T.setTop g) := by
  have hpr := Cond.privateMethod_at (mvP hZ w3 (args := args))
  have hsel : (Jvm.Cond.selects y.cls y y).before args s = true := by
    obtain ⟨c2, r2, m2, -, -, q3, -, kP, hkP, hkPi⟩ := Cond.selects_spec (mvT (args := args) hZ w4)
    exact selects_self_of_private (hz ▸ findClass_of_methodNamed q3) hkP hkPi hpr (mvT hZ w2) hy
  obtain ⟨cell, hcell, hobj⟩ := E.cell
  obtain ⟨v, vm₁, ⟨T', L', k', n'⟩, -, X', ⟨L, hQ, l', y', z'⟩, st⟩ := X.privateBack hx (y := y) hown (mvT hZ w1) (mvT hZ w2) hsel hpr (mvT hZ w5) hy (backOf (W := W) (hM []) hZ w5 w6 hf hl) (g := g) hg hsize (Steps.refl _) (a := b) (by rw [eT]; exact hcell) hobj (argsL := as) (rest := rest) (lenOf hd hlen) hstack hW hdg (fun _ _ => ⟨rfl, eT, hc, hs⟩)
  try dsimp only at X' hQ l' y' z' st
  subst l' y' z'
  exact Goes.tr st (k v T' L X' hQ)
theorem Afn.of_arv {k : ClassId} {z : Int32} {vs : List Value} {d : Value} (F : Arv Z h a k ty z vs d) (q : z.toInt = (n : Int)) : Afn Z h a ty n (fun i => vs.getD i d) := by
  obtain ⟨c, A', -, S, q3, H, G⟩ := F
  rw [own_ixn q] at S
  refine ⟨c, A', S, ?_, fun i hi => H i (by rw [S]; exact hi), fun i hi => G i (by rw [S]; exact hi)⟩
  have := z.toInt_lt
  omega
theorem Afn.to_arv {z : Int32} {d : Value} (F : Afn Z h a ty n f) (q : z.toInt = (n : Int)) : ∃ k, Arv Z h a k ty z ((List.range n).map f) d := by
  obtain ⟨c, A, S, B, H, G⟩ := F
  have e : ∀ i, i < n → ((List.range n).map f).getD i d = f i := fun i hi => by simp [List.getD_eq_getElem?_getD, hi]
  refine ⟨c.cls, c, A, rfl, by rw [S, own_ixn q], by rw [Int32.lt_iff_toInt_lt, q]; simp only [Int32.reduceToInt]; omega, fun i hi => ?_, fun i hi => ?_⟩
  · rw [e i (S ▸ hi)]; exact H i (S ▸ hi)
  · rw [e i (S ▸ hi)]; exact G i (S ▸ hi)
theorem own_cp {n n' sp dp nn : Nat} {f g : Nat → Value} {d d' : Value} (h1 : sp + nn ≤ n) (h2 : dp + nn ≤ n') : ∀ i, i < n' →
    (((List.range n').map g).take dp ++ (List.range nn).map (fun i => ((List.range n).map f).getD (sp + i) d) ++ ((List.range n').map g).drop (dp + nn)).getD i d' = if dp ≤ i ∧ i < dp + nn then f (sp + (i - dp)) else g i := fun i hi => by
  have e : ∀ j, j < nn → ((List.range n).map f).getD (sp + j) d = f (sp + j) := fun j hj => by
    have hh : sp + j < n := by omega
    simp [List.getD_eq_getElem?_getD, hh]
  rw [List.getD_eq_getElem?_getD]
  by_cases q1 : i < dp
  · have q2 : ¬ (dp ≤ i ∧ i < dp + nn) := by omega
    rw [if_neg q2, List.append_assoc, List.getElem?_append_left (by simp; omega)]
    simp [List.getElem?_take, q1, hi]
  · by_cases q2 : i < dp + nn
    · rw [if_pos ⟨by omega, q2⟩, List.getElem?_append_left (by simp; omega), List.getElem?_append_right (by simp; omega)]
      have hl : (((List.range n').map g).take dp).length = dp := by simp; omega
      rw [hl, List.getElem?_map, List.getElem?_range (by omega : i - dp < nn)]
      simp only [Option.map_some, Option.getD_some]
      exact e _ (by omega)
    · rw [if_neg (by omega), List.getElem?_append_right (by simp; omega)]
      have hl : (((List.range n').map g).take dp ++ (List.range nn).map (fun i => ((List.range n).map f).getD (sp + i) d)).length = dp + nn := by simp; omega
      rw [hl, List.getElem?_drop, show dp + nn + (i - (dp + nn)) = i from by omega]
      simp [hi]
/-- System.arraycopy between two arrays of one primitive kind -/
theorem Goes.acopy {n' sp dp nn : Nat} {g' : Nat → Value} {z z' zs zd zn : Int32} (X : Stand p l e R s m args below meth c T locs cells slots) (hx : p.tables.exec = Jvm.exec) (hZ : Z.Warmed39 s.vm) {own : String} {index : Nat} (hown : s.vm.findClass own = some m.cls)
    (w1 : (Jvm.Cond.methodLink own index Jvm.Stand.acN).before a0 Z = true) (w2 : (Jvm.Cond.native Jvm.Stand.acN).before a0 Z = true) (w3 : (Jvm.Cond.static Jvm.Stand.acN).before a0 Z = true) (w4 : (Jvm.Cond.initialized "java/lang/System").before a0 Z = true) (eT : T.heap = h)
    (A : Afn Z h a ty n f) (B : Afn Z h b ty n' g') (hty : refKind ty = false) (hz : z.toInt = (n : Int)) (hz' : z'.toInt = (n' : Int)) (hzs : zs.toInt = (sp : Int)) (hzd : zd.toInt = (dp : Int)) (hzn : zn.toInt = (nn : Int)) (h4 : sp + nn ≤ n) (h5 : dp + nn ≤ n') {n0 : Nat} (N : Fr n0 locs) (ge : n0 ≤ b)
    {g : JFrame} (hg : g.method = m) (hsize : g.locals.size = c.maxLocals) {rest : List Value} (hs : g.stack = .int zn :: .int zd :: .ref b :: .int zs :: .ref a :: rest) (hd : decode c.code g.pc = .ok (.invokestatic index, 3))
    (hf : 1 ≤ R.frames) {W : Nat} (hW : 2 * g.monitorRoom + (rest.map fun v => v.category).sum ≤ W) (hlo : W + (nativeFrameWords "java/lang/System" "arraycopy" 5 + 11) ≤ R.locals) {P : State → Outcome → Prop}
    (k : ∀ T' h' L, Stand p l e R s m args below meth c T' L cells slots → T'.heap = h' → Fr n0 L → Keep h h' [b] → Afn Z h' b ty n' (fun i => if dp ≤ i ∧ i < dp + nn then f (sp + (i - dp)) else g' i) → Goes p e below P (T'.setTop { g with pc := g.pc + 3, stack := rest })) : Goes p e below P (T.setTop g) := by
  have ng : ∀ {x : Int32} {i : Nat}, x.toInt = (i : Int) → ¬ x < 0 := fun {x i} q => by rw [Int32.lt_iff_toInt_lt, q]; simp only [Int32.reduceToInt]; omega
  obtain ⟨k1, A'⟩ := A.to_arv (d := .null) hz
  obtain ⟨k2, B'⟩ := B.to_arv (d := .null) hz'
  obtain ⟨T', h', L, X', e', N', K, C, st⟩ := cpA X hx hZ hown w1 w2 w3 w4 eT A' B' (Or.inl ⟨rfl, hty⟩) (sp := zs) (dp := zd) (nn := zn) (ng hzs) (ng hzd) (ng hzn) (by rw [own_ixn hz, own_ixn hzs, own_ixn hzn]; exact h4) (by rw [own_ixn hz', own_ixn hzd, own_ixn hzn]; exact h5) rfl (by simp [own_ixn hzd, own_ixn hzn]; exact h5) N ge hg hsize hs hd hf hW hlo
  rw [own_ixn hzd, own_ixn hzn, own_ixn hzs] at C
  exact Goes.step st (k T' h' L X' e' N' K ((Afn.of_arv C hz').congr (own_cp h4 h5)))
theorem own_len {t : Term} {cl : Cell} {z : Int32} (ev : t.eval args Z none [] Z = some (.ref a)) (ha : Z.arrayAt? a = some cl) (q : (Term.length t).eval args Z none [] Z = some (.int z)) : cl.slots.size < 2 ^ 31 ∧ cl.slots.size.toInt32 = z := by
  by_cases hl : cl.slots.size < 2 ^ 31
  · rw [len_f ev ha hl] at q
    exact ⟨hl, Value.int.inj (Option.some.inj q)⟩
  · simp [Term.eval, ev, ha, hl] at q
theorem own_eqR {t u : Term} (hb : u.eval args Z none [] Z = some (.ref a)) (q : (Jvm.Cond.eq t u).value args Z none Z [] = some true) : t.eval args Z none [] Z = some (.ref a) := by
  obtain ⟨x, y, e1, e2, k1, k2⟩ := cmp_v (Or.inl q)
  cases hb.symm.trans e2
  have hx : x.isRef = true := k2.2
  have hh := gotT (eq_R e1 e2 hx rfl) q
  rw [e1, hh]
end OwnHeap
section OwnWide
variable {p : Program} {l : Launch} {e : Env} {R : Room} {s : State} {vm0 : Vm} {m : MethodId} {args : Array Value} {below : List Frame} {meth : Method} {c : Code} {T : State} {locs : List Loc} {cells slots : Nat} {Z : State} {a0 : Array Value} {h h' : Heap}
/-- it returned, what Q says, and the wide frame -/
def AimW (s : State) (Q : Option Value → Heap → List Loc → Prop) (k n : Nat) (s₂ : State) (o : Outcome) : Prop :=
  ∃ v L, o = .returned v ∧ Q v s₂.heap L ∧ ReturnedEndW s o s₂ L k n
theorem own_wmono {t : State} {o : Outcome} {L : List Loc} {k n k' n' : Nat} (w : ReturnedEndW s o t L k n) (hk : k ≤ k') (hn : n ≤ n') : ReturnedEndW s o t L k' n' := ⟨w.1, w.2.1, w.2.2.1, w.2.2.2.mono hk hn⟩
theorem Goes.retNW (X : Stand p l e R (s.setVm vm0) m args below meth c T locs cells slots) {k0 : Nat} (hS : s.Since (s.setVm vm0).vm k0) (hk0 : k0 ≤ T.heap.size) (hx : p.tables.exec = Jvm.exec) (hlk : meth.locks = false) {t : FieldType} (hret : meth.sig.returnType = some t) (ht : t = .boolean ∨ t = .byte ∨ t = .char ∨ t = .short) {pc : Nat} {Ls : Array Slot} {z : Int32} {rest : List Value}
    (hd : decode c.code pc = .ok (.ireturn, 1)) {Q : Option Value → Heap → List Loc → Prop} {k n : Nat} (hk : cells ≤ k) (hn : slots ≤ n) (hQ : Q (some (.int (nar t z))) T.heap locs) :
    Goes p e below (AimW s Q k n) (T.setTop (mkF m pc Ls (.int z :: rest))) := by
  obtain ⟨fs, hr, hrun, hended, hW⟩ := X.leaveW hS hk0 (v := some (.int (nar t z))) (fun h => by rw [hret] at h; cases h) hlk
  exact ⟨_, _, Jvm.RoadKit.retN X hx hret ht hd hr, hrun, hended, _, _, rfl, hQ, own_wmono hW hk hn⟩
theorem Goes.retW (X : Stand p l e R (s.setVm vm0) m args below meth c T locs cells slots) {k0 : Nat} (hS : s.Since (s.setVm vm0).vm k0) (hk0 : k0 ≤ T.heap.size) (hx : p.tables.exec = Jvm.exec) (hlk : meth.locks = false) {t : FieldType} (hret : meth.sig.returnType = some t) {w : Value} (hnr : narrow t w = w) {i : Instr} {pc : Nat} {Ls : Array Slot} {rest : List Value}
    (hi : (i = .ireturn ∧ (t = .int ∨ t = .boolean ∨ t = .byte ∨ t = .char ∨ t = .short) ∧ ∃ z, w = .int z) ∨ (i = .lreturn ∧ t = .long ∧ ∃ z, w = .long z) ∨ (i = .dreturn ∧ t = .double ∧ ∃ z, w = .double z) ∨ (i = .freturn ∧ t = .float ∧ ∃ z, w = .float z) ∨ (i = .areturn ∧ t.isReference = true ∧ w.isRef = true))
    (hd : decode c.code pc = .ok (i, 1)) {Q : Option Value → Heap → List Loc → Prop} {k n : Nat} (hk : cells ≤ k) (hn : slots ≤ n) (hQ : Q (some w) T.heap locs) :
    Goes p e below (AimW s Q k n) (T.setTop (mkF m pc Ls (w :: rest))) := by
  obtain ⟨fs, hr, hrun, hended, hW⟩ := X.leaveW hS hk0 (v := some w) (fun h => by rw [hret] at h; cases h) hlk
  exact ⟨_, _, Jvm.RoadKit.retOut X hx hret hnr hi hd hr, hrun, hended, _, _, rfl, hQ, own_wmono hW hk hn⟩
theorem Goes.ret0W (X : Stand p l e R (s.setVm vm0) m args below meth c T locs cells slots) {k0 : Nat} (hS : s.Since (s.setVm vm0).vm k0) (hk0 : k0 ≤ T.heap.size) (hx : p.tables.exec = Jvm.exec) (hlk : meth.locks = false) (hret : meth.sig.returnType = none) {pc : Nat} {Ls : Array Slot}
    (hd : decode c.code pc = .ok (.return_, 1)) {Q : Option Value → Heap → List Loc → Prop} {k n : Nat} (hk : cells ≤ k) (hn : slots ≤ n) (hQ : Q none T.heap locs) :
    Goes p e below (AimW s Q k n) (T.setTop (mkF m pc Ls [])) := by
  obtain ⟨fs, hr, hrun, hended, hW⟩ := X.leaveW hS hk0 (v := none) (fun _ => rfl) hlk
  exact ⟨_, _, X.returnOut hx hret hd hr, hrun, hended, _, _, rfl, hQ, own_wmono hW hk hn⟩
def ConW (l : Launch) (Z : State) (y : MethodName) (bytes : ByteArray) (maxL : Nat) (ret : Option FieldType) (rm : Room) (as : Array Value) (h0 : Heap) (Q : Option Value → Heap → List Loc → Prop) : Prop :=
  ∀ ws : List Jvm.Cond, MetFree l y (head1 (Jvm.Cond.code y bytes maxL ret :: ws) rm) (fun a U => a = as ∧ Z.Warmed39 U.vm ∧ U.heap = h0) (fun _ _ _ _ _ => True) (fun _ U o U' => ∃ v L, o = .returned v ∧ Q v U'.heap L ∧ ReturnedEndW U o U' L rm.cells rm.slots)
theorem ConW.body {y : MethodName} {bytes : ByteArray} {maxL : Nat} {ret : Option FieldType} {rm : Room} {as : Array Value} {h0 : Heap} {Q : Option Value → Heap → List Loc → Prop} (hp : plainFor y = true)
    (H : ∀ (p : Program) (e : Env) (s : State) (vm0 : Vm) (m : MethodId) (below : List Frame) (meth : Method) (c : Code) (s₁ : State), p.tables.exec = Jvm.exec → c.code = bytes → c.maxLocals = maxL → Z.Warmed39 (s.setVm vm0).vm → (s.setVm vm0).vm.findClass y.cls = some m.cls → meth.name = y.name → meth.sig.returnType = ret → meth.locks = false →
      Stand p l e rm (s.setVm vm0) m as below meth c s₁ [] 0 0 → s₁.heap = h0 → s.Since (s.setVm vm0).vm h0.size → Goes p e below (AimW s Q rm.cells rm.slots) (s₁.setTop (entryFrame m as maxL))) :
    ConW l Z y bytes maxL ret rm as h0 Q := by
  intro ws
  refine MetFree.of_bodySF hp hisR ?_
  intro p e s m args below meth c s₁ Bd hml0 hP hK
  obtain ⟨rfl, hZ, hh⟩ := hP
  exact H p e s s.vm m below meth c s₁ Bd.exec Bd.bytes hml0 hZ (findClass_of_methodNamed Bd.named) (name_of_methodNamed Bd.named Bd.method).1 Bd.returns Bd.notSynchronized (Stand.of_body Bd) (by rw [← hh, Bd.state]; rfl) ((State.WarmedH.refl s).since _)
theorem Goes.ldcS (X : Stand p l e R (s.setVm vm0) m args below meth c T locs cells slots) (hx : p.tables.exec = Jvm.exec) (hZ : Z.Warmed39 (s.setVm vm0).vm) {own text : String} {index : Nat} (hown : (s.setVm vm0).vm.findClass own = some m.cls) (w : (Jvm.Cond.stringLink own index text).before a0 Z = true) (wS : ∀ a ∈ Bundle.stringAtoms, a.before a0 Z = true)
    (eT : T.heap = h) {k0 : Nat} (hS : s.Since (s.setVm vm0).vm k0) (hk : k0 ≤ h.size) {g : JFrame} (hg : g.method = m) (hd : decode c.code g.pc = .ok (.ldc index, 2)) {n : Nat} (hn : 4 * text.toList.length ≤ n) (hbig : n ≤ 536870912) (hc : cells + 2 ≤ R.cells) (hl : slots + (n + 4) ≤ R.slots) {P : State → Outcome → Prop}
    (k : ∀ (a : Addr) (T' : State) (h' : Heap) (k1 : Nat), Stand p l e R (s.setVm T'.vm) m args below meth c T' locs (cells + 2) (slots + (n + 4)) → T'.heap = h' → Ext h h' → s.Since (s.setVm T'.vm).vm k1 → k1 ≤ h'.size → Z.Warmed39 (s.setVm T'.vm).vm → (s.setVm T'.vm).vm.findClass own = some m.cls →
      Goes p e below P (T'.setTop { g with pc := g.pc + 2, stack := .ref a :: g.stack })) : Goes p e below P (T.setTop g) := by
  obtain ⟨a, T', h', k1, X', e', E, hS', hk', hZ', hown', st⟩ := Jvm.RoadKit.ldcS X hx hZ hown w wS eT hS hk hg hd hn hbig hc hl
  exact Goes.step st (k a T' h' k1 X' e' E hS' hk' hZ' hown')
/-- what a wide callee leaves: the start is re-based -/
def Rebased (p : Program) (l : Launch) (e : Env) (R : Room) (s : State) (m : MethodId) (args : Array Value) (below : List Frame) (meth : Method) (c : Code) (T' : State) (locs : List Loc) (cells slots : Nat) (Z : State) (own : String) : Prop :=
  Stand p l e R (s.setVm T'.vm) m args below meth c T' locs cells slots ∧ s.Since (s.setVm T'.vm).vm T'.heap.size ∧ Z.Warmed39 (s.setVm T'.vm).vm ∧ (s.setVm T'.vm).vm.findClass own = some m.cls
theorem own_rebase {T' : State} {L : List Loc} {k n k0 : Nat} {own : String} (hZ : Z.Warmed39 (s.setVm vm0).vm) (hown : (s.setVm vm0).vm.findClass own = some m.cls) (hS : s.Since (s.setVm vm0).vm k0) (hk : k0 ≤ T.heap.size)
    (X' : Stand p l e R ((s.setVm vm0).setVm T'.vm) m args below meth c T' L k n) (h2 : (s.setVm vm0).Since T'.vm T'.heap.size) (g : T.heap.size ≤ T'.heap.size) : Rebased p l e R s m args below meth c T' L k n Z own :=
  ⟨X', foldS (T := T) hS hk h2 g, State.Warmed39.trans (t := s.setVm vm0) hZ h2.1, by rw [show (s.setVm T'.vm).vm = T'.vm from rfl, h2.1.alike.findClass]; exact hown⟩
theorem Goes.callSW (X : Stand p l e R (s.setVm vm0) m args below meth c T locs cells slots) (hx : p.tables.exec = Jvm.exec) (hZ : Z.Warmed39 (s.setVm vm0).vm) {own : String} {index : Nat} {y : MethodName} {bytes : ByteArray} {maxL : Nat} {ret : Option FieldType} {rm : Room} {as : List Value} {Q : Option Value → Heap → List Loc → Prop} (hown : (s.setVm vm0).vm.findClass own = some m.cls)
    (w1 : (Jvm.Cond.methodLink own index y).before a0 Z = true) (w2 : (Jvm.Cond.static y).before a0 Z = true) (w3 : (Jvm.Cond.initialized y.cls).before a0 Z = true) (w4 : (Jvm.Cond.code y bytes maxL ret).before a0 Z = true) (hy : y.cls ≠ "java/lang/invoke/MethodHandle" ∧ y.cls ≠ "java/lang/invoke/VarHandle")
    (eT : T.heap = h) {k0 : Nat} (hS : s.Since (s.setVm vm0).vm k0) (hk : k0 ≤ h.size) (hM : ConW l Z y bytes maxL ret rm as.toArray h Q) {W : Nat} (hf : rm.frames + 1 ≤ R.frames) (hl : W + (maxL + 11) + rm.locals ≤ R.locals) (hc : cells + rm.cells ≤ R.cells) (hs : slots + rm.slots ≤ R.slots)
    {g : JFrame} (hg : g.method = m) (hsize : g.locals.size = c.maxLocals) {rest : List Value} {ps : List FieldType} {r : Option FieldType} (hd : parseMethodDescriptor y.desc = some ⟨ps, r⟩) (hlen : as.length = ps.length) (hstack : g.stack = as.reverse ++ rest) (hW : 2 * g.monitorRoom + (rest.map fun v => v.category).sum ≤ W) (hdg : decode c.code g.pc = .ok (.invokestatic index, 3))
    {P : State → Outcome → Prop} (k : ∀ v T' L, Rebased p l e R s m args below meth c T' (locs ++ L) (cells + rm.cells) (slots + rm.slots) Z own → h.size ≤ T'.heap.size → Q v T'.heap L → Goes p e below P (T'.setTop { g with pc := g.pc + 3, stack := v.toList ++ rest })) :
    Goes p e below P (T.setTop g) := by
  obtain ⟨v, vm₁, ⟨T', L', k', n'⟩, -, X', hS', hgr, ⟨L, hQ, l', y', z'⟩, st⟩ := callSS X hx hown (mvT hZ w1) (mvT hZ w2) (mvT hZ w3) (mvT hZ w4) hy (backOfS (W := W) (hM []) hZ w4 w3 hf hl) (g := g) hg hsize (argsL := as) (rest := rest) (lenOf hd hlen) hstack hW hdg (fun _ _ => ⟨rfl, eT, hc, hs⟩)
  try dsimp only at X' hS' hgr hQ l' y' z' st
  subst l' y' z'
  exact Goes.tr st (k v T' L (own_rebase hZ hown hS (by rw [eT]; exact hk) X' hS' hgr) (by rw [← eT]; exact hgr) hQ)
theorem Goes.callIW (X : Stand p l e R (s.setVm vm0) m args below meth c T locs cells slots) (hx : p.tables.exec = Jvm.exec) (hZ : Z.Warmed39 (s.setVm vm0).vm) {own : String} {index : Nat} {y : MethodName} {bytes : ByteArray} {maxL : Nat} {rm : Room} {as : List Value} {Q : Option Value → Heap → List Loc → Prop} (hy1 : y.name = "<init>") (hown : (s.setVm vm0).vm.findClass own = some m.cls)
    (w1 : (Jvm.Cond.methodLink own index y).before a0 Z = true) (w2 : (Jvm.Cond.instanceMethod y).before a0 Z = true) (w3 : (Jvm.Cond.code y bytes maxL none).before a0 Z = true) (w4 : (Jvm.Cond.initialized y.cls).before a0 Z = true) (hy : y.cls ≠ "java/lang/invoke/MethodHandle" ∧ y.cls ≠ "java/lang/invoke/VarHandle")
    (eT : T.heap = h) {k0 : Nat} (hS : s.Since (s.setVm vm0).vm k0) (hk : k0 ≤ h.size) {b : Addr} (hM : ConW l Z y bytes maxL none rm (.ref b :: as).toArray h Q) {W : Nat} (hf : rm.frames + 1 ≤ R.frames) (hl : W + (maxL + 11) + rm.locals ≤ R.locals) (hc : cells + rm.cells ≤ R.cells) (hs : slots + rm.slots ≤ R.slots)
    {g : JFrame} (hg : g.method = m) (hsize : g.locals.size = c.maxLocals) {rest : List Value} {ps : List FieldType} {r : Option FieldType} (hd : parseMethodDescriptor y.desc = some ⟨ps, r⟩) (hlen : as.length = ps.length) (hstack : g.stack = as.reverse ++ .ref b :: rest) (hW : 2 * g.monitorRoom + (rest.map fun v => v.category).sum ≤ W) (hdg : decode c.code g.pc = .ok (.invokespecial index, 3))
    {P : State → Outcome → Prop} (k : ∀ v T' L, Rebased p l e R s m args below meth c T' (locs ++ L) (cells + rm.cells) (slots + rm.slots) Z own → h.size ≤ T'.heap.size → Q v T'.heap L → Goes p e below P (T'.setTop { g with pc := g.pc + 3, stack := v.toList ++ rest })) :
    Goes p e below P (T.setTop g) := by
  obtain ⟨v, vm₁, ⟨T', L', k', n'⟩, -, X', hS', hgr, ⟨L, hQ, l', y', z'⟩, st⟩ := X.specialBackS hx (y := y) hy1 hown (mvT hZ w1) (mvT hZ w2) (mvT hZ w3) hy (backOfS (W := W) (hM []) hZ w3 w4 hf hl) (g := g) hg hsize (Steps.refl _) (a := b) (argsL := as) (rest := rest) (lenOf hd hlen) hstack hW hdg (fun _ _ => ⟨rfl, eT, hc, hs⟩)
  try dsimp only at X' hS' hgr hQ l' y' z' st
  subst l' y' z'
  exact Goes.tr st (k v T' L (own_rebase hZ hown hS (by rw [eT]; exact hk) X' hS' hgr) (by rw [← eT]; exact hgr) hQ)
theorem Goes.callVW (X : Stand p l e R (s.setVm vm0) m args below meth c T locs cells slots) (hx : p.tables.exec = Jvm.exec) (hZ : Z.Warmed39 (s.setVm vm0).vm) {own C : String} {index : Nat} {y z : MethodName} {bytes : ByteArray} {maxL : Nat} {ret : Option FieldType} {rm : Room} {as : List Value} {Q : Option Value → Heap → List Loc → Prop} (hown : (s.setVm vm0).vm.findClass own = some m.cls)
    (w1 : (Jvm.Cond.methodLink own index y).before a0 Z = true) (w2 : (Jvm.Cond.declares y).before a0 Z = true) (hnf : NotFace (s.setVm vm0) y) (w3 : (Jvm.Cond.selects C y z).before a0 Z = true) (w4 : (Jvm.Cond.instanceMethod z).before a0 Z = true) (w5 : (Jvm.Cond.code z bytes maxL ret).before a0 Z = true) (w6 : (Jvm.Cond.initialized z.cls).before a0 Z = true) (hy : y.cls ≠ "java/lang/invoke/MethodHandle" ∧ y.cls ≠ "java/lang/invoke/VarHandle")
    (eT : T.heap = h) {k0 : Nat} (hS : s.Since (s.setVm vm0).vm k0) (hk : k0 ≤ h.size) {b : Addr} (E : Exa Z h b C) (hM : ConW l Z z bytes maxL ret rm (.ref b :: as).toArray h Q) {W : Nat} (hf : rm.frames + 1 ≤ R.frames) (hl : W + (maxL + 11) + rm.locals ≤ R.locals) (hc : cells + rm.cells ≤ R.cells) (hs : slots + rm.slots ≤ R.slots)
    {g : JFrame} (hg : g.method = m) (hsize : g.locals.size = c.maxLocals) {rest : List Value} {ps : List FieldType} {r : Option FieldType} (hd : parseMethodDescriptor y.desc = some ⟨ps, r⟩) (hlen : as.length = ps.length) (hstack : g.stack = as.reverse ++ .ref b :: rest) (hW : 2 * g.monitorRoom + (rest.map fun v => v.category).sum ≤ W) (hdg : decode c.code g.pc = .ok (.invokevirtual index, 3))
    {P : State → Outcome → Prop} (k : ∀ v T' L, Rebased p l e R s m args below meth c T' (locs ++ L) (cells + rm.cells) (slots + rm.slots) Z own → h.size ≤ T'.heap.size → Q v T'.heap L → Goes p e below P (T'.setTop { g with pc := g.pc + 3, stack := v.toList ++ rest })) :
    Goes p e below P (T.setTop g) := by
  obtain ⟨cB, kB, q1, -, q3⟩ := isOf hZ eT E
  obtain ⟨v, vm₁, ⟨T', L', k', n'⟩, -, X', hS', hgr, ⟨L, hQ, l', y', z'⟩, st⟩ := X.virtualBackS hx (y := y) (z := z) hown (mvT hZ w1) (mvT hZ w2) hnf (mvT hZ w3) (mvT hZ w4) hy (backOfS (W := W) (hM []) hZ w5 w6 hf hl) q1 q3 (g := g) hg hsize (Steps.refl _) (argsL := as) (rest := rest) (lenOf hd hlen) hstack hW hdg (fun _ _ => ⟨rfl, eT, hc, hs⟩)
  try dsimp only at X' hS' hgr hQ l' y' z' st
  subst l' y' z'
  exact Goes.tr st (k v T' L (own_rebase hZ hown hS (by rw [eT]; exact hk) X' hS' hgr) (by rw [← eT]; exact hgr) hQ)
/-- the law's own contract: it starts in Z itself -/
def ConZ (l : Launch) (Z : State) (y : MethodName) (bytes : ByteArray) (maxL : Nat) (ret : Option FieldType) (rm : Room) (as : Array Value) (h0 : Heap) (Q : Option Value → Heap → List Loc → Prop) : Prop :=
  ∀ ws : List Jvm.Cond, MetFree l y (head1 (Jvm.Cond.code y bytes maxL ret :: ws) rm) (fun a U => a = as ∧ U = Z) (fun _ _ _ _ _ => True) (fun _ U o U' => ∃ v L, o = .returned v ∧ Q v U'.heap L ∧ ReturnedEndW U o U' L rm.cells rm.slots)
theorem ConZ.body {y : MethodName} {bytes : ByteArray} {maxL : Nat} {ret : Option FieldType} {rm : Room} {as : Array Value} {h0 : Heap} {Q : Option Value → Heap → List Loc → Prop} (hp : plainFor y = true) (hh0 : h0 = Z.heap)
    (H : ∀ (p : Program) (e : Env) (s : State) (vm0 : Vm) (m : MethodId) (below : List Frame) (meth : Method) (c : Code) (s₁ : State), p.tables.exec = Jvm.exec → c.code = bytes → c.maxLocals = maxL → Z.Warmed39 (s.setVm vm0).vm → (s.setVm vm0).vm.findClass y.cls = some m.cls → meth.name = y.name → meth.sig.returnType = ret → meth.locks = false →
      Stand p l e rm (s.setVm vm0) m as below meth c s₁ [] 0 0 → s₁.heap = h0 → s.Since (s.setVm vm0).vm h0.size → s.heap = Z.heap → IB Z (s.setVm vm0).vm [] → Goes p e below (AimW s Q rm.cells rm.slots) (s₁.setTop (entryFrame m as maxL))) :
    ConZ l Z y bytes maxL ret rm as h0 Q := by
  intro ws
  refine MetFree.of_bodySF hp hisR ?_
  intro p e s m args below meth c s₁ Bd hml0 hP hK
  obtain ⟨rfl, rfl⟩ := hP
  exact H p e s s.vm m below meth c s₁ Bd.exec Bd.bytes hml0 (State.Warmed39.refl s) (findClass_of_methodNamed Bd.named) (name_of_methodNamed Bd.named Bd.method).1 Bd.returns Bd.notSynchronized (Stand.of_body Bd) (by rw [hh0, Bd.state]; rfl) ((State.WarmedH.refl s).since _) rfl IB.start
theorem Goes.ldcSV (X : Stand p l e R (s.setVm vm0) m args below meth c T locs cells slots) (hx : p.tables.exec = Jvm.exec) (hZ : Z.Warmed39 (s.setVm vm0).vm) {own text : String} {index : Nat} (hown : (s.setVm vm0).vm.findClass own = some m.cls) (w : (Jvm.Cond.stringLink own index text).before a0 Z = true) (wS : ∀ a ∈ Bundle.stringAtoms, a.before a0 Z = true)
    (eT : T.heap = h) {k0 : Nat} (hS : s.Since (s.setVm vm0).vm k0) (hk : k0 ≤ h.size) (hsz : s.heap = Z.heap) (N : Fr Z.heap.size locs) (I : IB Z (s.setVm vm0).vm []) (hh : Jvm.Lit.constHeld Z own index) (hcw : Jvm.Lit.compactW.before a0 Z = true)
    {vs : List Value} {z : Int32} {nl : Nat} (ht : (∀ c ∈ text.toList, c.toNat < 256) ∧ text.toList.map (fun c => Value.int (Jvm.Lit.byteI c.toNat.toUInt16)) = vs) (hz : z.toInt = (nl : Int)) (hl : nl = vs.length)
    {g : JFrame} (hg : g.method = m) (hd : decode c.code g.pc = .ok (.ldc index, 2)) {n : Nat} (hn : 4 * text.toList.length ≤ n) (hbig : n ≤ 536870912) (hc : cells + 2 ≤ R.cells) (hl' : slots + (n + 4) ≤ R.slots) {P : State → Outcome → Prop}
    (k : ∀ (a : Addr) (T' : State) (h' : Heap) (k1 : Nat) (b : Addr), Stand p l e R (s.setVm T'.vm) m args below meth c T' locs (cells + 2) (slots + (n + 4)) → T'.heap = h' → Ext h h' → s.Since (s.setVm T'.vm).vm k1 → k1 ≤ h'.size → Z.Warmed39 (s.setVm T'.vm).vm → (s.setVm T'.vm).vm.findClass own = some m.cls →
      Exa Z h' a "java/lang/String" → Fld Z h' a "java/lang/String" "coder" "B" (.int 0) → Fld Z h' a "java/lang/String" "value" "[B" (.ref b) → Afn Z h' b .byte nl (fun i => vs.getD i (.int 0)) →
      Goes p e below P (T'.setTop { g with pc := g.pc + 2, stack := .ref a :: g.stack })) : Goes p e below P (T.setTop g) := by
  obtain ⟨a, T', h', k1, b, kc, X', e', E, hS', hk', hZ', hown', M, Fc, Fv, A, -, -, -, st⟩ := Jvm.RoadKit.ldcSV X hx hZ hown w wS eT hS hk (by rw [hsz]; exact N) (fun b cl q => by rw [hsz]; exact q) I (by simp) hh hcw ht (z := z) (by rw [Int32.lt_iff_toInt_lt, hz]; simp only [Int32.reduceToInt]; omega) (by rw [own_ixn hz]; exact hl) hg hd hn hbig hc hl'
  exact Goes.step st (k a T' h' k1 b X' e' E hS' hk' hZ' hown' M Fc Fv (Afn.of_arv A hz))
end OwnWide
section OwnHeld
variable {p : Program} {l : Launch} {e : Env} {R : Room} {s : State} {vm0 : Vm} {m : MethodId} {args : Array Value} {below : List Frame} {meth : Method} {c : Code} {T : State} {locs : List Loc} {cells slots : Nat} {Z : State} {a0 : Array Value} {h h' : Heap} {EL : List (String × Nat)}
/-- it returned, what Q says, the constants of EL hold their texts still, and the wide frame -/
def AimH (Z : State) (EL : List (String × Nat)) (s : State) (Q : Option Value → Heap → List Loc → Prop) (k n : Nat) (s₂ : State) (o : Outcome) : Prop :=
  ∃ v L, o = .returned v ∧ Q v s₂.heap L ∧ CHr Z EL s.vm s.heap s₂.vm s₂.heap ∧ ReturnedEndW s o s₂ L k n
def ConH (l : Launch) (Z : State) (EL : List (String × Nat)) (xs : List Addr) (y : MethodName) (bytes : ByteArray) (maxL : Nat) (ret : Option FieldType) (rm : Room) (as : Array Value) (h0 : Heap) (Q : Option Value → Heap → List Loc → Prop) : Prop :=
  ∀ ws : List Jvm.Cond, MetFree l y (head1 (Jvm.Cond.code y bytes maxL ret :: ws) rm) (fun a U => a = as ∧ Z.Warmed39 U.vm ∧ U.heap = h0 ∧ CHv Z EL U.vm h0 ∧ ∀ x ∈ xs, Safe Z EL U.vm h0 x) (fun _ _ _ _ _ => True) (fun _ U o U' => ∃ v L, o = .returned v ∧ Q v U'.heap L ∧ CHr Z EL U.vm U.heap U'.vm U'.heap ∧ ReturnedEndW U o U' L rm.cells rm.slots)
theorem ConH.body {xs : List Addr} {y : MethodName} {bytes : ByteArray} {maxL : Nat} {ret : Option FieldType} {rm : Room} {as : Array Value} {h0 : Heap} {Q : Option Value → Heap → List Loc → Prop} (hp : plainFor y = true)
    (H : ∀ (p : Program) (e : Env) (s : State) (vm0 : Vm) (m : MethodId) (below : List Frame) (meth : Method) (c : Code) (s₁ : State), p.tables.exec = Jvm.exec → c.code = bytes → c.maxLocals = maxL → Z.Warmed39 (s.setVm vm0).vm → (s.setVm vm0).vm.findClass y.cls = some m.cls → meth.name = y.name → meth.sig.returnType = ret → meth.locks = false →
      Stand p l e rm (s.setVm vm0) m as below meth c s₁ [] 0 0 → s₁.heap = h0 → s.Since (s.setVm vm0).vm h0.size → s.heap = h0 → CHr Z EL s.vm h0 (s.setVm vm0).vm h0 → (∀ x ∈ xs, Safe Z EL (s.setVm vm0).vm h0 x) → Goes p e below (AimH Z EL s Q rm.cells rm.slots) (s₁.setTop (entryFrame m as maxL))) :
    ConH l Z EL xs y bytes maxL ret rm as h0 Q := by
  intro ws
  refine MetFree.of_bodySF hp hisR ?_
  intro p e s m args below meth c s₁ Bd hml0 hP hK
  obtain ⟨rfl, hZ, hh, hC, hsf⟩ := hP
  exact H p e s s.vm m below meth c s₁ Bd.exec Bd.bytes hml0 hZ (findClass_of_methodNamed Bd.named) (name_of_methodNamed Bd.named Bd.method).1 Bd.returns Bd.notSynchronized (Stand.of_body Bd) (by rw [← hh, Bd.state]; rfl) ((State.WarmedH.refl s).since _) hh (CHr.refl hC) hsf
/-- the law's own contract: the constants of EL hold at its start; at its end nobody asks -/
def ConK (l : Launch) (Z : State) (EL : List (String × Nat)) (y : MethodName) (bytes : ByteArray) (maxL : Nat) (ret : Option FieldType) (rm : Room) (as : Array Value) (h0 : Heap) (Q : Option Value → Heap → List Loc → Prop) : Prop :=
  ∀ ws : List Jvm.Cond, MetFree l y (head1 (Jvm.Cond.code y bytes maxL ret :: ws) rm) (fun a U => a = as ∧ Z.Warmed39 U.vm ∧ U.heap = h0 ∧ CHv Z EL U.vm h0) (fun _ _ _ _ _ => True) (fun _ U o U' => ∃ v L, o = .returned v ∧ Q v U'.heap L ∧ ReturnedEndW U o U' L rm.cells rm.slots)
theorem ConK.body {y : MethodName} {bytes : ByteArray} {maxL : Nat} {ret : Option FieldType} {rm : Room} {as : Array Value} {h0 : Heap} {Q : Option Value → Heap → List Loc → Prop} (hp : plainFor y = true)
    (H : ∀ (p : Program) (e : Env) (s : State) (vm0 : Vm) (m : MethodId) (below : List Frame) (meth : Method) (c : Code) (s₁ : State), p.tables.exec = Jvm.exec → c.code = bytes → c.maxLocals = maxL → Z.Warmed39 (s.setVm vm0).vm → (s.setVm vm0).vm.findClass y.cls = some m.cls → meth.name = y.name → meth.sig.returnType = ret → meth.locks = false →
      Stand p l e rm (s.setVm vm0) m as below meth c s₁ [] 0 0 → s₁.heap = h0 → s.Since (s.setVm vm0).vm h0.size → s.heap = h0 → CHr Z EL s.vm h0 (s.setVm vm0).vm h0 → Goes p e below (AimW s Q rm.cells rm.slots) (s₁.setTop (entryFrame m as maxL))) :
    ConK l Z EL y bytes maxL ret rm as h0 Q := by
  intro ws
  refine MetFree.of_bodySF hp hisR ?_
  intro p e s m args below meth c s₁ Bd hml0 hP hK
  obtain ⟨rfl, hZ, hh, hC⟩ := hP
  exact H p e s s.vm m below meth c s₁ Bd.exec Bd.bytes hml0 hZ (findClass_of_methodNamed Bd.named) (name_of_methodNamed Bd.named Bd.method).1 Bd.returns Bd.notSynchronized (Stand.of_body Bd) (by rw [← hh, Bd.state]; rfl) ((State.WarmedH.refl s).since _) hh (CHr.refl hC)
theorem own_atT (X : Stand p l e R (s.setVm vm0) m args below meth c T locs cells slots) (hZ : Z.Warmed39 (s.setVm vm0).vm) (hEL : EW Z a0 EL) (eT : T.heap = h) {h0 : Heap} (hs : s.heap = h0) (A : CHr Z EL s.vm h0 (s.setVm vm0).vm h) : CHr Z EL s.vm s.heap T.vm T.heap := by
  subst eT; subst hs
  exact A.trans (CHv.at X hZ hEL A.1)
theorem Goes.retNH (X : Stand p l e R (s.setVm vm0) m args below meth c T locs cells slots) {k0 : Nat} (hS : s.Since (s.setVm vm0).vm k0) (hk0 : k0 ≤ T.heap.size) (hA : CHr Z EL s.vm s.heap T.vm T.heap) (hx : p.tables.exec = Jvm.exec) (hlk : meth.locks = false) {t : FieldType} (hret : meth.sig.returnType = some t) (ht : t = .boolean ∨ t = .byte ∨ t = .char ∨ t = .short) {pc : Nat} {Ls : Array Slot} {z : Int32} {rest : List Value}
    (hd : decode c.code pc = .ok (.ireturn, 1)) {Q : Option Value → Heap → List Loc → Prop} {k n : Nat} (hk : cells ≤ k) (hn : slots ≤ n) (hQ : Q (some (.int (nar t z))) T.heap locs) :
    Goes p e below (AimH Z EL s Q k n) (T.setTop (mkF m pc Ls (.int z :: rest))) := by
  obtain ⟨fs, hr, hrun, hended, hW⟩ := X.leaveW hS hk0 (v := some (.int (nar t z))) (fun h => by rw [hret] at h; cases h) hlk
  exact ⟨_, _, Jvm.RoadKit.retN X hx hret ht hd hr, hrun, hended, _, _, rfl, hQ, hA, own_wmono hW hk hn⟩
theorem Goes.retH (X : Stand p l e R (s.setVm vm0) m args below meth c T locs cells slots) {k0 : Nat} (hS : s.Since (s.setVm vm0).vm k0) (hk0 : k0 ≤ T.heap.size) (hA : CHr Z EL s.vm s.heap T.vm T.heap) (hx : p.tables.exec = Jvm.exec) (hlk : meth.locks = false) {t : FieldType} (hret : meth.sig.returnType = some t) {w : Value} (hnr : narrow t w = w) {i : Instr} {pc : Nat} {Ls : Array Slot} {rest : List Value}
    (hi : (i = .ireturn ∧ (t = .int ∨ t = .boolean ∨ t = .byte ∨ t = .char ∨ t = .short) ∧ ∃ z, w = .int z) ∨ (i = .lreturn ∧ t = .long ∧ ∃ z, w = .long z) ∨ (i = .dreturn ∧ t = .double ∧ ∃ z, w = .double z) ∨ (i = .freturn ∧ t = .float ∧ ∃ z, w = .float z) ∨ (i = .areturn ∧ t.isReference = true ∧ w.isRef = true))
    (hd : decode c.code pc = .ok (i, 1)) {Q : Option Value → Heap → List Loc → Prop} {k n : Nat} (hk : cells ≤ k) (hn : slots ≤ n) (hQ : Q (some w) T.heap locs) :
    Goes p e below (AimH Z EL s Q k n) (T.setTop (mkF m pc Ls (w :: rest))) := by
  obtain ⟨fs, hr, hrun, hended, hW⟩ := X.leaveW hS hk0 (v := some w) (fun h => by rw [hret] at h; cases h) hlk
  exact ⟨_, _, Jvm.RoadKit.retOut X hx hret hnr hi hd hr, hrun, hended, _, _, rfl, hQ, hA, own_wmono hW hk hn⟩
theorem Goes.ret0H (X : Stand p l e R (s.setVm vm0) m args below meth c T locs cells slots) {k0 : Nat} (hS : s.Since (s.setVm vm0).vm k0) (hk0 : k0 ≤ T.heap.size) (hA : CHr Z EL s.vm s.heap T.vm T.heap) (hx : p.tables.exec = Jvm.exec) (hlk : meth.locks = false) (hret : meth.sig.returnType = none) {pc : Nat} {Ls : Array Slot}
    (hd : decode c.code pc = .ok (.return_, 1)) {Q : Option Value → Heap → List Loc → Prop} {k n : Nat} (hk : cells ≤ k) (hn : slots ≤ n) (hQ : Q none T.heap locs) :
    Goes p e below (AimH Z EL s Q k n) (T.setTop (mkF m pc Ls [])) := by
  obtain ⟨fs, hr, hrun, hended, hW⟩ := X.leaveW hS hk0 (v := none) (fun _ => rfl) hlk
  exact ⟨_, _, X.returnOut hx hret hd hr, hrun, hended, _, _, rfl, hQ, hA, own_wmono hW hk hn⟩
/-- ldc of a constant whose text isn't looked at -/
theorem Goes.ldcOH (X : Stand p l e R (s.setVm vm0) m args below meth c T locs cells slots) (hx : p.tables.exec = Jvm.exec) (hZ : Z.Warmed39 (s.setVm vm0).vm) {own text : String} {index : Nat} (hown : (s.setVm vm0).vm.findClass own = some m.cls) (w : (Jvm.Cond.stringLink own index text).before a0 Z = true) (wS : ∀ a ∈ Bundle.stringAtoms, a.before a0 Z = true)
    (eT : T.heap = h) {k0 : Nat} (hS : s.Since (s.setVm vm0).vm k0) (hk : k0 ≤ h.size) (hEL : EW Z a0 EL) {h0 : Heap} (A : CHr Z EL s.vm h0 (s.setVm vm0).vm h)
    {g : JFrame} (hg : g.method = m) (hd : decode c.code g.pc = .ok (.ldc index, 2)) {n : Nat} (hn : 4 * text.toList.length ≤ n) (hbig : n ≤ 536870912) (hc : cells + 2 ≤ R.cells) (hl : slots + (n + 4) ≤ R.slots) {P : State → Outcome → Prop}
    (k : ∀ (a : Addr) (T' : State) (h' : Heap) (k1 : Nat), Stand p l e R (s.setVm T'.vm) m args below meth c T' locs (cells + 2) (slots + (n + 4)) → T'.heap = h' → Ext h h' → s.Since (s.setVm T'.vm).vm k1 → k1 ≤ h'.size → Z.Warmed39 (s.setVm T'.vm).vm → (s.setVm T'.vm).vm.findClass own = some m.cls → CHr Z EL (s.setVm vm0).vm h (s.setVm T'.vm).vm h' →
      Goes p e below P (T'.setTop { g with pc := g.pc + 2, stack := .ref a :: g.stack })) : Goes p e below P (T.setTop g) := by
  obtain ⟨a, T', h', k1, X', e', E, hS', hk', hZ', hown', C', -, st⟩ := Jvm.RoadKit.ldcOH X hx hZ hown w wS eT hS hk hEL A.1 hg hd hn hbig hc hl
  exact Goes.step st (k a T' h' k1 X' e' E hS' hk' hZ' hown' C')
/-- ldc of a constant of EL, its text read -/
theorem Goes.ldcCH (X : Stand p l e R (s.setVm vm0) m args below meth c T locs cells slots) (hx : p.tables.exec = Jvm.exec) (hZ : Z.Warmed39 (s.setVm vm0).vm) {own text : String} {index : Nat} (hown : (s.setVm vm0).vm.findClass own = some m.cls) (w : (Jvm.Cond.stringLink own index text).before a0 Z = true) (wS : ∀ a ∈ Bundle.stringAtoms, a.before a0 Z = true)
    (eT : T.heap = h) {k0 : Nat} (hS : s.Since (s.setVm vm0).vm k0) (hk : k0 ≤ h.size) (hEL : EW Z a0 EL) (hmem : (own, index) ∈ EL) {h0 : Heap} (A : CHr Z EL s.vm h0 (s.setVm vm0).vm h)
    {vs : List Value} {z : Int32} {nl : Nat} (ht : (∀ c ∈ text.toList, c.toNat < 256) ∧ text.toList.map (fun c => Value.int (Jvm.Lit.byteI c.toNat.toUInt16)) = vs) (hz : z.toInt = (nl : Int)) (hl : nl = vs.length)
    {g : JFrame} (hg : g.method = m) (hd : decode c.code g.pc = .ok (.ldc index, 2)) {n : Nat} (hn : 4 * text.toList.length ≤ n) (hbig : n ≤ 536870912) (hc : cells + 2 ≤ R.cells) (hl' : slots + (n + 4) ≤ R.slots) {P : State → Outcome → Prop}
    (k : ∀ (a : Addr) (T' : State) (h' : Heap) (k1 : Nat) (b : Addr), Stand p l e R (s.setVm T'.vm) m args below meth c T' locs (cells + 2) (slots + (n + 4)) → T'.heap = h' → Ext h h' → s.Since (s.setVm T'.vm).vm k1 → k1 ≤ h'.size → Z.Warmed39 (s.setVm T'.vm).vm → (s.setVm T'.vm).vm.findClass own = some m.cls → CHr Z EL (s.setVm vm0).vm h (s.setVm T'.vm).vm h' →
      Exa Z h' a "java/lang/String" → Fld Z h' a "java/lang/String" "coder" "B" (.int 0) → Fld Z h' a "java/lang/String" "value" "[B" (.ref b) → Afn Z h' b .byte nl (fun i => vs.getD i (.int 0)) → (∀ x, Safe Z EL (s.setVm T'.vm).vm h' x → x ≠ a ∧ x ≠ b) →
      Goes p e below P (T'.setTop { g with pc := g.pc + 2, stack := .ref a :: g.stack })) : Goes p e below P (T.setTop g) := by
  obtain ⟨a, T', h', k1, b, kc, X', e', E, hS', hk', hZ', hown', M, Fc, Fv, Ab, -, -, C', -, hne, st⟩ := Jvm.RoadKit.ldcCH X hx hZ hown w wS eT hS hk hEL hmem A.1 ht (z := z) (by rw [Int32.lt_iff_toInt_lt, hz]; simp only [Int32.reduceToInt]; omega) (by rw [own_ixn hz]; exact hl) hg hd hn hbig hc hl'
  exact Goes.step st (k a T' h' k1 b X' e' E hS' hk' hZ' hown' C' M Fc Fv (Afn.of_arv Ab hz) hne)
/-- a callee that keeps the constants of EL and writes at addresses of xs -/
theorem own_backH {xs : List Addr} {y : MethodName} {bytes : ByteArray} {maxL : Nat} {ret : Option FieldType} {rm : Room} {len W : Nat} {as' : Array Value} {Q : Option Value → Heap → List Loc → Prop}
    (hM : ConH l Z EL xs y bytes maxL ret rm as' h Q) (hZ : Z.Warmed39 vm0) (wc : (Jvm.Cond.code y bytes maxL ret).before a0 Z = true) (wz : (Jvm.Cond.initialized y.cls).before a0 Z = true) (hf : rm.frames + 1 ≤ R.frames) (hl : W + (maxL + 11) + rm.locals ≤ R.locals) (hEL : EW Z a0 EL) (H : CHv Z EL vm0 h) (hsx : ∀ x ∈ xs, x < h.size ∧ Safe Z EL vm0 h x) :
    BackS l R p e below (s.setVm vm0) args y len W (fun A a => a = as' ∧ A.U.heap = h ∧ A.cells + rm.cells ≤ R.cells ∧ A.slots + rm.slots ≤ R.slots)
      (fun A _ v B => ∃ L, Q v B.U.heap L ∧ B.locs = A.locs ++ L ∧ B.cells = A.cells + rm.cells ∧ B.slots = A.slots + rm.slots ∧ CHr Z EL vm0 h B.U.vm B.U.heap) :=
  BackS.of_freeW (bytes := bytes) (maxL := maxL) (ret := ret) (E := fun _ first o t L k n => k = rm.cells ∧ n = rm.slots ∧ (∃ v, o = .returned v ∧ Q v t.heap L) ∧ CHr Z EL first.vm first.heap t.vm t.heap) (hM []) hf hl
    (fun m meth c A a Y hp => have hU : Z.Warmed39 A.U.vm := wtrans (s := s.setVm vm0) hZ Y.warmed
      ⟨by show (Jvm.Cond.and _ .tt).before a A.U = true; rw [Cond.before_and, mv hU wc]; rfl, mv hU wc, mv hU wz, hp.2.2.1, hp.2.2.2⟩)
    (fun m meth c A a g mk Y hp => ⟨hp.1, wtrans (s := s.setVm vm0) hZ Y.warmed, hp.2.1, (CHv.at Y hZ hEL H).1, fun x hx => (CHv.at Y hZ hEL H).safe (hsx x hx).1 (hsx x hx).2⟩) (fun _ _ _ _ _ _ _ _ _ => trivial)
    (fun _ _ _ _ ⟨v, L, h1, h2, h3, h4⟩ => ⟨L, _, _, h4, rfl, rfl, ⟨v, h1, h2⟩, h3⟩)
    (fun m meth c A a g mk v t L k n Y hp _ _ ⟨e1, e2, ⟨v', e3, e4⟩, e5⟩ => by
      cases e3; subst e1 e2
      refine ⟨L, e4, rfl, rfl, rfl, (CHv.at Y hZ hEL H).trans ?_⟩
      rw [← hp.2.1]; exact e5)
theorem own_ltE {x : Addr} {C : String} (E : Exa Z h x C) : x < h.size := by
  obtain ⟨cl, k, h1, -⟩ := E
  exact (Array.getElem?_eq_some_iff.mp h1).1
def RebasedH (p : Program) (l : Launch) (e : Env) (R : Room) (s : State) (vm0 : Vm) (m : MethodId) (args : Array Value) (below : List Frame) (meth : Method) (c : Code) (T' : State) (locs : List Loc) (cells slots : Nat) (Z : State) (EL : List (String × Nat)) (own : String) (h : Heap) : Prop :=
  Rebased p l e R s m args below meth c T' locs cells slots Z own ∧ CHr Z EL (s.setVm vm0).vm h (s.setVm T'.vm).vm T'.heap
theorem Goes.callSH (X : Stand p l e R (s.setVm vm0) m args below meth c T locs cells slots) (hx : p.tables.exec = Jvm.exec) (hZ : Z.Warmed39 (s.setVm vm0).vm) {own : String} {index : Nat} {xs : List Addr} {y : MethodName} {bytes : ByteArray} {maxL : Nat} {ret : Option FieldType} {rm : Room} {as : List Value} {Q : Option Value → Heap → List Loc → Prop} (hown : (s.setVm vm0).vm.findClass own = some m.cls)
    (w1 : (Jvm.Cond.methodLink own index y).before a0 Z = true) (w2 : (Jvm.Cond.static y).before a0 Z = true) (w3 : (Jvm.Cond.initialized y.cls).before a0 Z = true) (w4 : (Jvm.Cond.code y bytes maxL ret).before a0 Z = true) (hy : y.cls ≠ "java/lang/invoke/MethodHandle" ∧ y.cls ≠ "java/lang/invoke/VarHandle")
    (eT : T.heap = h) {k0 : Nat} (hS : s.Since (s.setVm vm0).vm k0) (hk : k0 ≤ h.size) (hEL : EW Z a0 EL) {h0 : Heap} (A : CHr Z EL s.vm h0 (s.setVm vm0).vm h) (hsx : ∀ x ∈ xs, x < h.size ∧ Safe Z EL (s.setVm vm0).vm h x) (hM : ConH l Z EL xs y bytes maxL ret rm as.toArray h Q) {W : Nat} (hf : rm.frames + 1 ≤ R.frames) (hl : W + (maxL + 11) + rm.locals ≤ R.locals) (hc : cells + rm.cells ≤ R.cells) (hs : slots + rm.slots ≤ R.slots)
    {g : JFrame} (hg : g.method = m) (hsize : g.locals.size = c.maxLocals) {rest : List Value} {ps : List FieldType} {r : Option FieldType} (hd : parseMethodDescriptor y.desc = some ⟨ps, r⟩) (hlen : as.length = ps.length) (hstack : g.stack = as.reverse ++ rest) (hW : 2 * g.monitorRoom + (rest.map fun v => v.category).sum ≤ W) (hdg : decode c.code g.pc = .ok (.invokestatic index, 3))
    {P : State → Outcome → Prop} (k : ∀ v T' L, RebasedH p l e R s vm0 m args below meth c T' (locs ++ L) (cells + rm.cells) (slots + rm.slots) Z EL own h → h.size ≤ T'.heap.size → Q v T'.heap L → Goes p e below P (T'.setTop { g with pc := g.pc + 3, stack := v.toList ++ rest })) :
    Goes p e below P (T.setTop g) := by
  obtain ⟨v, vm₁, ⟨T', L', k', n'⟩, -, X', hS', hgr, ⟨L, hQ, l', y', z', C'⟩, st⟩ := callSS X hx hown (mvT hZ w1) (mvT hZ w2) (mvT hZ w3) (mvT hZ w4) hy (own_backH (W := W) hM hZ w4 w3 hf hl hEL A.1 hsx) (g := g) hg hsize (argsL := as) (rest := rest) (lenOf hd hlen) hstack hW hdg (fun _ _ => ⟨rfl, eT, hc, hs⟩)
  try dsimp only at X' hS' hgr hQ l' y' z' C' st
  subst l' y' z'
  exact Goes.tr st (k v T' L ⟨own_rebase hZ hown hS (by rw [eT]; exact hk) X' hS' hgr, C'⟩ (by rw [← eT]; exact hgr) hQ)
theorem Goes.callIH (X : Stand p l e R (s.setVm vm0) m args below meth c T locs cells slots) (hx : p.tables.exec = Jvm.exec) (hZ : Z.Warmed39 (s.setVm vm0).vm) {own : String} {index : Nat} {xs : List Addr} {y : MethodName} {bytes : ByteArray} {maxL : Nat} {rm : Room} {as : List Value} {Q : Option Value → Heap → List Loc → Prop} (hy1 : y.name = "<init>") (hown : (s.setVm vm0).vm.findClass own = some m.cls)
    (w1 : (Jvm.Cond.methodLink own index y).before a0 Z = true) (w2 : (Jvm.Cond.instanceMethod y).before a0 Z = true) (w3 : (Jvm.Cond.code y bytes maxL none).before a0 Z = true) (w4 : (Jvm.Cond.initialized y.cls).before a0 Z = true) (hy : y.cls ≠ "java/lang/invoke/MethodHandle" ∧ y.cls ≠ "java/lang/invoke/VarHandle")
    (eT : T.heap = h) {k0 : Nat} (hS : s.Since (s.setVm vm0).vm k0) (hk : k0 ≤ h.size) (hEL : EW Z a0 EL) {h0 : Heap} (A : CHr Z EL s.vm h0 (s.setVm vm0).vm h) {b : Addr} (hsx : ∀ x ∈ xs, x < h.size ∧ Safe Z EL (s.setVm vm0).vm h x) (hM : ConH l Z EL xs y bytes maxL none rm (.ref b :: as).toArray h Q) {W : Nat} (hf : rm.frames + 1 ≤ R.frames) (hl : W + (maxL + 11) + rm.locals ≤ R.locals) (hc : cells + rm.cells ≤ R.cells) (hs : slots + rm.slots ≤ R.slots)
    {g : JFrame} (hg : g.method = m) (hsize : g.locals.size = c.maxLocals) {rest : List Value} {ps : List FieldType} {r : Option FieldType} (hd : parseMethodDescriptor y.desc = some ⟨ps, r⟩) (hlen : as.length = ps.length) (hstack : g.stack = as.reverse ++ .ref b :: rest) (hW : 2 * g.monitorRoom + (rest.map fun v => v.category).sum ≤ W) (hdg : decode c.code g.pc = .ok (.invokespecial index, 3))
    {P : State → Outcome → Prop} (k : ∀ v T' L, RebasedH p l e R s vm0 m args below meth c T' (locs ++ L) (cells + rm.cells) (slots + rm.slots) Z EL own h → h.size ≤ T'.heap.size → Q v T'.heap L → Goes p e below P (T'.setTop { g with pc := g.pc + 3, stack := v.toList ++ rest })) :
    Goes p e below P (T.setTop g) := by
  obtain ⟨v, vm₁, ⟨T', L', k', n'⟩, -, X', hS', hgr, ⟨L, hQ, l', y', z', C'⟩, st⟩ := X.specialBackS hx (y := y) hy1 hown (mvT hZ w1) (mvT hZ w2) (mvT hZ w3) hy (own_backH (W := W) hM hZ w3 w4 hf hl hEL A.1 hsx) (g := g) hg hsize (Steps.refl _) (a := b) (argsL := as) (rest := rest) (lenOf hd hlen) hstack hW hdg (fun _ _ => ⟨rfl, eT, hc, hs⟩)
  try dsimp only at X' hS' hgr hQ l' y' z' C' st
  subst l' y' z'
  exact Goes.tr st (k v T' L ⟨own_rebase hZ hown hS (by rw [eT]; exact hk) X' hS' hgr, C'⟩ (by rw [← eT]; exact hgr) hQ)
end OwnHeld
theorem own_d3_0 : decode jdk_42_method_149_code 0 = .ok (.aload_n 0, 1) := by decide +kernel
theorem own_d3_1 : decode jdk_42_method_149_code 1 = .ok (.invokespecial 1, 3) := by decide +kernel
theorem own_d3_4 : decode jdk_42_method_149_code 4 = .ok (.iload_n 3, 1) := by decide +kernel
theorem own_d3_5 : decode jdk_42_method_149_code 5 = .ok (.ifCond .ne 22, 3) := by decide +kernel
theorem own_d3_8 : decode jdk_42_method_149_code 8 = .ok (.aload_n 0, 1) := by decide +kernel
theorem own_d3_9 : decode jdk_42_method_149_code 9 = .ok (.ldc 7, 2) := by decide +kernel
theorem own_d3_11 : decode jdk_42_method_149_code 11 = .ok (.getfield 9, 3) := by decide +kernel
theorem own_d3_14 : decode jdk_42_method_149_code 14 = .ok (.putfield 9, 3) := by decide +kernel
theorem own_d3_17 : decode jdk_42_method_149_code 17 = .ok (.aload_n 0, 1) := by decide +kernel
theorem own_d3_18 : decode jdk_42_method_149_code 18 = .ok (.ldc 7, 2) := by decide +kernel
theorem own_d3_20 : decode jdk_42_method_149_code 20 = .ok (.getfield 15, 3) := by decide +kernel
theorem own_d3_23 : decode jdk_42_method_149_code 23 = .ok (.putfield 15, 3) := by decide +kernel
theorem own_d3_26 : decode jdk_42_method_149_code 26 = .ok (.return_, 1) := by decide +kernel
theorem own_d2_0 : decode jdk_42_method_3_code 0 = .ok (.aload_n 0, 1) := by decide +kernel
theorem own_d2_1 : decode jdk_42_method_3_code 1 = .ok (.aload_n 1, 1) := by decide +kernel
theorem own_d2_2 : decode jdk_42_method_3_code 2 = .ok (.iconst 0, 1) := by decide +kernel
theorem own_d2_3 : decode jdk_42_method_3_code 3 = .ok (.aload_n 1, 1) := by decide +kernel
theorem own_d2_4 : decode jdk_42_method_3_code 4 = .ok (.arraylength, 1) := by decide +kernel
theorem own_d2_5 : decode jdk_42_method_3_code 5 = .ok (.aconst_null, 1) := by decide +kernel
theorem own_d2_6 : decode jdk_42_method_3_code 6 = .ok (.invokespecial 27, 3) := by decide +kernel
theorem own_d2_9 : decode jdk_42_method_3_code 9 = .ok (.return_, 1) := by decide +kernel
theorem own_d17_0 : decode jdk_52_method_21_code 0 = .ok (.iconst 0, 1) := by decide +kernel
theorem own_d17_1 : decode jdk_52_method_21_code 1 = .ok (.istore 5, 2) := by decide +kernel
theorem own_d17_3 : decode jdk_52_method_21_code 3 = .ok (.iload 5, 2) := by decide +kernel
theorem own_d17_5 : decode jdk_52_method_21_code 5 = .ok (.iload 4, 2) := by decide +kernel
theorem own_d17_7 : decode jdk_52_method_21_code 7 = .ok (.if_icmp .ge 37, 3) := by decide +kernel
theorem own_d17_10 : decode jdk_52_method_21_code 10 = .ok (.aload_n 0, 1) := by decide +kernel
theorem own_d17_11 : decode jdk_52_method_21_code 11 = .ok (.iload_n 1, 1) := by decide +kernel
theorem own_d17_12 : decode jdk_52_method_21_code 12 = .ok (.caload, 1) := by decide +kernel
theorem own_d17_13 : decode jdk_52_method_21_code 13 = .ok (.istore 6, 2) := by decide +kernel
theorem own_d17_15 : decode jdk_52_method_21_code 15 = .ok (.iload 6, 2) := by decide +kernel
theorem own_d17_17 : decode jdk_52_method_21_code 17 = .ok (.sipush 255, 3) := by decide +kernel
theorem own_d17_20 : decode jdk_52_method_21_code 20 = .ok (.if_icmp .le 6, 3) := by decide +kernel
theorem own_d17_26 : decode jdk_52_method_21_code 26 = .ok (.aload_n 2, 1) := by decide +kernel
theorem own_d17_27 : decode jdk_52_method_21_code 27 = .ok (.iload_n 3, 1) := by decide +kernel
theorem own_d17_28 : decode jdk_52_method_21_code 28 = .ok (.iload 6, 2) := by decide +kernel
theorem own_d17_30 : decode jdk_52_method_21_code 30 = .ok (.i2b, 1) := by decide +kernel
theorem own_d17_31 : decode jdk_52_method_21_code 31 = .ok (.bastore, 1) := by decide +kernel
theorem own_d17_32 : decode jdk_52_method_21_code 32 = .ok (.iinc 1 1, 3) := by decide +kernel
theorem own_d17_35 : decode jdk_52_method_21_code 35 = .ok (.iinc 3 1, 3) := by decide +kernel
theorem own_d17_38 : decode jdk_52_method_21_code 38 = .ok (.iinc 5 1, 3) := by decide +kernel
theorem own_d17_41 : decode jdk_52_method_21_code 41 = .ok (.goto (-38), 3) := by decide +kernel
theorem own_d17_44 : decode jdk_52_method_21_code 44 = .ok (.iload 4, 2) := by decide +kernel
theorem own_d17_46 : decode jdk_52_method_21_code 46 = .ok (.ireturn, 1) := by decide +kernel
theorem own_d16_0 : decode jdk_52_method_16_code 0 = .ok (.iload_n 2, 1) := by decide +kernel
theorem own_d16_1 : decode jdk_52_method_16_code 1 = .ok (.newarray .byte, 2) := by decide +kernel
theorem own_d16_3 : decode jdk_52_method_16_code 3 = .ok (.astore_n 3, 1) := by decide +kernel
theorem own_d16_4 : decode jdk_52_method_16_code 4 = .ok (.aload_n 0, 1) := by decide +kernel
theorem own_d16_5 : decode jdk_52_method_16_code 5 = .ok (.iload_n 1, 1) := by decide +kernel
theorem own_d16_6 : decode jdk_52_method_16_code 6 = .ok (.aload_n 3, 1) := by decide +kernel
theorem own_d16_7 : decode jdk_52_method_16_code 7 = .ok (.iconst 0, 1) := by decide +kernel
theorem own_d16_8 : decode jdk_52_method_16_code 8 = .ok (.iload_n 2, 1) := by decide +kernel
theorem own_d16_9 : decode jdk_52_method_16_code 9 = .ok (.invokestatic 115, 3) := by decide +kernel
theorem own_d16_12 : decode jdk_52_method_16_code 12 = .ok (.istore 4, 2) := by decide +kernel
theorem own_d16_14 : decode jdk_52_method_16_code 14 = .ok (.iload 4, 2) := by decide +kernel
theorem own_d16_16 : decode jdk_52_method_16_code 16 = .ok (.iload_n 2, 1) := by decide +kernel
theorem own_d16_17 : decode jdk_52_method_16_code 17 = .ok (.if_icmp .eq 40, 3) := by decide +kernel
theorem own_d16_57 : decode jdk_52_method_16_code 57 = .ok (.aload_n 3, 1) := by decide +kernel
theorem own_d16_58 : decode jdk_52_method_16_code 58 = .ok (.areturn, 1) := by decide +kernel
theorem own_d18_0 : decode jdk_52_method_15_code 0 = .ok (.iload_n 1, 1) := by decide +kernel
theorem own_d18_1 : decode jdk_52_method_15_code 1 = .ok (.aload_n 0, 1) := by decide +kernel
theorem own_d18_2 : decode jdk_52_method_15_code 2 = .ok (.arraylength, 1) := by decide +kernel
theorem own_d18_3 : decode jdk_52_method_15_code 3 = .ok (.isub, 1) := by decide +kernel
theorem own_d18_4 : decode jdk_52_method_15_code 4 = .ok (.bipush 31, 2) := by decide +kernel
theorem own_d18_6 : decode jdk_52_method_15_code 6 = .ok (.iushr, 1) := by decide +kernel
theorem own_d18_7 : decode jdk_52_method_15_code 7 = .ok (.i2b, 1) := by decide +kernel
theorem own_d18_8 : decode jdk_52_method_15_code 8 = .ok (.ireturn, 1) := by decide +kernel
theorem own_d3_27 : decode jdk_42_method_149_code 27 = .ok (.getstatic 38, 3) := by decide +kernel
theorem own_d3_30 : decode jdk_42_method_149_code 30 = .ok (.ifCond .eq 28, 3) := by decide +kernel
theorem own_d3_33 : decode jdk_42_method_149_code 33 = .ok (.aload_n 1, 1) := by decide +kernel
theorem own_d3_34 : decode jdk_42_method_149_code 34 = .ok (.iload_n 2, 1) := by decide +kernel
theorem own_d3_35 : decode jdk_42_method_149_code 35 = .ok (.iload_n 3, 1) := by decide +kernel
theorem own_d3_36 : decode jdk_42_method_149_code 36 = .ok (.invokestatic 177, 3) := by decide +kernel
theorem own_d3_39 : decode jdk_42_method_149_code 39 = .ok (.astore 5, 2) := by decide +kernel
theorem own_d3_41 : decode jdk_42_method_149_code 41 = .ok (.aload_n 0, 1) := by decide +kernel
theorem own_d3_42 : decode jdk_42_method_149_code 42 = .ok (.aload 5, 2) := by decide +kernel
theorem own_d3_44 : decode jdk_42_method_149_code 44 = .ok (.iload_n 3, 1) := by decide +kernel
theorem own_d3_45 : decode jdk_42_method_149_code 45 = .ok (.invokestatic 47, 3) := by decide +kernel
theorem own_d3_48 : decode jdk_42_method_149_code 48 = .ok (.putfield 15, 3) := by decide +kernel
theorem own_d3_51 : decode jdk_42_method_149_code 51 = .ok (.aload_n 0, 1) := by decide +kernel
theorem own_d3_52 : decode jdk_42_method_149_code 52 = .ok (.aload 5, 2) := by decide +kernel
theorem own_d3_54 : decode jdk_42_method_149_code 54 = .ok (.putfield 9, 3) := by decide +kernel
theorem own_d3_57 : decode jdk_42_method_149_code 57 = .ok (.return_, 1) := by decide +kernel
theorem own_d1_0 : decode method_2_code 0 = .ok (.iload_n 0, 1) := by decide +kernel
theorem own_d1_1 : decode method_2_code 1 = .ok (.iconst 3, 1) := by decide +kernel
theorem own_d1_2 : decode method_2_code 2 = .ok (.iand, 1) := by decide +kernel
theorem own_d1_3 : decode method_2_code 3 = .ok (.istore 4, 2) := by decide +kernel
theorem own_d1_5 : decode method_2_code 5 = .ok (.iload_n 1, 1) := by decide +kernel
theorem own_d1_6 : decode method_2_code 6 = .ok (.sipush 255, 3) := by decide +kernel
theorem own_d1_9 : decode method_2_code 9 = .ok (.iand, 1) := by decide +kernel
theorem own_d1_10 : decode method_2_code 10 = .ok (.i2c, 1) := by decide +kernel
theorem own_d1_11 : decode method_2_code 11 = .ok (.istore 5, 2) := by decide +kernel
theorem own_d1_13 : decode method_2_code 13 = .ok (.iload_n 2, 1) := by decide +kernel
theorem own_d1_14 : decode method_2_code 14 = .ok (.sipush 255, 3) := by decide +kernel
theorem own_d1_17 : decode method_2_code 17 = .ok (.iand, 1) := by decide +kernel
theorem own_d1_18 : decode method_2_code 18 = .ok (.i2c, 1) := by decide +kernel
theorem own_d1_19 : decode method_2_code 19 = .ok (.istore 6, 2) := by decide +kernel
theorem own_d1_21 : decode method_2_code 21 = .ok (.iload_n 3, 1) := by decide +kernel
theorem own_d1_22 : decode method_2_code 22 = .ok (.sipush 255, 3) := by decide +kernel
theorem own_d1_25 : decode method_2_code 25 = .ok (.iand, 1) := by decide +kernel
theorem own_d1_26 : decode method_2_code 26 = .ok (.i2c, 1) := by decide +kernel
theorem own_d1_27 : decode method_2_code 27 = .ok (.istore 7, 2) := by decide +kernel
theorem own_d1_29 : decode method_2_code 29 = .ok (.iload 4, 2) := by decide +kernel
theorem own_d1_31 : decode method_2_code 31 = .ok (.ifCond .ne 11, 3) := by decide +kernel
theorem own_d1_34 : decode method_2_code 34 = .ok (.iconst 0, 1) := by decide +kernel
theorem own_d1_35 : decode method_2_code 35 = .ok (.newarray .char, 2) := by decide +kernel
theorem own_d1_37 : decode method_2_code 37 = .ok (.astore 8, 2) := by decide +kernel
theorem own_d1_39 : decode method_2_code 39 = .ok (.goto 66, 3) := by decide +kernel
theorem own_d1_105 : decode method_2_code 105 = .ok (.new 7, 3) := by decide +kernel
theorem own_d1_108 : decode method_2_code 108 = .ok (.dup, 1) := by decide +kernel
theorem own_d1_109 : decode method_2_code 109 = .ok (.aload 8, 2) := by decide +kernel
theorem own_d1_111 : decode method_2_code 111 = .ok (.invokespecial 9, 3) := by decide +kernel
theorem own_d1_114 : decode method_2_code 114 = .ok (.areturn, 1) := by decide +kernel
theorem own_d1_42 : decode method_2_code 42 = .ok (.iload 4, 2) := by decide +kernel
theorem own_d1_44 : decode method_2_code 44 = .ok (.iconst 1, 1) := by decide +kernel
theorem own_d1_45 : decode method_2_code 45 = .ok (.if_icmp .ne 16, 3) := by decide +kernel
theorem own_d1_48 : decode method_2_code 48 = .ok (.iconst 1, 1) := by decide +kernel
theorem own_d1_49 : decode method_2_code 49 = .ok (.newarray .char, 2) := by decide +kernel
theorem own_d1_51 : decode method_2_code 51 = .ok (.dup, 1) := by decide +kernel
theorem own_d1_52 : decode method_2_code 52 = .ok (.iconst 0, 1) := by decide +kernel
theorem own_d1_53 : decode method_2_code 53 = .ok (.iload 5, 2) := by decide +kernel
theorem own_d1_55 : decode method_2_code 55 = .ok (.castore, 1) := by decide +kernel
theorem own_d1_56 : decode method_2_code 56 = .ok (.astore 8, 2) := by decide +kernel
theorem own_d1_58 : decode method_2_code 58 = .ok (.goto 47, 3) := by decide +kernel
theorem own_d1_61 : decode method_2_code 61 = .ok (.iload 4, 2) := by decide +kernel
theorem own_d1_63 : decode method_2_code 63 = .ok (.iconst 2, 1) := by decide +kernel
theorem own_d1_64 : decode method_2_code 64 = .ok (.if_icmp .ne 21, 3) := by decide +kernel
theorem own_d1_67 : decode method_2_code 67 = .ok (.iconst 2, 1) := by decide +kernel
theorem own_d1_68 : decode method_2_code 68 = .ok (.newarray .char, 2) := by decide +kernel
theorem own_d1_70 : decode method_2_code 70 = .ok (.dup, 1) := by decide +kernel
theorem own_d1_71 : decode method_2_code 71 = .ok (.iconst 0, 1) := by decide +kernel
theorem own_d1_72 : decode method_2_code 72 = .ok (.iload 5, 2) := by decide +kernel
theorem own_d1_74 : decode method_2_code 74 = .ok (.castore, 1) := by decide +kernel
theorem own_d1_75 : decode method_2_code 75 = .ok (.dup, 1) := by decide +kernel
theorem own_d1_76 : decode method_2_code 76 = .ok (.iconst 1, 1) := by decide +kernel
theorem own_d1_77 : decode method_2_code 77 = .ok (.iload 6, 2) := by decide +kernel
theorem own_d1_79 : decode method_2_code 79 = .ok (.castore, 1) := by decide +kernel
theorem own_d1_80 : decode method_2_code 80 = .ok (.astore 8, 2) := by decide +kernel
theorem own_d1_82 : decode method_2_code 82 = .ok (.goto 23, 3) := by decide +kernel
theorem own_d1_85 : decode method_2_code 85 = .ok (.iconst 3, 1) := by decide +kernel
theorem own_d1_86 : decode method_2_code 86 = .ok (.newarray .char, 2) := by decide +kernel
theorem own_d1_88 : decode method_2_code 88 = .ok (.dup, 1) := by decide +kernel
theorem own_d1_89 : decode method_2_code 89 = .ok (.iconst 0, 1) := by decide +kernel
theorem own_d1_90 : decode method_2_code 90 = .ok (.iload 5, 2) := by decide +kernel
theorem own_d1_92 : decode method_2_code 92 = .ok (.castore, 1) := by decide +kernel
theorem own_d1_93 : decode method_2_code 93 = .ok (.dup, 1) := by decide +kernel
theorem own_d1_94 : decode method_2_code 94 = .ok (.iconst 1, 1) := by decide +kernel
theorem own_d1_95 : decode method_2_code 95 = .ok (.iload 6, 2) := by decide +kernel
theorem own_d1_97 : decode method_2_code 97 = .ok (.castore, 1) := by decide +kernel
theorem own_d1_98 : decode method_2_code 98 = .ok (.dup, 1) := by decide +kernel
theorem own_d1_99 : decode method_2_code 99 = .ok (.iconst 2, 1) := by decide +kernel
theorem own_d1_100 : decode method_2_code 100 = .ok (.iload 7, 2) := by decide +kernel
theorem own_d1_102 : decode method_2_code 102 = .ok (.castore, 1) := by decide +kernel
theorem own_d1_103 : decode method_2_code 103 = .ok (.astore 8, 2) := by decide +kernel
theorem own_d7_0 : decode jdk_30_method_1_code 0 = .ok (.aload_n 0, 1) := by decide +kernel
theorem own_d7_1 : decode jdk_30_method_1_code 1 = .ok (.invokespecial 1, 3) := by decide +kernel
theorem own_d7_4 : decode jdk_30_method_1_code 4 = .ok (.return_, 1) := by decide +kernel
theorem own_d8_0 : decode jdk_31_method_11_code 0 = .ok (.aload_n 0, 1) := by decide +kernel
theorem own_d8_1 : decode jdk_31_method_11_code 1 = .ok (.ifnonnull 12, 3) := by decide +kernel
theorem own_d8_13 : decode jdk_31_method_11_code 13 = .ok (.aload_n 0, 1) := by decide +kernel
theorem own_d8_14 : decode jdk_31_method_11_code 14 = .ok (.areturn, 1) := by decide +kernel
theorem own_d6_0 : decode prog_8_method_1_code 0 = .ok (.aload_n 0, 1) := by decide +kernel
theorem own_d6_1 : decode prog_8_method_1_code 1 = .ok (.invokespecial 1, 3) := by decide +kernel
theorem own_d6_4 : decode prog_8_method_1_code 4 = .ok (.aload_n 1, 1) := by decide +kernel
theorem own_d6_5 : decode prog_8_method_1_code 5 = .ok (.ldc 7, 2) := by decide +kernel
theorem own_d6_7 : decode prog_8_method_1_code 7 = .ok (.invokestatic 9, 3) := by decide +kernel
theorem own_d6_10 : decode prog_8_method_1_code 10 = .ok (.pop, 1) := by decide +kernel
theorem own_d6_11 : decode prog_8_method_1_code 11 = .ok (.aload_n 0, 1) := by decide +kernel
theorem own_d6_12 : decode prog_8_method_1_code 12 = .ok (.aload_n 1, 1) := by decide +kernel
theorem own_d6_13 : decode prog_8_method_1_code 13 = .ok (.putfield 15, 3) := by decide +kernel
theorem own_d6_16 : decode prog_8_method_1_code 16 = .ok (.aload_n 0, 1) := by decide +kernel
theorem own_d6_17 : decode prog_8_method_1_code 17 = .ok (.iload_n 2, 1) := by decide +kernel
theorem own_d6_18 : decode prog_8_method_1_code 18 = .ok (.putfield 20, 3) := by decide +kernel
theorem own_d6_21 : decode prog_8_method_1_code 21 = .ok (.aload_n 0, 1) := by decide +kernel
theorem own_d6_22 : decode prog_8_method_1_code 22 = .ok (.iload_n 3, 1) := by decide +kernel
theorem own_d6_23 : decode prog_8_method_1_code 23 = .ok (.putfield 24, 3) := by decide +kernel
theorem own_d6_26 : decode prog_8_method_1_code 26 = .ok (.return_, 1) := by decide +kernel
theorem own_d5_0 : decode prog_8_method_2_code 0 = .ok (.new 16, 3) := by decide +kernel
theorem own_d5_3 : decode prog_8_method_2_code 3 = .ok (.dup, 1) := by decide +kernel
theorem own_d5_4 : decode prog_8_method_2_code 4 = .ok (.aload_n 0, 1) := by decide +kernel
theorem own_d5_5 : decode prog_8_method_2_code 5 = .ok (.iconst 0, 1) := by decide +kernel
theorem own_d5_6 : decode prog_8_method_2_code 6 = .ok (.bipush 16, 2) := by decide +kernel
theorem own_d5_8 : decode prog_8_method_2_code 8 = .ok (.invokespecial 28, 3) := by decide +kernel
theorem own_d5_11 : decode prog_8_method_2_code 11 = .ok (.areturn, 1) := by decide +kernel
theorem own_d9_0 : decode prog_8_method_8_code 0 = .ok (.aload_n 0, 1) := by decide +kernel
theorem own_d9_1 : decode prog_8_method_8_code 1 = .ok (.getfield 15, 3) := by decide +kernel
theorem own_d9_4 : decode prog_8_method_8_code 4 = .ok (.areturn, 1) := by decide +kernel
theorem own_d13_0 : decode prog_8_method_9_code 0 = .ok (.aload_n 0, 1) := by decide +kernel
theorem own_d13_1 : decode prog_8_method_9_code 1 = .ok (.getfield 20, 3) := by decide +kernel
theorem own_d13_4 : decode prog_8_method_9_code 4 = .ok (.ireturn, 1) := by decide +kernel
theorem own_d14_0 : decode prog_8_method_10_code 0 = .ok (.aload_n 0, 1) := by decide +kernel
theorem own_d14_1 : decode prog_8_method_10_code 1 = .ok (.getfield 24, 3) := by decide +kernel
theorem own_d14_4 : decode prog_8_method_10_code 4 = .ok (.ireturn, 1) := by decide +kernel
theorem own_d15_0 : decode prog_8_method_3_code 0 = .ok (.aload_n 0, 1) := by decide +kernel
theorem own_d15_1 : decode prog_8_method_3_code 1 = .ok (.getfield 24, 3) := by decide +kernel
theorem own_d15_4 : decode prog_8_method_3_code 4 = .ok (.ldc 33, 2) := by decide +kernel
theorem own_d15_6 : decode prog_8_method_3_code 6 = .ok (.if_icmp .ne 10, 3) := by decide +kernel
theorem own_d15_16 : decode prog_8_method_3_code 16 = .ok (.aload_n 0, 1) := by decide +kernel
theorem own_d15_17 : decode prog_8_method_3_code 17 = .ok (.getfield 24, 3) := by decide +kernel
theorem own_d15_20 : decode prog_8_method_3_code 20 = .ok (.iconst 1, 1) := by decide +kernel
theorem own_d15_21 : decode prog_8_method_3_code 21 = .ok (.iadd, 1) := by decide +kernel
theorem own_d15_22 : decode prog_8_method_3_code 22 = .ok (.ireturn, 1) := by decide +kernel
theorem own_d10_0 : decode jdk_42_method_66_code 0 = .ok (.aload_n 0, 1) := by decide +kernel
theorem own_d10_1 : decode jdk_42_method_66_code 1 = .ok (.aload_n 1, 1) := by decide +kernel
theorem own_d10_2 : decode jdk_42_method_66_code 2 = .ok (.if_acmp .ne 5, 3) := by decide +kernel
theorem own_d10_5 : decode jdk_42_method_66_code 5 = .ok (.iconst 1, 1) := by decide +kernel
theorem own_d10_6 : decode jdk_42_method_66_code 6 = .ok (.ireturn, 1) := by decide +kernel
theorem own_d12_0 : decode jdk_42_method_152_code 0 = .ok (.getstatic 38, 3) := by decide +kernel
theorem own_d12_3 : decode jdk_42_method_152_code 3 = .ok (.ifCond .eq 10, 3) := by decide +kernel
theorem own_d12_6 : decode jdk_42_method_152_code 6 = .ok (.aload_n 0, 1) := by decide +kernel
theorem own_d12_7 : decode jdk_42_method_152_code 7 = .ok (.getfield 15, 3) := by decide +kernel
theorem own_d12_10 : decode jdk_42_method_152_code 10 = .ok (.goto 4, 3) := by decide +kernel
theorem own_d12_14 : decode jdk_42_method_152_code 14 = .ok (.ireturn, 1) := by decide +kernel
theorem own_d11_0 : decode jdk_42_method_54_code 0 = .ok (.aload_n 0, 1) := by decide +kernel
theorem own_d11_1 : decode jdk_42_method_54_code 1 = .ok (.getfield 9, 3) := by decide +kernel
theorem own_d11_4 : decode jdk_42_method_54_code 4 = .ok (.arraylength, 1) := by decide +kernel
theorem own_d11_5 : decode jdk_42_method_54_code 5 = .ok (.aload_n 0, 1) := by decide +kernel
theorem own_d11_6 : decode jdk_42_method_54_code 6 = .ok (.invokevirtual 335, 3) := by decide +kernel
theorem own_d11_9 : decode jdk_42_method_54_code 9 = .ok (.ishr, 1) := by decide +kernel
theorem own_d11_10 : decode jdk_42_method_54_code 10 = .ok (.ireturn, 1) := by decide +kernel
theorem own_pd0 : parseMethodDescriptor "([CIILjava/lang/Void;)V" = some ⟨[(.array .char), .int, .int, (.object "java/lang/Void")], none⟩ := by decide +kernel
theorem own_pd1 : parseMethodDescriptor "([CI[BII)I" = some ⟨[(.array .char), .int, (.array .byte), .int, .int], some .int⟩ := by decide +kernel
theorem own_pd2 : parseMethodDescriptor "([CII)[B" = some ⟨[(.array .char), .int, .int], some (.array .byte)⟩ := by decide +kernel
theorem own_pd3 : parseMethodDescriptor "([BI)B" = some ⟨[(.array .byte), .int], some .byte⟩ := by decide +kernel
theorem own_pd4 : parseMethodDescriptor "([C)V" = some ⟨[(.array .char)], none⟩ := by decide +kernel
theorem own_pd5 : parseMethodDescriptor "()V" = some ⟨[], none⟩ := by decide +kernel
theorem own_pd6 : parseMethodDescriptor "(Ljava/lang/Object;Ljava/lang/String;)Ljava/lang/Object;" = some ⟨[(.object "java/lang/Object"), (.object "java/lang/String")], some (.object "java/lang/Object")⟩ := by decide +kernel
theorem own_pd7 : parseMethodDescriptor "(Ljava/lang/String;ZI)V" = some ⟨[(.object "java/lang/String"), .boolean, .int], none⟩ := by decide +kernel
theorem own_pd8 : parseMethodDescriptor "()B" = some ⟨[], some .byte⟩ := by decide +kernel
theorem own_pd9 : parseMethodDescriptor "(IIII)Ljava/lang/String;" = some ⟨[.int, .int, .int, .int], some (.object "java/lang/String")⟩ := by decide +kernel
theorem own_pd10 : parseMethodDescriptor "(Ljava/lang/String;)Lcom/example/cicada/cicada/engine/Group;" = some ⟨[(.object "java/lang/String")], some (.object "com/example/cicada/cicada/engine/Group")⟩ := by decide +kernel
theorem own_pd11 : parseMethodDescriptor "()Ljava/lang/String;" = some ⟨[], some (.object "java/lang/String")⟩ := by decide +kernel
theorem own_pd12 : parseMethodDescriptor "(Ljava/lang/Object;)Z" = some ⟨[(.object "java/lang/Object")], some .boolean⟩ := by decide +kernel
theorem own_pd13 : parseMethodDescriptor "()I" = some ⟨[], some .int⟩ := by decide +kernel
theorem own_pd14 : parseMethodDescriptor "()Z" = some ⟨[], some .boolean⟩ := by decide +kernel
theorem own_pn0 : plainName "java/lang/String" = true := by first | (simp [plainName, overriddenIn]; done) | decide +kernel
theorem own_pn1 : plainName "java/lang/StringUTF16" = true := by first | (simp [plainName, overriddenIn]; done) | decide +kernel
theorem own_pn2 : plainName "com/example/cicada/cicada/engine/GroupWithDefaultsPinLaw" = true := by first | (simp [plainName, overriddenIn]; done) | decide +kernel
theorem own_pn3 : plainName "java/lang/Record" = true := by first | (simp [plainName, overriddenIn]; done) | decide +kernel
theorem own_pn4 : plainName "java/util/Objects" = true := by first | (simp [plainName, overriddenIn]; done) | decide +kernel
theorem own_pn5 : plainName "com/example/cicada/cicada/engine/Group" = true := by first | (simp [plainName, overriddenIn]; done) | decide +kernel
/-- the low bytes of the chars, as a String's byte[] holds them -/
def own_bs (cs : List Int32) (i : Nat) : Value := .int ((cs.getD i 0).toInt8.toInt32)
theorem own_wS {Z : State} {a0 : Array Value} (hw : ∀ d ∈ tables_1, d.before a0 Z = true) : ∀ a ∈ Bundle.stringAtoms, a.before a0 Z = true := by
  intro a ha
  simp only [Bundle.stringAtoms, List.mem_cons, List.not_mem_nil, or_false] at ha
  rcases ha with rfl | rfl | rfl | rfl | rfl | rfl | rfl
  · exact hw _ (List.mem_of_getElem? (i := 7) rfl)
  · exact hw _ (List.mem_of_getElem? (i := 6) rfl)
  · exact hw _ (List.mem_of_getElem? (i := 19) rfl)
  · exact hw _ (List.mem_of_getElem? (i := 20) rfl)
  · exact hw _ (List.mem_of_getElem? (i := 21) rfl)
  · exact hw _ (List.mem_of_getElem? (i := 22) rfl)
  · exact hw _ (List.mem_of_getElem? (i := 23) rfl)
abbrev own_EL : List (String × Nat) := [("java/lang/String", 7)]
theorem own_hEL {Z : State} {a0 : Array Value} (hw : ∀ d ∈ tables_1, d.before a0 Z = true) : EW Z a0 own_EL := EW.cons (hw _ (List.mem_of_getElem? (i := 18) rfl)) (fun c hc => by cases hc) EW.nil
set_option maxRecDepth 65536 in
set_option maxHeartbeats 40000000 in
theorem rmS4_0 (l : Launch) (Z : State) (a0 : Array Value) (hw : ∀ d ∈ tables_1, d.before a0 Z = true) (a1 a2 : Addr) (h0 : Heap) (n0 : Nat) (Z0 : n0 ≤ h0.size) (f : Nat → Value) (A2 : Afn Z h0 a2 .char 0 f) (E1 : Exa Z h0 a1 "java/lang/String") (g1 : n0 ≤ a1) (Fc : Fld Z h0 a1 "java/lang/String" "coder" "B" (.int (0 : Int32))) (Fv : Fld Z h0 a1 "java/lang/String" "value" "[B" .null) :
    ConH l Z own_EL [a1] (⟨"java/lang/String", "<init>", "([CIILjava/lang/Void;)V"⟩ : MethodName) jdk_42_method_149_code 6 none ({ frames := 1, cells := 4, slots := 8, locals := 12 } : Room) #[(.ref a1), (.ref a2), (.int (0 : Int32)), (.int (0 : Int32)), .null] h0 (fun v h L => v = none ∧ Fr n0 L ∧ Keep h0 h [a1] ∧ Fld Z h a1 "java/lang/String" "coder" "B" (.int (0 : Int32)) ∧ ∃ x, Fld Z h a1 "java/lang/String" "value" "[B" (.ref x) ∧ Afn Z h x .byte 0 (fun i => ([] : List Value).getD i (.int 0))) := by
  refine ConH.body (plainFor_of_name own_pn0) ?_
  intro pP eE sS vm0 mM bB mT cC s₁ hx hby hml hZ hown hnm hret hlk X0 e0 hS hs0 C0 sf0
  have hown : (sS.setVm vm0).vm.findClass "java/lang/String" = some mM.cls := hown
  have hml : cC.maxLocals = 6 := hml
  have N0 := Fr.nil n0
  have ef : entryFrame mM #[(.ref a1), (.ref a2), (.int (0 : Int32)), (.int (0 : Int32)), .null] 6 = mkF mM 0 #[.val (.ref a1), .val (.ref a2), .val (.int (0 : Int32)), .val (.int (0 : Int32)), .val .null, .unset] [] := by first | (simp [entryFrame, mkF, argsToLocals, Value.category]; done) | rfl
  rw [ef]
  show Goes pP eE bB _ (s₁.setTop (mkF mM 0 #[.val (.ref a1), .val (.ref a2), .val (.int (0 : Int32)), .val (.int (0 : Int32)), .val .null, .unset] []))
  refine Goes.step (fun _ kK => XS.aloadN X0.here hx rfl (hb hby own_d3_0) rfl rfl kK) ?_
  show Goes pP eE bB _ (s₁.setTop (mkF mM 1 #[.val (.ref a1), .val (.ref a2), .val (.int (0 : Int32)), .val (.int (0 : Int32)), .val .null, .unset] [(.ref a1)]))
  obtain ⟨T_1, X_1, e_1, st_1⟩ := initO X0 hx hZ hown (hw _ (List.mem_of_getElem? (i := 15) rfl)) (hw _ (List.mem_of_getElem? (i := 16) rfl)) (hw _ (List.mem_of_getElem? (i := 17) rfl)) e0 (g := (mkF mM 1 #[.val (.ref a1), .val (.ref a2), .val (.int (0 : Int32)), .val (.int (0 : Int32)), .val .null, .unset] [(.ref a1)])) rfl (by rw [hml]; rfl) rfl (hb hby own_d3_1) (by decide) (W := 0) (by show 2 * 0 + _ ≤ _; exact Nat.le_of_eq rfl) (by decide)
  refine Goes.step st_1 ?_
  show Goes pP eE bB _ (T_1.setTop (mkF mM 4 #[.val (.ref a1), .val (.ref a2), .val (.int (0 : Int32)), .val (.int (0 : Int32)), .val .null, .unset] []))
  refine Goes.step (fun _ kK => XS.iloadN X_1.here hx rfl (hb hby own_d3_4) rfl kK) ?_
  show Goes pP eE bB _ (T_1.setTop (mkF mM 5 #[.val (.ref a1), .val (.ref a2), .val (.int (0 : Int32)), .val (.int (0 : Int32)), .val .null, .unset] [(.int (0 : Int32))]))
  refine Goes.step (fun _ kK => XS.ifNo X_1.here hx rfl (hb hby own_d3_5) rfl ((if0 _ _).trans (teq (by decide)).2) kK) ?_
  show Goes pP eE bB _ (T_1.setTop (mkF mM 8 #[.val (.ref a1), .val (.ref a2), .val (.int (0 : Int32)), .val (.int (0 : Int32)), .val .null, .unset] []))
  refine Goes.step (fun _ kK => XS.aloadN X_1.here hx rfl (hb hby own_d3_8) rfl rfl kK) ?_
  show Goes pP eE bB _ (T_1.setTop (mkF mM 9 #[.val (.ref a1), .val (.ref a2), .val (.int (0 : Int32)), .val (.int (0 : Int32)), .val .null, .unset] [(.ref a1)]))
  have u_3 : a1 < h0.size := own_ltE E1
  refine Goes.ldcCH X_1 hx hZ hown (hw _ (List.mem_of_getElem? (i := 18) rfl)) (own_wS hw) e_1 hS (Nat.le_refl h0.size) (own_hEL hw) (List.mem_singleton.mpr rfl) C0 (vs := []) (z := (0 : Int32)) (nl := 0) ⟨fun c hc => (by cases hc), rfl⟩ (by decide) rfl (g := (mkF mM 9 #[.val (.ref a1), .val (.ref a2), .val (.int (0 : Int32)), .val (.int (0 : Int32)), .val .null, .unset] [(.ref a1)])) rfl (hb hby own_d3_9) (n := 0) (by decide) (by decide) (by decide) (by decide) ?_
  intro a_2 T_2 h_2 k_2 b_2 X_2 e_2 E_2 hS hk_2 hZ hown CC_2 M_2 Fc_2 Fv_2 A_2 ne_2
  have u_4 := CC_2.safe u_3 (sf0 _ (List.mem_of_getElem? (i := 0) rfl))
  have u_5 := C0.trans CC_2
  have u_6 := (ne_2 _ u_4).1
  have u_7 := (ne_2 _ u_4).2
  show Goes pP eE bB _ (T_2.setTop (mkF mM 11 #[.val (.ref a1), .val (.ref a2), .val (.int (0 : Int32)), .val (.int (0 : Int32)), .val .null, .unset] [(.ref a_2), (.ref a1)]))
  obtain ⟨T_8, X_8, e_8, st_8⟩ := getF X_2 hx hZ hown (host := "") (Or.inl (hw _ (List.mem_of_getElem? (i := 24) rfl))) Via.refl e_2 Fv_2 (g := (mkF mM 11 #[.val (.ref a1), .val (.ref a2), .val (.int (0 : Int32)), .val (.int (0 : Int32)), .val .null, .unset] [(.ref a_2), (.ref a1)])) rfl rfl (hb hby own_d3_11)
  refine Goes.step st_8 ?_
  show Goes pP eE bB _ (T_8.setTop (mkF mM 14 #[.val (.ref a1), .val (.ref a2), .val (.int (0 : Int32)), .val (.int (0 : Int32)), .val .null, .unset] [(.ref b_2), (.ref a1)]))
  have u_9 := Fv.ext E_2
  have u_10 := E1.ext E_2
  obtain ⟨T_11, h_11, X_11, e_11, W_11, st_11⟩ := putF X_8 hx hZ hown (host := "") (Or.inl (hw _ (List.mem_of_getElem? (i := 24) rfl))) Via.refl e_8 u_9 u_10 (Or.inr ⟨(hw _ (List.mem_of_getElem? (i := 20) rfl)), rfl, hnm⟩) (hw _ (List.mem_of_getElem? (i := 6) rfl)) (ty := (.array .byte)) (by decide) rfl rfl (g := (mkF mM 14 #[.val (.ref a1), .val (.ref a2), .val (.int (0 : Int32)), .val (.int (0 : Int32)), .val .null, .unset] [(.ref b_2), (.ref a1)])) rfl rfl (hb hby own_d3_14)
  have u_12 := u_9.same W_11
  have N_11 := Fr.snoc X_11 N0 g1
  refine Goes.step st_11 ?_
  have u_13 := Safe.wr W_11 u_4 u_5.1 u_4
  have u_14 := u_5.trans (CHr.wr W_11 u_4 u_5.1)
  show Goes pP eE bB _ (T_11.setTop (mkF mM 17 #[.val (.ref a1), .val (.ref a2), .val (.int (0 : Int32)), .val (.int (0 : Int32)), .val .null, .unset] []))
  refine Goes.step (fun _ kK => XS.aloadN X_11.here hx rfl (hb hby own_d3_17) rfl rfl kK) ?_
  show Goes pP eE bB _ (T_11.setTop (mkF mM 18 #[.val (.ref a1), .val (.ref a2), .val (.int (0 : Int32)), .val (.int (0 : Int32)), .val .null, .unset] [(.ref a1)]))
  have u_16 := u_10.wr W_11
  have u_17 : a1 < h_11.size := own_ltE u_16
  have u_18 := Nat.le_trans hk_2 (Keep.of_wr W_11).1
  refine Goes.ldcCH X_11 hx hZ hown (hw _ (List.mem_of_getElem? (i := 18) rfl)) (own_wS hw) e_11 hS u_18 (own_hEL hw) (List.mem_singleton.mpr rfl) u_14 (vs := []) (z := (0 : Int32)) (nl := 0) ⟨fun c hc => (by cases hc), rfl⟩ (by decide) rfl (g := (mkF mM 18 #[.val (.ref a1), .val (.ref a2), .val (.int (0 : Int32)), .val (.int (0 : Int32)), .val .null, .unset] [(.ref a1)])) rfl (hb hby own_d3_18) (n := 0) (by decide) (by decide) (by decide) (by decide) ?_
  intro a_15 T_15 h_15 k_15 b_15 X_15 e_15 E_15 hS hk_15 hZ hown CC_15 M_15 Fc_15 Fv_15 A_15 ne_15
  have u_19 := CC_15.safe u_17 u_13
  have u_20 := u_14.trans CC_15
  have u_21 := (ne_15 _ u_19).1
  have u_22 := (ne_15 _ u_19).2
  show Goes pP eE bB _ (T_15.setTop (mkF mM 20 #[.val (.ref a1), .val (.ref a2), .val (.int (0 : Int32)), .val (.int (0 : Int32)), .val .null, .unset] [(.ref a_15), (.ref a1)]))
  obtain ⟨T_23, X_23, e_23, st_23⟩ := getF X_15 hx hZ hown (host := "") (Or.inl (hw _ (List.mem_of_getElem? (i := 25) rfl))) Via.refl e_15 Fc_15 (g := (mkF mM 20 #[.val (.ref a1), .val (.ref a2), .val (.int (0 : Int32)), .val (.int (0 : Int32)), .val .null, .unset] [(.ref a_15), (.ref a1)])) rfl rfl (hb hby own_d3_20)
  refine Goes.step st_23 ?_
  show Goes pP eE bB _ (T_23.setTop (mkF mM 23 #[.val (.ref a1), .val (.ref a2), .val (.int (0 : Int32)), .val (.int (0 : Int32)), .val .null, .unset] [(.int (0 : Int32)), (.ref a1)]))
  have u_24 := Fc.ext E_2
  have u_25 := u_24.other W_11 (Or.inr (slot_ne (Or.inr (hw _ (List.mem_of_getElem? (i := 21) rfl))) (Or.inr (hw _ (List.mem_of_getElem? (i := 20) rfl))) (by decide) (t := .byte) (t' := (.array .byte)) (by decide) (by decide)))
  have u_26 := u_25.ext E_15
  have u_27 := u_16.ext E_15
  obtain ⟨T_28, h_28, X_28, e_28, W_28, st_28⟩ := putF X_23 hx hZ hown (host := "") (Or.inl (hw _ (List.mem_of_getElem? (i := 25) rfl))) Via.refl e_23 u_26 u_27 (Or.inr ⟨(hw _ (List.mem_of_getElem? (i := 21) rfl)), rfl, hnm⟩) (hw _ (List.mem_of_getElem? (i := 6) rfl)) (ty := .byte) (by decide) rfl rfl (g := (mkF mM 23 #[.val (.ref a1), .val (.ref a2), .val (.int (0 : Int32)), .val (.int (0 : Int32)), .val .null, .unset] [(.int (0 : Int32)), (.ref a1)])) rfl rfl (hb hby own_d3_23)
  have u_29 := u_26.same W_28
  have N_28 := Fr.snoc X_28 N_11 g1
  refine Goes.step st_28 ?_
  have u_30 := Safe.wr W_28 u_19 u_20.1 u_19
  have u_31 := u_20.trans (CHr.wr W_28 u_19 u_20.1)
  show Goes pP eE bB _ (T_28.setTop (mkF mM 26 #[.val (.ref a1), .val (.ref a2), .val (.int (0 : Int32)), .val (.int (0 : Int32)), .val .null, .unset] []))
  have u_32 := Nat.le_trans hk_15 (Keep.of_wr W_28).1
  refine Goes.ret0H X_28 hS (Nat.le_trans u_32 (Nat.le_of_eq (by rw [e_28]))) (own_atT X_28 hZ (own_hEL hw) e_28 hs0 u_31) hx hlk hret (hb hby own_d3_26) (by decide) (by decide) ?_
  have u_33 := (Keep.refl h0 [a1]).ext E_2
  have u_34 := u_33.wr W_11 (Or.inl (List.mem_of_getElem? (i := 0) rfl))
  have u_35 := u_34.ext E_15
  have u_36 := u_35.wr W_28 (Or.inl (List.mem_of_getElem? (i := 0) rfl))
  have u_37 := u_12.ext E_15
  have u_38 := u_37.other W_28 (Or.inr (slot_ne (Or.inr (hw _ (List.mem_of_getElem? (i := 20) rfl))) (Or.inr (hw _ (List.mem_of_getElem? (i := 21) rfl))) (by decide) (t := (.array .byte)) (t' := .byte) (by decide) (by decide)))
  have u_39 := A_2.other W_11 (Ne.symm u_7)
  have u_40 := u_39.ext E_15
  have u_41 := u_40.other W_28 (Ne.symm u_7)
  exact ⟨rfl, N_28, by rw [e_28]; exact u_36, by rw [e_28]; exact u_29, b_2, by rw [e_28]; exact u_38, by rw [e_28]; exact u_41⟩
set_option maxRecDepth 65536 in
set_option maxHeartbeats 40000000 in
theorem rmS5_0 (l : Launch) (Z : State) (a0 : Array Value) (hw : ∀ d ∈ tables_1, d.before a0 Z = true) (a1 a2 : Addr) (h0 : Heap) (n0 : Nat) (Z0 : n0 ≤ h0.size) (f : Nat → Value) (A2 : Afn Z h0 a2 .char 0 f) (E1 : Exa Z h0 a1 "java/lang/String") (g1 : n0 ≤ a1) (Fc : Fld Z h0 a1 "java/lang/String" "coder" "B" (.int (0 : Int32))) (Fv : Fld Z h0 a1 "java/lang/String" "value" "[B" .null) :
    ConH l Z own_EL [a1] (⟨"java/lang/String", "<init>", "([C)V"⟩ : MethodName) jdk_42_method_3_code 2 none ({ frames := 2, cells := 4, slots := 8, locals := 29 } : Room) #[(.ref a1), (.ref a2)] h0 (fun v h L => v = none ∧ Fr n0 L ∧ Keep h0 h [a1] ∧ Fld Z h a1 "java/lang/String" "coder" "B" (.int (0 : Int32)) ∧ ∃ x, Fld Z h a1 "java/lang/String" "value" "[B" (.ref x) ∧ Afn Z h x .byte 0 (fun i => ([] : List Value).getD i (.int 0))) := by
  refine ConH.body (plainFor_of_name own_pn0) ?_
  intro pP eE sS vm0 mM bB mT cC s₁ hx hby hml hZ hown hnm hret hlk X0 e0 hS hs0 C0 sf0
  have hown : (sS.setVm vm0).vm.findClass "java/lang/String" = some mM.cls := hown
  have hml : cC.maxLocals = 2 := hml
  have N0 := Fr.nil n0
  have ef : entryFrame mM #[(.ref a1), (.ref a2)] 2 = mkF mM 0 #[.val (.ref a1), .val (.ref a2)] [] := by first | (simp [entryFrame, mkF, argsToLocals, Value.category]; done) | rfl
  rw [ef]
  show Goes pP eE bB _ (s₁.setTop (mkF mM 0 #[.val (.ref a1), .val (.ref a2)] []))
  refine Goes.step (fun _ kK => XS.aloadN X0.here hx rfl (hb hby own_d2_0) rfl rfl kK) ?_
  show Goes pP eE bB _ (s₁.setTop (mkF mM 1 #[.val (.ref a1), .val (.ref a2)] [(.ref a1)]))
  refine Goes.step (fun _ kK => XS.aloadN X0.here hx rfl (hb hby own_d2_1) rfl rfl kK) ?_
  show Goes pP eE bB _ (s₁.setTop (mkF mM 2 #[.val (.ref a1), .val (.ref a2)] [(.ref a2), (.ref a1)]))
  refine Goes.step (fun _ kK => XS.iconst X0.here hx rfl (hb hby own_d2_2) kK) ?_
  show Goes pP eE bB _ (s₁.setTop (mkF mM 3 #[.val (.ref a1), .val (.ref a2)] [(.int (0 : Int32)), (.ref a2), (.ref a1)]))
  refine Goes.step (fun _ kK => XS.aloadN X0.here hx rfl (hb hby own_d2_3) rfl rfl kK) ?_
  show Goes pP eE bB _ (s₁.setTop (mkF mM 4 #[.val (.ref a1), .val (.ref a2)] [(.ref a2), (.int (0 : Int32)), (.ref a2), (.ref a1)]))
  refine Goes.alen X0 hx hZ e0 A2 (z := (0 : Int32)) (by decide) (g := (mkF mM 4 #[.val (.ref a1), .val (.ref a2)] [(.ref a2), (.int (0 : Int32)), (.ref a2), (.ref a1)])) rfl rfl (hb hby own_d2_4) ?_
  show Goes pP eE bB _ (s₁.setTop (mkF mM 5 #[.val (.ref a1), .val (.ref a2)] [(.int (0 : Int32)), (.int (0 : Int32)), (.ref a2), (.ref a1)]))
  refine Goes.step (fun _ kK => XS.aconstNull X0.here hx rfl (hb hby own_d2_5) kK) ?_
  show Goes pP eE bB _ (s₁.setTop (mkF mM 6 #[.val (.ref a1), .val (.ref a2)] [.null, (.int (0 : Int32)), (.int (0 : Int32)), (.ref a2), (.ref a1)]))
  refine Goes.callIH X0 hx hZ rfl hown (hw _ (List.mem_of_getElem? (i := 11) rfl)) (hw _ (List.mem_of_getElem? (i := 12) rfl)) (hw _ (List.mem_of_getElem? (i := 14) rfl)) (hw _ (List.mem_of_getElem? (i := 7) rfl)) (by decide) e0 hS (Nat.le_refl h0.size) (own_hEL hw) C0 (allS ⟨own_ltE E1, (sf0 _ (List.mem_of_getElem? (i := 0) rfl))⟩ all0) (rmS4_0 l Z a0 hw a1 a2 h0 n0 Z0 _ A2 E1 g1 Fc Fv) (W := 0) (by decide) (by decide) (by decide) (by decide) (g := (mkF mM 6 #[.val (.ref a1), .val (.ref a2)] [.null, (.int (0 : Int32)), (.int (0 : Int32)), (.ref a2), (.ref a1)])) rfl (by rw [hml]; rfl) (rest := []) own_pd0 rfl rfl (by show 2 * 0 + _ ≤ _; exact Nat.le_of_eq rfl) (hb hby own_d2_6) ?_
  intro v_1 T_1 L_1 RB_1 gr_1 hQ_1
  obtain ⟨⟨X_1, hS, hZ, hown⟩, CC_1⟩ := RB_1
  generalize e_1 : T_1.heap = h_1 at hQ_1
  obtain ⟨rfl, N_1q, K_1, F_1c, b_1, F_1v, A_1⟩ := hQ_1
  have N_1 := Fr.app N0 N_1q
  have hk_1 : T_1.heap.size ≤ h_1.size := Nat.le_of_eq (by rw [e_1])
  rw [e_1] at CC_1
  have u_2 := C0.trans CC_1
  show Goes pP eE bB _ (T_1.setTop (mkF mM 9 #[.val (.ref a1), .val (.ref a2)] []))
  refine Goes.ret0H X_1 hS (Nat.le_trans hk_1 (Nat.le_of_eq (by rw [e_1]))) (own_atT X_1 hZ (own_hEL hw) e_1 hs0 u_2) hx hlk hret (hb hby own_d2_9) (by decide) (by decide) ?_
  have u_3 := (Keep.refl h0 [a1]).trans K_1 (allS (Or.inl (List.mem_of_getElem? (i := 0) rfl)) all0)
  exact ⟨rfl, N_1, by rw [e_1]; exact u_3, by rw [e_1]; exact F_1c, b_1, by rw [e_1]; exact F_1v, by rw [e_1]; exact A_1⟩
set_option maxRecDepth 65536 in
set_option maxHeartbeats 40000000 in
theorem rmS2_1 (l : Launch) (Z : State) (a0 : Array Value) (hw : ∀ d ∈ tables_1, d.before a0 Z = true) (a1 a3 : Addr) (c0 : Int32) (h0 : Heap) (n0 : Nat) (Z0 : n0 ≤ h0.size) (f fb : Nat → Value) (A1 : Afn Z h0 a1 .char 1 f) (A3 : Afn Z h0 a3 .byte 1 fb) (g3 : n0 ≤ a3) (d13 : a1 ≠ a3) (hf0 : f 0 = .int c0) (hc0 : ¬ ((255 : Int32) < c0)) :
    Con l Z (⟨"java/lang/StringUTF16", "compress", "([CI[BII)I"⟩ : MethodName) jdk_52_method_21_code 7 (some .int) ({ frames := 0, cells := 0, slots := 0, locals := 0 } : Room) #[(.ref a1), (.int (0 : Int32)), (.ref a3), (.int (0 : Int32)), (.int (1 : Int32))] h0 (fun v h L => v = some (.int (1 : Int32)) ∧ Fr n0 L ∧ Keep h0 h [a3] ∧ Afn Z h a3 .byte 1 (own_bs [c0])) := by
  refine Con.body (plainFor_of_name own_pn1) ?_
  intro pP eE sS mM bB mT cC s₁ hx hby hml hZ hown hnm hret hlk X0 e0
  have hown : sS.vm.findClass "java/lang/StringUTF16" = some mM.cls := hown
  have hml : cC.maxLocals = 7 := hml
  have N0 := Fr.nil n0
  have ef : entryFrame mM #[(.ref a1), (.int (0 : Int32)), (.ref a3), (.int (0 : Int32)), (.int (1 : Int32))] 7 = mkF mM 0 #[.val (.ref a1), .val (.int (0 : Int32)), .val (.ref a3), .val (.int (0 : Int32)), .val (.int (1 : Int32)), .unset, .unset] [] := by first | (simp [entryFrame, mkF, argsToLocals, Value.category]; done) | rfl
  rw [ef]
  show Goes pP eE bB _ (s₁.setTop (mkF mM 0 #[.val (.ref a1), .val (.int (0 : Int32)), .val (.ref a3), .val (.int (0 : Int32)), .val (.int (1 : Int32)), .unset, .unset] []))
  refine Goes.step (fun _ kK => XS.iconst X0.here hx rfl (hb hby own_d17_0) kK) ?_
  show Goes pP eE bB _ (s₁.setTop (mkF mM 1 #[.val (.ref a1), .val (.int (0 : Int32)), .val (.ref a3), .val (.int (0 : Int32)), .val (.int (1 : Int32)), .unset, .unset] [(.int (0 : Int32))]))
  refine Goes.step (fun _ kK => XS.istore X0.here hx rfl (hb hby own_d17_1) rfl (l' := #[.val (.ref a1), .val (.int (0 : Int32)), .val (.ref a3), .val (.int (0 : Int32)), .val (.int (1 : Int32)), .val (.int (0 : Int32)), .unset]) rfl kK) ?_
  show Goes pP eE bB _ (s₁.setTop (mkF mM 3 #[.val (.ref a1), .val (.int (0 : Int32)), .val (.ref a3), .val (.int (0 : Int32)), .val (.int (1 : Int32)), .val (.int (0 : Int32)), .unset] []))
  refine Goes.step (fun _ kK => XS.iload X0.here hx rfl (hb hby own_d17_3) rfl kK) ?_
  show Goes pP eE bB _ (s₁.setTop (mkF mM 5 #[.val (.ref a1), .val (.int (0 : Int32)), .val (.ref a3), .val (.int (0 : Int32)), .val (.int (1 : Int32)), .val (.int (0 : Int32)), .unset] [(.int (0 : Int32))]))
  refine Goes.step (fun _ kK => XS.iload X0.here hx rfl (hb hby own_d17_5) rfl kK) ?_
  show Goes pP eE bB _ (s₁.setTop (mkF mM 7 #[.val (.ref a1), .val (.int (0 : Int32)), .val (.ref a3), .val (.int (0 : Int32)), .val (.int (1 : Int32)), .val (.int (0 : Int32)), .unset] [(.int (1 : Int32)), (.int (0 : Int32))]))
  refine Goes.step (fun _ kK => XS.icmpNo X0.here hx rfl (hb hby own_d17_7) rfl (tlt (by decide)).2.1 kK) ?_
  show Goes pP eE bB _ (s₁.setTop (mkF mM 10 #[.val (.ref a1), .val (.int (0 : Int32)), .val (.ref a3), .val (.int (0 : Int32)), .val (.int (1 : Int32)), .val (.int (0 : Int32)), .unset] []))
  refine Goes.step (fun _ kK => XS.aloadN X0.here hx rfl (hb hby own_d17_10) rfl rfl kK) ?_
  show Goes pP eE bB _ (s₁.setTop (mkF mM 11 #[.val (.ref a1), .val (.int (0 : Int32)), .val (.ref a3), .val (.int (0 : Int32)), .val (.int (1 : Int32)), .val (.int (0 : Int32)), .unset] [(.ref a1)]))
  refine Goes.step (fun _ kK => XS.iloadN X0.here hx rfl (hb hby own_d17_11) rfl kK) ?_
  show Goes pP eE bB _ (s₁.setTop (mkF mM 12 #[.val (.ref a1), .val (.int (0 : Int32)), .val (.ref a3), .val (.int (0 : Int32)), .val (.int (1 : Int32)), .val (.int (0 : Int32)), .unset] [(.int (0 : Int32)), (.ref a1)]))
  refine Goes.caload X0 hx hZ e0 A1 (i := 0) (by decide) (by decide) hf0 (g := (mkF mM 12 #[.val (.ref a1), .val (.int (0 : Int32)), .val (.ref a3), .val (.int (0 : Int32)), .val (.int (1 : Int32)), .val (.int (0 : Int32)), .unset] [(.int (0 : Int32)), (.ref a1)])) rfl rfl (hb hby own_d17_12) ?_
  show Goes pP eE bB _ (s₁.setTop (mkF mM 13 #[.val (.ref a1), .val (.int (0 : Int32)), .val (.ref a3), .val (.int (0 : Int32)), .val (.int (1 : Int32)), .val (.int (0 : Int32)), .unset] [(.int c0)]))
  refine Goes.step (fun _ kK => XS.istore X0.here hx rfl (hb hby own_d17_13) rfl (l' := #[.val (.ref a1), .val (.int (0 : Int32)), .val (.ref a3), .val (.int (0 : Int32)), .val (.int (1 : Int32)), .val (.int (0 : Int32)), .val (.int c0)]) rfl kK) ?_
  show Goes pP eE bB _ (s₁.setTop (mkF mM 15 #[.val (.ref a1), .val (.int (0 : Int32)), .val (.ref a3), .val (.int (0 : Int32)), .val (.int (1 : Int32)), .val (.int (0 : Int32)), .val (.int c0)] []))
  refine Goes.step (fun _ kK => XS.iload X0.here hx rfl (hb hby own_d17_15) rfl kK) ?_
  show Goes pP eE bB _ (s₁.setTop (mkF mM 17 #[.val (.ref a1), .val (.int (0 : Int32)), .val (.ref a3), .val (.int (0 : Int32)), .val (.int (1 : Int32)), .val (.int (0 : Int32)), .val (.int c0)] [(.int c0)]))
  refine Goes.step (fun _ kK => XS.sipush X0.here hx rfl (hb hby own_d17_17) kK) ?_
  show Goes pP eE bB _ (s₁.setTop (mkF mM 20 #[.val (.ref a1), .val (.int (0 : Int32)), .val (.ref a3), .val (.int (0 : Int32)), .val (.int (1 : Int32)), .val (.int (0 : Int32)), .val (.int c0)] [(.int (255 : Int32)), (.int c0)]))
  have hb_1 : ¬ ((255 : Int32) < c0) := hc0
  refine Goes.step (fun _ kK => XS.icmpYes X0.here hx rfl (pc0 := 20) (pc' := 26) rfl (hb hby own_d17_20) rfl (flt hb_1).2.2.2 (by decide) (by decide) kK) ?_
  show Goes pP eE bB _ (s₁.setTop (mkF mM 26 #[.val (.ref a1), .val (.int (0 : Int32)), .val (.ref a3), .val (.int (0 : Int32)), .val (.int (1 : Int32)), .val (.int (0 : Int32)), .val (.int c0)] []))
  refine Goes.step (fun _ kK => XS.aloadN X0.here hx rfl (hb hby own_d17_26) rfl rfl kK) ?_
  show Goes pP eE bB _ (s₁.setTop (mkF mM 27 #[.val (.ref a1), .val (.int (0 : Int32)), .val (.ref a3), .val (.int (0 : Int32)), .val (.int (1 : Int32)), .val (.int (0 : Int32)), .val (.int c0)] [(.ref a3)]))
  refine Goes.step (fun _ kK => XS.iloadN X0.here hx rfl (hb hby own_d17_27) rfl kK) ?_
  show Goes pP eE bB _ (s₁.setTop (mkF mM 28 #[.val (.ref a1), .val (.int (0 : Int32)), .val (.ref a3), .val (.int (0 : Int32)), .val (.int (1 : Int32)), .val (.int (0 : Int32)), .val (.int c0)] [(.int (0 : Int32)), (.ref a3)]))
  refine Goes.step (fun _ kK => XS.iload X0.here hx rfl (hb hby own_d17_28) rfl kK) ?_
  show Goes pP eE bB _ (s₁.setTop (mkF mM 30 #[.val (.ref a1), .val (.int (0 : Int32)), .val (.ref a3), .val (.int (0 : Int32)), .val (.int (1 : Int32)), .val (.int (0 : Int32)), .val (.int c0)] [(.int c0), (.int (0 : Int32)), (.ref a3)]))
  refine Goes.step (fun _ kK => XS.i2b X0.here hx rfl (hb hby own_d17_30) rfl kK) ?_
  show Goes pP eE bB _ (s₁.setTop (mkF mM 31 #[.val (.ref a1), .val (.int (0 : Int32)), .val (.ref a3), .val (.int (0 : Int32)), .val (.int (1 : Int32)), .val (.int (0 : Int32)), .val (.int c0)] [(.int (c0.toInt8.toInt32)), (.int (0 : Int32)), (.ref a3)]))
  refine Goes.bastore X0 hx hZ e0 A3 (i := 0) (by decide) (by decide) (g := (mkF mM 31 #[.val (.ref a1), .val (.int (0 : Int32)), .val (.ref a3), .val (.int (0 : Int32)), .val (.int (1 : Int32)), .val (.int (0 : Int32)), .val (.int c0)] [(.int (c0.toInt8.toInt32)), (.int (0 : Int32)), (.ref a3)])) rfl rfl (hb hby own_d17_31) ?_
  intro T_2 h_2 X_2 e_2 W_2 A_2
  have N_2 := Fr.snoc X_2 N0 g3
  show Goes pP eE bB _ (T_2.setTop (mkF mM 32 #[.val (.ref a1), .val (.int (0 : Int32)), .val (.ref a3), .val (.int (0 : Int32)), .val (.int (1 : Int32)), .val (.int (0 : Int32)), .val (.int c0)] []))
  refine Goes.step (fun _ kK => XS.iinc X_2.here hx rfl (hb hby own_d17_32) rfl (l' := #[.val (.ref a1), .val (.int ((0 : Int32) + (1 : Int32))), .val (.ref a3), .val (.int (0 : Int32)), .val (.int (1 : Int32)), .val (.int (0 : Int32)), .val (.int c0)]) rfl kK) ?_
  show Goes pP eE bB _ (T_2.setTop (mkF mM 35 #[.val (.ref a1), .val (.int ((0 : Int32) + (1 : Int32))), .val (.ref a3), .val (.int (0 : Int32)), .val (.int (1 : Int32)), .val (.int (0 : Int32)), .val (.int c0)] []))
  refine Goes.step (fun _ kK => XS.iinc X_2.here hx rfl (hb hby own_d17_35) rfl (l' := #[.val (.ref a1), .val (.int ((0 : Int32) + (1 : Int32))), .val (.ref a3), .val (.int ((0 : Int32) + (1 : Int32))), .val (.int (1 : Int32)), .val (.int (0 : Int32)), .val (.int c0)]) rfl kK) ?_
  show Goes pP eE bB _ (T_2.setTop (mkF mM 38 #[.val (.ref a1), .val (.int ((0 : Int32) + (1 : Int32))), .val (.ref a3), .val (.int ((0 : Int32) + (1 : Int32))), .val (.int (1 : Int32)), .val (.int (0 : Int32)), .val (.int c0)] []))
  refine Goes.step (fun _ kK => XS.iinc X_2.here hx rfl (hb hby own_d17_38) rfl (l' := #[.val (.ref a1), .val (.int ((0 : Int32) + (1 : Int32))), .val (.ref a3), .val (.int ((0 : Int32) + (1 : Int32))), .val (.int (1 : Int32)), .val (.int ((0 : Int32) + (1 : Int32))), .val (.int c0)]) rfl kK) ?_
  show Goes pP eE bB _ (T_2.setTop (mkF mM 41 #[.val (.ref a1), .val (.int ((0 : Int32) + (1 : Int32))), .val (.ref a3), .val (.int ((0 : Int32) + (1 : Int32))), .val (.int (1 : Int32)), .val (.int ((0 : Int32) + (1 : Int32))), .val (.int c0)] []))
  refine Goes.step (fun _ kK => XS.goto X_2.here hx rfl (pc0 := 41) (pc' := 3) rfl (hb hby own_d17_41) (by decide) (by decide) kK) ?_
  show Goes pP eE bB _ (T_2.setTop (mkF mM 3 #[.val (.ref a1), .val (.int ((0 : Int32) + (1 : Int32))), .val (.ref a3), .val (.int ((0 : Int32) + (1 : Int32))), .val (.int (1 : Int32)), .val (.int ((0 : Int32) + (1 : Int32))), .val (.int c0)] []))
  refine Goes.step (fun _ kK => XS.iload X_2.here hx rfl (hb hby own_d17_3) rfl kK) ?_
  show Goes pP eE bB _ (T_2.setTop (mkF mM 5 #[.val (.ref a1), .val (.int ((0 : Int32) + (1 : Int32))), .val (.ref a3), .val (.int ((0 : Int32) + (1 : Int32))), .val (.int (1 : Int32)), .val (.int ((0 : Int32) + (1 : Int32))), .val (.int c0)] [(.int ((0 : Int32) + (1 : Int32)))]))
  refine Goes.step (fun _ kK => XS.iload X_2.here hx rfl (hb hby own_d17_5) rfl kK) ?_
  show Goes pP eE bB _ (T_2.setTop (mkF mM 7 #[.val (.ref a1), .val (.int ((0 : Int32) + (1 : Int32))), .val (.ref a3), .val (.int ((0 : Int32) + (1 : Int32))), .val (.int (1 : Int32)), .val (.int ((0 : Int32) + (1 : Int32))), .val (.int c0)] [(.int (1 : Int32)), (.int ((0 : Int32) + (1 : Int32)))]))
  refine Goes.step (fun _ kK => XS.icmpYes X_2.here hx rfl (pc0 := 7) (pc' := 44) rfl (hb hby own_d17_7) rfl (flt (by decide)).2.1 (by decide) (by decide) kK) ?_
  show Goes pP eE bB _ (T_2.setTop (mkF mM 44 #[.val (.ref a1), .val (.int ((0 : Int32) + (1 : Int32))), .val (.ref a3), .val (.int ((0 : Int32) + (1 : Int32))), .val (.int (1 : Int32)), .val (.int ((0 : Int32) + (1 : Int32))), .val (.int c0)] []))
  refine Goes.step (fun _ kK => XS.iload X_2.here hx rfl (hb hby own_d17_44) rfl kK) ?_
  show Goes pP eE bB _ (T_2.setTop (mkF mM 46 #[.val (.ref a1), .val (.int ((0 : Int32) + (1 : Int32))), .val (.ref a3), .val (.int ((0 : Int32) + (1 : Int32))), .val (.int (1 : Int32)), .val (.int ((0 : Int32) + (1 : Int32))), .val (.int c0)] [(.int (1 : Int32))]))
  refine Goes.ret X_2 hx hlk hret rfl (Or.inl ⟨rfl, Or.inl rfl, _, rfl⟩) (hb hby own_d17_46) (by decide) (by decide) ?_
  have u_3 := (Keep.refl h0 [a3]).wr W_2 (Or.inl (List.mem_of_getElem? (i := 0) rfl))
  exact ⟨rfl, N_2, by rw [e_2]; exact u_3, by rw [e_2]; exact (A_2).congr (fun i hi => by obtain rfl : i = 0 := (by omega); simp [own_bs])⟩
set_option maxRecDepth 65536 in
set_option maxHeartbeats 40000000 in
theorem rmS1_1 (l : Launch) (Z : State) (a0 : Array Value) (hw : ∀ d ∈ tables_1, d.before a0 Z = true) (a1 : Addr) (c0 : Int32) (h0 : Heap) (n0 : Nat) (Z0 : n0 ≤ h0.size) (f : Nat → Value) (A1 : Afn Z h0 a1 .char 1 f) (hf0 : f 0 = .int c0) (hc0 : ¬ ((255 : Int32) < c0)) :
    Con l Z (⟨"java/lang/StringUTF16", "compress", "([CII)[B"⟩ : MethodName) jdk_52_method_16_code 6 (some (.array .byte)) ({ frames := 1, cells := 1, slots := 1, locals := 18 } : Room) #[(.ref a1), (.int (0 : Int32)), (.int (1 : Int32))] h0 (fun v h L => ∃ x, v = some (.ref x) ∧ Fr n0 L ∧ Keep h0 h [] ∧ h0.size ≤ x ∧ Afn Z h x .byte 1 (own_bs [c0]) ∧ Exa Z h x "[B") := by
  refine Con.body (plainFor_of_name own_pn1) ?_
  intro pP eE sS mM bB mT cC s₁ hx hby hml hZ hown hnm hret hlk X0 e0
  have hown : sS.vm.findClass "java/lang/StringUTF16" = some mM.cls := hown
  have hml : cC.maxLocals = 6 := hml
  have N0 := Fr.nil n0
  have ef : entryFrame mM #[(.ref a1), (.int (0 : Int32)), (.int (1 : Int32))] 6 = mkF mM 0 #[.val (.ref a1), .val (.int (0 : Int32)), .val (.int (1 : Int32)), .unset, .unset, .unset] [] := by first | (simp [entryFrame, mkF, argsToLocals, Value.category]; done) | rfl
  rw [ef]
  show Goes pP eE bB _ (s₁.setTop (mkF mM 0 #[.val (.ref a1), .val (.int (0 : Int32)), .val (.int (1 : Int32)), .unset, .unset, .unset] []))
  refine Goes.step (fun _ kK => XS.iloadN X0.here hx rfl (hb hby own_d16_0) rfl kK) ?_
  show Goes pP eE bB _ (s₁.setTop (mkF mM 1 #[.val (.ref a1), .val (.int (0 : Int32)), .val (.int (1 : Int32)), .unset, .unset, .unset] [(.int (1 : Int32))]))
  obtain ⟨T_1, h_1, k_1, X_1, e_1, E_1, A_1, M_1, st_1⟩ := newPE X0 hx hZ (hw _ (List.mem_of_getElem? (i := 19) rfl)) e0 (g := (mkF mM 1 #[.val (.ref a1), .val (.int (0 : Int32)), .val (.int (1 : Int32)), .unset, .unset, .unset] [(.int (1 : Int32))])) rfl (hb hby own_d16_1) rfl (by decide) (cap := 1) (by decide) (by decide) (by decide) (by decide) (ad := "[B") rfl
  obtain ⟨b_1, g_1⟩ : ∃ z, z = h0.size := ⟨_, rfl⟩
  rw [← g_1] at A_1 M_1 st_1
  have u_2 : a1 < b_1 := Nat.lt_of_lt_of_le (A1).lt (Nat.le_of_eq g_1.symm)
  have u_3 : n0 ≤ b_1 := Nat.le_trans Z0 (Nat.le_of_eq g_1.symm)
  have u_4 : h0.size ≤ b_1 := Nat.le_trans ((Keep.refl h0 [])).1 (Nat.le_of_eq g_1.symm)
  have u_5 : Afn Z h_1 b_1 .byte 1 (fun _ => (.int (0 : Int32))) := Afn.new (n := 1) A_1 (by decide)
  refine Goes.step st_1 ?_
  show Goes pP eE bB _ (T_1.setTop (mkF mM 3 #[.val (.ref a1), .val (.int (0 : Int32)), .val (.int (1 : Int32)), .unset, .unset, .unset] [(.ref b_1)]))
  refine Goes.step (fun _ kK => XS.astoreN X_1.here hx rfl (hb hby own_d16_3) rfl rfl (l' := #[.val (.ref a1), .val (.int (0 : Int32)), .val (.int (1 : Int32)), .val (.ref b_1), .unset, .unset]) rfl kK) ?_
  show Goes pP eE bB _ (T_1.setTop (mkF mM 4 #[.val (.ref a1), .val (.int (0 : Int32)), .val (.int (1 : Int32)), .val (.ref b_1), .unset, .unset] []))
  refine Goes.step (fun _ kK => XS.aloadN X_1.here hx rfl (hb hby own_d16_4) rfl rfl kK) ?_
  show Goes pP eE bB _ (T_1.setTop (mkF mM 5 #[.val (.ref a1), .val (.int (0 : Int32)), .val (.int (1 : Int32)), .val (.ref b_1), .unset, .unset] [(.ref a1)]))
  refine Goes.step (fun _ kK => XS.iloadN X_1.here hx rfl (hb hby own_d16_5) rfl kK) ?_
  show Goes pP eE bB _ (T_1.setTop (mkF mM 6 #[.val (.ref a1), .val (.int (0 : Int32)), .val (.int (1 : Int32)), .val (.ref b_1), .unset, .unset] [(.int (0 : Int32)), (.ref a1)]))
  refine Goes.step (fun _ kK => XS.aloadN X_1.here hx rfl (hb hby own_d16_6) rfl rfl kK) ?_
  show Goes pP eE bB _ (T_1.setTop (mkF mM 7 #[.val (.ref a1), .val (.int (0 : Int32)), .val (.int (1 : Int32)), .val (.ref b_1), .unset, .unset] [(.ref b_1), (.int (0 : Int32)), (.ref a1)]))
  refine Goes.step (fun _ kK => XS.iconst X_1.here hx rfl (hb hby own_d16_7) kK) ?_
  show Goes pP eE bB _ (T_1.setTop (mkF mM 8 #[.val (.ref a1), .val (.int (0 : Int32)), .val (.int (1 : Int32)), .val (.ref b_1), .unset, .unset] [(.int (0 : Int32)), (.ref b_1), (.int (0 : Int32)), (.ref a1)]))
  refine Goes.step (fun _ kK => XS.iloadN X_1.here hx rfl (hb hby own_d16_8) rfl kK) ?_
  show Goes pP eE bB _ (T_1.setTop (mkF mM 9 #[.val (.ref a1), .val (.int (0 : Int32)), .val (.int (1 : Int32)), .val (.ref b_1), .unset, .unset] [(.int (1 : Int32)), (.int (0 : Int32)), (.ref b_1), (.int (0 : Int32)), (.ref a1)]))
  have u_6 := Nat.le_trans Z0 E_1.1
  have u_7 := A1.ext E_1
  refine Goes.callS X_1 hx hZ hown (hw _ (List.mem_of_getElem? (i := 93) rfl)) (hw _ (List.mem_of_getElem? (i := 94) rfl)) (hw _ (List.mem_of_getElem? (i := 91) rfl)) (hw _ (List.mem_of_getElem? (i := 95) rfl)) (by decide) e_1 (rmS2_1 l Z a0 hw a1 b_1 c0 h_1 n0 u_6 _ _ u_7 u_5 u_3 (Nat.ne_of_lt u_2) hf0 hc0) (W := 0) (by decide) (by decide) (by decide) (by decide) (g := (mkF mM 9 #[.val (.ref a1), .val (.int (0 : Int32)), .val (.int (1 : Int32)), .val (.ref b_1), .unset, .unset] [(.int (1 : Int32)), (.int (0 : Int32)), (.ref b_1), (.int (0 : Int32)), (.ref a1)])) rfl (by rw [hml]; rfl) (rest := []) own_pd1 rfl rfl (by show 2 * 0 + _ ≤ _; exact Nat.le_of_eq rfl) (hb hby own_d16_9) ?_
  intro v_8 T_8 L_8 X_8 hQ_8
  generalize e_8 : T_8.heap = h_8 at hQ_8
  obtain ⟨rfl, N_8q, K_8, A_8⟩ := hQ_8
  have N_8 := Fr.app N0 N_8q
  show Goes pP eE bB _ (T_8.setTop (mkF mM 12 #[.val (.ref a1), .val (.int (0 : Int32)), .val (.int (1 : Int32)), .val (.ref b_1), .unset, .unset] [(.int (1 : Int32))]))
  refine Goes.step (fun _ kK => XS.istore X_8.here hx rfl (hb hby own_d16_12) rfl (l' := #[.val (.ref a1), .val (.int (0 : Int32)), .val (.int (1 : Int32)), .val (.ref b_1), .val (.int (1 : Int32)), .unset]) rfl kK) ?_
  show Goes pP eE bB _ (T_8.setTop (mkF mM 14 #[.val (.ref a1), .val (.int (0 : Int32)), .val (.int (1 : Int32)), .val (.ref b_1), .val (.int (1 : Int32)), .unset] []))
  refine Goes.step (fun _ kK => XS.iload X_8.here hx rfl (hb hby own_d16_14) rfl kK) ?_
  show Goes pP eE bB _ (T_8.setTop (mkF mM 16 #[.val (.ref a1), .val (.int (0 : Int32)), .val (.int (1 : Int32)), .val (.ref b_1), .val (.int (1 : Int32)), .unset] [(.int (1 : Int32))]))
  refine Goes.step (fun _ kK => XS.iloadN X_8.here hx rfl (hb hby own_d16_16) rfl kK) ?_
  show Goes pP eE bB _ (T_8.setTop (mkF mM 17 #[.val (.ref a1), .val (.int (0 : Int32)), .val (.int (1 : Int32)), .val (.ref b_1), .val (.int (1 : Int32)), .unset] [(.int (1 : Int32)), (.int (1 : Int32))]))
  refine Goes.step (fun _ kK => XS.icmpYes X_8.here hx rfl (pc0 := 17) (pc' := 57) rfl (hb hby own_d16_17) rfl (teq (by decide)).1 (by decide) (by decide) kK) ?_
  show Goes pP eE bB _ (T_8.setTop (mkF mM 57 #[.val (.ref a1), .val (.int (0 : Int32)), .val (.int (1 : Int32)), .val (.ref b_1), .val (.int (1 : Int32)), .unset] []))
  refine Goes.step (fun _ kK => XS.aloadN X_8.here hx rfl (hb hby own_d16_57) rfl rfl kK) ?_
  show Goes pP eE bB _ (T_8.setTop (mkF mM 58 #[.val (.ref a1), .val (.int (0 : Int32)), .val (.int (1 : Int32)), .val (.ref b_1), .val (.int (1 : Int32)), .unset] [(.ref b_1)]))
  refine Goes.ret X_8 hx hlk hret rfl (Or.inr (Or.inr (Or.inr (Or.inr ⟨rfl, rfl, rfl⟩)))) (hb hby own_d16_58) (by decide) (by decide) ?_
  have u_9 := (Keep.refl h0 []).ext E_1
  have u_10 := u_9.trans K_8 (allS (Or.inr u_4) all0)
  have u_11 := M_1.keep K_8
  exact ⟨_, rfl, N_8, by rw [e_8]; exact u_10, u_4, by rw [e_8]; exact A_8, by rw [e_8]; exact u_11⟩
set_option maxRecDepth 65536 in
set_option maxHeartbeats 40000000 in
theorem rmS3_1 (l : Launch) (Z : State) (a0 : Array Value) (hw : ∀ d ∈ tables_1, d.before a0 Z = true) (a1 : Addr) (h0 : Heap) (n0 : Nat) (Z0 : n0 ≤ h0.size) (f : Nat → Value) (A1 : Afn Z h0 a1 .byte 1 f) :
    Con l Z (⟨"java/lang/StringUTF16", "coderFromArrayLen", "([BI)B"⟩ : MethodName) jdk_52_method_15_code 2 (some .byte) ({ frames := 0, cells := 0, slots := 0, locals := 0 } : Room) #[(.ref a1), (.int (1 : Int32))] h0 (fun v h L => v = some (.int (0 : Int32)) ∧ Fr n0 L ∧ h = h0) := by
  refine Con.body (plainFor_of_name own_pn1) ?_
  intro pP eE sS mM bB mT cC s₁ hx hby hml hZ hown hnm hret hlk X0 e0
  have hown : sS.vm.findClass "java/lang/StringUTF16" = some mM.cls := hown
  have hml : cC.maxLocals = 2 := hml
  have N0 := Fr.nil n0
  have ef : entryFrame mM #[(.ref a1), (.int (1 : Int32))] 2 = mkF mM 0 #[.val (.ref a1), .val (.int (1 : Int32))] [] := by first | (simp [entryFrame, mkF, argsToLocals, Value.category]; done) | rfl
  rw [ef]
  show Goes pP eE bB _ (s₁.setTop (mkF mM 0 #[.val (.ref a1), .val (.int (1 : Int32))] []))
  refine Goes.step (fun _ kK => XS.iloadN X0.here hx rfl (hb hby own_d18_0) rfl kK) ?_
  show Goes pP eE bB _ (s₁.setTop (mkF mM 1 #[.val (.ref a1), .val (.int (1 : Int32))] [(.int (1 : Int32))]))
  refine Goes.step (fun _ kK => XS.aloadN X0.here hx rfl (hb hby own_d18_1) rfl rfl kK) ?_
  show Goes pP eE bB _ (s₁.setTop (mkF mM 2 #[.val (.ref a1), .val (.int (1 : Int32))] [(.ref a1), (.int (1 : Int32))]))
  refine Goes.alen X0 hx hZ e0 A1 (z := (1 : Int32)) (by decide) (g := (mkF mM 2 #[.val (.ref a1), .val (.int (1 : Int32))] [(.ref a1), (.int (1 : Int32))])) rfl rfl (hb hby own_d18_2) ?_
  show Goes pP eE bB _ (s₁.setTop (mkF mM 3 #[.val (.ref a1), .val (.int (1 : Int32))] [(.int (1 : Int32)), (.int (1 : Int32))]))
  refine Goes.step (fun _ kK => XS.isub X0.here hx rfl (hb hby own_d18_3) rfl kK) ?_
  show Goes pP eE bB _ (s₁.setTop (mkF mM 4 #[.val (.ref a1), .val (.int (1 : Int32))] [(.int ((1 : Int32) - (1 : Int32)))]))
  refine Goes.step (fun _ kK => XS.bipush X0.here hx rfl (hb hby own_d18_4) kK) ?_
  show Goes pP eE bB _ (s₁.setTop (mkF mM 6 #[.val (.ref a1), .val (.int (1 : Int32))] [(.int (31 : Int32)), (.int ((1 : Int32) - (1 : Int32)))]))
  refine Goes.step (fun _ kK => XS.iushr X0.here hx rfl (hb hby own_d18_6) rfl kK) ?_
  show Goes pP eE bB _ (s₁.setTop (mkF mM 7 #[.val (.ref a1), .val (.int (1 : Int32))] [(.int ((((1 : Int32) - (1 : Int32)).toUInt32 >>> ((31 : Int32) &&& 31).toUInt32).toInt32))]))
  refine Goes.step (fun _ kK => XS.i2b X0.here hx rfl (hb hby own_d18_7) rfl kK) ?_
  show Goes pP eE bB _ (s₁.setTop (mkF mM 8 #[.val (.ref a1), .val (.int (1 : Int32))] [(.int (((((1 : Int32) - (1 : Int32)).toUInt32 >>> ((31 : Int32) &&& 31).toUInt32).toInt32).toInt8.toInt32))]))
  refine Goes.retN X0 hx hlk (t := .byte) hret (by simp) (hb hby own_d18_8) (by decide) (by decide) ?_
  exact ⟨rfl, N0, e0⟩
set_option maxRecDepth 65536 in
set_option maxHeartbeats 40000000 in
theorem rmS4_1 (l : Launch) (Z : State) (a0 : Array Value) (hw : ∀ d ∈ tables_1, d.before a0 Z = true) (a1 a2 : Addr) (c0 : Int32) (cs : Int32) (h0 : Heap) (n0 : Nat) (Z0 : n0 ≤ h0.size) (Scs : Sta Z Z.heap "java/lang/String" "COMPACT_STRINGS" "Z" (.int cs)) (hcs : ¬ (cs = (0 : Int32))) (O0 : Old Z n0 h0) (f : Nat → Value) (A2 : Afn Z h0 a2 .char 1 f) (E1 : Exa Z h0 a1 "java/lang/String") (g1 : n0 ≤ a1) (Fc : Fld Z h0 a1 "java/lang/String" "coder" "B" (.int (0 : Int32))) (Fv : Fld Z h0 a1 "java/lang/String" "value" "[B" .null) (hf0 : f 0 = .int c0) (hc0 : ¬ ((255 : Int32) < c0)) :
    Con l Z (⟨"java/lang/String", "<init>", "([CIILjava/lang/Void;)V"⟩ : MethodName) jdk_42_method_149_code 6 none ({ frames := 2, cells := 1, slots := 1, locals := 35 } : Room) #[(.ref a1), (.ref a2), (.int (0 : Int32)), (.int (1 : Int32)), .null] h0 (fun v h L => v = none ∧ Fr n0 L ∧ Keep h0 h [a1] ∧ Fld Z h a1 "java/lang/String" "coder" "B" (.int (0 : Int32)) ∧ ∃ x, Fld Z h a1 "java/lang/String" "value" "[B" (.ref x) ∧ h0.size ≤ x ∧ Afn Z h x .byte 1 (own_bs [c0]) ∧ Exa Z h x "[B") := by
  refine Con.body (plainFor_of_name own_pn0) ?_
  intro pP eE sS mM bB mT cC s₁ hx hby hml hZ hown hnm hret hlk X0 e0
  have hown : sS.vm.findClass "java/lang/String" = some mM.cls := hown
  have hml : cC.maxLocals = 6 := hml
  have N0 := Fr.nil n0
  have ef : entryFrame mM #[(.ref a1), (.ref a2), (.int (0 : Int32)), (.int (1 : Int32)), .null] 6 = mkF mM 0 #[.val (.ref a1), .val (.ref a2), .val (.int (0 : Int32)), .val (.int (1 : Int32)), .val .null, .unset] [] := by first | (simp [entryFrame, mkF, argsToLocals, Value.category]; done) | rfl
  rw [ef]
  show Goes pP eE bB _ (s₁.setTop (mkF mM 0 #[.val (.ref a1), .val (.ref a2), .val (.int (0 : Int32)), .val (.int (1 : Int32)), .val .null, .unset] []))
  refine Goes.step (fun _ kK => XS.aloadN X0.here hx rfl (hb hby own_d3_0) rfl rfl kK) ?_
  show Goes pP eE bB _ (s₁.setTop (mkF mM 1 #[.val (.ref a1), .val (.ref a2), .val (.int (0 : Int32)), .val (.int (1 : Int32)), .val .null, .unset] [(.ref a1)]))
  obtain ⟨T_1, X_1, e_1, st_1⟩ := initO X0 hx hZ hown (hw _ (List.mem_of_getElem? (i := 15) rfl)) (hw _ (List.mem_of_getElem? (i := 16) rfl)) (hw _ (List.mem_of_getElem? (i := 17) rfl)) e0 (g := (mkF mM 1 #[.val (.ref a1), .val (.ref a2), .val (.int (0 : Int32)), .val (.int (1 : Int32)), .val .null, .unset] [(.ref a1)])) rfl (by rw [hml]; rfl) rfl (hb hby own_d3_1) (by decide) (W := 0) (by show 2 * 0 + _ ≤ _; exact Nat.le_of_eq rfl) (by decide)
  refine Goes.step st_1 ?_
  show Goes pP eE bB _ (T_1.setTop (mkF mM 4 #[.val (.ref a1), .val (.ref a2), .val (.int (0 : Int32)), .val (.int (1 : Int32)), .val .null, .unset] []))
  refine Goes.step (fun _ kK => XS.iloadN X_1.here hx rfl (hb hby own_d3_4) rfl kK) ?_
  show Goes pP eE bB _ (T_1.setTop (mkF mM 5 #[.val (.ref a1), .val (.ref a2), .val (.int (0 : Int32)), .val (.int (1 : Int32)), .val .null, .unset] [(.int (1 : Int32))]))
  refine Goes.step (fun _ kK => XS.ifYes X_1.here hx rfl (pc0 := 5) (pc' := 27) rfl (hb hby own_d3_5) rfl ((if0 _ _).trans (feq (by decide)).2) (by decide) (by decide) kK) ?_
  show Goes pP eE bB _ (T_1.setTop (mkF mM 27 #[.val (.ref a1), .val (.ref a2), .val (.int (0 : Int32)), .val (.int (1 : Int32)), .val .null, .unset] []))
  obtain ⟨T_2, X_2, e_2, st_2⟩ := getS2 X_1 hx hZ hown (host := "") (Or.inl (hw _ (List.mem_of_getElem? (i := 72) rfl))) Via.refl e_1 (Scs.ext O0.2) (g := (mkF mM 27 #[.val (.ref a1), .val (.ref a2), .val (.int (0 : Int32)), .val (.int (1 : Int32)), .val .null, .unset] [])) rfl (hb hby own_d3_27)
  refine Goes.step st_2 ?_
  show Goes pP eE bB _ (T_2.setTop (mkF mM 30 #[.val (.ref a1), .val (.ref a2), .val (.int (0 : Int32)), .val (.int (1 : Int32)), .val .null, .unset] [(.int cs)]))
  have hb_3 : ¬ (cs = (0 : Int32)) := hcs
  refine Goes.step (fun _ kK => XS.ifNo X_2.here hx rfl (hb hby own_d3_30) rfl ((if0 _ _).trans (feq hb_3).1) kK) ?_
  show Goes pP eE bB _ (T_2.setTop (mkF mM 33 #[.val (.ref a1), .val (.ref a2), .val (.int (0 : Int32)), .val (.int (1 : Int32)), .val .null, .unset] []))
  refine Goes.step (fun _ kK => XS.aloadN X_2.here hx rfl (hb hby own_d3_33) rfl rfl kK) ?_
  show Goes pP eE bB _ (T_2.setTop (mkF mM 34 #[.val (.ref a1), .val (.ref a2), .val (.int (0 : Int32)), .val (.int (1 : Int32)), .val .null, .unset] [(.ref a2)]))
  refine Goes.step (fun _ kK => XS.iloadN X_2.here hx rfl (hb hby own_d3_34) rfl kK) ?_
  show Goes pP eE bB _ (T_2.setTop (mkF mM 35 #[.val (.ref a1), .val (.ref a2), .val (.int (0 : Int32)), .val (.int (1 : Int32)), .val .null, .unset] [(.int (0 : Int32)), (.ref a2)]))
  refine Goes.step (fun _ kK => XS.iloadN X_2.here hx rfl (hb hby own_d3_35) rfl kK) ?_
  show Goes pP eE bB _ (T_2.setTop (mkF mM 36 #[.val (.ref a1), .val (.ref a2), .val (.int (0 : Int32)), .val (.int (1 : Int32)), .val .null, .unset] [(.int (1 : Int32)), (.int (0 : Int32)), (.ref a2)]))
  refine Goes.callS X_2 hx hZ hown (hw _ (List.mem_of_getElem? (i := 89) rfl)) (hw _ (List.mem_of_getElem? (i := 90) rfl)) (hw _ (List.mem_of_getElem? (i := 91) rfl)) (hw _ (List.mem_of_getElem? (i := 92) rfl)) (by decide) e_2 (rmS1_1 l Z a0 hw a2 c0 h0 n0 Z0 _ A2 hf0 hc0) (W := 0) (by decide) (by decide) (by decide) (by decide) (g := (mkF mM 36 #[.val (.ref a1), .val (.ref a2), .val (.int (0 : Int32)), .val (.int (1 : Int32)), .val .null, .unset] [(.int (1 : Int32)), (.int (0 : Int32)), (.ref a2)])) rfl (by rw [hml]; rfl) (rest := []) own_pd2 rfl rfl (by show 2 * 0 + _ ≤ _; exact Nat.le_of_eq rfl) (hb hby own_d3_36) ?_
  intro v_4 T_4 L_4 X_4 hQ_4
  generalize e_4 : T_4.heap = h_4 at hQ_4
  obtain ⟨b_4, rfl, N_4q, K_4, s_4, A_4, M_4⟩ := hQ_4
  have N_4 := Fr.app N0 N_4q
  have u_5 : a2 < b_4 := Nat.lt_of_lt_of_le (A2).lt s_4
  have u_6 : a1 < b_4 := Nat.lt_of_lt_of_le (E1).lt s_4
  have u_7 : n0 ≤ b_4 := Nat.le_trans Z0 s_4
  have u_8 : h0.size ≤ b_4 := Nat.le_trans ((Keep.refl h0 [a1])).1 s_4
  show Goes pP eE bB _ (T_4.setTop (mkF mM 39 #[.val (.ref a1), .val (.ref a2), .val (.int (0 : Int32)), .val (.int (1 : Int32)), .val .null, .unset] [(.ref b_4)]))
  refine Goes.step (fun _ kK => XS.astore X_4.here hx rfl (hb hby own_d3_39) rfl rfl (l' := #[.val (.ref a1), .val (.ref a2), .val (.int (0 : Int32)), .val (.int (1 : Int32)), .val .null, .val (.ref b_4)]) rfl kK) ?_
  show Goes pP eE bB _ (T_4.setTop (mkF mM 41 #[.val (.ref a1), .val (.ref a2), .val (.int (0 : Int32)), .val (.int (1 : Int32)), .val .null, .val (.ref b_4)] []))
  refine Goes.step (fun _ kK => XS.aloadN X_4.here hx rfl (hb hby own_d3_41) rfl rfl kK) ?_
  show Goes pP eE bB _ (T_4.setTop (mkF mM 42 #[.val (.ref a1), .val (.ref a2), .val (.int (0 : Int32)), .val (.int (1 : Int32)), .val .null, .val (.ref b_4)] [(.ref a1)]))
  refine Goes.step (fun _ kK => XS.aload X_4.here hx rfl (hb hby own_d3_42) rfl rfl kK) ?_
  show Goes pP eE bB _ (T_4.setTop (mkF mM 44 #[.val (.ref a1), .val (.ref a2), .val (.int (0 : Int32)), .val (.int (1 : Int32)), .val .null, .val (.ref b_4)] [(.ref b_4), (.ref a1)]))
  refine Goes.step (fun _ kK => XS.iloadN X_4.here hx rfl (hb hby own_d3_44) rfl kK) ?_
  show Goes pP eE bB _ (T_4.setTop (mkF mM 45 #[.val (.ref a1), .val (.ref a2), .val (.int (0 : Int32)), .val (.int (1 : Int32)), .val .null, .val (.ref b_4)] [(.int (1 : Int32)), (.ref b_4), (.ref a1)]))
  have u_9 := Nat.le_trans Z0 K_4.1
  refine Goes.callS X_4 hx hZ hown (hw _ (List.mem_of_getElem? (i := 96) rfl)) (hw _ (List.mem_of_getElem? (i := 97) rfl)) (hw _ (List.mem_of_getElem? (i := 91) rfl)) (hw _ (List.mem_of_getElem? (i := 98) rfl)) (by decide) e_4 (rmS3_1 l Z a0 hw b_4 h_4 n0 u_9 _ A_4) (W := 1) (by decide) (by decide) (by decide) (by decide) (g := (mkF mM 45 #[.val (.ref a1), .val (.ref a2), .val (.int (0 : Int32)), .val (.int (1 : Int32)), .val .null, .val (.ref b_4)] [(.int (1 : Int32)), (.ref b_4), (.ref a1)])) rfl (by rw [hml]; rfl) (rest := [(.ref a1)]) own_pd3 rfl rfl (by show 2 * 0 + _ ≤ _; exact Nat.le_of_eq rfl) (hb hby own_d3_45) ?_
  intro v_10 T_10 L_10 X_10 hQ_10
  obtain ⟨rfl, N_10q, e_10⟩ := hQ_10
  have N_10 := Fr.app N_4 N_10q
  show Goes pP eE bB _ (T_10.setTop (mkF mM 48 #[.val (.ref a1), .val (.ref a2), .val (.int (0 : Int32)), .val (.int (1 : Int32)), .val .null, .val (.ref b_4)] [(.int (0 : Int32)), (.ref a1)]))
  have u_11 := Fc.keep K_4 nin0
  have u_12 := E1.keep K_4
  obtain ⟨T_13, h_13, X_13, e_13, W_13, st_13⟩ := putF X_10 hx hZ hown (host := "") (Or.inl (hw _ (List.mem_of_getElem? (i := 25) rfl))) Via.refl e_10 u_11 u_12 (Or.inr ⟨(hw _ (List.mem_of_getElem? (i := 21) rfl)), rfl, hnm⟩) (hw _ (List.mem_of_getElem? (i := 6) rfl)) (ty := .byte) (by decide) rfl rfl (g := (mkF mM 48 #[.val (.ref a1), .val (.ref a2), .val (.int (0 : Int32)), .val (.int (1 : Int32)), .val .null, .val (.ref b_4)] [(.int (0 : Int32)), (.ref a1)])) rfl rfl (hb hby own_d3_48)
  have u_14 := u_11.same W_13
  have N_13 := Fr.snoc X_13 N_10 g1
  refine Goes.step st_13 ?_
  show Goes pP eE bB _ (T_13.setTop (mkF mM 51 #[.val (.ref a1), .val (.ref a2), .val (.int (0 : Int32)), .val (.int (1 : Int32)), .val .null, .val (.ref b_4)] []))
  refine Goes.step (fun _ kK => XS.aloadN X_13.here hx rfl (hb hby own_d3_51) rfl rfl kK) ?_
  show Goes pP eE bB _ (T_13.setTop (mkF mM 52 #[.val (.ref a1), .val (.ref a2), .val (.int (0 : Int32)), .val (.int (1 : Int32)), .val .null, .val (.ref b_4)] [(.ref a1)]))
  refine Goes.step (fun _ kK => XS.aload X_13.here hx rfl (hb hby own_d3_52) rfl rfl kK) ?_
  show Goes pP eE bB _ (T_13.setTop (mkF mM 54 #[.val (.ref a1), .val (.ref a2), .val (.int (0 : Int32)), .val (.int (1 : Int32)), .val .null, .val (.ref b_4)] [(.ref b_4), (.ref a1)]))
  have u_15 := Fv.keep K_4 nin0
  have u_16 := u_15.other W_13 (Or.inr (slot_ne (Or.inr (hw _ (List.mem_of_getElem? (i := 20) rfl))) (Or.inr (hw _ (List.mem_of_getElem? (i := 21) rfl))) (by decide) (t := (.array .byte)) (t' := .byte) (by decide) (by decide)))
  have u_17 := u_12.wr W_13
  obtain ⟨T_18, h_18, X_18, e_18, W_18, st_18⟩ := putF X_13 hx hZ hown (host := "") (Or.inl (hw _ (List.mem_of_getElem? (i := 24) rfl))) Via.refl e_13 u_16 u_17 (Or.inr ⟨(hw _ (List.mem_of_getElem? (i := 20) rfl)), rfl, hnm⟩) (hw _ (List.mem_of_getElem? (i := 6) rfl)) (ty := (.array .byte)) (by decide) rfl rfl (g := (mkF mM 54 #[.val (.ref a1), .val (.ref a2), .val (.int (0 : Int32)), .val (.int (1 : Int32)), .val .null, .val (.ref b_4)] [(.ref b_4), (.ref a1)])) rfl rfl (hb hby own_d3_54)
  have u_19 := u_16.same W_18
  have N_18 := Fr.snoc X_18 N_13 g1
  refine Goes.step st_18 ?_
  show Goes pP eE bB _ (T_18.setTop (mkF mM 57 #[.val (.ref a1), .val (.ref a2), .val (.int (0 : Int32)), .val (.int (1 : Int32)), .val .null, .val (.ref b_4)] []))
  refine Goes.ret0 X_18 hx hlk hret (hb hby own_d3_57) (by decide) (by decide) ?_
  have u_20 := (Keep.refl h0 [a1]).trans K_4 all0
  have u_21 := u_20.wr W_13 (Or.inl (List.mem_of_getElem? (i := 0) rfl))
  have u_22 := u_21.wr W_18 (Or.inl (List.mem_of_getElem? (i := 0) rfl))
  have u_23 := u_14.other W_18 (Or.inr (slot_ne (Or.inr (hw _ (List.mem_of_getElem? (i := 21) rfl))) (Or.inr (hw _ (List.mem_of_getElem? (i := 20) rfl))) (by decide) (t := .byte) (t' := (.array .byte)) (by decide) (by decide)))
  have u_24 := A_4.other W_13 (Nat.ne_of_gt u_6)
  have u_25 := u_24.other W_18 (Nat.ne_of_gt u_6)
  have u_26 := M_4.wr W_13
  have u_27 := u_26.wr W_18
  exact ⟨rfl, N_18, by rw [e_18]; exact u_22, by rw [e_18]; exact u_23, b_4, by rw [e_18]; exact u_19, u_8, by rw [e_18]; exact u_25, by rw [e_18]; exact u_27⟩
set_option maxRecDepth 65536 in
set_option maxHeartbeats 40000000 in
theorem rmS5_1 (l : Launch) (Z : State) (a0 : Array Value) (hw : ∀ d ∈ tables_1, d.before a0 Z = true) (a1 a2 : Addr) (c0 : Int32) (cs : Int32) (h0 : Heap) (n0 : Nat) (Z0 : n0 ≤ h0.size) (Scs : Sta Z Z.heap "java/lang/String" "COMPACT_STRINGS" "Z" (.int cs)) (hcs : ¬ (cs = (0 : Int32))) (O0 : Old Z n0 h0) (f : Nat → Value) (A2 : Afn Z h0 a2 .char 1 f) (E1 : Exa Z h0 a1 "java/lang/String") (g1 : n0 ≤ a1) (Fc : Fld Z h0 a1 "java/lang/String" "coder" "B" (.int (0 : Int32))) (Fv : Fld Z h0 a1 "java/lang/String" "value" "[B" .null) (hf0 : f 0 = .int c0) (hc0 : ¬ ((255 : Int32) < c0)) :
    Con l Z (⟨"java/lang/String", "<init>", "([C)V"⟩ : MethodName) jdk_42_method_3_code 2 none ({ frames := 3, cells := 1, slots := 1, locals := 52 } : Room) #[(.ref a1), (.ref a2)] h0 (fun v h L => v = none ∧ Fr n0 L ∧ Keep h0 h [a1] ∧ Fld Z h a1 "java/lang/String" "coder" "B" (.int (0 : Int32)) ∧ ∃ x, Fld Z h a1 "java/lang/String" "value" "[B" (.ref x) ∧ h0.size ≤ x ∧ Afn Z h x .byte 1 (own_bs [c0]) ∧ Exa Z h x "[B") := by
  refine Con.body (plainFor_of_name own_pn0) ?_
  intro pP eE sS mM bB mT cC s₁ hx hby hml hZ hown hnm hret hlk X0 e0
  have hown : sS.vm.findClass "java/lang/String" = some mM.cls := hown
  have hml : cC.maxLocals = 2 := hml
  have N0 := Fr.nil n0
  have ef : entryFrame mM #[(.ref a1), (.ref a2)] 2 = mkF mM 0 #[.val (.ref a1), .val (.ref a2)] [] := by first | (simp [entryFrame, mkF, argsToLocals, Value.category]; done) | rfl
  rw [ef]
  show Goes pP eE bB _ (s₁.setTop (mkF mM 0 #[.val (.ref a1), .val (.ref a2)] []))
  refine Goes.step (fun _ kK => XS.aloadN X0.here hx rfl (hb hby own_d2_0) rfl rfl kK) ?_
  show Goes pP eE bB _ (s₁.setTop (mkF mM 1 #[.val (.ref a1), .val (.ref a2)] [(.ref a1)]))
  refine Goes.step (fun _ kK => XS.aloadN X0.here hx rfl (hb hby own_d2_1) rfl rfl kK) ?_
  show Goes pP eE bB _ (s₁.setTop (mkF mM 2 #[.val (.ref a1), .val (.ref a2)] [(.ref a2), (.ref a1)]))
  refine Goes.step (fun _ kK => XS.iconst X0.here hx rfl (hb hby own_d2_2) kK) ?_
  show Goes pP eE bB _ (s₁.setTop (mkF mM 3 #[.val (.ref a1), .val (.ref a2)] [(.int (0 : Int32)), (.ref a2), (.ref a1)]))
  refine Goes.step (fun _ kK => XS.aloadN X0.here hx rfl (hb hby own_d2_3) rfl rfl kK) ?_
  show Goes pP eE bB _ (s₁.setTop (mkF mM 4 #[.val (.ref a1), .val (.ref a2)] [(.ref a2), (.int (0 : Int32)), (.ref a2), (.ref a1)]))
  refine Goes.alen X0 hx hZ e0 A2 (z := (1 : Int32)) (by decide) (g := (mkF mM 4 #[.val (.ref a1), .val (.ref a2)] [(.ref a2), (.int (0 : Int32)), (.ref a2), (.ref a1)])) rfl rfl (hb hby own_d2_4) ?_
  show Goes pP eE bB _ (s₁.setTop (mkF mM 5 #[.val (.ref a1), .val (.ref a2)] [(.int (1 : Int32)), (.int (0 : Int32)), (.ref a2), (.ref a1)]))
  refine Goes.step (fun _ kK => XS.aconstNull X0.here hx rfl (hb hby own_d2_5) kK) ?_
  show Goes pP eE bB _ (s₁.setTop (mkF mM 6 #[.val (.ref a1), .val (.ref a2)] [.null, (.int (1 : Int32)), (.int (0 : Int32)), (.ref a2), (.ref a1)]))
  refine Goes.callI X0 hx hZ rfl hown (hw _ (List.mem_of_getElem? (i := 11) rfl)) (hw _ (List.mem_of_getElem? (i := 12) rfl)) (hw _ (List.mem_of_getElem? (i := 14) rfl)) (hw _ (List.mem_of_getElem? (i := 7) rfl)) (by decide) e0 (rmS4_1 l Z a0 hw a1 a2 c0 cs h0 n0 Z0 Scs hcs O0 _ A2 E1 g1 Fc Fv hf0 hc0) (W := 0) (by decide) (by decide) (by decide) (by decide) (g := (mkF mM 6 #[.val (.ref a1), .val (.ref a2)] [.null, (.int (1 : Int32)), (.int (0 : Int32)), (.ref a2), (.ref a1)])) rfl (by rw [hml]; rfl) (rest := []) own_pd0 rfl rfl (by show 2 * 0 + _ ≤ _; exact Nat.le_of_eq rfl) (hb hby own_d2_6) ?_
  intro v_1 T_1 L_1 X_1 hQ_1
  generalize e_1 : T_1.heap = h_1 at hQ_1
  obtain ⟨rfl, N_1q, K_1, F_1c, b_1, F_1v, s_1, A_1, M_1⟩ := hQ_1
  have N_1 := Fr.app N0 N_1q
  have u_2 : a2 < b_1 := Nat.lt_of_lt_of_le (A2).lt s_1
  have u_3 : a1 < b_1 := Nat.lt_of_lt_of_le (E1).lt s_1
  have u_4 : n0 ≤ b_1 := Nat.le_trans Z0 s_1
  have u_5 : h0.size ≤ b_1 := Nat.le_trans ((Keep.refl h0 [a1])).1 s_1
  show Goes pP eE bB _ (T_1.setTop (mkF mM 9 #[.val (.ref a1), .val (.ref a2)] []))
  refine Goes.ret0 X_1 hx hlk hret (hb hby own_d2_9) (by decide) (by decide) ?_
  have u_6 := (Keep.refl h0 [a1]).trans K_1 (allS (Or.inl (List.mem_of_getElem? (i := 0) rfl)) all0)
  exact ⟨rfl, N_1, by rw [e_1]; exact u_6, by rw [e_1]; exact F_1c, b_1, by rw [e_1]; exact F_1v, u_5, by rw [e_1]; exact A_1, by rw [e_1]; exact M_1⟩
set_option maxRecDepth 65536 in
set_option maxHeartbeats 40000000 in
theorem rmS2_2 (l : Launch) (Z : State) (a0 : Array Value) (hw : ∀ d ∈ tables_1, d.before a0 Z = true) (a1 a3 : Addr) (c0 c1 : Int32) (h0 : Heap) (n0 : Nat) (Z0 : n0 ≤ h0.size) (f fb : Nat → Value) (A1 : Afn Z h0 a1 .char 2 f) (A3 : Afn Z h0 a3 .byte 2 fb) (g3 : n0 ≤ a3) (d13 : a1 ≠ a3) (hf0 : f 0 = .int c0) (hf1 : f 1 = .int c1) (hc0 : ¬ ((255 : Int32) < c0)) (hc1 : ¬ ((255 : Int32) < c1)) :
    Con l Z (⟨"java/lang/StringUTF16", "compress", "([CI[BII)I"⟩ : MethodName) jdk_52_method_21_code 7 (some .int) ({ frames := 0, cells := 0, slots := 0, locals := 0 } : Room) #[(.ref a1), (.int (0 : Int32)), (.ref a3), (.int (0 : Int32)), (.int (2 : Int32))] h0 (fun v h L => v = some (.int (2 : Int32)) ∧ Fr n0 L ∧ Keep h0 h [a3] ∧ Afn Z h a3 .byte 2 (own_bs [c0, c1])) := by
  refine Con.body (plainFor_of_name own_pn1) ?_
  intro pP eE sS mM bB mT cC s₁ hx hby hml hZ hown hnm hret hlk X0 e0
  have hown : sS.vm.findClass "java/lang/StringUTF16" = some mM.cls := hown
  have hml : cC.maxLocals = 7 := hml
  have N0 := Fr.nil n0
  have ef : entryFrame mM #[(.ref a1), (.int (0 : Int32)), (.ref a3), (.int (0 : Int32)), (.int (2 : Int32))] 7 = mkF mM 0 #[.val (.ref a1), .val (.int (0 : Int32)), .val (.ref a3), .val (.int (0 : Int32)), .val (.int (2 : Int32)), .unset, .unset] [] := by first | (simp [entryFrame, mkF, argsToLocals, Value.category]; done) | rfl
  rw [ef]
  show Goes pP eE bB _ (s₁.setTop (mkF mM 0 #[.val (.ref a1), .val (.int (0 : Int32)), .val (.ref a3), .val (.int (0 : Int32)), .val (.int (2 : Int32)), .unset, .unset] []))
  refine Goes.step (fun _ kK => XS.iconst X0.here hx rfl (hb hby own_d17_0) kK) ?_
  show Goes pP eE bB _ (s₁.setTop (mkF mM 1 #[.val (.ref a1), .val (.int (0 : Int32)), .val (.ref a3), .val (.int (0 : Int32)), .val (.int (2 : Int32)), .unset, .unset] [(.int (0 : Int32))]))
  refine Goes.step (fun _ kK => XS.istore X0.here hx rfl (hb hby own_d17_1) rfl (l' := #[.val (.ref a1), .val (.int (0 : Int32)), .val (.ref a3), .val (.int (0 : Int32)), .val (.int (2 : Int32)), .val (.int (0 : Int32)), .unset]) rfl kK) ?_
  show Goes pP eE bB _ (s₁.setTop (mkF mM 3 #[.val (.ref a1), .val (.int (0 : Int32)), .val (.ref a3), .val (.int (0 : Int32)), .val (.int (2 : Int32)), .val (.int (0 : Int32)), .unset] []))
  refine Goes.step (fun _ kK => XS.iload X0.here hx rfl (hb hby own_d17_3) rfl kK) ?_
  show Goes pP eE bB _ (s₁.setTop (mkF mM 5 #[.val (.ref a1), .val (.int (0 : Int32)), .val (.ref a3), .val (.int (0 : Int32)), .val (.int (2 : Int32)), .val (.int (0 : Int32)), .unset] [(.int (0 : Int32))]))
  refine Goes.step (fun _ kK => XS.iload X0.here hx rfl (hb hby own_d17_5) rfl kK) ?_
  show Goes pP eE bB _ (s₁.setTop (mkF mM 7 #[.val (.ref a1), .val (.int (0 : Int32)), .val (.ref a3), .val (.int (0 : Int32)), .val (.int (2 : Int32)), .val (.int (0 : Int32)), .unset] [(.int (2 : Int32)), (.int (0 : Int32))]))
  refine Goes.step (fun _ kK => XS.icmpNo X0.here hx rfl (hb hby own_d17_7) rfl (tlt (by decide)).2.1 kK) ?_
  show Goes pP eE bB _ (s₁.setTop (mkF mM 10 #[.val (.ref a1), .val (.int (0 : Int32)), .val (.ref a3), .val (.int (0 : Int32)), .val (.int (2 : Int32)), .val (.int (0 : Int32)), .unset] []))
  refine Goes.step (fun _ kK => XS.aloadN X0.here hx rfl (hb hby own_d17_10) rfl rfl kK) ?_
  show Goes pP eE bB _ (s₁.setTop (mkF mM 11 #[.val (.ref a1), .val (.int (0 : Int32)), .val (.ref a3), .val (.int (0 : Int32)), .val (.int (2 : Int32)), .val (.int (0 : Int32)), .unset] [(.ref a1)]))
  refine Goes.step (fun _ kK => XS.iloadN X0.here hx rfl (hb hby own_d17_11) rfl kK) ?_
  show Goes pP eE bB _ (s₁.setTop (mkF mM 12 #[.val (.ref a1), .val (.int (0 : Int32)), .val (.ref a3), .val (.int (0 : Int32)), .val (.int (2 : Int32)), .val (.int (0 : Int32)), .unset] [(.int (0 : Int32)), (.ref a1)]))
  refine Goes.caload X0 hx hZ e0 A1 (i := 0) (by decide) (by decide) hf0 (g := (mkF mM 12 #[.val (.ref a1), .val (.int (0 : Int32)), .val (.ref a3), .val (.int (0 : Int32)), .val (.int (2 : Int32)), .val (.int (0 : Int32)), .unset] [(.int (0 : Int32)), (.ref a1)])) rfl rfl (hb hby own_d17_12) ?_
  show Goes pP eE bB _ (s₁.setTop (mkF mM 13 #[.val (.ref a1), .val (.int (0 : Int32)), .val (.ref a3), .val (.int (0 : Int32)), .val (.int (2 : Int32)), .val (.int (0 : Int32)), .unset] [(.int c0)]))
  refine Goes.step (fun _ kK => XS.istore X0.here hx rfl (hb hby own_d17_13) rfl (l' := #[.val (.ref a1), .val (.int (0 : Int32)), .val (.ref a3), .val (.int (0 : Int32)), .val (.int (2 : Int32)), .val (.int (0 : Int32)), .val (.int c0)]) rfl kK) ?_
  show Goes pP eE bB _ (s₁.setTop (mkF mM 15 #[.val (.ref a1), .val (.int (0 : Int32)), .val (.ref a3), .val (.int (0 : Int32)), .val (.int (2 : Int32)), .val (.int (0 : Int32)), .val (.int c0)] []))
  refine Goes.step (fun _ kK => XS.iload X0.here hx rfl (hb hby own_d17_15) rfl kK) ?_
  show Goes pP eE bB _ (s₁.setTop (mkF mM 17 #[.val (.ref a1), .val (.int (0 : Int32)), .val (.ref a3), .val (.int (0 : Int32)), .val (.int (2 : Int32)), .val (.int (0 : Int32)), .val (.int c0)] [(.int c0)]))
  refine Goes.step (fun _ kK => XS.sipush X0.here hx rfl (hb hby own_d17_17) kK) ?_
  show Goes pP eE bB _ (s₁.setTop (mkF mM 20 #[.val (.ref a1), .val (.int (0 : Int32)), .val (.ref a3), .val (.int (0 : Int32)), .val (.int (2 : Int32)), .val (.int (0 : Int32)), .val (.int c0)] [(.int (255 : Int32)), (.int c0)]))
  have hb_1 : ¬ ((255 : Int32) < c0) := hc0
  refine Goes.step (fun _ kK => XS.icmpYes X0.here hx rfl (pc0 := 20) (pc' := 26) rfl (hb hby own_d17_20) rfl (flt hb_1).2.2.2 (by decide) (by decide) kK) ?_
  show Goes pP eE bB _ (s₁.setTop (mkF mM 26 #[.val (.ref a1), .val (.int (0 : Int32)), .val (.ref a3), .val (.int (0 : Int32)), .val (.int (2 : Int32)), .val (.int (0 : Int32)), .val (.int c0)] []))
  refine Goes.step (fun _ kK => XS.aloadN X0.here hx rfl (hb hby own_d17_26) rfl rfl kK) ?_
  show Goes pP eE bB _ (s₁.setTop (mkF mM 27 #[.val (.ref a1), .val (.int (0 : Int32)), .val (.ref a3), .val (.int (0 : Int32)), .val (.int (2 : Int32)), .val (.int (0 : Int32)), .val (.int c0)] [(.ref a3)]))
  refine Goes.step (fun _ kK => XS.iloadN X0.here hx rfl (hb hby own_d17_27) rfl kK) ?_
  show Goes pP eE bB _ (s₁.setTop (mkF mM 28 #[.val (.ref a1), .val (.int (0 : Int32)), .val (.ref a3), .val (.int (0 : Int32)), .val (.int (2 : Int32)), .val (.int (0 : Int32)), .val (.int c0)] [(.int (0 : Int32)), (.ref a3)]))
  refine Goes.step (fun _ kK => XS.iload X0.here hx rfl (hb hby own_d17_28) rfl kK) ?_
  show Goes pP eE bB _ (s₁.setTop (mkF mM 30 #[.val (.ref a1), .val (.int (0 : Int32)), .val (.ref a3), .val (.int (0 : Int32)), .val (.int (2 : Int32)), .val (.int (0 : Int32)), .val (.int c0)] [(.int c0), (.int (0 : Int32)), (.ref a3)]))
  refine Goes.step (fun _ kK => XS.i2b X0.here hx rfl (hb hby own_d17_30) rfl kK) ?_
  show Goes pP eE bB _ (s₁.setTop (mkF mM 31 #[.val (.ref a1), .val (.int (0 : Int32)), .val (.ref a3), .val (.int (0 : Int32)), .val (.int (2 : Int32)), .val (.int (0 : Int32)), .val (.int c0)] [(.int (c0.toInt8.toInt32)), (.int (0 : Int32)), (.ref a3)]))
  refine Goes.bastore X0 hx hZ e0 A3 (i := 0) (by decide) (by decide) (g := (mkF mM 31 #[.val (.ref a1), .val (.int (0 : Int32)), .val (.ref a3), .val (.int (0 : Int32)), .val (.int (2 : Int32)), .val (.int (0 : Int32)), .val (.int c0)] [(.int (c0.toInt8.toInt32)), (.int (0 : Int32)), (.ref a3)])) rfl rfl (hb hby own_d17_31) ?_
  intro T_2 h_2 X_2 e_2 W_2 A_2
  have N_2 := Fr.snoc X_2 N0 g3
  show Goes pP eE bB _ (T_2.setTop (mkF mM 32 #[.val (.ref a1), .val (.int (0 : Int32)), .val (.ref a3), .val (.int (0 : Int32)), .val (.int (2 : Int32)), .val (.int (0 : Int32)), .val (.int c0)] []))
  refine Goes.step (fun _ kK => XS.iinc X_2.here hx rfl (hb hby own_d17_32) rfl (l' := #[.val (.ref a1), .val (.int ((0 : Int32) + (1 : Int32))), .val (.ref a3), .val (.int (0 : Int32)), .val (.int (2 : Int32)), .val (.int (0 : Int32)), .val (.int c0)]) rfl kK) ?_
  show Goes pP eE bB _ (T_2.setTop (mkF mM 35 #[.val (.ref a1), .val (.int ((0 : Int32) + (1 : Int32))), .val (.ref a3), .val (.int (0 : Int32)), .val (.int (2 : Int32)), .val (.int (0 : Int32)), .val (.int c0)] []))
  refine Goes.step (fun _ kK => XS.iinc X_2.here hx rfl (hb hby own_d17_35) rfl (l' := #[.val (.ref a1), .val (.int ((0 : Int32) + (1 : Int32))), .val (.ref a3), .val (.int ((0 : Int32) + (1 : Int32))), .val (.int (2 : Int32)), .val (.int (0 : Int32)), .val (.int c0)]) rfl kK) ?_
  show Goes pP eE bB _ (T_2.setTop (mkF mM 38 #[.val (.ref a1), .val (.int ((0 : Int32) + (1 : Int32))), .val (.ref a3), .val (.int ((0 : Int32) + (1 : Int32))), .val (.int (2 : Int32)), .val (.int (0 : Int32)), .val (.int c0)] []))
  refine Goes.step (fun _ kK => XS.iinc X_2.here hx rfl (hb hby own_d17_38) rfl (l' := #[.val (.ref a1), .val (.int ((0 : Int32) + (1 : Int32))), .val (.ref a3), .val (.int ((0 : Int32) + (1 : Int32))), .val (.int (2 : Int32)), .val (.int ((0 : Int32) + (1 : Int32))), .val (.int c0)]) rfl kK) ?_
  show Goes pP eE bB _ (T_2.setTop (mkF mM 41 #[.val (.ref a1), .val (.int ((0 : Int32) + (1 : Int32))), .val (.ref a3), .val (.int ((0 : Int32) + (1 : Int32))), .val (.int (2 : Int32)), .val (.int ((0 : Int32) + (1 : Int32))), .val (.int c0)] []))
  refine Goes.step (fun _ kK => XS.goto X_2.here hx rfl (pc0 := 41) (pc' := 3) rfl (hb hby own_d17_41) (by decide) (by decide) kK) ?_
  show Goes pP eE bB _ (T_2.setTop (mkF mM 3 #[.val (.ref a1), .val (.int ((0 : Int32) + (1 : Int32))), .val (.ref a3), .val (.int ((0 : Int32) + (1 : Int32))), .val (.int (2 : Int32)), .val (.int ((0 : Int32) + (1 : Int32))), .val (.int c0)] []))
  refine Goes.step (fun _ kK => XS.iload X_2.here hx rfl (hb hby own_d17_3) rfl kK) ?_
  show Goes pP eE bB _ (T_2.setTop (mkF mM 5 #[.val (.ref a1), .val (.int ((0 : Int32) + (1 : Int32))), .val (.ref a3), .val (.int ((0 : Int32) + (1 : Int32))), .val (.int (2 : Int32)), .val (.int ((0 : Int32) + (1 : Int32))), .val (.int c0)] [(.int ((0 : Int32) + (1 : Int32)))]))
  refine Goes.step (fun _ kK => XS.iload X_2.here hx rfl (hb hby own_d17_5) rfl kK) ?_
  show Goes pP eE bB _ (T_2.setTop (mkF mM 7 #[.val (.ref a1), .val (.int ((0 : Int32) + (1 : Int32))), .val (.ref a3), .val (.int ((0 : Int32) + (1 : Int32))), .val (.int (2 : Int32)), .val (.int ((0 : Int32) + (1 : Int32))), .val (.int c0)] [(.int (2 : Int32)), (.int ((0 : Int32) + (1 : Int32)))]))
  refine Goes.step (fun _ kK => XS.icmpNo X_2.here hx rfl (hb hby own_d17_7) rfl (tlt (by decide)).2.1 kK) ?_
  show Goes pP eE bB _ (T_2.setTop (mkF mM 10 #[.val (.ref a1), .val (.int ((0 : Int32) + (1 : Int32))), .val (.ref a3), .val (.int ((0 : Int32) + (1 : Int32))), .val (.int (2 : Int32)), .val (.int ((0 : Int32) + (1 : Int32))), .val (.int c0)] []))
  refine Goes.step (fun _ kK => XS.aloadN X_2.here hx rfl (hb hby own_d17_10) rfl rfl kK) ?_
  show Goes pP eE bB _ (T_2.setTop (mkF mM 11 #[.val (.ref a1), .val (.int ((0 : Int32) + (1 : Int32))), .val (.ref a3), .val (.int ((0 : Int32) + (1 : Int32))), .val (.int (2 : Int32)), .val (.int ((0 : Int32) + (1 : Int32))), .val (.int c0)] [(.ref a1)]))
  refine Goes.step (fun _ kK => XS.iloadN X_2.here hx rfl (hb hby own_d17_11) rfl kK) ?_
  show Goes pP eE bB _ (T_2.setTop (mkF mM 12 #[.val (.ref a1), .val (.int ((0 : Int32) + (1 : Int32))), .val (.ref a3), .val (.int ((0 : Int32) + (1 : Int32))), .val (.int (2 : Int32)), .val (.int ((0 : Int32) + (1 : Int32))), .val (.int c0)] [(.int ((0 : Int32) + (1 : Int32))), (.ref a1)]))
  have u_3 := A1.other W_2 d13
  refine Goes.caload X_2 hx hZ e_2 u_3 (i := 1) (by decide) (by decide) hf1 (g := (mkF mM 12 #[.val (.ref a1), .val (.int ((0 : Int32) + (1 : Int32))), .val (.ref a3), .val (.int ((0 : Int32) + (1 : Int32))), .val (.int (2 : Int32)), .val (.int ((0 : Int32) + (1 : Int32))), .val (.int c0)] [(.int ((0 : Int32) + (1 : Int32))), (.ref a1)])) rfl rfl (hb hby own_d17_12) ?_
  show Goes pP eE bB _ (T_2.setTop (mkF mM 13 #[.val (.ref a1), .val (.int ((0 : Int32) + (1 : Int32))), .val (.ref a3), .val (.int ((0 : Int32) + (1 : Int32))), .val (.int (2 : Int32)), .val (.int ((0 : Int32) + (1 : Int32))), .val (.int c0)] [(.int c1)]))
  refine Goes.step (fun _ kK => XS.istore X_2.here hx rfl (hb hby own_d17_13) rfl (l' := #[.val (.ref a1), .val (.int ((0 : Int32) + (1 : Int32))), .val (.ref a3), .val (.int ((0 : Int32) + (1 : Int32))), .val (.int (2 : Int32)), .val (.int ((0 : Int32) + (1 : Int32))), .val (.int c1)]) rfl kK) ?_
  show Goes pP eE bB _ (T_2.setTop (mkF mM 15 #[.val (.ref a1), .val (.int ((0 : Int32) + (1 : Int32))), .val (.ref a3), .val (.int ((0 : Int32) + (1 : Int32))), .val (.int (2 : Int32)), .val (.int ((0 : Int32) + (1 : Int32))), .val (.int c1)] []))
  refine Goes.step (fun _ kK => XS.iload X_2.here hx rfl (hb hby own_d17_15) rfl kK) ?_
  show Goes pP eE bB _ (T_2.setTop (mkF mM 17 #[.val (.ref a1), .val (.int ((0 : Int32) + (1 : Int32))), .val (.ref a3), .val (.int ((0 : Int32) + (1 : Int32))), .val (.int (2 : Int32)), .val (.int ((0 : Int32) + (1 : Int32))), .val (.int c1)] [(.int c1)]))
  refine Goes.step (fun _ kK => XS.sipush X_2.here hx rfl (hb hby own_d17_17) kK) ?_
  show Goes pP eE bB _ (T_2.setTop (mkF mM 20 #[.val (.ref a1), .val (.int ((0 : Int32) + (1 : Int32))), .val (.ref a3), .val (.int ((0 : Int32) + (1 : Int32))), .val (.int (2 : Int32)), .val (.int ((0 : Int32) + (1 : Int32))), .val (.int c1)] [(.int (255 : Int32)), (.int c1)]))
  have hb_4 : ¬ ((255 : Int32) < c1) := hc1
  refine Goes.step (fun _ kK => XS.icmpYes X_2.here hx rfl (pc0 := 20) (pc' := 26) rfl (hb hby own_d17_20) rfl (flt hb_4).2.2.2 (by decide) (by decide) kK) ?_
  show Goes pP eE bB _ (T_2.setTop (mkF mM 26 #[.val (.ref a1), .val (.int ((0 : Int32) + (1 : Int32))), .val (.ref a3), .val (.int ((0 : Int32) + (1 : Int32))), .val (.int (2 : Int32)), .val (.int ((0 : Int32) + (1 : Int32))), .val (.int c1)] []))
  refine Goes.step (fun _ kK => XS.aloadN X_2.here hx rfl (hb hby own_d17_26) rfl rfl kK) ?_
  show Goes pP eE bB _ (T_2.setTop (mkF mM 27 #[.val (.ref a1), .val (.int ((0 : Int32) + (1 : Int32))), .val (.ref a3), .val (.int ((0 : Int32) + (1 : Int32))), .val (.int (2 : Int32)), .val (.int ((0 : Int32) + (1 : Int32))), .val (.int c1)] [(.ref a3)]))
  refine Goes.step (fun _ kK => XS.iloadN X_2.here hx rfl (hb hby own_d17_27) rfl kK) ?_
  show Goes pP eE bB _ (T_2.setTop (mkF mM 28 #[.val (.ref a1), .val (.int ((0 : Int32) + (1 : Int32))), .val (.ref a3), .val (.int ((0 : Int32) + (1 : Int32))), .val (.int (2 : Int32)), .val (.int ((0 : Int32) + (1 : Int32))), .val (.int c1)] [(.int ((0 : Int32) + (1 : Int32))), (.ref a3)]))
  refine Goes.step (fun _ kK => XS.iload X_2.here hx rfl (hb hby own_d17_28) rfl kK) ?_
  show Goes pP eE bB _ (T_2.setTop (mkF mM 30 #[.val (.ref a1), .val (.int ((0 : Int32) + (1 : Int32))), .val (.ref a3), .val (.int ((0 : Int32) + (1 : Int32))), .val (.int (2 : Int32)), .val (.int ((0 : Int32) + (1 : Int32))), .val (.int c1)] [(.int c1), (.int ((0 : Int32) + (1 : Int32))), (.ref a3)]))
  refine Goes.step (fun _ kK => XS.i2b X_2.here hx rfl (hb hby own_d17_30) rfl kK) ?_
  show Goes pP eE bB _ (T_2.setTop (mkF mM 31 #[.val (.ref a1), .val (.int ((0 : Int32) + (1 : Int32))), .val (.ref a3), .val (.int ((0 : Int32) + (1 : Int32))), .val (.int (2 : Int32)), .val (.int ((0 : Int32) + (1 : Int32))), .val (.int c1)] [(.int (c1.toInt8.toInt32)), (.int ((0 : Int32) + (1 : Int32))), (.ref a3)]))
  refine Goes.bastore X_2 hx hZ e_2 A_2 (i := 1) (by decide) (by decide) (g := (mkF mM 31 #[.val (.ref a1), .val (.int ((0 : Int32) + (1 : Int32))), .val (.ref a3), .val (.int ((0 : Int32) + (1 : Int32))), .val (.int (2 : Int32)), .val (.int ((0 : Int32) + (1 : Int32))), .val (.int c1)] [(.int (c1.toInt8.toInt32)), (.int ((0 : Int32) + (1 : Int32))), (.ref a3)])) rfl rfl (hb hby own_d17_31) ?_
  intro T_5 h_5 X_5 e_5 W_5 A_5
  have N_5 := Fr.snoc X_5 N_2 g3
  show Goes pP eE bB _ (T_5.setTop (mkF mM 32 #[.val (.ref a1), .val (.int ((0 : Int32) + (1 : Int32))), .val (.ref a3), .val (.int ((0 : Int32) + (1 : Int32))), .val (.int (2 : Int32)), .val (.int ((0 : Int32) + (1 : Int32))), .val (.int c1)] []))
  refine Goes.step (fun _ kK => XS.iinc X_5.here hx rfl (hb hby own_d17_32) rfl (l' := #[.val (.ref a1), .val (.int (((0 : Int32) + (1 : Int32)) + (1 : Int32))), .val (.ref a3), .val (.int ((0 : Int32) + (1 : Int32))), .val (.int (2 : Int32)), .val (.int ((0 : Int32) + (1 : Int32))), .val (.int c1)]) rfl kK) ?_
  show Goes pP eE bB _ (T_5.setTop (mkF mM 35 #[.val (.ref a1), .val (.int (((0 : Int32) + (1 : Int32)) + (1 : Int32))), .val (.ref a3), .val (.int ((0 : Int32) + (1 : Int32))), .val (.int (2 : Int32)), .val (.int ((0 : Int32) + (1 : Int32))), .val (.int c1)] []))
  refine Goes.step (fun _ kK => XS.iinc X_5.here hx rfl (hb hby own_d17_35) rfl (l' := #[.val (.ref a1), .val (.int (((0 : Int32) + (1 : Int32)) + (1 : Int32))), .val (.ref a3), .val (.int (((0 : Int32) + (1 : Int32)) + (1 : Int32))), .val (.int (2 : Int32)), .val (.int ((0 : Int32) + (1 : Int32))), .val (.int c1)]) rfl kK) ?_
  show Goes pP eE bB _ (T_5.setTop (mkF mM 38 #[.val (.ref a1), .val (.int (((0 : Int32) + (1 : Int32)) + (1 : Int32))), .val (.ref a3), .val (.int (((0 : Int32) + (1 : Int32)) + (1 : Int32))), .val (.int (2 : Int32)), .val (.int ((0 : Int32) + (1 : Int32))), .val (.int c1)] []))
  refine Goes.step (fun _ kK => XS.iinc X_5.here hx rfl (hb hby own_d17_38) rfl (l' := #[.val (.ref a1), .val (.int (((0 : Int32) + (1 : Int32)) + (1 : Int32))), .val (.ref a3), .val (.int (((0 : Int32) + (1 : Int32)) + (1 : Int32))), .val (.int (2 : Int32)), .val (.int (((0 : Int32) + (1 : Int32)) + (1 : Int32))), .val (.int c1)]) rfl kK) ?_
  show Goes pP eE bB _ (T_5.setTop (mkF mM 41 #[.val (.ref a1), .val (.int (((0 : Int32) + (1 : Int32)) + (1 : Int32))), .val (.ref a3), .val (.int (((0 : Int32) + (1 : Int32)) + (1 : Int32))), .val (.int (2 : Int32)), .val (.int (((0 : Int32) + (1 : Int32)) + (1 : Int32))), .val (.int c1)] []))
  refine Goes.step (fun _ kK => XS.goto X_5.here hx rfl (pc0 := 41) (pc' := 3) rfl (hb hby own_d17_41) (by decide) (by decide) kK) ?_
  show Goes pP eE bB _ (T_5.setTop (mkF mM 3 #[.val (.ref a1), .val (.int (((0 : Int32) + (1 : Int32)) + (1 : Int32))), .val (.ref a3), .val (.int (((0 : Int32) + (1 : Int32)) + (1 : Int32))), .val (.int (2 : Int32)), .val (.int (((0 : Int32) + (1 : Int32)) + (1 : Int32))), .val (.int c1)] []))
  refine Goes.step (fun _ kK => XS.iload X_5.here hx rfl (hb hby own_d17_3) rfl kK) ?_
  show Goes pP eE bB _ (T_5.setTop (mkF mM 5 #[.val (.ref a1), .val (.int (((0 : Int32) + (1 : Int32)) + (1 : Int32))), .val (.ref a3), .val (.int (((0 : Int32) + (1 : Int32)) + (1 : Int32))), .val (.int (2 : Int32)), .val (.int (((0 : Int32) + (1 : Int32)) + (1 : Int32))), .val (.int c1)] [(.int (((0 : Int32) + (1 : Int32)) + (1 : Int32)))]))
  refine Goes.step (fun _ kK => XS.iload X_5.here hx rfl (hb hby own_d17_5) rfl kK) ?_
  show Goes pP eE bB _ (T_5.setTop (mkF mM 7 #[.val (.ref a1), .val (.int (((0 : Int32) + (1 : Int32)) + (1 : Int32))), .val (.ref a3), .val (.int (((0 : Int32) + (1 : Int32)) + (1 : Int32))), .val (.int (2 : Int32)), .val (.int (((0 : Int32) + (1 : Int32)) + (1 : Int32))), .val (.int c1)] [(.int (2 : Int32)), (.int (((0 : Int32) + (1 : Int32)) + (1 : Int32)))]))
  refine Goes.step (fun _ kK => XS.icmpYes X_5.here hx rfl (pc0 := 7) (pc' := 44) rfl (hb hby own_d17_7) rfl (flt (by decide)).2.1 (by decide) (by decide) kK) ?_
  show Goes pP eE bB _ (T_5.setTop (mkF mM 44 #[.val (.ref a1), .val (.int (((0 : Int32) + (1 : Int32)) + (1 : Int32))), .val (.ref a3), .val (.int (((0 : Int32) + (1 : Int32)) + (1 : Int32))), .val (.int (2 : Int32)), .val (.int (((0 : Int32) + (1 : Int32)) + (1 : Int32))), .val (.int c1)] []))
  refine Goes.step (fun _ kK => XS.iload X_5.here hx rfl (hb hby own_d17_44) rfl kK) ?_
  show Goes pP eE bB _ (T_5.setTop (mkF mM 46 #[.val (.ref a1), .val (.int (((0 : Int32) + (1 : Int32)) + (1 : Int32))), .val (.ref a3), .val (.int (((0 : Int32) + (1 : Int32)) + (1 : Int32))), .val (.int (2 : Int32)), .val (.int (((0 : Int32) + (1 : Int32)) + (1 : Int32))), .val (.int c1)] [(.int (2 : Int32))]))
  refine Goes.ret X_5 hx hlk hret rfl (Or.inl ⟨rfl, Or.inl rfl, _, rfl⟩) (hb hby own_d17_46) (by decide) (by decide) ?_
  have u_6 := (Keep.refl h0 [a3]).wr W_2 (Or.inl (List.mem_of_getElem? (i := 0) rfl))
  have u_7 := u_6.wr W_5 (Or.inl (List.mem_of_getElem? (i := 0) rfl))
  exact ⟨rfl, N_5, by rw [e_5]; exact u_7, by rw [e_5]; exact (A_5).congr (fun i hi => by rcases (show i = 0 ∨ i = 1 by omega) with rfl | rfl <;> simp [own_bs])⟩
set_option maxRecDepth 65536 in
set_option maxHeartbeats 40000000 in
theorem rmS1_2 (l : Launch) (Z : State) (a0 : Array Value) (hw : ∀ d ∈ tables_1, d.before a0 Z = true) (a1 : Addr) (c0 c1 : Int32) (h0 : Heap) (n0 : Nat) (Z0 : n0 ≤ h0.size) (f : Nat → Value) (A1 : Afn Z h0 a1 .char 2 f) (hf0 : f 0 = .int c0) (hf1 : f 1 = .int c1) (hc0 : ¬ ((255 : Int32) < c0)) (hc1 : ¬ ((255 : Int32) < c1)) :
    Con l Z (⟨"java/lang/StringUTF16", "compress", "([CII)[B"⟩ : MethodName) jdk_52_method_16_code 6 (some (.array .byte)) ({ frames := 1, cells := 1, slots := 2, locals := 18 } : Room) #[(.ref a1), (.int (0 : Int32)), (.int (2 : Int32))] h0 (fun v h L => ∃ x, v = some (.ref x) ∧ Fr n0 L ∧ Keep h0 h [] ∧ h0.size ≤ x ∧ Afn Z h x .byte 2 (own_bs [c0, c1]) ∧ Exa Z h x "[B") := by
  refine Con.body (plainFor_of_name own_pn1) ?_
  intro pP eE sS mM bB mT cC s₁ hx hby hml hZ hown hnm hret hlk X0 e0
  have hown : sS.vm.findClass "java/lang/StringUTF16" = some mM.cls := hown
  have hml : cC.maxLocals = 6 := hml
  have N0 := Fr.nil n0
  have ef : entryFrame mM #[(.ref a1), (.int (0 : Int32)), (.int (2 : Int32))] 6 = mkF mM 0 #[.val (.ref a1), .val (.int (0 : Int32)), .val (.int (2 : Int32)), .unset, .unset, .unset] [] := by first | (simp [entryFrame, mkF, argsToLocals, Value.category]; done) | rfl
  rw [ef]
  show Goes pP eE bB _ (s₁.setTop (mkF mM 0 #[.val (.ref a1), .val (.int (0 : Int32)), .val (.int (2 : Int32)), .unset, .unset, .unset] []))
  refine Goes.step (fun _ kK => XS.iloadN X0.here hx rfl (hb hby own_d16_0) rfl kK) ?_
  show Goes pP eE bB _ (s₁.setTop (mkF mM 1 #[.val (.ref a1), .val (.int (0 : Int32)), .val (.int (2 : Int32)), .unset, .unset, .unset] [(.int (2 : Int32))]))
  obtain ⟨T_1, h_1, k_1, X_1, e_1, E_1, A_1, M_1, st_1⟩ := newPE X0 hx hZ (hw _ (List.mem_of_getElem? (i := 19) rfl)) e0 (g := (mkF mM 1 #[.val (.ref a1), .val (.int (0 : Int32)), .val (.int (2 : Int32)), .unset, .unset, .unset] [(.int (2 : Int32))])) rfl (hb hby own_d16_1) rfl (by decide) (cap := 2) (by decide) (by decide) (by decide) (by decide) (ad := "[B") rfl
  obtain ⟨b_1, g_1⟩ : ∃ z, z = h0.size := ⟨_, rfl⟩
  rw [← g_1] at A_1 M_1 st_1
  have u_2 : a1 < b_1 := Nat.lt_of_lt_of_le (A1).lt (Nat.le_of_eq g_1.symm)
  have u_3 : n0 ≤ b_1 := Nat.le_trans Z0 (Nat.le_of_eq g_1.symm)
  have u_4 : h0.size ≤ b_1 := Nat.le_trans ((Keep.refl h0 [])).1 (Nat.le_of_eq g_1.symm)
  have u_5 : Afn Z h_1 b_1 .byte 2 (fun _ => (.int (0 : Int32))) := Afn.new (n := 2) A_1 (by decide)
  refine Goes.step st_1 ?_
  show Goes pP eE bB _ (T_1.setTop (mkF mM 3 #[.val (.ref a1), .val (.int (0 : Int32)), .val (.int (2 : Int32)), .unset, .unset, .unset] [(.ref b_1)]))
  refine Goes.step (fun _ kK => XS.astoreN X_1.here hx rfl (hb hby own_d16_3) rfl rfl (l' := #[.val (.ref a1), .val (.int (0 : Int32)), .val (.int (2 : Int32)), .val (.ref b_1), .unset, .unset]) rfl kK) ?_
  show Goes pP eE bB _ (T_1.setTop (mkF mM 4 #[.val (.ref a1), .val (.int (0 : Int32)), .val (.int (2 : Int32)), .val (.ref b_1), .unset, .unset] []))
  refine Goes.step (fun _ kK => XS.aloadN X_1.here hx rfl (hb hby own_d16_4) rfl rfl kK) ?_
  show Goes pP eE bB _ (T_1.setTop (mkF mM 5 #[.val (.ref a1), .val (.int (0 : Int32)), .val (.int (2 : Int32)), .val (.ref b_1), .unset, .unset] [(.ref a1)]))
  refine Goes.step (fun _ kK => XS.iloadN X_1.here hx rfl (hb hby own_d16_5) rfl kK) ?_
  show Goes pP eE bB _ (T_1.setTop (mkF mM 6 #[.val (.ref a1), .val (.int (0 : Int32)), .val (.int (2 : Int32)), .val (.ref b_1), .unset, .unset] [(.int (0 : Int32)), (.ref a1)]))
  refine Goes.step (fun _ kK => XS.aloadN X_1.here hx rfl (hb hby own_d16_6) rfl rfl kK) ?_
  show Goes pP eE bB _ (T_1.setTop (mkF mM 7 #[.val (.ref a1), .val (.int (0 : Int32)), .val (.int (2 : Int32)), .val (.ref b_1), .unset, .unset] [(.ref b_1), (.int (0 : Int32)), (.ref a1)]))
  refine Goes.step (fun _ kK => XS.iconst X_1.here hx rfl (hb hby own_d16_7) kK) ?_
  show Goes pP eE bB _ (T_1.setTop (mkF mM 8 #[.val (.ref a1), .val (.int (0 : Int32)), .val (.int (2 : Int32)), .val (.ref b_1), .unset, .unset] [(.int (0 : Int32)), (.ref b_1), (.int (0 : Int32)), (.ref a1)]))
  refine Goes.step (fun _ kK => XS.iloadN X_1.here hx rfl (hb hby own_d16_8) rfl kK) ?_
  show Goes pP eE bB _ (T_1.setTop (mkF mM 9 #[.val (.ref a1), .val (.int (0 : Int32)), .val (.int (2 : Int32)), .val (.ref b_1), .unset, .unset] [(.int (2 : Int32)), (.int (0 : Int32)), (.ref b_1), (.int (0 : Int32)), (.ref a1)]))
  have u_6 := Nat.le_trans Z0 E_1.1
  have u_7 := A1.ext E_1
  refine Goes.callS X_1 hx hZ hown (hw _ (List.mem_of_getElem? (i := 93) rfl)) (hw _ (List.mem_of_getElem? (i := 94) rfl)) (hw _ (List.mem_of_getElem? (i := 91) rfl)) (hw _ (List.mem_of_getElem? (i := 95) rfl)) (by decide) e_1 (rmS2_2 l Z a0 hw a1 b_1 c0 c1 h_1 n0 u_6 _ _ u_7 u_5 u_3 (Nat.ne_of_lt u_2) hf0 hf1 hc0 hc1) (W := 0) (by decide) (by decide) (by decide) (by decide) (g := (mkF mM 9 #[.val (.ref a1), .val (.int (0 : Int32)), .val (.int (2 : Int32)), .val (.ref b_1), .unset, .unset] [(.int (2 : Int32)), (.int (0 : Int32)), (.ref b_1), (.int (0 : Int32)), (.ref a1)])) rfl (by rw [hml]; rfl) (rest := []) own_pd1 rfl rfl (by show 2 * 0 + _ ≤ _; exact Nat.le_of_eq rfl) (hb hby own_d16_9) ?_
  intro v_8 T_8 L_8 X_8 hQ_8
  generalize e_8 : T_8.heap = h_8 at hQ_8
  obtain ⟨rfl, N_8q, K_8, A_8⟩ := hQ_8
  have N_8 := Fr.app N0 N_8q
  show Goes pP eE bB _ (T_8.setTop (mkF mM 12 #[.val (.ref a1), .val (.int (0 : Int32)), .val (.int (2 : Int32)), .val (.ref b_1), .unset, .unset] [(.int (2 : Int32))]))
  refine Goes.step (fun _ kK => XS.istore X_8.here hx rfl (hb hby own_d16_12) rfl (l' := #[.val (.ref a1), .val (.int (0 : Int32)), .val (.int (2 : Int32)), .val (.ref b_1), .val (.int (2 : Int32)), .unset]) rfl kK) ?_
  show Goes pP eE bB _ (T_8.setTop (mkF mM 14 #[.val (.ref a1), .val (.int (0 : Int32)), .val (.int (2 : Int32)), .val (.ref b_1), .val (.int (2 : Int32)), .unset] []))
  refine Goes.step (fun _ kK => XS.iload X_8.here hx rfl (hb hby own_d16_14) rfl kK) ?_
  show Goes pP eE bB _ (T_8.setTop (mkF mM 16 #[.val (.ref a1), .val (.int (0 : Int32)), .val (.int (2 : Int32)), .val (.ref b_1), .val (.int (2 : Int32)), .unset] [(.int (2 : Int32))]))
  refine Goes.step (fun _ kK => XS.iloadN X_8.here hx rfl (hb hby own_d16_16) rfl kK) ?_
  show Goes pP eE bB _ (T_8.setTop (mkF mM 17 #[.val (.ref a1), .val (.int (0 : Int32)), .val (.int (2 : Int32)), .val (.ref b_1), .val (.int (2 : Int32)), .unset] [(.int (2 : Int32)), (.int (2 : Int32))]))
  refine Goes.step (fun _ kK => XS.icmpYes X_8.here hx rfl (pc0 := 17) (pc' := 57) rfl (hb hby own_d16_17) rfl (teq (by decide)).1 (by decide) (by decide) kK) ?_
  show Goes pP eE bB _ (T_8.setTop (mkF mM 57 #[.val (.ref a1), .val (.int (0 : Int32)), .val (.int (2 : Int32)), .val (.ref b_1), .val (.int (2 : Int32)), .unset] []))
  refine Goes.step (fun _ kK => XS.aloadN X_8.here hx rfl (hb hby own_d16_57) rfl rfl kK) ?_
  show Goes pP eE bB _ (T_8.setTop (mkF mM 58 #[.val (.ref a1), .val (.int (0 : Int32)), .val (.int (2 : Int32)), .val (.ref b_1), .val (.int (2 : Int32)), .unset] [(.ref b_1)]))
  refine Goes.ret X_8 hx hlk hret rfl (Or.inr (Or.inr (Or.inr (Or.inr ⟨rfl, rfl, rfl⟩)))) (hb hby own_d16_58) (by decide) (by decide) ?_
  have u_9 := (Keep.refl h0 []).ext E_1
  have u_10 := u_9.trans K_8 (allS (Or.inr u_4) all0)
  have u_11 := M_1.keep K_8
  exact ⟨_, rfl, N_8, by rw [e_8]; exact u_10, u_4, by rw [e_8]; exact A_8, by rw [e_8]; exact u_11⟩
set_option maxRecDepth 65536 in
set_option maxHeartbeats 40000000 in
theorem rmS3_2 (l : Launch) (Z : State) (a0 : Array Value) (hw : ∀ d ∈ tables_1, d.before a0 Z = true) (a1 : Addr) (h0 : Heap) (n0 : Nat) (Z0 : n0 ≤ h0.size) (f : Nat → Value) (A1 : Afn Z h0 a1 .byte 2 f) :
    Con l Z (⟨"java/lang/StringUTF16", "coderFromArrayLen", "([BI)B"⟩ : MethodName) jdk_52_method_15_code 2 (some .byte) ({ frames := 0, cells := 0, slots := 0, locals := 0 } : Room) #[(.ref a1), (.int (2 : Int32))] h0 (fun v h L => v = some (.int (0 : Int32)) ∧ Fr n0 L ∧ h = h0) := by
  refine Con.body (plainFor_of_name own_pn1) ?_
  intro pP eE sS mM bB mT cC s₁ hx hby hml hZ hown hnm hret hlk X0 e0
  have hown : sS.vm.findClass "java/lang/StringUTF16" = some mM.cls := hown
  have hml : cC.maxLocals = 2 := hml
  have N0 := Fr.nil n0
  have ef : entryFrame mM #[(.ref a1), (.int (2 : Int32))] 2 = mkF mM 0 #[.val (.ref a1), .val (.int (2 : Int32))] [] := by first | (simp [entryFrame, mkF, argsToLocals, Value.category]; done) | rfl
  rw [ef]
  show Goes pP eE bB _ (s₁.setTop (mkF mM 0 #[.val (.ref a1), .val (.int (2 : Int32))] []))
  refine Goes.step (fun _ kK => XS.iloadN X0.here hx rfl (hb hby own_d18_0) rfl kK) ?_
  show Goes pP eE bB _ (s₁.setTop (mkF mM 1 #[.val (.ref a1), .val (.int (2 : Int32))] [(.int (2 : Int32))]))
  refine Goes.step (fun _ kK => XS.aloadN X0.here hx rfl (hb hby own_d18_1) rfl rfl kK) ?_
  show Goes pP eE bB _ (s₁.setTop (mkF mM 2 #[.val (.ref a1), .val (.int (2 : Int32))] [(.ref a1), (.int (2 : Int32))]))
  refine Goes.alen X0 hx hZ e0 A1 (z := (2 : Int32)) (by decide) (g := (mkF mM 2 #[.val (.ref a1), .val (.int (2 : Int32))] [(.ref a1), (.int (2 : Int32))])) rfl rfl (hb hby own_d18_2) ?_
  show Goes pP eE bB _ (s₁.setTop (mkF mM 3 #[.val (.ref a1), .val (.int (2 : Int32))] [(.int (2 : Int32)), (.int (2 : Int32))]))
  refine Goes.step (fun _ kK => XS.isub X0.here hx rfl (hb hby own_d18_3) rfl kK) ?_
  show Goes pP eE bB _ (s₁.setTop (mkF mM 4 #[.val (.ref a1), .val (.int (2 : Int32))] [(.int ((2 : Int32) - (2 : Int32)))]))
  refine Goes.step (fun _ kK => XS.bipush X0.here hx rfl (hb hby own_d18_4) kK) ?_
  show Goes pP eE bB _ (s₁.setTop (mkF mM 6 #[.val (.ref a1), .val (.int (2 : Int32))] [(.int (31 : Int32)), (.int ((2 : Int32) - (2 : Int32)))]))
  refine Goes.step (fun _ kK => XS.iushr X0.here hx rfl (hb hby own_d18_6) rfl kK) ?_
  show Goes pP eE bB _ (s₁.setTop (mkF mM 7 #[.val (.ref a1), .val (.int (2 : Int32))] [(.int ((((2 : Int32) - (2 : Int32)).toUInt32 >>> ((31 : Int32) &&& 31).toUInt32).toInt32))]))
  refine Goes.step (fun _ kK => XS.i2b X0.here hx rfl (hb hby own_d18_7) rfl kK) ?_
  show Goes pP eE bB _ (s₁.setTop (mkF mM 8 #[.val (.ref a1), .val (.int (2 : Int32))] [(.int (((((2 : Int32) - (2 : Int32)).toUInt32 >>> ((31 : Int32) &&& 31).toUInt32).toInt32).toInt8.toInt32))]))
  refine Goes.retN X0 hx hlk (t := .byte) hret (by simp) (hb hby own_d18_8) (by decide) (by decide) ?_
  exact ⟨rfl, N0, e0⟩
set_option maxRecDepth 65536 in
set_option maxHeartbeats 40000000 in
theorem rmS4_2 (l : Launch) (Z : State) (a0 : Array Value) (hw : ∀ d ∈ tables_1, d.before a0 Z = true) (a1 a2 : Addr) (c0 c1 : Int32) (cs : Int32) (h0 : Heap) (n0 : Nat) (Z0 : n0 ≤ h0.size) (Scs : Sta Z Z.heap "java/lang/String" "COMPACT_STRINGS" "Z" (.int cs)) (hcs : ¬ (cs = (0 : Int32))) (O0 : Old Z n0 h0) (f : Nat → Value) (A2 : Afn Z h0 a2 .char 2 f) (E1 : Exa Z h0 a1 "java/lang/String") (g1 : n0 ≤ a1) (Fc : Fld Z h0 a1 "java/lang/String" "coder" "B" (.int (0 : Int32))) (Fv : Fld Z h0 a1 "java/lang/String" "value" "[B" .null) (hf0 : f 0 = .int c0) (hf1 : f 1 = .int c1) (hc0 : ¬ ((255 : Int32) < c0)) (hc1 : ¬ ((255 : Int32) < c1)) :
    Con l Z (⟨"java/lang/String", "<init>", "([CIILjava/lang/Void;)V"⟩ : MethodName) jdk_42_method_149_code 6 none ({ frames := 2, cells := 1, slots := 2, locals := 35 } : Room) #[(.ref a1), (.ref a2), (.int (0 : Int32)), (.int (2 : Int32)), .null] h0 (fun v h L => v = none ∧ Fr n0 L ∧ Keep h0 h [a1] ∧ Fld Z h a1 "java/lang/String" "coder" "B" (.int (0 : Int32)) ∧ ∃ x, Fld Z h a1 "java/lang/String" "value" "[B" (.ref x) ∧ h0.size ≤ x ∧ Afn Z h x .byte 2 (own_bs [c0, c1]) ∧ Exa Z h x "[B") := by
  refine Con.body (plainFor_of_name own_pn0) ?_
  intro pP eE sS mM bB mT cC s₁ hx hby hml hZ hown hnm hret hlk X0 e0
  have hown : sS.vm.findClass "java/lang/String" = some mM.cls := hown
  have hml : cC.maxLocals = 6 := hml
  have N0 := Fr.nil n0
  have ef : entryFrame mM #[(.ref a1), (.ref a2), (.int (0 : Int32)), (.int (2 : Int32)), .null] 6 = mkF mM 0 #[.val (.ref a1), .val (.ref a2), .val (.int (0 : Int32)), .val (.int (2 : Int32)), .val .null, .unset] [] := by first | (simp [entryFrame, mkF, argsToLocals, Value.category]; done) | rfl
  rw [ef]
  show Goes pP eE bB _ (s₁.setTop (mkF mM 0 #[.val (.ref a1), .val (.ref a2), .val (.int (0 : Int32)), .val (.int (2 : Int32)), .val .null, .unset] []))
  refine Goes.step (fun _ kK => XS.aloadN X0.here hx rfl (hb hby own_d3_0) rfl rfl kK) ?_
  show Goes pP eE bB _ (s₁.setTop (mkF mM 1 #[.val (.ref a1), .val (.ref a2), .val (.int (0 : Int32)), .val (.int (2 : Int32)), .val .null, .unset] [(.ref a1)]))
  obtain ⟨T_1, X_1, e_1, st_1⟩ := initO X0 hx hZ hown (hw _ (List.mem_of_getElem? (i := 15) rfl)) (hw _ (List.mem_of_getElem? (i := 16) rfl)) (hw _ (List.mem_of_getElem? (i := 17) rfl)) e0 (g := (mkF mM 1 #[.val (.ref a1), .val (.ref a2), .val (.int (0 : Int32)), .val (.int (2 : Int32)), .val .null, .unset] [(.ref a1)])) rfl (by rw [hml]; rfl) rfl (hb hby own_d3_1) (by decide) (W := 0) (by show 2 * 0 + _ ≤ _; exact Nat.le_of_eq rfl) (by decide)
  refine Goes.step st_1 ?_
  show Goes pP eE bB _ (T_1.setTop (mkF mM 4 #[.val (.ref a1), .val (.ref a2), .val (.int (0 : Int32)), .val (.int (2 : Int32)), .val .null, .unset] []))
  refine Goes.step (fun _ kK => XS.iloadN X_1.here hx rfl (hb hby own_d3_4) rfl kK) ?_
  show Goes pP eE bB _ (T_1.setTop (mkF mM 5 #[.val (.ref a1), .val (.ref a2), .val (.int (0 : Int32)), .val (.int (2 : Int32)), .val .null, .unset] [(.int (2 : Int32))]))
  refine Goes.step (fun _ kK => XS.ifYes X_1.here hx rfl (pc0 := 5) (pc' := 27) rfl (hb hby own_d3_5) rfl ((if0 _ _).trans (feq (by decide)).2) (by decide) (by decide) kK) ?_
  show Goes pP eE bB _ (T_1.setTop (mkF mM 27 #[.val (.ref a1), .val (.ref a2), .val (.int (0 : Int32)), .val (.int (2 : Int32)), .val .null, .unset] []))
  obtain ⟨T_2, X_2, e_2, st_2⟩ := getS2 X_1 hx hZ hown (host := "") (Or.inl (hw _ (List.mem_of_getElem? (i := 72) rfl))) Via.refl e_1 (Scs.ext O0.2) (g := (mkF mM 27 #[.val (.ref a1), .val (.ref a2), .val (.int (0 : Int32)), .val (.int (2 : Int32)), .val .null, .unset] [])) rfl (hb hby own_d3_27)
  refine Goes.step st_2 ?_
  show Goes pP eE bB _ (T_2.setTop (mkF mM 30 #[.val (.ref a1), .val (.ref a2), .val (.int (0 : Int32)), .val (.int (2 : Int32)), .val .null, .unset] [(.int cs)]))
  have hb_3 : ¬ (cs = (0 : Int32)) := hcs
  refine Goes.step (fun _ kK => XS.ifNo X_2.here hx rfl (hb hby own_d3_30) rfl ((if0 _ _).trans (feq hb_3).1) kK) ?_
  show Goes pP eE bB _ (T_2.setTop (mkF mM 33 #[.val (.ref a1), .val (.ref a2), .val (.int (0 : Int32)), .val (.int (2 : Int32)), .val .null, .unset] []))
  refine Goes.step (fun _ kK => XS.aloadN X_2.here hx rfl (hb hby own_d3_33) rfl rfl kK) ?_
  show Goes pP eE bB _ (T_2.setTop (mkF mM 34 #[.val (.ref a1), .val (.ref a2), .val (.int (0 : Int32)), .val (.int (2 : Int32)), .val .null, .unset] [(.ref a2)]))
  refine Goes.step (fun _ kK => XS.iloadN X_2.here hx rfl (hb hby own_d3_34) rfl kK) ?_
  show Goes pP eE bB _ (T_2.setTop (mkF mM 35 #[.val (.ref a1), .val (.ref a2), .val (.int (0 : Int32)), .val (.int (2 : Int32)), .val .null, .unset] [(.int (0 : Int32)), (.ref a2)]))
  refine Goes.step (fun _ kK => XS.iloadN X_2.here hx rfl (hb hby own_d3_35) rfl kK) ?_
  show Goes pP eE bB _ (T_2.setTop (mkF mM 36 #[.val (.ref a1), .val (.ref a2), .val (.int (0 : Int32)), .val (.int (2 : Int32)), .val .null, .unset] [(.int (2 : Int32)), (.int (0 : Int32)), (.ref a2)]))
  refine Goes.callS X_2 hx hZ hown (hw _ (List.mem_of_getElem? (i := 89) rfl)) (hw _ (List.mem_of_getElem? (i := 90) rfl)) (hw _ (List.mem_of_getElem? (i := 91) rfl)) (hw _ (List.mem_of_getElem? (i := 92) rfl)) (by decide) e_2 (rmS1_2 l Z a0 hw a2 c0 c1 h0 n0 Z0 _ A2 hf0 hf1 hc0 hc1) (W := 0) (by decide) (by decide) (by decide) (by decide) (g := (mkF mM 36 #[.val (.ref a1), .val (.ref a2), .val (.int (0 : Int32)), .val (.int (2 : Int32)), .val .null, .unset] [(.int (2 : Int32)), (.int (0 : Int32)), (.ref a2)])) rfl (by rw [hml]; rfl) (rest := []) own_pd2 rfl rfl (by show 2 * 0 + _ ≤ _; exact Nat.le_of_eq rfl) (hb hby own_d3_36) ?_
  intro v_4 T_4 L_4 X_4 hQ_4
  generalize e_4 : T_4.heap = h_4 at hQ_4
  obtain ⟨b_4, rfl, N_4q, K_4, s_4, A_4, M_4⟩ := hQ_4
  have N_4 := Fr.app N0 N_4q
  have u_5 : a2 < b_4 := Nat.lt_of_lt_of_le (A2).lt s_4
  have u_6 : a1 < b_4 := Nat.lt_of_lt_of_le (E1).lt s_4
  have u_7 : n0 ≤ b_4 := Nat.le_trans Z0 s_4
  have u_8 : h0.size ≤ b_4 := Nat.le_trans ((Keep.refl h0 [a1])).1 s_4
  show Goes pP eE bB _ (T_4.setTop (mkF mM 39 #[.val (.ref a1), .val (.ref a2), .val (.int (0 : Int32)), .val (.int (2 : Int32)), .val .null, .unset] [(.ref b_4)]))
  refine Goes.step (fun _ kK => XS.astore X_4.here hx rfl (hb hby own_d3_39) rfl rfl (l' := #[.val (.ref a1), .val (.ref a2), .val (.int (0 : Int32)), .val (.int (2 : Int32)), .val .null, .val (.ref b_4)]) rfl kK) ?_
  show Goes pP eE bB _ (T_4.setTop (mkF mM 41 #[.val (.ref a1), .val (.ref a2), .val (.int (0 : Int32)), .val (.int (2 : Int32)), .val .null, .val (.ref b_4)] []))
  refine Goes.step (fun _ kK => XS.aloadN X_4.here hx rfl (hb hby own_d3_41) rfl rfl kK) ?_
  show Goes pP eE bB _ (T_4.setTop (mkF mM 42 #[.val (.ref a1), .val (.ref a2), .val (.int (0 : Int32)), .val (.int (2 : Int32)), .val .null, .val (.ref b_4)] [(.ref a1)]))
  refine Goes.step (fun _ kK => XS.aload X_4.here hx rfl (hb hby own_d3_42) rfl rfl kK) ?_
  show Goes pP eE bB _ (T_4.setTop (mkF mM 44 #[.val (.ref a1), .val (.ref a2), .val (.int (0 : Int32)), .val (.int (2 : Int32)), .val .null, .val (.ref b_4)] [(.ref b_4), (.ref a1)]))
  refine Goes.step (fun _ kK => XS.iloadN X_4.here hx rfl (hb hby own_d3_44) rfl kK) ?_
  show Goes pP eE bB _ (T_4.setTop (mkF mM 45 #[.val (.ref a1), .val (.ref a2), .val (.int (0 : Int32)), .val (.int (2 : Int32)), .val .null, .val (.ref b_4)] [(.int (2 : Int32)), (.ref b_4), (.ref a1)]))
  have u_9 := Nat.le_trans Z0 K_4.1
  refine Goes.callS X_4 hx hZ hown (hw _ (List.mem_of_getElem? (i := 96) rfl)) (hw _ (List.mem_of_getElem? (i := 97) rfl)) (hw _ (List.mem_of_getElem? (i := 91) rfl)) (hw _ (List.mem_of_getElem? (i := 98) rfl)) (by decide) e_4 (rmS3_2 l Z a0 hw b_4 h_4 n0 u_9 _ A_4) (W := 1) (by decide) (by decide) (by decide) (by decide) (g := (mkF mM 45 #[.val (.ref a1), .val (.ref a2), .val (.int (0 : Int32)), .val (.int (2 : Int32)), .val .null, .val (.ref b_4)] [(.int (2 : Int32)), (.ref b_4), (.ref a1)])) rfl (by rw [hml]; rfl) (rest := [(.ref a1)]) own_pd3 rfl rfl (by show 2 * 0 + _ ≤ _; exact Nat.le_of_eq rfl) (hb hby own_d3_45) ?_
  intro v_10 T_10 L_10 X_10 hQ_10
  obtain ⟨rfl, N_10q, e_10⟩ := hQ_10
  have N_10 := Fr.app N_4 N_10q
  show Goes pP eE bB _ (T_10.setTop (mkF mM 48 #[.val (.ref a1), .val (.ref a2), .val (.int (0 : Int32)), .val (.int (2 : Int32)), .val .null, .val (.ref b_4)] [(.int (0 : Int32)), (.ref a1)]))
  have u_11 := Fc.keep K_4 nin0
  have u_12 := E1.keep K_4
  obtain ⟨T_13, h_13, X_13, e_13, W_13, st_13⟩ := putF X_10 hx hZ hown (host := "") (Or.inl (hw _ (List.mem_of_getElem? (i := 25) rfl))) Via.refl e_10 u_11 u_12 (Or.inr ⟨(hw _ (List.mem_of_getElem? (i := 21) rfl)), rfl, hnm⟩) (hw _ (List.mem_of_getElem? (i := 6) rfl)) (ty := .byte) (by decide) rfl rfl (g := (mkF mM 48 #[.val (.ref a1), .val (.ref a2), .val (.int (0 : Int32)), .val (.int (2 : Int32)), .val .null, .val (.ref b_4)] [(.int (0 : Int32)), (.ref a1)])) rfl rfl (hb hby own_d3_48)
  have u_14 := u_11.same W_13
  have N_13 := Fr.snoc X_13 N_10 g1
  refine Goes.step st_13 ?_
  show Goes pP eE bB _ (T_13.setTop (mkF mM 51 #[.val (.ref a1), .val (.ref a2), .val (.int (0 : Int32)), .val (.int (2 : Int32)), .val .null, .val (.ref b_4)] []))
  refine Goes.step (fun _ kK => XS.aloadN X_13.here hx rfl (hb hby own_d3_51) rfl rfl kK) ?_
  show Goes pP eE bB _ (T_13.setTop (mkF mM 52 #[.val (.ref a1), .val (.ref a2), .val (.int (0 : Int32)), .val (.int (2 : Int32)), .val .null, .val (.ref b_4)] [(.ref a1)]))
  refine Goes.step (fun _ kK => XS.aload X_13.here hx rfl (hb hby own_d3_52) rfl rfl kK) ?_
  show Goes pP eE bB _ (T_13.setTop (mkF mM 54 #[.val (.ref a1), .val (.ref a2), .val (.int (0 : Int32)), .val (.int (2 : Int32)), .val .null, .val (.ref b_4)] [(.ref b_4), (.ref a1)]))
  have u_15 := Fv.keep K_4 nin0
  have u_16 := u_15.other W_13 (Or.inr (slot_ne (Or.inr (hw _ (List.mem_of_getElem? (i := 20) rfl))) (Or.inr (hw _ (List.mem_of_getElem? (i := 21) rfl))) (by decide) (t := (.array .byte)) (t' := .byte) (by decide) (by decide)))
  have u_17 := u_12.wr W_13
  obtain ⟨T_18, h_18, X_18, e_18, W_18, st_18⟩ := putF X_13 hx hZ hown (host := "") (Or.inl (hw _ (List.mem_of_getElem? (i := 24) rfl))) Via.refl e_13 u_16 u_17 (Or.inr ⟨(hw _ (List.mem_of_getElem? (i := 20) rfl)), rfl, hnm⟩) (hw _ (List.mem_of_getElem? (i := 6) rfl)) (ty := (.array .byte)) (by decide) rfl rfl (g := (mkF mM 54 #[.val (.ref a1), .val (.ref a2), .val (.int (0 : Int32)), .val (.int (2 : Int32)), .val .null, .val (.ref b_4)] [(.ref b_4), (.ref a1)])) rfl rfl (hb hby own_d3_54)
  have u_19 := u_16.same W_18
  have N_18 := Fr.snoc X_18 N_13 g1
  refine Goes.step st_18 ?_
  show Goes pP eE bB _ (T_18.setTop (mkF mM 57 #[.val (.ref a1), .val (.ref a2), .val (.int (0 : Int32)), .val (.int (2 : Int32)), .val .null, .val (.ref b_4)] []))
  refine Goes.ret0 X_18 hx hlk hret (hb hby own_d3_57) (by decide) (by decide) ?_
  have u_20 := (Keep.refl h0 [a1]).trans K_4 all0
  have u_21 := u_20.wr W_13 (Or.inl (List.mem_of_getElem? (i := 0) rfl))
  have u_22 := u_21.wr W_18 (Or.inl (List.mem_of_getElem? (i := 0) rfl))
  have u_23 := u_14.other W_18 (Or.inr (slot_ne (Or.inr (hw _ (List.mem_of_getElem? (i := 21) rfl))) (Or.inr (hw _ (List.mem_of_getElem? (i := 20) rfl))) (by decide) (t := .byte) (t' := (.array .byte)) (by decide) (by decide)))
  have u_24 := A_4.other W_13 (Nat.ne_of_gt u_6)
  have u_25 := u_24.other W_18 (Nat.ne_of_gt u_6)
  have u_26 := M_4.wr W_13
  have u_27 := u_26.wr W_18
  exact ⟨rfl, N_18, by rw [e_18]; exact u_22, by rw [e_18]; exact u_23, b_4, by rw [e_18]; exact u_19, u_8, by rw [e_18]; exact u_25, by rw [e_18]; exact u_27⟩
set_option maxRecDepth 65536 in
set_option maxHeartbeats 40000000 in
theorem rmS5_2 (l : Launch) (Z : State) (a0 : Array Value) (hw : ∀ d ∈ tables_1, d.before a0 Z = true) (a1 a2 : Addr) (c0 c1 : Int32) (cs : Int32) (h0 : Heap) (n0 : Nat) (Z0 : n0 ≤ h0.size) (Scs : Sta Z Z.heap "java/lang/String" "COMPACT_STRINGS" "Z" (.int cs)) (hcs : ¬ (cs = (0 : Int32))) (O0 : Old Z n0 h0) (f : Nat → Value) (A2 : Afn Z h0 a2 .char 2 f) (E1 : Exa Z h0 a1 "java/lang/String") (g1 : n0 ≤ a1) (Fc : Fld Z h0 a1 "java/lang/String" "coder" "B" (.int (0 : Int32))) (Fv : Fld Z h0 a1 "java/lang/String" "value" "[B" .null) (hf0 : f 0 = .int c0) (hf1 : f 1 = .int c1) (hc0 : ¬ ((255 : Int32) < c0)) (hc1 : ¬ ((255 : Int32) < c1)) :
    Con l Z (⟨"java/lang/String", "<init>", "([C)V"⟩ : MethodName) jdk_42_method_3_code 2 none ({ frames := 3, cells := 1, slots := 2, locals := 52 } : Room) #[(.ref a1), (.ref a2)] h0 (fun v h L => v = none ∧ Fr n0 L ∧ Keep h0 h [a1] ∧ Fld Z h a1 "java/lang/String" "coder" "B" (.int (0 : Int32)) ∧ ∃ x, Fld Z h a1 "java/lang/String" "value" "[B" (.ref x) ∧ h0.size ≤ x ∧ Afn Z h x .byte 2 (own_bs [c0, c1]) ∧ Exa Z h x "[B") := by
  refine Con.body (plainFor_of_name own_pn0) ?_
  intro pP eE sS mM bB mT cC s₁ hx hby hml hZ hown hnm hret hlk X0 e0
  have hown : sS.vm.findClass "java/lang/String" = some mM.cls := hown
  have hml : cC.maxLocals = 2 := hml
  have N0 := Fr.nil n0
  have ef : entryFrame mM #[(.ref a1), (.ref a2)] 2 = mkF mM 0 #[.val (.ref a1), .val (.ref a2)] [] := by first | (simp [entryFrame, mkF, argsToLocals, Value.category]; done) | rfl
  rw [ef]
  show Goes pP eE bB _ (s₁.setTop (mkF mM 0 #[.val (.ref a1), .val (.ref a2)] []))
  refine Goes.step (fun _ kK => XS.aloadN X0.here hx rfl (hb hby own_d2_0) rfl rfl kK) ?_
  show Goes pP eE bB _ (s₁.setTop (mkF mM 1 #[.val (.ref a1), .val (.ref a2)] [(.ref a1)]))
  refine Goes.step (fun _ kK => XS.aloadN X0.here hx rfl (hb hby own_d2_1) rfl rfl kK) ?_
  show Goes pP eE bB _ (s₁.setTop (mkF mM 2 #[.val (.ref a1), .val (.ref a2)] [(.ref a2), (.ref a1)]))
  refine Goes.step (fun _ kK => XS.iconst X0.here hx rfl (hb hby own_d2_2) kK) ?_
  show Goes pP eE bB _ (s₁.setTop (mkF mM 3 #[.val (.ref a1), .val (.ref a2)] [(.int (0 : Int32)), (.ref a2), (.ref a1)]))
  refine Goes.step (fun _ kK => XS.aloadN X0.here hx rfl (hb hby own_d2_3) rfl rfl kK) ?_
  show Goes pP eE bB _ (s₁.setTop (mkF mM 4 #[.val (.ref a1), .val (.ref a2)] [(.ref a2), (.int (0 : Int32)), (.ref a2), (.ref a1)]))
  refine Goes.alen X0 hx hZ e0 A2 (z := (2 : Int32)) (by decide) (g := (mkF mM 4 #[.val (.ref a1), .val (.ref a2)] [(.ref a2), (.int (0 : Int32)), (.ref a2), (.ref a1)])) rfl rfl (hb hby own_d2_4) ?_
  show Goes pP eE bB _ (s₁.setTop (mkF mM 5 #[.val (.ref a1), .val (.ref a2)] [(.int (2 : Int32)), (.int (0 : Int32)), (.ref a2), (.ref a1)]))
  refine Goes.step (fun _ kK => XS.aconstNull X0.here hx rfl (hb hby own_d2_5) kK) ?_
  show Goes pP eE bB _ (s₁.setTop (mkF mM 6 #[.val (.ref a1), .val (.ref a2)] [.null, (.int (2 : Int32)), (.int (0 : Int32)), (.ref a2), (.ref a1)]))
  refine Goes.callI X0 hx hZ rfl hown (hw _ (List.mem_of_getElem? (i := 11) rfl)) (hw _ (List.mem_of_getElem? (i := 12) rfl)) (hw _ (List.mem_of_getElem? (i := 14) rfl)) (hw _ (List.mem_of_getElem? (i := 7) rfl)) (by decide) e0 (rmS4_2 l Z a0 hw a1 a2 c0 c1 cs h0 n0 Z0 Scs hcs O0 _ A2 E1 g1 Fc Fv hf0 hf1 hc0 hc1) (W := 0) (by decide) (by decide) (by decide) (by decide) (g := (mkF mM 6 #[.val (.ref a1), .val (.ref a2)] [.null, (.int (2 : Int32)), (.int (0 : Int32)), (.ref a2), (.ref a1)])) rfl (by rw [hml]; rfl) (rest := []) own_pd0 rfl rfl (by show 2 * 0 + _ ≤ _; exact Nat.le_of_eq rfl) (hb hby own_d2_6) ?_
  intro v_1 T_1 L_1 X_1 hQ_1
  generalize e_1 : T_1.heap = h_1 at hQ_1
  obtain ⟨rfl, N_1q, K_1, F_1c, b_1, F_1v, s_1, A_1, M_1⟩ := hQ_1
  have N_1 := Fr.app N0 N_1q
  have u_2 : a2 < b_1 := Nat.lt_of_lt_of_le (A2).lt s_1
  have u_3 : a1 < b_1 := Nat.lt_of_lt_of_le (E1).lt s_1
  have u_4 : n0 ≤ b_1 := Nat.le_trans Z0 s_1
  have u_5 : h0.size ≤ b_1 := Nat.le_trans ((Keep.refl h0 [a1])).1 s_1
  show Goes pP eE bB _ (T_1.setTop (mkF mM 9 #[.val (.ref a1), .val (.ref a2)] []))
  refine Goes.ret0 X_1 hx hlk hret (hb hby own_d2_9) (by decide) (by decide) ?_
  have u_6 := (Keep.refl h0 [a1]).trans K_1 (allS (Or.inl (List.mem_of_getElem? (i := 0) rfl)) all0)
  exact ⟨rfl, N_1, by rw [e_1]; exact u_6, by rw [e_1]; exact F_1c, b_1, by rw [e_1]; exact F_1v, u_5, by rw [e_1]; exact A_1, by rw [e_1]; exact M_1⟩
set_option maxRecDepth 65536 in
set_option maxHeartbeats 40000000 in
theorem rmS2_3 (l : Launch) (Z : State) (a0 : Array Value) (hw : ∀ d ∈ tables_1, d.before a0 Z = true) (a1 a3 : Addr) (c0 c1 c2 : Int32) (h0 : Heap) (n0 : Nat) (Z0 : n0 ≤ h0.size) (f fb : Nat → Value) (A1 : Afn Z h0 a1 .char 3 f) (A3 : Afn Z h0 a3 .byte 3 fb) (g3 : n0 ≤ a3) (d13 : a1 ≠ a3) (hf0 : f 0 = .int c0) (hf1 : f 1 = .int c1) (hf2 : f 2 = .int c2) (hc0 : ¬ ((255 : Int32) < c0)) (hc1 : ¬ ((255 : Int32) < c1)) (hc2 : ¬ ((255 : Int32) < c2)) :
    Con l Z (⟨"java/lang/StringUTF16", "compress", "([CI[BII)I"⟩ : MethodName) jdk_52_method_21_code 7 (some .int) ({ frames := 0, cells := 0, slots := 0, locals := 0 } : Room) #[(.ref a1), (.int (0 : Int32)), (.ref a3), (.int (0 : Int32)), (.int (3 : Int32))] h0 (fun v h L => v = some (.int (3 : Int32)) ∧ Fr n0 L ∧ Keep h0 h [a3] ∧ Afn Z h a3 .byte 3 (own_bs [c0, c1, c2])) := by
  refine Con.body (plainFor_of_name own_pn1) ?_
  intro pP eE sS mM bB mT cC s₁ hx hby hml hZ hown hnm hret hlk X0 e0
  have hown : sS.vm.findClass "java/lang/StringUTF16" = some mM.cls := hown
  have hml : cC.maxLocals = 7 := hml
  have N0 := Fr.nil n0
  have ef : entryFrame mM #[(.ref a1), (.int (0 : Int32)), (.ref a3), (.int (0 : Int32)), (.int (3 : Int32))] 7 = mkF mM 0 #[.val (.ref a1), .val (.int (0 : Int32)), .val (.ref a3), .val (.int (0 : Int32)), .val (.int (3 : Int32)), .unset, .unset] [] := by first | (simp [entryFrame, mkF, argsToLocals, Value.category]; done) | rfl
  rw [ef]
  show Goes pP eE bB _ (s₁.setTop (mkF mM 0 #[.val (.ref a1), .val (.int (0 : Int32)), .val (.ref a3), .val (.int (0 : Int32)), .val (.int (3 : Int32)), .unset, .unset] []))
  refine Goes.step (fun _ kK => XS.iconst X0.here hx rfl (hb hby own_d17_0) kK) ?_
  show Goes pP eE bB _ (s₁.setTop (mkF mM 1 #[.val (.ref a1), .val (.int (0 : Int32)), .val (.ref a3), .val (.int (0 : Int32)), .val (.int (3 : Int32)), .unset, .unset] [(.int (0 : Int32))]))
  refine Goes.step (fun _ kK => XS.istore X0.here hx rfl (hb hby own_d17_1) rfl (l' := #[.val (.ref a1), .val (.int (0 : Int32)), .val (.ref a3), .val (.int (0 : Int32)), .val (.int (3 : Int32)), .val (.int (0 : Int32)), .unset]) rfl kK) ?_
  show Goes pP eE bB _ (s₁.setTop (mkF mM 3 #[.val (.ref a1), .val (.int (0 : Int32)), .val (.ref a3), .val (.int (0 : Int32)), .val (.int (3 : Int32)), .val (.int (0 : Int32)), .unset] []))
  refine Goes.step (fun _ kK => XS.iload X0.here hx rfl (hb hby own_d17_3) rfl kK) ?_
  show Goes pP eE bB _ (s₁.setTop (mkF mM 5 #[.val (.ref a1), .val (.int (0 : Int32)), .val (.ref a3), .val (.int (0 : Int32)), .val (.int (3 : Int32)), .val (.int (0 : Int32)), .unset] [(.int (0 : Int32))]))
  refine Goes.step (fun _ kK => XS.iload X0.here hx rfl (hb hby own_d17_5) rfl kK) ?_
  show Goes pP eE bB _ (s₁.setTop (mkF mM 7 #[.val (.ref a1), .val (.int (0 : Int32)), .val (.ref a3), .val (.int (0 : Int32)), .val (.int (3 : Int32)), .val (.int (0 : Int32)), .unset] [(.int (3 : Int32)), (.int (0 : Int32))]))
  refine Goes.step (fun _ kK => XS.icmpNo X0.here hx rfl (hb hby own_d17_7) rfl (tlt (by decide)).2.1 kK) ?_
  show Goes pP eE bB _ (s₁.setTop (mkF mM 10 #[.val (.ref a1), .val (.int (0 : Int32)), .val (.ref a3), .val (.int (0 : Int32)), .val (.int (3 : Int32)), .val (.int (0 : Int32)), .unset] []))
  refine Goes.step (fun _ kK => XS.aloadN X0.here hx rfl (hb hby own_d17_10) rfl rfl kK) ?_
  show Goes pP eE bB _ (s₁.setTop (mkF mM 11 #[.val (.ref a1), .val (.int (0 : Int32)), .val (.ref a3), .val (.int (0 : Int32)), .val (.int (3 : Int32)), .val (.int (0 : Int32)), .unset] [(.ref a1)]))
  refine Goes.step (fun _ kK => XS.iloadN X0.here hx rfl (hb hby own_d17_11) rfl kK) ?_
  show Goes pP eE bB _ (s₁.setTop (mkF mM 12 #[.val (.ref a1), .val (.int (0 : Int32)), .val (.ref a3), .val (.int (0 : Int32)), .val (.int (3 : Int32)), .val (.int (0 : Int32)), .unset] [(.int (0 : Int32)), (.ref a1)]))
  refine Goes.caload X0 hx hZ e0 A1 (i := 0) (by decide) (by decide) hf0 (g := (mkF mM 12 #[.val (.ref a1), .val (.int (0 : Int32)), .val (.ref a3), .val (.int (0 : Int32)), .val (.int (3 : Int32)), .val (.int (0 : Int32)), .unset] [(.int (0 : Int32)), (.ref a1)])) rfl rfl (hb hby own_d17_12) ?_
  show Goes pP eE bB _ (s₁.setTop (mkF mM 13 #[.val (.ref a1), .val (.int (0 : Int32)), .val (.ref a3), .val (.int (0 : Int32)), .val (.int (3 : Int32)), .val (.int (0 : Int32)), .unset] [(.int c0)]))
  refine Goes.step (fun _ kK => XS.istore X0.here hx rfl (hb hby own_d17_13) rfl (l' := #[.val (.ref a1), .val (.int (0 : Int32)), .val (.ref a3), .val (.int (0 : Int32)), .val (.int (3 : Int32)), .val (.int (0 : Int32)), .val (.int c0)]) rfl kK) ?_
  show Goes pP eE bB _ (s₁.setTop (mkF mM 15 #[.val (.ref a1), .val (.int (0 : Int32)), .val (.ref a3), .val (.int (0 : Int32)), .val (.int (3 : Int32)), .val (.int (0 : Int32)), .val (.int c0)] []))
  refine Goes.step (fun _ kK => XS.iload X0.here hx rfl (hb hby own_d17_15) rfl kK) ?_
  show Goes pP eE bB _ (s₁.setTop (mkF mM 17 #[.val (.ref a1), .val (.int (0 : Int32)), .val (.ref a3), .val (.int (0 : Int32)), .val (.int (3 : Int32)), .val (.int (0 : Int32)), .val (.int c0)] [(.int c0)]))
  refine Goes.step (fun _ kK => XS.sipush X0.here hx rfl (hb hby own_d17_17) kK) ?_
  show Goes pP eE bB _ (s₁.setTop (mkF mM 20 #[.val (.ref a1), .val (.int (0 : Int32)), .val (.ref a3), .val (.int (0 : Int32)), .val (.int (3 : Int32)), .val (.int (0 : Int32)), .val (.int c0)] [(.int (255 : Int32)), (.int c0)]))
  have hb_1 : ¬ ((255 : Int32) < c0) := hc0
  refine Goes.step (fun _ kK => XS.icmpYes X0.here hx rfl (pc0 := 20) (pc' := 26) rfl (hb hby own_d17_20) rfl (flt hb_1).2.2.2 (by decide) (by decide) kK) ?_
  show Goes pP eE bB _ (s₁.setTop (mkF mM 26 #[.val (.ref a1), .val (.int (0 : Int32)), .val (.ref a3), .val (.int (0 : Int32)), .val (.int (3 : Int32)), .val (.int (0 : Int32)), .val (.int c0)] []))
  refine Goes.step (fun _ kK => XS.aloadN X0.here hx rfl (hb hby own_d17_26) rfl rfl kK) ?_
  show Goes pP eE bB _ (s₁.setTop (mkF mM 27 #[.val (.ref a1), .val (.int (0 : Int32)), .val (.ref a3), .val (.int (0 : Int32)), .val (.int (3 : Int32)), .val (.int (0 : Int32)), .val (.int c0)] [(.ref a3)]))
  refine Goes.step (fun _ kK => XS.iloadN X0.here hx rfl (hb hby own_d17_27) rfl kK) ?_
  show Goes pP eE bB _ (s₁.setTop (mkF mM 28 #[.val (.ref a1), .val (.int (0 : Int32)), .val (.ref a3), .val (.int (0 : Int32)), .val (.int (3 : Int32)), .val (.int (0 : Int32)), .val (.int c0)] [(.int (0 : Int32)), (.ref a3)]))
  refine Goes.step (fun _ kK => XS.iload X0.here hx rfl (hb hby own_d17_28) rfl kK) ?_
  show Goes pP eE bB _ (s₁.setTop (mkF mM 30 #[.val (.ref a1), .val (.int (0 : Int32)), .val (.ref a3), .val (.int (0 : Int32)), .val (.int (3 : Int32)), .val (.int (0 : Int32)), .val (.int c0)] [(.int c0), (.int (0 : Int32)), (.ref a3)]))
  refine Goes.step (fun _ kK => XS.i2b X0.here hx rfl (hb hby own_d17_30) rfl kK) ?_
  show Goes pP eE bB _ (s₁.setTop (mkF mM 31 #[.val (.ref a1), .val (.int (0 : Int32)), .val (.ref a3), .val (.int (0 : Int32)), .val (.int (3 : Int32)), .val (.int (0 : Int32)), .val (.int c0)] [(.int (c0.toInt8.toInt32)), (.int (0 : Int32)), (.ref a3)]))
  refine Goes.bastore X0 hx hZ e0 A3 (i := 0) (by decide) (by decide) (g := (mkF mM 31 #[.val (.ref a1), .val (.int (0 : Int32)), .val (.ref a3), .val (.int (0 : Int32)), .val (.int (3 : Int32)), .val (.int (0 : Int32)), .val (.int c0)] [(.int (c0.toInt8.toInt32)), (.int (0 : Int32)), (.ref a3)])) rfl rfl (hb hby own_d17_31) ?_
  intro T_2 h_2 X_2 e_2 W_2 A_2
  have N_2 := Fr.snoc X_2 N0 g3
  show Goes pP eE bB _ (T_2.setTop (mkF mM 32 #[.val (.ref a1), .val (.int (0 : Int32)), .val (.ref a3), .val (.int (0 : Int32)), .val (.int (3 : Int32)), .val (.int (0 : Int32)), .val (.int c0)] []))
  refine Goes.step (fun _ kK => XS.iinc X_2.here hx rfl (hb hby own_d17_32) rfl (l' := #[.val (.ref a1), .val (.int ((0 : Int32) + (1 : Int32))), .val (.ref a3), .val (.int (0 : Int32)), .val (.int (3 : Int32)), .val (.int (0 : Int32)), .val (.int c0)]) rfl kK) ?_
  show Goes pP eE bB _ (T_2.setTop (mkF mM 35 #[.val (.ref a1), .val (.int ((0 : Int32) + (1 : Int32))), .val (.ref a3), .val (.int (0 : Int32)), .val (.int (3 : Int32)), .val (.int (0 : Int32)), .val (.int c0)] []))
  refine Goes.step (fun _ kK => XS.iinc X_2.here hx rfl (hb hby own_d17_35) rfl (l' := #[.val (.ref a1), .val (.int ((0 : Int32) + (1 : Int32))), .val (.ref a3), .val (.int ((0 : Int32) + (1 : Int32))), .val (.int (3 : Int32)), .val (.int (0 : Int32)), .val (.int c0)]) rfl kK) ?_
  show Goes pP eE bB _ (T_2.setTop (mkF mM 38 #[.val (.ref a1), .val (.int ((0 : Int32) + (1 : Int32))), .val (.ref a3), .val (.int ((0 : Int32) + (1 : Int32))), .val (.int (3 : Int32)), .val (.int (0 : Int32)), .val (.int c0)] []))
  refine Goes.step (fun _ kK => XS.iinc X_2.here hx rfl (hb hby own_d17_38) rfl (l' := #[.val (.ref a1), .val (.int ((0 : Int32) + (1 : Int32))), .val (.ref a3), .val (.int ((0 : Int32) + (1 : Int32))), .val (.int (3 : Int32)), .val (.int ((0 : Int32) + (1 : Int32))), .val (.int c0)]) rfl kK) ?_
  show Goes pP eE bB _ (T_2.setTop (mkF mM 41 #[.val (.ref a1), .val (.int ((0 : Int32) + (1 : Int32))), .val (.ref a3), .val (.int ((0 : Int32) + (1 : Int32))), .val (.int (3 : Int32)), .val (.int ((0 : Int32) + (1 : Int32))), .val (.int c0)] []))
  refine Goes.step (fun _ kK => XS.goto X_2.here hx rfl (pc0 := 41) (pc' := 3) rfl (hb hby own_d17_41) (by decide) (by decide) kK) ?_
  show Goes pP eE bB _ (T_2.setTop (mkF mM 3 #[.val (.ref a1), .val (.int ((0 : Int32) + (1 : Int32))), .val (.ref a3), .val (.int ((0 : Int32) + (1 : Int32))), .val (.int (3 : Int32)), .val (.int ((0 : Int32) + (1 : Int32))), .val (.int c0)] []))
  refine Goes.step (fun _ kK => XS.iload X_2.here hx rfl (hb hby own_d17_3) rfl kK) ?_
  show Goes pP eE bB _ (T_2.setTop (mkF mM 5 #[.val (.ref a1), .val (.int ((0 : Int32) + (1 : Int32))), .val (.ref a3), .val (.int ((0 : Int32) + (1 : Int32))), .val (.int (3 : Int32)), .val (.int ((0 : Int32) + (1 : Int32))), .val (.int c0)] [(.int ((0 : Int32) + (1 : Int32)))]))
  refine Goes.step (fun _ kK => XS.iload X_2.here hx rfl (hb hby own_d17_5) rfl kK) ?_
  show Goes pP eE bB _ (T_2.setTop (mkF mM 7 #[.val (.ref a1), .val (.int ((0 : Int32) + (1 : Int32))), .val (.ref a3), .val (.int ((0 : Int32) + (1 : Int32))), .val (.int (3 : Int32)), .val (.int ((0 : Int32) + (1 : Int32))), .val (.int c0)] [(.int (3 : Int32)), (.int ((0 : Int32) + (1 : Int32)))]))
  refine Goes.step (fun _ kK => XS.icmpNo X_2.here hx rfl (hb hby own_d17_7) rfl (tlt (by decide)).2.1 kK) ?_
  show Goes pP eE bB _ (T_2.setTop (mkF mM 10 #[.val (.ref a1), .val (.int ((0 : Int32) + (1 : Int32))), .val (.ref a3), .val (.int ((0 : Int32) + (1 : Int32))), .val (.int (3 : Int32)), .val (.int ((0 : Int32) + (1 : Int32))), .val (.int c0)] []))
  refine Goes.step (fun _ kK => XS.aloadN X_2.here hx rfl (hb hby own_d17_10) rfl rfl kK) ?_
  show Goes pP eE bB _ (T_2.setTop (mkF mM 11 #[.val (.ref a1), .val (.int ((0 : Int32) + (1 : Int32))), .val (.ref a3), .val (.int ((0 : Int32) + (1 : Int32))), .val (.int (3 : Int32)), .val (.int ((0 : Int32) + (1 : Int32))), .val (.int c0)] [(.ref a1)]))
  refine Goes.step (fun _ kK => XS.iloadN X_2.here hx rfl (hb hby own_d17_11) rfl kK) ?_
  show Goes pP eE bB _ (T_2.setTop (mkF mM 12 #[.val (.ref a1), .val (.int ((0 : Int32) + (1 : Int32))), .val (.ref a3), .val (.int ((0 : Int32) + (1 : Int32))), .val (.int (3 : Int32)), .val (.int ((0 : Int32) + (1 : Int32))), .val (.int c0)] [(.int ((0 : Int32) + (1 : Int32))), (.ref a1)]))
  have u_3 := A1.other W_2 d13
  refine Goes.caload X_2 hx hZ e_2 u_3 (i := 1) (by decide) (by decide) hf1 (g := (mkF mM 12 #[.val (.ref a1), .val (.int ((0 : Int32) + (1 : Int32))), .val (.ref a3), .val (.int ((0 : Int32) + (1 : Int32))), .val (.int (3 : Int32)), .val (.int ((0 : Int32) + (1 : Int32))), .val (.int c0)] [(.int ((0 : Int32) + (1 : Int32))), (.ref a1)])) rfl rfl (hb hby own_d17_12) ?_
  show Goes pP eE bB _ (T_2.setTop (mkF mM 13 #[.val (.ref a1), .val (.int ((0 : Int32) + (1 : Int32))), .val (.ref a3), .val (.int ((0 : Int32) + (1 : Int32))), .val (.int (3 : Int32)), .val (.int ((0 : Int32) + (1 : Int32))), .val (.int c0)] [(.int c1)]))
  refine Goes.step (fun _ kK => XS.istore X_2.here hx rfl (hb hby own_d17_13) rfl (l' := #[.val (.ref a1), .val (.int ((0 : Int32) + (1 : Int32))), .val (.ref a3), .val (.int ((0 : Int32) + (1 : Int32))), .val (.int (3 : Int32)), .val (.int ((0 : Int32) + (1 : Int32))), .val (.int c1)]) rfl kK) ?_
  show Goes pP eE bB _ (T_2.setTop (mkF mM 15 #[.val (.ref a1), .val (.int ((0 : Int32) + (1 : Int32))), .val (.ref a3), .val (.int ((0 : Int32) + (1 : Int32))), .val (.int (3 : Int32)), .val (.int ((0 : Int32) + (1 : Int32))), .val (.int c1)] []))
  refine Goes.step (fun _ kK => XS.iload X_2.here hx rfl (hb hby own_d17_15) rfl kK) ?_
  show Goes pP eE bB _ (T_2.setTop (mkF mM 17 #[.val (.ref a1), .val (.int ((0 : Int32) + (1 : Int32))), .val (.ref a3), .val (.int ((0 : Int32) + (1 : Int32))), .val (.int (3 : Int32)), .val (.int ((0 : Int32) + (1 : Int32))), .val (.int c1)] [(.int c1)]))
  refine Goes.step (fun _ kK => XS.sipush X_2.here hx rfl (hb hby own_d17_17) kK) ?_
  show Goes pP eE bB _ (T_2.setTop (mkF mM 20 #[.val (.ref a1), .val (.int ((0 : Int32) + (1 : Int32))), .val (.ref a3), .val (.int ((0 : Int32) + (1 : Int32))), .val (.int (3 : Int32)), .val (.int ((0 : Int32) + (1 : Int32))), .val (.int c1)] [(.int (255 : Int32)), (.int c1)]))
  have hb_4 : ¬ ((255 : Int32) < c1) := hc1
  refine Goes.step (fun _ kK => XS.icmpYes X_2.here hx rfl (pc0 := 20) (pc' := 26) rfl (hb hby own_d17_20) rfl (flt hb_4).2.2.2 (by decide) (by decide) kK) ?_
  show Goes pP eE bB _ (T_2.setTop (mkF mM 26 #[.val (.ref a1), .val (.int ((0 : Int32) + (1 : Int32))), .val (.ref a3), .val (.int ((0 : Int32) + (1 : Int32))), .val (.int (3 : Int32)), .val (.int ((0 : Int32) + (1 : Int32))), .val (.int c1)] []))
  refine Goes.step (fun _ kK => XS.aloadN X_2.here hx rfl (hb hby own_d17_26) rfl rfl kK) ?_
  show Goes pP eE bB _ (T_2.setTop (mkF mM 27 #[.val (.ref a1), .val (.int ((0 : Int32) + (1 : Int32))), .val (.ref a3), .val (.int ((0 : Int32) + (1 : Int32))), .val (.int (3 : Int32)), .val (.int ((0 : Int32) + (1 : Int32))), .val (.int c1)] [(.ref a3)]))
  refine Goes.step (fun _ kK => XS.iloadN X_2.here hx rfl (hb hby own_d17_27) rfl kK) ?_
  show Goes pP eE bB _ (T_2.setTop (mkF mM 28 #[.val (.ref a1), .val (.int ((0 : Int32) + (1 : Int32))), .val (.ref a3), .val (.int ((0 : Int32) + (1 : Int32))), .val (.int (3 : Int32)), .val (.int ((0 : Int32) + (1 : Int32))), .val (.int c1)] [(.int ((0 : Int32) + (1 : Int32))), (.ref a3)]))
  refine Goes.step (fun _ kK => XS.iload X_2.here hx rfl (hb hby own_d17_28) rfl kK) ?_
  show Goes pP eE bB _ (T_2.setTop (mkF mM 30 #[.val (.ref a1), .val (.int ((0 : Int32) + (1 : Int32))), .val (.ref a3), .val (.int ((0 : Int32) + (1 : Int32))), .val (.int (3 : Int32)), .val (.int ((0 : Int32) + (1 : Int32))), .val (.int c1)] [(.int c1), (.int ((0 : Int32) + (1 : Int32))), (.ref a3)]))
  refine Goes.step (fun _ kK => XS.i2b X_2.here hx rfl (hb hby own_d17_30) rfl kK) ?_
  show Goes pP eE bB _ (T_2.setTop (mkF mM 31 #[.val (.ref a1), .val (.int ((0 : Int32) + (1 : Int32))), .val (.ref a3), .val (.int ((0 : Int32) + (1 : Int32))), .val (.int (3 : Int32)), .val (.int ((0 : Int32) + (1 : Int32))), .val (.int c1)] [(.int (c1.toInt8.toInt32)), (.int ((0 : Int32) + (1 : Int32))), (.ref a3)]))
  refine Goes.bastore X_2 hx hZ e_2 A_2 (i := 1) (by decide) (by decide) (g := (mkF mM 31 #[.val (.ref a1), .val (.int ((0 : Int32) + (1 : Int32))), .val (.ref a3), .val (.int ((0 : Int32) + (1 : Int32))), .val (.int (3 : Int32)), .val (.int ((0 : Int32) + (1 : Int32))), .val (.int c1)] [(.int (c1.toInt8.toInt32)), (.int ((0 : Int32) + (1 : Int32))), (.ref a3)])) rfl rfl (hb hby own_d17_31) ?_
  intro T_5 h_5 X_5 e_5 W_5 A_5
  have N_5 := Fr.snoc X_5 N_2 g3
  show Goes pP eE bB _ (T_5.setTop (mkF mM 32 #[.val (.ref a1), .val (.int ((0 : Int32) + (1 : Int32))), .val (.ref a3), .val (.int ((0 : Int32) + (1 : Int32))), .val (.int (3 : Int32)), .val (.int ((0 : Int32) + (1 : Int32))), .val (.int c1)] []))
  refine Goes.step (fun _ kK => XS.iinc X_5.here hx rfl (hb hby own_d17_32) rfl (l' := #[.val (.ref a1), .val (.int (((0 : Int32) + (1 : Int32)) + (1 : Int32))), .val (.ref a3), .val (.int ((0 : Int32) + (1 : Int32))), .val (.int (3 : Int32)), .val (.int ((0 : Int32) + (1 : Int32))), .val (.int c1)]) rfl kK) ?_
  show Goes pP eE bB _ (T_5.setTop (mkF mM 35 #[.val (.ref a1), .val (.int (((0 : Int32) + (1 : Int32)) + (1 : Int32))), .val (.ref a3), .val (.int ((0 : Int32) + (1 : Int32))), .val (.int (3 : Int32)), .val (.int ((0 : Int32) + (1 : Int32))), .val (.int c1)] []))
  refine Goes.step (fun _ kK => XS.iinc X_5.here hx rfl (hb hby own_d17_35) rfl (l' := #[.val (.ref a1), .val (.int (((0 : Int32) + (1 : Int32)) + (1 : Int32))), .val (.ref a3), .val (.int (((0 : Int32) + (1 : Int32)) + (1 : Int32))), .val (.int (3 : Int32)), .val (.int ((0 : Int32) + (1 : Int32))), .val (.int c1)]) rfl kK) ?_
  show Goes pP eE bB _ (T_5.setTop (mkF mM 38 #[.val (.ref a1), .val (.int (((0 : Int32) + (1 : Int32)) + (1 : Int32))), .val (.ref a3), .val (.int (((0 : Int32) + (1 : Int32)) + (1 : Int32))), .val (.int (3 : Int32)), .val (.int ((0 : Int32) + (1 : Int32))), .val (.int c1)] []))
  refine Goes.step (fun _ kK => XS.iinc X_5.here hx rfl (hb hby own_d17_38) rfl (l' := #[.val (.ref a1), .val (.int (((0 : Int32) + (1 : Int32)) + (1 : Int32))), .val (.ref a3), .val (.int (((0 : Int32) + (1 : Int32)) + (1 : Int32))), .val (.int (3 : Int32)), .val (.int (((0 : Int32) + (1 : Int32)) + (1 : Int32))), .val (.int c1)]) rfl kK) ?_
  show Goes pP eE bB _ (T_5.setTop (mkF mM 41 #[.val (.ref a1), .val (.int (((0 : Int32) + (1 : Int32)) + (1 : Int32))), .val (.ref a3), .val (.int (((0 : Int32) + (1 : Int32)) + (1 : Int32))), .val (.int (3 : Int32)), .val (.int (((0 : Int32) + (1 : Int32)) + (1 : Int32))), .val (.int c1)] []))
  refine Goes.step (fun _ kK => XS.goto X_5.here hx rfl (pc0 := 41) (pc' := 3) rfl (hb hby own_d17_41) (by decide) (by decide) kK) ?_
  show Goes pP eE bB _ (T_5.setTop (mkF mM 3 #[.val (.ref a1), .val (.int (((0 : Int32) + (1 : Int32)) + (1 : Int32))), .val (.ref a3), .val (.int (((0 : Int32) + (1 : Int32)) + (1 : Int32))), .val (.int (3 : Int32)), .val (.int (((0 : Int32) + (1 : Int32)) + (1 : Int32))), .val (.int c1)] []))
  refine Goes.step (fun _ kK => XS.iload X_5.here hx rfl (hb hby own_d17_3) rfl kK) ?_
  show Goes pP eE bB _ (T_5.setTop (mkF mM 5 #[.val (.ref a1), .val (.int (((0 : Int32) + (1 : Int32)) + (1 : Int32))), .val (.ref a3), .val (.int (((0 : Int32) + (1 : Int32)) + (1 : Int32))), .val (.int (3 : Int32)), .val (.int (((0 : Int32) + (1 : Int32)) + (1 : Int32))), .val (.int c1)] [(.int (((0 : Int32) + (1 : Int32)) + (1 : Int32)))]))
  refine Goes.step (fun _ kK => XS.iload X_5.here hx rfl (hb hby own_d17_5) rfl kK) ?_
  show Goes pP eE bB _ (T_5.setTop (mkF mM 7 #[.val (.ref a1), .val (.int (((0 : Int32) + (1 : Int32)) + (1 : Int32))), .val (.ref a3), .val (.int (((0 : Int32) + (1 : Int32)) + (1 : Int32))), .val (.int (3 : Int32)), .val (.int (((0 : Int32) + (1 : Int32)) + (1 : Int32))), .val (.int c1)] [(.int (3 : Int32)), (.int (((0 : Int32) + (1 : Int32)) + (1 : Int32)))]))
  refine Goes.step (fun _ kK => XS.icmpNo X_5.here hx rfl (hb hby own_d17_7) rfl (tlt (by decide)).2.1 kK) ?_
  show Goes pP eE bB _ (T_5.setTop (mkF mM 10 #[.val (.ref a1), .val (.int (((0 : Int32) + (1 : Int32)) + (1 : Int32))), .val (.ref a3), .val (.int (((0 : Int32) + (1 : Int32)) + (1 : Int32))), .val (.int (3 : Int32)), .val (.int (((0 : Int32) + (1 : Int32)) + (1 : Int32))), .val (.int c1)] []))
  refine Goes.step (fun _ kK => XS.aloadN X_5.here hx rfl (hb hby own_d17_10) rfl rfl kK) ?_
  show Goes pP eE bB _ (T_5.setTop (mkF mM 11 #[.val (.ref a1), .val (.int (((0 : Int32) + (1 : Int32)) + (1 : Int32))), .val (.ref a3), .val (.int (((0 : Int32) + (1 : Int32)) + (1 : Int32))), .val (.int (3 : Int32)), .val (.int (((0 : Int32) + (1 : Int32)) + (1 : Int32))), .val (.int c1)] [(.ref a1)]))
  refine Goes.step (fun _ kK => XS.iloadN X_5.here hx rfl (hb hby own_d17_11) rfl kK) ?_
  show Goes pP eE bB _ (T_5.setTop (mkF mM 12 #[.val (.ref a1), .val (.int (((0 : Int32) + (1 : Int32)) + (1 : Int32))), .val (.ref a3), .val (.int (((0 : Int32) + (1 : Int32)) + (1 : Int32))), .val (.int (3 : Int32)), .val (.int (((0 : Int32) + (1 : Int32)) + (1 : Int32))), .val (.int c1)] [(.int (((0 : Int32) + (1 : Int32)) + (1 : Int32))), (.ref a1)]))
  have u_6 := u_3.other W_5 d13
  refine Goes.caload X_5 hx hZ e_5 u_6 (i := 2) (by decide) (by decide) hf2 (g := (mkF mM 12 #[.val (.ref a1), .val (.int (((0 : Int32) + (1 : Int32)) + (1 : Int32))), .val (.ref a3), .val (.int (((0 : Int32) + (1 : Int32)) + (1 : Int32))), .val (.int (3 : Int32)), .val (.int (((0 : Int32) + (1 : Int32)) + (1 : Int32))), .val (.int c1)] [(.int (((0 : Int32) + (1 : Int32)) + (1 : Int32))), (.ref a1)])) rfl rfl (hb hby own_d17_12) ?_
  show Goes pP eE bB _ (T_5.setTop (mkF mM 13 #[.val (.ref a1), .val (.int (((0 : Int32) + (1 : Int32)) + (1 : Int32))), .val (.ref a3), .val (.int (((0 : Int32) + (1 : Int32)) + (1 : Int32))), .val (.int (3 : Int32)), .val (.int (((0 : Int32) + (1 : Int32)) + (1 : Int32))), .val (.int c1)] [(.int c2)]))
  refine Goes.step (fun _ kK => XS.istore X_5.here hx rfl (hb hby own_d17_13) rfl (l' := #[.val (.ref a1), .val (.int (((0 : Int32) + (1 : Int32)) + (1 : Int32))), .val (.ref a3), .val (.int (((0 : Int32) + (1 : Int32)) + (1 : Int32))), .val (.int (3 : Int32)), .val (.int (((0 : Int32) + (1 : Int32)) + (1 : Int32))), .val (.int c2)]) rfl kK) ?_
  show Goes pP eE bB _ (T_5.setTop (mkF mM 15 #[.val (.ref a1), .val (.int (((0 : Int32) + (1 : Int32)) + (1 : Int32))), .val (.ref a3), .val (.int (((0 : Int32) + (1 : Int32)) + (1 : Int32))), .val (.int (3 : Int32)), .val (.int (((0 : Int32) + (1 : Int32)) + (1 : Int32))), .val (.int c2)] []))
  refine Goes.step (fun _ kK => XS.iload X_5.here hx rfl (hb hby own_d17_15) rfl kK) ?_
  show Goes pP eE bB _ (T_5.setTop (mkF mM 17 #[.val (.ref a1), .val (.int (((0 : Int32) + (1 : Int32)) + (1 : Int32))), .val (.ref a3), .val (.int (((0 : Int32) + (1 : Int32)) + (1 : Int32))), .val (.int (3 : Int32)), .val (.int (((0 : Int32) + (1 : Int32)) + (1 : Int32))), .val (.int c2)] [(.int c2)]))
  refine Goes.step (fun _ kK => XS.sipush X_5.here hx rfl (hb hby own_d17_17) kK) ?_
  show Goes pP eE bB _ (T_5.setTop (mkF mM 20 #[.val (.ref a1), .val (.int (((0 : Int32) + (1 : Int32)) + (1 : Int32))), .val (.ref a3), .val (.int (((0 : Int32) + (1 : Int32)) + (1 : Int32))), .val (.int (3 : Int32)), .val (.int (((0 : Int32) + (1 : Int32)) + (1 : Int32))), .val (.int c2)] [(.int (255 : Int32)), (.int c2)]))
  have hb_7 : ¬ ((255 : Int32) < c2) := hc2
  refine Goes.step (fun _ kK => XS.icmpYes X_5.here hx rfl (pc0 := 20) (pc' := 26) rfl (hb hby own_d17_20) rfl (flt hb_7).2.2.2 (by decide) (by decide) kK) ?_
  show Goes pP eE bB _ (T_5.setTop (mkF mM 26 #[.val (.ref a1), .val (.int (((0 : Int32) + (1 : Int32)) + (1 : Int32))), .val (.ref a3), .val (.int (((0 : Int32) + (1 : Int32)) + (1 : Int32))), .val (.int (3 : Int32)), .val (.int (((0 : Int32) + (1 : Int32)) + (1 : Int32))), .val (.int c2)] []))
  refine Goes.step (fun _ kK => XS.aloadN X_5.here hx rfl (hb hby own_d17_26) rfl rfl kK) ?_
  show Goes pP eE bB _ (T_5.setTop (mkF mM 27 #[.val (.ref a1), .val (.int (((0 : Int32) + (1 : Int32)) + (1 : Int32))), .val (.ref a3), .val (.int (((0 : Int32) + (1 : Int32)) + (1 : Int32))), .val (.int (3 : Int32)), .val (.int (((0 : Int32) + (1 : Int32)) + (1 : Int32))), .val (.int c2)] [(.ref a3)]))
  refine Goes.step (fun _ kK => XS.iloadN X_5.here hx rfl (hb hby own_d17_27) rfl kK) ?_
  show Goes pP eE bB _ (T_5.setTop (mkF mM 28 #[.val (.ref a1), .val (.int (((0 : Int32) + (1 : Int32)) + (1 : Int32))), .val (.ref a3), .val (.int (((0 : Int32) + (1 : Int32)) + (1 : Int32))), .val (.int (3 : Int32)), .val (.int (((0 : Int32) + (1 : Int32)) + (1 : Int32))), .val (.int c2)] [(.int (((0 : Int32) + (1 : Int32)) + (1 : Int32))), (.ref a3)]))
  refine Goes.step (fun _ kK => XS.iload X_5.here hx rfl (hb hby own_d17_28) rfl kK) ?_
  show Goes pP eE bB _ (T_5.setTop (mkF mM 30 #[.val (.ref a1), .val (.int (((0 : Int32) + (1 : Int32)) + (1 : Int32))), .val (.ref a3), .val (.int (((0 : Int32) + (1 : Int32)) + (1 : Int32))), .val (.int (3 : Int32)), .val (.int (((0 : Int32) + (1 : Int32)) + (1 : Int32))), .val (.int c2)] [(.int c2), (.int (((0 : Int32) + (1 : Int32)) + (1 : Int32))), (.ref a3)]))
  refine Goes.step (fun _ kK => XS.i2b X_5.here hx rfl (hb hby own_d17_30) rfl kK) ?_
  show Goes pP eE bB _ (T_5.setTop (mkF mM 31 #[.val (.ref a1), .val (.int (((0 : Int32) + (1 : Int32)) + (1 : Int32))), .val (.ref a3), .val (.int (((0 : Int32) + (1 : Int32)) + (1 : Int32))), .val (.int (3 : Int32)), .val (.int (((0 : Int32) + (1 : Int32)) + (1 : Int32))), .val (.int c2)] [(.int (c2.toInt8.toInt32)), (.int (((0 : Int32) + (1 : Int32)) + (1 : Int32))), (.ref a3)]))
  refine Goes.bastore X_5 hx hZ e_5 A_5 (i := 2) (by decide) (by decide) (g := (mkF mM 31 #[.val (.ref a1), .val (.int (((0 : Int32) + (1 : Int32)) + (1 : Int32))), .val (.ref a3), .val (.int (((0 : Int32) + (1 : Int32)) + (1 : Int32))), .val (.int (3 : Int32)), .val (.int (((0 : Int32) + (1 : Int32)) + (1 : Int32))), .val (.int c2)] [(.int (c2.toInt8.toInt32)), (.int (((0 : Int32) + (1 : Int32)) + (1 : Int32))), (.ref a3)])) rfl rfl (hb hby own_d17_31) ?_
  intro T_8 h_8 X_8 e_8 W_8 A_8
  have N_8 := Fr.snoc X_8 N_5 g3
  show Goes pP eE bB _ (T_8.setTop (mkF mM 32 #[.val (.ref a1), .val (.int (((0 : Int32) + (1 : Int32)) + (1 : Int32))), .val (.ref a3), .val (.int (((0 : Int32) + (1 : Int32)) + (1 : Int32))), .val (.int (3 : Int32)), .val (.int (((0 : Int32) + (1 : Int32)) + (1 : Int32))), .val (.int c2)] []))
  refine Goes.step (fun _ kK => XS.iinc X_8.here hx rfl (hb hby own_d17_32) rfl (l' := #[.val (.ref a1), .val (.int ((((0 : Int32) + (1 : Int32)) + (1 : Int32)) + (1 : Int32))), .val (.ref a3), .val (.int (((0 : Int32) + (1 : Int32)) + (1 : Int32))), .val (.int (3 : Int32)), .val (.int (((0 : Int32) + (1 : Int32)) + (1 : Int32))), .val (.int c2)]) rfl kK) ?_
  show Goes pP eE bB _ (T_8.setTop (mkF mM 35 #[.val (.ref a1), .val (.int ((((0 : Int32) + (1 : Int32)) + (1 : Int32)) + (1 : Int32))), .val (.ref a3), .val (.int (((0 : Int32) + (1 : Int32)) + (1 : Int32))), .val (.int (3 : Int32)), .val (.int (((0 : Int32) + (1 : Int32)) + (1 : Int32))), .val (.int c2)] []))
  refine Goes.step (fun _ kK => XS.iinc X_8.here hx rfl (hb hby own_d17_35) rfl (l' := #[.val (.ref a1), .val (.int ((((0 : Int32) + (1 : Int32)) + (1 : Int32)) + (1 : Int32))), .val (.ref a3), .val (.int ((((0 : Int32) + (1 : Int32)) + (1 : Int32)) + (1 : Int32))), .val (.int (3 : Int32)), .val (.int (((0 : Int32) + (1 : Int32)) + (1 : Int32))), .val (.int c2)]) rfl kK) ?_
  show Goes pP eE bB _ (T_8.setTop (mkF mM 38 #[.val (.ref a1), .val (.int ((((0 : Int32) + (1 : Int32)) + (1 : Int32)) + (1 : Int32))), .val (.ref a3), .val (.int ((((0 : Int32) + (1 : Int32)) + (1 : Int32)) + (1 : Int32))), .val (.int (3 : Int32)), .val (.int (((0 : Int32) + (1 : Int32)) + (1 : Int32))), .val (.int c2)] []))
  refine Goes.step (fun _ kK => XS.iinc X_8.here hx rfl (hb hby own_d17_38) rfl (l' := #[.val (.ref a1), .val (.int ((((0 : Int32) + (1 : Int32)) + (1 : Int32)) + (1 : Int32))), .val (.ref a3), .val (.int ((((0 : Int32) + (1 : Int32)) + (1 : Int32)) + (1 : Int32))), .val (.int (3 : Int32)), .val (.int ((((0 : Int32) + (1 : Int32)) + (1 : Int32)) + (1 : Int32))), .val (.int c2)]) rfl kK) ?_
  show Goes pP eE bB _ (T_8.setTop (mkF mM 41 #[.val (.ref a1), .val (.int ((((0 : Int32) + (1 : Int32)) + (1 : Int32)) + (1 : Int32))), .val (.ref a3), .val (.int ((((0 : Int32) + (1 : Int32)) + (1 : Int32)) + (1 : Int32))), .val (.int (3 : Int32)), .val (.int ((((0 : Int32) + (1 : Int32)) + (1 : Int32)) + (1 : Int32))), .val (.int c2)] []))
  refine Goes.step (fun _ kK => XS.goto X_8.here hx rfl (pc0 := 41) (pc' := 3) rfl (hb hby own_d17_41) (by decide) (by decide) kK) ?_
  show Goes pP eE bB _ (T_8.setTop (mkF mM 3 #[.val (.ref a1), .val (.int ((((0 : Int32) + (1 : Int32)) + (1 : Int32)) + (1 : Int32))), .val (.ref a3), .val (.int ((((0 : Int32) + (1 : Int32)) + (1 : Int32)) + (1 : Int32))), .val (.int (3 : Int32)), .val (.int ((((0 : Int32) + (1 : Int32)) + (1 : Int32)) + (1 : Int32))), .val (.int c2)] []))
  refine Goes.step (fun _ kK => XS.iload X_8.here hx rfl (hb hby own_d17_3) rfl kK) ?_
  show Goes pP eE bB _ (T_8.setTop (mkF mM 5 #[.val (.ref a1), .val (.int ((((0 : Int32) + (1 : Int32)) + (1 : Int32)) + (1 : Int32))), .val (.ref a3), .val (.int ((((0 : Int32) + (1 : Int32)) + (1 : Int32)) + (1 : Int32))), .val (.int (3 : Int32)), .val (.int ((((0 : Int32) + (1 : Int32)) + (1 : Int32)) + (1 : Int32))), .val (.int c2)] [(.int ((((0 : Int32) + (1 : Int32)) + (1 : Int32)) + (1 : Int32)))]))
  refine Goes.step (fun _ kK => XS.iload X_8.here hx rfl (hb hby own_d17_5) rfl kK) ?_
  show Goes pP eE bB _ (T_8.setTop (mkF mM 7 #[.val (.ref a1), .val (.int ((((0 : Int32) + (1 : Int32)) + (1 : Int32)) + (1 : Int32))), .val (.ref a3), .val (.int ((((0 : Int32) + (1 : Int32)) + (1 : Int32)) + (1 : Int32))), .val (.int (3 : Int32)), .val (.int ((((0 : Int32) + (1 : Int32)) + (1 : Int32)) + (1 : Int32))), .val (.int c2)] [(.int (3 : Int32)), (.int ((((0 : Int32) + (1 : Int32)) + (1 : Int32)) + (1 : Int32)))]))
  refine Goes.step (fun _ kK => XS.icmpYes X_8.here hx rfl (pc0 := 7) (pc' := 44) rfl (hb hby own_d17_7) rfl (flt (by decide)).2.1 (by decide) (by decide) kK) ?_
  show Goes pP eE bB _ (T_8.setTop (mkF mM 44 #[.val (.ref a1), .val (.int ((((0 : Int32) + (1 : Int32)) + (1 : Int32)) + (1 : Int32))), .val (.ref a3), .val (.int ((((0 : Int32) + (1 : Int32)) + (1 : Int32)) + (1 : Int32))), .val (.int (3 : Int32)), .val (.int ((((0 : Int32) + (1 : Int32)) + (1 : Int32)) + (1 : Int32))), .val (.int c2)] []))
  refine Goes.step (fun _ kK => XS.iload X_8.here hx rfl (hb hby own_d17_44) rfl kK) ?_
  show Goes pP eE bB _ (T_8.setTop (mkF mM 46 #[.val (.ref a1), .val (.int ((((0 : Int32) + (1 : Int32)) + (1 : Int32)) + (1 : Int32))), .val (.ref a3), .val (.int ((((0 : Int32) + (1 : Int32)) + (1 : Int32)) + (1 : Int32))), .val (.int (3 : Int32)), .val (.int ((((0 : Int32) + (1 : Int32)) + (1 : Int32)) + (1 : Int32))), .val (.int c2)] [(.int (3 : Int32))]))
  refine Goes.ret X_8 hx hlk hret rfl (Or.inl ⟨rfl, Or.inl rfl, _, rfl⟩) (hb hby own_d17_46) (by decide) (by decide) ?_
  have u_9 := (Keep.refl h0 [a3]).wr W_2 (Or.inl (List.mem_of_getElem? (i := 0) rfl))
  have u_10 := u_9.wr W_5 (Or.inl (List.mem_of_getElem? (i := 0) rfl))
  have u_11 := u_10.wr W_8 (Or.inl (List.mem_of_getElem? (i := 0) rfl))
  exact ⟨rfl, N_8, by rw [e_8]; exact u_11, by rw [e_8]; exact (A_8).congr (fun i hi => by rcases (show i = 0 ∨ i = 1 ∨ i = 2 by omega) with rfl | rfl | rfl <;> simp [own_bs])⟩
set_option maxRecDepth 65536 in
set_option maxHeartbeats 40000000 in
theorem rmS1_3 (l : Launch) (Z : State) (a0 : Array Value) (hw : ∀ d ∈ tables_1, d.before a0 Z = true) (a1 : Addr) (c0 c1 c2 : Int32) (h0 : Heap) (n0 : Nat) (Z0 : n0 ≤ h0.size) (f : Nat → Value) (A1 : Afn Z h0 a1 .char 3 f) (hf0 : f 0 = .int c0) (hf1 : f 1 = .int c1) (hf2 : f 2 = .int c2) (hc0 : ¬ ((255 : Int32) < c0)) (hc1 : ¬ ((255 : Int32) < c1)) (hc2 : ¬ ((255 : Int32) < c2)) :
    Con l Z (⟨"java/lang/StringUTF16", "compress", "([CII)[B"⟩ : MethodName) jdk_52_method_16_code 6 (some (.array .byte)) ({ frames := 1, cells := 1, slots := 3, locals := 18 } : Room) #[(.ref a1), (.int (0 : Int32)), (.int (3 : Int32))] h0 (fun v h L => ∃ x, v = some (.ref x) ∧ Fr n0 L ∧ Keep h0 h [] ∧ h0.size ≤ x ∧ Afn Z h x .byte 3 (own_bs [c0, c1, c2]) ∧ Exa Z h x "[B") := by
  refine Con.body (plainFor_of_name own_pn1) ?_
  intro pP eE sS mM bB mT cC s₁ hx hby hml hZ hown hnm hret hlk X0 e0
  have hown : sS.vm.findClass "java/lang/StringUTF16" = some mM.cls := hown
  have hml : cC.maxLocals = 6 := hml
  have N0 := Fr.nil n0
  have ef : entryFrame mM #[(.ref a1), (.int (0 : Int32)), (.int (3 : Int32))] 6 = mkF mM 0 #[.val (.ref a1), .val (.int (0 : Int32)), .val (.int (3 : Int32)), .unset, .unset, .unset] [] := by first | (simp [entryFrame, mkF, argsToLocals, Value.category]; done) | rfl
  rw [ef]
  show Goes pP eE bB _ (s₁.setTop (mkF mM 0 #[.val (.ref a1), .val (.int (0 : Int32)), .val (.int (3 : Int32)), .unset, .unset, .unset] []))
  refine Goes.step (fun _ kK => XS.iloadN X0.here hx rfl (hb hby own_d16_0) rfl kK) ?_
  show Goes pP eE bB _ (s₁.setTop (mkF mM 1 #[.val (.ref a1), .val (.int (0 : Int32)), .val (.int (3 : Int32)), .unset, .unset, .unset] [(.int (3 : Int32))]))
  obtain ⟨T_1, h_1, k_1, X_1, e_1, E_1, A_1, M_1, st_1⟩ := newPE X0 hx hZ (hw _ (List.mem_of_getElem? (i := 19) rfl)) e0 (g := (mkF mM 1 #[.val (.ref a1), .val (.int (0 : Int32)), .val (.int (3 : Int32)), .unset, .unset, .unset] [(.int (3 : Int32))])) rfl (hb hby own_d16_1) rfl (by decide) (cap := 3) (by decide) (by decide) (by decide) (by decide) (ad := "[B") rfl
  obtain ⟨b_1, g_1⟩ : ∃ z, z = h0.size := ⟨_, rfl⟩
  rw [← g_1] at A_1 M_1 st_1
  have u_2 : a1 < b_1 := Nat.lt_of_lt_of_le (A1).lt (Nat.le_of_eq g_1.symm)
  have u_3 : n0 ≤ b_1 := Nat.le_trans Z0 (Nat.le_of_eq g_1.symm)
  have u_4 : h0.size ≤ b_1 := Nat.le_trans ((Keep.refl h0 [])).1 (Nat.le_of_eq g_1.symm)
  have u_5 : Afn Z h_1 b_1 .byte 3 (fun _ => (.int (0 : Int32))) := Afn.new (n := 3) A_1 (by decide)
  refine Goes.step st_1 ?_
  show Goes pP eE bB _ (T_1.setTop (mkF mM 3 #[.val (.ref a1), .val (.int (0 : Int32)), .val (.int (3 : Int32)), .unset, .unset, .unset] [(.ref b_1)]))
  refine Goes.step (fun _ kK => XS.astoreN X_1.here hx rfl (hb hby own_d16_3) rfl rfl (l' := #[.val (.ref a1), .val (.int (0 : Int32)), .val (.int (3 : Int32)), .val (.ref b_1), .unset, .unset]) rfl kK) ?_
  show Goes pP eE bB _ (T_1.setTop (mkF mM 4 #[.val (.ref a1), .val (.int (0 : Int32)), .val (.int (3 : Int32)), .val (.ref b_1), .unset, .unset] []))
  refine Goes.step (fun _ kK => XS.aloadN X_1.here hx rfl (hb hby own_d16_4) rfl rfl kK) ?_
  show Goes pP eE bB _ (T_1.setTop (mkF mM 5 #[.val (.ref a1), .val (.int (0 : Int32)), .val (.int (3 : Int32)), .val (.ref b_1), .unset, .unset] [(.ref a1)]))
  refine Goes.step (fun _ kK => XS.iloadN X_1.here hx rfl (hb hby own_d16_5) rfl kK) ?_
  show Goes pP eE bB _ (T_1.setTop (mkF mM 6 #[.val (.ref a1), .val (.int (0 : Int32)), .val (.int (3 : Int32)), .val (.ref b_1), .unset, .unset] [(.int (0 : Int32)), (.ref a1)]))
  refine Goes.step (fun _ kK => XS.aloadN X_1.here hx rfl (hb hby own_d16_6) rfl rfl kK) ?_
  show Goes pP eE bB _ (T_1.setTop (mkF mM 7 #[.val (.ref a1), .val (.int (0 : Int32)), .val (.int (3 : Int32)), .val (.ref b_1), .unset, .unset] [(.ref b_1), (.int (0 : Int32)), (.ref a1)]))
  refine Goes.step (fun _ kK => XS.iconst X_1.here hx rfl (hb hby own_d16_7) kK) ?_
  show Goes pP eE bB _ (T_1.setTop (mkF mM 8 #[.val (.ref a1), .val (.int (0 : Int32)), .val (.int (3 : Int32)), .val (.ref b_1), .unset, .unset] [(.int (0 : Int32)), (.ref b_1), (.int (0 : Int32)), (.ref a1)]))
  refine Goes.step (fun _ kK => XS.iloadN X_1.here hx rfl (hb hby own_d16_8) rfl kK) ?_
  show Goes pP eE bB _ (T_1.setTop (mkF mM 9 #[.val (.ref a1), .val (.int (0 : Int32)), .val (.int (3 : Int32)), .val (.ref b_1), .unset, .unset] [(.int (3 : Int32)), (.int (0 : Int32)), (.ref b_1), (.int (0 : Int32)), (.ref a1)]))
  have u_6 := Nat.le_trans Z0 E_1.1
  have u_7 := A1.ext E_1
  refine Goes.callS X_1 hx hZ hown (hw _ (List.mem_of_getElem? (i := 93) rfl)) (hw _ (List.mem_of_getElem? (i := 94) rfl)) (hw _ (List.mem_of_getElem? (i := 91) rfl)) (hw _ (List.mem_of_getElem? (i := 95) rfl)) (by decide) e_1 (rmS2_3 l Z a0 hw a1 b_1 c0 c1 c2 h_1 n0 u_6 _ _ u_7 u_5 u_3 (Nat.ne_of_lt u_2) hf0 hf1 hf2 hc0 hc1 hc2) (W := 0) (by decide) (by decide) (by decide) (by decide) (g := (mkF mM 9 #[.val (.ref a1), .val (.int (0 : Int32)), .val (.int (3 : Int32)), .val (.ref b_1), .unset, .unset] [(.int (3 : Int32)), (.int (0 : Int32)), (.ref b_1), (.int (0 : Int32)), (.ref a1)])) rfl (by rw [hml]; rfl) (rest := []) own_pd1 rfl rfl (by show 2 * 0 + _ ≤ _; exact Nat.le_of_eq rfl) (hb hby own_d16_9) ?_
  intro v_8 T_8 L_8 X_8 hQ_8
  generalize e_8 : T_8.heap = h_8 at hQ_8
  obtain ⟨rfl, N_8q, K_8, A_8⟩ := hQ_8
  have N_8 := Fr.app N0 N_8q
  show Goes pP eE bB _ (T_8.setTop (mkF mM 12 #[.val (.ref a1), .val (.int (0 : Int32)), .val (.int (3 : Int32)), .val (.ref b_1), .unset, .unset] [(.int (3 : Int32))]))
  refine Goes.step (fun _ kK => XS.istore X_8.here hx rfl (hb hby own_d16_12) rfl (l' := #[.val (.ref a1), .val (.int (0 : Int32)), .val (.int (3 : Int32)), .val (.ref b_1), .val (.int (3 : Int32)), .unset]) rfl kK) ?_
  show Goes pP eE bB _ (T_8.setTop (mkF mM 14 #[.val (.ref a1), .val (.int (0 : Int32)), .val (.int (3 : Int32)), .val (.ref b_1), .val (.int (3 : Int32)), .unset] []))
  refine Goes.step (fun _ kK => XS.iload X_8.here hx rfl (hb hby own_d16_14) rfl kK) ?_
  show Goes pP eE bB _ (T_8.setTop (mkF mM 16 #[.val (.ref a1), .val (.int (0 : Int32)), .val (.int (3 : Int32)), .val (.ref b_1), .val (.int (3 : Int32)), .unset] [(.int (3 : Int32))]))
  refine Goes.step (fun _ kK => XS.iloadN X_8.here hx rfl (hb hby own_d16_16) rfl kK) ?_
  show Goes pP eE bB _ (T_8.setTop (mkF mM 17 #[.val (.ref a1), .val (.int (0 : Int32)), .val (.int (3 : Int32)), .val (.ref b_1), .val (.int (3 : Int32)), .unset] [(.int (3 : Int32)), (.int (3 : Int32))]))
  refine Goes.step (fun _ kK => XS.icmpYes X_8.here hx rfl (pc0 := 17) (pc' := 57) rfl (hb hby own_d16_17) rfl (teq (by decide)).1 (by decide) (by decide) kK) ?_
  show Goes pP eE bB _ (T_8.setTop (mkF mM 57 #[.val (.ref a1), .val (.int (0 : Int32)), .val (.int (3 : Int32)), .val (.ref b_1), .val (.int (3 : Int32)), .unset] []))
  refine Goes.step (fun _ kK => XS.aloadN X_8.here hx rfl (hb hby own_d16_57) rfl rfl kK) ?_
  show Goes pP eE bB _ (T_8.setTop (mkF mM 58 #[.val (.ref a1), .val (.int (0 : Int32)), .val (.int (3 : Int32)), .val (.ref b_1), .val (.int (3 : Int32)), .unset] [(.ref b_1)]))
  refine Goes.ret X_8 hx hlk hret rfl (Or.inr (Or.inr (Or.inr (Or.inr ⟨rfl, rfl, rfl⟩)))) (hb hby own_d16_58) (by decide) (by decide) ?_
  have u_9 := (Keep.refl h0 []).ext E_1
  have u_10 := u_9.trans K_8 (allS (Or.inr u_4) all0)
  have u_11 := M_1.keep K_8
  exact ⟨_, rfl, N_8, by rw [e_8]; exact u_10, u_4, by rw [e_8]; exact A_8, by rw [e_8]; exact u_11⟩
set_option maxRecDepth 65536 in
set_option maxHeartbeats 40000000 in
theorem rmS3_3 (l : Launch) (Z : State) (a0 : Array Value) (hw : ∀ d ∈ tables_1, d.before a0 Z = true) (a1 : Addr) (h0 : Heap) (n0 : Nat) (Z0 : n0 ≤ h0.size) (f : Nat → Value) (A1 : Afn Z h0 a1 .byte 3 f) :
    Con l Z (⟨"java/lang/StringUTF16", "coderFromArrayLen", "([BI)B"⟩ : MethodName) jdk_52_method_15_code 2 (some .byte) ({ frames := 0, cells := 0, slots := 0, locals := 0 } : Room) #[(.ref a1), (.int (3 : Int32))] h0 (fun v h L => v = some (.int (0 : Int32)) ∧ Fr n0 L ∧ h = h0) := by
  refine Con.body (plainFor_of_name own_pn1) ?_
  intro pP eE sS mM bB mT cC s₁ hx hby hml hZ hown hnm hret hlk X0 e0
  have hown : sS.vm.findClass "java/lang/StringUTF16" = some mM.cls := hown
  have hml : cC.maxLocals = 2 := hml
  have N0 := Fr.nil n0
  have ef : entryFrame mM #[(.ref a1), (.int (3 : Int32))] 2 = mkF mM 0 #[.val (.ref a1), .val (.int (3 : Int32))] [] := by first | (simp [entryFrame, mkF, argsToLocals, Value.category]; done) | rfl
  rw [ef]
  show Goes pP eE bB _ (s₁.setTop (mkF mM 0 #[.val (.ref a1), .val (.int (3 : Int32))] []))
  refine Goes.step (fun _ kK => XS.iloadN X0.here hx rfl (hb hby own_d18_0) rfl kK) ?_
  show Goes pP eE bB _ (s₁.setTop (mkF mM 1 #[.val (.ref a1), .val (.int (3 : Int32))] [(.int (3 : Int32))]))
  refine Goes.step (fun _ kK => XS.aloadN X0.here hx rfl (hb hby own_d18_1) rfl rfl kK) ?_
  show Goes pP eE bB _ (s₁.setTop (mkF mM 2 #[.val (.ref a1), .val (.int (3 : Int32))] [(.ref a1), (.int (3 : Int32))]))
  refine Goes.alen X0 hx hZ e0 A1 (z := (3 : Int32)) (by decide) (g := (mkF mM 2 #[.val (.ref a1), .val (.int (3 : Int32))] [(.ref a1), (.int (3 : Int32))])) rfl rfl (hb hby own_d18_2) ?_
  show Goes pP eE bB _ (s₁.setTop (mkF mM 3 #[.val (.ref a1), .val (.int (3 : Int32))] [(.int (3 : Int32)), (.int (3 : Int32))]))
  refine Goes.step (fun _ kK => XS.isub X0.here hx rfl (hb hby own_d18_3) rfl kK) ?_
  show Goes pP eE bB _ (s₁.setTop (mkF mM 4 #[.val (.ref a1), .val (.int (3 : Int32))] [(.int ((3 : Int32) - (3 : Int32)))]))
  refine Goes.step (fun _ kK => XS.bipush X0.here hx rfl (hb hby own_d18_4) kK) ?_
  show Goes pP eE bB _ (s₁.setTop (mkF mM 6 #[.val (.ref a1), .val (.int (3 : Int32))] [(.int (31 : Int32)), (.int ((3 : Int32) - (3 : Int32)))]))
  refine Goes.step (fun _ kK => XS.iushr X0.here hx rfl (hb hby own_d18_6) rfl kK) ?_
  show Goes pP eE bB _ (s₁.setTop (mkF mM 7 #[.val (.ref a1), .val (.int (3 : Int32))] [(.int ((((3 : Int32) - (3 : Int32)).toUInt32 >>> ((31 : Int32) &&& 31).toUInt32).toInt32))]))
  refine Goes.step (fun _ kK => XS.i2b X0.here hx rfl (hb hby own_d18_7) rfl kK) ?_
  show Goes pP eE bB _ (s₁.setTop (mkF mM 8 #[.val (.ref a1), .val (.int (3 : Int32))] [(.int (((((3 : Int32) - (3 : Int32)).toUInt32 >>> ((31 : Int32) &&& 31).toUInt32).toInt32).toInt8.toInt32))]))
  refine Goes.retN X0 hx hlk (t := .byte) hret (by simp) (hb hby own_d18_8) (by decide) (by decide) ?_
  exact ⟨rfl, N0, e0⟩
set_option maxRecDepth 65536 in
set_option maxHeartbeats 40000000 in
theorem rmS4_3 (l : Launch) (Z : State) (a0 : Array Value) (hw : ∀ d ∈ tables_1, d.before a0 Z = true) (a1 a2 : Addr) (c0 c1 c2 : Int32) (cs : Int32) (h0 : Heap) (n0 : Nat) (Z0 : n0 ≤ h0.size) (Scs : Sta Z Z.heap "java/lang/String" "COMPACT_STRINGS" "Z" (.int cs)) (hcs : ¬ (cs = (0 : Int32))) (O0 : Old Z n0 h0) (f : Nat → Value) (A2 : Afn Z h0 a2 .char 3 f) (E1 : Exa Z h0 a1 "java/lang/String") (g1 : n0 ≤ a1) (Fc : Fld Z h0 a1 "java/lang/String" "coder" "B" (.int (0 : Int32))) (Fv : Fld Z h0 a1 "java/lang/String" "value" "[B" .null) (hf0 : f 0 = .int c0) (hf1 : f 1 = .int c1) (hf2 : f 2 = .int c2) (hc0 : ¬ ((255 : Int32) < c0)) (hc1 : ¬ ((255 : Int32) < c1)) (hc2 : ¬ ((255 : Int32) < c2)) :
    Con l Z (⟨"java/lang/String", "<init>", "([CIILjava/lang/Void;)V"⟩ : MethodName) jdk_42_method_149_code 6 none ({ frames := 2, cells := 1, slots := 3, locals := 35 } : Room) #[(.ref a1), (.ref a2), (.int (0 : Int32)), (.int (3 : Int32)), .null] h0 (fun v h L => v = none ∧ Fr n0 L ∧ Keep h0 h [a1] ∧ Fld Z h a1 "java/lang/String" "coder" "B" (.int (0 : Int32)) ∧ ∃ x, Fld Z h a1 "java/lang/String" "value" "[B" (.ref x) ∧ h0.size ≤ x ∧ Afn Z h x .byte 3 (own_bs [c0, c1, c2]) ∧ Exa Z h x "[B") := by
  refine Con.body (plainFor_of_name own_pn0) ?_
  intro pP eE sS mM bB mT cC s₁ hx hby hml hZ hown hnm hret hlk X0 e0
  have hown : sS.vm.findClass "java/lang/String" = some mM.cls := hown
  have hml : cC.maxLocals = 6 := hml
  have N0 := Fr.nil n0
  have ef : entryFrame mM #[(.ref a1), (.ref a2), (.int (0 : Int32)), (.int (3 : Int32)), .null] 6 = mkF mM 0 #[.val (.ref a1), .val (.ref a2), .val (.int (0 : Int32)), .val (.int (3 : Int32)), .val .null, .unset] [] := by first | (simp [entryFrame, mkF, argsToLocals, Value.category]; done) | rfl
  rw [ef]
  show Goes pP eE bB _ (s₁.setTop (mkF mM 0 #[.val (.ref a1), .val (.ref a2), .val (.int (0 : Int32)), .val (.int (3 : Int32)), .val .null, .unset] []))
  refine Goes.step (fun _ kK => XS.aloadN X0.here hx rfl (hb hby own_d3_0) rfl rfl kK) ?_
  show Goes pP eE bB _ (s₁.setTop (mkF mM 1 #[.val (.ref a1), .val (.ref a2), .val (.int (0 : Int32)), .val (.int (3 : Int32)), .val .null, .unset] [(.ref a1)]))
  obtain ⟨T_1, X_1, e_1, st_1⟩ := initO X0 hx hZ hown (hw _ (List.mem_of_getElem? (i := 15) rfl)) (hw _ (List.mem_of_getElem? (i := 16) rfl)) (hw _ (List.mem_of_getElem? (i := 17) rfl)) e0 (g := (mkF mM 1 #[.val (.ref a1), .val (.ref a2), .val (.int (0 : Int32)), .val (.int (3 : Int32)), .val .null, .unset] [(.ref a1)])) rfl (by rw [hml]; rfl) rfl (hb hby own_d3_1) (by decide) (W := 0) (by show 2 * 0 + _ ≤ _; exact Nat.le_of_eq rfl) (by decide)
  refine Goes.step st_1 ?_
  show Goes pP eE bB _ (T_1.setTop (mkF mM 4 #[.val (.ref a1), .val (.ref a2), .val (.int (0 : Int32)), .val (.int (3 : Int32)), .val .null, .unset] []))
  refine Goes.step (fun _ kK => XS.iloadN X_1.here hx rfl (hb hby own_d3_4) rfl kK) ?_
  show Goes pP eE bB _ (T_1.setTop (mkF mM 5 #[.val (.ref a1), .val (.ref a2), .val (.int (0 : Int32)), .val (.int (3 : Int32)), .val .null, .unset] [(.int (3 : Int32))]))
  refine Goes.step (fun _ kK => XS.ifYes X_1.here hx rfl (pc0 := 5) (pc' := 27) rfl (hb hby own_d3_5) rfl ((if0 _ _).trans (feq (by decide)).2) (by decide) (by decide) kK) ?_
  show Goes pP eE bB _ (T_1.setTop (mkF mM 27 #[.val (.ref a1), .val (.ref a2), .val (.int (0 : Int32)), .val (.int (3 : Int32)), .val .null, .unset] []))
  obtain ⟨T_2, X_2, e_2, st_2⟩ := getS2 X_1 hx hZ hown (host := "") (Or.inl (hw _ (List.mem_of_getElem? (i := 72) rfl))) Via.refl e_1 (Scs.ext O0.2) (g := (mkF mM 27 #[.val (.ref a1), .val (.ref a2), .val (.int (0 : Int32)), .val (.int (3 : Int32)), .val .null, .unset] [])) rfl (hb hby own_d3_27)
  refine Goes.step st_2 ?_
  show Goes pP eE bB _ (T_2.setTop (mkF mM 30 #[.val (.ref a1), .val (.ref a2), .val (.int (0 : Int32)), .val (.int (3 : Int32)), .val .null, .unset] [(.int cs)]))
  have hb_3 : ¬ (cs = (0 : Int32)) := hcs
  refine Goes.step (fun _ kK => XS.ifNo X_2.here hx rfl (hb hby own_d3_30) rfl ((if0 _ _).trans (feq hb_3).1) kK) ?_
  show Goes pP eE bB _ (T_2.setTop (mkF mM 33 #[.val (.ref a1), .val (.ref a2), .val (.int (0 : Int32)), .val (.int (3 : Int32)), .val .null, .unset] []))
  refine Goes.step (fun _ kK => XS.aloadN X_2.here hx rfl (hb hby own_d3_33) rfl rfl kK) ?_
  show Goes pP eE bB _ (T_2.setTop (mkF mM 34 #[.val (.ref a1), .val (.ref a2), .val (.int (0 : Int32)), .val (.int (3 : Int32)), .val .null, .unset] [(.ref a2)]))
  refine Goes.step (fun _ kK => XS.iloadN X_2.here hx rfl (hb hby own_d3_34) rfl kK) ?_
  show Goes pP eE bB _ (T_2.setTop (mkF mM 35 #[.val (.ref a1), .val (.ref a2), .val (.int (0 : Int32)), .val (.int (3 : Int32)), .val .null, .unset] [(.int (0 : Int32)), (.ref a2)]))
  refine Goes.step (fun _ kK => XS.iloadN X_2.here hx rfl (hb hby own_d3_35) rfl kK) ?_
  show Goes pP eE bB _ (T_2.setTop (mkF mM 36 #[.val (.ref a1), .val (.ref a2), .val (.int (0 : Int32)), .val (.int (3 : Int32)), .val .null, .unset] [(.int (3 : Int32)), (.int (0 : Int32)), (.ref a2)]))
  refine Goes.callS X_2 hx hZ hown (hw _ (List.mem_of_getElem? (i := 89) rfl)) (hw _ (List.mem_of_getElem? (i := 90) rfl)) (hw _ (List.mem_of_getElem? (i := 91) rfl)) (hw _ (List.mem_of_getElem? (i := 92) rfl)) (by decide) e_2 (rmS1_3 l Z a0 hw a2 c0 c1 c2 h0 n0 Z0 _ A2 hf0 hf1 hf2 hc0 hc1 hc2) (W := 0) (by decide) (by decide) (by decide) (by decide) (g := (mkF mM 36 #[.val (.ref a1), .val (.ref a2), .val (.int (0 : Int32)), .val (.int (3 : Int32)), .val .null, .unset] [(.int (3 : Int32)), (.int (0 : Int32)), (.ref a2)])) rfl (by rw [hml]; rfl) (rest := []) own_pd2 rfl rfl (by show 2 * 0 + _ ≤ _; exact Nat.le_of_eq rfl) (hb hby own_d3_36) ?_
  intro v_4 T_4 L_4 X_4 hQ_4
  generalize e_4 : T_4.heap = h_4 at hQ_4
  obtain ⟨b_4, rfl, N_4q, K_4, s_4, A_4, M_4⟩ := hQ_4
  have N_4 := Fr.app N0 N_4q
  have u_5 : a2 < b_4 := Nat.lt_of_lt_of_le (A2).lt s_4
  have u_6 : a1 < b_4 := Nat.lt_of_lt_of_le (E1).lt s_4
  have u_7 : n0 ≤ b_4 := Nat.le_trans Z0 s_4
  have u_8 : h0.size ≤ b_4 := Nat.le_trans ((Keep.refl h0 [a1])).1 s_4
  show Goes pP eE bB _ (T_4.setTop (mkF mM 39 #[.val (.ref a1), .val (.ref a2), .val (.int (0 : Int32)), .val (.int (3 : Int32)), .val .null, .unset] [(.ref b_4)]))
  refine Goes.step (fun _ kK => XS.astore X_4.here hx rfl (hb hby own_d3_39) rfl rfl (l' := #[.val (.ref a1), .val (.ref a2), .val (.int (0 : Int32)), .val (.int (3 : Int32)), .val .null, .val (.ref b_4)]) rfl kK) ?_
  show Goes pP eE bB _ (T_4.setTop (mkF mM 41 #[.val (.ref a1), .val (.ref a2), .val (.int (0 : Int32)), .val (.int (3 : Int32)), .val .null, .val (.ref b_4)] []))
  refine Goes.step (fun _ kK => XS.aloadN X_4.here hx rfl (hb hby own_d3_41) rfl rfl kK) ?_
  show Goes pP eE bB _ (T_4.setTop (mkF mM 42 #[.val (.ref a1), .val (.ref a2), .val (.int (0 : Int32)), .val (.int (3 : Int32)), .val .null, .val (.ref b_4)] [(.ref a1)]))
  refine Goes.step (fun _ kK => XS.aload X_4.here hx rfl (hb hby own_d3_42) rfl rfl kK) ?_
  show Goes pP eE bB _ (T_4.setTop (mkF mM 44 #[.val (.ref a1), .val (.ref a2), .val (.int (0 : Int32)), .val (.int (3 : Int32)), .val .null, .val (.ref b_4)] [(.ref b_4), (.ref a1)]))
  refine Goes.step (fun _ kK => XS.iloadN X_4.here hx rfl (hb hby own_d3_44) rfl kK) ?_
  show Goes pP eE bB _ (T_4.setTop (mkF mM 45 #[.val (.ref a1), .val (.ref a2), .val (.int (0 : Int32)), .val (.int (3 : Int32)), .val .null, .val (.ref b_4)] [(.int (3 : Int32)), (.ref b_4), (.ref a1)]))
  have u_9 := Nat.le_trans Z0 K_4.1
  refine Goes.callS X_4 hx hZ hown (hw _ (List.mem_of_getElem? (i := 96) rfl)) (hw _ (List.mem_of_getElem? (i := 97) rfl)) (hw _ (List.mem_of_getElem? (i := 91) rfl)) (hw _ (List.mem_of_getElem? (i := 98) rfl)) (by decide) e_4 (rmS3_3 l Z a0 hw b_4 h_4 n0 u_9 _ A_4) (W := 1) (by decide) (by decide) (by decide) (by decide) (g := (mkF mM 45 #[.val (.ref a1), .val (.ref a2), .val (.int (0 : Int32)), .val (.int (3 : Int32)), .val .null, .val (.ref b_4)] [(.int (3 : Int32)), (.ref b_4), (.ref a1)])) rfl (by rw [hml]; rfl) (rest := [(.ref a1)]) own_pd3 rfl rfl (by show 2 * 0 + _ ≤ _; exact Nat.le_of_eq rfl) (hb hby own_d3_45) ?_
  intro v_10 T_10 L_10 X_10 hQ_10
  obtain ⟨rfl, N_10q, e_10⟩ := hQ_10
  have N_10 := Fr.app N_4 N_10q
  show Goes pP eE bB _ (T_10.setTop (mkF mM 48 #[.val (.ref a1), .val (.ref a2), .val (.int (0 : Int32)), .val (.int (3 : Int32)), .val .null, .val (.ref b_4)] [(.int (0 : Int32)), (.ref a1)]))
  have u_11 := Fc.keep K_4 nin0
  have u_12 := E1.keep K_4
  obtain ⟨T_13, h_13, X_13, e_13, W_13, st_13⟩ := putF X_10 hx hZ hown (host := "") (Or.inl (hw _ (List.mem_of_getElem? (i := 25) rfl))) Via.refl e_10 u_11 u_12 (Or.inr ⟨(hw _ (List.mem_of_getElem? (i := 21) rfl)), rfl, hnm⟩) (hw _ (List.mem_of_getElem? (i := 6) rfl)) (ty := .byte) (by decide) rfl rfl (g := (mkF mM 48 #[.val (.ref a1), .val (.ref a2), .val (.int (0 : Int32)), .val (.int (3 : Int32)), .val .null, .val (.ref b_4)] [(.int (0 : Int32)), (.ref a1)])) rfl rfl (hb hby own_d3_48)
  have u_14 := u_11.same W_13
  have N_13 := Fr.snoc X_13 N_10 g1
  refine Goes.step st_13 ?_
  show Goes pP eE bB _ (T_13.setTop (mkF mM 51 #[.val (.ref a1), .val (.ref a2), .val (.int (0 : Int32)), .val (.int (3 : Int32)), .val .null, .val (.ref b_4)] []))
  refine Goes.step (fun _ kK => XS.aloadN X_13.here hx rfl (hb hby own_d3_51) rfl rfl kK) ?_
  show Goes pP eE bB _ (T_13.setTop (mkF mM 52 #[.val (.ref a1), .val (.ref a2), .val (.int (0 : Int32)), .val (.int (3 : Int32)), .val .null, .val (.ref b_4)] [(.ref a1)]))
  refine Goes.step (fun _ kK => XS.aload X_13.here hx rfl (hb hby own_d3_52) rfl rfl kK) ?_
  show Goes pP eE bB _ (T_13.setTop (mkF mM 54 #[.val (.ref a1), .val (.ref a2), .val (.int (0 : Int32)), .val (.int (3 : Int32)), .val .null, .val (.ref b_4)] [(.ref b_4), (.ref a1)]))
  have u_15 := Fv.keep K_4 nin0
  have u_16 := u_15.other W_13 (Or.inr (slot_ne (Or.inr (hw _ (List.mem_of_getElem? (i := 20) rfl))) (Or.inr (hw _ (List.mem_of_getElem? (i := 21) rfl))) (by decide) (t := (.array .byte)) (t' := .byte) (by decide) (by decide)))
  have u_17 := u_12.wr W_13
  obtain ⟨T_18, h_18, X_18, e_18, W_18, st_18⟩ := putF X_13 hx hZ hown (host := "") (Or.inl (hw _ (List.mem_of_getElem? (i := 24) rfl))) Via.refl e_13 u_16 u_17 (Or.inr ⟨(hw _ (List.mem_of_getElem? (i := 20) rfl)), rfl, hnm⟩) (hw _ (List.mem_of_getElem? (i := 6) rfl)) (ty := (.array .byte)) (by decide) rfl rfl (g := (mkF mM 54 #[.val (.ref a1), .val (.ref a2), .val (.int (0 : Int32)), .val (.int (3 : Int32)), .val .null, .val (.ref b_4)] [(.ref b_4), (.ref a1)])) rfl rfl (hb hby own_d3_54)
  have u_19 := u_16.same W_18
  have N_18 := Fr.snoc X_18 N_13 g1
  refine Goes.step st_18 ?_
  show Goes pP eE bB _ (T_18.setTop (mkF mM 57 #[.val (.ref a1), .val (.ref a2), .val (.int (0 : Int32)), .val (.int (3 : Int32)), .val .null, .val (.ref b_4)] []))
  refine Goes.ret0 X_18 hx hlk hret (hb hby own_d3_57) (by decide) (by decide) ?_
  have u_20 := (Keep.refl h0 [a1]).trans K_4 all0
  have u_21 := u_20.wr W_13 (Or.inl (List.mem_of_getElem? (i := 0) rfl))
  have u_22 := u_21.wr W_18 (Or.inl (List.mem_of_getElem? (i := 0) rfl))
  have u_23 := u_14.other W_18 (Or.inr (slot_ne (Or.inr (hw _ (List.mem_of_getElem? (i := 21) rfl))) (Or.inr (hw _ (List.mem_of_getElem? (i := 20) rfl))) (by decide) (t := .byte) (t' := (.array .byte)) (by decide) (by decide)))
  have u_24 := A_4.other W_13 (Nat.ne_of_gt u_6)
  have u_25 := u_24.other W_18 (Nat.ne_of_gt u_6)
  have u_26 := M_4.wr W_13
  have u_27 := u_26.wr W_18
  exact ⟨rfl, N_18, by rw [e_18]; exact u_22, by rw [e_18]; exact u_23, b_4, by rw [e_18]; exact u_19, u_8, by rw [e_18]; exact u_25, by rw [e_18]; exact u_27⟩
set_option maxRecDepth 65536 in
set_option maxHeartbeats 40000000 in
theorem rmS5_3 (l : Launch) (Z : State) (a0 : Array Value) (hw : ∀ d ∈ tables_1, d.before a0 Z = true) (a1 a2 : Addr) (c0 c1 c2 : Int32) (cs : Int32) (h0 : Heap) (n0 : Nat) (Z0 : n0 ≤ h0.size) (Scs : Sta Z Z.heap "java/lang/String" "COMPACT_STRINGS" "Z" (.int cs)) (hcs : ¬ (cs = (0 : Int32))) (O0 : Old Z n0 h0) (f : Nat → Value) (A2 : Afn Z h0 a2 .char 3 f) (E1 : Exa Z h0 a1 "java/lang/String") (g1 : n0 ≤ a1) (Fc : Fld Z h0 a1 "java/lang/String" "coder" "B" (.int (0 : Int32))) (Fv : Fld Z h0 a1 "java/lang/String" "value" "[B" .null) (hf0 : f 0 = .int c0) (hf1 : f 1 = .int c1) (hf2 : f 2 = .int c2) (hc0 : ¬ ((255 : Int32) < c0)) (hc1 : ¬ ((255 : Int32) < c1)) (hc2 : ¬ ((255 : Int32) < c2)) :
    Con l Z (⟨"java/lang/String", "<init>", "([C)V"⟩ : MethodName) jdk_42_method_3_code 2 none ({ frames := 3, cells := 1, slots := 3, locals := 52 } : Room) #[(.ref a1), (.ref a2)] h0 (fun v h L => v = none ∧ Fr n0 L ∧ Keep h0 h [a1] ∧ Fld Z h a1 "java/lang/String" "coder" "B" (.int (0 : Int32)) ∧ ∃ x, Fld Z h a1 "java/lang/String" "value" "[B" (.ref x) ∧ h0.size ≤ x ∧ Afn Z h x .byte 3 (own_bs [c0, c1, c2]) ∧ Exa Z h x "[B") := by
  refine Con.body (plainFor_of_name own_pn0) ?_
  intro pP eE sS mM bB mT cC s₁ hx hby hml hZ hown hnm hret hlk X0 e0
  have hown : sS.vm.findClass "java/lang/String" = some mM.cls := hown
  have hml : cC.maxLocals = 2 := hml
  have N0 := Fr.nil n0
  have ef : entryFrame mM #[(.ref a1), (.ref a2)] 2 = mkF mM 0 #[.val (.ref a1), .val (.ref a2)] [] := by first | (simp [entryFrame, mkF, argsToLocals, Value.category]; done) | rfl
  rw [ef]
  show Goes pP eE bB _ (s₁.setTop (mkF mM 0 #[.val (.ref a1), .val (.ref a2)] []))
  refine Goes.step (fun _ kK => XS.aloadN X0.here hx rfl (hb hby own_d2_0) rfl rfl kK) ?_
  show Goes pP eE bB _ (s₁.setTop (mkF mM 1 #[.val (.ref a1), .val (.ref a2)] [(.ref a1)]))
  refine Goes.step (fun _ kK => XS.aloadN X0.here hx rfl (hb hby own_d2_1) rfl rfl kK) ?_
  show Goes pP eE bB _ (s₁.setTop (mkF mM 2 #[.val (.ref a1), .val (.ref a2)] [(.ref a2), (.ref a1)]))
  refine Goes.step (fun _ kK => XS.iconst X0.here hx rfl (hb hby own_d2_2) kK) ?_
  show Goes pP eE bB _ (s₁.setTop (mkF mM 3 #[.val (.ref a1), .val (.ref a2)] [(.int (0 : Int32)), (.ref a2), (.ref a1)]))
  refine Goes.step (fun _ kK => XS.aloadN X0.here hx rfl (hb hby own_d2_3) rfl rfl kK) ?_
  show Goes pP eE bB _ (s₁.setTop (mkF mM 4 #[.val (.ref a1), .val (.ref a2)] [(.ref a2), (.int (0 : Int32)), (.ref a2), (.ref a1)]))
  refine Goes.alen X0 hx hZ e0 A2 (z := (3 : Int32)) (by decide) (g := (mkF mM 4 #[.val (.ref a1), .val (.ref a2)] [(.ref a2), (.int (0 : Int32)), (.ref a2), (.ref a1)])) rfl rfl (hb hby own_d2_4) ?_
  show Goes pP eE bB _ (s₁.setTop (mkF mM 5 #[.val (.ref a1), .val (.ref a2)] [(.int (3 : Int32)), (.int (0 : Int32)), (.ref a2), (.ref a1)]))
  refine Goes.step (fun _ kK => XS.aconstNull X0.here hx rfl (hb hby own_d2_5) kK) ?_
  show Goes pP eE bB _ (s₁.setTop (mkF mM 6 #[.val (.ref a1), .val (.ref a2)] [.null, (.int (3 : Int32)), (.int (0 : Int32)), (.ref a2), (.ref a1)]))
  refine Goes.callI X0 hx hZ rfl hown (hw _ (List.mem_of_getElem? (i := 11) rfl)) (hw _ (List.mem_of_getElem? (i := 12) rfl)) (hw _ (List.mem_of_getElem? (i := 14) rfl)) (hw _ (List.mem_of_getElem? (i := 7) rfl)) (by decide) e0 (rmS4_3 l Z a0 hw a1 a2 c0 c1 c2 cs h0 n0 Z0 Scs hcs O0 _ A2 E1 g1 Fc Fv hf0 hf1 hf2 hc0 hc1 hc2) (W := 0) (by decide) (by decide) (by decide) (by decide) (g := (mkF mM 6 #[.val (.ref a1), .val (.ref a2)] [.null, (.int (3 : Int32)), (.int (0 : Int32)), (.ref a2), (.ref a1)])) rfl (by rw [hml]; rfl) (rest := []) own_pd0 rfl rfl (by show 2 * 0 + _ ≤ _; exact Nat.le_of_eq rfl) (hb hby own_d2_6) ?_
  intro v_1 T_1 L_1 X_1 hQ_1
  generalize e_1 : T_1.heap = h_1 at hQ_1
  obtain ⟨rfl, N_1q, K_1, F_1c, b_1, F_1v, s_1, A_1, M_1⟩ := hQ_1
  have N_1 := Fr.app N0 N_1q
  have u_2 : a2 < b_1 := Nat.lt_of_lt_of_le (A2).lt s_1
  have u_3 : a1 < b_1 := Nat.lt_of_lt_of_le (E1).lt s_1
  have u_4 : n0 ≤ b_1 := Nat.le_trans Z0 s_1
  have u_5 : h0.size ≤ b_1 := Nat.le_trans ((Keep.refl h0 [a1])).1 s_1
  show Goes pP eE bB _ (T_1.setTop (mkF mM 9 #[.val (.ref a1), .val (.ref a2)] []))
  refine Goes.ret0 X_1 hx hlk hret (hb hby own_d2_9) (by decide) (by decide) ?_
  have u_6 := (Keep.refl h0 [a1]).trans K_1 (allS (Or.inl (List.mem_of_getElem? (i := 0) rfl)) all0)
  exact ⟨rfl, N_1, by rw [e_1]; exact u_6, by rw [e_1]; exact F_1c, b_1, by rw [e_1]; exact F_1v, u_5, by rw [e_1]; exact A_1, by rw [e_1]; exact M_1⟩
theorem own_ch (x : Int32) : ¬ ((255 : Int32) < nar .char ((x &&& (255 : Int32)).toUInt32.toUInt16.toUInt32.toInt32)) := by
  rw [i2c_mask]
  show ¬ ((255 : Int32) < (x &&& (255 : Int32)).toUInt32.toUInt16.toUInt32.toInt32)
  rw [i2c_mask]
  have hm : (x &&& (255 : Int32)).toInt = x.toInt % 2 ^ 8 := Jvm.Kit.i32_mask x 255 (k := 8) (by decide) (by decide)
  rw [Int32.lt_iff_toInt_lt, hm, show (255 : Int32).toInt = 255 from by decide]; omega
theorem own_m3 {x : Int32} (h0 : ¬ (x &&& (3 : Int32) = (0 : Int32))) (h1 : ¬ (x &&& (3 : Int32) = (1 : Int32))) (h2 : ¬ (x &&& (3 : Int32) = (2 : Int32))) : x &&& (3 : Int32) = (3 : Int32) := by
  have hm : (x &&& (3 : Int32)).toInt = x.toInt % 2 ^ 2 := Jvm.Kit.i32_mask x 3 (k := 2) (by decide) (by decide)
  rw [← Int32.toInt_inj] at h0 h1 h2 ⊢
  rw [hm] at h0 h1 h2 ⊢
  rw [show (0 : Int32).toInt = 0 from by decide] at h0
  rw [show (1 : Int32).toInt = 1 from by decide] at h1
  rw [show (2 : Int32).toInt = 2 from by decide] at h2
  rw [show (3 : Int32).toInt = 3 from by decide]
  omega
set_option maxRecDepth 65536 in
set_option maxHeartbeats 40000000 in
theorem rmD (l : Launch) (Z : State) (a0 : Array Value) (hw : ∀ d ∈ tables_1, d.before a0 Z = true) (p1 p2 p3 p4 : Int32) (cs : Int32) (h0 : Heap) (n0 : Nat) (Z0 : n0 ≤ h0.size) (Scs : Sta Z Z.heap "java/lang/String" "COMPACT_STRINGS" "Z" (.int cs)) (hcs : ¬ (cs = (0 : Int32))) (O0 : Old Z n0 h0) :
    ConH l Z own_EL [] (⟨"com/example/cicada/cicada/engine/GroupWithDefaultsPinLaw", "drawName", "(IIII)Ljava/lang/String;"⟩ : MethodName) method_2_code 9 (some (.object "java/lang/String")) ({ frames := 4, cells := 6, slots := 12, locals := 66 } : Room) #[(.int p1), (.int p2), (.int p3), (.int p4)] h0 (fun v h L => ∃ (a b : Addr) (k : Nat) (f : Nat → Value), v = some (.ref a) ∧ Fr n0 L ∧ Keep h0 h [] ∧ h0.size ≤ a ∧ Exa Z h a "java/lang/String" ∧ Fld Z h a "java/lang/String" "coder" "B" (.int (0 : Int32)) ∧ Fld Z h a "java/lang/String" "value" "[B" (.ref b) ∧ Afn Z h b .byte k f ∧ (p1 &&& (3 : Int32)).toInt = (k : Int)) := by
  refine ConH.body (plainFor_of_name own_pn2) ?_
  intro pP eE sS vm0 mM bB mT cC s₁ hx hby hml hZ hown hnm hret hlk X0 e0 hS hs0 C0 sf0
  have hown : (sS.setVm vm0).vm.findClass "com/example/cicada/cicada/engine/GroupWithDefaultsPinLaw" = some mM.cls := hown
  have hml : cC.maxLocals = 9 := hml
  have N0 := Fr.nil n0
  have ef : entryFrame mM #[(.int p1), (.int p2), (.int p3), (.int p4)] 9 = mkF mM 0 #[.val (.int p1), .val (.int p2), .val (.int p3), .val (.int p4), .unset, .unset, .unset, .unset, .unset] [] := by first | (simp [entryFrame, mkF, argsToLocals, Value.category]; done) | rfl
  rw [ef]
  show Goes pP eE bB _ (s₁.setTop (mkF mM 0 #[.val (.int p1), .val (.int p2), .val (.int p3), .val (.int p4), .unset, .unset, .unset, .unset, .unset] []))
  refine Goes.step (fun _ kK => XS.iloadN X0.here hx rfl (hb hby own_d1_0) rfl kK) ?_
  show Goes pP eE bB _ (s₁.setTop (mkF mM 1 #[.val (.int p1), .val (.int p2), .val (.int p3), .val (.int p4), .unset, .unset, .unset, .unset, .unset] [(.int p1)]))
  refine Goes.step (fun _ kK => XS.iconst X0.here hx rfl (hb hby own_d1_1) kK) ?_
  show Goes pP eE bB _ (s₁.setTop (mkF mM 2 #[.val (.int p1), .val (.int p2), .val (.int p3), .val (.int p4), .unset, .unset, .unset, .unset, .unset] [(.int (3 : Int32)), (.int p1)]))
  refine Goes.step (fun _ kK => XS.iand X0.here hx rfl (hb hby own_d1_2) rfl kK) ?_
  show Goes pP eE bB _ (s₁.setTop (mkF mM 3 #[.val (.int p1), .val (.int p2), .val (.int p3), .val (.int p4), .unset, .unset, .unset, .unset, .unset] [(.int (p1 &&& (3 : Int32)))]))
  refine Goes.step (fun _ kK => XS.istore X0.here hx rfl (hb hby own_d1_3) rfl (l' := #[.val (.int p1), .val (.int p2), .val (.int p3), .val (.int p4), .val (.int (p1 &&& (3 : Int32))), .unset, .unset, .unset, .unset]) rfl kK) ?_
  show Goes pP eE bB _ (s₁.setTop (mkF mM 5 #[.val (.int p1), .val (.int p2), .val (.int p3), .val (.int p4), .val (.int (p1 &&& (3 : Int32))), .unset, .unset, .unset, .unset] []))
  refine Goes.step (fun _ kK => XS.iloadN X0.here hx rfl (hb hby own_d1_5) rfl kK) ?_
  show Goes pP eE bB _ (s₁.setTop (mkF mM 6 #[.val (.int p1), .val (.int p2), .val (.int p3), .val (.int p4), .val (.int (p1 &&& (3 : Int32))), .unset, .unset, .unset, .unset] [(.int p2)]))
  refine Goes.step (fun _ kK => XS.sipush X0.here hx rfl (hb hby own_d1_6) kK) ?_
  show Goes pP eE bB _ (s₁.setTop (mkF mM 9 #[.val (.int p1), .val (.int p2), .val (.int p3), .val (.int p4), .val (.int (p1 &&& (3 : Int32))), .unset, .unset, .unset, .unset] [(.int (255 : Int32)), (.int p2)]))
  refine Goes.step (fun _ kK => XS.iand X0.here hx rfl (hb hby own_d1_9) rfl kK) ?_
  show Goes pP eE bB _ (s₁.setTop (mkF mM 10 #[.val (.int p1), .val (.int p2), .val (.int p3), .val (.int p4), .val (.int (p1 &&& (3 : Int32))), .unset, .unset, .unset, .unset] [(.int (p2 &&& (255 : Int32)))]))
  refine Goes.step (fun _ kK => XS.i2c X0.here hx rfl (hb hby own_d1_10) rfl kK) ?_
  show Goes pP eE bB _ (s₁.setTop (mkF mM 11 #[.val (.int p1), .val (.int p2), .val (.int p3), .val (.int p4), .val (.int (p1 &&& (3 : Int32))), .unset, .unset, .unset, .unset] [(.int ((p2 &&& (255 : Int32)).toUInt32.toUInt16.toUInt32.toInt32))]))
  refine Goes.step (fun _ kK => XS.istore X0.here hx rfl (hb hby own_d1_11) rfl (l' := #[.val (.int p1), .val (.int p2), .val (.int p3), .val (.int p4), .val (.int (p1 &&& (3 : Int32))), .val (.int ((p2 &&& (255 : Int32)).toUInt32.toUInt16.toUInt32.toInt32)), .unset, .unset, .unset]) rfl kK) ?_
  show Goes pP eE bB _ (s₁.setTop (mkF mM 13 #[.val (.int p1), .val (.int p2), .val (.int p3), .val (.int p4), .val (.int (p1 &&& (3 : Int32))), .val (.int ((p2 &&& (255 : Int32)).toUInt32.toUInt16.toUInt32.toInt32)), .unset, .unset, .unset] []))
  refine Goes.step (fun _ kK => XS.iloadN X0.here hx rfl (hb hby own_d1_13) rfl kK) ?_
  show Goes pP eE bB _ (s₁.setTop (mkF mM 14 #[.val (.int p1), .val (.int p2), .val (.int p3), .val (.int p4), .val (.int (p1 &&& (3 : Int32))), .val (.int ((p2 &&& (255 : Int32)).toUInt32.toUInt16.toUInt32.toInt32)), .unset, .unset, .unset] [(.int p3)]))
  refine Goes.step (fun _ kK => XS.sipush X0.here hx rfl (hb hby own_d1_14) kK) ?_
  show Goes pP eE bB _ (s₁.setTop (mkF mM 17 #[.val (.int p1), .val (.int p2), .val (.int p3), .val (.int p4), .val (.int (p1 &&& (3 : Int32))), .val (.int ((p2 &&& (255 : Int32)).toUInt32.toUInt16.toUInt32.toInt32)), .unset, .unset, .unset] [(.int (255 : Int32)), (.int p3)]))
  refine Goes.step (fun _ kK => XS.iand X0.here hx rfl (hb hby own_d1_17) rfl kK) ?_
  show Goes pP eE bB _ (s₁.setTop (mkF mM 18 #[.val (.int p1), .val (.int p2), .val (.int p3), .val (.int p4), .val (.int (p1 &&& (3 : Int32))), .val (.int ((p2 &&& (255 : Int32)).toUInt32.toUInt16.toUInt32.toInt32)), .unset, .unset, .unset] [(.int (p3 &&& (255 : Int32)))]))
  refine Goes.step (fun _ kK => XS.i2c X0.here hx rfl (hb hby own_d1_18) rfl kK) ?_
  show Goes pP eE bB _ (s₁.setTop (mkF mM 19 #[.val (.int p1), .val (.int p2), .val (.int p3), .val (.int p4), .val (.int (p1 &&& (3 : Int32))), .val (.int ((p2 &&& (255 : Int32)).toUInt32.toUInt16.toUInt32.toInt32)), .unset, .unset, .unset] [(.int ((p3 &&& (255 : Int32)).toUInt32.toUInt16.toUInt32.toInt32))]))
  refine Goes.step (fun _ kK => XS.istore X0.here hx rfl (hb hby own_d1_19) rfl (l' := #[.val (.int p1), .val (.int p2), .val (.int p3), .val (.int p4), .val (.int (p1 &&& (3 : Int32))), .val (.int ((p2 &&& (255 : Int32)).toUInt32.toUInt16.toUInt32.toInt32)), .val (.int ((p3 &&& (255 : Int32)).toUInt32.toUInt16.toUInt32.toInt32)), .unset, .unset]) rfl kK) ?_
  show Goes pP eE bB _ (s₁.setTop (mkF mM 21 #[.val (.int p1), .val (.int p2), .val (.int p3), .val (.int p4), .val (.int (p1 &&& (3 : Int32))), .val (.int ((p2 &&& (255 : Int32)).toUInt32.toUInt16.toUInt32.toInt32)), .val (.int ((p3 &&& (255 : Int32)).toUInt32.toUInt16.toUInt32.toInt32)), .unset, .unset] []))
  refine Goes.step (fun _ kK => XS.iloadN X0.here hx rfl (hb hby own_d1_21) rfl kK) ?_
  show Goes pP eE bB _ (s₁.setTop (mkF mM 22 #[.val (.int p1), .val (.int p2), .val (.int p3), .val (.int p4), .val (.int (p1 &&& (3 : Int32))), .val (.int ((p2 &&& (255 : Int32)).toUInt32.toUInt16.toUInt32.toInt32)), .val (.int ((p3 &&& (255 : Int32)).toUInt32.toUInt16.toUInt32.toInt32)), .unset, .unset] [(.int p4)]))
  refine Goes.step (fun _ kK => XS.sipush X0.here hx rfl (hb hby own_d1_22) kK) ?_
  show Goes pP eE bB _ (s₁.setTop (mkF mM 25 #[.val (.int p1), .val (.int p2), .val (.int p3), .val (.int p4), .val (.int (p1 &&& (3 : Int32))), .val (.int ((p2 &&& (255 : Int32)).toUInt32.toUInt16.toUInt32.toInt32)), .val (.int ((p3 &&& (255 : Int32)).toUInt32.toUInt16.toUInt32.toInt32)), .unset, .unset] [(.int (255 : Int32)), (.int p4)]))
  refine Goes.step (fun _ kK => XS.iand X0.here hx rfl (hb hby own_d1_25) rfl kK) ?_
  show Goes pP eE bB _ (s₁.setTop (mkF mM 26 #[.val (.int p1), .val (.int p2), .val (.int p3), .val (.int p4), .val (.int (p1 &&& (3 : Int32))), .val (.int ((p2 &&& (255 : Int32)).toUInt32.toUInt16.toUInt32.toInt32)), .val (.int ((p3 &&& (255 : Int32)).toUInt32.toUInt16.toUInt32.toInt32)), .unset, .unset] [(.int (p4 &&& (255 : Int32)))]))
  refine Goes.step (fun _ kK => XS.i2c X0.here hx rfl (hb hby own_d1_26) rfl kK) ?_
  show Goes pP eE bB _ (s₁.setTop (mkF mM 27 #[.val (.int p1), .val (.int p2), .val (.int p3), .val (.int p4), .val (.int (p1 &&& (3 : Int32))), .val (.int ((p2 &&& (255 : Int32)).toUInt32.toUInt16.toUInt32.toInt32)), .val (.int ((p3 &&& (255 : Int32)).toUInt32.toUInt16.toUInt32.toInt32)), .unset, .unset] [(.int ((p4 &&& (255 : Int32)).toUInt32.toUInt16.toUInt32.toInt32))]))
  refine Goes.step (fun _ kK => XS.istore X0.here hx rfl (hb hby own_d1_27) rfl (l' := #[.val (.int p1), .val (.int p2), .val (.int p3), .val (.int p4), .val (.int (p1 &&& (3 : Int32))), .val (.int ((p2 &&& (255 : Int32)).toUInt32.toUInt16.toUInt32.toInt32)), .val (.int ((p3 &&& (255 : Int32)).toUInt32.toUInt16.toUInt32.toInt32)), .val (.int ((p4 &&& (255 : Int32)).toUInt32.toUInt16.toUInt32.toInt32)), .unset]) rfl kK) ?_
  show Goes pP eE bB _ (s₁.setTop (mkF mM 29 #[.val (.int p1), .val (.int p2), .val (.int p3), .val (.int p4), .val (.int (p1 &&& (3 : Int32))), .val (.int ((p2 &&& (255 : Int32)).toUInt32.toUInt16.toUInt32.toInt32)), .val (.int ((p3 &&& (255 : Int32)).toUInt32.toUInt16.toUInt32.toInt32)), .val (.int ((p4 &&& (255 : Int32)).toUInt32.toUInt16.toUInt32.toInt32)), .unset] []))
  refine Goes.step (fun _ kK => XS.iload X0.here hx rfl (hb hby own_d1_29) rfl kK) ?_
  show Goes pP eE bB _ (s₁.setTop (mkF mM 31 #[.val (.int p1), .val (.int p2), .val (.int p3), .val (.int p4), .val (.int (p1 &&& (3 : Int32))), .val (.int ((p2 &&& (255 : Int32)).toUInt32.toUInt16.toUInt32.toInt32)), .val (.int ((p3 &&& (255 : Int32)).toUInt32.toUInt16.toUInt32.toInt32)), .val (.int ((p4 &&& (255 : Int32)).toUInt32.toUInt16.toUInt32.toInt32)), .unset] [(.int (p1 &&& (3 : Int32)))]))
  by_cases hc_1 : (p1 &&& (3 : Int32)) = (0 : Int32)
  · refine Goes.step (fun _ kK => XS.ifNo X0.here hx rfl (hb hby own_d1_31) rfl ((if0 _ _).trans (teq hc_1).2) kK) ?_
    show Goes pP eE bB _ (s₁.setTop (mkF mM 34 #[.val (.int p1), .val (.int p2), .val (.int p3), .val (.int p4), .val (.int (p1 &&& (3 : Int32))), .val (.int ((p2 &&& (255 : Int32)).toUInt32.toUInt16.toUInt32.toInt32)), .val (.int ((p3 &&& (255 : Int32)).toUInt32.toUInt16.toUInt32.toInt32)), .val (.int ((p4 &&& (255 : Int32)).toUInt32.toUInt16.toUInt32.toInt32)), .unset] []))
    refine Goes.step (fun _ kK => XS.iconst X0.here hx rfl (hb hby own_d1_34) kK) ?_
    show Goes pP eE bB _ (s₁.setTop (mkF mM 35 #[.val (.int p1), .val (.int p2), .val (.int p3), .val (.int p4), .val (.int (p1 &&& (3 : Int32))), .val (.int ((p2 &&& (255 : Int32)).toUInt32.toUInt16.toUInt32.toInt32)), .val (.int ((p3 &&& (255 : Int32)).toUInt32.toUInt16.toUInt32.toInt32)), .val (.int ((p4 &&& (255 : Int32)).toUInt32.toUInt16.toUInt32.toInt32)), .unset] [(.int (0 : Int32))]))
    obtain ⟨T_2, h_2, k_2, X_2, e_2, E_2, A_2, M_2, st_2⟩ := newPE X0 hx hZ (hw _ (List.mem_of_getElem? (i := 4) rfl)) e0 (g := (mkF mM 35 #[.val (.int p1), .val (.int p2), .val (.int p3), .val (.int p4), .val (.int (p1 &&& (3 : Int32))), .val (.int ((p2 &&& (255 : Int32)).toUInt32.toUInt16.toUInt32.toInt32)), .val (.int ((p3 &&& (255 : Int32)).toUInt32.toUInt16.toUInt32.toInt32)), .val (.int ((p4 &&& (255 : Int32)).toUInt32.toUInt16.toUInt32.toInt32)), .unset] [(.int (0 : Int32))])) rfl (hb hby own_d1_35) rfl (by decide) (cap := 0) (by decide) (by decide) (by decide) (by decide) (ad := "[C") rfl
    obtain ⟨b_2, g_2⟩ : ∃ z, z = h0.size := ⟨_, rfl⟩
    rw [← g_2] at A_2 M_2 st_2
    have u_3 : n0 ≤ b_2 := Nat.le_trans Z0 (Nat.le_of_eq g_2.symm)
    have u_4 : h0.size ≤ b_2 := Nat.le_trans ((Keep.refl h0 [])).1 (Nat.le_of_eq g_2.symm)
    have u_5 : Afn Z h_2 b_2 .char 0 (fun _ => (.int (0 : Int32))) := Afn.new (n := 0) A_2 (by decide)
    refine Goes.step st_2 ?_
    have u_6 := Safe.ext E_2 C0.1 (Safe.new (Nat.le_of_eq g_2.symm))
    have u_7 := C0.trans (CHr.ext E_2 C0.1)
    show Goes pP eE bB _ (T_2.setTop (mkF mM 37 #[.val (.int p1), .val (.int p2), .val (.int p3), .val (.int p4), .val (.int (p1 &&& (3 : Int32))), .val (.int ((p2 &&& (255 : Int32)).toUInt32.toUInt16.toUInt32.toInt32)), .val (.int ((p3 &&& (255 : Int32)).toUInt32.toUInt16.toUInt32.toInt32)), .val (.int ((p4 &&& (255 : Int32)).toUInt32.toUInt16.toUInt32.toInt32)), .unset] [(.ref b_2)]))
    refine Goes.step (fun _ kK => XS.astore X_2.here hx rfl (hb hby own_d1_37) rfl rfl (l' := #[.val (.int p1), .val (.int p2), .val (.int p3), .val (.int p4), .val (.int (p1 &&& (3 : Int32))), .val (.int ((p2 &&& (255 : Int32)).toUInt32.toUInt16.toUInt32.toInt32)), .val (.int ((p3 &&& (255 : Int32)).toUInt32.toUInt16.toUInt32.toInt32)), .val (.int ((p4 &&& (255 : Int32)).toUInt32.toUInt16.toUInt32.toInt32)), .val (.ref b_2)]) rfl kK) ?_
    show Goes pP eE bB _ (T_2.setTop (mkF mM 39 #[.val (.int p1), .val (.int p2), .val (.int p3), .val (.int p4), .val (.int (p1 &&& (3 : Int32))), .val (.int ((p2 &&& (255 : Int32)).toUInt32.toUInt16.toUInt32.toInt32)), .val (.int ((p3 &&& (255 : Int32)).toUInt32.toUInt16.toUInt32.toInt32)), .val (.int ((p4 &&& (255 : Int32)).toUInt32.toUInt16.toUInt32.toInt32)), .val (.ref b_2)] []))
    refine Goes.step (fun _ kK => XS.goto X_2.here hx rfl (pc0 := 39) (pc' := 105) rfl (hb hby own_d1_39) (by decide) (by decide) kK) ?_
    show Goes pP eE bB _ (T_2.setTop (mkF mM 105 #[.val (.int p1), .val (.int p2), .val (.int p3), .val (.int p4), .val (.int (p1 &&& (3 : Int32))), .val (.int ((p2 &&& (255 : Int32)).toUInt32.toUInt16.toUInt32.toInt32)), .val (.int ((p3 &&& (255 : Int32)).toUInt32.toUInt16.toUInt32.toInt32)), .val (.int ((p4 &&& (255 : Int32)).toUInt32.toUInt16.toUInt32.toInt32)), .val (.ref b_2)] []))
    obtain ⟨T_8, h_8, X_8, e_8, E_8, A_8, D_8, -, st_8⟩ := newO X_2 hx hZ hown (hw _ (List.mem_of_getElem? (i := 5) rfl)) (hw _ (List.mem_of_getElem? (i := 6) rfl)) (hw _ (List.mem_of_getElem? (i := 7) rfl)) e_2 (g := (mkF mM 105 #[.val (.int p1), .val (.int p2), .val (.int p3), .val (.int p4), .val (.int (p1 &&& (3 : Int32))), .val (.int ((p2 &&& (255 : Int32)).toUInt32.toUInt16.toUInt32.toInt32)), .val (.int ((p3 &&& (255 : Int32)).toUInt32.toUInt16.toUInt32.toInt32)), .val (.int ((p4 &&& (255 : Int32)).toUInt32.toUInt16.toUInt32.toInt32)), .val (.ref b_2)] [])) rfl (hb hby own_d1_105) (by decide) (by decide)
    obtain ⟨b_8, g_8⟩ : ∃ z, z = h_2.size := ⟨_, rfl⟩
    rw [← g_8] at A_8 D_8 st_8
    have u_9 : b_2 < b_8 := Nat.lt_of_lt_of_le (u_5).lt (Nat.le_of_eq g_8.symm)
    have u_10 := Nat.le_trans Z0 E_2.1
    have u_11 : n0 ≤ b_8 := Nat.le_trans u_10 (Nat.le_of_eq g_8.symm)
    have u_12 := (Keep.refl h0 []).ext E_2
    have u_13 : h0.size ≤ b_8 := Nat.le_trans (u_12).1 (Nat.le_of_eq g_8.symm)
    have u_14 : Fld Z h_8 b_8 "java/lang/String" "value" "[B" .null := D_8 (Or.inr (hw _ (List.mem_of_getElem? (i := 20) rfl))) (ty := (.array .byte)) (by decide)
    have u_15 : Fld Z h_8 b_8 "java/lang/String" "coder" "B" (.int (0 : Int32)) := D_8 (Or.inr (hw _ (List.mem_of_getElem? (i := 21) rfl))) (ty := .byte) (by decide)
    refine Goes.step st_8 ?_
    have u_16 := Safe.ext E_8 u_7.1 u_6
    have u_17 := Safe.ext E_8 u_7.1 (Safe.new (Nat.le_of_eq g_8.symm))
    have u_18 := u_7.trans (CHr.ext E_8 u_7.1)
    show Goes pP eE bB _ (T_8.setTop (mkF mM 108 #[.val (.int p1), .val (.int p2), .val (.int p3), .val (.int p4), .val (.int (p1 &&& (3 : Int32))), .val (.int ((p2 &&& (255 : Int32)).toUInt32.toUInt16.toUInt32.toInt32)), .val (.int ((p3 &&& (255 : Int32)).toUInt32.toUInt16.toUInt32.toInt32)), .val (.int ((p4 &&& (255 : Int32)).toUInt32.toUInt16.toUInt32.toInt32)), .val (.ref b_2)] [(.ref b_8)]))
    refine Goes.step (fun _ kK => XS.dup X_8.here hx rfl (hb hby own_d1_108) rfl rfl kK) ?_
    show Goes pP eE bB _ (T_8.setTop (mkF mM 109 #[.val (.int p1), .val (.int p2), .val (.int p3), .val (.int p4), .val (.int (p1 &&& (3 : Int32))), .val (.int ((p2 &&& (255 : Int32)).toUInt32.toUInt16.toUInt32.toInt32)), .val (.int ((p3 &&& (255 : Int32)).toUInt32.toUInt16.toUInt32.toInt32)), .val (.int ((p4 &&& (255 : Int32)).toUInt32.toUInt16.toUInt32.toInt32)), .val (.ref b_2)] [(.ref b_8), (.ref b_8)]))
    refine Goes.step (fun _ kK => XS.aload X_8.here hx rfl (hb hby own_d1_109) rfl rfl kK) ?_
    show Goes pP eE bB _ (T_8.setTop (mkF mM 111 #[.val (.int p1), .val (.int p2), .val (.int p3), .val (.int p4), .val (.int (p1 &&& (3 : Int32))), .val (.int ((p2 &&& (255 : Int32)).toUInt32.toUInt16.toUInt32.toInt32)), .val (.int ((p3 &&& (255 : Int32)).toUInt32.toUInt16.toUInt32.toInt32)), .val (.int ((p4 &&& (255 : Int32)).toUInt32.toUInt16.toUInt32.toInt32)), .val (.ref b_2)] [(.ref b_2), (.ref b_8), (.ref b_8)]))
    have u_19 := Nat.le_trans u_10 E_8.1
    have u_20 := u_5.ext E_8
    have u_22 := Nat.le_trans (Nat.le_refl h0.size) E_2.1
    have u_23 := Nat.le_trans u_22 E_8.1
    refine Goes.callIH X_8 hx hZ rfl hown (hw _ (List.mem_of_getElem? (i := 8) rfl)) (hw _ (List.mem_of_getElem? (i := 9) rfl)) (hw _ (List.mem_of_getElem? (i := 10) rfl)) (hw _ (List.mem_of_getElem? (i := 7) rfl)) (by decide) e_8 hS u_23 (own_hEL hw) u_18 (allS ⟨own_ltE A_8, u_17⟩ all0) (rmS5_0 l Z a0 hw b_8 b_2 h_8 n0 u_19 _ u_20 A_8 u_11 u_15 u_14) (W := 1) (by decide) (by decide) (by decide) (by decide) (g := (mkF mM 111 #[.val (.int p1), .val (.int p2), .val (.int p3), .val (.int p4), .val (.int (p1 &&& (3 : Int32))), .val (.int ((p2 &&& (255 : Int32)).toUInt32.toUInt16.toUInt32.toInt32)), .val (.int ((p3 &&& (255 : Int32)).toUInt32.toUInt16.toUInt32.toInt32)), .val (.int ((p4 &&& (255 : Int32)).toUInt32.toUInt16.toUInt32.toInt32)), .val (.ref b_2)] [(.ref b_2), (.ref b_8), (.ref b_8)])) rfl (by rw [hml]; rfl) (rest := [(.ref b_8)]) own_pd4 rfl rfl (by show 2 * 0 + _ ≤ _; exact Nat.le_of_eq rfl) (hb hby own_d1_111) ?_
    intro v_21 T_21 L_21 RB_21 gr_21 hQ_21
    obtain ⟨⟨X_21, hS, hZ, hown⟩, CC_21⟩ := RB_21
    generalize e_21 : T_21.heap = h_21 at hQ_21
    obtain ⟨rfl, N_21q, K_21, F_21c, b_21, F_21v, A_21⟩ := hQ_21
    have N_21 := Fr.app N0 N_21q
    have hk_21 : T_21.heap.size ≤ h_21.size := Nat.le_of_eq (by rw [e_21])
    rw [e_21] at CC_21
    have u_24 := u_18.trans CC_21
    show Goes pP eE bB _ (T_21.setTop (mkF mM 114 #[.val (.int p1), .val (.int p2), .val (.int p3), .val (.int p4), .val (.int (p1 &&& (3 : Int32))), .val (.int ((p2 &&& (255 : Int32)).toUInt32.toUInt16.toUInt32.toInt32)), .val (.int ((p3 &&& (255 : Int32)).toUInt32.toUInt16.toUInt32.toInt32)), .val (.int ((p4 &&& (255 : Int32)).toUInt32.toUInt16.toUInt32.toInt32)), .val (.ref b_2)] [(.ref b_8)]))
    refine Goes.retH X_21 hS (Nat.le_trans hk_21 (Nat.le_of_eq (by rw [e_21]))) (own_atT X_21 hZ (own_hEL hw) e_21 hs0 u_24) hx hlk hret rfl (Or.inr (Or.inr (Or.inr (Or.inr ⟨rfl, rfl, rfl⟩)))) (hb hby own_d1_114) (by decide) (by decide) ?_
    have u_25 := u_12.ext E_8
    have u_26 := u_25.trans K_21 (allS (Or.inr u_13) all0)
    have u_27 := A_8.keep K_21
    exact ⟨b_8, b_21, 0, _, rfl, N_21, by rw [e_21]; exact u_26, u_13, by rw [e_21]; exact u_27, by rw [e_21]; exact F_21c, by rw [e_21]; exact F_21v, by rw [e_21]; exact A_21, by rw [hc_1]; decide⟩
  · refine Goes.step (fun _ kK => XS.ifYes X0.here hx rfl (pc0 := 31) (pc' := 42) rfl (hb hby own_d1_31) rfl ((if0 _ _).trans (feq hc_1).2) (by decide) (by decide) kK) ?_
    show Goes pP eE bB _ (s₁.setTop (mkF mM 42 #[.val (.int p1), .val (.int p2), .val (.int p3), .val (.int p4), .val (.int (p1 &&& (3 : Int32))), .val (.int ((p2 &&& (255 : Int32)).toUInt32.toUInt16.toUInt32.toInt32)), .val (.int ((p3 &&& (255 : Int32)).toUInt32.toUInt16.toUInt32.toInt32)), .val (.int ((p4 &&& (255 : Int32)).toUInt32.toUInt16.toUInt32.toInt32)), .unset] []))
    refine Goes.step (fun _ kK => XS.iload X0.here hx rfl (hb hby own_d1_42) rfl kK) ?_
    show Goes pP eE bB _ (s₁.setTop (mkF mM 44 #[.val (.int p1), .val (.int p2), .val (.int p3), .val (.int p4), .val (.int (p1 &&& (3 : Int32))), .val (.int ((p2 &&& (255 : Int32)).toUInt32.toUInt16.toUInt32.toInt32)), .val (.int ((p3 &&& (255 : Int32)).toUInt32.toUInt16.toUInt32.toInt32)), .val (.int ((p4 &&& (255 : Int32)).toUInt32.toUInt16.toUInt32.toInt32)), .unset] [(.int (p1 &&& (3 : Int32)))]))
    refine Goes.step (fun _ kK => XS.iconst X0.here hx rfl (hb hby own_d1_44) kK) ?_
    show Goes pP eE bB _ (s₁.setTop (mkF mM 45 #[.val (.int p1), .val (.int p2), .val (.int p3), .val (.int p4), .val (.int (p1 &&& (3 : Int32))), .val (.int ((p2 &&& (255 : Int32)).toUInt32.toUInt16.toUInt32.toInt32)), .val (.int ((p3 &&& (255 : Int32)).toUInt32.toUInt16.toUInt32.toInt32)), .val (.int ((p4 &&& (255 : Int32)).toUInt32.toUInt16.toUInt32.toInt32)), .unset] [(.int (1 : Int32)), (.int (p1 &&& (3 : Int32)))]))
    by_cases hc_28 : (p1 &&& (3 : Int32)) = (1 : Int32)
    · refine Goes.step (fun _ kK => XS.icmpNo X0.here hx rfl (hb hby own_d1_45) rfl (teq hc_28).2 kK) ?_
      show Goes pP eE bB _ (s₁.setTop (mkF mM 48 #[.val (.int p1), .val (.int p2), .val (.int p3), .val (.int p4), .val (.int (p1 &&& (3 : Int32))), .val (.int ((p2 &&& (255 : Int32)).toUInt32.toUInt16.toUInt32.toInt32)), .val (.int ((p3 &&& (255 : Int32)).toUInt32.toUInt16.toUInt32.toInt32)), .val (.int ((p4 &&& (255 : Int32)).toUInt32.toUInt16.toUInt32.toInt32)), .unset] []))
      refine Goes.step (fun _ kK => XS.iconst X0.here hx rfl (hb hby own_d1_48) kK) ?_
      show Goes pP eE bB _ (s₁.setTop (mkF mM 49 #[.val (.int p1), .val (.int p2), .val (.int p3), .val (.int p4), .val (.int (p1 &&& (3 : Int32))), .val (.int ((p2 &&& (255 : Int32)).toUInt32.toUInt16.toUInt32.toInt32)), .val (.int ((p3 &&& (255 : Int32)).toUInt32.toUInt16.toUInt32.toInt32)), .val (.int ((p4 &&& (255 : Int32)).toUInt32.toUInt16.toUInt32.toInt32)), .unset] [(.int (1 : Int32))]))
      obtain ⟨T_29, h_29, k_29, X_29, e_29, E_29, A_29, M_29, st_29⟩ := newPE X0 hx hZ (hw _ (List.mem_of_getElem? (i := 4) rfl)) e0 (g := (mkF mM 49 #[.val (.int p1), .val (.int p2), .val (.int p3), .val (.int p4), .val (.int (p1 &&& (3 : Int32))), .val (.int ((p2 &&& (255 : Int32)).toUInt32.toUInt16.toUInt32.toInt32)), .val (.int ((p3 &&& (255 : Int32)).toUInt32.toUInt16.toUInt32.toInt32)), .val (.int ((p4 &&& (255 : Int32)).toUInt32.toUInt16.toUInt32.toInt32)), .unset] [(.int (1 : Int32))])) rfl (hb hby own_d1_49) rfl (by decide) (cap := 1) (by decide) (by decide) (by decide) (by decide) (ad := "[C") rfl
      obtain ⟨b_29, g_29⟩ : ∃ z, z = h0.size := ⟨_, rfl⟩
      rw [← g_29] at A_29 M_29 st_29
      have u_30 : n0 ≤ b_29 := Nat.le_trans Z0 (Nat.le_of_eq g_29.symm)
      have u_31 : h0.size ≤ b_29 := Nat.le_trans ((Keep.refl h0 [])).1 (Nat.le_of_eq g_29.symm)
      have u_32 : Afn Z h_29 b_29 .char 1 (fun _ => (.int (0 : Int32))) := Afn.new (n := 1) A_29 (by decide)
      refine Goes.step st_29 ?_
      have u_33 := Safe.ext E_29 C0.1 (Safe.new (Nat.le_of_eq g_29.symm))
      have u_34 := C0.trans (CHr.ext E_29 C0.1)
      show Goes pP eE bB _ (T_29.setTop (mkF mM 51 #[.val (.int p1), .val (.int p2), .val (.int p3), .val (.int p4), .val (.int (p1 &&& (3 : Int32))), .val (.int ((p2 &&& (255 : Int32)).toUInt32.toUInt16.toUInt32.toInt32)), .val (.int ((p3 &&& (255 : Int32)).toUInt32.toUInt16.toUInt32.toInt32)), .val (.int ((p4 &&& (255 : Int32)).toUInt32.toUInt16.toUInt32.toInt32)), .unset] [(.ref b_29)]))
      refine Goes.step (fun _ kK => XS.dup X_29.here hx rfl (hb hby own_d1_51) rfl rfl kK) ?_
      show Goes pP eE bB _ (T_29.setTop (mkF mM 52 #[.val (.int p1), .val (.int p2), .val (.int p3), .val (.int p4), .val (.int (p1 &&& (3 : Int32))), .val (.int ((p2 &&& (255 : Int32)).toUInt32.toUInt16.toUInt32.toInt32)), .val (.int ((p3 &&& (255 : Int32)).toUInt32.toUInt16.toUInt32.toInt32)), .val (.int ((p4 &&& (255 : Int32)).toUInt32.toUInt16.toUInt32.toInt32)), .unset] [(.ref b_29), (.ref b_29)]))
      refine Goes.step (fun _ kK => XS.iconst X_29.here hx rfl (hb hby own_d1_52) kK) ?_
      show Goes pP eE bB _ (T_29.setTop (mkF mM 53 #[.val (.int p1), .val (.int p2), .val (.int p3), .val (.int p4), .val (.int (p1 &&& (3 : Int32))), .val (.int ((p2 &&& (255 : Int32)).toUInt32.toUInt16.toUInt32.toInt32)), .val (.int ((p3 &&& (255 : Int32)).toUInt32.toUInt16.toUInt32.toInt32)), .val (.int ((p4 &&& (255 : Int32)).toUInt32.toUInt16.toUInt32.toInt32)), .unset] [(.int (0 : Int32)), (.ref b_29), (.ref b_29)]))
      refine Goes.step (fun _ kK => XS.iload X_29.here hx rfl (hb hby own_d1_53) rfl kK) ?_
      show Goes pP eE bB _ (T_29.setTop (mkF mM 55 #[.val (.int p1), .val (.int p2), .val (.int p3), .val (.int p4), .val (.int (p1 &&& (3 : Int32))), .val (.int ((p2 &&& (255 : Int32)).toUInt32.toUInt16.toUInt32.toInt32)), .val (.int ((p3 &&& (255 : Int32)).toUInt32.toUInt16.toUInt32.toInt32)), .val (.int ((p4 &&& (255 : Int32)).toUInt32.toUInt16.toUInt32.toInt32)), .unset] [(.int ((p2 &&& (255 : Int32)).toUInt32.toUInt16.toUInt32.toInt32)), (.int (0 : Int32)), (.ref b_29), (.ref b_29)]))
      refine Goes.castore X_29 hx hZ e_29 u_32 (i := 0) (by decide) (by decide) (g := (mkF mM 55 #[.val (.int p1), .val (.int p2), .val (.int p3), .val (.int p4), .val (.int (p1 &&& (3 : Int32))), .val (.int ((p2 &&& (255 : Int32)).toUInt32.toUInt16.toUInt32.toInt32)), .val (.int ((p3 &&& (255 : Int32)).toUInt32.toUInt16.toUInt32.toInt32)), .val (.int ((p4 &&& (255 : Int32)).toUInt32.toUInt16.toUInt32.toInt32)), .unset] [(.int ((p2 &&& (255 : Int32)).toUInt32.toUInt16.toUInt32.toInt32)), (.int (0 : Int32)), (.ref b_29), (.ref b_29)])) rfl rfl (hb hby own_d1_55) ?_
      intro T_35 h_35 X_35 e_35 W_35 A_35
      have N_35 := Fr.snoc X_35 N0 u_30
      have u_36 := Safe.wr W_35 u_33 u_34.1 u_33
      have u_37 := u_34.trans (CHr.wr W_35 u_33 u_34.1)
      show Goes pP eE bB _ (T_35.setTop (mkF mM 56 #[.val (.int p1), .val (.int p2), .val (.int p3), .val (.int p4), .val (.int (p1 &&& (3 : Int32))), .val (.int ((p2 &&& (255 : Int32)).toUInt32.toUInt16.toUInt32.toInt32)), .val (.int ((p3 &&& (255 : Int32)).toUInt32.toUInt16.toUInt32.toInt32)), .val (.int ((p4 &&& (255 : Int32)).toUInt32.toUInt16.toUInt32.toInt32)), .unset] [(.ref b_29)]))
      refine Goes.step (fun _ kK => XS.astore X_35.here hx rfl (hb hby own_d1_56) rfl rfl (l' := #[.val (.int p1), .val (.int p2), .val (.int p3), .val (.int p4), .val (.int (p1 &&& (3 : Int32))), .val (.int ((p2 &&& (255 : Int32)).toUInt32.toUInt16.toUInt32.toInt32)), .val (.int ((p3 &&& (255 : Int32)).toUInt32.toUInt16.toUInt32.toInt32)), .val (.int ((p4 &&& (255 : Int32)).toUInt32.toUInt16.toUInt32.toInt32)), .val (.ref b_29)]) rfl kK) ?_
      show Goes pP eE bB _ (T_35.setTop (mkF mM 58 #[.val (.int p1), .val (.int p2), .val (.int p3), .val (.int p4), .val (.int (p1 &&& (3 : Int32))), .val (.int ((p2 &&& (255 : Int32)).toUInt32.toUInt16.toUInt32.toInt32)), .val (.int ((p3 &&& (255 : Int32)).toUInt32.toUInt16.toUInt32.toInt32)), .val (.int ((p4 &&& (255 : Int32)).toUInt32.toUInt16.toUInt32.toInt32)), .val (.ref b_29)] []))
      refine Goes.step (fun _ kK => XS.goto X_35.here hx rfl (pc0 := 58) (pc' := 105) rfl (hb hby own_d1_58) (by decide) (by decide) kK) ?_
      show Goes pP eE bB _ (T_35.setTop (mkF mM 105 #[.val (.int p1), .val (.int p2), .val (.int p3), .val (.int p4), .val (.int (p1 &&& (3 : Int32))), .val (.int ((p2 &&& (255 : Int32)).toUInt32.toUInt16.toUInt32.toInt32)), .val (.int ((p3 &&& (255 : Int32)).toUInt32.toUInt16.toUInt32.toInt32)), .val (.int ((p4 &&& (255 : Int32)).toUInt32.toUInt16.toUInt32.toInt32)), .val (.ref b_29)] []))
      obtain ⟨T_38, h_38, X_38, e_38, E_38, A_38, D_38, -, st_38⟩ := newO X_35 hx hZ hown (hw _ (List.mem_of_getElem? (i := 5) rfl)) (hw _ (List.mem_of_getElem? (i := 6) rfl)) (hw _ (List.mem_of_getElem? (i := 7) rfl)) e_35 (g := (mkF mM 105 #[.val (.int p1), .val (.int p2), .val (.int p3), .val (.int p4), .val (.int (p1 &&& (3 : Int32))), .val (.int ((p2 &&& (255 : Int32)).toUInt32.toUInt16.toUInt32.toInt32)), .val (.int ((p3 &&& (255 : Int32)).toUInt32.toUInt16.toUInt32.toInt32)), .val (.int ((p4 &&& (255 : Int32)).toUInt32.toUInt16.toUInt32.toInt32)), .val (.ref b_29)] [])) rfl (hb hby own_d1_105) (by decide) (by decide)
      obtain ⟨b_38, g_38⟩ : ∃ z, z = h_35.size := ⟨_, rfl⟩
      rw [← g_38] at A_38 D_38 st_38
      have u_39 : b_29 < b_38 := Nat.lt_of_lt_of_le (A_35).lt (Nat.le_of_eq g_38.symm)
      have u_40 := Nat.le_trans Z0 E_29.1
      have u_41 := Nat.le_trans u_40 (Keep.of_wr W_35).1
      have u_42 : n0 ≤ b_38 := Nat.le_trans u_41 (Nat.le_of_eq g_38.symm)
      have u_43 := (Keep.refl h0 []).ext E_29
      have u_44 := u_43.wr W_35 (Or.inr u_31)
      have u_45 : h0.size ≤ b_38 := Nat.le_trans (u_44).1 (Nat.le_of_eq g_38.symm)
      have u_46 : Fld Z h_38 b_38 "java/lang/String" "value" "[B" .null := D_38 (Or.inr (hw _ (List.mem_of_getElem? (i := 20) rfl))) (ty := (.array .byte)) (by decide)
      have u_47 : Fld Z h_38 b_38 "java/lang/String" "coder" "B" (.int (0 : Int32)) := D_38 (Or.inr (hw _ (List.mem_of_getElem? (i := 21) rfl))) (ty := .byte) (by decide)
      refine Goes.step st_38 ?_
      have u_48 := Safe.ext E_38 u_37.1 u_36
      have u_49 := Safe.ext E_38 u_37.1 (Safe.new (Nat.le_of_eq g_38.symm))
      have u_50 := u_37.trans (CHr.ext E_38 u_37.1)
      show Goes pP eE bB _ (T_38.setTop (mkF mM 108 #[.val (.int p1), .val (.int p2), .val (.int p3), .val (.int p4), .val (.int (p1 &&& (3 : Int32))), .val (.int ((p2 &&& (255 : Int32)).toUInt32.toUInt16.toUInt32.toInt32)), .val (.int ((p3 &&& (255 : Int32)).toUInt32.toUInt16.toUInt32.toInt32)), .val (.int ((p4 &&& (255 : Int32)).toUInt32.toUInt16.toUInt32.toInt32)), .val (.ref b_29)] [(.ref b_38)]))
      refine Goes.step (fun _ kK => XS.dup X_38.here hx rfl (hb hby own_d1_108) rfl rfl kK) ?_
      show Goes pP eE bB _ (T_38.setTop (mkF mM 109 #[.val (.int p1), .val (.int p2), .val (.int p3), .val (.int p4), .val (.int (p1 &&& (3 : Int32))), .val (.int ((p2 &&& (255 : Int32)).toUInt32.toUInt16.toUInt32.toInt32)), .val (.int ((p3 &&& (255 : Int32)).toUInt32.toUInt16.toUInt32.toInt32)), .val (.int ((p4 &&& (255 : Int32)).toUInt32.toUInt16.toUInt32.toInt32)), .val (.ref b_29)] [(.ref b_38), (.ref b_38)]))
      refine Goes.step (fun _ kK => XS.aload X_38.here hx rfl (hb hby own_d1_109) rfl rfl kK) ?_
      show Goes pP eE bB _ (T_38.setTop (mkF mM 111 #[.val (.int p1), .val (.int p2), .val (.int p3), .val (.int p4), .val (.int (p1 &&& (3 : Int32))), .val (.int ((p2 &&& (255 : Int32)).toUInt32.toUInt16.toUInt32.toInt32)), .val (.int ((p3 &&& (255 : Int32)).toUInt32.toUInt16.toUInt32.toInt32)), .val (.int ((p4 &&& (255 : Int32)).toUInt32.toUInt16.toUInt32.toInt32)), .val (.ref b_29)] [(.ref b_29), (.ref b_38), (.ref b_38)]))
      have u_51 := O0.ext E_29
      have u_52 := u_51.wr W_35 u_30
      have u_53 := u_52.ext E_38
      have u_54 := Nat.le_trans u_41 E_38.1
      have u_55 := A_35.ext E_38
      refine Goes.callI X_38 hx hZ rfl hown (hw _ (List.mem_of_getElem? (i := 8) rfl)) (hw _ (List.mem_of_getElem? (i := 9) rfl)) (hw _ (List.mem_of_getElem? (i := 10) rfl)) (hw _ (List.mem_of_getElem? (i := 7) rfl)) (by decide) e_38 (rmS5_1 l Z a0 hw b_38 b_29 (nar .char ((p2 &&& (255 : Int32)).toUInt32.toUInt16.toUInt32.toInt32)) cs h_38 n0 u_54 Scs hcs u_53 _ u_55 A_38 u_42 u_47 u_46 rfl (own_ch p2)) (W := 1) (by decide) (by decide) (by decide) (by decide) (g := (mkF mM 111 #[.val (.int p1), .val (.int p2), .val (.int p3), .val (.int p4), .val (.int (p1 &&& (3 : Int32))), .val (.int ((p2 &&& (255 : Int32)).toUInt32.toUInt16.toUInt32.toInt32)), .val (.int ((p3 &&& (255 : Int32)).toUInt32.toUInt16.toUInt32.toInt32)), .val (.int ((p4 &&& (255 : Int32)).toUInt32.toUInt16.toUInt32.toInt32)), .val (.ref b_29)] [(.ref b_29), (.ref b_38), (.ref b_38)])) rfl (by rw [hml]; rfl) (rest := [(.ref b_38)]) own_pd4 rfl rfl (by show 2 * 0 + _ ≤ _; exact Nat.le_of_eq rfl) (hb hby own_d1_111) ?_
      intro v_56 T_56 L_56 X_56 hQ_56
      generalize e_56 : T_56.heap = h_56 at hQ_56
      obtain ⟨rfl, N_56q, K_56, F_56c, b_56, F_56v, s_56, A_56, M_56⟩ := hQ_56
      have N_56 := Fr.app N_35 N_56q
      have u_57 := Nat.lt_of_lt_of_le (A_35).lt E_38.1
      have u_58 : b_29 < b_56 := Nat.lt_of_lt_of_le u_57 s_56
      have u_59 : b_38 < b_56 := Nat.lt_of_lt_of_le (A_38).lt s_56
      have u_60 : n0 ≤ b_56 := Nat.le_trans u_54 s_56
      have u_61 := u_44.ext E_38
      have u_62 : h0.size ≤ b_56 := Nat.le_trans (u_61).1 s_56
      have u_63 := Safe.keep K_56 (allS u_49 all0) u_50.1 u_48
      have u_64 := Safe.keep K_56 (allS u_49 all0) u_50.1 u_49
      have u_65 := u_50.trans (CHr.keep K_56 (allS u_49 all0) u_50.1)
      show Goes pP eE bB _ (T_56.setTop (mkF mM 114 #[.val (.int p1), .val (.int p2), .val (.int p3), .val (.int p4), .val (.int (p1 &&& (3 : Int32))), .val (.int ((p2 &&& (255 : Int32)).toUInt32.toUInt16.toUInt32.toInt32)), .val (.int ((p3 &&& (255 : Int32)).toUInt32.toUInt16.toUInt32.toInt32)), .val (.int ((p4 &&& (255 : Int32)).toUInt32.toUInt16.toUInt32.toInt32)), .val (.ref b_29)] [(.ref b_38)]))
      have u_66 := Nat.le_trans (Nat.le_refl h0.size) E_29.1
      have u_67 := Nat.le_trans u_66 (Keep.of_wr W_35).1
      have u_68 := Nat.le_trans u_67 E_38.1
      have u_69 := Nat.le_trans u_68 K_56.1
      refine Goes.retH X_56 hS (Nat.le_trans u_69 (Nat.le_of_eq (by rw [e_56]))) (own_atT X_56 hZ (own_hEL hw) e_56 hs0 u_65) hx hlk hret rfl (Or.inr (Or.inr (Or.inr (Or.inr ⟨rfl, rfl, rfl⟩)))) (hb hby own_d1_114) (by decide) (by decide) ?_
      have u_70 := u_61.trans K_56 (allS (Or.inr u_45) all0)
      have u_71 := A_38.keep K_56
      exact ⟨b_38, b_56, 1, _, rfl, N_56, by rw [e_56]; exact u_70, u_45, by rw [e_56]; exact u_71, by rw [e_56]; exact F_56c, by rw [e_56]; exact F_56v, by rw [e_56]; exact A_56, by rw [hc_28]; decide⟩
    · refine Goes.step (fun _ kK => XS.icmpYes X0.here hx rfl (pc0 := 45) (pc' := 61) rfl (hb hby own_d1_45) rfl (feq hc_28).2 (by decide) (by decide) kK) ?_
      show Goes pP eE bB _ (s₁.setTop (mkF mM 61 #[.val (.int p1), .val (.int p2), .val (.int p3), .val (.int p4), .val (.int (p1 &&& (3 : Int32))), .val (.int ((p2 &&& (255 : Int32)).toUInt32.toUInt16.toUInt32.toInt32)), .val (.int ((p3 &&& (255 : Int32)).toUInt32.toUInt16.toUInt32.toInt32)), .val (.int ((p4 &&& (255 : Int32)).toUInt32.toUInt16.toUInt32.toInt32)), .unset] []))
      refine Goes.step (fun _ kK => XS.iload X0.here hx rfl (hb hby own_d1_61) rfl kK) ?_
      show Goes pP eE bB _ (s₁.setTop (mkF mM 63 #[.val (.int p1), .val (.int p2), .val (.int p3), .val (.int p4), .val (.int (p1 &&& (3 : Int32))), .val (.int ((p2 &&& (255 : Int32)).toUInt32.toUInt16.toUInt32.toInt32)), .val (.int ((p3 &&& (255 : Int32)).toUInt32.toUInt16.toUInt32.toInt32)), .val (.int ((p4 &&& (255 : Int32)).toUInt32.toUInt16.toUInt32.toInt32)), .unset] [(.int (p1 &&& (3 : Int32)))]))
      refine Goes.step (fun _ kK => XS.iconst X0.here hx rfl (hb hby own_d1_63) kK) ?_
      show Goes pP eE bB _ (s₁.setTop (mkF mM 64 #[.val (.int p1), .val (.int p2), .val (.int p3), .val (.int p4), .val (.int (p1 &&& (3 : Int32))), .val (.int ((p2 &&& (255 : Int32)).toUInt32.toUInt16.toUInt32.toInt32)), .val (.int ((p3 &&& (255 : Int32)).toUInt32.toUInt16.toUInt32.toInt32)), .val (.int ((p4 &&& (255 : Int32)).toUInt32.toUInt16.toUInt32.toInt32)), .unset] [(.int (2 : Int32)), (.int (p1 &&& (3 : Int32)))]))
      by_cases hc_72 : (p1 &&& (3 : Int32)) = (2 : Int32)
      · refine Goes.step (fun _ kK => XS.icmpNo X0.here hx rfl (hb hby own_d1_64) rfl (teq hc_72).2 kK) ?_
        show Goes pP eE bB _ (s₁.setTop (mkF mM 67 #[.val (.int p1), .val (.int p2), .val (.int p3), .val (.int p4), .val (.int (p1 &&& (3 : Int32))), .val (.int ((p2 &&& (255 : Int32)).toUInt32.toUInt16.toUInt32.toInt32)), .val (.int ((p3 &&& (255 : Int32)).toUInt32.toUInt16.toUInt32.toInt32)), .val (.int ((p4 &&& (255 : Int32)).toUInt32.toUInt16.toUInt32.toInt32)), .unset] []))
        refine Goes.step (fun _ kK => XS.iconst X0.here hx rfl (hb hby own_d1_67) kK) ?_
        show Goes pP eE bB _ (s₁.setTop (mkF mM 68 #[.val (.int p1), .val (.int p2), .val (.int p3), .val (.int p4), .val (.int (p1 &&& (3 : Int32))), .val (.int ((p2 &&& (255 : Int32)).toUInt32.toUInt16.toUInt32.toInt32)), .val (.int ((p3 &&& (255 : Int32)).toUInt32.toUInt16.toUInt32.toInt32)), .val (.int ((p4 &&& (255 : Int32)).toUInt32.toUInt16.toUInt32.toInt32)), .unset] [(.int (2 : Int32))]))
        obtain ⟨T_73, h_73, k_73, X_73, e_73, E_73, A_73, M_73, st_73⟩ := newPE X0 hx hZ (hw _ (List.mem_of_getElem? (i := 4) rfl)) e0 (g := (mkF mM 68 #[.val (.int p1), .val (.int p2), .val (.int p3), .val (.int p4), .val (.int (p1 &&& (3 : Int32))), .val (.int ((p2 &&& (255 : Int32)).toUInt32.toUInt16.toUInt32.toInt32)), .val (.int ((p3 &&& (255 : Int32)).toUInt32.toUInt16.toUInt32.toInt32)), .val (.int ((p4 &&& (255 : Int32)).toUInt32.toUInt16.toUInt32.toInt32)), .unset] [(.int (2 : Int32))])) rfl (hb hby own_d1_68) rfl (by decide) (cap := 2) (by decide) (by decide) (by decide) (by decide) (ad := "[C") rfl
        obtain ⟨b_73, g_73⟩ : ∃ z, z = h0.size := ⟨_, rfl⟩
        rw [← g_73] at A_73 M_73 st_73
        have u_74 : n0 ≤ b_73 := Nat.le_trans Z0 (Nat.le_of_eq g_73.symm)
        have u_75 : h0.size ≤ b_73 := Nat.le_trans ((Keep.refl h0 [])).1 (Nat.le_of_eq g_73.symm)
        have u_76 : Afn Z h_73 b_73 .char 2 (fun _ => (.int (0 : Int32))) := Afn.new (n := 2) A_73 (by decide)
        refine Goes.step st_73 ?_
        have u_77 := Safe.ext E_73 C0.1 (Safe.new (Nat.le_of_eq g_73.symm))
        have u_78 := C0.trans (CHr.ext E_73 C0.1)
        show Goes pP eE bB _ (T_73.setTop (mkF mM 70 #[.val (.int p1), .val (.int p2), .val (.int p3), .val (.int p4), .val (.int (p1 &&& (3 : Int32))), .val (.int ((p2 &&& (255 : Int32)).toUInt32.toUInt16.toUInt32.toInt32)), .val (.int ((p3 &&& (255 : Int32)).toUInt32.toUInt16.toUInt32.toInt32)), .val (.int ((p4 &&& (255 : Int32)).toUInt32.toUInt16.toUInt32.toInt32)), .unset] [(.ref b_73)]))
        refine Goes.step (fun _ kK => XS.dup X_73.here hx rfl (hb hby own_d1_70) rfl rfl kK) ?_
        show Goes pP eE bB _ (T_73.setTop (mkF mM 71 #[.val (.int p1), .val (.int p2), .val (.int p3), .val (.int p4), .val (.int (p1 &&& (3 : Int32))), .val (.int ((p2 &&& (255 : Int32)).toUInt32.toUInt16.toUInt32.toInt32)), .val (.int ((p3 &&& (255 : Int32)).toUInt32.toUInt16.toUInt32.toInt32)), .val (.int ((p4 &&& (255 : Int32)).toUInt32.toUInt16.toUInt32.toInt32)), .unset] [(.ref b_73), (.ref b_73)]))
        refine Goes.step (fun _ kK => XS.iconst X_73.here hx rfl (hb hby own_d1_71) kK) ?_
        show Goes pP eE bB _ (T_73.setTop (mkF mM 72 #[.val (.int p1), .val (.int p2), .val (.int p3), .val (.int p4), .val (.int (p1 &&& (3 : Int32))), .val (.int ((p2 &&& (255 : Int32)).toUInt32.toUInt16.toUInt32.toInt32)), .val (.int ((p3 &&& (255 : Int32)).toUInt32.toUInt16.toUInt32.toInt32)), .val (.int ((p4 &&& (255 : Int32)).toUInt32.toUInt16.toUInt32.toInt32)), .unset] [(.int (0 : Int32)), (.ref b_73), (.ref b_73)]))
        refine Goes.step (fun _ kK => XS.iload X_73.here hx rfl (hb hby own_d1_72) rfl kK) ?_
        show Goes pP eE bB _ (T_73.setTop (mkF mM 74 #[.val (.int p1), .val (.int p2), .val (.int p3), .val (.int p4), .val (.int (p1 &&& (3 : Int32))), .val (.int ((p2 &&& (255 : Int32)).toUInt32.toUInt16.toUInt32.toInt32)), .val (.int ((p3 &&& (255 : Int32)).toUInt32.toUInt16.toUInt32.toInt32)), .val (.int ((p4 &&& (255 : Int32)).toUInt32.toUInt16.toUInt32.toInt32)), .unset] [(.int ((p2 &&& (255 : Int32)).toUInt32.toUInt16.toUInt32.toInt32)), (.int (0 : Int32)), (.ref b_73), (.ref b_73)]))
        refine Goes.castore X_73 hx hZ e_73 u_76 (i := 0) (by decide) (by decide) (g := (mkF mM 74 #[.val (.int p1), .val (.int p2), .val (.int p3), .val (.int p4), .val (.int (p1 &&& (3 : Int32))), .val (.int ((p2 &&& (255 : Int32)).toUInt32.toUInt16.toUInt32.toInt32)), .val (.int ((p3 &&& (255 : Int32)).toUInt32.toUInt16.toUInt32.toInt32)), .val (.int ((p4 &&& (255 : Int32)).toUInt32.toUInt16.toUInt32.toInt32)), .unset] [(.int ((p2 &&& (255 : Int32)).toUInt32.toUInt16.toUInt32.toInt32)), (.int (0 : Int32)), (.ref b_73), (.ref b_73)])) rfl rfl (hb hby own_d1_74) ?_
        intro T_79 h_79 X_79 e_79 W_79 A_79
        have N_79 := Fr.snoc X_79 N0 u_74
        have u_80 := Safe.wr W_79 u_77 u_78.1 u_77
        have u_81 := u_78.trans (CHr.wr W_79 u_77 u_78.1)
        show Goes pP eE bB _ (T_79.setTop (mkF mM 75 #[.val (.int p1), .val (.int p2), .val (.int p3), .val (.int p4), .val (.int (p1 &&& (3 : Int32))), .val (.int ((p2 &&& (255 : Int32)).toUInt32.toUInt16.toUInt32.toInt32)), .val (.int ((p3 &&& (255 : Int32)).toUInt32.toUInt16.toUInt32.toInt32)), .val (.int ((p4 &&& (255 : Int32)).toUInt32.toUInt16.toUInt32.toInt32)), .unset] [(.ref b_73)]))
        refine Goes.step (fun _ kK => XS.dup X_79.here hx rfl (hb hby own_d1_75) rfl rfl kK) ?_
        show Goes pP eE bB _ (T_79.setTop (mkF mM 76 #[.val (.int p1), .val (.int p2), .val (.int p3), .val (.int p4), .val (.int (p1 &&& (3 : Int32))), .val (.int ((p2 &&& (255 : Int32)).toUInt32.toUInt16.toUInt32.toInt32)), .val (.int ((p3 &&& (255 : Int32)).toUInt32.toUInt16.toUInt32.toInt32)), .val (.int ((p4 &&& (255 : Int32)).toUInt32.toUInt16.toUInt32.toInt32)), .unset] [(.ref b_73), (.ref b_73)]))
        refine Goes.step (fun _ kK => XS.iconst X_79.here hx rfl (hb hby own_d1_76) kK) ?_
        show Goes pP eE bB _ (T_79.setTop (mkF mM 77 #[.val (.int p1), .val (.int p2), .val (.int p3), .val (.int p4), .val (.int (p1 &&& (3 : Int32))), .val (.int ((p2 &&& (255 : Int32)).toUInt32.toUInt16.toUInt32.toInt32)), .val (.int ((p3 &&& (255 : Int32)).toUInt32.toUInt16.toUInt32.toInt32)), .val (.int ((p4 &&& (255 : Int32)).toUInt32.toUInt16.toUInt32.toInt32)), .unset] [(.int (1 : Int32)), (.ref b_73), (.ref b_73)]))
        refine Goes.step (fun _ kK => XS.iload X_79.here hx rfl (hb hby own_d1_77) rfl kK) ?_
        show Goes pP eE bB _ (T_79.setTop (mkF mM 79 #[.val (.int p1), .val (.int p2), .val (.int p3), .val (.int p4), .val (.int (p1 &&& (3 : Int32))), .val (.int ((p2 &&& (255 : Int32)).toUInt32.toUInt16.toUInt32.toInt32)), .val (.int ((p3 &&& (255 : Int32)).toUInt32.toUInt16.toUInt32.toInt32)), .val (.int ((p4 &&& (255 : Int32)).toUInt32.toUInt16.toUInt32.toInt32)), .unset] [(.int ((p3 &&& (255 : Int32)).toUInt32.toUInt16.toUInt32.toInt32)), (.int (1 : Int32)), (.ref b_73), (.ref b_73)]))
        refine Goes.castore X_79 hx hZ e_79 A_79 (i := 1) (by decide) (by decide) (g := (mkF mM 79 #[.val (.int p1), .val (.int p2), .val (.int p3), .val (.int p4), .val (.int (p1 &&& (3 : Int32))), .val (.int ((p2 &&& (255 : Int32)).toUInt32.toUInt16.toUInt32.toInt32)), .val (.int ((p3 &&& (255 : Int32)).toUInt32.toUInt16.toUInt32.toInt32)), .val (.int ((p4 &&& (255 : Int32)).toUInt32.toUInt16.toUInt32.toInt32)), .unset] [(.int ((p3 &&& (255 : Int32)).toUInt32.toUInt16.toUInt32.toInt32)), (.int (1 : Int32)), (.ref b_73), (.ref b_73)])) rfl rfl (hb hby own_d1_79) ?_
        intro T_82 h_82 X_82 e_82 W_82 A_82
        have N_82 := Fr.snoc X_82 N_79 u_74
        have u_83 := Safe.wr W_82 u_80 u_81.1 u_80
        have u_84 := u_81.trans (CHr.wr W_82 u_80 u_81.1)
        show Goes pP eE bB _ (T_82.setTop (mkF mM 80 #[.val (.int p1), .val (.int p2), .val (.int p3), .val (.int p4), .val (.int (p1 &&& (3 : Int32))), .val (.int ((p2 &&& (255 : Int32)).toUInt32.toUInt16.toUInt32.toInt32)), .val (.int ((p3 &&& (255 : Int32)).toUInt32.toUInt16.toUInt32.toInt32)), .val (.int ((p4 &&& (255 : Int32)).toUInt32.toUInt16.toUInt32.toInt32)), .unset] [(.ref b_73)]))
        refine Goes.step (fun _ kK => XS.astore X_82.here hx rfl (hb hby own_d1_80) rfl rfl (l' := #[.val (.int p1), .val (.int p2), .val (.int p3), .val (.int p4), .val (.int (p1 &&& (3 : Int32))), .val (.int ((p2 &&& (255 : Int32)).toUInt32.toUInt16.toUInt32.toInt32)), .val (.int ((p3 &&& (255 : Int32)).toUInt32.toUInt16.toUInt32.toInt32)), .val (.int ((p4 &&& (255 : Int32)).toUInt32.toUInt16.toUInt32.toInt32)), .val (.ref b_73)]) rfl kK) ?_
        show Goes pP eE bB _ (T_82.setTop (mkF mM 82 #[.val (.int p1), .val (.int p2), .val (.int p3), .val (.int p4), .val (.int (p1 &&& (3 : Int32))), .val (.int ((p2 &&& (255 : Int32)).toUInt32.toUInt16.toUInt32.toInt32)), .val (.int ((p3 &&& (255 : Int32)).toUInt32.toUInt16.toUInt32.toInt32)), .val (.int ((p4 &&& (255 : Int32)).toUInt32.toUInt16.toUInt32.toInt32)), .val (.ref b_73)] []))
        refine Goes.step (fun _ kK => XS.goto X_82.here hx rfl (pc0 := 82) (pc' := 105) rfl (hb hby own_d1_82) (by decide) (by decide) kK) ?_
        show Goes pP eE bB _ (T_82.setTop (mkF mM 105 #[.val (.int p1), .val (.int p2), .val (.int p3), .val (.int p4), .val (.int (p1 &&& (3 : Int32))), .val (.int ((p2 &&& (255 : Int32)).toUInt32.toUInt16.toUInt32.toInt32)), .val (.int ((p3 &&& (255 : Int32)).toUInt32.toUInt16.toUInt32.toInt32)), .val (.int ((p4 &&& (255 : Int32)).toUInt32.toUInt16.toUInt32.toInt32)), .val (.ref b_73)] []))
        obtain ⟨T_85, h_85, X_85, e_85, E_85, A_85, D_85, -, st_85⟩ := newO X_82 hx hZ hown (hw _ (List.mem_of_getElem? (i := 5) rfl)) (hw _ (List.mem_of_getElem? (i := 6) rfl)) (hw _ (List.mem_of_getElem? (i := 7) rfl)) e_82 (g := (mkF mM 105 #[.val (.int p1), .val (.int p2), .val (.int p3), .val (.int p4), .val (.int (p1 &&& (3 : Int32))), .val (.int ((p2 &&& (255 : Int32)).toUInt32.toUInt16.toUInt32.toInt32)), .val (.int ((p3 &&& (255 : Int32)).toUInt32.toUInt16.toUInt32.toInt32)), .val (.int ((p4 &&& (255 : Int32)).toUInt32.toUInt16.toUInt32.toInt32)), .val (.ref b_73)] [])) rfl (hb hby own_d1_105) (by decide) (by decide)
        obtain ⟨b_85, g_85⟩ : ∃ z, z = h_82.size := ⟨_, rfl⟩
        rw [← g_85] at A_85 D_85 st_85
        have u_86 : b_73 < b_85 := Nat.lt_of_lt_of_le (A_82).lt (Nat.le_of_eq g_85.symm)
        have u_87 := Nat.le_trans Z0 E_73.1
        have u_88 := Nat.le_trans u_87 (Keep.of_wr W_79).1
        have u_89 := Nat.le_trans u_88 (Keep.of_wr W_82).1
        have u_90 : n0 ≤ b_85 := Nat.le_trans u_89 (Nat.le_of_eq g_85.symm)
        have u_91 := (Keep.refl h0 []).ext E_73
        have u_92 := u_91.wr W_79 (Or.inr u_75)
        have u_93 := u_92.wr W_82 (Or.inr u_75)
        have u_94 : h0.size ≤ b_85 := Nat.le_trans (u_93).1 (Nat.le_of_eq g_85.symm)
        have u_95 : Fld Z h_85 b_85 "java/lang/String" "value" "[B" .null := D_85 (Or.inr (hw _ (List.mem_of_getElem? (i := 20) rfl))) (ty := (.array .byte)) (by decide)
        have u_96 : Fld Z h_85 b_85 "java/lang/String" "coder" "B" (.int (0 : Int32)) := D_85 (Or.inr (hw _ (List.mem_of_getElem? (i := 21) rfl))) (ty := .byte) (by decide)
        refine Goes.step st_85 ?_
        have u_97 := Safe.ext E_85 u_84.1 u_83
        have u_98 := Safe.ext E_85 u_84.1 (Safe.new (Nat.le_of_eq g_85.symm))
        have u_99 := u_84.trans (CHr.ext E_85 u_84.1)
        show Goes pP eE bB _ (T_85.setTop (mkF mM 108 #[.val (.int p1), .val (.int p2), .val (.int p3), .val (.int p4), .val (.int (p1 &&& (3 : Int32))), .val (.int ((p2 &&& (255 : Int32)).toUInt32.toUInt16.toUInt32.toInt32)), .val (.int ((p3 &&& (255 : Int32)).toUInt32.toUInt16.toUInt32.toInt32)), .val (.int ((p4 &&& (255 : Int32)).toUInt32.toUInt16.toUInt32.toInt32)), .val (.ref b_73)] [(.ref b_85)]))
        refine Goes.step (fun _ kK => XS.dup X_85.here hx rfl (hb hby own_d1_108) rfl rfl kK) ?_
        show Goes pP eE bB _ (T_85.setTop (mkF mM 109 #[.val (.int p1), .val (.int p2), .val (.int p3), .val (.int p4), .val (.int (p1 &&& (3 : Int32))), .val (.int ((p2 &&& (255 : Int32)).toUInt32.toUInt16.toUInt32.toInt32)), .val (.int ((p3 &&& (255 : Int32)).toUInt32.toUInt16.toUInt32.toInt32)), .val (.int ((p4 &&& (255 : Int32)).toUInt32.toUInt16.toUInt32.toInt32)), .val (.ref b_73)] [(.ref b_85), (.ref b_85)]))
        refine Goes.step (fun _ kK => XS.aload X_85.here hx rfl (hb hby own_d1_109) rfl rfl kK) ?_
        show Goes pP eE bB _ (T_85.setTop (mkF mM 111 #[.val (.int p1), .val (.int p2), .val (.int p3), .val (.int p4), .val (.int (p1 &&& (3 : Int32))), .val (.int ((p2 &&& (255 : Int32)).toUInt32.toUInt16.toUInt32.toInt32)), .val (.int ((p3 &&& (255 : Int32)).toUInt32.toUInt16.toUInt32.toInt32)), .val (.int ((p4 &&& (255 : Int32)).toUInt32.toUInt16.toUInt32.toInt32)), .val (.ref b_73)] [(.ref b_73), (.ref b_85), (.ref b_85)]))
        have u_100 := O0.ext E_73
        have u_101 := u_100.wr W_79 u_74
        have u_102 := u_101.wr W_82 u_74
        have u_103 := u_102.ext E_85
        have u_104 := Nat.le_trans u_89 E_85.1
        have u_105 := A_82.ext E_85
        refine Goes.callI X_85 hx hZ rfl hown (hw _ (List.mem_of_getElem? (i := 8) rfl)) (hw _ (List.mem_of_getElem? (i := 9) rfl)) (hw _ (List.mem_of_getElem? (i := 10) rfl)) (hw _ (List.mem_of_getElem? (i := 7) rfl)) (by decide) e_85 (rmS5_2 l Z a0 hw b_85 b_73 (nar .char ((p2 &&& (255 : Int32)).toUInt32.toUInt16.toUInt32.toInt32)) (nar .char ((p3 &&& (255 : Int32)).toUInt32.toUInt16.toUInt32.toInt32)) cs h_85 n0 u_104 Scs hcs u_103 _ u_105 A_85 u_90 u_96 u_95 rfl rfl (own_ch p2) (own_ch p3)) (W := 1) (by decide) (by decide) (by decide) (by decide) (g := (mkF mM 111 #[.val (.int p1), .val (.int p2), .val (.int p3), .val (.int p4), .val (.int (p1 &&& (3 : Int32))), .val (.int ((p2 &&& (255 : Int32)).toUInt32.toUInt16.toUInt32.toInt32)), .val (.int ((p3 &&& (255 : Int32)).toUInt32.toUInt16.toUInt32.toInt32)), .val (.int ((p4 &&& (255 : Int32)).toUInt32.toUInt16.toUInt32.toInt32)), .val (.ref b_73)] [(.ref b_73), (.ref b_85), (.ref b_85)])) rfl (by rw [hml]; rfl) (rest := [(.ref b_85)]) own_pd4 rfl rfl (by show 2 * 0 + _ ≤ _; exact Nat.le_of_eq rfl) (hb hby own_d1_111) ?_
        intro v_106 T_106 L_106 X_106 hQ_106
        generalize e_106 : T_106.heap = h_106 at hQ_106
        obtain ⟨rfl, N_106q, K_106, F_106c, b_106, F_106v, s_106, A_106, M_106⟩ := hQ_106
        have N_106 := Fr.app N_82 N_106q
        have u_107 := Nat.lt_of_lt_of_le (A_82).lt E_85.1
        have u_108 : b_73 < b_106 := Nat.lt_of_lt_of_le u_107 s_106
        have u_109 : b_85 < b_106 := Nat.lt_of_lt_of_le (A_85).lt s_106
        have u_110 : n0 ≤ b_106 := Nat.le_trans u_104 s_106
        have u_111 := u_93.ext E_85
        have u_112 : h0.size ≤ b_106 := Nat.le_trans (u_111).1 s_106
        have u_113 := Safe.keep K_106 (allS u_98 all0) u_99.1 u_97
        have u_114 := Safe.keep K_106 (allS u_98 all0) u_99.1 u_98
        have u_115 := u_99.trans (CHr.keep K_106 (allS u_98 all0) u_99.1)
        show Goes pP eE bB _ (T_106.setTop (mkF mM 114 #[.val (.int p1), .val (.int p2), .val (.int p3), .val (.int p4), .val (.int (p1 &&& (3 : Int32))), .val (.int ((p2 &&& (255 : Int32)).toUInt32.toUInt16.toUInt32.toInt32)), .val (.int ((p3 &&& (255 : Int32)).toUInt32.toUInt16.toUInt32.toInt32)), .val (.int ((p4 &&& (255 : Int32)).toUInt32.toUInt16.toUInt32.toInt32)), .val (.ref b_73)] [(.ref b_85)]))
        have u_116 := Nat.le_trans (Nat.le_refl h0.size) E_73.1
        have u_117 := Nat.le_trans u_116 (Keep.of_wr W_79).1
        have u_118 := Nat.le_trans u_117 (Keep.of_wr W_82).1
        have u_119 := Nat.le_trans u_118 E_85.1
        have u_120 := Nat.le_trans u_119 K_106.1
        refine Goes.retH X_106 hS (Nat.le_trans u_120 (Nat.le_of_eq (by rw [e_106]))) (own_atT X_106 hZ (own_hEL hw) e_106 hs0 u_115) hx hlk hret rfl (Or.inr (Or.inr (Or.inr (Or.inr ⟨rfl, rfl, rfl⟩)))) (hb hby own_d1_114) (by decide) (by decide) ?_
        have u_121 := u_111.trans K_106 (allS (Or.inr u_94) all0)
        have u_122 := A_85.keep K_106
        exact ⟨b_85, b_106, 2, _, rfl, N_106, by rw [e_106]; exact u_121, u_94, by rw [e_106]; exact u_122, by rw [e_106]; exact F_106c, by rw [e_106]; exact F_106v, by rw [e_106]; exact A_106, by rw [hc_72]; decide⟩
      · refine Goes.step (fun _ kK => XS.icmpYes X0.here hx rfl (pc0 := 64) (pc' := 85) rfl (hb hby own_d1_64) rfl (feq hc_72).2 (by decide) (by decide) kK) ?_
        show Goes pP eE bB _ (s₁.setTop (mkF mM 85 #[.val (.int p1), .val (.int p2), .val (.int p3), .val (.int p4), .val (.int (p1 &&& (3 : Int32))), .val (.int ((p2 &&& (255 : Int32)).toUInt32.toUInt16.toUInt32.toInt32)), .val (.int ((p3 &&& (255 : Int32)).toUInt32.toUInt16.toUInt32.toInt32)), .val (.int ((p4 &&& (255 : Int32)).toUInt32.toUInt16.toUInt32.toInt32)), .unset] []))
        refine Goes.step (fun _ kK => XS.iconst X0.here hx rfl (hb hby own_d1_85) kK) ?_
        show Goes pP eE bB _ (s₁.setTop (mkF mM 86 #[.val (.int p1), .val (.int p2), .val (.int p3), .val (.int p4), .val (.int (p1 &&& (3 : Int32))), .val (.int ((p2 &&& (255 : Int32)).toUInt32.toUInt16.toUInt32.toInt32)), .val (.int ((p3 &&& (255 : Int32)).toUInt32.toUInt16.toUInt32.toInt32)), .val (.int ((p4 &&& (255 : Int32)).toUInt32.toUInt16.toUInt32.toInt32)), .unset] [(.int (3 : Int32))]))
        obtain ⟨T_123, h_123, k_123, X_123, e_123, E_123, A_123, M_123, st_123⟩ := newPE X0 hx hZ (hw _ (List.mem_of_getElem? (i := 4) rfl)) e0 (g := (mkF mM 86 #[.val (.int p1), .val (.int p2), .val (.int p3), .val (.int p4), .val (.int (p1 &&& (3 : Int32))), .val (.int ((p2 &&& (255 : Int32)).toUInt32.toUInt16.toUInt32.toInt32)), .val (.int ((p3 &&& (255 : Int32)).toUInt32.toUInt16.toUInt32.toInt32)), .val (.int ((p4 &&& (255 : Int32)).toUInt32.toUInt16.toUInt32.toInt32)), .unset] [(.int (3 : Int32))])) rfl (hb hby own_d1_86) rfl (by decide) (cap := 3) (by decide) (by decide) (by decide) (by decide) (ad := "[C") rfl
        obtain ⟨b_123, g_123⟩ : ∃ z, z = h0.size := ⟨_, rfl⟩
        rw [← g_123] at A_123 M_123 st_123
        have u_124 : n0 ≤ b_123 := Nat.le_trans Z0 (Nat.le_of_eq g_123.symm)
        have u_125 : h0.size ≤ b_123 := Nat.le_trans ((Keep.refl h0 [])).1 (Nat.le_of_eq g_123.symm)
        have u_126 : Afn Z h_123 b_123 .char 3 (fun _ => (.int (0 : Int32))) := Afn.new (n := 3) A_123 (by decide)
        refine Goes.step st_123 ?_
        have u_127 := Safe.ext E_123 C0.1 (Safe.new (Nat.le_of_eq g_123.symm))
        have u_128 := C0.trans (CHr.ext E_123 C0.1)
        show Goes pP eE bB _ (T_123.setTop (mkF mM 88 #[.val (.int p1), .val (.int p2), .val (.int p3), .val (.int p4), .val (.int (p1 &&& (3 : Int32))), .val (.int ((p2 &&& (255 : Int32)).toUInt32.toUInt16.toUInt32.toInt32)), .val (.int ((p3 &&& (255 : Int32)).toUInt32.toUInt16.toUInt32.toInt32)), .val (.int ((p4 &&& (255 : Int32)).toUInt32.toUInt16.toUInt32.toInt32)), .unset] [(.ref b_123)]))
        refine Goes.step (fun _ kK => XS.dup X_123.here hx rfl (hb hby own_d1_88) rfl rfl kK) ?_
        show Goes pP eE bB _ (T_123.setTop (mkF mM 89 #[.val (.int p1), .val (.int p2), .val (.int p3), .val (.int p4), .val (.int (p1 &&& (3 : Int32))), .val (.int ((p2 &&& (255 : Int32)).toUInt32.toUInt16.toUInt32.toInt32)), .val (.int ((p3 &&& (255 : Int32)).toUInt32.toUInt16.toUInt32.toInt32)), .val (.int ((p4 &&& (255 : Int32)).toUInt32.toUInt16.toUInt32.toInt32)), .unset] [(.ref b_123), (.ref b_123)]))
        refine Goes.step (fun _ kK => XS.iconst X_123.here hx rfl (hb hby own_d1_89) kK) ?_
        show Goes pP eE bB _ (T_123.setTop (mkF mM 90 #[.val (.int p1), .val (.int p2), .val (.int p3), .val (.int p4), .val (.int (p1 &&& (3 : Int32))), .val (.int ((p2 &&& (255 : Int32)).toUInt32.toUInt16.toUInt32.toInt32)), .val (.int ((p3 &&& (255 : Int32)).toUInt32.toUInt16.toUInt32.toInt32)), .val (.int ((p4 &&& (255 : Int32)).toUInt32.toUInt16.toUInt32.toInt32)), .unset] [(.int (0 : Int32)), (.ref b_123), (.ref b_123)]))
        refine Goes.step (fun _ kK => XS.iload X_123.here hx rfl (hb hby own_d1_90) rfl kK) ?_
        show Goes pP eE bB _ (T_123.setTop (mkF mM 92 #[.val (.int p1), .val (.int p2), .val (.int p3), .val (.int p4), .val (.int (p1 &&& (3 : Int32))), .val (.int ((p2 &&& (255 : Int32)).toUInt32.toUInt16.toUInt32.toInt32)), .val (.int ((p3 &&& (255 : Int32)).toUInt32.toUInt16.toUInt32.toInt32)), .val (.int ((p4 &&& (255 : Int32)).toUInt32.toUInt16.toUInt32.toInt32)), .unset] [(.int ((p2 &&& (255 : Int32)).toUInt32.toUInt16.toUInt32.toInt32)), (.int (0 : Int32)), (.ref b_123), (.ref b_123)]))
        refine Goes.castore X_123 hx hZ e_123 u_126 (i := 0) (by decide) (by decide) (g := (mkF mM 92 #[.val (.int p1), .val (.int p2), .val (.int p3), .val (.int p4), .val (.int (p1 &&& (3 : Int32))), .val (.int ((p2 &&& (255 : Int32)).toUInt32.toUInt16.toUInt32.toInt32)), .val (.int ((p3 &&& (255 : Int32)).toUInt32.toUInt16.toUInt32.toInt32)), .val (.int ((p4 &&& (255 : Int32)).toUInt32.toUInt16.toUInt32.toInt32)), .unset] [(.int ((p2 &&& (255 : Int32)).toUInt32.toUInt16.toUInt32.toInt32)), (.int (0 : Int32)), (.ref b_123), (.ref b_123)])) rfl rfl (hb hby own_d1_92) ?_
        intro T_129 h_129 X_129 e_129 W_129 A_129
        have N_129 := Fr.snoc X_129 N0 u_124
        have u_130 := Safe.wr W_129 u_127 u_128.1 u_127
        have u_131 := u_128.trans (CHr.wr W_129 u_127 u_128.1)
        show Goes pP eE bB _ (T_129.setTop (mkF mM 93 #[.val (.int p1), .val (.int p2), .val (.int p3), .val (.int p4), .val (.int (p1 &&& (3 : Int32))), .val (.int ((p2 &&& (255 : Int32)).toUInt32.toUInt16.toUInt32.toInt32)), .val (.int ((p3 &&& (255 : Int32)).toUInt32.toUInt16.toUInt32.toInt32)), .val (.int ((p4 &&& (255 : Int32)).toUInt32.toUInt16.toUInt32.toInt32)), .unset] [(.ref b_123)]))
        refine Goes.step (fun _ kK => XS.dup X_129.here hx rfl (hb hby own_d1_93) rfl rfl kK) ?_
        show Goes pP eE bB _ (T_129.setTop (mkF mM 94 #[.val (.int p1), .val (.int p2), .val (.int p3), .val (.int p4), .val (.int (p1 &&& (3 : Int32))), .val (.int ((p2 &&& (255 : Int32)).toUInt32.toUInt16.toUInt32.toInt32)), .val (.int ((p3 &&& (255 : Int32)).toUInt32.toUInt16.toUInt32.toInt32)), .val (.int ((p4 &&& (255 : Int32)).toUInt32.toUInt16.toUInt32.toInt32)), .unset] [(.ref b_123), (.ref b_123)]))
        refine Goes.step (fun _ kK => XS.iconst X_129.here hx rfl (hb hby own_d1_94) kK) ?_
        show Goes pP eE bB _ (T_129.setTop (mkF mM 95 #[.val (.int p1), .val (.int p2), .val (.int p3), .val (.int p4), .val (.int (p1 &&& (3 : Int32))), .val (.int ((p2 &&& (255 : Int32)).toUInt32.toUInt16.toUInt32.toInt32)), .val (.int ((p3 &&& (255 : Int32)).toUInt32.toUInt16.toUInt32.toInt32)), .val (.int ((p4 &&& (255 : Int32)).toUInt32.toUInt16.toUInt32.toInt32)), .unset] [(.int (1 : Int32)), (.ref b_123), (.ref b_123)]))
        refine Goes.step (fun _ kK => XS.iload X_129.here hx rfl (hb hby own_d1_95) rfl kK) ?_
        show Goes pP eE bB _ (T_129.setTop (mkF mM 97 #[.val (.int p1), .val (.int p2), .val (.int p3), .val (.int p4), .val (.int (p1 &&& (3 : Int32))), .val (.int ((p2 &&& (255 : Int32)).toUInt32.toUInt16.toUInt32.toInt32)), .val (.int ((p3 &&& (255 : Int32)).toUInt32.toUInt16.toUInt32.toInt32)), .val (.int ((p4 &&& (255 : Int32)).toUInt32.toUInt16.toUInt32.toInt32)), .unset] [(.int ((p3 &&& (255 : Int32)).toUInt32.toUInt16.toUInt32.toInt32)), (.int (1 : Int32)), (.ref b_123), (.ref b_123)]))
        refine Goes.castore X_129 hx hZ e_129 A_129 (i := 1) (by decide) (by decide) (g := (mkF mM 97 #[.val (.int p1), .val (.int p2), .val (.int p3), .val (.int p4), .val (.int (p1 &&& (3 : Int32))), .val (.int ((p2 &&& (255 : Int32)).toUInt32.toUInt16.toUInt32.toInt32)), .val (.int ((p3 &&& (255 : Int32)).toUInt32.toUInt16.toUInt32.toInt32)), .val (.int ((p4 &&& (255 : Int32)).toUInt32.toUInt16.toUInt32.toInt32)), .unset] [(.int ((p3 &&& (255 : Int32)).toUInt32.toUInt16.toUInt32.toInt32)), (.int (1 : Int32)), (.ref b_123), (.ref b_123)])) rfl rfl (hb hby own_d1_97) ?_
        intro T_132 h_132 X_132 e_132 W_132 A_132
        have N_132 := Fr.snoc X_132 N_129 u_124
        have u_133 := Safe.wr W_132 u_130 u_131.1 u_130
        have u_134 := u_131.trans (CHr.wr W_132 u_130 u_131.1)
        show Goes pP eE bB _ (T_132.setTop (mkF mM 98 #[.val (.int p1), .val (.int p2), .val (.int p3), .val (.int p4), .val (.int (p1 &&& (3 : Int32))), .val (.int ((p2 &&& (255 : Int32)).toUInt32.toUInt16.toUInt32.toInt32)), .val (.int ((p3 &&& (255 : Int32)).toUInt32.toUInt16.toUInt32.toInt32)), .val (.int ((p4 &&& (255 : Int32)).toUInt32.toUInt16.toUInt32.toInt32)), .unset] [(.ref b_123)]))
        refine Goes.step (fun _ kK => XS.dup X_132.here hx rfl (hb hby own_d1_98) rfl rfl kK) ?_
        show Goes pP eE bB _ (T_132.setTop (mkF mM 99 #[.val (.int p1), .val (.int p2), .val (.int p3), .val (.int p4), .val (.int (p1 &&& (3 : Int32))), .val (.int ((p2 &&& (255 : Int32)).toUInt32.toUInt16.toUInt32.toInt32)), .val (.int ((p3 &&& (255 : Int32)).toUInt32.toUInt16.toUInt32.toInt32)), .val (.int ((p4 &&& (255 : Int32)).toUInt32.toUInt16.toUInt32.toInt32)), .unset] [(.ref b_123), (.ref b_123)]))
        refine Goes.step (fun _ kK => XS.iconst X_132.here hx rfl (hb hby own_d1_99) kK) ?_
        show Goes pP eE bB _ (T_132.setTop (mkF mM 100 #[.val (.int p1), .val (.int p2), .val (.int p3), .val (.int p4), .val (.int (p1 &&& (3 : Int32))), .val (.int ((p2 &&& (255 : Int32)).toUInt32.toUInt16.toUInt32.toInt32)), .val (.int ((p3 &&& (255 : Int32)).toUInt32.toUInt16.toUInt32.toInt32)), .val (.int ((p4 &&& (255 : Int32)).toUInt32.toUInt16.toUInt32.toInt32)), .unset] [(.int (2 : Int32)), (.ref b_123), (.ref b_123)]))
        refine Goes.step (fun _ kK => XS.iload X_132.here hx rfl (hb hby own_d1_100) rfl kK) ?_
        show Goes pP eE bB _ (T_132.setTop (mkF mM 102 #[.val (.int p1), .val (.int p2), .val (.int p3), .val (.int p4), .val (.int (p1 &&& (3 : Int32))), .val (.int ((p2 &&& (255 : Int32)).toUInt32.toUInt16.toUInt32.toInt32)), .val (.int ((p3 &&& (255 : Int32)).toUInt32.toUInt16.toUInt32.toInt32)), .val (.int ((p4 &&& (255 : Int32)).toUInt32.toUInt16.toUInt32.toInt32)), .unset] [(.int ((p4 &&& (255 : Int32)).toUInt32.toUInt16.toUInt32.toInt32)), (.int (2 : Int32)), (.ref b_123), (.ref b_123)]))
        refine Goes.castore X_132 hx hZ e_132 A_132 (i := 2) (by decide) (by decide) (g := (mkF mM 102 #[.val (.int p1), .val (.int p2), .val (.int p3), .val (.int p4), .val (.int (p1 &&& (3 : Int32))), .val (.int ((p2 &&& (255 : Int32)).toUInt32.toUInt16.toUInt32.toInt32)), .val (.int ((p3 &&& (255 : Int32)).toUInt32.toUInt16.toUInt32.toInt32)), .val (.int ((p4 &&& (255 : Int32)).toUInt32.toUInt16.toUInt32.toInt32)), .unset] [(.int ((p4 &&& (255 : Int32)).toUInt32.toUInt16.toUInt32.toInt32)), (.int (2 : Int32)), (.ref b_123), (.ref b_123)])) rfl rfl (hb hby own_d1_102) ?_
        intro T_135 h_135 X_135 e_135 W_135 A_135
        have N_135 := Fr.snoc X_135 N_132 u_124
        have u_136 := Safe.wr W_135 u_133 u_134.1 u_133
        have u_137 := u_134.trans (CHr.wr W_135 u_133 u_134.1)
        show Goes pP eE bB _ (T_135.setTop (mkF mM 103 #[.val (.int p1), .val (.int p2), .val (.int p3), .val (.int p4), .val (.int (p1 &&& (3 : Int32))), .val (.int ((p2 &&& (255 : Int32)).toUInt32.toUInt16.toUInt32.toInt32)), .val (.int ((p3 &&& (255 : Int32)).toUInt32.toUInt16.toUInt32.toInt32)), .val (.int ((p4 &&& (255 : Int32)).toUInt32.toUInt16.toUInt32.toInt32)), .unset] [(.ref b_123)]))
        refine Goes.step (fun _ kK => XS.astore X_135.here hx rfl (hb hby own_d1_103) rfl rfl (l' := #[.val (.int p1), .val (.int p2), .val (.int p3), .val (.int p4), .val (.int (p1 &&& (3 : Int32))), .val (.int ((p2 &&& (255 : Int32)).toUInt32.toUInt16.toUInt32.toInt32)), .val (.int ((p3 &&& (255 : Int32)).toUInt32.toUInt16.toUInt32.toInt32)), .val (.int ((p4 &&& (255 : Int32)).toUInt32.toUInt16.toUInt32.toInt32)), .val (.ref b_123)]) rfl kK) ?_
        show Goes pP eE bB _ (T_135.setTop (mkF mM 105 #[.val (.int p1), .val (.int p2), .val (.int p3), .val (.int p4), .val (.int (p1 &&& (3 : Int32))), .val (.int ((p2 &&& (255 : Int32)).toUInt32.toUInt16.toUInt32.toInt32)), .val (.int ((p3 &&& (255 : Int32)).toUInt32.toUInt16.toUInt32.toInt32)), .val (.int ((p4 &&& (255 : Int32)).toUInt32.toUInt16.toUInt32.toInt32)), .val (.ref b_123)] []))
        obtain ⟨T_138, h_138, X_138, e_138, E_138, A_138, D_138, -, st_138⟩ := newO X_135 hx hZ hown (hw _ (List.mem_of_getElem? (i := 5) rfl)) (hw _ (List.mem_of_getElem? (i := 6) rfl)) (hw _ (List.mem_of_getElem? (i := 7) rfl)) e_135 (g := (mkF mM 105 #[.val (.int p1), .val (.int p2), .val (.int p3), .val (.int p4), .val (.int (p1 &&& (3 : Int32))), .val (.int ((p2 &&& (255 : Int32)).toUInt32.toUInt16.toUInt32.toInt32)), .val (.int ((p3 &&& (255 : Int32)).toUInt32.toUInt16.toUInt32.toInt32)), .val (.int ((p4 &&& (255 : Int32)).toUInt32.toUInt16.toUInt32.toInt32)), .val (.ref b_123)] [])) rfl (hb hby own_d1_105) (by decide) (by decide)
        obtain ⟨b_138, g_138⟩ : ∃ z, z = h_135.size := ⟨_, rfl⟩
        rw [← g_138] at A_138 D_138 st_138
        have u_139 : b_123 < b_138 := Nat.lt_of_lt_of_le (A_135).lt (Nat.le_of_eq g_138.symm)
        have u_140 := Nat.le_trans Z0 E_123.1
        have u_141 := Nat.le_trans u_140 (Keep.of_wr W_129).1
        have u_142 := Nat.le_trans u_141 (Keep.of_wr W_132).1
        have u_143 := Nat.le_trans u_142 (Keep.of_wr W_135).1
        have u_144 : n0 ≤ b_138 := Nat.le_trans u_143 (Nat.le_of_eq g_138.symm)
        have u_145 := (Keep.refl h0 []).ext E_123
        have u_146 := u_145.wr W_129 (Or.inr u_125)
        have u_147 := u_146.wr W_132 (Or.inr u_125)
        have u_148 := u_147.wr W_135 (Or.inr u_125)
        have u_149 : h0.size ≤ b_138 := Nat.le_trans (u_148).1 (Nat.le_of_eq g_138.symm)
        have u_150 : Fld Z h_138 b_138 "java/lang/String" "value" "[B" .null := D_138 (Or.inr (hw _ (List.mem_of_getElem? (i := 20) rfl))) (ty := (.array .byte)) (by decide)
        have u_151 : Fld Z h_138 b_138 "java/lang/String" "coder" "B" (.int (0 : Int32)) := D_138 (Or.inr (hw _ (List.mem_of_getElem? (i := 21) rfl))) (ty := .byte) (by decide)
        refine Goes.step st_138 ?_
        have u_152 := Safe.ext E_138 u_137.1 u_136
        have u_153 := Safe.ext E_138 u_137.1 (Safe.new (Nat.le_of_eq g_138.symm))
        have u_154 := u_137.trans (CHr.ext E_138 u_137.1)
        show Goes pP eE bB _ (T_138.setTop (mkF mM 108 #[.val (.int p1), .val (.int p2), .val (.int p3), .val (.int p4), .val (.int (p1 &&& (3 : Int32))), .val (.int ((p2 &&& (255 : Int32)).toUInt32.toUInt16.toUInt32.toInt32)), .val (.int ((p3 &&& (255 : Int32)).toUInt32.toUInt16.toUInt32.toInt32)), .val (.int ((p4 &&& (255 : Int32)).toUInt32.toUInt16.toUInt32.toInt32)), .val (.ref b_123)] [(.ref b_138)]))
        refine Goes.step (fun _ kK => XS.dup X_138.here hx rfl (hb hby own_d1_108) rfl rfl kK) ?_
        show Goes pP eE bB _ (T_138.setTop (mkF mM 109 #[.val (.int p1), .val (.int p2), .val (.int p3), .val (.int p4), .val (.int (p1 &&& (3 : Int32))), .val (.int ((p2 &&& (255 : Int32)).toUInt32.toUInt16.toUInt32.toInt32)), .val (.int ((p3 &&& (255 : Int32)).toUInt32.toUInt16.toUInt32.toInt32)), .val (.int ((p4 &&& (255 : Int32)).toUInt32.toUInt16.toUInt32.toInt32)), .val (.ref b_123)] [(.ref b_138), (.ref b_138)]))
        refine Goes.step (fun _ kK => XS.aload X_138.here hx rfl (hb hby own_d1_109) rfl rfl kK) ?_
        show Goes pP eE bB _ (T_138.setTop (mkF mM 111 #[.val (.int p1), .val (.int p2), .val (.int p3), .val (.int p4), .val (.int (p1 &&& (3 : Int32))), .val (.int ((p2 &&& (255 : Int32)).toUInt32.toUInt16.toUInt32.toInt32)), .val (.int ((p3 &&& (255 : Int32)).toUInt32.toUInt16.toUInt32.toInt32)), .val (.int ((p4 &&& (255 : Int32)).toUInt32.toUInt16.toUInt32.toInt32)), .val (.ref b_123)] [(.ref b_123), (.ref b_138), (.ref b_138)]))
        have u_155 := O0.ext E_123
        have u_156 := u_155.wr W_129 u_124
        have u_157 := u_156.wr W_132 u_124
        have u_158 := u_157.wr W_135 u_124
        have u_159 := u_158.ext E_138
        have u_160 := Nat.le_trans u_143 E_138.1
        have u_161 := A_135.ext E_138
        refine Goes.callI X_138 hx hZ rfl hown (hw _ (List.mem_of_getElem? (i := 8) rfl)) (hw _ (List.mem_of_getElem? (i := 9) rfl)) (hw _ (List.mem_of_getElem? (i := 10) rfl)) (hw _ (List.mem_of_getElem? (i := 7) rfl)) (by decide) e_138 (rmS5_3 l Z a0 hw b_138 b_123 (nar .char ((p2 &&& (255 : Int32)).toUInt32.toUInt16.toUInt32.toInt32)) (nar .char ((p3 &&& (255 : Int32)).toUInt32.toUInt16.toUInt32.toInt32)) (nar .char ((p4 &&& (255 : Int32)).toUInt32.toUInt16.toUInt32.toInt32)) cs h_138 n0 u_160 Scs hcs u_159 _ u_161 A_138 u_144 u_151 u_150 rfl rfl rfl (own_ch p2) (own_ch p3) (own_ch p4)) (W := 1) (by decide) (by decide) (by decide) (by decide) (g := (mkF mM 111 #[.val (.int p1), .val (.int p2), .val (.int p3), .val (.int p4), .val (.int (p1 &&& (3 : Int32))), .val (.int ((p2 &&& (255 : Int32)).toUInt32.toUInt16.toUInt32.toInt32)), .val (.int ((p3 &&& (255 : Int32)).toUInt32.toUInt16.toUInt32.toInt32)), .val (.int ((p4 &&& (255 : Int32)).toUInt32.toUInt16.toUInt32.toInt32)), .val (.ref b_123)] [(.ref b_123), (.ref b_138), (.ref b_138)])) rfl (by rw [hml]; rfl) (rest := [(.ref b_138)]) own_pd4 rfl rfl (by show 2 * 0 + _ ≤ _; exact Nat.le_of_eq rfl) (hb hby own_d1_111) ?_
        intro v_162 T_162 L_162 X_162 hQ_162
        generalize e_162 : T_162.heap = h_162 at hQ_162
        obtain ⟨rfl, N_162q, K_162, F_162c, b_162, F_162v, s_162, A_162, M_162⟩ := hQ_162
        have N_162 := Fr.app N_135 N_162q
        have u_163 := Nat.lt_of_lt_of_le (A_135).lt E_138.1
        have u_164 : b_123 < b_162 := Nat.lt_of_lt_of_le u_163 s_162
        have u_165 : b_138 < b_162 := Nat.lt_of_lt_of_le (A_138).lt s_162
        have u_166 : n0 ≤ b_162 := Nat.le_trans u_160 s_162
        have u_167 := u_148.ext E_138
        have u_168 : h0.size ≤ b_162 := Nat.le_trans (u_167).1 s_162
        have u_169 := Safe.keep K_162 (allS u_153 all0) u_154.1 u_152
        have u_170 := Safe.keep K_162 (allS u_153 all0) u_154.1 u_153
        have u_171 := u_154.trans (CHr.keep K_162 (allS u_153 all0) u_154.1)
        show Goes pP eE bB _ (T_162.setTop (mkF mM 114 #[.val (.int p1), .val (.int p2), .val (.int p3), .val (.int p4), .val (.int (p1 &&& (3 : Int32))), .val (.int ((p2 &&& (255 : Int32)).toUInt32.toUInt16.toUInt32.toInt32)), .val (.int ((p3 &&& (255 : Int32)).toUInt32.toUInt16.toUInt32.toInt32)), .val (.int ((p4 &&& (255 : Int32)).toUInt32.toUInt16.toUInt32.toInt32)), .val (.ref b_123)] [(.ref b_138)]))
        have u_172 := Nat.le_trans (Nat.le_refl h0.size) E_123.1
        have u_173 := Nat.le_trans u_172 (Keep.of_wr W_129).1
        have u_174 := Nat.le_trans u_173 (Keep.of_wr W_132).1
        have u_175 := Nat.le_trans u_174 (Keep.of_wr W_135).1
        have u_176 := Nat.le_trans u_175 E_138.1
        have u_177 := Nat.le_trans u_176 K_162.1
        refine Goes.retH X_162 hS (Nat.le_trans u_177 (Nat.le_of_eq (by rw [e_162]))) (own_atT X_162 hZ (own_hEL hw) e_162 hs0 u_171) hx hlk hret rfl (Or.inr (Or.inr (Or.inr (Or.inr ⟨rfl, rfl, rfl⟩)))) (hb hby own_d1_114) (by decide) (by decide) ?_
        have u_178 := u_167.trans K_162 (allS (Or.inr u_149) all0)
        have u_179 := A_138.keep K_162
        exact ⟨b_138, b_162, 3, _, rfl, N_162, by rw [e_162]; exact u_178, u_149, by rw [e_162]; exact u_179, by rw [e_162]; exact F_162c, by rw [e_162]; exact F_162v, by rw [e_162]; exact A_162, by rw [(own_m3 hc_1 hc_28 hc_72)]; decide⟩
set_option maxRecDepth 65536 in
set_option maxHeartbeats 40000000 in
theorem rmR (l : Launch) (Z : State) (a0 : Array Value) (hw : ∀ d ∈ tables_1, d.before a0 Z = true) (a1 : Addr) (h0 : Heap) (n0 : Nat) (Z0 : n0 ≤ h0.size) :
    Con l Z (⟨"java/lang/Record", "<init>", "()V"⟩ : MethodName) jdk_30_method_1_code 1 none ({ frames := 1, cells := 0, slots := 0, locals := 12 } : Room) #[(.ref a1)] h0 (fun v h L => v = none ∧ Fr n0 L ∧ h = h0) := by
  refine Con.body (plainFor_of_name own_pn3) ?_
  intro pP eE sS mM bB mT cC s₁ hx hby hml hZ hown hnm hret hlk X0 e0
  have hown : sS.vm.findClass "java/lang/Record" = some mM.cls := hown
  have hml : cC.maxLocals = 1 := hml
  have N0 := Fr.nil n0
  have ef : entryFrame mM #[(.ref a1)] 1 = mkF mM 0 #[.val (.ref a1)] [] := by first | (simp [entryFrame, mkF, argsToLocals, Value.category]; done) | rfl
  rw [ef]
  show Goes pP eE bB _ (s₁.setTop (mkF mM 0 #[.val (.ref a1)] []))
  refine Goes.step (fun _ kK => XS.aloadN X0.here hx rfl (hb hby own_d7_0) rfl rfl kK) ?_
  show Goes pP eE bB _ (s₁.setTop (mkF mM 1 #[.val (.ref a1)] [(.ref a1)]))
  obtain ⟨T_1, X_1, e_1, st_1⟩ := initO X0 hx hZ hown (hw _ (List.mem_of_getElem? (i := 40) rfl)) (hw _ (List.mem_of_getElem? (i := 16) rfl)) (hw _ (List.mem_of_getElem? (i := 17) rfl)) e0 (g := (mkF mM 1 #[.val (.ref a1)] [(.ref a1)])) rfl (by rw [hml]; rfl) rfl (hb hby own_d7_1) (by decide) (W := 0) (by show 2 * 0 + _ ≤ _; exact Nat.le_of_eq rfl) (by decide)
  refine Goes.step st_1 ?_
  show Goes pP eE bB _ (T_1.setTop (mkF mM 4 #[.val (.ref a1)] []))
  refine Goes.ret0 X_1 hx hlk hret (hb hby own_d7_4) (by decide) (by decide) ?_
  exact ⟨rfl, N0, e_1⟩
set_option maxRecDepth 65536 in
set_option maxHeartbeats 40000000 in
theorem rmQ (l : Launch) (Z : State) (a0 : Array Value) (hw : ∀ d ∈ tables_1, d.before a0 Z = true) (a1 a2 : Addr) (h0 : Heap) (n0 : Nat) (Z0 : n0 ≤ h0.size) :
    Con l Z (⟨"java/util/Objects", "requireNonNull", "(Ljava/lang/Object;Ljava/lang/String;)Ljava/lang/Object;"⟩ : MethodName) jdk_31_method_11_code 2 (some (.object "java/lang/Object")) ({ frames := 0, cells := 0, slots := 0, locals := 0 } : Room) #[(.ref a1), (.ref a2)] h0 (fun v h L => v = some (.ref a1) ∧ Fr n0 L ∧ h = h0) := by
  refine Con.body (plainFor_of_name own_pn4) ?_
  intro pP eE sS mM bB mT cC s₁ hx hby hml hZ hown hnm hret hlk X0 e0
  have hown : sS.vm.findClass "java/util/Objects" = some mM.cls := hown
  have hml : cC.maxLocals = 2 := hml
  have N0 := Fr.nil n0
  have ef : entryFrame mM #[(.ref a1), (.ref a2)] 2 = mkF mM 0 #[.val (.ref a1), .val (.ref a2)] [] := by first | (simp [entryFrame, mkF, argsToLocals, Value.category]; done) | rfl
  rw [ef]
  show Goes pP eE bB _ (s₁.setTop (mkF mM 0 #[.val (.ref a1), .val (.ref a2)] []))
  refine Goes.step (fun _ kK => XS.aloadN X0.here hx rfl (hb hby own_d8_0) rfl rfl kK) ?_
  show Goes pP eE bB _ (s₁.setTop (mkF mM 1 #[.val (.ref a1), .val (.ref a2)] [(.ref a1)]))
  refine Goes.step (fun _ kK => XS.ifnonnullYes X0.here hx rfl (pc0 := 1) (pc' := 13) rfl (hb hby own_d8_1) rfl (by decide) (by decide) kK) ?_
  show Goes pP eE bB _ (s₁.setTop (mkF mM 13 #[.val (.ref a1), .val (.ref a2)] []))
  refine Goes.step (fun _ kK => XS.aloadN X0.here hx rfl (hb hby own_d8_13) rfl rfl kK) ?_
  show Goes pP eE bB _ (s₁.setTop (mkF mM 14 #[.val (.ref a1), .val (.ref a2)] [(.ref a1)]))
  refine Goes.ret X0 hx hlk hret rfl (Or.inr (Or.inr (Or.inr (Or.inr ⟨rfl, rfl, rfl⟩)))) (hb hby own_d8_14) (by decide) (by decide) ?_
  exact ⟨rfl, N0, e0⟩
set_option maxRecDepth 65536 in
set_option maxHeartbeats 40000000 in
theorem rmG (l : Launch) (Z : State) (a0 : Array Value) (hw : ∀ d ∈ tables_1, d.before a0 Z = true) (a1 a2 : Addr) (h0 : Heap) (n0 : Nat) (Z0 : n0 ≤ h0.size) (E1 : Exa Z h0 a1 "com/example/cicada/cicada/engine/Group") (g1 : n0 ≤ a1) (F_name : Fld Z h0 a1 "com/example/cicada/cicada/engine/Group" "name" "Ljava/lang/String;" .null) (F_fifo : Fld Z h0 a1 "com/example/cicada/cicada/engine/Group" "fifo" "Z" (.int (0 : Int32))) (F_maxRetries : Fld Z h0 a1 "com/example/cicada/cicada/engine/Group" "maxRetries" "I" (.int (0 : Int32))) :
    ConW l Z (⟨"com/example/cicada/cicada/engine/Group", "<init>", "(Ljava/lang/String;ZI)V"⟩ : MethodName) prog_8_method_1_code 4 none ({ frames := 2, cells := 2, slots := 20, locals := 24 } : Room) #[(.ref a1), (.ref a2), (.int (0 : Int32)), (.int (16 : Int32))] h0 (fun v h L => v = none ∧ Fr n0 L ∧ Keep h0 h [a1] ∧ Fld Z h a1 "com/example/cicada/cicada/engine/Group" "name" "Ljava/lang/String;" (.ref a2) ∧ Fld Z h a1 "com/example/cicada/cicada/engine/Group" "fifo" "Z" (.int (0 : Int32)) ∧ Fld Z h a1 "com/example/cicada/cicada/engine/Group" "maxRetries" "I" (.int (16 : Int32))) := by
  refine ConW.body (plainFor_of_name own_pn5) ?_
  intro pP eE sS vm0 mM bB mT cC s₁ hx hby hml hZ hown hnm hret hlk X0 e0 hS
  have hown : (sS.setVm vm0).vm.findClass "com/example/cicada/cicada/engine/Group" = some mM.cls := hown
  have hml : cC.maxLocals = 4 := hml
  have N0 := Fr.nil n0
  have ef : entryFrame mM #[(.ref a1), (.ref a2), (.int (0 : Int32)), (.int (16 : Int32))] 4 = mkF mM 0 #[.val (.ref a1), .val (.ref a2), .val (.int (0 : Int32)), .val (.int (16 : Int32))] [] := by first | (simp [entryFrame, mkF, argsToLocals, Value.category]; done) | rfl
  rw [ef]
  show Goes pP eE bB _ (s₁.setTop (mkF mM 0 #[.val (.ref a1), .val (.ref a2), .val (.int (0 : Int32)), .val (.int (16 : Int32))] []))
  refine Goes.step (fun _ kK => XS.aloadN X0.here hx rfl (hb hby own_d6_0) rfl rfl kK) ?_
  show Goes pP eE bB _ (s₁.setTop (mkF mM 1 #[.val (.ref a1), .val (.ref a2), .val (.int (0 : Int32)), .val (.int (16 : Int32))] [(.ref a1)]))
  refine Goes.callI X0 hx hZ rfl hown (hw _ (List.mem_of_getElem? (i := 35) rfl)) (hw _ (List.mem_of_getElem? (i := 36) rfl)) (hw _ (List.mem_of_getElem? (i := 39) rfl)) (hw _ (List.mem_of_getElem? (i := 38) rfl)) (by decide) e0 (rmR l Z a0 hw a1 h0 n0 Z0) (W := 0) (by decide) (by decide) (by decide) (by decide) (g := (mkF mM 1 #[.val (.ref a1), .val (.ref a2), .val (.int (0 : Int32)), .val (.int (16 : Int32))] [(.ref a1)])) rfl (by rw [hml]; rfl) (rest := []) own_pd5 rfl rfl (by show 2 * 0 + _ ≤ _; exact Nat.le_of_eq rfl) (hb hby own_d6_1) ?_
  intro v_1 T_1 L_1 X_1 hQ_1
  obtain ⟨rfl, N_1q, e_1⟩ := hQ_1
  have N_1 := Fr.app N0 N_1q
  show Goes pP eE bB _ (T_1.setTop (mkF mM 4 #[.val (.ref a1), .val (.ref a2), .val (.int (0 : Int32)), .val (.int (16 : Int32))] []))
  refine Goes.step (fun _ kK => XS.aloadN X_1.here hx rfl (hb hby own_d6_4) rfl rfl kK) ?_
  show Goes pP eE bB _ (T_1.setTop (mkF mM 5 #[.val (.ref a1), .val (.ref a2), .val (.int (0 : Int32)), .val (.int (16 : Int32))] [(.ref a2)]))
  refine Goes.ldcS X_1 hx hZ hown (hw _ (List.mem_of_getElem? (i := 41) rfl)) (own_wS hw) e_1 hS (Nat.le_refl h0.size) (g := (mkF mM 5 #[.val (.ref a1), .val (.ref a2), .val (.int (0 : Int32)), .val (.int (16 : Int32))] [(.ref a2)])) rfl (hb hby own_d6_5) (n := 16) (by decide) (by decide) (by decide) (by decide) ?_
  intro a_2 T_2 h_2 k_2 X_2 e_2 E_2 hS hk_2 hZ hown
  show Goes pP eE bB _ (T_2.setTop (mkF mM 7 #[.val (.ref a1), .val (.ref a2), .val (.int (0 : Int32)), .val (.int (16 : Int32))] [(.ref a_2), (.ref a2)]))
  have u_3 := Nat.le_trans Z0 E_2.1
  refine Goes.callS X_2 hx hZ hown (hw _ (List.mem_of_getElem? (i := 42) rfl)) (hw _ (List.mem_of_getElem? (i := 43) rfl)) (hw _ (List.mem_of_getElem? (i := 44) rfl)) (hw _ (List.mem_of_getElem? (i := 45) rfl)) (by decide) e_2 (rmQ l Z a0 hw a2 a_2 h_2 n0 u_3) (W := 0) (by decide) (by decide) (by decide) (by decide) (g := (mkF mM 7 #[.val (.ref a1), .val (.ref a2), .val (.int (0 : Int32)), .val (.int (16 : Int32))] [(.ref a_2), (.ref a2)])) rfl (by rw [hml]; rfl) (rest := []) own_pd6 rfl rfl (by show 2 * 0 + _ ≤ _; exact Nat.le_of_eq rfl) (hb hby own_d6_7) ?_
  intro v_4 T_4 L_4 X_4 hQ_4
  obtain ⟨rfl, N_4q, e_4⟩ := hQ_4
  have N_4 := Fr.app N_1 N_4q
  show Goes pP eE bB _ (T_4.setTop (mkF mM 10 #[.val (.ref a1), .val (.ref a2), .val (.int (0 : Int32)), .val (.int (16 : Int32))] [(.ref a2)]))
  refine Goes.step (fun _ kK => XS.pop X_4.here hx rfl (hb hby own_d6_10) rfl rfl kK) ?_
  show Goes pP eE bB _ (T_4.setTop (mkF mM 11 #[.val (.ref a1), .val (.ref a2), .val (.int (0 : Int32)), .val (.int (16 : Int32))] []))
  refine Goes.step (fun _ kK => XS.aloadN X_4.here hx rfl (hb hby own_d6_11) rfl rfl kK) ?_
  show Goes pP eE bB _ (T_4.setTop (mkF mM 12 #[.val (.ref a1), .val (.ref a2), .val (.int (0 : Int32)), .val (.int (16 : Int32))] [(.ref a1)]))
  refine Goes.step (fun _ kK => XS.aloadN X_4.here hx rfl (hb hby own_d6_12) rfl rfl kK) ?_
  show Goes pP eE bB _ (T_4.setTop (mkF mM 13 #[.val (.ref a1), .val (.ref a2), .val (.int (0 : Int32)), .val (.int (16 : Int32))] [(.ref a2), (.ref a1)]))
  have u_5 := F_name.ext E_2
  have u_6 := E1.ext E_2
  obtain ⟨T_7, h_7, X_7, e_7, W_7, st_7⟩ := putF X_4 hx hZ hown (host := "") (Or.inl (hw _ (List.mem_of_getElem? (i := 46) rfl))) Via.refl e_4 u_5 u_6 (Or.inr ⟨(hw _ (List.mem_of_getElem? (i := 47) rfl)), rfl, hnm⟩) (hw _ (List.mem_of_getElem? (i := 31) rfl)) (ty := (.object "java/lang/String")) (by decide) rfl rfl (g := (mkF mM 13 #[.val (.ref a1), .val (.ref a2), .val (.int (0 : Int32)), .val (.int (16 : Int32))] [(.ref a2), (.ref a1)])) rfl rfl (hb hby own_d6_13)
  have u_8 := u_5.same W_7
  have N_7 := Fr.snoc X_7 N_4 g1
  refine Goes.step st_7 ?_
  show Goes pP eE bB _ (T_7.setTop (mkF mM 16 #[.val (.ref a1), .val (.ref a2), .val (.int (0 : Int32)), .val (.int (16 : Int32))] []))
  refine Goes.step (fun _ kK => XS.aloadN X_7.here hx rfl (hb hby own_d6_16) rfl rfl kK) ?_
  show Goes pP eE bB _ (T_7.setTop (mkF mM 17 #[.val (.ref a1), .val (.ref a2), .val (.int (0 : Int32)), .val (.int (16 : Int32))] [(.ref a1)]))
  refine Goes.step (fun _ kK => XS.iloadN X_7.here hx rfl (hb hby own_d6_17) rfl kK) ?_
  show Goes pP eE bB _ (T_7.setTop (mkF mM 18 #[.val (.ref a1), .val (.ref a2), .val (.int (0 : Int32)), .val (.int (16 : Int32))] [(.int (0 : Int32)), (.ref a1)]))
  have u_9 := F_fifo.ext E_2
  have u_10 := u_9.other W_7 (Or.inr (slot_ne (Or.inr (hw _ (List.mem_of_getElem? (i := 49) rfl))) (Or.inr (hw _ (List.mem_of_getElem? (i := 47) rfl))) (by decide) (t := .boolean) (t' := (.object "java/lang/String")) (by decide) (by decide)))
  have u_11 := u_6.wr W_7
  obtain ⟨T_12, h_12, X_12, e_12, W_12, st_12⟩ := putF X_7 hx hZ hown (host := "") (Or.inl (hw _ (List.mem_of_getElem? (i := 48) rfl))) Via.refl e_7 u_10 u_11 (Or.inr ⟨(hw _ (List.mem_of_getElem? (i := 49) rfl)), rfl, hnm⟩) (hw _ (List.mem_of_getElem? (i := 31) rfl)) (ty := .boolean) (by decide) rfl rfl (g := (mkF mM 18 #[.val (.ref a1), .val (.ref a2), .val (.int (0 : Int32)), .val (.int (16 : Int32))] [(.int (0 : Int32)), (.ref a1)])) rfl rfl (hb hby own_d6_18)
  have u_13 := u_10.same W_12
  have N_12 := Fr.snoc X_12 N_7 g1
  refine Goes.step st_12 ?_
  show Goes pP eE bB _ (T_12.setTop (mkF mM 21 #[.val (.ref a1), .val (.ref a2), .val (.int (0 : Int32)), .val (.int (16 : Int32))] []))
  refine Goes.step (fun _ kK => XS.aloadN X_12.here hx rfl (hb hby own_d6_21) rfl rfl kK) ?_
  show Goes pP eE bB _ (T_12.setTop (mkF mM 22 #[.val (.ref a1), .val (.ref a2), .val (.int (0 : Int32)), .val (.int (16 : Int32))] [(.ref a1)]))
  refine Goes.step (fun _ kK => XS.iloadN X_12.here hx rfl (hb hby own_d6_22) rfl kK) ?_
  show Goes pP eE bB _ (T_12.setTop (mkF mM 23 #[.val (.ref a1), .val (.ref a2), .val (.int (0 : Int32)), .val (.int (16 : Int32))] [(.int (16 : Int32)), (.ref a1)]))
  have u_14 := F_maxRetries.ext E_2
  have u_15 := u_14.other W_7 (Or.inr (slot_ne (Or.inr (hw _ (List.mem_of_getElem? (i := 51) rfl))) (Or.inr (hw _ (List.mem_of_getElem? (i := 47) rfl))) (by decide) (t := .int) (t' := (.object "java/lang/String")) (by decide) (by decide)))
  have u_16 := u_15.other W_12 (Or.inr (slot_ne (Or.inr (hw _ (List.mem_of_getElem? (i := 51) rfl))) (Or.inr (hw _ (List.mem_of_getElem? (i := 49) rfl))) (by decide) (t := .int) (t' := .boolean) (by decide) (by decide)))
  have u_17 := u_11.wr W_12
  obtain ⟨T_18, h_18, X_18, e_18, W_18, st_18⟩ := putF X_12 hx hZ hown (host := "") (Or.inl (hw _ (List.mem_of_getElem? (i := 50) rfl))) Via.refl e_12 u_16 u_17 (Or.inr ⟨(hw _ (List.mem_of_getElem? (i := 51) rfl)), rfl, hnm⟩) (hw _ (List.mem_of_getElem? (i := 31) rfl)) (ty := .int) (by decide) rfl rfl (g := (mkF mM 23 #[.val (.ref a1), .val (.ref a2), .val (.int (0 : Int32)), .val (.int (16 : Int32))] [(.int (16 : Int32)), (.ref a1)])) rfl rfl (hb hby own_d6_23)
  have u_19 := u_16.same W_18
  have N_18 := Fr.snoc X_18 N_12 g1
  refine Goes.step st_18 ?_
  show Goes pP eE bB _ (T_18.setTop (mkF mM 26 #[.val (.ref a1), .val (.ref a2), .val (.int (0 : Int32)), .val (.int (16 : Int32))] []))
  have u_20 := Nat.le_trans hk_2 (Keep.of_wr W_7).1
  have u_21 := Nat.le_trans u_20 (Keep.of_wr W_12).1
  have u_22 := Nat.le_trans u_21 (Keep.of_wr W_18).1
  refine Goes.ret0W X_18 hS (Nat.le_trans u_22 (Nat.le_of_eq (by rw [e_18]))) hx hlk hret (hb hby own_d6_26) (by decide) (by decide) ?_
  have u_23 := (Keep.refl h0 [a1]).ext E_2
  have u_24 := u_23.wr W_7 (Or.inl (List.mem_of_getElem? (i := 0) rfl))
  have u_25 := u_24.wr W_12 (Or.inl (List.mem_of_getElem? (i := 0) rfl))
  have u_26 := u_25.wr W_18 (Or.inl (List.mem_of_getElem? (i := 0) rfl))
  have u_27 := u_8.other W_12 (Or.inr (slot_ne (Or.inr (hw _ (List.mem_of_getElem? (i := 47) rfl))) (Or.inr (hw _ (List.mem_of_getElem? (i := 49) rfl))) (by decide) (t := (.object "java/lang/String")) (t' := .boolean) (by decide) (by decide)))
  have u_28 := u_27.other W_18 (Or.inr (slot_ne (Or.inr (hw _ (List.mem_of_getElem? (i := 47) rfl))) (Or.inr (hw _ (List.mem_of_getElem? (i := 51) rfl))) (by decide) (t := (.object "java/lang/String")) (t' := .int) (by decide) (by decide)))
  have u_29 := u_13.other W_18 (Or.inr (slot_ne (Or.inr (hw _ (List.mem_of_getElem? (i := 49) rfl))) (Or.inr (hw _ (List.mem_of_getElem? (i := 51) rfl))) (by decide) (t := .boolean) (t' := .int) (by decide) (by decide)))
  exact ⟨rfl, N_18, by rw [e_18]; exact u_26, by rw [e_18]; exact u_28, by rw [e_18]; exact u_29, by rw [e_18]; exact u_19⟩
set_option maxRecDepth 65536 in
set_option maxHeartbeats 40000000 in
theorem rmW (l : Launch) (Z : State) (a0 : Array Value) (hw : ∀ d ∈ tables_1, d.before a0 Z = true) (a2 : Addr) (h0 : Heap) (n0 : Nat) (Z0 : n0 ≤ h0.size) :
    ConW l Z (⟨"com/example/cicada/cicada/engine/Group", "withDefaults", "(Ljava/lang/String;)Lcom/example/cicada/cicada/engine/Group;"⟩ : MethodName) prog_8_method_2_code 1 (some (.object "com/example/cicada/cicada/engine/Group")) ({ frames := 3, cells := 3, slots := 23, locals := 40 } : Room) #[(.ref a2)] h0 (fun v h L => ∃ a, v = some (.ref a) ∧ Fr n0 L ∧ Keep h0 h [] ∧ h0.size ≤ a ∧ Exa Z h a "com/example/cicada/cicada/engine/Group" ∧ Fld Z h a "com/example/cicada/cicada/engine/Group" "name" "Ljava/lang/String;" (.ref a2) ∧ Fld Z h a "com/example/cicada/cicada/engine/Group" "fifo" "Z" (.int (0 : Int32)) ∧ Fld Z h a "com/example/cicada/cicada/engine/Group" "maxRetries" "I" (.int (16 : Int32))) := by
  refine ConW.body (plainFor_of_name own_pn5) ?_
  intro pP eE sS vm0 mM bB mT cC s₁ hx hby hml hZ hown hnm hret hlk X0 e0 hS
  have hown : (sS.setVm vm0).vm.findClass "com/example/cicada/cicada/engine/Group" = some mM.cls := hown
  have hml : cC.maxLocals = 1 := hml
  have N0 := Fr.nil n0
  have ef : entryFrame mM #[(.ref a2)] 1 = mkF mM 0 #[.val (.ref a2)] [] := by first | (simp [entryFrame, mkF, argsToLocals, Value.category]; done) | rfl
  rw [ef]
  show Goes pP eE bB _ (s₁.setTop (mkF mM 0 #[.val (.ref a2)] []))
  obtain ⟨T_1, h_1, X_1, e_1, E_1, A_1, D_1, -, st_1⟩ := newO X0 hx hZ hown (hw _ (List.mem_of_getElem? (i := 30) rfl)) (hw _ (List.mem_of_getElem? (i := 31) rfl)) (hw _ (List.mem_of_getElem? (i := 28) rfl)) e0 (g := (mkF mM 0 #[.val (.ref a2)] [])) rfl (hb hby own_d5_0) (by decide) (by decide)
  obtain ⟨b_1, g_1⟩ : ∃ z, z = h0.size := ⟨_, rfl⟩
  rw [← g_1] at A_1 D_1 st_1
  have u_2 : n0 ≤ b_1 := Nat.le_trans Z0 (Nat.le_of_eq g_1.symm)
  have u_3 : h0.size ≤ b_1 := Nat.le_trans ((Keep.refl h0 [])).1 (Nat.le_of_eq g_1.symm)
  have u_4 : Fld Z h_1 b_1 "com/example/cicada/cicada/engine/Group" "name" "Ljava/lang/String;" .null := D_1 (Or.inr (hw _ (List.mem_of_getElem? (i := 47) rfl))) (ty := (.object "java/lang/String")) (by decide)
  have u_5 : Fld Z h_1 b_1 "com/example/cicada/cicada/engine/Group" "fifo" "Z" (.int (0 : Int32)) := D_1 (Or.inr (hw _ (List.mem_of_getElem? (i := 49) rfl))) (ty := .boolean) (by decide)
  have u_6 : Fld Z h_1 b_1 "com/example/cicada/cicada/engine/Group" "maxRetries" "I" (.int (0 : Int32)) := D_1 (Or.inr (hw _ (List.mem_of_getElem? (i := 51) rfl))) (ty := .int) (by decide)
  refine Goes.step st_1 ?_
  show Goes pP eE bB _ (T_1.setTop (mkF mM 3 #[.val (.ref a2)] [(.ref b_1)]))
  refine Goes.step (fun _ kK => XS.dup X_1.here hx rfl (hb hby own_d5_3) rfl rfl kK) ?_
  show Goes pP eE bB _ (T_1.setTop (mkF mM 4 #[.val (.ref a2)] [(.ref b_1), (.ref b_1)]))
  refine Goes.step (fun _ kK => XS.aloadN X_1.here hx rfl (hb hby own_d5_4) rfl rfl kK) ?_
  show Goes pP eE bB _ (T_1.setTop (mkF mM 5 #[.val (.ref a2)] [(.ref a2), (.ref b_1), (.ref b_1)]))
  refine Goes.step (fun _ kK => XS.iconst X_1.here hx rfl (hb hby own_d5_5) kK) ?_
  show Goes pP eE bB _ (T_1.setTop (mkF mM 6 #[.val (.ref a2)] [(.int (0 : Int32)), (.ref a2), (.ref b_1), (.ref b_1)]))
  refine Goes.step (fun _ kK => XS.bipush X_1.here hx rfl (hb hby own_d5_6) kK) ?_
  show Goes pP eE bB _ (T_1.setTop (mkF mM 8 #[.val (.ref a2)] [(.int (16 : Int32)), (.int (0 : Int32)), (.ref a2), (.ref b_1), (.ref b_1)]))
  have u_7 := Nat.le_trans Z0 E_1.1
  have u_9 := Nat.le_trans (Nat.le_refl h0.size) E_1.1
  refine Goes.callIW X_1 hx hZ rfl hown (hw _ (List.mem_of_getElem? (i := 32) rfl)) (hw _ (List.mem_of_getElem? (i := 33) rfl)) (hw _ (List.mem_of_getElem? (i := 34) rfl)) (hw _ (List.mem_of_getElem? (i := 28) rfl)) (by decide) e_1 hS u_9 (rmG l Z a0 hw b_1 a2 h_1 n0 u_7 A_1 u_2 u_4 u_5 u_6) (W := 1) (by decide) (by decide) (by decide) (by decide) (g := (mkF mM 8 #[.val (.ref a2)] [(.int (16 : Int32)), (.int (0 : Int32)), (.ref a2), (.ref b_1), (.ref b_1)])) rfl (by rw [hml]; rfl) (rest := [(.ref b_1)]) own_pd7 rfl rfl (by show 2 * 0 + _ ≤ _; exact Nat.le_of_eq rfl) (hb hby own_d5_8) ?_
  intro v_8 T_8 L_8 RB_8 gr_8 hQ_8
  obtain ⟨X_8, hS, hZ, hown⟩ := RB_8
  generalize e_8 : T_8.heap = h_8 at hQ_8
  obtain ⟨rfl, N_8q, K_8, F_8_name, F_8_fifo, F_8_maxRetries⟩ := hQ_8
  have N_8 := Fr.app N0 N_8q
  have hk_8 : T_8.heap.size ≤ h_8.size := Nat.le_of_eq (by rw [e_8])
  show Goes pP eE bB _ (T_8.setTop (mkF mM 11 #[.val (.ref a2)] [(.ref b_1)]))
  refine Goes.retW X_8 hS (Nat.le_trans hk_8 (Nat.le_of_eq (by rw [e_8]))) hx hlk hret rfl (Or.inr (Or.inr (Or.inr (Or.inr ⟨rfl, rfl, rfl⟩)))) (hb hby own_d5_11) (by decide) (by decide) ?_
  have u_10 := (Keep.refl h0 []).ext E_1
  have u_11 := u_10.trans K_8 (allS (Or.inr u_3) all0)
  have u_12 := A_1.keep K_8
  exact ⟨_, rfl, N_8, by rw [e_8]; exact u_11, u_3, by rw [e_8]; exact u_12, by rw [e_8]; exact F_8_name, by rw [e_8]; exact F_8_fifo, by rw [e_8]; exact F_8_maxRetries⟩
set_option maxRecDepth 65536 in
set_option maxHeartbeats 40000000 in
theorem rmg_name (l : Launch) (Z : State) (a0 : Array Value) (hw : ∀ d ∈ tables_1, d.before a0 Z = true) (a1 : Addr) (a2 : Addr) (h0 : Heap) (n0 : Nat) (Z0 : n0 ≤ h0.size) (F0 : Fld Z h0 a1 "com/example/cicada/cicada/engine/Group" "name" "Ljava/lang/String;" (.ref a2)) :
    Con l Z (⟨"com/example/cicada/cicada/engine/Group", "name", "()Ljava/lang/String;"⟩ : MethodName) prog_8_method_8_code 1 (some (.object "java/lang/String")) ({ frames := 0, cells := 0, slots := 0, locals := 0 } : Room) #[(.ref a1)] h0 (fun v h L => v = some (.ref a2) ∧ Fr n0 L ∧ h = h0) := by
  refine Con.body (plainFor_of_name own_pn5) ?_
  intro pP eE sS mM bB mT cC s₁ hx hby hml hZ hown hnm hret hlk X0 e0
  have hown : sS.vm.findClass "com/example/cicada/cicada/engine/Group" = some mM.cls := hown
  have hml : cC.maxLocals = 1 := hml
  have N0 := Fr.nil n0
  have ef : entryFrame mM #[(.ref a1)] 1 = mkF mM 0 #[.val (.ref a1)] [] := by first | (simp [entryFrame, mkF, argsToLocals, Value.category]; done) | rfl
  rw [ef]
  show Goes pP eE bB _ (s₁.setTop (mkF mM 0 #[.val (.ref a1)] []))
  refine Goes.step (fun _ kK => XS.aloadN X0.here hx rfl (hb hby own_d9_0) rfl rfl kK) ?_
  show Goes pP eE bB _ (s₁.setTop (mkF mM 1 #[.val (.ref a1)] [(.ref a1)]))
  obtain ⟨T_1, X_1, e_1, st_1⟩ := getF X0 hx hZ hown (host := "") (Or.inl (hw _ (List.mem_of_getElem? (i := 46) rfl))) Via.refl e0 F0 (g := (mkF mM 1 #[.val (.ref a1)] [(.ref a1)])) rfl rfl (hb hby own_d9_1)
  refine Goes.step st_1 ?_
  show Goes pP eE bB _ (T_1.setTop (mkF mM 4 #[.val (.ref a1)] [(.ref a2)]))
  refine Goes.ret X_1 hx hlk hret rfl (Or.inr (Or.inr (Or.inr (Or.inr ⟨rfl, rfl, rfl⟩)))) (hb hby own_d9_4) (by decide) (by decide) ?_
  exact ⟨rfl, N0, e_1⟩
set_option maxRecDepth 65536 in
set_option maxHeartbeats 40000000 in
theorem rmg_fifo (l : Launch) (Z : State) (a0 : Array Value) (hw : ∀ d ∈ tables_1, d.before a0 Z = true) (a1 : Addr) (c : Int32) (h0 : Heap) (n0 : Nat) (Z0 : n0 ≤ h0.size) (F0 : Fld Z h0 a1 "com/example/cicada/cicada/engine/Group" "fifo" "Z" (.int c)) :
    Con l Z (⟨"com/example/cicada/cicada/engine/Group", "fifo", "()Z"⟩ : MethodName) prog_8_method_9_code 1 (some .boolean) ({ frames := 0, cells := 0, slots := 0, locals := 0 } : Room) #[(.ref a1)] h0 (fun v h L => v = some (.int (nar .boolean c)) ∧ Fr n0 L ∧ h = h0) := by
  refine Con.body (plainFor_of_name own_pn5) ?_
  intro pP eE sS mM bB mT cC s₁ hx hby hml hZ hown hnm hret hlk X0 e0
  have hown : sS.vm.findClass "com/example/cicada/cicada/engine/Group" = some mM.cls := hown
  have hml : cC.maxLocals = 1 := hml
  have N0 := Fr.nil n0
  have ef : entryFrame mM #[(.ref a1)] 1 = mkF mM 0 #[.val (.ref a1)] [] := by first | (simp [entryFrame, mkF, argsToLocals, Value.category]; done) | rfl
  rw [ef]
  show Goes pP eE bB _ (s₁.setTop (mkF mM 0 #[.val (.ref a1)] []))
  refine Goes.step (fun _ kK => XS.aloadN X0.here hx rfl (hb hby own_d13_0) rfl rfl kK) ?_
  show Goes pP eE bB _ (s₁.setTop (mkF mM 1 #[.val (.ref a1)] [(.ref a1)]))
  obtain ⟨T_1, X_1, e_1, st_1⟩ := getF X0 hx hZ hown (host := "") (Or.inl (hw _ (List.mem_of_getElem? (i := 48) rfl))) Via.refl e0 F0 (g := (mkF mM 1 #[.val (.ref a1)] [(.ref a1)])) rfl rfl (hb hby own_d13_1)
  refine Goes.step st_1 ?_
  show Goes pP eE bB _ (T_1.setTop (mkF mM 4 #[.val (.ref a1)] [(.int c)]))
  refine Goes.retN X_1 hx hlk (t := .boolean) hret (by simp) (hb hby own_d13_4) (by decide) (by decide) ?_
  exact ⟨rfl, N0, e_1⟩
set_option maxRecDepth 65536 in
set_option maxHeartbeats 40000000 in
theorem rmg_maxRetries (l : Launch) (Z : State) (a0 : Array Value) (hw : ∀ d ∈ tables_1, d.before a0 Z = true) (a1 : Addr) (c : Int32) (h0 : Heap) (n0 : Nat) (Z0 : n0 ≤ h0.size) (F0 : Fld Z h0 a1 "com/example/cicada/cicada/engine/Group" "maxRetries" "I" (.int c)) :
    Con l Z (⟨"com/example/cicada/cicada/engine/Group", "maxRetries", "()I"⟩ : MethodName) prog_8_method_10_code 1 (some .int) ({ frames := 0, cells := 0, slots := 0, locals := 0 } : Room) #[(.ref a1)] h0 (fun v h L => v = some (.int c) ∧ Fr n0 L ∧ h = h0) := by
  refine Con.body (plainFor_of_name own_pn5) ?_
  intro pP eE sS mM bB mT cC s₁ hx hby hml hZ hown hnm hret hlk X0 e0
  have hown : sS.vm.findClass "com/example/cicada/cicada/engine/Group" = some mM.cls := hown
  have hml : cC.maxLocals = 1 := hml
  have N0 := Fr.nil n0
  have ef : entryFrame mM #[(.ref a1)] 1 = mkF mM 0 #[.val (.ref a1)] [] := by first | (simp [entryFrame, mkF, argsToLocals, Value.category]; done) | rfl
  rw [ef]
  show Goes pP eE bB _ (s₁.setTop (mkF mM 0 #[.val (.ref a1)] []))
  refine Goes.step (fun _ kK => XS.aloadN X0.here hx rfl (hb hby own_d14_0) rfl rfl kK) ?_
  show Goes pP eE bB _ (s₁.setTop (mkF mM 1 #[.val (.ref a1)] [(.ref a1)]))
  obtain ⟨T_1, X_1, e_1, st_1⟩ := getF X0 hx hZ hown (host := "") (Or.inl (hw _ (List.mem_of_getElem? (i := 50) rfl))) Via.refl e0 F0 (g := (mkF mM 1 #[.val (.ref a1)] [(.ref a1)])) rfl rfl (hb hby own_d14_1)
  refine Goes.step st_1 ?_
  show Goes pP eE bB _ (T_1.setTop (mkF mM 4 #[.val (.ref a1)] [(.int c)]))
  refine Goes.ret X_1 hx hlk hret rfl (Or.inl ⟨rfl, Or.inl rfl, _, rfl⟩) (hb hby own_d14_4) (by decide) (by decide) ?_
  exact ⟨rfl, N0, e_1⟩
set_option maxRecDepth 65536 in
set_option maxHeartbeats 40000000 in
theorem rmM (l : Launch) (Z : State) (a0 : Array Value) (hw : ∀ d ∈ tables_1, d.before a0 Z = true) (a1 : Addr) (h0 : Heap) (n0 : Nat) (Z0 : n0 ≤ h0.size) (F0 : Fld Z h0 a1 "com/example/cicada/cicada/engine/Group" "maxRetries" "I" (.int (16 : Int32))) :
    Con l Z (⟨"com/example/cicada/cicada/engine/Group", "maxAttempts", "()I"⟩ : MethodName) prog_8_method_3_code 1 (some .int) ({ frames := 0, cells := 0, slots := 0, locals := 0 } : Room) #[(.ref a1)] h0 (fun v h L => v = some (.int ((16 : Int32) + (1 : Int32))) ∧ Fr n0 L ∧ h = h0) := by
  refine Con.body (plainFor_of_name own_pn5) ?_
  intro pP eE sS mM bB mT cC s₁ hx hby hml hZ hown hnm hret hlk X0 e0
  have hown : sS.vm.findClass "com/example/cicada/cicada/engine/Group" = some mM.cls := hown
  have hml : cC.maxLocals = 1 := hml
  have N0 := Fr.nil n0
  have ef : entryFrame mM #[(.ref a1)] 1 = mkF mM 0 #[.val (.ref a1)] [] := by first | (simp [entryFrame, mkF, argsToLocals, Value.category]; done) | rfl
  rw [ef]
  show Goes pP eE bB _ (s₁.setTop (mkF mM 0 #[.val (.ref a1)] []))
  refine Goes.step (fun _ kK => XS.aloadN X0.here hx rfl (hb hby own_d15_0) rfl rfl kK) ?_
  show Goes pP eE bB _ (s₁.setTop (mkF mM 1 #[.val (.ref a1)] [(.ref a1)]))
  obtain ⟨T_1, X_1, e_1, st_1⟩ := getF X0 hx hZ hown (host := "") (Or.inl (hw _ (List.mem_of_getElem? (i := 50) rfl))) Via.refl e0 F0 (g := (mkF mM 1 #[.val (.ref a1)] [(.ref a1)])) rfl rfl (hb hby own_d15_1)
  refine Goes.step st_1 ?_
  show Goes pP eE bB _ (T_1.setTop (mkF mM 4 #[.val (.ref a1)] [(.int (16 : Int32))]))
  refine Goes.step (fun _ kK => X_1.ldcI hx hown (mvT hZ (hw _ (List.mem_of_getElem? (i := 88) rfl))) rfl (hb hby own_d15_4) kK) ?_
  show Goes pP eE bB _ (T_1.setTop (mkF mM 6 #[.val (.ref a1)] [(.int (2147483647 : Int32)), (.int (16 : Int32))]))
  refine Goes.step (fun _ kK => XS.icmpYes X_1.here hx rfl (pc0 := 6) (pc' := 16) rfl (hb hby own_d15_6) rfl (feq (by decide)).2 (by decide) (by decide) kK) ?_
  show Goes pP eE bB _ (T_1.setTop (mkF mM 16 #[.val (.ref a1)] []))
  refine Goes.step (fun _ kK => XS.aloadN X_1.here hx rfl (hb hby own_d15_16) rfl rfl kK) ?_
  show Goes pP eE bB _ (T_1.setTop (mkF mM 17 #[.val (.ref a1)] [(.ref a1)]))
  obtain ⟨T_2, X_2, e_2, st_2⟩ := getF X_1 hx hZ hown (host := "") (Or.inl (hw _ (List.mem_of_getElem? (i := 50) rfl))) Via.refl e_1 F0 (g := (mkF mM 17 #[.val (.ref a1)] [(.ref a1)])) rfl rfl (hb hby own_d15_17)
  refine Goes.step st_2 ?_
  show Goes pP eE bB _ (T_2.setTop (mkF mM 20 #[.val (.ref a1)] [(.int (16 : Int32))]))
  refine Goes.step (fun _ kK => XS.iconst X_2.here hx rfl (hb hby own_d15_20) kK) ?_
  show Goes pP eE bB _ (T_2.setTop (mkF mM 21 #[.val (.ref a1)] [(.int (1 : Int32)), (.int (16 : Int32))]))
  refine Goes.step (fun _ kK => XS.iadd X_2.here hx rfl (hb hby own_d15_21) rfl kK) ?_
  show Goes pP eE bB _ (T_2.setTop (mkF mM 22 #[.val (.ref a1)] [(.int ((16 : Int32) + (1 : Int32)))]))
  refine Goes.ret X_2 hx hlk hret rfl (Or.inl ⟨rfl, Or.inl rfl, _, rfl⟩) (hb hby own_d15_22) (by decide) (by decide) ?_
  exact ⟨rfl, N0, e_2⟩
set_option maxRecDepth 65536 in
set_option maxHeartbeats 40000000 in
theorem rmE (l : Launch) (Z : State) (a0 : Array Value) (hw : ∀ d ∈ tables_1, d.before a0 Z = true) (a1 : Addr) (h0 : Heap) (n0 : Nat) (Z0 : n0 ≤ h0.size) :
    Con l Z (⟨"java/lang/String", "equals", "(Ljava/lang/Object;)Z"⟩ : MethodName) jdk_42_method_66_code 3 (some .boolean) ({ frames := 0, cells := 0, slots := 0, locals := 0 } : Room) #[(.ref a1), (.ref a1)] h0 (fun v h L => v = some (.int (1 : Int32)) ∧ Fr n0 L ∧ h = h0) := by
  refine Con.body (plainFor_of_name own_pn0) ?_
  intro pP eE sS mM bB mT cC s₁ hx hby hml hZ hown hnm hret hlk X0 e0
  have hown : sS.vm.findClass "java/lang/String" = some mM.cls := hown
  have hml : cC.maxLocals = 3 := hml
  have N0 := Fr.nil n0
  have ef : entryFrame mM #[(.ref a1), (.ref a1)] 3 = mkF mM 0 #[.val (.ref a1), .val (.ref a1), .unset] [] := by first | (simp [entryFrame, mkF, argsToLocals, Value.category]; done) | rfl
  rw [ef]
  show Goes pP eE bB _ (s₁.setTop (mkF mM 0 #[.val (.ref a1), .val (.ref a1), .unset] []))
  refine Goes.step (fun _ kK => XS.aloadN X0.here hx rfl (hb hby own_d10_0) rfl rfl kK) ?_
  show Goes pP eE bB _ (s₁.setTop (mkF mM 1 #[.val (.ref a1), .val (.ref a1), .unset] [(.ref a1)]))
  refine Goes.step (fun _ kK => XS.aloadN X0.here hx rfl (hb hby own_d10_1) rfl rfl kK) ?_
  show Goes pP eE bB _ (s₁.setTop (mkF mM 2 #[.val (.ref a1), .val (.ref a1), .unset] [(.ref a1), (.ref a1)]))
  refine Goes.step (fun _ kK => Jvm.RoadKit.acmp (g := (mkF mM 2 #[.val (.ref a1), .val (.ref a1), .unset] [(.ref a1), (.ref a1)])) X0 hx rfl rfl rfl (pc0 := 2) (pc' := 5) (same := true) rfl (hb hby own_d10_2) rfl (decide_eq_true rfl) (by decide) (by decide) kK) ?_
  show Goes pP eE bB _ (s₁.setTop (mkF mM 5 #[.val (.ref a1), .val (.ref a1), .unset] []))
  refine Goes.step (fun _ kK => XS.iconst X0.here hx rfl (hb hby own_d10_5) kK) ?_
  show Goes pP eE bB _ (s₁.setTop (mkF mM 6 #[.val (.ref a1), .val (.ref a1), .unset] [(.int (1 : Int32))]))
  refine Goes.retN X0 hx hlk (t := .boolean) hret (by simp) (hb hby own_d10_6) (by decide) (by decide) ?_
  exact ⟨rfl, N0, e0⟩
set_option maxRecDepth 65536 in
set_option maxHeartbeats 40000000 in
theorem rmC (l : Launch) (Z : State) (a0 : Array Value) (hw : ∀ d ∈ tables_1, d.before a0 Z = true) (a1 : Addr) (cs : Int32) (h0 : Heap) (n0 : Nat) (Z0 : n0 ≤ h0.size) (Scs : Sta Z Z.heap "java/lang/String" "COMPACT_STRINGS" "Z" (.int cs)) (hcs : ¬ (cs = (0 : Int32))) (O0 : Old Z n0 h0) (Fc : Fld Z h0 a1 "java/lang/String" "coder" "B" (.int (0 : Int32))) :
    Con l Z (⟨"java/lang/String", "coder", "()B"⟩ : MethodName) jdk_42_method_152_code 1 (some .byte) ({ frames := 0, cells := 0, slots := 0, locals := 0 } : Room) #[(.ref a1)] h0 (fun v h L => v = some (.int (0 : Int32)) ∧ Fr n0 L ∧ h = h0) := by
  refine Con.body (plainFor_of_name own_pn0) ?_
  intro pP eE sS mM bB mT cC s₁ hx hby hml hZ hown hnm hret hlk X0 e0
  have hown : sS.vm.findClass "java/lang/String" = some mM.cls := hown
  have hml : cC.maxLocals = 1 := hml
  have N0 := Fr.nil n0
  have ef : entryFrame mM #[(.ref a1)] 1 = mkF mM 0 #[.val (.ref a1)] [] := by first | (simp [entryFrame, mkF, argsToLocals, Value.category]; done) | rfl
  rw [ef]
  show Goes pP eE bB _ (s₁.setTop (mkF mM 0 #[.val (.ref a1)] []))
  obtain ⟨T_1, X_1, e_1, st_1⟩ := getS2 X0 hx hZ hown (host := "") (Or.inl (hw _ (List.mem_of_getElem? (i := 72) rfl))) Via.refl e0 (Scs.ext O0.2) (g := (mkF mM 0 #[.val (.ref a1)] [])) rfl (hb hby own_d12_0)
  refine Goes.step st_1 ?_
  show Goes pP eE bB _ (T_1.setTop (mkF mM 3 #[.val (.ref a1)] [(.int cs)]))
  have hb_2 : ¬ (cs = (0 : Int32)) := hcs
  refine Goes.step (fun _ kK => XS.ifNo X_1.here hx rfl (hb hby own_d12_3) rfl ((if0 _ _).trans (feq hb_2).1) kK) ?_
  show Goes pP eE bB _ (T_1.setTop (mkF mM 6 #[.val (.ref a1)] []))
  refine Goes.step (fun _ kK => XS.aloadN X_1.here hx rfl (hb hby own_d12_6) rfl rfl kK) ?_
  show Goes pP eE bB _ (T_1.setTop (mkF mM 7 #[.val (.ref a1)] [(.ref a1)]))
  obtain ⟨T_3, X_3, e_3, st_3⟩ := getF X_1 hx hZ hown (host := "") (Or.inl (hw _ (List.mem_of_getElem? (i := 25) rfl))) Via.refl e_1 Fc (g := (mkF mM 7 #[.val (.ref a1)] [(.ref a1)])) rfl rfl (hb hby own_d12_7)
  refine Goes.step st_3 ?_
  show Goes pP eE bB _ (T_3.setTop (mkF mM 10 #[.val (.ref a1)] [(.int (0 : Int32))]))
  refine Goes.step (fun _ kK => XS.goto X_3.here hx rfl (pc0 := 10) (pc' := 14) rfl (hb hby own_d12_10) (by decide) (by decide) kK) ?_
  show Goes pP eE bB _ (T_3.setTop (mkF mM 14 #[.val (.ref a1)] [(.int (0 : Int32))]))
  refine Goes.retN X_3 hx hlk (t := .byte) hret (by simp) (hb hby own_d12_14) (by decide) (by decide) ?_
  exact ⟨rfl, N0, e_3⟩
theorem own_sh0 (z : Int32) : z >>> ((0 : Int32) &&& 31) = z := by rw [show ((0 : Int32) &&& 31) = 0 from by decide, ← Int32.toBitVec_inj, Int32.toBitVec_shiftRight]; simp
set_option maxRecDepth 65536 in
set_option maxHeartbeats 40000000 in
theorem rmL (l : Launch) (Z : State) (a0 : Array Value) (hw : ∀ d ∈ tables_1, d.before a0 Z = true) (a1 b : Addr) (z cs : Int32) (h0 : Heap) (n0 : Nat) (Z0 : n0 ≤ h0.size) (Scs : Sta Z Z.heap "java/lang/String" "COMPACT_STRINGS" "Z" (.int cs)) (hcs : ¬ (cs = (0 : Int32))) (O0 : Old Z n0 h0) (Fc : Fld Z h0 a1 "java/lang/String" "coder" "B" (.int (0 : Int32))) (E1 : Exa Z h0 a1 "java/lang/String") (Fv : Fld Z h0 a1 "java/lang/String" "value" "[B" (.ref b)) (k : Nat) (f : Nat → Value) (Ab : Afn Z h0 b .byte k f) (hz : z.toInt = (k : Int)) :
    Con l Z (⟨"java/lang/String", "length", "()I"⟩ : MethodName) jdk_42_method_54_code 1 (some .int) ({ frames := 1, cells := 0, slots := 0, locals := 13 } : Room) #[(.ref a1)] h0 (fun v h L => v = some (.int z) ∧ Fr n0 L ∧ h = h0) := by
  refine Con.body (plainFor_of_name own_pn0) ?_
  intro pP eE sS mM bB mT cC s₁ hx hby hml hZ hown hnm hret hlk X0 e0
  have hown : sS.vm.findClass "java/lang/String" = some mM.cls := hown
  have hml : cC.maxLocals = 1 := hml
  have N0 := Fr.nil n0
  have ef : entryFrame mM #[(.ref a1)] 1 = mkF mM 0 #[.val (.ref a1)] [] := by first | (simp [entryFrame, mkF, argsToLocals, Value.category]; done) | rfl
  rw [ef]
  show Goes pP eE bB _ (s₁.setTop (mkF mM 0 #[.val (.ref a1)] []))
  refine Goes.step (fun _ kK => XS.aloadN X0.here hx rfl (hb hby own_d11_0) rfl rfl kK) ?_
  show Goes pP eE bB _ (s₁.setTop (mkF mM 1 #[.val (.ref a1)] [(.ref a1)]))
  obtain ⟨T_1, X_1, e_1, st_1⟩ := getF X0 hx hZ hown (host := "") (Or.inl (hw _ (List.mem_of_getElem? (i := 24) rfl))) Via.refl e0 Fv (g := (mkF mM 1 #[.val (.ref a1)] [(.ref a1)])) rfl rfl (hb hby own_d11_1)
  refine Goes.step st_1 ?_
  show Goes pP eE bB _ (T_1.setTop (mkF mM 4 #[.val (.ref a1)] [(.ref b)]))
  refine Goes.alen X_1 hx hZ e_1 Ab (z := z) hz (g := (mkF mM 4 #[.val (.ref a1)] [(.ref b)])) rfl rfl (hb hby own_d11_4) ?_
  show Goes pP eE bB _ (T_1.setTop (mkF mM 5 #[.val (.ref a1)] [(.int z)]))
  refine Goes.step (fun _ kK => XS.aloadN X_1.here hx rfl (hb hby own_d11_5) rfl rfl kK) ?_
  show Goes pP eE bB _ (T_1.setTop (mkF mM 6 #[.val (.ref a1)] [(.ref a1), (.int z)]))
  refine Goes.callV X_1 hx hZ hown (hw _ (List.mem_of_getElem? (i := 67) rfl)) (hw _ (List.mem_of_getElem? (i := 68) rfl)) (notFace_of_selects (args := #[]) (mvT hZ (hw _ (List.mem_of_getElem? (i := 70) rfl)))) (hw _ (List.mem_of_getElem? (i := 70) rfl)) (hw _ (List.mem_of_getElem? (i := 69) rfl)) (hw _ (List.mem_of_getElem? (i := 71) rfl)) (hw _ (List.mem_of_getElem? (i := 7) rfl)) (by decide) e_1 E1 (rmC l Z a0 hw a1 cs h0 n0 Z0 Scs hcs O0 Fc) (W := 1) (by decide) (by decide) (by decide) (by decide) (g := (mkF mM 6 #[.val (.ref a1)] [(.ref a1), (.int z)])) rfl (by rw [hml]; rfl) (rest := [(.int z)]) own_pd8 rfl rfl (by show 2 * 0 + _ ≤ _; exact Nat.le_of_eq rfl) (hb hby own_d11_6) ?_
  intro v_2 T_2 L_2 X_2 hQ_2
  obtain ⟨rfl, N_2q, e_2⟩ := hQ_2
  have N_2 := Fr.app N0 N_2q
  show Goes pP eE bB _ (T_2.setTop (mkF mM 9 #[.val (.ref a1)] [(.int (0 : Int32)), (.int z)]))
  refine Goes.step (fun _ kK => XS.ishr X_2.here hx rfl (hb hby own_d11_9) rfl kK) ?_
  show Goes pP eE bB _ (T_2.setTop (mkF mM 10 #[.val (.ref a1)] [(.int (z >>> ((0 : Int32) &&& 31)))]))
  refine Goes.ret X_2 hx hlk hret rfl (Or.inl ⟨rfl, Or.inl rfl, _, rfl⟩) (hb hby own_d11_10) (by decide) (by decide) ?_
  exact ⟨by rw [own_sh0], N_2, e_2⟩
set_option maxRecDepth 65536 in
set_option maxHeartbeats 40000000 in
theorem rm0 (l : Launch) (Z : State) (a0 : Array Value) (hw : ∀ d ∈ tables_1, d.before a0 Z = true) (p1 p2 p3 p4 : Int32) (cs : Int32) (h0 : Heap) (n0 : Nat) (Z0 : n0 ≤ h0.size) (Scs : Sta Z Z.heap "java/lang/String" "COMPACT_STRINGS" "Z" (.int cs)) (hcs : ¬ (cs = (0 : Int32))) (O0 : Old Z n0 h0) :
    ConK l Z own_EL x code maxLocals ret room_1 #[(.int p1), (.int p2), (.int p3), (.int p4)] h0 (fun v h L => v = some (.int 1) ∧ Fr n0 L) := by
  refine ConK.body (plainFor_of_name own_pn2) ?_
  intro pP eE sS vm0 mM bB mT cC s₁ hx hby hml hZ hown hnm hret hlk X0 e0 hS hs0 C0
  have hown : (sS.setVm vm0).vm.findClass "com/example/cicada/cicada/engine/GroupWithDefaultsPinLaw" = some mM.cls := hown
  have hml : cC.maxLocals = 11 := hml
  have N0 := Fr.nil n0
  have ef : entryFrame mM #[(.int p1), (.int p2), (.int p3), (.int p4)] maxLocals = mkF mM 0 #[.val (.int p1), .val (.int p2), .val (.int p3), .val (.int p4), .unset, .unset, .unset, .unset, .unset, .unset, .unset] [] := by first | (simp [entryFrame, mkF, argsToLocals, Value.category, maxLocals]; done) | rfl
  rw [ef]
  show Goes pP eE bB _ (s₁.setTop (mkF mM 0 #[.val (.int p1), .val (.int p2), .val (.int p3), .val (.int p4), .unset, .unset, .unset, .unset, .unset, .unset, .unset] []))
  refine Goes.step (fun _ kK => XS.iloadN X0.here hx rfl (hb hby at_0) rfl kK) ?_
  show Goes pP eE bB _ (s₁.setTop (mkF mM 1 #[.val (.int p1), .val (.int p2), .val (.int p3), .val (.int p4), .unset, .unset, .unset, .unset, .unset, .unset, .unset] [(.int p1)]))
  refine Goes.step (fun _ kK => XS.iloadN X0.here hx rfl (hb hby at_1) rfl kK) ?_
  show Goes pP eE bB _ (s₁.setTop (mkF mM 2 #[.val (.int p1), .val (.int p2), .val (.int p3), .val (.int p4), .unset, .unset, .unset, .unset, .unset, .unset, .unset] [(.int p2), (.int p1)]))
  refine Goes.step (fun _ kK => XS.iloadN X0.here hx rfl (hb hby at_2) rfl kK) ?_
  show Goes pP eE bB _ (s₁.setTop (mkF mM 3 #[.val (.int p1), .val (.int p2), .val (.int p3), .val (.int p4), .unset, .unset, .unset, .unset, .unset, .unset, .unset] [(.int p3), (.int p2), (.int p1)]))
  refine Goes.step (fun _ kK => XS.iloadN X0.here hx rfl (hb hby at_3) rfl kK) ?_
  show Goes pP eE bB _ (s₁.setTop (mkF mM 4 #[.val (.int p1), .val (.int p2), .val (.int p3), .val (.int p4), .unset, .unset, .unset, .unset, .unset, .unset, .unset] [(.int p4), (.int p3), (.int p2), (.int p1)]))
  refine Goes.callSH X0 hx hZ hown (hw _ (List.mem_of_getElem? (i := 0) rfl)) (hw _ (List.mem_of_getElem? (i := 1) rfl)) (hw _ (List.mem_of_getElem? (i := 2) rfl)) (hw _ (List.mem_of_getElem? (i := 3) rfl)) (by decide) e0 hS (Nat.le_refl h0.size) (own_hEL hw) C0 all0 (rmD l Z a0 hw p1 p2 p3 p4 cs h0 n0 Z0 Scs hcs O0) (W := 0) (by decide) (by decide) (by decide) (by decide) (g := (mkF mM 4 #[.val (.int p1), .val (.int p2), .val (.int p3), .val (.int p4), .unset, .unset, .unset, .unset, .unset, .unset, .unset] [(.int p4), (.int p3), (.int p2), (.int p1)])) rfl (by rw [hml]; rfl) (rest := []) own_pd9 rfl rfl (by show 2 * 0 + _ ≤ _; exact Nat.le_of_eq rfl) (hb hby at_4) ?_
  intro v_1 T_1 L_1 RB_1 gr_1 hQ_1
  obtain ⟨⟨X_1, hS, hZ, hown⟩, CC_1⟩ := RB_1
  generalize e_1 : T_1.heap = h_1 at hQ_1
  obtain ⟨a_1, b_1, k_1, f_1, rfl, N_1q, K_1, s_1, M_1, Fc_1, Fv_1, A_1, hk3⟩ := hQ_1
  have N_1 := Fr.app N0 N_1q
  have u_2 : n0 ≤ a_1 := Nat.le_trans Z0 s_1
  have hk_1 : T_1.heap.size ≤ h_1.size := Nat.le_of_eq (by rw [e_1])
  rw [e_1] at CC_1
  have u_3 := C0.trans CC_1
  show Goes pP eE bB _ (T_1.setTop (mkF mM 7 #[.val (.int p1), .val (.int p2), .val (.int p3), .val (.int p4), .unset, .unset, .unset, .unset, .unset, .unset, .unset] [(.ref a_1)]))
  refine Goes.step (fun _ kK => XS.astore X_1.here hx rfl (hb hby at_7) rfl rfl (l' := #[.val (.int p1), .val (.int p2), .val (.int p3), .val (.int p4), .val (.ref a_1), .unset, .unset, .unset, .unset, .unset, .unset]) rfl kK) ?_
  show Goes pP eE bB _ (T_1.setTop (mkF mM 9 #[.val (.int p1), .val (.int p2), .val (.int p3), .val (.int p4), .val (.ref a_1), .unset, .unset, .unset, .unset, .unset, .unset] []))
  refine Goes.step (fun _ kK => XS.aload X_1.here hx rfl (hb hby at_9) rfl rfl kK) ?_
  show Goes pP eE bB _ (T_1.setTop (mkF mM 11 #[.val (.int p1), .val (.int p2), .val (.int p3), .val (.int p4), .val (.ref a_1), .unset, .unset, .unset, .unset, .unset, .unset] [(.ref a_1)]))
  have u_4 := Nat.le_trans Z0 K_1.1
  refine Goes.callSW X_1 hx hZ hown (hw _ (List.mem_of_getElem? (i := 26) rfl)) (hw _ (List.mem_of_getElem? (i := 27) rfl)) (hw _ (List.mem_of_getElem? (i := 28) rfl)) (hw _ (List.mem_of_getElem? (i := 29) rfl)) (by decide) e_1 hS hk_1 (rmW l Z a0 hw a_1 h_1 n0 u_4) (W := 0) (by decide) (by decide) (by decide) (by decide) (g := (mkF mM 11 #[.val (.int p1), .val (.int p2), .val (.int p3), .val (.int p4), .val (.ref a_1), .unset, .unset, .unset, .unset, .unset, .unset] [(.ref a_1)])) rfl (by rw [hml]; rfl) (rest := []) own_pd10 rfl rfl (by show 2 * 0 + _ ≤ _; exact Nat.le_of_eq rfl) (hb hby at_11) ?_
  intro v_5 T_5 L_5 RB_5 gr_5 hQ_5
  obtain ⟨X_5, hS, hZ, hown⟩ := RB_5
  generalize e_5 : T_5.heap = h_5 at hQ_5
  obtain ⟨a_5, rfl, N_5q, K_5, s_5, M_5, F_5_name, F_5_fifo, F_5_maxRetries⟩ := hQ_5
  have N_5 := Fr.app N_1 N_5q
  have u_6 : a_1 < a_5 := Nat.lt_of_lt_of_le (M_1).lt s_5
  have u_7 : b_1 < a_5 := Nat.lt_of_lt_of_le (A_1).lt s_5
  have u_8 : n0 ≤ a_5 := Nat.le_trans u_4 s_5
  have hk_5 : T_5.heap.size ≤ h_5.size := Nat.le_of_eq (by rw [e_5])
  show Goes pP eE bB _ (T_5.setTop (mkF mM 14 #[.val (.int p1), .val (.int p2), .val (.int p3), .val (.int p4), .val (.ref a_1), .unset, .unset, .unset, .unset, .unset, .unset] [(.ref a_5)]))
  refine Goes.step (fun _ kK => XS.astore X_5.here hx rfl (hb hby at_14) rfl rfl (l' := #[.val (.int p1), .val (.int p2), .val (.int p3), .val (.int p4), .val (.ref a_1), .val (.ref a_5), .unset, .unset, .unset, .unset, .unset]) rfl kK) ?_
  show Goes pP eE bB _ (T_5.setTop (mkF mM 16 #[.val (.int p1), .val (.int p2), .val (.int p3), .val (.int p4), .val (.ref a_1), .val (.ref a_5), .unset, .unset, .unset, .unset, .unset] []))
  refine Goes.step (fun _ kK => XS.aload X_5.here hx rfl (hb hby at_16) rfl rfl kK) ?_
  show Goes pP eE bB _ (T_5.setTop (mkF mM 18 #[.val (.int p1), .val (.int p2), .val (.int p3), .val (.int p4), .val (.ref a_1), .val (.ref a_5), .unset, .unset, .unset, .unset, .unset] [(.ref a_5)]))
  have u_9 := Nat.le_trans u_4 K_5.1
  refine Goes.callV X_5 hx hZ hown (hw _ (List.mem_of_getElem? (i := 52) rfl)) (hw _ (List.mem_of_getElem? (i := 53) rfl)) (notFace_of_selects (args := #[]) (mvT hZ (hw _ (List.mem_of_getElem? (i := 55) rfl)))) (hw _ (List.mem_of_getElem? (i := 55) rfl)) (hw _ (List.mem_of_getElem? (i := 54) rfl)) (hw _ (List.mem_of_getElem? (i := 56) rfl)) (hw _ (List.mem_of_getElem? (i := 28) rfl)) (by decide) e_5 M_5 (rmg_name l Z a0 hw a_5 a_1 h_5 n0 u_9 F_5_name) (W := 0) (by decide) (by decide) (by decide) (by decide) (g := (mkF mM 18 #[.val (.int p1), .val (.int p2), .val (.int p3), .val (.int p4), .val (.ref a_1), .val (.ref a_5), .unset, .unset, .unset, .unset, .unset] [(.ref a_5)])) rfl (by rw [hml]; rfl) (rest := []) own_pd11 rfl rfl (by show 2 * 0 + _ ≤ _; exact Nat.le_of_eq rfl) (hb hby at_18) ?_
  intro v_10 T_10 L_10 X_10 hQ_10
  obtain ⟨rfl, N_10q, e_10⟩ := hQ_10
  have N_10 := Fr.app N_5 N_10q
  show Goes pP eE bB _ (T_10.setTop (mkF mM 21 #[.val (.int p1), .val (.int p2), .val (.int p3), .val (.int p4), .val (.ref a_1), .val (.ref a_5), .unset, .unset, .unset, .unset, .unset] [(.ref a_1)]))
  refine Goes.step (fun _ kK => XS.astore X_10.here hx rfl (hb hby at_21) rfl rfl (l' := #[.val (.int p1), .val (.int p2), .val (.int p3), .val (.int p4), .val (.ref a_1), .val (.ref a_5), .val (.ref a_1), .unset, .unset, .unset, .unset]) rfl kK) ?_
  show Goes pP eE bB _ (T_10.setTop (mkF mM 23 #[.val (.int p1), .val (.int p2), .val (.int p3), .val (.int p4), .val (.ref a_1), .val (.ref a_5), .val (.ref a_1), .unset, .unset, .unset, .unset] []))
  refine Goes.step (fun _ kK => XS.aload X_10.here hx rfl (hb hby at_23) rfl rfl kK) ?_
  show Goes pP eE bB _ (T_10.setTop (mkF mM 25 #[.val (.int p1), .val (.int p2), .val (.int p3), .val (.int p4), .val (.ref a_1), .val (.ref a_5), .val (.ref a_1), .unset, .unset, .unset, .unset] [(.ref a_1)]))
  refine Goes.step (fun _ kK => XS.ifnullNo X_10.here hx rfl (hb hby at_25) rfl kK) ?_
  show Goes pP eE bB _ (T_10.setTop (mkF mM 28 #[.val (.int p1), .val (.int p2), .val (.int p3), .val (.int p4), .val (.ref a_1), .val (.ref a_5), .val (.ref a_1), .unset, .unset, .unset, .unset] []))
  refine Goes.step (fun _ kK => XS.aload X_10.here hx rfl (hb hby at_28) rfl rfl kK) ?_
  show Goes pP eE bB _ (T_10.setTop (mkF mM 30 #[.val (.int p1), .val (.int p2), .val (.int p3), .val (.int p4), .val (.ref a_1), .val (.ref a_5), .val (.ref a_1), .unset, .unset, .unset, .unset] [(.ref a_1)]))
  refine Goes.step (fun _ kK => XS.aload X_10.here hx rfl (hb hby at_30) rfl rfl kK) ?_
  show Goes pP eE bB _ (T_10.setTop (mkF mM 32 #[.val (.int p1), .val (.int p2), .val (.int p3), .val (.int p4), .val (.ref a_1), .val (.ref a_5), .val (.ref a_1), .unset, .unset, .unset, .unset] [(.ref a_1), (.ref a_1)]))
  have u_12 := M_1.keep K_5
  refine Goes.callV X_10 hx hZ hown (hw _ (List.mem_of_getElem? (i := 57) rfl)) (hw _ (List.mem_of_getElem? (i := 58) rfl)) (notFace_of_selects (args := #[]) (mvT hZ (hw _ (List.mem_of_getElem? (i := 60) rfl)))) (hw _ (List.mem_of_getElem? (i := 60) rfl)) (hw _ (List.mem_of_getElem? (i := 59) rfl)) (hw _ (List.mem_of_getElem? (i := 61) rfl)) (hw _ (List.mem_of_getElem? (i := 7) rfl)) (by decide) e_10 u_12 (rmE l Z a0 hw a_1 h_5 n0 u_9) (W := 0) (by decide) (by decide) (by decide) (by decide) (g := (mkF mM 32 #[.val (.int p1), .val (.int p2), .val (.int p3), .val (.int p4), .val (.ref a_1), .val (.ref a_5), .val (.ref a_1), .unset, .unset, .unset, .unset] [(.ref a_1), (.ref a_1)])) rfl (by rw [hml]; rfl) (rest := []) own_pd12 rfl rfl (by show 2 * 0 + _ ≤ _; exact Nat.le_of_eq rfl) (hb hby at_32) ?_
  intro v_11 T_11 L_11 X_11 hQ_11
  obtain ⟨rfl, N_11q, e_11⟩ := hQ_11
  have N_11 := Fr.app N_10 N_11q
  show Goes pP eE bB _ (T_11.setTop (mkF mM 35 #[.val (.int p1), .val (.int p2), .val (.int p3), .val (.int p4), .val (.ref a_1), .val (.ref a_5), .val (.ref a_1), .unset, .unset, .unset, .unset] [(.int (1 : Int32))]))
  refine Goes.step (fun _ kK => XS.ifNo X_11.here hx rfl (hb hby at_35) rfl ((if0 _ _).trans (feq (by decide)).1) kK) ?_
  show Goes pP eE bB _ (T_11.setTop (mkF mM 38 #[.val (.int p1), .val (.int p2), .val (.int p3), .val (.int p4), .val (.ref a_1), .val (.ref a_5), .val (.ref a_1), .unset, .unset, .unset, .unset] []))
  refine Goes.step (fun _ kK => XS.aload X_11.here hx rfl (hb hby at_38) rfl rfl kK) ?_
  show Goes pP eE bB _ (T_11.setTop (mkF mM 40 #[.val (.int p1), .val (.int p2), .val (.int p3), .val (.int p4), .val (.ref a_1), .val (.ref a_5), .val (.ref a_1), .unset, .unset, .unset, .unset] [(.ref a_1)]))
  have u_13 := O0.keep K_1 all0
  have u_14 := u_13.keep K_5 all0
  have u_15 := Fc_1.keep K_5 nin0
  have u_16 := Fv_1.keep K_5 nin0
  have u_17 := A_1.keep K_5 nin0
  refine Goes.callV X_11 hx hZ hown (hw _ (List.mem_of_getElem? (i := 62) rfl)) (hw _ (List.mem_of_getElem? (i := 63) rfl)) (notFace_of_selects (args := #[]) (mvT hZ (hw _ (List.mem_of_getElem? (i := 65) rfl)))) (hw _ (List.mem_of_getElem? (i := 65) rfl)) (hw _ (List.mem_of_getElem? (i := 64) rfl)) (hw _ (List.mem_of_getElem? (i := 66) rfl)) (hw _ (List.mem_of_getElem? (i := 7) rfl)) (by decide) e_11 u_12 (rmL l Z a0 hw a_1 b_1 (p1 &&& (3 : Int32)) cs h_5 n0 u_9 Scs hcs u_14 u_15 u_12 u_16 _ _ u_17 hk3) (W := 0) (by decide) (by decide) (by decide) (by decide) (g := (mkF mM 40 #[.val (.int p1), .val (.int p2), .val (.int p3), .val (.int p4), .val (.ref a_1), .val (.ref a_5), .val (.ref a_1), .unset, .unset, .unset, .unset] [(.ref a_1)])) rfl (by rw [hml]; rfl) (rest := []) own_pd13 rfl rfl (by show 2 * 0 + _ ≤ _; exact Nat.le_of_eq rfl) (hb hby at_40) ?_
  intro v_18 T_18 L_18 X_18 hQ_18
  obtain ⟨rfl, N_18q, e_18⟩ := hQ_18
  have N_18 := Fr.app N_11 N_18q
  show Goes pP eE bB _ (T_18.setTop (mkF mM 43 #[.val (.int p1), .val (.int p2), .val (.int p3), .val (.int p4), .val (.ref a_1), .val (.ref a_5), .val (.ref a_1), .unset, .unset, .unset, .unset] [(.int (p1 &&& (3 : Int32)))]))
  refine Goes.step (fun _ kK => XS.iloadN X_18.here hx rfl (hb hby at_43) rfl kK) ?_
  show Goes pP eE bB _ (T_18.setTop (mkF mM 44 #[.val (.int p1), .val (.int p2), .val (.int p3), .val (.int p4), .val (.ref a_1), .val (.ref a_5), .val (.ref a_1), .unset, .unset, .unset, .unset] [(.int p1), (.int (p1 &&& (3 : Int32)))]))
  refine Goes.step (fun _ kK => XS.iconst X_18.here hx rfl (hb hby at_44) kK) ?_
  show Goes pP eE bB _ (T_18.setTop (mkF mM 45 #[.val (.int p1), .val (.int p2), .val (.int p3), .val (.int p4), .val (.ref a_1), .val (.ref a_5), .val (.ref a_1), .unset, .unset, .unset, .unset] [(.int (3 : Int32)), (.int p1), (.int (p1 &&& (3 : Int32)))]))
  refine Goes.step (fun _ kK => XS.iand X_18.here hx rfl (hb hby at_45) rfl kK) ?_
  show Goes pP eE bB _ (T_18.setTop (mkF mM 46 #[.val (.int p1), .val (.int p2), .val (.int p3), .val (.int p4), .val (.ref a_1), .val (.ref a_5), .val (.ref a_1), .unset, .unset, .unset, .unset] [(.int (p1 &&& (3 : Int32))), (.int (p1 &&& (3 : Int32)))]))
  refine Goes.step (fun _ kK => XS.icmpNo X_18.here hx rfl (hb hby at_46) rfl (teq (rfl : (p1 &&& (3 : Int32)) = (p1 &&& (3 : Int32)))).2 kK) ?_
  show Goes pP eE bB _ (T_18.setTop (mkF mM 49 #[.val (.int p1), .val (.int p2), .val (.int p3), .val (.int p4), .val (.ref a_1), .val (.ref a_5), .val (.ref a_1), .unset, .unset, .unset, .unset] []))
  refine Goes.step (fun _ kK => XS.iconst X_18.here hx rfl (hb hby at_49) kK) ?_
  show Goes pP eE bB _ (T_18.setTop (mkF mM 50 #[.val (.int p1), .val (.int p2), .val (.int p3), .val (.int p4), .val (.ref a_1), .val (.ref a_5), .val (.ref a_1), .unset, .unset, .unset, .unset] [(.int (1 : Int32))]))
  refine Goes.step (fun _ kK => XS.goto X_18.here hx rfl (pc0 := 50) (pc' := 54) rfl (hb hby at_50) (by decide) (by decide) kK) ?_
  show Goes pP eE bB _ (T_18.setTop (mkF mM 54 #[.val (.int p1), .val (.int p2), .val (.int p3), .val (.int p4), .val (.ref a_1), .val (.ref a_5), .val (.ref a_1), .unset, .unset, .unset, .unset] [(.int (1 : Int32))]))
  refine Goes.step (fun _ kK => XS.istore X_18.here hx rfl (hb hby at_54) rfl (l' := #[.val (.int p1), .val (.int p2), .val (.int p3), .val (.int p4), .val (.ref a_1), .val (.ref a_5), .val (.ref a_1), .val (.int (1 : Int32)), .unset, .unset, .unset]) rfl kK) ?_
  show Goes pP eE bB _ (T_18.setTop (mkF mM 56 #[.val (.int p1), .val (.int p2), .val (.int p3), .val (.int p4), .val (.ref a_1), .val (.ref a_5), .val (.ref a_1), .val (.int (1 : Int32)), .unset, .unset, .unset] []))
  refine Goes.step (fun _ kK => XS.aload X_18.here hx rfl (hb hby at_56) rfl rfl kK) ?_
  show Goes pP eE bB _ (T_18.setTop (mkF mM 58 #[.val (.int p1), .val (.int p2), .val (.int p3), .val (.int p4), .val (.ref a_1), .val (.ref a_5), .val (.ref a_1), .val (.int (1 : Int32)), .unset, .unset, .unset] [(.ref a_5)]))
  refine Goes.callV X_18 hx hZ hown (hw _ (List.mem_of_getElem? (i := 73) rfl)) (hw _ (List.mem_of_getElem? (i := 74) rfl)) (notFace_of_selects (args := #[]) (mvT hZ (hw _ (List.mem_of_getElem? (i := 76) rfl)))) (hw _ (List.mem_of_getElem? (i := 76) rfl)) (hw _ (List.mem_of_getElem? (i := 75) rfl)) (hw _ (List.mem_of_getElem? (i := 77) rfl)) (hw _ (List.mem_of_getElem? (i := 28) rfl)) (by decide) e_18 M_5 (rmg_fifo l Z a0 hw a_5 (0 : Int32) h_5 n0 u_9 F_5_fifo) (W := 0) (by decide) (by decide) (by decide) (by decide) (g := (mkF mM 58 #[.val (.int p1), .val (.int p2), .val (.int p3), .val (.int p4), .val (.ref a_1), .val (.ref a_5), .val (.ref a_1), .val (.int (1 : Int32)), .unset, .unset, .unset] [(.ref a_5)])) rfl (by rw [hml]; rfl) (rest := []) own_pd14 rfl rfl (by show 2 * 0 + _ ≤ _; exact Nat.le_of_eq rfl) (hb hby at_58) ?_
  intro v_19 T_19 L_19 X_19 hQ_19
  obtain ⟨rfl, N_19q, e_19⟩ := hQ_19
  have N_19 := Fr.app N_18 N_19q
  show Goes pP eE bB _ (T_19.setTop (mkF mM 61 #[.val (.int p1), .val (.int p2), .val (.int p3), .val (.int p4), .val (.ref a_1), .val (.ref a_5), .val (.ref a_1), .val (.int (1 : Int32)), .unset, .unset, .unset] [(.int (nar .boolean (0 : Int32)))]))
  refine Goes.step (fun _ kK => XS.ifNo X_19.here hx rfl (hb hby at_61) rfl ((if0 _ _).trans (teq (by decide)).2) kK) ?_
  show Goes pP eE bB _ (T_19.setTop (mkF mM 64 #[.val (.int p1), .val (.int p2), .val (.int p3), .val (.int p4), .val (.ref a_1), .val (.ref a_5), .val (.ref a_1), .val (.int (1 : Int32)), .unset, .unset, .unset] []))
  refine Goes.step (fun _ kK => XS.iconst X_19.here hx rfl (hb hby at_64) kK) ?_
  show Goes pP eE bB _ (T_19.setTop (mkF mM 65 #[.val (.int p1), .val (.int p2), .val (.int p3), .val (.int p4), .val (.ref a_1), .val (.ref a_5), .val (.ref a_1), .val (.int (1 : Int32)), .unset, .unset, .unset] [(.int (1 : Int32))]))
  refine Goes.step (fun _ kK => XS.goto X_19.here hx rfl (pc0 := 65) (pc' := 69) rfl (hb hby at_65) (by decide) (by decide) kK) ?_
  show Goes pP eE bB _ (T_19.setTop (mkF mM 69 #[.val (.int p1), .val (.int p2), .val (.int p3), .val (.int p4), .val (.ref a_1), .val (.ref a_5), .val (.ref a_1), .val (.int (1 : Int32)), .unset, .unset, .unset] [(.int (1 : Int32))]))
  refine Goes.step (fun _ kK => XS.istore X_19.here hx rfl (hb hby at_69) rfl (l' := #[.val (.int p1), .val (.int p2), .val (.int p3), .val (.int p4), .val (.ref a_1), .val (.ref a_5), .val (.ref a_1), .val (.int (1 : Int32)), .val (.int (1 : Int32)), .unset, .unset]) rfl kK) ?_
  show Goes pP eE bB _ (T_19.setTop (mkF mM 71 #[.val (.int p1), .val (.int p2), .val (.int p3), .val (.int p4), .val (.ref a_1), .val (.ref a_5), .val (.ref a_1), .val (.int (1 : Int32)), .val (.int (1 : Int32)), .unset, .unset] []))
  refine Goes.step (fun _ kK => XS.aload X_19.here hx rfl (hb hby at_71) rfl rfl kK) ?_
  show Goes pP eE bB _ (T_19.setTop (mkF mM 73 #[.val (.int p1), .val (.int p2), .val (.int p3), .val (.int p4), .val (.ref a_1), .val (.ref a_5), .val (.ref a_1), .val (.int (1 : Int32)), .val (.int (1 : Int32)), .unset, .unset] [(.ref a_5)]))
  refine Goes.callV X_19 hx hZ hown (hw _ (List.mem_of_getElem? (i := 78) rfl)) (hw _ (List.mem_of_getElem? (i := 79) rfl)) (notFace_of_selects (args := #[]) (mvT hZ (hw _ (List.mem_of_getElem? (i := 81) rfl)))) (hw _ (List.mem_of_getElem? (i := 81) rfl)) (hw _ (List.mem_of_getElem? (i := 80) rfl)) (hw _ (List.mem_of_getElem? (i := 82) rfl)) (hw _ (List.mem_of_getElem? (i := 28) rfl)) (by decide) e_19 M_5 (rmg_maxRetries l Z a0 hw a_5 (16 : Int32) h_5 n0 u_9 F_5_maxRetries) (W := 0) (by decide) (by decide) (by decide) (by decide) (g := (mkF mM 73 #[.val (.int p1), .val (.int p2), .val (.int p3), .val (.int p4), .val (.ref a_1), .val (.ref a_5), .val (.ref a_1), .val (.int (1 : Int32)), .val (.int (1 : Int32)), .unset, .unset] [(.ref a_5)])) rfl (by rw [hml]; rfl) (rest := []) own_pd13 rfl rfl (by show 2 * 0 + _ ≤ _; exact Nat.le_of_eq rfl) (hb hby at_73) ?_
  intro v_20 T_20 L_20 X_20 hQ_20
  obtain ⟨rfl, N_20q, e_20⟩ := hQ_20
  have N_20 := Fr.app N_19 N_20q
  show Goes pP eE bB _ (T_20.setTop (mkF mM 76 #[.val (.int p1), .val (.int p2), .val (.int p3), .val (.int p4), .val (.ref a_1), .val (.ref a_5), .val (.ref a_1), .val (.int (1 : Int32)), .val (.int (1 : Int32)), .unset, .unset] [(.int (16 : Int32))]))
  refine Goes.step (fun _ kK => XS.bipush X_20.here hx rfl (hb hby at_76) kK) ?_
  show Goes pP eE bB _ (T_20.setTop (mkF mM 78 #[.val (.int p1), .val (.int p2), .val (.int p3), .val (.int p4), .val (.ref a_1), .val (.ref a_5), .val (.ref a_1), .val (.int (1 : Int32)), .val (.int (1 : Int32)), .unset, .unset] [(.int (16 : Int32)), (.int (16 : Int32))]))
  refine Goes.step (fun _ kK => XS.icmpNo X_20.here hx rfl (hb hby at_78) rfl (teq (by decide)).2 kK) ?_
  show Goes pP eE bB _ (T_20.setTop (mkF mM 81 #[.val (.int p1), .val (.int p2), .val (.int p3), .val (.int p4), .val (.ref a_1), .val (.ref a_5), .val (.ref a_1), .val (.int (1 : Int32)), .val (.int (1 : Int32)), .unset, .unset] []))
  refine Goes.step (fun _ kK => XS.iconst X_20.here hx rfl (hb hby at_81) kK) ?_
  show Goes pP eE bB _ (T_20.setTop (mkF mM 82 #[.val (.int p1), .val (.int p2), .val (.int p3), .val (.int p4), .val (.ref a_1), .val (.ref a_5), .val (.ref a_1), .val (.int (1 : Int32)), .val (.int (1 : Int32)), .unset, .unset] [(.int (1 : Int32))]))
  refine Goes.step (fun _ kK => XS.goto X_20.here hx rfl (pc0 := 82) (pc' := 86) rfl (hb hby at_82) (by decide) (by decide) kK) ?_
  show Goes pP eE bB _ (T_20.setTop (mkF mM 86 #[.val (.int p1), .val (.int p2), .val (.int p3), .val (.int p4), .val (.ref a_1), .val (.ref a_5), .val (.ref a_1), .val (.int (1 : Int32)), .val (.int (1 : Int32)), .unset, .unset] [(.int (1 : Int32))]))
  refine Goes.step (fun _ kK => XS.istore X_20.here hx rfl (hb hby at_86) rfl (l' := #[.val (.int p1), .val (.int p2), .val (.int p3), .val (.int p4), .val (.ref a_1), .val (.ref a_5), .val (.ref a_1), .val (.int (1 : Int32)), .val (.int (1 : Int32)), .val (.int (1 : Int32)), .unset]) rfl kK) ?_
  show Goes pP eE bB _ (T_20.setTop (mkF mM 88 #[.val (.int p1), .val (.int p2), .val (.int p3), .val (.int p4), .val (.ref a_1), .val (.ref a_5), .val (.ref a_1), .val (.int (1 : Int32)), .val (.int (1 : Int32)), .val (.int (1 : Int32)), .unset] []))
  refine Goes.step (fun _ kK => XS.aload X_20.here hx rfl (hb hby at_88) rfl rfl kK) ?_
  show Goes pP eE bB _ (T_20.setTop (mkF mM 90 #[.val (.int p1), .val (.int p2), .val (.int p3), .val (.int p4), .val (.ref a_1), .val (.ref a_5), .val (.ref a_1), .val (.int (1 : Int32)), .val (.int (1 : Int32)), .val (.int (1 : Int32)), .unset] [(.ref a_5)]))
  refine Goes.callV X_20 hx hZ hown (hw _ (List.mem_of_getElem? (i := 83) rfl)) (hw _ (List.mem_of_getElem? (i := 84) rfl)) (notFace_of_selects (args := #[]) (mvT hZ (hw _ (List.mem_of_getElem? (i := 86) rfl)))) (hw _ (List.mem_of_getElem? (i := 86) rfl)) (hw _ (List.mem_of_getElem? (i := 85) rfl)) (hw _ (List.mem_of_getElem? (i := 87) rfl)) (hw _ (List.mem_of_getElem? (i := 28) rfl)) (by decide) e_20 M_5 (rmM l Z a0 hw a_5 h_5 n0 u_9 F_5_maxRetries) (W := 0) (by decide) (by decide) (by decide) (by decide) (g := (mkF mM 90 #[.val (.int p1), .val (.int p2), .val (.int p3), .val (.int p4), .val (.ref a_1), .val (.ref a_5), .val (.ref a_1), .val (.int (1 : Int32)), .val (.int (1 : Int32)), .val (.int (1 : Int32)), .unset] [(.ref a_5)])) rfl (by rw [hml]; rfl) (rest := []) own_pd13 rfl rfl (by show 2 * 0 + _ ≤ _; exact Nat.le_of_eq rfl) (hb hby at_90) ?_
  intro v_21 T_21 L_21 X_21 hQ_21
  obtain ⟨rfl, N_21q, e_21⟩ := hQ_21
  have N_21 := Fr.app N_20 N_21q
  show Goes pP eE bB _ (T_21.setTop (mkF mM 93 #[.val (.int p1), .val (.int p2), .val (.int p3), .val (.int p4), .val (.ref a_1), .val (.ref a_5), .val (.ref a_1), .val (.int (1 : Int32)), .val (.int (1 : Int32)), .val (.int (1 : Int32)), .unset] [(.int ((16 : Int32) + (1 : Int32)))]))
  refine Goes.step (fun _ kK => XS.bipush X_21.here hx rfl (hb hby at_93) kK) ?_
  show Goes pP eE bB _ (T_21.setTop (mkF mM 95 #[.val (.int p1), .val (.int p2), .val (.int p3), .val (.int p4), .val (.ref a_1), .val (.ref a_5), .val (.ref a_1), .val (.int (1 : Int32)), .val (.int (1 : Int32)), .val (.int (1 : Int32)), .unset] [(.int (17 : Int32)), (.int ((16 : Int32) + (1 : Int32)))]))
  refine Goes.step (fun _ kK => XS.icmpNo X_21.here hx rfl (hb hby at_95) rfl (teq (by decide)).2 kK) ?_
  show Goes pP eE bB _ (T_21.setTop (mkF mM 98 #[.val (.int p1), .val (.int p2), .val (.int p3), .val (.int p4), .val (.ref a_1), .val (.ref a_5), .val (.ref a_1), .val (.int (1 : Int32)), .val (.int (1 : Int32)), .val (.int (1 : Int32)), .unset] []))
  refine Goes.step (fun _ kK => XS.iconst X_21.here hx rfl (hb hby at_98) kK) ?_
  show Goes pP eE bB _ (T_21.setTop (mkF mM 99 #[.val (.int p1), .val (.int p2), .val (.int p3), .val (.int p4), .val (.ref a_1), .val (.ref a_5), .val (.ref a_1), .val (.int (1 : Int32)), .val (.int (1 : Int32)), .val (.int (1 : Int32)), .unset] [(.int (1 : Int32))]))
  refine Goes.step (fun _ kK => XS.goto X_21.here hx rfl (pc0 := 99) (pc' := 103) rfl (hb hby at_99) (by decide) (by decide) kK) ?_
  show Goes pP eE bB _ (T_21.setTop (mkF mM 103 #[.val (.int p1), .val (.int p2), .val (.int p3), .val (.int p4), .val (.ref a_1), .val (.ref a_5), .val (.ref a_1), .val (.int (1 : Int32)), .val (.int (1 : Int32)), .val (.int (1 : Int32)), .unset] [(.int (1 : Int32))]))
  refine Goes.step (fun _ kK => XS.istore X_21.here hx rfl (hb hby at_103) rfl (l' := #[.val (.int p1), .val (.int p2), .val (.int p3), .val (.int p4), .val (.ref a_1), .val (.ref a_5), .val (.ref a_1), .val (.int (1 : Int32)), .val (.int (1 : Int32)), .val (.int (1 : Int32)), .val (.int (1 : Int32))]) rfl kK) ?_
  show Goes pP eE bB _ (T_21.setTop (mkF mM 105 #[.val (.int p1), .val (.int p2), .val (.int p3), .val (.int p4), .val (.ref a_1), .val (.ref a_5), .val (.ref a_1), .val (.int (1 : Int32)), .val (.int (1 : Int32)), .val (.int (1 : Int32)), .val (.int (1 : Int32))] []))
  refine Goes.step (fun _ kK => XS.iload X_21.here hx rfl (hb hby at_105) rfl kK) ?_
  show Goes pP eE bB _ (T_21.setTop (mkF mM 107 #[.val (.int p1), .val (.int p2), .val (.int p3), .val (.int p4), .val (.ref a_1), .val (.ref a_5), .val (.ref a_1), .val (.int (1 : Int32)), .val (.int (1 : Int32)), .val (.int (1 : Int32)), .val (.int (1 : Int32))] [(.int (1 : Int32))]))
  refine Goes.step (fun _ kK => XS.ifNo X_21.here hx rfl (hb hby at_107) rfl ((if0 _ _).trans (feq (by decide)).1) kK) ?_
  show Goes pP eE bB _ (T_21.setTop (mkF mM 110 #[.val (.int p1), .val (.int p2), .val (.int p3), .val (.int p4), .val (.ref a_1), .val (.ref a_5), .val (.ref a_1), .val (.int (1 : Int32)), .val (.int (1 : Int32)), .val (.int (1 : Int32)), .val (.int (1 : Int32))] []))
  refine Goes.step (fun _ kK => XS.iload X_21.here hx rfl (hb hby at_110) rfl kK) ?_
  show Goes pP eE bB _ (T_21.setTop (mkF mM 112 #[.val (.int p1), .val (.int p2), .val (.int p3), .val (.int p4), .val (.ref a_1), .val (.ref a_5), .val (.ref a_1), .val (.int (1 : Int32)), .val (.int (1 : Int32)), .val (.int (1 : Int32)), .val (.int (1 : Int32))] [(.int (1 : Int32))]))
  refine Goes.step (fun _ kK => XS.ifNo X_21.here hx rfl (hb hby at_112) rfl ((if0 _ _).trans (feq (by decide)).1) kK) ?_
  show Goes pP eE bB _ (T_21.setTop (mkF mM 115 #[.val (.int p1), .val (.int p2), .val (.int p3), .val (.int p4), .val (.ref a_1), .val (.ref a_5), .val (.ref a_1), .val (.int (1 : Int32)), .val (.int (1 : Int32)), .val (.int (1 : Int32)), .val (.int (1 : Int32))] []))
  refine Goes.step (fun _ kK => XS.iload X_21.here hx rfl (hb hby at_115) rfl kK) ?_
  show Goes pP eE bB _ (T_21.setTop (mkF mM 117 #[.val (.int p1), .val (.int p2), .val (.int p3), .val (.int p4), .val (.ref a_1), .val (.ref a_5), .val (.ref a_1), .val (.int (1 : Int32)), .val (.int (1 : Int32)), .val (.int (1 : Int32)), .val (.int (1 : Int32))] [(.int (1 : Int32))]))
  refine Goes.step (fun _ kK => XS.ifNo X_21.here hx rfl (hb hby at_117) rfl ((if0 _ _).trans (feq (by decide)).1) kK) ?_
  show Goes pP eE bB _ (T_21.setTop (mkF mM 120 #[.val (.int p1), .val (.int p2), .val (.int p3), .val (.int p4), .val (.ref a_1), .val (.ref a_5), .val (.ref a_1), .val (.int (1 : Int32)), .val (.int (1 : Int32)), .val (.int (1 : Int32)), .val (.int (1 : Int32))] []))
  refine Goes.step (fun _ kK => XS.iload X_21.here hx rfl (hb hby at_120) rfl kK) ?_
  show Goes pP eE bB _ (T_21.setTop (mkF mM 122 #[.val (.int p1), .val (.int p2), .val (.int p3), .val (.int p4), .val (.ref a_1), .val (.ref a_5), .val (.ref a_1), .val (.int (1 : Int32)), .val (.int (1 : Int32)), .val (.int (1 : Int32)), .val (.int (1 : Int32))] [(.int (1 : Int32))]))
  refine Goes.step (fun _ kK => XS.ifNo X_21.here hx rfl (hb hby at_122) rfl ((if0 _ _).trans (feq (by decide)).1) kK) ?_
  show Goes pP eE bB _ (T_21.setTop (mkF mM 125 #[.val (.int p1), .val (.int p2), .val (.int p3), .val (.int p4), .val (.ref a_1), .val (.ref a_5), .val (.ref a_1), .val (.int (1 : Int32)), .val (.int (1 : Int32)), .val (.int (1 : Int32)), .val (.int (1 : Int32))] []))
  refine Goes.step (fun _ kK => XS.iconst X_21.here hx rfl (hb hby at_125) kK) ?_
  show Goes pP eE bB _ (T_21.setTop (mkF mM 126 #[.val (.int p1), .val (.int p2), .val (.int p3), .val (.int p4), .val (.ref a_1), .val (.ref a_5), .val (.ref a_1), .val (.int (1 : Int32)), .val (.int (1 : Int32)), .val (.int (1 : Int32)), .val (.int (1 : Int32))] [(.int (1 : Int32))]))
  refine Goes.step (fun _ kK => XS.goto X_21.here hx rfl (pc0 := 126) (pc' := 130) rfl (hb hby at_126) (by decide) (by decide) kK) ?_
  show Goes pP eE bB _ (T_21.setTop (mkF mM 130 #[.val (.int p1), .val (.int p2), .val (.int p3), .val (.int p4), .val (.ref a_1), .val (.ref a_5), .val (.ref a_1), .val (.int (1 : Int32)), .val (.int (1 : Int32)), .val (.int (1 : Int32)), .val (.int (1 : Int32))] [(.int (1 : Int32))]))
  refine Goes.retNW X_21 hS (Nat.le_trans hk_5 (Nat.le_of_eq (by rw [e_21]))) hx hlk (t := .boolean) hret (by simp) (hb hby at_130) (by decide) (by decide) ?_
  exact ⟨rfl, N_21⟩
set_option maxRecDepth 65536 in
set_option maxHeartbeats 40000000 in
theorem comes_1 {Post : Tables → Env → Array Value → State → Outcome → State → Prop} (hpost : ∀ tb e args s v u, (limb_1_1.after args s (.returned v) u = true ∧ limb_1_2.after args s (.returned v) u = true ∧ True) → ReturnedEndW s (.returned v) u (Jvm.fieldLocs frame_1_writes args s ++ Jvm.arrayLocs frame_1_arrays args s ++ Jvm.staticLocs frame_1_statics s) 24 2176 → Post tb e args s (.returned v) u) :
    ArmFor flags0 classFile x code maxLocals ret World_1 tables_1 room_1 Calls_1 rest_1 Pre_1 Post := by
  intro l hfl _ _ p e ha hc hk s m args below hf hA hF happ hP
  obtain ⟨hcalls, hrest, hpre⟩ := hP
  obtain ⟨-, -, -, hnamed, -, -, -, hat⟩ := (Spec.applies_iff hf).mp happ
  obtain ⟨hg, hn⟩ := and_e (Cond.before_iff.mp (show (Jvm.Cond.and given_1 narrow_1).before args s = true from hpre))
  obtain ⟨hcnt, g0⟩ := and_e hg
  obtain ⟨q0, g1⟩ := and_e g0
  obtain ⟨q1, g2⟩ := and_e g1
  obtain ⟨q2, g3⟩ := and_e g2
  have q3 := g3
  obtain ⟨w0, w1, w2, w3, rfl⟩ : ∃ w0 w1 w2 w3 : Value, args = #[w0, w1, w2, w3] := by
    have hs : args.size = 4 := by simpa [Cond.value, given_1] using hcnt
    obtain ⟨L⟩ := args
    match L, hs with
    | [w0, w1, w2, w3], _ => exact ⟨w0, w1, w2, w3, rfl⟩
  have hw := fun d (hd : d ∈ tables_1) => atoms_spec (ws := Jvm.Cond.code x code maxLocals ret :: tables_1) hat d (List.mem_cons_of_mem _ hd)
  obtain ⟨i0, e0⟩ := is_v q0
  obtain rfl : w0 = (.int i0) := Option.some.inj e0
  obtain ⟨i1, e1⟩ := is_v q1
  obtain rfl : w1 = (.int i1) := Option.some.inj e1
  obtain ⟨i2, e2⟩ := is_v q2
  obtain rfl : w2 = (.int i2) := Option.some.inj e2
  obtain ⟨i3, e3⟩ := is_v q3
  obtain rfl : w3 = (.int i3) := Option.some.inj e3
  obtain ⟨hsets, hown0⟩ := atoms_of _ (rest_1_c_eq ▸ (show rest_1_c.before _ s = true from hrest))
  have n5 := not_v (Cond.before_iff.mp (hsets _ (List.mem_of_getElem? (i := 2) rfl)))
  obtain ⟨cs, ecs⟩ := is_v (Cond.before_iff.mp (hsets _ (List.mem_of_getElem? (i := 1) rfl)))
  have Scs : Sta s s.heap "java/lang/String" "COMPACT_STRINGS" "Z" (.int cs) := Sta.start ecs (Or.inl (hsets _ (List.mem_of_getElem? (i := 0) rfl)))
  have hcs : ¬ (cs = (0 : Int32)) := gotF (Cond.eq_ints ecs (Term.int_eval (0))) n5
  have hheld : ∀ p ∈ own_EL, Jvm.Lit.constHeld s p.1 p.2 := fun p hp => by rw [List.mem_singleton.mp hp]; exact hcalls.1 ("java/lang/String", 7) (List.mem_of_getElem? (i := 1) rfl)
  have hcw := hsets _ (List.mem_of_getElem? (i := 2) rfl)
  have hCH : CHv s own_EL s.vm s.heap := CHv.start (own_hEL hw) hheld hcw (hw _ (List.mem_of_getElem? (i := 19) rfl)) (hw _ (List.mem_of_getElem? (i := 6) rfl))
  obtain ⟨n, o, h1, h2, h3, _, L, rfl, ⟨rfl, N⟩, hq⟩ := rm0 l s _ hw i0 i1 i2 i3 cs s.heap s.heap.size (Nat.le_refl _) Scs hcs (Old.start s) tables_1 p e ha hc hk s m _ below hf ((Spec.applies_iff_loose hf).mp happ).1 ⟨rfl, State.Warmed39.refl s, rfl, hCH⟩ trivial
  refine ⟨n, _, h1, h2, h3, hpost _ _ _ _ _ _ ⟨Cond.after_iff.mpr rfl, Cond.after_iff.mpr (eq_i res_at (Term.int_eval (1)) rfl), trivial⟩ ⟨hq.1, hq.2.1, hq.2.2.1, (hq.2.2.2.sift fun y hy => Or.inr (N y hy)).mono (by decide) (by decide)⟩⟩
theorem main_1_1 : Claimed_1_1 := comes_1 fun _ _ _ _ _ _ h hF => ⟨h.1, hF⟩
theorem main_1_2 : Claimed_1_2 := comes_1 fun _ _ _ _ _ _ h hF => ⟨h.2.1, hF⟩
end Jvm.Pilot.@@N@@
namespace Jvm.Pilot.@@N@@
open Jvm Jvm.ClassFile Sem Op Lib Jvm.Free Jvm.Stand Jvm.Pilot.@@N@@.Jvm.D
/-! MADE BY PROGRAM (witnessworld.py) out of the Statement's table words and the real class files: 22 classes; the members and pool entries that the words name. The judged class is class 1, her method 2. -/
namespace start1
open Jvm.ClassFile
def u (s : String) : CpInfo := .utf8 (stringToUtf16 s)
/-- a pool by its gaps: so many unusable entries, then the entry; so many at the end -/
def gap : Nat → List CpInfo → List CpInfo
  | 0, r => r
  | n + 1, r => .unusable :: gap n r
def poolList (es : List (Nat × CpInfo)) (last : Nat) : List CpInfo := es.foldr (fun e r => gap e.1 (e.2 :: r)) (gap last [])
def pool (es : List (Nat × CpInfo)) (last : Nat) : Array CpInfo := ⟨poolList es last⟩
def fileOf (pool : Array CpInfo) (this : Nat) (attrs : Array Attribute := #[]) (ms : Array MethodInfo := #[]) (fl : Nat := 33) (sup : Nat := 0) (ifs : Array Nat := #[]) (fds : Array FieldInfo := #[]) : ClassFile where
  minorVersion := 0
  majorVersion := 65
  constantPool := pool
  accessFlags := fl
  thisClass := this
  superClass := sup
  interfaces := ifs
  fields := fds
  methods := ms
  attributes := attrs
def plain (name : String) (sup : Option ClassId) : Class where
  name := name
  kind := .ordinary
  loader := none
  accessFlags := 33
  super := sup
  interfaces := #[]
  cf := none
  fields := #[]
  methods := #[]
  instanceTypes := #[]
  staticTypes := #[]
  resolved := #[]
  callSites := []
  init := .initialized
  statics := none
  mirror := none

def pool0 : Array CpInfo := pool [(5, u "<init>"), (0, u "()V"), (1, .class_ 10), (1, u "java/lang/Object")] 113

def k0c0 : Code := { maxStack := 0, maxLocals := 1, code := object_method_1_code, exceptionTable := #[], attributes := #[] }
def k0m0 : Method := { name := "<init>", desc := "()V", sig := { parameters := [], returnType := none }, accessFlags := 1, code := some k0c0 }
/-- java/lang/Object -/
def k0 : Class := { plain "java/lang/Object" none with
  accessFlags := 33
  interfaces := #[]
  cf := some (fileOf pool0 8 #[] #[{ accessFlags := 1, nameIndex := 5, descriptorIndex := 6, attributes := #[] }] 33 0 #[] #[])
  fields := #[]
  methods := #[k0m0]
  instanceTypes := #[]
  staticTypes := #[]
  resolved := Array.replicate 124 none
  statics := none }

def pool1 : Array CpInfo := pool [(2, .class_ 4), (1, u "java/lang/Object"), (0, u "<init>"), (0, u "()V"), (0, .class_ 8), (0, u "java/lang/String"), (0, .methodref 7 10), (0, .nameAndType 5 11), (0, u "([C)V"), (0, .methodref 13 14), (0, .class_ 15), (0, .nameAndType 16 17), (0, u "com/example/cicada/cicada/engine/GroupWithDefaultsPinLaw"), (0, u "drawName"), (0, u "(IIII)Ljava/lang/String;"), (0, .methodref 19 20), (0, .class_ 21), (0, .nameAndType 22 23), (0, u "com/example/cicada/cicada/engine/Group"), (0, u "withDefaults"), (0, u "(Ljava/lang/String;)Lcom/example/cicada/cicada/engine/Group;"), (0, .methodref 19 25), (0, .nameAndType 26 27), (0, u "name"), (0, u "()Ljava/lang/String;"), (0, .methodref 7 29), (0, .nameAndType 30 31), (0, u "equals"), (0, u "(Ljava/lang/Object;)Z"), (0, .methodref 7 33), (0, .nameAndType 34 35), (0, u "length"), (0, u "()I"), (0, .methodref 19 37), (0, .nameAndType 38 39), (0, u "fifo"), (0, u "()Z"), (0, .methodref 19 41), (0, .nameAndType 42 35), (0, u "maxRetries"), (0, .methodref 19 44), (0, .nameAndType 45 35), (0, u "maxAttempts"), (5, u "law"), (0, u "(IIII)Z")] 2

def k1m0 : Method := { name := "<init>", desc := "()V", sig := { parameters := [], returnType := none }, accessFlags := 2, code := none }
def k1c1 : Code := { maxStack := 4, maxLocals := 9, code := method_2_code, exceptionTable := #[], attributes := #[] }
def k1m1 : Method := { name := "drawName", desc := "(IIII)Ljava/lang/String;", sig := { parameters := [.int, .int, .int, .int], returnType := some (.object "java/lang/String") }, accessFlags := 10, code := some k1c1 }
def k1c2 : Code := { maxStack := 4, maxLocals := 11, code := code, exceptionTable := #[], attributes := #[] }
def k1m2 : Method := { name := "law", desc := "(IIII)Z", sig := { parameters := [.int, .int, .int, .int], returnType := some .boolean }, accessFlags := 9, code := some k1c2 }
/-- com/example/cicada/cicada/engine/GroupWithDefaultsPinLaw -/
def k1 : Class := { plain "com/example/cicada/cicada/engine/GroupWithDefaultsPinLaw" (some 0) with
  accessFlags := 49
  interfaces := #[]
  cf := some (fileOf pool1 13 #[] #[{ accessFlags := 2, nameIndex := 5, descriptorIndex := 6, attributes := #[] }, { accessFlags := 10, nameIndex := 16, descriptorIndex := 17, attributes := #[] }, { accessFlags := 9, nameIndex := 51, descriptorIndex := 52, attributes := #[] }] 49 2 #[] #[])
  fields := #[]
  methods := #[k1m0, k1m1, k1m2]
  instanceTypes := #[]
  staticTypes := #[]
  resolved := Array.replicate 55 none
  statics := none }

def pool2 : Array CpInfo := pool [(1, .class_ 2), (0, u "java/io/Serializable"), (0, .class_ 4), (0, u "java/lang/Object")] 2

/-- java/io/Serializable -/
def k2 : Class := { plain "java/io/Serializable" (some 0) with
  accessFlags := 1537
  interfaces := #[]
  cf := some (fileOf pool2 1 #[] #[] 1537 3 #[] #[])
  fields := #[]
  methods := #[]
  instanceTypes := #[]
  staticTypes := #[]
  resolved := Array.replicate 7 none
  statics := none }

def pool3 : Array CpInfo := pool [(1, .class_ 2), (0, u "java/lang/Comparable"), (0, .class_ 4), (0, u "java/lang/Object")] 7

/-- java/lang/Comparable -/
def k3 : Class := { plain "java/lang/Comparable" (some 0) with
  accessFlags := 1537
  interfaces := #[]
  cf := some (fileOf pool3 1 #[] #[] 1537 3 #[] #[])
  fields := #[]
  methods := #[]
  instanceTypes := #[]
  staticTypes := #[]
  resolved := Array.replicate 12 none
  statics := none }

def pool4 : Array CpInfo := pool [(2, .class_ 4), (1, u "java/lang/CharSequence"), (42, .class_ 48), (0, u "java/lang/CharSequence$1CodePointIterator"), (10, .class_ 60), (0, u "java/lang/CharSequence$1CharIterator"), (5, .class_ 67), (0, u "java/lang/Object")] 63

/-- java/lang/CharSequence -/
def k4 : Class := { plain "java/lang/CharSequence" (some 0) with
  accessFlags := 1537
  interfaces := #[]
  cf := some (fileOf pool4 2 #[.nestMembers #[47, 59]] #[] 1537 66 #[] #[])
  fields := #[]
  methods := #[]
  instanceTypes := #[]
  staticTypes := #[]
  resolved := Array.replicate 131 none
  statics := none }

def pool5 : Array CpInfo := pool [(1, .class_ 2), (0, u "java/lang/constant/Constable"), (0, .class_ 4), (0, u "java/lang/Object")] 6

/-- java/lang/constant/Constable -/
def k5 : Class := { plain "java/lang/constant/Constable" (some 0) with
  accessFlags := 1537
  interfaces := #[]
  cf := some (fileOf pool5 1 #[] #[] 1537 3 #[] #[])
  fields := #[]
  methods := #[]
  instanceTypes := #[]
  staticTypes := #[]
  resolved := Array.replicate 11 none
  statics := none }

def pool6 : Array CpInfo := pool [(1, .class_ 2), (0, u "java/lang/constant/ConstantDesc"), (0, .class_ 4), (0, u "java/lang/Object")] 32

/-- java/lang/constant/ConstantDesc -/
def k6 : Class := { plain "java/lang/constant/ConstantDesc" (some 0) with
  accessFlags := 1537
  interfaces := #[]
  cf := some (fileOf pool6 1 #[] #[] 1537 3 #[] #[])
  fields := #[]
  methods := #[]
  instanceTypes := #[]
  staticTypes := #[]
  resolved := Array.replicate 37 none
  statics := none }

def pool7 : Array CpInfo := pool [(1, .methodref 2 3), (0, .class_ 4), (0, .nameAndType 5 6), (0, u "java/lang/Object"), (0, u "<init>"), (0, u "()V"), (0, .string 8), (0, u ""), (0, .fieldref 10 11), (0, .class_ 12), (0, .nameAndType 13 14), (0, u "java/lang/String"), (0, u "value"), (0, u "[B"), (0, .fieldref 10 16), (0, .nameAndType 17 18), (0, u "coder"), (0, u "B"), (2, u "hash"), (0, u "I"), (2, u "hashIsZero"), (0, u "Z"), (0, .methodref 10 28), (0, .nameAndType 5 29), (0, u "([CIILjava/lang/Void;)V"), (8, .fieldref 10 39), (0, .nameAndType 40 26), (0, u "COMPACT_STRINGS"), (1, .class_ 44), (1, u "java/lang/StringUTF16"), (0, u "compress"), (1, .methodref 42 48), (0, .nameAndType 49 50), (0, u "coderFromArrayLen"), (0, u "([BI)B"), (126, .methodref 42 178), (0, .nameAndType 45 179), (0, u "([CII)[B"), (154, u "()I"), (0, .methodref 10 336), (0, .nameAndType 17 337), (0, u "()B"), (169, u "length"), (35, u "equals"), (29, u "(Ljava/lang/Object;)Z"), (1, .class_ 576), (0, u "java/lang/CharSequence"), (22, u "CASE_INSENSITIVE_ORDER"), (0, u "Ljava/util/Comparator;"), (409, u "([C)V"), (90, u "serialPersistentFields"), (0, u "[Ljava/io/ObjectStreamField;"), (0, .class_ 1104), (0, u "java/lang/String$CaseInsensitiveComparator"), (1, .class_ 1107), (0, u "java/io/Serializable"), (0, .class_ 1109), (0, u "java/lang/Comparable"), (0, .class_ 1111), (0, u "java/lang/constant/Constable"), (0, .class_ 1113), (0, u "java/lang/constant/ConstantDesc"), (2, u "serialVersionUID"), (0, u "J"), (3, u "REPL"), (0, u "C"), (2, u "LATIN1"), (1, u "UTF16")] 323

def k7m0 : Method := { name := "<init>", desc := "()V", sig := { parameters := [], returnType := none }, accessFlags := 1, code := none }
def k7c1 : Code := { maxStack := 5, maxLocals := 2, code := jdk_42_method_3_code, exceptionTable := #[], attributes := #[] }
def k7m1 : Method := { name := "<init>", desc := "([C)V", sig := { parameters := [(.array .char)], returnType := none }, accessFlags := 1, code := some k7c1 }
def k7c2 : Code := { maxStack := 2, maxLocals := 1, code := jdk_42_method_54_code, exceptionTable := #[], attributes := #[] }
def k7m2 : Method := { name := "length", desc := "()I", sig := { parameters := [], returnType := some .int }, accessFlags := 1, code := some k7c2 }
def k7c3 : Code := { maxStack := 2, maxLocals := 3, code := jdk_42_method_66_code, exceptionTable := #[], attributes := #[] }
def k7m3 : Method := { name := "equals", desc := "(Ljava/lang/Object;)Z", sig := { parameters := [(.object "java/lang/Object")], returnType := some .boolean }, accessFlags := 1, code := some k7c3 }
def k7c4 : Code := { maxStack := 4, maxLocals := 6, code := jdk_42_method_149_code, exceptionTable := #[], attributes := #[] }
def k7m4 : Method := { name := "<init>", desc := "([CIILjava/lang/Void;)V", sig := { parameters := [(.array .char), .int, .int, (.object "java/lang/Void")], returnType := none }, accessFlags := 2, code := some k7c4 }
def k7c5 : Code := { maxStack := 1, maxLocals := 1, code := jdk_42_method_152_code, exceptionTable := #[], attributes := #[] }
def k7m5 : Method := { name := "coder", desc := "()B", sig := { parameters := [], returnType := some .byte }, accessFlags := 0, code := some k7c5 }
/-- java/lang/String -/
def k7 : Class := { plain "java/lang/String" (some 0) with
  accessFlags := 49
  interfaces := #[2, 3, 4, 5, 6]
  cf := some (fileOf pool7 10 #[.nestMembers #[1103]] #[{ accessFlags := 1, nameIndex := 5, descriptorIndex := 6, attributes := #[] }, { accessFlags := 1, nameIndex := 5, descriptorIndex := 1010, attributes := #[] }, { accessFlags := 1, nameIndex := 507, descriptorIndex := 334, attributes := #[] }, { accessFlags := 1, nameIndex := 543, descriptorIndex := 573, attributes := #[] }, { accessFlags := 2, nameIndex := 5, descriptorIndex := 29, attributes := #[] }, { accessFlags := 0, nameIndex := 17, descriptorIndex := 337, attributes := #[] }] 49 2 #[1106, 1108, 575, 1110, 1112] #[{ accessFlags := 18, nameIndex := 13, descriptorIndex := 14, attributes := #[] }, { accessFlags := 18, nameIndex := 17, descriptorIndex := 18, attributes := #[] }, { accessFlags := 2, nameIndex := 21, descriptorIndex := 22, attributes := #[] }, { accessFlags := 2, nameIndex := 25, descriptorIndex := 26, attributes := #[] }, { accessFlags := 26, nameIndex := 1116, descriptorIndex := 1117, attributes := #[] }, { accessFlags := 24, nameIndex := 40, descriptorIndex := 26, attributes := #[] }, { accessFlags := 26, nameIndex := 1101, descriptorIndex := 1102, attributes := #[] }, { accessFlags := 26, nameIndex := 1121, descriptorIndex := 1122, attributes := #[] }, { accessFlags := 25, nameIndex := 599, descriptorIndex := 600, attributes := #[] }, { accessFlags := 24, nameIndex := 1125, descriptorIndex := 18, attributes := #[] }, { accessFlags := 24, nameIndex := 1127, descriptorIndex := 18, attributes := #[] }])
  fields := #[{ name := "value", type := (.array .byte), accessFlags := 18, slot := 0, constantValue := 0 }, { name := "coder", type := .byte, accessFlags := 18, slot := 1, constantValue := 0 }, { name := "hash", type := .int, accessFlags := 2, slot := 2, constantValue := 0 }, { name := "hashIsZero", type := .boolean, accessFlags := 2, slot := 3, constantValue := 0 }, { name := "serialVersionUID", type := .long, accessFlags := 26, slot := 0, constantValue := 0 }, { name := "COMPACT_STRINGS", type := .boolean, accessFlags := 24, slot := 1, constantValue := 0 }, { name := "serialPersistentFields", type := (.array (.object "java/io/ObjectStreamField")), accessFlags := 26, slot := 2, constantValue := 0 }, { name := "REPL", type := .char, accessFlags := 26, slot := 3, constantValue := 0 }, { name := "CASE_INSENSITIVE_ORDER", type := (.object "java/util/Comparator"), accessFlags := 25, slot := 4, constantValue := 0 }, { name := "LATIN1", type := .byte, accessFlags := 24, slot := 5, constantValue := 0 }, { name := "UTF16", type := .byte, accessFlags := 24, slot := 6, constantValue := 0 }]
  methods := #[k7m0, k7m1, k7m2, k7m3, k7m4, k7m5]
  instanceTypes := #[(.array .byte), .byte, .int, .boolean]
  staticTypes := #[.long, .boolean, (.array (.object "java/io/ObjectStreamField")), .char, (.object "java/util/Comparator"), .byte, .byte]
  resolved := Array.replicate 1451 none
  statics := some 0 }

def pool8 : Array CpInfo := pool [(1, .methodref 2 3), (0, .class_ 4), (0, .nameAndType 5 6), (0, u "java/lang/Object"), (0, u "<init>"), (0, u "()V"), (0, .class_ 8), (0, u "java/lang/Record")] 13

def k8c0 : Code := { maxStack := 1, maxLocals := 1, code := jdk_30_method_1_code, exceptionTable := #[], attributes := #[] }
def k8m0 : Method := { name := "<init>", desc := "()V", sig := { parameters := [], returnType := none }, accessFlags := 4, code := some k8c0 }
/-- java/lang/Record -/
def k8 : Class := { plain "java/lang/Record" (some 0) with
  accessFlags := 1057
  interfaces := #[]
  cf := some (fileOf pool8 7 #[] #[{ accessFlags := 4, nameIndex := 5, descriptorIndex := 6, attributes := #[] }] 1057 2 #[] #[])
  fields := #[]
  methods := #[k8m0]
  instanceTypes := #[]
  staticTypes := #[]
  resolved := Array.replicate 22 none
  statics := none }

def pool9 : Array CpInfo := pool [(1, .methodref 2 3), (0, .class_ 4), (0, .nameAndType 5 6), (0, u "java/lang/Record"), (0, u "<init>"), (0, u "()V"), (0, .string 8), (0, u "name"), (0, .methodref 10 11), (0, .class_ 12), (0, .nameAndType 13 14), (0, u "java/util/Objects"), (0, u "requireNonNull"), (0, u "(Ljava/lang/Object;Ljava/lang/String;)Ljava/lang/Object;"), (0, .fieldref 16 17), (0, .class_ 18), (0, .nameAndType 8 19), (0, u "com/example/cicada/cicada/engine/Group"), (0, u "Ljava/lang/String;"), (0, .fieldref 16 21), (0, .nameAndType 22 23), (0, u "fifo"), (0, u "Z"), (0, .fieldref 16 25), (0, .nameAndType 26 27), (0, u "maxRetries"), (0, u "I"), (0, .methodref 16 29), (0, .nameAndType 5 30), (0, u "(Ljava/lang/String;ZI)V"), (2, .integer 2147483647), (11, u "UNORDERED_RETRY_DELAYS"), (0, u "Ljava/util/List;"), (5, u "()I"), (8, u "ORDERED_RETRY_DELAY"), (0, u "Ljava/time/Duration;"), (54, u "DEFAULT_MAX_RETRIES"), (7, u "withDefaults"), (0, u "(Ljava/lang/String;)Lcom/example/cicada/cicada/engine/Group;"), (0, u "maxAttempts"), (3, u "()Ljava/lang/String;"), (1, u "()Z")] 31

def k9c0 : Code := { maxStack := 2, maxLocals := 4, code := prog_8_method_1_code, exceptionTable := #[], attributes := #[] }
def k9m0 : Method := { name := "<init>", desc := "(Ljava/lang/String;ZI)V", sig := { parameters := [(.object "java/lang/String"), .boolean, .int], returnType := none }, accessFlags := 1, code := some k9c0 }
def k9c1 : Code := { maxStack := 5, maxLocals := 1, code := prog_8_method_2_code, exceptionTable := #[], attributes := #[] }
def k9m1 : Method := { name := "withDefaults", desc := "(Ljava/lang/String;)Lcom/example/cicada/cicada/engine/Group;", sig := { parameters := [(.object "java/lang/String")], returnType := some (.object "com/example/cicada/cicada/engine/Group") }, accessFlags := 9, code := some k9c1 }
def k9c2 : Code := { maxStack := 2, maxLocals := 1, code := prog_8_method_3_code, exceptionTable := #[], attributes := #[] }
def k9m2 : Method := { name := "maxAttempts", desc := "()I", sig := { parameters := [], returnType := some .int }, accessFlags := 1, code := some k9c2 }
def k9c3 : Code := { maxStack := 1, maxLocals := 1, code := prog_8_method_8_code, exceptionTable := #[], attributes := #[] }
def k9m3 : Method := { name := "name", desc := "()Ljava/lang/String;", sig := { parameters := [], returnType := some (.object "java/lang/String") }, accessFlags := 1, code := some k9c3 }
def k9c4 : Code := { maxStack := 1, maxLocals := 1, code := prog_8_method_9_code, exceptionTable := #[], attributes := #[] }
def k9m4 : Method := { name := "fifo", desc := "()Z", sig := { parameters := [], returnType := some .boolean }, accessFlags := 1, code := some k9c4 }
def k9c5 : Code := { maxStack := 1, maxLocals := 1, code := prog_8_method_10_code, exceptionTable := #[], attributes := #[] }
def k9m5 : Method := { name := "maxRetries", desc := "()I", sig := { parameters := [], returnType := some .int }, accessFlags := 1, code := some k9c5 }
/-- com/example/cicada/cicada/engine/Group -/
def k9 : Class := { plain "com/example/cicada/cicada/engine/Group" (some 8) with
  accessFlags := 49
  interfaces := #[]
  cf := some (fileOf pool9 16 #[] #[{ accessFlags := 1, nameIndex := 5, descriptorIndex := 30, attributes := #[] }, { accessFlags := 9, nameIndex := 125, descriptorIndex := 126, attributes := #[] }, { accessFlags := 1, nameIndex := 127, descriptorIndex := 52, attributes := #[] }, { accessFlags := 1, nameIndex := 8, descriptorIndex := 131, attributes := #[] }, { accessFlags := 1, nameIndex := 22, descriptorIndex := 133, attributes := #[] }, { accessFlags := 1, nameIndex := 26, descriptorIndex := 52, attributes := #[] }] 49 2 #[] #[{ accessFlags := 18, nameIndex := 8, descriptorIndex := 19, attributes := #[] }, { accessFlags := 18, nameIndex := 22, descriptorIndex := 23, attributes := #[] }, { accessFlags := 18, nameIndex := 26, descriptorIndex := 27, attributes := #[] }, { accessFlags := 25, nameIndex := 117, descriptorIndex := 27, attributes := #[] }, { accessFlags := 26, nameIndex := 45, descriptorIndex := 46, attributes := #[] }, { accessFlags := 26, nameIndex := 61, descriptorIndex := 62, attributes := #[] }])
  fields := #[{ name := "name", type := (.object "java/lang/String"), accessFlags := 18, slot := 0, constantValue := 0 }, { name := "fifo", type := .boolean, accessFlags := 18, slot := 1, constantValue := 0 }, { name := "maxRetries", type := .int, accessFlags := 18, slot := 2, constantValue := 0 }, { name := "DEFAULT_MAX_RETRIES", type := .int, accessFlags := 25, slot := 0, constantValue := 0 }, { name := "UNORDERED_RETRY_DELAYS", type := (.object "java/util/List"), accessFlags := 26, slot := 1, constantValue := 0 }, { name := "ORDERED_RETRY_DELAY", type := (.object "java/time/Duration"), accessFlags := 26, slot := 2, constantValue := 0 }]
  methods := #[k9m0, k9m1, k9m2, k9m3, k9m4, k9m5]
  instanceTypes := #[(.object "java/lang/String"), .boolean, .int]
  staticTypes := #[.int, (.object "java/util/List"), (.object "java/time/Duration")]
  resolved := Array.replicate 165 none
  statics := none }

def pool10 : Array CpInfo := pool [(2, .class_ 4), (1, u "java/lang/Object"), (0, u "<init>"), (0, u "()V"), (35, .class_ 44), (1, u "java/util/Objects"), (0, u "requireNonNull"), (48, u "(Ljava/lang/Object;Ljava/lang/String;)Ljava/lang/Object;")] 89

def k10m0 : Method := { name := "<init>", desc := "()V", sig := { parameters := [], returnType := none }, accessFlags := 2, code := none }
def k10c1 : Code := { maxStack := 3, maxLocals := 2, code := jdk_31_method_11_code, exceptionTable := #[], attributes := #[] }
def k10m1 : Method := { name := "requireNonNull", desc := "(Ljava/lang/Object;Ljava/lang/String;)Ljava/lang/Object;", sig := { parameters := [(.object "java/lang/Object"), (.object "java/lang/String")], returnType := some (.object "java/lang/Object") }, accessFlags := 9, code := some k10c1 }
/-- java/util/Objects -/
def k10 : Class := { plain "java/util/Objects" (some 0) with
  accessFlags := 49
  interfaces := #[]
  cf := some (fileOf pool10 42 #[] #[{ accessFlags := 2, nameIndex := 5, descriptorIndex := 6, attributes := #[] }, { accessFlags := 9, nameIndex := 45, descriptorIndex := 94, attributes := #[] }] 49 2 #[] #[])
  fields := #[]
  methods := #[k10m0, k10m1]
  instanceTypes := #[]
  staticTypes := #[]
  resolved := Array.replicate 184 none
  statics := none }

def pool11 : Array CpInfo := pool [(6, .class_ 8), (1, u "java/lang/Object"), (0, u "<init>"), (0, u "()V"), (1, .class_ 14), (1, u "java/lang/StringUTF16"), (31, u "$assertionsDisabled"), (0, u "Z"), (13, u "HI_BYTE_SHIFT"), (0, u "I"), (2, u "LO_BYTE_SHIFT"), (49, .methodref 12 116), (0, .nameAndType 117 118), (0, u "compress"), (0, u "([CI[BII)I"), (3, u "([CII)[B"), (138, u "coderFromArrayLen"), (0, u "([BI)B"), (106, .class_ 371), (1, u "java/lang/StringUTF16$LinesSpliterator"), (58, u "MAX_LENGTH"), (196, .class_ 628), (0, u "java/lang/StringUTF16$CodePointsSpliterator"), (0, .class_ 630), (0, u "java/lang/StringUTF16$CharsSpliterator")] 4

def k11m0 : Method := { name := "<init>", desc := "()V", sig := { parameters := [], returnType := none }, accessFlags := 0, code := none }
def k11c1 : Code := { maxStack := 2, maxLocals := 2, code := jdk_52_method_15_code, exceptionTable := #[], attributes := #[] }
def k11m1 : Method := { name := "coderFromArrayLen", desc := "([BI)B", sig := { parameters := [(.array .byte), .int], returnType := some .byte }, accessFlags := 8, code := some k11c1 }
def k11c2 : Code := { maxStack := 5, maxLocals := 6, code := jdk_52_method_16_code, exceptionTable := #[], attributes := #[] }
def k11m2 : Method := { name := "compress", desc := "([CII)[B", sig := { parameters := [(.array .char), .int, .int], returnType := some (.array .byte) }, accessFlags := 9, code := some k11c2 }
def k11c3 : Code := { maxStack := 3, maxLocals := 7, code := jdk_52_method_21_code, exceptionTable := #[], attributes := #[] }
def k11m3 : Method := { name := "compress", desc := "([CI[BII)I", sig := { parameters := [(.array .char), .int, (.array .byte), .int, .int], returnType := some .int }, accessFlags := 9, code := some k11c3 }
/-- java/lang/StringUTF16 -/
def k11 : Class := { plain "java/lang/StringUTF16" (some 0) with
  accessFlags := 48
  interfaces := #[]
  cf := some (fileOf pool11 12 #[.nestMembers #[627, 629, 369]] #[{ accessFlags := 0, nameIndex := 9, descriptorIndex := 10, attributes := #[] }, { accessFlags := 8, nameIndex := 261, descriptorIndex := 262, attributes := #[] }, { accessFlags := 9, nameIndex := 117, descriptorIndex := 122, attributes := #[] }, { accessFlags := 9, nameIndex := 117, descriptorIndex := 118, attributes := #[] }] 48 6 #[] #[{ accessFlags := 26, nameIndex := 61, descriptorIndex := 62, attributes := #[] }, { accessFlags := 26, nameIndex := 65, descriptorIndex := 62, attributes := #[] }, { accessFlags := 24, nameIndex := 430, descriptorIndex := 62, attributes := #[] }, { accessFlags := 4120, nameIndex := 46, descriptorIndex := 47, attributes := #[] }])
  fields := #[{ name := "HI_BYTE_SHIFT", type := .int, accessFlags := 26, slot := 0, constantValue := 0 }, { name := "LO_BYTE_SHIFT", type := .int, accessFlags := 26, slot := 1, constantValue := 0 }, { name := "MAX_LENGTH", type := .int, accessFlags := 24, slot := 2, constantValue := 0 }, { name := "$assertionsDisabled", type := .boolean, accessFlags := 4120, slot := 3, constantValue := 0 }]
  methods := #[k11m0, k11m1, k11m2, k11m3]
  instanceTypes := #[]
  staticTypes := #[.int, .int, .int, .boolean]
  resolved := Array.replicate 635 none
  statics := none }

def pool12 : Array CpInfo := pool [(4, .class_ 6), (1, u "java/lang/Object"), (0, u "<init>"), (0, u "()V"), (5, .class_ 16), (1, u "java/lang/StringLatin1"), (104, u "$assertionsDisabled"), (0, u "Z"), (98, .class_ 223), (1, u "java/lang/StringLatin1$LinesSpliterator"), (166, .class_ 391), (0, u "java/lang/StringLatin1$CharsSpliterator")] 3

def k12m0 : Method := { name := "<init>", desc := "()V", sig := { parameters := [], returnType := none }, accessFlags := 0, code := none }
/-- java/lang/StringLatin1 -/
def k12 : Class := { plain "java/lang/StringLatin1" (some 0) with
  accessFlags := 48
  interfaces := #[]
  cf := some (fileOf pool12 14 #[.nestMembers #[390, 221]] #[{ accessFlags := 0, nameIndex := 7, descriptorIndex := 8, attributes := #[] }] 48 4 #[] #[{ accessFlags := 4120, nameIndex := 121, descriptorIndex := 122, attributes := #[] }])
  fields := #[{ name := "$assertionsDisabled", type := .boolean, accessFlags := 4120, slot := 0, constantValue := 0 }]
  methods := #[k12m0]
  instanceTypes := #[]
  staticTypes := #[.boolean]
  resolved := Array.replicate 395 none
  statics := none }

def pool13 : Array CpInfo := pool [(2, .class_ 4), (1, u "java/lang/Object"), (0, u "<init>"), (0, u "()V"), (17, .class_ 26), (1, u "jdk/internal/util/Preconditions"), (28, .class_ 56), (0, u "jdk/internal/util/Preconditions$4"), (57, .class_ 115), (0, u "jdk/internal/util/Preconditions$1"), (7, u "SIOOBE_FORMATTER"), (0, u "Ljava/util/function/BiFunction;"), (0, .class_ 126), (0, u "jdk/internal/util/Preconditions$2"), (3, u "AIOOBE_FORMATTER"), (0, .class_ 132), (0, u "jdk/internal/util/Preconditions$3"), (3, u "IOOBE_FORMATTER")] 57

def k13m0 : Method := { name := "<init>", desc := "()V", sig := { parameters := [], returnType := none }, accessFlags := 1, code := none }
/-- jdk/internal/util/Preconditions -/
def k13 : Class := { plain "jdk/internal/util/Preconditions" (some 0) with
  accessFlags := 33
  interfaces := #[]
  cf := some (fileOf pool13 24 #[.nestMembers #[55, 131, 125, 114]] #[{ accessFlags := 1, nameIndex := 5, descriptorIndex := 6, attributes := #[] }] 33 2 #[] #[{ accessFlags := 25, nameIndex := 123, descriptorIndex := 124, attributes := #[] }, { accessFlags := 25, nameIndex := 130, descriptorIndex := 124, attributes := #[] }, { accessFlags := 25, nameIndex := 136, descriptorIndex := 124, attributes := #[] }])
  fields := #[{ name := "SIOOBE_FORMATTER", type := (.object "java/util/function/BiFunction"), accessFlags := 25, slot := 0, constantValue := 0 }, { name := "AIOOBE_FORMATTER", type := (.object "java/util/function/BiFunction"), accessFlags := 25, slot := 1, constantValue := 0 }, { name := "IOOBE_FORMATTER", type := (.object "java/util/function/BiFunction"), accessFlags := 25, slot := 2, constantValue := 0 }]
  methods := #[k13m0]
  instanceTypes := #[]
  staticTypes := #[(.object "java/util/function/BiFunction"), (.object "java/util/function/BiFunction"), (.object "java/util/function/BiFunction")]
  resolved := Array.replicate 194 none
  statics := some 1 }

def pool14 : Array CpInfo := pool [(9, u "<init>"), (6, .class_ 18), (1, u "java/lang/Object"), (0, u "()V"), (1, .class_ 23), (1, u "jdk/internal/util/ArraysSupport"), (0, u "LOG2_ARRAY_LONG_INDEX_SCALE"), (0, u "I"), (2, u "U"), (0, u "Ljdk/internal/misc/Unsafe;"), (8, u "BIG_ENDIAN"), (0, u "Z"), (8, u "LOG2_BYTE_BIT_SIZE"), (4, u "LOG2_ARRAY_INT_INDEX_SCALE"), (54, u "JLA"), (0, u "Ljdk/internal/access/JavaLangAccess;"), (11, u "LOG2_ARRAY_BOOLEAN_INDEX_SCALE"), (9, u "LOG2_ARRAY_BYTE_INDEX_SCALE"), (5, u "LOG2_ARRAY_CHAR_INDEX_SCALE"), (5, u "LOG2_ARRAY_SHORT_INDEX_SCALE"), (18, u "LOG2_ARRAY_FLOAT_INDEX_SCALE"), (24, u "LOG2_ARRAY_DOUBLE_INDEX_SCALE"), (89, u "T_BOOLEAN"), (2, u "T_CHAR"), (1, u "T_FLOAT"), (1, u "T_DOUBLE"), (1, u "T_BYTE"), (1, u "T_SHORT"), (1, u "T_INT"), (1, u "T_LONG"), (1, u "SOFT_MAX_ARRAY_LENGTH")] 83

def k14m0 : Method := { name := "<init>", desc := "()V", sig := { parameters := [], returnType := none }, accessFlags := 2, code := none }
/-- jdk/internal/util/ArraysSupport -/
def k14 : Class := { plain "jdk/internal/util/ArraysSupport" (some 0) with
  accessFlags := 33
  interfaces := #[]
  cf := some (fileOf pool14 21 #[] #[{ accessFlags := 2, nameIndex := 9, descriptorIndex := 19, attributes := #[] }] 33 16 #[] #[{ accessFlags := 24, nameIndex := 28, descriptorIndex := 29, attributes := #[] }, { accessFlags := 26, nameIndex := 38, descriptorIndex := 39, attributes := #[] }, { accessFlags := 25, nameIndex := 121, descriptorIndex := 25, attributes := #[] }, { accessFlags := 25, nameIndex := 131, descriptorIndex := 25, attributes := #[] }, { accessFlags := 25, nameIndex := 137, descriptorIndex := 25, attributes := #[] }, { accessFlags := 25, nameIndex := 143, descriptorIndex := 25, attributes := #[] }, { accessFlags := 25, nameIndex := 53, descriptorIndex := 25, attributes := #[] }, { accessFlags := 25, nameIndex := 24, descriptorIndex := 25, attributes := #[] }, { accessFlags := 25, nameIndex := 162, descriptorIndex := 25, attributes := #[] }, { accessFlags := 25, nameIndex := 187, descriptorIndex := 25, attributes := #[] }, { accessFlags := 26, nameIndex := 48, descriptorIndex := 25, attributes := #[] }, { accessFlags := 25, nameIndex := 277, descriptorIndex := 25, attributes := #[] }, { accessFlags := 25, nameIndex := 280, descriptorIndex := 25, attributes := #[] }, { accessFlags := 25, nameIndex := 282, descriptorIndex := 25, attributes := #[] }, { accessFlags := 25, nameIndex := 284, descriptorIndex := 25, attributes := #[] }, { accessFlags := 25, nameIndex := 286, descriptorIndex := 25, attributes := #[] }, { accessFlags := 25, nameIndex := 288, descriptorIndex := 25, attributes := #[] }, { accessFlags := 25, nameIndex := 290, descriptorIndex := 25, attributes := #[] }, { accessFlags := 25, nameIndex := 292, descriptorIndex := 25, attributes := #[] }, { accessFlags := 26, nameIndex := 108, descriptorIndex := 109, attributes := #[] }, { accessFlags := 25, nameIndex := 294, descriptorIndex := 25, attributes := #[] }])
  fields := #[{ name := "U", type := (.object "jdk/internal/misc/Unsafe"), accessFlags := 24, slot := 0, constantValue := 0 }, { name := "BIG_ENDIAN", type := .boolean, accessFlags := 26, slot := 1, constantValue := 0 }, { name := "LOG2_ARRAY_BOOLEAN_INDEX_SCALE", type := .int, accessFlags := 25, slot := 2, constantValue := 0 }, { name := "LOG2_ARRAY_BYTE_INDEX_SCALE", type := .int, accessFlags := 25, slot := 3, constantValue := 0 }, { name := "LOG2_ARRAY_CHAR_INDEX_SCALE", type := .int, accessFlags := 25, slot := 4, constantValue := 0 }, { name := "LOG2_ARRAY_SHORT_INDEX_SCALE", type := .int, accessFlags := 25, slot := 5, constantValue := 0 }, { name := "LOG2_ARRAY_INT_INDEX_SCALE", type := .int, accessFlags := 25, slot := 6, constantValue := 0 }, { name := "LOG2_ARRAY_LONG_INDEX_SCALE", type := .int, accessFlags := 25, slot := 7, constantValue := 0 }, { name := "LOG2_ARRAY_FLOAT_INDEX_SCALE", type := .int, accessFlags := 25, slot := 8, constantValue := 0 }, { name := "LOG2_ARRAY_DOUBLE_INDEX_SCALE", type := .int, accessFlags := 25, slot := 9, constantValue := 0 }, { name := "LOG2_BYTE_BIT_SIZE", type := .int, accessFlags := 26, slot := 10, constantValue := 0 }, { name := "T_BOOLEAN", type := .int, accessFlags := 25, slot := 11, constantValue := 0 }, { name := "T_CHAR", type := .int, accessFlags := 25, slot := 12, constantValue := 0 }, { name := "T_FLOAT", type := .int, accessFlags := 25, slot := 13, constantValue := 0 }, { name := "T_DOUBLE", type := .int, accessFlags := 25, slot := 14, constantValue := 0 }, { name := "T_BYTE", type := .int, accessFlags := 25, slot := 15, constantValue := 0 }, { name := "T_SHORT", type := .int, accessFlags := 25, slot := 16, constantValue := 0 }, { name := "T_INT", type := .int, accessFlags := 25, slot := 17, constantValue := 0 }, { name := "T_LONG", type := .int, accessFlags := 25, slot := 18, constantValue := 0 }, { name := "JLA", type := (.object "jdk/internal/access/JavaLangAccess"), accessFlags := 26, slot := 19, constantValue := 0 }, { name := "SOFT_MAX_ARRAY_LENGTH", type := .int, accessFlags := 25, slot := 20, constantValue := 0 }]
  methods := #[k14m0]
  instanceTypes := #[]
  staticTypes := #[(.object "jdk/internal/misc/Unsafe"), .boolean, .int, .int, .int, .int, .int, .int, .int, .int, .int, .int, .int, .int, .int, .int, .int, .int, .int, (.object "jdk/internal/access/JavaLangAccess"), .int]
  resolved := Array.replicate 378 none
  statics := none }

def pool15 : Array CpInfo := pool [(1, u "java/lang/Cloneable"), (0, .class_ 1), (0, u "java/lang/Object"), (0, .class_ 3)] 3

/-- java/lang/Cloneable -/
def k15 : Class := { plain "java/lang/Cloneable" (some 0) with
  accessFlags := 1537
  interfaces := #[]
  cf := some (fileOf pool15 2 #[] #[] 1537 4 #[] #[])
  fields := #[]
  methods := #[]
  instanceTypes := #[]
  staticTypes := #[]
  resolved := Array.replicate 8 none
  statics := none }

/-- the primitive byte -/
def k16 : Class := { plain "byte" none with kind := .primitive 'B', accessFlags := 0x411 }
/-- [B -/
def k17 : Class := { plain "[B" (some 0) with kind := .array 16 .byte, interfaces := #[15, 2], accessFlags := 1041 }

/-- the primitive char -/
def k18 : Class := { plain "char" none with kind := .primitive 'C', accessFlags := 0x411 }
/-- [C -/
def k19 : Class := { plain "[C" (some 0) with kind := .array 18 .char, interfaces := #[15, 2], accessFlags := 1041 }

/-- the primitive int -/
def k20 : Class := { plain "int" none with kind := .primitive 'I', accessFlags := 0x411 }
/-- [I -/
def k21 : Class := { plain "[I" (some 0) with kind := .array 20 .int, interfaces := #[15, 2], accessFlags := 1041 }

def heap : Heap := #[{ cls := 7, slots := #[.long 0, .int 1, .null, .int 0, .null, .int 0, .int 0], vm := .statics 7 },
  { cls := 13, slots := #[.null, .null, .null], vm := .statics 13 }]
def classes : Array Class := #[k0, k1, k2, k3, k4, k5, k6, k7, k8, k9, k10, k11, k12, k13, k14, k15, k16, k17, k18, k19, k20, k21]
def interned : List (Array UInt16 × Addr) := []
def slotsUsed : Nat := 10
def theMethod : MethodId := ⟨1, 2⟩
def args0 : Array Value := #[.int 2, .int 7, .int 8, .int 9]
def aboutOver (below : List Frame) : State where
  vm := { classes := classes, interned := interned.toArray }
  heap := heap
  slotsUsed := slotsUsed
  threads := #[{ frames := .invoking theMethod args0 :: below }]
def below0 : List Frame := [.native { method := ⟨0, 0⟩, args := #[] }]
def about1 : State := aboutOver below0
def p0 : Program := .bare "" "" ""
def e0 : Env := launch0.env 0 0 0
theorem w_frames : about1.frames = Frame.invoking theMethod args0 :: below0 := rfl
set_option maxRecDepth 65536 in
theorem w_args : argsFit about1.vm theMethod args0 = true := by decide +kernel
set_option maxRecDepth 65536 in
theorem w_heap : heapFits about1 = true := by decide +kernel
set_option maxRecDepth 65536 in
theorem w_runnable : about1.curStatus? = some .runnable := by decide +kernel
set_option maxRecDepth 65536 in
theorem w_alone : about1.alone = true := by decide +kernel
set_option maxRecDepth 65536 in
theorem w_named : about1.methodNamed? x = some theMethod := by decide +kernel
set_option maxRecDepth 65536 in
theorem w_hears : about1.hears theMethod below0 = true := by decide +kernel
set_option maxRecDepth 65536 in
theorem w_ripe : about1.ripe theMethod args0 below0 = true := by decide +kernel
theorem w_running : about1.status = .running := rfl
set_option maxRecDepth 65536 in
theorem w_room : about1.hasRoom e0.platform room_1 = true :=
  launch0.hasRoom_least _ room_1 (by decide +kernel) (by decide +kernel) (by decide +kernel) (by decide +kernel) (by decide +kernel) (by decide +kernel)
theorem allAtoms_all (ts : List Jvm.Cond) (a : Array Jvm.Value) (st : Jvm.State) : (allAtoms ts).before a st = ts.all (fun c => c.before a st) := by
  induction ts with
  | nil => rfl
  | cons c t ih =>
    show (Jvm.Cond.and c (allAtoms t)).before a st = _
    rw [Jvm.Cond.before_and, ih, List.all_cons]
def words1 : List Jvm.Cond := Jvm.Cond.code x code maxLocals ret :: tables_1
/-- a 'code' word, met by the world's own term for the bytes: nothing is compared byte by byte -/
theorem code_word {y : MethodName} {bytes : ByteArray} {mx : Nat} {rt : Option FieldType} {a : Array Value} {s : State} {m : MethodId} {meth : Method} {c : Code} (h1 : s.methodNamed? y = some m) (h2 : s.vm.method? m = some meth) (h3 : meth.code = some c) (h4 : c.code = bytes)
    (h5 : (c.maxLocals == mx && c.exceptionTable.isEmpty && decide (c.maxStack ≤ mostOperands) && decide (meth.sig.returnType = rt) && !meth.locks && decide (parseMethodDescriptor y.desc = some meth.sig)) = true) : (Jvm.Cond.code y bytes mx rt).before a s = true := by
  simp only [Bool.and_eq_true, beq_iff_eq, Bool.not_eq_true', decide_eq_true_eq] at h5
  obtain ⟨⟨⟨⟨⟨g1, g2⟩, g3⟩, g4⟩, g5⟩, g6⟩ := h5
  simp [Cond.before, Cond.holds, Cond.value, h1, h2, h3, h4, g1, g2, g3, g4, g5, g6]
def isCode : Jvm.Cond → Bool
  | .code _ _ _ _ => true
  | _ => false
theorem all_split {L : List Jvm.Cond} {P : Jvm.Cond → Bool} (h1 : L.all (fun c => isCode c || P c) = true) (h2 : ∀ c ∈ L.filter isCode, P c = true) : L.all P = true := by
  refine List.all_eq_true.mpr fun c hc => ?_
  have h := List.all_eq_true.mp h1 c hc
  rcases Bool.eq_false_or_eq_true (isCode c) with hi | hi
  · exact h2 c (List.mem_filter.mpr ⟨hc, hi⟩)
  · simpa [hi] using h
set_option maxRecDepth 65536 in
theorem w_c0 : (Jvm.Cond.code x code maxLocals ret).before args0 about1 = true := code_word (m := ⟨1, 2⟩) (meth := k1m2) (c := k1c2) (by decide +kernel) rfl rfl rfl (by decide +kernel)
set_option maxRecDepth 65536 in
theorem w_c1 : (Jvm.Cond.code ({ cls := "com/example/cicada/cicada/engine/GroupWithDefaultsPinLaw", name := "drawName", desc := "(IIII)Ljava/lang/String;" } : Jvm.MethodName) method_2_code (9 : Nat) (Option.some (Jvm.ClassFile.FieldType.object "java/lang/String"))).before args0 about1 = true := code_word (m := ⟨1, 1⟩) (meth := k1m1) (c := k1c1) (by decide +kernel) rfl rfl rfl (by decide +kernel)
set_option maxRecDepth 65536 in
theorem w_c2 : (Jvm.Cond.code ({ cls := "java/lang/String", name := "<init>", desc := "([C)V" } : Jvm.MethodName) jdk_42_method_3_code (2 : Nat) (Option.none : Option Jvm.ClassFile.FieldType)).before args0 about1 = true := code_word (m := ⟨7, 1⟩) (meth := k7m1) (c := k7c1) (by decide +kernel) rfl rfl rfl (by decide +kernel)
set_option maxRecDepth 65536 in
theorem w_c3 : (Jvm.Cond.code ({ cls := "java/lang/String", name := "<init>", desc := "([CIILjava/lang/Void;)V" } : Jvm.MethodName) jdk_42_method_149_code (6 : Nat) (Option.none : Option Jvm.ClassFile.FieldType)).before args0 about1 = true := code_word (m := ⟨7, 4⟩) (meth := k7m4) (c := k7c4) (by decide +kernel) rfl rfl rfl (by decide +kernel)
set_option maxRecDepth 65536 in
theorem w_c4 : (Jvm.Cond.code ({ cls := "java/lang/Object", name := "<init>", desc := "()V" } : Jvm.MethodName) object_method_1_code (1 : Nat) (Option.none : Option Jvm.ClassFile.FieldType)).before args0 about1 = true := code_word (m := ⟨0, 0⟩) (meth := k0m0) (c := k0c0) (by decide +kernel) rfl rfl rfl (by decide +kernel)
set_option maxRecDepth 65536 in
theorem w_c5 : (Jvm.Cond.code ({ cls := "com/example/cicada/cicada/engine/Group", name := "withDefaults", desc := "(Ljava/lang/String;)Lcom/example/cicada/cicada/engine/Group;" } : Jvm.MethodName) prog_8_method_2_code (1 : Nat) (Option.some (Jvm.ClassFile.FieldType.object "com/example/cicada/cicada/engine/Group"))).before args0 about1 = true := code_word (m := ⟨9, 1⟩) (meth := k9m1) (c := k9c1) (by decide +kernel) rfl rfl rfl (by decide +kernel)
set_option maxRecDepth 65536 in
theorem w_c6 : (Jvm.Cond.code ({ cls := "com/example/cicada/cicada/engine/Group", name := "<init>", desc := "(Ljava/lang/String;ZI)V" } : Jvm.MethodName) prog_8_method_1_code (4 : Nat) (Option.none : Option Jvm.ClassFile.FieldType)).before args0 about1 = true := code_word (m := ⟨9, 0⟩) (meth := k9m0) (c := k9c0) (by decide +kernel) rfl rfl rfl (by decide +kernel)
set_option maxRecDepth 65536 in
theorem w_c7 : (Jvm.Cond.code ({ cls := "java/lang/Record", name := "<init>", desc := "()V" } : Jvm.MethodName) jdk_30_method_1_code (1 : Nat) (Option.none : Option Jvm.ClassFile.FieldType)).before args0 about1 = true := code_word (m := ⟨8, 0⟩) (meth := k8m0) (c := k8c0) (by decide +kernel) rfl rfl rfl (by decide +kernel)
set_option maxRecDepth 65536 in
theorem w_c8 : (Jvm.Cond.code ({ cls := "java/util/Objects", name := "requireNonNull", desc := "(Ljava/lang/Object;Ljava/lang/String;)Ljava/lang/Object;" } : Jvm.MethodName) jdk_31_method_11_code (2 : Nat) (Option.some (Jvm.ClassFile.FieldType.object "java/lang/Object"))).before args0 about1 = true := code_word (m := ⟨10, 1⟩) (meth := k10m1) (c := k10c1) (by decide +kernel) rfl rfl rfl (by decide +kernel)
set_option maxRecDepth 65536 in
theorem w_c9 : (Jvm.Cond.code ({ cls := "com/example/cicada/cicada/engine/Group", name := "name", desc := "()Ljava/lang/String;" } : Jvm.MethodName) prog_8_method_8_code (1 : Nat) (Option.some (Jvm.ClassFile.FieldType.object "java/lang/String"))).before args0 about1 = true := code_word (m := ⟨9, 3⟩) (meth := k9m3) (c := k9c3) (by decide +kernel) rfl rfl rfl (by decide +kernel)
set_option maxRecDepth 65536 in
theorem w_c10 : (Jvm.Cond.code ({ cls := "java/lang/String", name := "equals", desc := "(Ljava/lang/Object;)Z" } : Jvm.MethodName) jdk_42_method_66_code (3 : Nat) (Option.some Jvm.ClassFile.FieldType.boolean)).before args0 about1 = true := code_word (m := ⟨7, 3⟩) (meth := k7m3) (c := k7c3) (by decide +kernel) rfl rfl rfl (by decide +kernel)
set_option maxRecDepth 65536 in
theorem w_c11 : (Jvm.Cond.code ({ cls := "java/lang/String", name := "length", desc := "()I" } : Jvm.MethodName) jdk_42_method_54_code (1 : Nat) (Option.some Jvm.ClassFile.FieldType.int)).before args0 about1 = true := code_word (m := ⟨7, 2⟩) (meth := k7m2) (c := k7c2) (by decide +kernel) rfl rfl rfl (by decide +kernel)
set_option maxRecDepth 65536 in
theorem w_c12 : (Jvm.Cond.code ({ cls := "java/lang/String", name := "coder", desc := "()B" } : Jvm.MethodName) jdk_42_method_152_code (1 : Nat) (Option.some Jvm.ClassFile.FieldType.byte)).before args0 about1 = true := code_word (m := ⟨7, 5⟩) (meth := k7m5) (c := k7c5) (by decide +kernel) rfl rfl rfl (by decide +kernel)
set_option maxRecDepth 65536 in
theorem w_c13 : (Jvm.Cond.code ({ cls := "com/example/cicada/cicada/engine/Group", name := "fifo", desc := "()Z" } : Jvm.MethodName) prog_8_method_9_code (1 : Nat) (Option.some Jvm.ClassFile.FieldType.boolean)).before args0 about1 = true := code_word (m := ⟨9, 4⟩) (meth := k9m4) (c := k9c4) (by decide +kernel) rfl rfl rfl (by decide +kernel)
set_option maxRecDepth 65536 in
theorem w_c14 : (Jvm.Cond.code ({ cls := "com/example/cicada/cicada/engine/Group", name := "maxRetries", desc := "()I" } : Jvm.MethodName) prog_8_method_10_code (1 : Nat) (Option.some Jvm.ClassFile.FieldType.int)).before args0 about1 = true := code_word (m := ⟨9, 5⟩) (meth := k9m5) (c := k9c5) (by decide +kernel) rfl rfl rfl (by decide +kernel)
set_option maxRecDepth 65536 in
theorem w_c15 : (Jvm.Cond.code ({ cls := "com/example/cicada/cicada/engine/Group", name := "maxAttempts", desc := "()I" } : Jvm.MethodName) prog_8_method_3_code (1 : Nat) (Option.some Jvm.ClassFile.FieldType.int)).before args0 about1 = true := code_word (m := ⟨9, 2⟩) (meth := k9m2) (c := k9c2) (by decide +kernel) rfl rfl rfl (by decide +kernel)
set_option maxRecDepth 65536 in
theorem w_c16 : (Jvm.Cond.code ({ cls := "java/lang/StringUTF16", name := "compress", desc := "([CII)[B" } : Jvm.MethodName) jdk_52_method_16_code (6 : Nat) (Option.some (Jvm.ClassFile.FieldType.array Jvm.ClassFile.FieldType.byte))).before args0 about1 = true := code_word (m := ⟨11, 2⟩) (meth := k11m2) (c := k11c2) (by decide +kernel) rfl rfl rfl (by decide +kernel)
set_option maxRecDepth 65536 in
theorem w_c17 : (Jvm.Cond.code ({ cls := "java/lang/StringUTF16", name := "compress", desc := "([CI[BII)I" } : Jvm.MethodName) jdk_52_method_21_code (7 : Nat) (Option.some Jvm.ClassFile.FieldType.int)).before args0 about1 = true := code_word (m := ⟨11, 3⟩) (meth := k11m3) (c := k11c3) (by decide +kernel) rfl rfl rfl (by decide +kernel)
set_option maxRecDepth 65536 in
theorem w_c18 : (Jvm.Cond.code ({ cls := "java/lang/StringUTF16", name := "coderFromArrayLen", desc := "([BI)B" } : Jvm.MethodName) jdk_52_method_15_code (2 : Nat) (Option.some Jvm.ClassFile.FieldType.byte)).before args0 about1 = true := code_word (m := ⟨11, 1⟩) (meth := k11m1) (c := k11c1) (by decide +kernel) rfl rfl rfl (by decide +kernel)
def codes1 : List Jvm.Cond := [Jvm.Cond.code x code maxLocals ret, Jvm.Cond.code ({ cls := "com/example/cicada/cicada/engine/GroupWithDefaultsPinLaw", name := "drawName", desc := "(IIII)Ljava/lang/String;" } : Jvm.MethodName) method_2_code (9 : Nat) (Option.some (Jvm.ClassFile.FieldType.object "java/lang/String")), Jvm.Cond.code ({ cls := "java/lang/String", name := "<init>", desc := "([C)V" } : Jvm.MethodName) jdk_42_method_3_code (2 : Nat) (Option.none : Option Jvm.ClassFile.FieldType), Jvm.Cond.code ({ cls := "java/lang/String", name := "<init>", desc := "([CIILjava/lang/Void;)V" } : Jvm.MethodName) jdk_42_method_149_code (6 : Nat) (Option.none : Option Jvm.ClassFile.FieldType), Jvm.Cond.code ({ cls := "java/lang/Object", name := "<init>", desc := "()V" } : Jvm.MethodName) object_method_1_code (1 : Nat) (Option.none : Option Jvm.ClassFile.FieldType), Jvm.Cond.code ({ cls := "com/example/cicada/cicada/engine/Group", name := "withDefaults", desc := "(Ljava/lang/String;)Lcom/example/cicada/cicada/engine/Group;" } : Jvm.MethodName) prog_8_method_2_code (1 : Nat) (Option.some (Jvm.ClassFile.FieldType.object "com/example/cicada/cicada/engine/Group")), Jvm.Cond.code ({ cls := "com/example/cicada/cicada/engine/Group", name := "<init>", desc := "(Ljava/lang/String;ZI)V" } : Jvm.MethodName) prog_8_method_1_code (4 : Nat) (Option.none : Option Jvm.ClassFile.FieldType), Jvm.Cond.code ({ cls := "java/lang/Record", name := "<init>", desc := "()V" } : Jvm.MethodName) jdk_30_method_1_code (1 : Nat) (Option.none : Option Jvm.ClassFile.FieldType), Jvm.Cond.code ({ cls := "java/util/Objects", name := "requireNonNull", desc := "(Ljava/lang/Object;Ljava/lang/String;)Ljava/lang/Object;" } : Jvm.MethodName) jdk_31_method_11_code (2 : Nat) (Option.some (Jvm.ClassFile.FieldType.object "java/lang/Object")), Jvm.Cond.code ({ cls := "com/example/cicada/cicada/engine/Group", name := "name", desc := "()Ljava/lang/String;" } : Jvm.MethodName) prog_8_method_8_code (1 : Nat) (Option.some (Jvm.ClassFile.FieldType.object "java/lang/String")), Jvm.Cond.code ({ cls := "java/lang/String", name := "equals", desc := "(Ljava/lang/Object;)Z" } : Jvm.MethodName) jdk_42_method_66_code (3 : Nat) (Option.some Jvm.ClassFile.FieldType.boolean), Jvm.Cond.code ({ cls := "java/lang/String", name := "length", desc := "()I" } : Jvm.MethodName) jdk_42_method_54_code (1 : Nat) (Option.some Jvm.ClassFile.FieldType.int), Jvm.Cond.code ({ cls := "java/lang/String", name := "coder", desc := "()B" } : Jvm.MethodName) jdk_42_method_152_code (1 : Nat) (Option.some Jvm.ClassFile.FieldType.byte), Jvm.Cond.code ({ cls := "com/example/cicada/cicada/engine/Group", name := "fifo", desc := "()Z" } : Jvm.MethodName) prog_8_method_9_code (1 : Nat) (Option.some Jvm.ClassFile.FieldType.boolean), Jvm.Cond.code ({ cls := "com/example/cicada/cicada/engine/Group", name := "maxRetries", desc := "()I" } : Jvm.MethodName) prog_8_method_10_code (1 : Nat) (Option.some Jvm.ClassFile.FieldType.int), Jvm.Cond.code ({ cls := "com/example/cicada/cicada/engine/Group", name := "maxAttempts", desc := "()I" } : Jvm.MethodName) prog_8_method_3_code (1 : Nat) (Option.some Jvm.ClassFile.FieldType.int), Jvm.Cond.code ({ cls := "java/lang/StringUTF16", name := "compress", desc := "([CII)[B" } : Jvm.MethodName) jdk_52_method_16_code (6 : Nat) (Option.some (Jvm.ClassFile.FieldType.array Jvm.ClassFile.FieldType.byte)), Jvm.Cond.code ({ cls := "java/lang/StringUTF16", name := "compress", desc := "([CI[BII)I" } : Jvm.MethodName) jdk_52_method_21_code (7 : Nat) (Option.some Jvm.ClassFile.FieldType.int), Jvm.Cond.code ({ cls := "java/lang/StringUTF16", name := "coderFromArrayLen", desc := "([BI)B" } : Jvm.MethodName) jdk_52_method_15_code (2 : Nat) (Option.some Jvm.ClassFile.FieldType.byte)]
set_option maxRecDepth 65536 in
theorem codes_eq : words1.filter isCode = codes1 := rfl
theorem w_codes : ∀ c ∈ words1.filter isCode, c.before args0 about1 = true := by
  rw [codes_eq]
  intro c hc
  simp only [codes1, List.mem_cons, List.not_mem_nil, or_false] at hc
  rcases hc with rfl | rfl | rfl | rfl | rfl | rfl | rfl | rfl | rfl | rfl | rfl | rfl | rfl | rfl | rfl | rfl | rfl | rfl | rfl
  · exact w_c0
  · exact w_c1
  · exact w_c2
  · exact w_c3
  · exact w_c4
  · exact w_c5
  · exact w_c6
  · exact w_c7
  · exact w_c8
  · exact w_c9
  · exact w_c10
  · exact w_c11
  · exact w_c12
  · exact w_c13
  · exact w_c14
  · exact w_c15
  · exact w_c16
  · exact w_c17
  · exact w_c18
set_option maxRecDepth 65536 in
theorem w_t1 : (words1.take 24).all (fun c => isCode c || c.before args0 about1) = true := by decide +kernel
set_option maxRecDepth 65536 in
theorem w_t2 : ((words1.drop 24).take 24).all (fun c => isCode c || c.before args0 about1) = true := by decide +kernel
set_option maxRecDepth 65536 in
theorem w_t3 : (((words1.drop 24).drop 24).take 24).all (fun c => isCode c || c.before args0 about1) = true := by decide +kernel
set_option maxRecDepth 65536 in
theorem w_t4 : ((((words1.drop 24).drop 24).drop 24).take 24).all (fun c => isCode c || c.before args0 about1) = true := by decide +kernel
set_option maxRecDepth 65536 in
theorem w_t5 : ((((words1.drop 24).drop 24).drop 24).drop 24).all (fun c => isCode c || c.before args0 about1) = true := by decide +kernel
theorem w_tables : (allAtoms (Jvm.Cond.code x code maxLocals ret :: tables_1)).before args0 about1 = true := by
  rw [allAtoms_all]
  show words1.all (fun c => c.before args0 about1) = true
  refine all_split ?_ w_codes
  rw [← List.take_append_drop 24 words1, List.all_append, w_t1, ← List.take_append_drop 24 (words1.drop 24), List.all_append, w_t2, ← List.take_append_drop 24 ((words1.drop 24).drop 24), List.all_append, w_t3, ← List.take_append_drop 24 (((words1.drop 24).drop 24).drop 24), List.all_append, w_t4, w_t5]
  rfl
set_option maxRecDepth 65536 in
theorem w_rest : rest_1_c.before args0 about1 = true := by decide +kernel
set_option maxRecDepth 65536 in
theorem w_case : (Jvm.Cond.and given_1 narrow_1).before args0 about1 = true := by decide +kernel
set_option maxRecDepth 65536 in
theorem w_consts : constsHeld consts_1 about1 := Jvm.Lit.constsHeldB_iff.mp (by decide +kernel)
theorem w_applies : (headSpec (Jvm.Cond.code x code maxLocals ret :: tables_1) room_1).applies x e0.platform about1 = true :=
  (Spec.applies_iff w_frames).mpr ⟨w_running, w_runnable, w_alone, w_named, w_hears, w_ripe, w_room, w_tables⟩
theorem atStart : AtStart classFile x code maxLocals ret World_1 tables_1 room_1 Calls_1 rest_1 Pre_1 launch0 p0 e0 about1 theMethod args0 below0 :=
  ⟨lists_1, trivial, launch0.admits_env _ _ _, launch0.least_env, fairChoices_fair.cas, fairChoices_fair.clock, w_frames, w_args, w_heap, w_applies, ⟨w_consts, trivial⟩, w_rest, w_case⟩
end start1
theorem witness_1 : WitnessClaimed_1 := ⟨start1.p0, start1.e0, start1.about1, start1.theMethod, start1.args0, start1.below0, start1.atStart⟩
end Jvm.Pilot.@@N@@
