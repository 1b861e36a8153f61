import JvmDerived
import JvmDerived.Pilot.@@N@@Statement
import JvmDerived.Pilot.@@N@@Code
set_option linter.unusedVariables false
set_option linter.unusedSimpArgs false
@@BLOCK:NumsL.lean.txt@@
namespace Jvm.Pilot.@@N@@
open Jvm Jvm.ClassFile Sem Op Lib Jvm.Free Jvm.Stand Jvm.LawKit Jvm.RoadKit Bundle Jvm.Pilot.@@N@@.Jvm.D
section Own
variable {p : Program} {l : Launch} {e : Env} {R : Room} {s : State} {m : MethodId} {args : Array Value} {below : List Frame} {meth : Method} {c : Code} {T : State} {locs : List Loc} {cells slots : Nat} {Z : State} {a0 : Array Value} {h : Heap}
/-- from t the run comes to an end that P speaks of -/
def Goes (p : Program) (e : Env) (below : List Frame) (P : State → Outcome → Prop) (t : State) : Prop :=
  ∃ s₂ o, Steps p.tables e below t s₂ ∧ s₂.status = .running ∧ Ended s₂ below o ∧ P s₂ o
/-- it returned, what Q says, and the frame -/
def Aim (s : State) (Q : Option Value → Heap → List Loc → Prop) (k n : Nat) (s₂ : State) (o : Outcome) : Prop :=
  ∃ v L, o = .returned v ∧ Q v s₂.heap L ∧ FrameEnd s o s₂ L k n
theorem Goes.step {P : State → Outcome → Prop} {t t' : State} (st : ∀ tgt, Steps p.tables e below t' tgt → Steps p.tables e below t tgt) (q : Goes p e below P t') : Goes p e below P t := by
  obtain ⟨s₂, o, k, r⟩ := q
  exact ⟨s₂, o, st _ k, r⟩
theorem Goes.tr {P : State → Outcome → Prop} {t t' : State} (st : Steps p.tables e below t t') (q : Goes p e below P t') : Goes p e below P t := by
  obtain ⟨s₂, o, k, r⟩ := q
  exact ⟨s₂, o, st.trans k, r⟩
theorem Goes.retN (X : Stand p l e R s m args below meth c T locs cells slots) (hx : p.tables.exec = Jvm.exec) (hlk : meth.locks = false) {t : FieldType} (hret : meth.sig.returnType = some t) (ht : t = .boolean ∨ t = .byte ∨ t = .char ∨ t = .short) {pc : Nat} {Ls : Array Slot} {z : Int32} {rest : List Value}
    (hd : decode c.code pc = .ok (.ireturn, 1)) {Q : Option Value → Heap → List Loc → Prop} {k n : Nat} (hk : cells ≤ k) (hn : slots ≤ n) (hQ : Q (some (.int (nar t z))) T.heap locs) :
    Goes p e below (Aim s Q k n) (T.setTop (mkF m pc Ls (.int z :: rest))) := by
  obtain ⟨fs, hr, hrun, hended, hW, hsame⟩ := X.leave (v := some (.int (nar t z))) (fun h => by rw [hret] at h; cases h) hlk
  exact ⟨_, _, Jvm.RoadKit.retN X hx hret ht hd hr, hrun, hended, _, _, rfl, hQ, ⟨_, rfl⟩, hW, hsame.mono hk hn⟩
theorem Goes.ret (X : Stand p l e R s m args below meth c T locs cells slots) (hx : p.tables.exec = Jvm.exec) (hlk : meth.locks = false) {t : FieldType} (hret : meth.sig.returnType = some t) {w : Value} (hnr : narrow t w = w) {i : Instr} {pc : Nat} {Ls : Array Slot} {rest : List Value}
    (hi : (i = .ireturn ∧ (t = .int ∨ t = .boolean ∨ t = .byte ∨ t = .char ∨ t = .short) ∧ ∃ z, w = .int z) ∨ (i = .lreturn ∧ t = .long ∧ ∃ z, w = .long z) ∨ (i = .dreturn ∧ t = .double ∧ ∃ z, w = .double z) ∨ (i = .freturn ∧ t = .float ∧ ∃ z, w = .float z) ∨ (i = .areturn ∧ t.isReference = true ∧ w.isRef = true))
    (hd : decode c.code pc = .ok (i, 1)) {Q : Option Value → Heap → List Loc → Prop} {k n : Nat} (hk : cells ≤ k) (hn : slots ≤ n) (hQ : Q (some w) T.heap locs) :
    Goes p e below (Aim s Q k n) (T.setTop (mkF m pc Ls (w :: rest))) := by
  obtain ⟨fs, hr, hrun, hended, hW, hsame⟩ := X.leave (v := some w) (fun h => by rw [hret] at h; cases h) hlk
  exact ⟨_, _, Jvm.RoadKit.retOut X hx hret hnr hi hd hr, hrun, hended, _, _, rfl, hQ, ⟨_, rfl⟩, hW, hsame.mono hk hn⟩
theorem Goes.ret0 (X : Stand p l e R s m args below meth c T locs cells slots) (hx : p.tables.exec = Jvm.exec) (hlk : meth.locks = false) (hret : meth.sig.returnType = none) {pc : Nat} {Ls : Array Slot}
    (hd : decode c.code pc = .ok (.return_, 1)) {Q : Option Value → Heap → List Loc → Prop} {k n : Nat} (hk : cells ≤ k) (hn : slots ≤ n) (hQ : Q none T.heap locs) :
    Goes p e below (Aim s Q k n) (T.setTop (mkF m pc Ls [])) := by
  obtain ⟨fs, hr, hrun, hended, hW, hsame⟩ := X.leave (v := none) (fun _ => rfl) hlk
  exact ⟨_, _, X.returnOut hx hret hd hr, hrun, hended, _, _, rfl, hQ, ⟨_, rfl⟩, hW, hsame.mono hk hn⟩
/-- a body's contract: called with these arguments over the heap h0 it returns, and Q says what it leaves -/
def Con (l : Launch) (Z : State) (y : MethodName) (bytes : ByteArray) (maxL : Nat) (ret : Option FieldType) (rm : Room) (as : Array Value) (h0 : Heap) (Q : Option Value → Heap → List Loc → Prop) : Prop :=
  ∀ ws : List Jvm.Cond, MetFree l y (head1 (Jvm.Cond.code y bytes maxL ret :: ws) rm) (fun a U => a = as ∧ Z.Warmed39 U.vm ∧ U.heap = h0) (fun _ _ _ _ _ => True) (fun _ U o U' => ∃ v L, o = .returned v ∧ Q v U'.heap L ∧ FrameEnd U o U' L rm.cells rm.slots)
theorem Con.body {y : MethodName} {bytes : ByteArray} {maxL : Nat} {ret : Option FieldType} {rm : Room} {as : Array Value} {h0 : Heap} {Q : Option Value → Heap → List Loc → Prop} (hp : plainFor y = true)
    (H : ∀ (p : Program) (e : Env) (s : State) (m : MethodId) (below : List Frame) (meth : Method) (c : Code) (s₁ : State), p.tables.exec = Jvm.exec → c.code = bytes → c.maxLocals = maxL → Z.Warmed39 s.vm → s.vm.findClass y.cls = some m.cls → meth.name = y.name → meth.sig.returnType = ret → meth.locks = false →
      Stand p l e rm s m as below meth c s₁ [] 0 0 → s₁.heap = h0 → Goes p e below (Aim s Q rm.cells rm.slots) (s₁.setTop (entryFrame m as maxL))) :
    Con l Z y bytes maxL ret rm as h0 Q := by
  intro ws
  refine MetFree.of_bodySF hp hisR ?_
  intro p e s m args below meth c s₁ Bd hml0 hP hK
  obtain ⟨rfl, hZ, hh⟩ := hP
  exact H p e s m below meth c s₁ Bd.exec Bd.bytes hml0 hZ (findClass_of_methodNamed Bd.named) (name_of_methodNamed Bd.named Bd.method).1 Bd.returns Bd.notSynchronized (Stand.of_body Bd) (by rw [← hh, Bd.state]; rfl)
theorem Goes.callS (X : Stand p l e R s m args below meth c T locs cells slots) (hx : p.tables.exec = Jvm.exec) (hZ : Z.Warmed39 s.vm) {own : String} {index : Nat} {y : MethodName} {bytes : ByteArray} {maxL : Nat} {ret : Option FieldType} {rm : Room} {as : List Value} {Q : Option Value → Heap → List Loc → Prop} (hown : s.vm.findClass own = some m.cls)
    (w1 : (Jvm.Cond.methodLink own index y).before a0 Z = true) (w2 : (Jvm.Cond.static y).before a0 Z = true) (w3 : (Jvm.Cond.initialized y.cls).before a0 Z = true) (w4 : (Jvm.Cond.code y bytes maxL ret).before a0 Z = true) (hy : y.cls ≠ "java/lang/invoke/MethodHandle" ∧ y.cls ≠ "java/lang/invoke/VarHandle")
    (eT : T.heap = h) (hM : Con l Z y bytes maxL ret rm as.toArray h Q) {W : Nat} (hf : rm.frames + 1 ≤ R.frames) (hl : W + (maxL + 11) + rm.locals ≤ R.locals) (hc : cells + rm.cells ≤ R.cells) (hs : slots + rm.slots ≤ R.slots)
    {g : JFrame} (hg : g.method = m) (hsize : g.locals.size = c.maxLocals) {rest : List Value} {ps : List FieldType} {r : Option FieldType} (hd : parseMethodDescriptor y.desc = some ⟨ps, r⟩) (hlen : as.length = ps.length) (hstack : g.stack = as.reverse ++ rest) (hW : 2 * g.monitorRoom + (rest.map fun v => v.category).sum ≤ W) (hdg : decode c.code g.pc = .ok (.invokestatic index, 3))
    {P : State → Outcome → Prop} (k : ∀ v T' L, Stand p l e R s m args below meth c T' (locs ++ L) (cells + rm.cells) (slots + rm.slots) → Q v T'.heap L → Goes p e below P (T'.setTop { g with pc := g.pc + 3, stack := v.toList ++ rest })) :
    Goes p e below P (T.setTop g) := by
  obtain ⟨v, vm₁, ⟨T', L', k', n'⟩, -, X', ⟨L, hQ, l', y', z'⟩, st⟩ := Jvm.LawKit.callS X hx hown (mvT hZ w1) (mvT hZ w2) (mvT hZ w3) (mvT hZ w4) hy (backOf (W := W) (hM []) hZ w4 w3 hf hl) (g := g) hg hsize (argsL := as) (rest := rest) (lenOf hd hlen) hstack hW hdg (fun _ _ => ⟨rfl, eT, hc, hs⟩)
  try dsimp only at X' hQ l' y' z' st
  subst l' y' z'
  exact Goes.step st (k v T' L X' hQ)
theorem Goes.callV (X : Stand p l e R s m args below meth c T locs cells slots) (hx : p.tables.exec = Jvm.exec) (hZ : Z.Warmed39 s.vm) {own C : String} {index : Nat} {y z : MethodName} {bytes : ByteArray} {maxL : Nat} {ret : Option FieldType} {rm : Room} {as : List Value} {Q : Option Value → Heap → List Loc → Prop} (hown : s.vm.findClass own = some m.cls)
    (w1 : (Jvm.Cond.methodLink own index y).before a0 Z = true) (w2 : (Jvm.Cond.declares y).before a0 Z = true) (hnf : NotFace s y) (w3 : (Jvm.Cond.selects C y z).before a0 Z = true) (w4 : (Jvm.Cond.instanceMethod z).before a0 Z = true) (w5 : (Jvm.Cond.code z bytes maxL ret).before a0 Z = true) (w6 : (Jvm.Cond.initialized z.cls).before a0 Z = true) (hy : y.cls ≠ "java/lang/invoke/MethodHandle" ∧ y.cls ≠ "java/lang/invoke/VarHandle")
    (eT : T.heap = h) {b : Addr} (E : Exa Z h b C) (hM : Con l Z z bytes maxL ret rm (.ref b :: as).toArray h Q) {W : Nat} (hf : rm.frames + 1 ≤ R.frames) (hl : W + (maxL + 11) + rm.locals ≤ R.locals) (hc : cells + rm.cells ≤ R.cells) (hs : slots + rm.slots ≤ R.slots)
    {g : JFrame} (hg : g.method = m) (hsize : g.locals.size = c.maxLocals) {rest : List Value} {ps : List FieldType} {r : Option FieldType} (hd : parseMethodDescriptor y.desc = some ⟨ps, r⟩) (hlen : as.length = ps.length) (hstack : g.stack = as.reverse ++ .ref b :: rest) (hW : 2 * g.monitorRoom + (rest.map fun v => v.category).sum ≤ W) (hdg : decode c.code g.pc = .ok (.invokevirtual index, 3))
    {P : State → Outcome → Prop} (k : ∀ v T' L, Stand p l e R s m args below meth c T' (locs ++ L) (cells + rm.cells) (slots + rm.slots) → Q v T'.heap L → Goes p e below P (T'.setTop { g with pc := g.pc + 3, stack := v.toList ++ rest })) :
    Goes p e below P (T.setTop g) := by
  obtain ⟨cB, kB, q1, -, q3⟩ := isOf hZ eT E
  obtain ⟨v, vm₁, ⟨T', L', k', n'⟩, -, X', ⟨L, hQ, l', y', z'⟩, st⟩ := X.virtualBack hx (y := y) (z := z) hown (mvT hZ w1) (mvT hZ w2) hnf (mvT hZ w3) (mvT hZ w4) hy (backOf (W := W) (hM []) hZ w5 w6 hf hl) q1 q3 (g := g) hg hsize (Steps.refl _) (argsL := as) (rest := rest) (lenOf hd hlen) hstack hW hdg (fun _ _ => ⟨rfl, eT, hc, hs⟩)
  try dsimp only at X' hQ l' y' z' st
  subst l' y' z'
  exact Goes.tr st (k v T' L X' hQ)
theorem Goes.callI (X : Stand p l e R s m args below meth c T locs cells slots) (hx : p.tables.exec = Jvm.exec) (hZ : Z.Warmed39 s.vm) {own : String} {index : Nat} {y : MethodName} {bytes : ByteArray} {maxL : Nat} {rm : Room} {as : List Value} {Q : Option Value → Heap → List Loc → Prop} (hy1 : y.name = "<init>") (hown : s.vm.findClass own = some m.cls)
    (w1 : (Jvm.Cond.methodLink own index y).before a0 Z = true) (w2 : (Jvm.Cond.instanceMethod y).before a0 Z = true) (w3 : (Jvm.Cond.code y bytes maxL none).before a0 Z = true) (w4 : (Jvm.Cond.initialized y.cls).before a0 Z = true) (hy : y.cls ≠ "java/lang/invoke/MethodHandle" ∧ y.cls ≠ "java/lang/invoke/VarHandle")
    (eT : T.heap = h) {b : Addr} (hM : Con l Z y bytes maxL none rm (.ref b :: as).toArray h Q) {W : Nat} (hf : rm.frames + 1 ≤ R.frames) (hl : W + (maxL + 11) + rm.locals ≤ R.locals) (hc : cells + rm.cells ≤ R.cells) (hs : slots + rm.slots ≤ R.slots)
    {g : JFrame} (hg : g.method = m) (hsize : g.locals.size = c.maxLocals) {rest : List Value} {ps : List FieldType} {r : Option FieldType} (hd : parseMethodDescriptor y.desc = some ⟨ps, r⟩) (hlen : as.length = ps.length) (hstack : g.stack = as.reverse ++ .ref b :: rest) (hW : 2 * g.monitorRoom + (rest.map fun v => v.category).sum ≤ W) (hdg : decode c.code g.pc = .ok (.invokespecial index, 3))
    {P : State → Outcome → Prop} (k : ∀ v T' L, Stand p l e R s m args below meth c T' (locs ++ L) (cells + rm.cells) (slots + rm.slots) → Q v T'.heap L → Goes p e below P (T'.setTop { g with pc := g.pc + 3, stack := v.toList ++ rest })) :
    Goes p e below P (T.setTop g) := by
  obtain ⟨v, vm₁, ⟨T', L', k', n'⟩, -, X', ⟨L, hQ, l', y', z'⟩, st⟩ := X.specialBack hx (y := y) hy1 hown (mvT hZ w1) (mvT hZ w2) (mvT hZ w3) hy (backOf (W := W) (hM []) hZ w3 w4 hf hl) (g := g) hg hsize (Steps.refl _) (a := b) (argsL := as) (rest := rest) (lenOf hd hlen) hstack hW hdg (fun _ _ => ⟨rfl, eT, hc, hs⟩)
  try dsimp only at X' hQ l' y' z' st
  subst l' y' z'
  exact Goes.tr st (k v T' L X' hQ)
theorem own_refR {v : Value} (h : v.isRef = true) : v = .null ∨ ∃ a, v = .ref a := by
  cases v <;> first | exact Or.inl rfl | exact Or.inr ⟨_, rfl⟩ | cases h
theorem jlt {a b : Int64} : lcmpW a b < 0 ↔ a < b := by rw [lcW]; exact lc_lt a b
theorem jgt {a b : Int64} : 0 < lcmpW a b ↔ b < a := by rw [lcW]; exact lc_gt a b
theorem jeq {a b : Int64} : lcmpW a b = 0 ↔ a = b := by rw [lcW]; exact lc_eq a b
end Own
section OwnHeap
variable {p : Program} {l : Launch} {e : Env} {R : Room} {s : State} {m : MethodId} {args : Array Value} {below : List Frame} {meth : Method} {c : Code} {T : State} {locs : List Loc} {cells slots : Nat} {Z : State} {a0 : Array Value} {h h' : Heap} {a b : Addr} {ty : FieldType} {n : Nat} {f f' : Nat → Value} {sl : Nat} {v : Value} {ws : List Addr}
theorem own_ix {j : Int32} {i n : Nat} (hj : j.toInt = (i : Int)) (hi : i < n) : ¬ (j < 0 ∨ n ≤ j.toNatClampNeg) := by
  simp only [Int32.lt_iff_toInt_lt, Int32.toNatClampNeg, hj, Int32.reduceToInt]; omega
theorem own_ixn {j : Int32} {i : Nat} (hj : j.toInt = (i : Int)) : j.toNatClampNeg = i := by
  simp only [Int32.toNatClampNeg, hj]; omega
/-- the array at a holds n places, the i-th f i -/
def Afn (Z : State) (h : Heap) (a : Addr) (ty : FieldType) (n : Nat) (f : Nat → Value) : Prop :=
  ∃ c : Cell, Arr Z h a c ty ∧ c.slots.size = n ∧ n < 2 ^ 31 ∧ (∀ i, i < n → c.slots[i]? = some (f i)) ∧ ∀ i, i < n → fits ty (f i) = true
theorem Afn.lt (F : Afn Z h a ty n f) : a < h.size := by obtain ⟨c, A, -⟩ := F; exact A.lt
theorem Afn.ext (F : Afn Z h a ty n f) (E : Ext h h') : Afn Z h' a ty n f := by obtain ⟨c, A, r⟩ := F; exact ⟨c, A.ext E, r⟩
theorem Afn.other (F : Afn Z h b ty n f) (W : Wr h h' a sl v) (q : b ≠ a) : Afn Z h' b ty n f := by obtain ⟨c, A, r⟩ := F; exact ⟨c, A.other W q, r⟩
theorem Afn.keep (F : Afn Z h a ty n f) (K : Keep h h' ws) (q : a ∉ ws) : Afn Z h' a ty n f := by obtain ⟨c, A, r⟩ := F; exact ⟨c, ⟨K.2.1 a c A.1 q, A.2⟩, r⟩
theorem Afn.congr (F : Afn Z h a ty n f) (q : ∀ i, i < n → f i = f' i) : Afn Z h a ty n f' := by
  obtain ⟨c, A, S, B, H, G⟩ := F
  exact ⟨c, A, S, B, fun i hi => by rw [← q i hi]; exact H i hi, fun i hi => by rw [← q i hi]; exact G i hi⟩
theorem Afn.new {k : ClassId} {z : Int32} (A : Arr Z h a (newA k ty z) ty) (q : z.toInt = (n : Int)) : Afn Z h a ty n (fun _ => defaultValue ty) := by
  obtain ⟨c, A', -, S, q3, H, G⟩ := Arv.new A (by rw [Int32.lt_iff_toInt_lt, q]; simp only [Int32.reduceToInt]; omega)
  rw [own_ixn q] at S
  refine ⟨c, A', S, ?_, fun i hi => H i (by rw [S]; exact hi), fun i hi => G i (by rw [S]; exact hi)⟩
  have := z.toInt_lt
  omega
theorem Afn.set {i : Nat} (F : Afn Z h a ty n f) (W : Wr h h' a i v) (hv : fits ty v = true) : Afn Z h' a ty n (fun x => if x = i then v else f x) := by
  obtain ⟨c, A, S, B, H, G⟩ := F
  refine ⟨_, A.same W, by rw [sz_set]; exact S, B, fun x hx => ?_, fun x hx => ?_⟩
  · show _ = some (if x = i then v else f x)
    by_cases q : x = i
    · subst q
      rw [if_pos rfl]
      have hx' : x < c.slots.size := by rw [S]; exact hx
      simp [Cell.setSlot, hx']
    · rw [if_neg q, ← H x hx]
      exact Array.getElem?_setIfInBounds_ne (Ne.symm q)
  · by_cases q : x = i
    · simp only [q, if_true]; exact hv
    · simp only [if_neg q]; exact G x hx
theorem Goes.iastore (X : Stand p l e R s m args below meth c T locs cells slots) (hx : p.tables.exec = Jvm.exec) (hZ : Z.Warmed39 s.vm) (eT : T.heap = h) (A : Afn Z h a .int n f) {j : Int32} {i : Nat} (hj : j.toInt = (i : Int)) (hi : i < n) {x : Int32} {g : JFrame} (hg : g.method = m) {rest : List Value} (hs : g.stack = .int x :: .int j :: .ref a :: rest) (hd : decode c.code g.pc = .ok (.iastore, 1)) {P : State → Outcome → Prop}
    (k : ∀ T' h', Stand p l e R s m args below meth c T' (locs ++ [⟨a, i⟩]) cells slots → T'.heap = h' → Wr h h' a i (.int x) → Afn Z h' a .int n (fun z => if z = i then .int x else f z) → Goes p e below P (T'.setTop { g with pc := g.pc + 1, stack := rest })) : Goes p e below P (T.setTop g) := by
  obtain ⟨cl, A1, S, -⟩ := id A
  obtain ⟨T', h', X', e', W, st⟩ := stI X hx hZ eT A1 (j := j) (by rw [S]; exact own_ix hj hi) hg hs hd
  rw [own_ixn hj] at X' W
  exact Goes.step st (k T' h' X' e' W (A.set W rfl))
theorem Goes.lastore (X : Stand p l e R s m args below meth c T locs cells slots) (hx : p.tables.exec = Jvm.exec) (hZ : Z.Warmed39 s.vm) (eT : T.heap = h) (A : Afn Z h a .long n f) {j : Int32} {i : Nat} (hj : j.toInt = (i : Int)) (hi : i < n) {x : Int64} {g : JFrame} (hg : g.method = m) {rest : List Value} (hs : g.stack = .long x :: .int j :: .ref a :: rest) (hd : decode c.code g.pc = .ok (.lastore, 1)) {P : State → Outcome → Prop}
    (k : ∀ T' h', Stand p l e R s m args below meth c T' (locs ++ [⟨a, i⟩]) cells slots → T'.heap = h' → Wr h h' a i (.long x) → Afn Z h' a .long n (fun z => if z = i then .long x else f z) → Goes p e below P (T'.setTop { g with pc := g.pc + 1, stack := rest })) : Goes p e below P (T.setTop g) := by
  obtain ⟨cl, A1, S, -⟩ := id A
  obtain ⟨T', h', X', e', W, st⟩ := stJ X hx hZ eT A1 (j := j) (by rw [S]; exact own_ix hj hi) hg hs hd
  rw [own_ixn hj] at X' W
  exact Goes.step st (k T' h' X' e' W (A.set W rfl))
theorem Goes.bastore (X : Stand p l e R s m args below meth c T locs cells slots) (hx : p.tables.exec = Jvm.exec) (hZ : Z.Warmed39 s.vm) (eT : T.heap = h) (A : Afn Z h a .byte n f) {j : Int32} {i : Nat} (hj : j.toInt = (i : Int)) (hi : i < n) {x : Int32} {g : JFrame} (hg : g.method = m) {rest : List Value} (hs : g.stack = .int x :: .int j :: .ref a :: rest) (hd : decode c.code g.pc = .ok (.bastore, 1)) {P : State → Outcome → Prop}
    (k : ∀ T' h', Stand p l e R s m args below meth c T' (locs ++ [⟨a, i⟩]) cells slots → T'.heap = h' → Wr h h' a i (.int x.toInt8.toInt32) → Afn Z h' a .byte n (fun z => if z = i then .int x.toInt8.toInt32 else f z) → Goes p e below P (T'.setTop { g with pc := g.pc + 1, stack := rest })) : Goes p e below P (T.setTop g) := by
  obtain ⟨cl, A1, S, -⟩ := id A
  obtain ⟨T', h', X', e', W, st⟩ := stB X hx hZ eT A1 (j := j) (by rw [S]; exact own_ix hj hi) hg hs hd
  rw [own_ixn hj] at X' W
  exact Goes.step st (k T' h' X' e' W (A.set W (fits_nar_byte x)))
theorem Goes.castore (X : Stand p l e R s m args below meth c T locs cells slots) (hx : p.tables.exec = Jvm.exec) (hZ : Z.Warmed39 s.vm) (eT : T.heap = h) (A : Afn Z h a .char n f) {j : Int32} {i : Nat} (hj : j.toInt = (i : Int)) (hi : i < n) {x : Int32} {g : JFrame} (hg : g.method = m) {rest : List Value} (hs : g.stack = .int x :: .int j :: .ref a :: rest) (hd : decode c.code g.pc = .ok (.castore, 1)) {P : State → Outcome → Prop}
    (k : ∀ T' h', Stand p l e R s m args below meth c T' (locs ++ [⟨a, i⟩]) cells slots → T'.heap = h' → Wr h h' a i (.int (nar .char x)) → Afn Z h' a .char n (fun z => if z = i then .int (nar .char x) else f z) → Goes p e below P (T'.setTop { g with pc := g.pc + 1, stack := rest })) : Goes p e below P (T.setTop g) := by
  obtain ⟨cl, A1, S, -⟩ := id A
  obtain ⟨T', h', X', e', W, st⟩ := stC X hx hZ eT A1 (j := j) (by rw [S]; exact own_ix hj hi) hg hs hd
  rw [own_ixn hj] at X' W
  exact Goes.step st (k T' h' X' e' W (A.set W (fits_nar_char x)))
theorem Goes.iaload (X : Stand p l e R s m args below meth c T locs cells slots) (hx : p.tables.exec = Jvm.exec) (hZ : Z.Warmed39 s.vm) (eT : T.heap = h) (A : Afn Z h a .int n f) {j : Int32} {i : Nat} (hj : j.toInt = (i : Int)) (hi : i < n) (hv : f i = v) {g : JFrame} (hg : g.method = m) {rest : List Value} (hs : g.stack = .int j :: .ref a :: rest) (hd : decode c.code g.pc = .ok (.iaload, 1)) {P : State → Outcome → Prop}
    (k : Goes p e below P (T.setTop { g with pc := g.pc + 1, stack := v :: rest })) : Goes p e below P (T.setTop g) := by
  obtain ⟨cl, A1, S, B, H, G⟩ := A
  exact Goes.step (fun tgt q => X.iaload hx (j := j) (v := v) (by rw [eT]; exact A1.1) (State.isArrayOf_alike hZ.alike A1.2.1) A1.2.2 (by rw [S]; exact own_ix hj hi) (by rw [own_ixn hj, ← hv]; exact H i hi) hg hs hd tgt q) k
theorem Goes.laload (X : Stand p l e R s m args below meth c T locs cells slots) (hx : p.tables.exec = Jvm.exec) (hZ : Z.Warmed39 s.vm) (eT : T.heap = h) (A : Afn Z h a .long n f) {j : Int32} {i : Nat} (hj : j.toInt = (i : Int)) (hi : i < n) (hv : f i = v) {g : JFrame} (hg : g.method = m) {rest : List Value} (hs : g.stack = .int j :: .ref a :: rest) (hd : decode c.code g.pc = .ok (.laload, 1)) {P : State → Outcome → Prop}
    (k : Goes p e below P (T.setTop { g with pc := g.pc + 1, stack := v :: rest })) : Goes p e below P (T.setTop g) := by
  obtain ⟨cl, A1, S, B, H, G⟩ := A
  exact Goes.step (fun tgt q => X.laload hx (j := j) (v := v) (by rw [eT]; exact A1.1) (State.isArrayOf_alike hZ.alike A1.2.1) A1.2.2 (by rw [S]; exact own_ix hj hi) (by rw [own_ixn hj, ← hv]; exact H i hi) hg hs hd tgt q) k
theorem Goes.baload (X : Stand p l e R s m args below meth c T locs cells slots) (hx : p.tables.exec = Jvm.exec) (hZ : Z.Warmed39 s.vm) (eT : T.heap = h) (A : Afn Z h a .byte n f) {j : Int32} {i : Nat} (hj : j.toInt = (i : Int)) (hi : i < n) (hv : f i = v) {g : JFrame} (hg : g.method = m) {rest : List Value} (hs : g.stack = .int j :: .ref a :: rest) (hd : decode c.code g.pc = .ok (.baload, 1)) {P : State → Outcome → Prop}
    (k : Goes p e below P (T.setTop { g with pc := g.pc + 1, stack := v :: rest })) : Goes p e below P (T.setTop g) := by
  obtain ⟨cl, A1, S, B, H, G⟩ := A
  exact Goes.step (fun tgt q => X.baloadBytes hx (j := j) (v := v) (by rw [eT]; exact A1.1) (State.isArrayOf_alike hZ.alike A1.2.1) A1.2.2 (by rw [S]; exact own_ix hj hi) (by rw [own_ixn hj, ← hv]; exact H i hi) hg hs hd tgt q) k
theorem Goes.caload (X : Stand p l e R s m args below meth c T locs cells slots) (hx : p.tables.exec = Jvm.exec) (hZ : Z.Warmed39 s.vm) (eT : T.heap = h) (A : Afn Z h a .char n f) {j : Int32} {i : Nat} (hj : j.toInt = (i : Int)) (hi : i < n) (hv : f i = v) {g : JFrame} (hg : g.method = m) {rest : List Value} (hs : g.stack = .int j :: .ref a :: rest) (hd : decode c.code g.pc = .ok (.caload, 1)) {P : State → Outcome → Prop}
    (k : Goes p e below P (T.setTop { g with pc := g.pc + 1, stack := v :: rest })) : Goes p e below P (T.setTop g) := by
  obtain ⟨cl, A1, S, B, H, G⟩ := A
  exact Goes.step (fun tgt q => X.caload hx (j := j) (v := v) (by rw [eT]; exact A1.1) (State.isArrayOf_alike hZ.alike A1.2.1) A1.2.2 (by rw [S]; exact own_ix hj hi) (by rw [own_ixn hj, ← hv]; exact H i hi) hg hs hd tgt q) k
theorem Goes.aaload {C : FieldType} (X : Stand p l e R s m args below meth c T locs cells slots) (hx : p.tables.exec = Jvm.exec) (hZ : Z.Warmed39 s.vm) (eT : T.heap = h) (A : Afn Z h a C n f) (hC : C.isReference = true) {j : Int32} {i : Nat} (hj : j.toInt = (i : Int)) (hi : i < n) (hv : f i = v) {g : JFrame} (hg : g.method = m) {rest : List Value} (hs : g.stack = .int j :: .ref a :: rest) (hd : decode c.code g.pc = .ok (.aaload, 1)) {P : State → Outcome → Prop}
    (k : Goes p e below P (T.setTop { g with pc := g.pc + 1, stack := v :: rest })) : Goes p e below P (T.setTop g) := by
  obtain ⟨cl, A1, S, B, H, G⟩ := A
  exact Goes.step (fun tgt q => X.aaload hx (j := j) (v := v) (by rw [eT]; exact A1.1) (State.isArrayOf_alike hZ.alike A1.2.1) hC A1.2.2 (by rw [S]; exact own_ix hj hi) (by rw [own_ixn hj, ← hv]; exact H i hi) hg hs hd tgt q) k
theorem Goes.alen (X : Stand p l e R s m args below meth c T locs cells slots) (hx : p.tables.exec = Jvm.exec) (hZ : Z.Warmed39 s.vm) (eT : T.heap = h) (A : Afn Z h a ty n f) {z : Int32} (hz : z.toInt = (n : Int)) {g : JFrame} (hg : g.method = m) {rest : List Value} (hs : g.stack = .ref a :: rest) (hd : decode c.code g.pc = .ok (.arraylength, 1)) {P : State → Outcome → Prop}
    (k : Goes p e below P (T.setTop { g with pc := g.pc + 1, stack := .int z :: rest })) : Goes p e below P (T.setTop g) := by
  obtain ⟨cl, A1, S, B, H, G⟩ := A
  have q : cl.slots.size.toInt32 = z := by rw [S, ← Int32.toInt_inj, hz]; exact len_toInt B
  exact Goes.step (fun tgt r => X.arraylength hx (by rw [eT]; exact A1.1) (State.isArrayOf_alike hZ.alike A1.2.1) hg hs hd tgt (by rw [q]; exact r)) k
theorem Goes.clone (X : Stand p l e R s m args below meth c T locs cells slots) (hx : p.tables.exec = Jvm.exec) (hZ : Z.Warmed39 s.vm) {own ad : String} {index : Nat} (hown : s.vm.findClass own = some m.cls)
    (w1 : (Jvm.Cond.methodLink own index ⟨ad, "clone", "()Ljava/lang/Object;"⟩).before a0 Z = true) (w2 : (Jvm.Cond.sameMethod ad "java/lang/Object" "clone" "()Ljava/lang/Object;").before a0 Z = true) (w3 : (Jvm.Cond.native ⟨"java/lang/Object", "clone", "()Ljava/lang/Object;"⟩).before a0 Z = true)
    (w4 : (Jvm.Cond.instanceMethod ⟨"java/lang/Object", "clone", "()Ljava/lang/Object;"⟩).before a0 Z = true) (w5 : (Jvm.Cond.selects ad ⟨ad, "clone", "()Ljava/lang/Object;"⟩ ⟨"java/lang/Object", "clone", "()Ljava/lang/Object;"⟩).before a0 Z = true) (w6 : (Jvm.Cond.castable ad "java/lang/Cloneable").before a0 Z = true)
    (eT : T.heap = h) (A : Afn Z h a ty n f) (E : Exa Z h a ad) {g : JFrame} (hg : g.method = m) (hsize : g.locals.size = c.maxLocals) {rest : List Value} (hs : g.stack = .ref a :: rest) (hd : decode c.code g.pc = .ok (.invokevirtual index, 3))
    (hf : 1 ≤ R.frames) {W cap : Nat} (hW : 2 * g.monitorRoom + (rest.map fun v => v.category).sum ≤ W) (hl : W + 14 ≤ R.locals) (hcap : n ≤ cap) (hc : cells + 1 ≤ R.cells) (hsl : slots + cap ≤ R.slots) {P : State → Outcome → Prop}
    (k : ∀ T' h' b, b = h.size → Stand p l e R s m args below meth c T' locs (cells + 1) (slots + cap) → T'.heap = h' → Ext h h' → Afn Z h' b ty n f → Exa Z h' b ad → Goes p e below P (T'.setTop { g with pc := g.pc + 3, stack := .ref b :: rest })) : Goes p e below P (T.setTop g) := by
  obtain ⟨cl, A1, S, B, H, G⟩ := id A
  have FC : FitC Z cl := fitC_of A1 fun i hi v hv => by
    rw [S] at hi
    rw [H i hi] at hv
    cases hv
    exact G i hi
  obtain ⟨T', h', X', e', ex, A', E', st⟩ := cloneA X hx hZ hown w1 w2 w3 w4 w5 w6 eT A1 E FC hg hsize hs hd hf hW hl (by rw [S]; exact hcap) hc hsl
  exact Goes.step st (k T' h' _ rfl X' e' ex ⟨cloneOf cl, A', S, B, H, G⟩ E')
theorem Goes.callP (X : Stand p l e R s m args below meth c T locs cells slots) (hx : p.tables.exec = Jvm.exec) (hZ : Z.Warmed39 s.vm) {own C0 C1 : String} {index : Nat} {y z : MethodName} {bytes : ByteArray} {maxL : Nat} {ret : Option FieldType} {rm : Room} {as : List Value} {Q : Option Value → Heap → List Loc → Prop} (hown : s.vm.findClass own = some m.cls)
    (w1 : (Jvm.Cond.methodLink own index y).before a0 Z = true) (w2 : (Jvm.Cond.instanceMethod y).before a0 Z = true) (w3 : (Jvm.Cond.privateMethod y).before a0 Z = true) (w4 : (Jvm.Cond.selects C0 z z).before a0 Z = true) (hz : z.cls = y.cls) (w5 : (Jvm.Cond.code y bytes maxL ret).before a0 Z = true) (w6 : (Jvm.Cond.initialized y.cls).before a0 Z = true) (hy : y.cls ≠ "java/lang/invoke/MethodHandle" ∧ y.cls ≠ "java/lang/invoke/VarHandle")
    (eT : T.heap = h) {b : Addr} (E : Exa Z h b C1) (hM : Con l Z y bytes maxL ret rm (.ref b :: as).toArray h Q) {W : Nat} (hf : rm.frames + 1 ≤ R.frames) (hl : W + (maxL + 11) + rm.locals ≤ R.locals) (hc : cells + rm.cells ≤ R.cells) (hs : slots + rm.slots ≤ R.slots)
    {g : JFrame} (hg : g.method = m) (hsize : g.locals.size = c.maxLocals) {rest : List Value} {ps : List FieldType} {r : Option FieldType} (hd : parseMethodDescriptor y.desc = some ⟨ps, r⟩) (hlen : as.length = ps.length) (hstack : g.stack = as.reverse ++ .ref b :: rest) (hW : 2 * g.monitorRoom + (rest.map fun v => v.category).sum ≤ W) (hdg : decode c.code g.pc = .ok (.invokevirtual index, 3))
    {P : State → Outcome → Prop} (k : ∀ v T' L, Stand p l e R s m args below meth c T' (locs ++ L) (cells + rm.cells) (slots + rm.slots) → Q v T'.heap L → Goes p e below P (T'.setTop { g with pc := g.pc + 3, stack := v.toList ++ rest })) :
    Goes p e below P (T.setTop g) := by
  have hpr := Cond.privateMethod_at (mvP hZ w3 (args := args))
  have hsel : (Jvm.Cond.selects y.cls y y).before args s = true := by
    obtain ⟨c2, r2, m2, -, -, q3, -, kP, hkP, hkPi⟩ := Cond.selects_spec (mvT (args := args) hZ w4)
    exact selects_self_of_private (hz ▸ findClass_of_methodNamed q3) hkP hkPi hpr (mvT hZ w2) hy
  obtain ⟨cell, hcell, hobj⟩ := E.cell
  obtain ⟨v, vm₁, ⟨T', L', k', n'⟩, -, X', ⟨L, hQ, l', y', z'⟩, st⟩ := X.privateBack hx (y := y) hown (mvT hZ w1) (mvT hZ w2) hsel hpr (mvT hZ w5) hy (backOf (W := W) (hM []) hZ w5 w6 hf hl) (g := g) hg hsize (Steps.refl _) (a := b) (by rw [eT]; exact hcell) hobj (argsL := as) (rest := rest) (lenOf hd hlen) hstack hW hdg (fun _ _ => ⟨rfl, eT, hc, hs⟩)
  try dsimp only at X' hQ l' y' z' st
  subst l' y' z'
  exact Goes.tr st (k v T' L X' hQ)
theorem Afn.of_arv {k : ClassId} {z : Int32} {vs : List Value} {d : Value} (F : Arv Z h a k ty z vs d) (q : z.toInt = (n : Int)) : Afn Z h a ty n (fun i => vs.getD i d) := by
  obtain ⟨c, A', -, S, q3, H, G⟩ := F
  rw [own_ixn q] at S
  refine ⟨c, A', S, ?_, fun i hi => H i (by rw [S]; exact hi), fun i hi => G i (by rw [S]; exact hi)⟩
  have := z.toInt_lt
  omega
theorem Afn.to_arv {z : Int32} {d : Value} (F : Afn Z h a ty n f) (q : z.toInt = (n : Int)) : ∃ k, Arv Z h a k ty z ((List.range n).map f) d := by
  obtain ⟨c, A, S, B, H, G⟩ := F
  have e : ∀ i, i < n → ((List.range n).map f).getD i d = f i := fun i hi => by simp [List.getD_eq_getElem?_getD, hi]
  refine ⟨c.cls, c, A, rfl, by rw [S, own_ixn q], by rw [Int32.lt_iff_toInt_lt, q]; simp only [Int32.reduceToInt]; omega, fun i hi => ?_, fun i hi => ?_⟩
  · rw [e i (S ▸ hi)]; exact H i (S ▸ hi)
  · rw [e i (S ▸ hi)]; exact G i (S ▸ hi)
theorem own_cp {n n' sp dp nn : Nat} {f g : Nat → Value} {d d' : Value} (h1 : sp + nn ≤ n) (h2 : dp + nn ≤ n') : ∀ i, i < n' →
    (((List.range n').map g).take dp ++ (List.range nn).map (fun i => ((List.range n).map f).getD (sp + i) d) ++ ((List.range n').map g).drop (dp + nn)).getD i d' = if dp ≤ i ∧ i < dp + nn then f (sp + (i - dp)) else g i := fun i hi => by
  have e : ∀ j, j < nn → ((List.range n).map f).getD (sp + j) d = f (sp + j) := fun j hj => by
    have hh : sp + j < n := by omega
    simp [List.getD_eq_getElem?_getD, hh]
  rw [List.getD_eq_getElem?_getD]
  by_cases q1 : i < dp
  · have q2 : ¬ (dp ≤ i ∧ i < dp + nn) := by omega
    rw [if_neg q2, List.append_assoc, List.getElem?_append_left (by simp; omega)]
    simp [List.getElem?_take, q1, hi]
  · by_cases q2 : i < dp + nn
    · rw [if_pos ⟨by omega, q2⟩, List.getElem?_append_left (by simp; omega), List.getElem?_append_right (by simp; omega)]
      have hl : (((List.range n').map g).take dp).length = dp := by simp; omega
      rw [hl, List.getElem?_map, List.getElem?_range (by omega : i - dp < nn)]
      simp only [Option.map_some, Option.getD_some]
      exact e _ (by omega)
    · rw [if_neg (by omega), List.getElem?_append_right (by simp; omega)]
      have hl : (((List.range n').map g).take dp ++ (List.range nn).map (fun i => ((List.range n).map f).getD (sp + i) d)).length = dp + nn := by simp; omega
      rw [hl, List.getElem?_drop, show dp + nn + (i - (dp + nn)) = i from by omega]
      simp [hi]
/-- System.arraycopy between two arrays of one primitive kind -/
theorem Goes.acopy {n' sp dp nn : Nat} {g' : Nat → Value} {z z' zs zd zn : Int32} (X : Stand p l e R s m args below meth c T locs cells slots) (hx : p.tables.exec = Jvm.exec) (hZ : Z.Warmed39 s.vm) {own : String} {index : Nat} (hown : s.vm.findClass own = some m.cls)
    (w1 : (Jvm.Cond.methodLink own index Jvm.Stand.acN).before a0 Z = true) (w2 : (Jvm.Cond.native Jvm.Stand.acN).before a0 Z = true) (w3 : (Jvm.Cond.static Jvm.Stand.acN).before a0 Z = true) (w4 : (Jvm.Cond.initialized "java/lang/System").before a0 Z = true) (eT : T.heap = h)
    (A : Afn Z h a ty n f) (B : Afn Z h b ty n' g') (hty : refKind ty = false) (hz : z.toInt = (n : Int)) (hz' : z'.toInt = (n' : Int)) (hzs : zs.toInt = (sp : Int)) (hzd : zd.toInt = (dp : Int)) (hzn : zn.toInt = (nn : Int)) (h4 : sp + nn ≤ n) (h5 : dp + nn ≤ n') {n0 : Nat} (N : Fr n0 locs) (ge : n0 ≤ b)
    {g : JFrame} (hg : g.method = m) (hsize : g.locals.size = c.maxLocals) {rest : List Value} (hs : g.stack = .int zn :: .int zd :: .ref b :: .int zs :: .ref a :: rest) (hd : decode c.code g.pc = .ok (.invokestatic index, 3))
    (hf : 1 ≤ R.frames) {W : Nat} (hW : 2 * g.monitorRoom + (rest.map fun v => v.category).sum ≤ W) (hlo : W + (nativeFrameWords "java/lang/System" "arraycopy" 5 + 11) ≤ R.locals) {P : State → Outcome → Prop}
    (k : ∀ T' h' L, Stand p l e R s m args below meth c T' L cells slots → T'.heap = h' → Fr n0 L → Keep h h' [b] → Afn Z h' b ty n' (fun i => if dp ≤ i ∧ i < dp + nn then f (sp + (i - dp)) else g' i) → Goes p e below P (T'.setTop { g with pc := g.pc + 3, stack := rest })) : Goes p e below P (T.setTop g) := by
  have ng : ∀ {x : Int32} {i : Nat}, x.toInt = (i : Int) → ¬ x < 0 := fun {x i} q => by rw [Int32.lt_iff_toInt_lt, q]; simp only [Int32.reduceToInt]; omega
  obtain ⟨k1, A'⟩ := A.to_arv (d := .null) hz
  obtain ⟨k2, B'⟩ := B.to_arv (d := .null) hz'
  obtain ⟨T', h', L, X', e', N', K, C, st⟩ := cpA X hx hZ hown w1 w2 w3 w4 eT A' B' (Or.inl ⟨rfl, hty⟩) (sp := zs) (dp := zd) (nn := zn) (ng hzs) (ng hzd) (ng hzn) (by rw [own_ixn hz, own_ixn hzs, own_ixn hzn]; exact h4) (by rw [own_ixn hz', own_ixn hzd, own_ixn hzn]; exact h5) rfl (by simp [own_ixn hzd, own_ixn hzn]; exact h5) N ge hg hsize hs hd hf hW hlo
  rw [own_ixn hzd, own_ixn hzn, own_ixn hzs] at C
  exact Goes.step st (k T' h' L X' e' N' K ((Afn.of_arv C hz').congr (own_cp h4 h5)))
theorem own_len {t : Term} {cl : Cell} {z : Int32} (ev : t.eval args Z none [] Z = some (.ref a)) (ha : Z.arrayAt? a = some cl) (q : (Term.length t).eval args Z none [] Z = some (.int z)) : cl.slots.size < 2 ^ 31 ∧ cl.slots.size.toInt32 = z := by
  by_cases hl : cl.slots.size < 2 ^ 31
  · rw [len_f ev ha hl] at q
    exact ⟨hl, Value.int.inj (Option.some.inj q)⟩
  · simp [Term.eval, ev, ha, hl] at q
theorem own_eqR {t u : Term} (hb : u.eval args Z none [] Z = some (.ref a)) (q : (Jvm.Cond.eq t u).value args Z none Z [] = some true) : t.eval args Z none [] Z = some (.ref a) := by
  obtain ⟨x, y, e1, e2, k1, k2⟩ := cmp_v (Or.inl q)
  cases hb.symm.trans e2
  have hx : x.isRef = true := k2.2
  have hh := gotT (eq_R e1 e2 hx rfl) q
  rw [e1, hh]
end OwnHeap
theorem own_d1_0 : decode prog_133_method_1_code 0 = .ok (.aload_n 0, 1) := by decide +kernel
theorem own_d1_1 : decode prog_133_method_1_code 1 = .ok (.invokespecial 1, 3) := by decide +kernel
theorem own_d1_4 : decode prog_133_method_1_code 4 = .ok (.aload_n 0, 1) := by decide +kernel
theorem own_d1_5 : decode prog_133_method_1_code 5 = .ok (.aload_n 1, 1) := by decide +kernel
theorem own_d1_6 : decode prog_133_method_1_code 6 = .ok (.putfield 7, 3) := by decide +kernel
theorem own_d1_9 : decode prog_133_method_1_code 9 = .ok (.aload_n 0, 1) := by decide +kernel
theorem own_d1_10 : decode prog_133_method_1_code 10 = .ok (.aload_n 2, 1) := by decide +kernel
theorem own_d1_11 : decode prog_133_method_1_code 11 = .ok (.putfield 13, 3) := by decide +kernel
theorem own_d1_14 : decode prog_133_method_1_code 14 = .ok (.aload_n 0, 1) := by decide +kernel
theorem own_d1_15 : decode prog_133_method_1_code 15 = .ok (.aload_n 3, 1) := by decide +kernel
theorem own_d1_16 : decode prog_133_method_1_code 16 = .ok (.putfield 17, 3) := by decide +kernel
theorem own_d1_19 : decode prog_133_method_1_code 19 = .ok (.return_, 1) := by decide +kernel
theorem own_d3_0 : decode prog_133_method_3_code 0 = .ok (.aload_n 0, 1) := by decide +kernel
theorem own_d3_1 : decode prog_133_method_3_code 1 = .ok (.getfield 13, 3) := by decide +kernel
theorem own_d3_4 : decode prog_133_method_3_code 4 = .ok (.ifnonnull 7, 3) := by decide +kernel
theorem own_d3_11 : decode prog_133_method_3_code 11 = .ok (.aload_n 0, 1) := by decide +kernel
theorem own_d3_12 : decode prog_133_method_3_code 12 = .ok (.getfield 13, 3) := by decide +kernel
theorem own_d3_15 : decode prog_133_method_3_code 15 = .ok (.invokevirtual 21, 3) := by decide +kernel
theorem own_d3_18 : decode prog_133_method_3_code 18 = .ok (.checkcast 22, 3) := by decide +kernel
theorem own_d3_21 : decode prog_133_method_3_code 21 = .ok (.areturn, 1) := by decide +kernel
theorem own_d3_7 : decode prog_133_method_3_code 7 = .ok (.aconst_null, 1) := by decide +kernel
theorem own_d3_8 : decode prog_133_method_3_code 8 = .ok (.goto 13, 3) := by decide +kernel
theorem own_d4_0 : decode method_3_code 0 = .ok (.aload_n 0, 1) := by decide +kernel
theorem own_d4_1 : decode method_3_code 1 = .ok (.arraylength, 1) := by decide +kernel
theorem own_d4_2 : decode method_3_code 2 = .ok (.iload_n 1, 1) := by decide +kernel
theorem own_d4_3 : decode method_3_code 3 = .ok (.if_icmp .eq 5, 3) := by decide +kernel
theorem own_d4_8 : decode method_3_code 8 = .ok (.iconst 1, 1) := by decide +kernel
theorem own_d4_9 : decode method_3_code 9 = .ok (.istore 6, 2) := by decide +kernel
theorem own_d4_11 : decode method_3_code 11 = .ok (.iload_n 1, 1) := by decide +kernel
theorem own_d4_12 : decode method_3_code 12 = .ok (.ifCond .le 23, 3) := by decide +kernel
theorem own_d4_35 : decode method_3_code 35 = .ok (.iload_n 1, 1) := by decide +kernel
theorem own_d4_36 : decode method_3_code 36 = .ok (.iconst 1, 1) := by decide +kernel
theorem own_d4_37 : decode method_3_code 37 = .ok (.if_icmp .le 23, 3) := by decide +kernel
theorem own_d4_60 : decode method_3_code 60 = .ok (.iload_n 1, 1) := by decide +kernel
theorem own_d4_61 : decode method_3_code 61 = .ok (.iconst 2, 1) := by decide +kernel
theorem own_d4_62 : decode method_3_code 62 = .ok (.if_icmp .le 24, 3) := by decide +kernel
theorem own_d4_86 : decode method_3_code 86 = .ok (.iload_n 1, 1) := by decide +kernel
theorem own_d4_87 : decode method_3_code 87 = .ok (.iconst 3, 1) := by decide +kernel
theorem own_d4_88 : decode method_3_code 88 = .ok (.if_icmp .le 24, 3) := by decide +kernel
theorem own_d4_112 : decode method_3_code 112 = .ok (.iload 6, 2) := by decide +kernel
theorem own_d4_114 : decode method_3_code 114 = .ok (.ireturn, 1) := by decide +kernel
theorem own_d5_0 : decode method_4_code 0 = .ok (.aload_n 0, 1) := by decide +kernel
theorem own_d5_1 : decode method_4_code 1 = .ok (.arraylength, 1) := by decide +kernel
theorem own_d5_2 : decode method_4_code 2 = .ok (.ifCond .le 12, 3) := by decide +kernel
theorem own_d5_14 : decode method_4_code 14 = .ok (.aload_n 0, 1) := by decide +kernel
theorem own_d5_15 : decode method_4_code 15 = .ok (.arraylength, 1) := by decide +kernel
theorem own_d5_16 : decode method_4_code 16 = .ok (.iconst 1, 1) := by decide +kernel
theorem own_d5_17 : decode method_4_code 17 = .ok (.if_icmp .le 12, 3) := by decide +kernel
theorem own_d5_29 : decode method_4_code 29 = .ok (.aload_n 0, 1) := by decide +kernel
theorem own_d5_30 : decode method_4_code 30 = .ok (.arraylength, 1) := by decide +kernel
theorem own_d5_31 : decode method_4_code 31 = .ok (.iconst 2, 1) := by decide +kernel
theorem own_d5_32 : decode method_4_code 32 = .ok (.if_icmp .le 12, 3) := by decide +kernel
theorem own_d5_44 : decode method_4_code 44 = .ok (.aload_n 0, 1) := by decide +kernel
theorem own_d5_45 : decode method_4_code 45 = .ok (.arraylength, 1) := by decide +kernel
theorem own_d5_46 : decode method_4_code 46 = .ok (.iconst 3, 1) := by decide +kernel
theorem own_d5_47 : decode method_4_code 47 = .ok (.if_icmp .le 12, 3) := by decide +kernel
theorem own_d5_59 : decode method_4_code 59 = .ok (.return_, 1) := by decide +kernel
theorem own_d4_15 : decode method_3_code 15 = .ok (.iload 6, 2) := by decide +kernel
theorem own_d4_17 : decode method_3_code 17 = .ok (.ifCond .eq 15, 3) := by decide +kernel
theorem own_d4_20 : decode method_3_code 20 = .ok (.aload_n 0, 1) := by decide +kernel
theorem own_d4_21 : decode method_3_code 21 = .ok (.iconst 0, 1) := by decide +kernel
theorem own_d4_22 : decode method_3_code 22 = .ok (.baload, 1) := by decide +kernel
theorem own_d4_23 : decode method_3_code 23 = .ok (.iload_n 2, 1) := by decide +kernel
theorem own_d4_24 : decode method_3_code 24 = .ok (.i2b, 1) := by decide +kernel
theorem own_d4_25 : decode method_3_code 25 = .ok (.if_icmp .ne 7, 3) := by decide +kernel
theorem own_d4_28 : decode method_3_code 28 = .ok (.iconst 1, 1) := by decide +kernel
theorem own_d4_29 : decode method_3_code 29 = .ok (.goto 4, 3) := by decide +kernel
theorem own_d4_33 : decode method_3_code 33 = .ok (.istore 6, 2) := by decide +kernel
theorem own_d5_5 : decode method_4_code 5 = .ok (.aload_n 0, 1) := by decide +kernel
theorem own_d5_6 : decode method_4_code 6 = .ok (.iconst 0, 1) := by decide +kernel
theorem own_d5_7 : decode method_4_code 7 = .ok (.aload_n 0, 1) := by decide +kernel
theorem own_d5_8 : decode method_4_code 8 = .ok (.iconst 0, 1) := by decide +kernel
theorem own_d5_9 : decode method_4_code 9 = .ok (.baload, 1) := by decide +kernel
theorem own_d5_10 : decode method_4_code 10 = .ok (.iconst 1, 1) := by decide +kernel
theorem own_d5_11 : decode method_4_code 11 = .ok (.iadd, 1) := by decide +kernel
theorem own_d5_12 : decode method_4_code 12 = .ok (.i2b, 1) := by decide +kernel
theorem own_d5_13 : decode method_4_code 13 = .ok (.bastore, 1) := by decide +kernel
theorem own_d4_40 : decode method_3_code 40 = .ok (.iload 6, 2) := by decide +kernel
theorem own_d4_42 : decode method_3_code 42 = .ok (.ifCond .eq 15, 3) := by decide +kernel
theorem own_d4_45 : decode method_3_code 45 = .ok (.aload_n 0, 1) := by decide +kernel
theorem own_d4_46 : decode method_3_code 46 = .ok (.iconst 1, 1) := by decide +kernel
theorem own_d4_47 : decode method_3_code 47 = .ok (.baload, 1) := by decide +kernel
theorem own_d4_48 : decode method_3_code 48 = .ok (.iload_n 3, 1) := by decide +kernel
theorem own_d4_49 : decode method_3_code 49 = .ok (.i2b, 1) := by decide +kernel
theorem own_d4_50 : decode method_3_code 50 = .ok (.if_icmp .ne 7, 3) := by decide +kernel
theorem own_d4_53 : decode method_3_code 53 = .ok (.iconst 1, 1) := by decide +kernel
theorem own_d4_54 : decode method_3_code 54 = .ok (.goto 4, 3) := by decide +kernel
theorem own_d4_58 : decode method_3_code 58 = .ok (.istore 6, 2) := by decide +kernel
theorem own_d5_20 : decode method_4_code 20 = .ok (.aload_n 0, 1) := by decide +kernel
theorem own_d5_21 : decode method_4_code 21 = .ok (.iconst 1, 1) := by decide +kernel
theorem own_d5_22 : decode method_4_code 22 = .ok (.aload_n 0, 1) := by decide +kernel
theorem own_d5_23 : decode method_4_code 23 = .ok (.iconst 1, 1) := by decide +kernel
theorem own_d5_24 : decode method_4_code 24 = .ok (.baload, 1) := by decide +kernel
theorem own_d5_25 : decode method_4_code 25 = .ok (.iconst 1, 1) := by decide +kernel
theorem own_d5_26 : decode method_4_code 26 = .ok (.iadd, 1) := by decide +kernel
theorem own_d5_27 : decode method_4_code 27 = .ok (.i2b, 1) := by decide +kernel
theorem own_d5_28 : decode method_4_code 28 = .ok (.bastore, 1) := by decide +kernel
theorem own_d4_65 : decode method_3_code 65 = .ok (.iload 6, 2) := by decide +kernel
theorem own_d4_67 : decode method_3_code 67 = .ok (.ifCond .eq 16, 3) := by decide +kernel
theorem own_d4_70 : decode method_3_code 70 = .ok (.aload_n 0, 1) := by decide +kernel
theorem own_d4_71 : decode method_3_code 71 = .ok (.iconst 2, 1) := by decide +kernel
theorem own_d4_72 : decode method_3_code 72 = .ok (.baload, 1) := by decide +kernel
theorem own_d4_73 : decode method_3_code 73 = .ok (.iload 4, 2) := by decide +kernel
theorem own_d4_75 : decode method_3_code 75 = .ok (.i2b, 1) := by decide +kernel
theorem own_d4_76 : decode method_3_code 76 = .ok (.if_icmp .ne 7, 3) := by decide +kernel
theorem own_d4_79 : decode method_3_code 79 = .ok (.iconst 1, 1) := by decide +kernel
theorem own_d4_80 : decode method_3_code 80 = .ok (.goto 4, 3) := by decide +kernel
theorem own_d4_84 : decode method_3_code 84 = .ok (.istore 6, 2) := by decide +kernel
theorem own_d5_35 : decode method_4_code 35 = .ok (.aload_n 0, 1) := by decide +kernel
theorem own_d5_36 : decode method_4_code 36 = .ok (.iconst 2, 1) := by decide +kernel
theorem own_d5_37 : decode method_4_code 37 = .ok (.aload_n 0, 1) := by decide +kernel
theorem own_d5_38 : decode method_4_code 38 = .ok (.iconst 2, 1) := by decide +kernel
theorem own_d5_39 : decode method_4_code 39 = .ok (.baload, 1) := by decide +kernel
theorem own_d5_40 : decode method_4_code 40 = .ok (.iconst 1, 1) := by decide +kernel
theorem own_d5_41 : decode method_4_code 41 = .ok (.iadd, 1) := by decide +kernel
theorem own_d5_42 : decode method_4_code 42 = .ok (.i2b, 1) := by decide +kernel
theorem own_d5_43 : decode method_4_code 43 = .ok (.bastore, 1) := by decide +kernel
theorem own_d4_91 : decode method_3_code 91 = .ok (.iload 6, 2) := by decide +kernel
theorem own_d4_93 : decode method_3_code 93 = .ok (.ifCond .eq 16, 3) := by decide +kernel
theorem own_d4_96 : decode method_3_code 96 = .ok (.aload_n 0, 1) := by decide +kernel
theorem own_d4_97 : decode method_3_code 97 = .ok (.iconst 3, 1) := by decide +kernel
theorem own_d4_98 : decode method_3_code 98 = .ok (.baload, 1) := by decide +kernel
theorem own_d4_99 : decode method_3_code 99 = .ok (.iload 5, 2) := by decide +kernel
theorem own_d4_101 : decode method_3_code 101 = .ok (.i2b, 1) := by decide +kernel
theorem own_d4_102 : decode method_3_code 102 = .ok (.if_icmp .ne 7, 3) := by decide +kernel
theorem own_d4_105 : decode method_3_code 105 = .ok (.iconst 1, 1) := by decide +kernel
theorem own_d4_106 : decode method_3_code 106 = .ok (.goto 4, 3) := by decide +kernel
theorem own_d4_110 : decode method_3_code 110 = .ok (.istore 6, 2) := by decide +kernel
theorem own_d5_50 : decode method_4_code 50 = .ok (.aload_n 0, 1) := by decide +kernel
theorem own_d5_51 : decode method_4_code 51 = .ok (.iconst 3, 1) := by decide +kernel
theorem own_d5_52 : decode method_4_code 52 = .ok (.aload_n 0, 1) := by decide +kernel
theorem own_d5_53 : decode method_4_code 53 = .ok (.iconst 3, 1) := by decide +kernel
theorem own_d5_54 : decode method_4_code 54 = .ok (.baload, 1) := by decide +kernel
theorem own_d5_55 : decode method_4_code 55 = .ok (.iconst 1, 1) := by decide +kernel
theorem own_d5_56 : decode method_4_code 56 = .ok (.iadd, 1) := by decide +kernel
theorem own_d5_57 : decode method_4_code 57 = .ok (.i2b, 1) := by decide +kernel
theorem own_d5_58 : decode method_4_code 58 = .ok (.bastore, 1) := by decide +kernel
theorem own_pd0 : parseMethodDescriptor "(Lcom/example/anchorline/anchorline/sccp/SccpAddress;[BLcom/example/anchorline/anchorline/tcap/Dialogue$State;)V" = some ⟨[(.object "com/example/anchorline/anchorline/sccp/SccpAddress"), (.array .byte), (.object "com/example/anchorline/anchorline/tcap/Dialogue$State")], none⟩ := by decide +kernel
theorem own_pd1 : parseMethodDescriptor "()[B" = some ⟨[], some (.array .byte)⟩ := by decide +kernel
theorem own_pd2 : parseMethodDescriptor "([BIIIII)Z" = some ⟨[(.array .byte), .int, .int, .int, .int, .int], some .boolean⟩ := by decide +kernel
theorem own_pd3 : parseMethodDescriptor "([B)V" = some ⟨[(.array .byte)], none⟩ := by decide +kernel
theorem own_pn0 : plainName "com/example/anchorline/anchorline/tcap/Dialogue" = true := by first | (simp [plainName, overriddenIn]; done) | decide +kernel
theorem own_pn1 : plainName "com/example/anchorline/anchorline/tcap/DialogueApplicationContextPinLaw" = true := by first | (simp [plainName, overriddenIn]; done) | decide +kernel
/-- what the array holds: the low bytes -/
def own_f (b0 b1 b2 b3 : Int32) (i : Nat) : Value := if i = 0 then .int (b0.toInt8.toInt32) else if i = 1 then .int (b1.toInt8.toInt32) else if i = 2 then .int (b2.toInt8.toInt32) else .int (b3.toInt8.toInt32)
theorem own_mod5 (x : Int32) : (x &&& (2147483647 : Int32)) % (5 : Int32) = (0 : Int32) ∨ (x &&& (2147483647 : Int32)) % (5 : Int32) = (1 : Int32) ∨ (x &&& (2147483647 : Int32)) % (5 : Int32) = (2 : Int32) ∨ (x &&& (2147483647 : Int32)) % (5 : Int32) = (3 : Int32) ∨ (x &&& (2147483647 : Int32)) % (5 : Int32) = (4 : Int32) := by
  have hm : (x &&& (2147483647 : Int32)).toInt = x.toInt % 2 ^ 31 := Jvm.Kit.i32_mask x 2147483647 (k := 31) (by decide) (by decide)
  have hr : ((x &&& (2147483647 : Int32)) % (5 : Int32)).toInt = (x.toInt % 2 ^ 31) % 5 := by rw [Jvm.Kit.i32_rem_nonneg (by rw [hm]; omega), hm]; rfl
  simp only [← Int32.toInt_inj, hr, show (0 : Int32).toInt = 0 from by decide, show (1 : Int32).toInt = 1 from by decide, show (2 : Int32).toInt = 2 from by decide, show (3 : Int32).toInt = 3 from by decide, show (4 : Int32).toInt = 4 from by decide]
  omega
set_option maxRecDepth 65536 in
set_option maxHeartbeats 40000000 in
theorem rmC (l : Launch) (Z : State) (a0 : Array Value) (hw : ∀ d ∈ tables_1, d.before a0 Z = true) (a1 a3 a4 : Addr) (h0 : Heap) (n0 : Nat) (Z0 : n0 ≤ h0.size) (E0 : Exa Z h0 a1 "com/example/anchorline/anchorline/tcap/Dialogue") (ga : n0 ≤ a1) (F_peer : Fld Z h0 a1 "com/example/anchorline/anchorline/tcap/Dialogue" "peer" "Lcom/example/anchorline/anchorline/sccp/SccpAddress;" .null) (F_applicationContext : Fld Z h0 a1 "com/example/anchorline/anchorline/tcap/Dialogue" "applicationContext" "[B" .null) (F_state : Fld Z h0 a1 "com/example/anchorline/anchorline/tcap/Dialogue" "state" "Lcom/example/anchorline/anchorline/tcap/Dialogue$State;" .null) :
    Con l Z (⟨"com/example/anchorline/anchorline/tcap/Dialogue", "<init>", "(Lcom/example/anchorline/anchorline/sccp/SccpAddress;[BLcom/example/anchorline/anchorline/tcap/Dialogue$State;)V"⟩ : MethodName) prog_133_method_1_code 4 none ({ frames := 1, cells := 0, slots := 0, locals := 12 } : Room) #[(.ref a1), .null, (.ref a3), (.ref a4)] h0 (fun v h L => v = none ∧ Fr n0 L ∧ Keep h0 h [a1] ∧ Fld Z h a1 "com/example/anchorline/anchorline/tcap/Dialogue" "applicationContext" "[B" (.ref a3)) := by
  refine Con.body (plainFor_of_name own_pn0) ?_
  intro pP eE sS mM bB mT cC s₁ hx hby hml hZ hown hnm hret hlk X0 e0
  have hown : sS.vm.findClass "com/example/anchorline/anchorline/tcap/Dialogue" = some mM.cls := hown
  have hml : cC.maxLocals = 4 := hml
  have N0 := Fr.nil n0
  have ef : entryFrame mM #[(.ref a1), .null, (.ref a3), (.ref a4)] 4 = mkF mM 0 #[.val (.ref a1), .val .null, .val (.ref a3), .val (.ref a4)] [] := by first | (simp [entryFrame, mkF, argsToLocals, Value.category]; done) | rfl
  rw [ef]
  show Goes pP eE bB _ (s₁.setTop (mkF mM 0 #[.val (.ref a1), .val .null, .val (.ref a3), .val (.ref a4)] []))
  refine Goes.step (fun _ kK => XS.aloadN X0.here hx rfl (hb hby own_d1_0) rfl rfl kK) ?_
  show Goes pP eE bB _ (s₁.setTop (mkF mM 1 #[.val (.ref a1), .val .null, .val (.ref a3), .val (.ref a4)] [(.ref a1)]))
  obtain ⟨T_1, X_1, e_1, st_1⟩ := initO X0 hx hZ hown (hw _ (List.mem_of_getElem? (i := 10) rfl)) (hw _ (List.mem_of_getElem? (i := 11) rfl)) (hw _ (List.mem_of_getElem? (i := 12) rfl)) e0 (g := (mkF mM 1 #[.val (.ref a1), .val .null, .val (.ref a3), .val (.ref a4)] [(.ref a1)])) rfl (by rw [hml]; rfl) rfl (hb hby own_d1_1) (by decide) (W := 0) (by show 2 * 0 + _ ≤ _; exact Nat.le_of_eq rfl) (by decide)
  refine Goes.step st_1 ?_
  show Goes pP eE bB _ (T_1.setTop (mkF mM 4 #[.val (.ref a1), .val .null, .val (.ref a3), .val (.ref a4)] []))
  refine Goes.step (fun _ kK => XS.aloadN X_1.here hx rfl (hb hby own_d1_4) rfl rfl kK) ?_
  show Goes pP eE bB _ (T_1.setTop (mkF mM 5 #[.val (.ref a1), .val .null, .val (.ref a3), .val (.ref a4)] [(.ref a1)]))
  refine Goes.step (fun _ kK => XS.aloadN X_1.here hx rfl (hb hby own_d1_5) rfl rfl kK) ?_
  show Goes pP eE bB _ (T_1.setTop (mkF mM 6 #[.val (.ref a1), .val .null, .val (.ref a3), .val (.ref a4)] [.null, (.ref a1)]))
  obtain ⟨T_2, h_2, X_2, e_2, W_2, st_2⟩ := putF X_1 hx hZ hown (host := "") (Or.inl (hw _ (List.mem_of_getElem? (i := 13) rfl))) Via.refl e_1 F_peer E0 (Or.inr ⟨(hw _ (List.mem_of_getElem? (i := 14) rfl)), rfl, hnm⟩) (hw _ (List.mem_of_getElem? (i := 2) rfl)) (ty := (.object "com/example/anchorline/anchorline/sccp/SccpAddress")) (by decide) rfl rfl (g := (mkF mM 6 #[.val (.ref a1), .val .null, .val (.ref a3), .val (.ref a4)] [.null, (.ref a1)])) rfl rfl (hb hby own_d1_6)
  have u_3 := F_peer.same W_2
  have N_2 := Fr.snoc X_2 N0 ga
  refine Goes.step st_2 ?_
  show Goes pP eE bB _ (T_2.setTop (mkF mM 9 #[.val (.ref a1), .val .null, .val (.ref a3), .val (.ref a4)] []))
  refine Goes.step (fun _ kK => XS.aloadN X_2.here hx rfl (hb hby own_d1_9) rfl rfl kK) ?_
  show Goes pP eE bB _ (T_2.setTop (mkF mM 10 #[.val (.ref a1), .val .null, .val (.ref a3), .val (.ref a4)] [(.ref a1)]))
  refine Goes.step (fun _ kK => XS.aloadN X_2.here hx rfl (hb hby own_d1_10) rfl rfl kK) ?_
  show Goes pP eE bB _ (T_2.setTop (mkF mM 11 #[.val (.ref a1), .val .null, .val (.ref a3), .val (.ref a4)] [(.ref a3), (.ref a1)]))
  have u_4 := F_applicationContext.other W_2 (Or.inr (slot_ne (Or.inr (hw _ (List.mem_of_getElem? (i := 16) rfl))) (Or.inr (hw _ (List.mem_of_getElem? (i := 14) rfl))) (by decide) (t := (.array .byte)) (t' := (.object "com/example/anchorline/anchorline/sccp/SccpAddress")) (by decide) (by decide)))
  have u_5 := E0.wr W_2
  obtain ⟨T_6, h_6, X_6, e_6, W_6, st_6⟩ := putF X_2 hx hZ hown (host := "") (Or.inl (hw _ (List.mem_of_getElem? (i := 15) rfl))) Via.refl e_2 u_4 u_5 (Or.inr ⟨(hw _ (List.mem_of_getElem? (i := 16) rfl)), rfl, hnm⟩) (hw _ (List.mem_of_getElem? (i := 2) rfl)) (ty := (.array .byte)) (by decide) rfl rfl (g := (mkF mM 11 #[.val (.ref a1), .val .null, .val (.ref a3), .val (.ref a4)] [(.ref a3), (.ref a1)])) rfl rfl (hb hby own_d1_11)
  have u_7 := u_4.same W_6
  have N_6 := Fr.snoc X_6 N_2 ga
  refine Goes.step st_6 ?_
  show Goes pP eE bB _ (T_6.setTop (mkF mM 14 #[.val (.ref a1), .val .null, .val (.ref a3), .val (.ref a4)] []))
  refine Goes.step (fun _ kK => XS.aloadN X_6.here hx rfl (hb hby own_d1_14) rfl rfl kK) ?_
  show Goes pP eE bB _ (T_6.setTop (mkF mM 15 #[.val (.ref a1), .val .null, .val (.ref a3), .val (.ref a4)] [(.ref a1)]))
  refine Goes.step (fun _ kK => XS.aloadN X_6.here hx rfl (hb hby own_d1_15) rfl rfl kK) ?_
  show Goes pP eE bB _ (T_6.setTop (mkF mM 16 #[.val (.ref a1), .val .null, .val (.ref a3), .val (.ref a4)] [(.ref a4), (.ref a1)]))
  have u_8 := F_state.other W_2 (Or.inr (slot_ne (Or.inl (hw _ (List.mem_of_getElem? (i := 18) rfl))) (Or.inr (hw _ (List.mem_of_getElem? (i := 14) rfl))) (by decide) (t := (.object "com/example/anchorline/anchorline/tcap/Dialogue$State")) (t' := (.object "com/example/anchorline/anchorline/sccp/SccpAddress")) (by decide) (by decide)))
  have u_9 := u_8.other W_6 (Or.inr (slot_ne (Or.inl (hw _ (List.mem_of_getElem? (i := 18) rfl))) (Or.inr (hw _ (List.mem_of_getElem? (i := 16) rfl))) (by decide) (t := (.object "com/example/anchorline/anchorline/tcap/Dialogue$State")) (t' := (.array .byte)) (by decide) (by decide)))
  have u_10 := u_5.wr W_6
  obtain ⟨T_11, h_11, X_11, e_11, W_11, st_11⟩ := putF X_6 hx hZ hown (host := "") (Or.inl (hw _ (List.mem_of_getElem? (i := 17) rfl))) Via.refl e_6 u_9 u_10 (Or.inl (hw _ (List.mem_of_getElem? (i := 18) rfl))) (hw _ (List.mem_of_getElem? (i := 2) rfl)) (ty := (.object "com/example/anchorline/anchorline/tcap/Dialogue$State")) (by decide) rfl rfl (g := (mkF mM 16 #[.val (.ref a1), .val .null, .val (.ref a3), .val (.ref a4)] [(.ref a4), (.ref a1)])) rfl rfl (hb hby own_d1_16)
  have u_12 := u_9.same W_11
  have N_11 := Fr.snoc X_11 N_6 ga
  refine Goes.step st_11 ?_
  show Goes pP eE bB _ (T_11.setTop (mkF mM 19 #[.val (.ref a1), .val .null, .val (.ref a3), .val (.ref a4)] []))
  refine Goes.ret0 X_11 hx hlk hret (hb hby own_d1_19) (by decide) (by decide) ?_
  have u_13 := (Keep.refl h0 [a1]).wr W_2 (Or.inl (List.mem_of_getElem? (i := 0) rfl))
  have u_14 := u_13.wr W_6 (Or.inl (List.mem_of_getElem? (i := 0) rfl))
  have u_15 := u_14.wr W_11 (Or.inl (List.mem_of_getElem? (i := 0) rfl))
  have u_16 := u_7.other W_11 (Or.inr (slot_ne (Or.inr (hw _ (List.mem_of_getElem? (i := 16) rfl))) (Or.inl (hw _ (List.mem_of_getElem? (i := 18) rfl))) (by decide) (t := (.array .byte)) (t' := (.object "com/example/anchorline/anchorline/tcap/Dialogue$State")) (by decide) (by decide)))
  exact ⟨rfl, N_11, by rw [e_11]; exact u_15, by rw [e_11]; exact u_16⟩
set_option maxRecDepth 65536 in
set_option maxHeartbeats 40000000 in
theorem rmC0 (l : Launch) (Z : State) (a0 : Array Value) (hw : ∀ d ∈ tables_1, d.before a0 Z = true) (a1 a4 : Addr) (h0 : Heap) (n0 : Nat) (Z0 : n0 ≤ h0.size) (E0 : Exa Z h0 a1 "com/example/anchorline/anchorline/tcap/Dialogue") (ga : n0 ≤ a1) (F_peer : Fld Z h0 a1 "com/example/anchorline/anchorline/tcap/Dialogue" "peer" "Lcom/example/anchorline/anchorline/sccp/SccpAddress;" .null) (F_applicationContext : Fld Z h0 a1 "com/example/anchorline/anchorline/tcap/Dialogue" "applicationContext" "[B" .null) (F_state : Fld Z h0 a1 "com/example/anchorline/anchorline/tcap/Dialogue" "state" "Lcom/example/anchorline/anchorline/tcap/Dialogue$State;" .null) :
    Con l Z (⟨"com/example/anchorline/anchorline/tcap/Dialogue", "<init>", "(Lcom/example/anchorline/anchorline/sccp/SccpAddress;[BLcom/example/anchorline/anchorline/tcap/Dialogue$State;)V"⟩ : MethodName) prog_133_method_1_code 4 none ({ frames := 1, cells := 0, slots := 0, locals := 12 } : Room) #[(.ref a1), .null, .null, (.ref a4)] h0 (fun v h L => v = none ∧ Fr n0 L ∧ Keep h0 h [a1] ∧ Fld Z h a1 "com/example/anchorline/anchorline/tcap/Dialogue" "applicationContext" "[B" .null) := by
  refine Con.body (plainFor_of_name own_pn0) ?_
  intro pP eE sS mM bB mT cC s₁ hx hby hml hZ hown hnm hret hlk X0 e0
  have hown : sS.vm.findClass "com/example/anchorline/anchorline/tcap/Dialogue" = some mM.cls := hown
  have hml : cC.maxLocals = 4 := hml
  have N0 := Fr.nil n0
  have ef : entryFrame mM #[(.ref a1), .null, .null, (.ref a4)] 4 = mkF mM 0 #[.val (.ref a1), .val .null, .val .null, .val (.ref a4)] [] := by first | (simp [entryFrame, mkF, argsToLocals, Value.category]; done) | rfl
  rw [ef]
  show Goes pP eE bB _ (s₁.setTop (mkF mM 0 #[.val (.ref a1), .val .null, .val .null, .val (.ref a4)] []))
  refine Goes.step (fun _ kK => XS.aloadN X0.here hx rfl (hb hby own_d1_0) rfl rfl kK) ?_
  show Goes pP eE bB _ (s₁.setTop (mkF mM 1 #[.val (.ref a1), .val .null, .val .null, .val (.ref a4)] [(.ref a1)]))
  obtain ⟨T_1, X_1, e_1, st_1⟩ := initO X0 hx hZ hown (hw _ (List.mem_of_getElem? (i := 10) rfl)) (hw _ (List.mem_of_getElem? (i := 11) rfl)) (hw _ (List.mem_of_getElem? (i := 12) rfl)) e0 (g := (mkF mM 1 #[.val (.ref a1), .val .null, .val .null, .val (.ref a4)] [(.ref a1)])) rfl (by rw [hml]; rfl) rfl (hb hby own_d1_1) (by decide) (W := 0) (by show 2 * 0 + _ ≤ _; exact Nat.le_of_eq rfl) (by decide)
  refine Goes.step st_1 ?_
  show Goes pP eE bB _ (T_1.setTop (mkF mM 4 #[.val (.ref a1), .val .null, .val .null, .val (.ref a4)] []))
  refine Goes.step (fun _ kK => XS.aloadN X_1.here hx rfl (hb hby own_d1_4) rfl rfl kK) ?_
  show Goes pP eE bB _ (T_1.setTop (mkF mM 5 #[.val (.ref a1), .val .null, .val .null, .val (.ref a4)] [(.ref a1)]))
  refine Goes.step (fun _ kK => XS.aloadN X_1.here hx rfl (hb hby own_d1_5) rfl rfl kK) ?_
  show Goes pP eE bB _ (T_1.setTop (mkF mM 6 #[.val (.ref a1), .val .null, .val .null, .val (.ref a4)] [.null, (.ref a1)]))
  obtain ⟨T_2, h_2, X_2, e_2, W_2, st_2⟩ := putF X_1 hx hZ hown (host := "") (Or.inl (hw _ (List.mem_of_getElem? (i := 13) rfl))) Via.refl e_1 F_peer E0 (Or.inr ⟨(hw _ (List.mem_of_getElem? (i := 14) rfl)), rfl, hnm⟩) (hw _ (List.mem_of_getElem? (i := 2) rfl)) (ty := (.object "com/example/anchorline/anchorline/sccp/SccpAddress")) (by decide) rfl rfl (g := (mkF mM 6 #[.val (.ref a1), .val .null, .val .null, .val (.ref a4)] [.null, (.ref a1)])) rfl rfl (hb hby own_d1_6)
  have u_3 := F_peer.same W_2
  have N_2 := Fr.snoc X_2 N0 ga
  refine Goes.step st_2 ?_
  show Goes pP eE bB _ (T_2.setTop (mkF mM 9 #[.val (.ref a1), .val .null, .val .null, .val (.ref a4)] []))
  refine Goes.step (fun _ kK => XS.aloadN X_2.here hx rfl (hb hby own_d1_9) rfl rfl kK) ?_
  show Goes pP eE bB _ (T_2.setTop (mkF mM 10 #[.val (.ref a1), .val .null, .val .null, .val (.ref a4)] [(.ref a1)]))
  refine Goes.step (fun _ kK => XS.aloadN X_2.here hx rfl (hb hby own_d1_10) rfl rfl kK) ?_
  show Goes pP eE bB _ (T_2.setTop (mkF mM 11 #[.val (.ref a1), .val .null, .val .null, .val (.ref a4)] [.null, (.ref a1)]))
  have u_4 := F_applicationContext.other W_2 (Or.inr (slot_ne (Or.inr (hw _ (List.mem_of_getElem? (i := 16) rfl))) (Or.inr (hw _ (List.mem_of_getElem? (i := 14) rfl))) (by decide) (t := (.array .byte)) (t' := (.object "com/example/anchorline/anchorline/sccp/SccpAddress")) (by decide) (by decide)))
  have u_5 := E0.wr W_2
  obtain ⟨T_6, h_6, X_6, e_6, W_6, st_6⟩ := putF X_2 hx hZ hown (host := "") (Or.inl (hw _ (List.mem_of_getElem? (i := 15) rfl))) Via.refl e_2 u_4 u_5 (Or.inr ⟨(hw _ (List.mem_of_getElem? (i := 16) rfl)), rfl, hnm⟩) (hw _ (List.mem_of_getElem? (i := 2) rfl)) (ty := (.array .byte)) (by decide) rfl rfl (g := (mkF mM 11 #[.val (.ref a1), .val .null, .val .null, .val (.ref a4)] [.null, (.ref a1)])) rfl rfl (hb hby own_d1_11)
  have u_7 := u_4.same W_6
  have N_6 := Fr.snoc X_6 N_2 ga
  refine Goes.step st_6 ?_
  show Goes pP eE bB _ (T_6.setTop (mkF mM 14 #[.val (.ref a1), .val .null, .val .null, .val (.ref a4)] []))
  refine Goes.step (fun _ kK => XS.aloadN X_6.here hx rfl (hb hby own_d1_14) rfl rfl kK) ?_
  show Goes pP eE bB _ (T_6.setTop (mkF mM 15 #[.val (.ref a1), .val .null, .val .null, .val (.ref a4)] [(.ref a1)]))
  refine Goes.step (fun _ kK => XS.aloadN X_6.here hx rfl (hb hby own_d1_15) rfl rfl kK) ?_
  show Goes pP eE bB _ (T_6.setTop (mkF mM 16 #[.val (.ref a1), .val .null, .val .null, .val (.ref a4)] [(.ref a4), (.ref a1)]))
  have u_8 := F_state.other W_2 (Or.inr (slot_ne (Or.inl (hw _ (List.mem_of_getElem? (i := 18) rfl))) (Or.inr (hw _ (List.mem_of_getElem? (i := 14) rfl))) (by decide) (t := (.object "com/example/anchorline/anchorline/tcap/Dialogue$State")) (t' := (.object "com/example/anchorline/anchorline/sccp/SccpAddress")) (by decide) (by decide)))
  have u_9 := u_8.other W_6 (Or.inr (slot_ne (Or.inl (hw _ (List.mem_of_getElem? (i := 18) rfl))) (Or.inr (hw _ (List.mem_of_getElem? (i := 16) rfl))) (by decide) (t := (.object "com/example/anchorline/anchorline/tcap/Dialogue$State")) (t' := (.array .byte)) (by decide) (by decide)))
  have u_10 := u_5.wr W_6
  obtain ⟨T_11, h_11, X_11, e_11, W_11, st_11⟩ := putF X_6 hx hZ hown (host := "") (Or.inl (hw _ (List.mem_of_getElem? (i := 17) rfl))) Via.refl e_6 u_9 u_10 (Or.inl (hw _ (List.mem_of_getElem? (i := 18) rfl))) (hw _ (List.mem_of_getElem? (i := 2) rfl)) (ty := (.object "com/example/anchorline/anchorline/tcap/Dialogue$State")) (by decide) rfl rfl (g := (mkF mM 16 #[.val (.ref a1), .val .null, .val .null, .val (.ref a4)] [(.ref a4), (.ref a1)])) rfl rfl (hb hby own_d1_16)
  have u_12 := u_9.same W_11
  have N_11 := Fr.snoc X_11 N_6 ga
  refine Goes.step st_11 ?_
  show Goes pP eE bB _ (T_11.setTop (mkF mM 19 #[.val (.ref a1), .val .null, .val .null, .val (.ref a4)] []))
  refine Goes.ret0 X_11 hx hlk hret (hb hby own_d1_19) (by decide) (by decide) ?_
  have u_13 := (Keep.refl h0 [a1]).wr W_2 (Or.inl (List.mem_of_getElem? (i := 0) rfl))
  have u_14 := u_13.wr W_6 (Or.inl (List.mem_of_getElem? (i := 0) rfl))
  have u_15 := u_14.wr W_11 (Or.inl (List.mem_of_getElem? (i := 0) rfl))
  have u_16 := u_7.other W_11 (Or.inr (slot_ne (Or.inr (hw _ (List.mem_of_getElem? (i := 16) rfl))) (Or.inl (hw _ (List.mem_of_getElem? (i := 18) rfl))) (by decide) (t := (.array .byte)) (t' := (.object "com/example/anchorline/anchorline/tcap/Dialogue$State")) (by decide) (by decide)))
  exact ⟨rfl, N_11, by rw [e_11]; exact u_15, by rw [e_11]; exact u_16⟩
set_option maxRecDepth 65536 in
set_option maxHeartbeats 40000000 in
theorem rmA (l : Launch) (Z : State) (a0 : Array Value) (hw : ∀ d ∈ tables_1, d.before a0 Z = true) (a1 b : Addr) (h0 : Heap) (n0 : Nat) (Z0 : n0 ≤ h0.size) (n : Nat) (hn : n ≤ 4) (f : Nat → Value) (F0 : Fld Z h0 a1 "com/example/anchorline/anchorline/tcap/Dialogue" "applicationContext" "[B" (.ref b)) (A0 : Afn Z h0 b .byte n f) (Eb : Exa Z h0 b "[B") :
    Con l Z (⟨"com/example/anchorline/anchorline/tcap/Dialogue", "applicationContext", "()[B"⟩ : MethodName) prog_133_method_3_code 1 (some (.array .byte)) ({ frames := 1, cells := 1, slots := 4, locals := 14 } : Room) #[(.ref a1)] h0 (fun v h L => ∃ x, v = some (.ref x) ∧ Fr n0 L ∧ Ext h0 h ∧ h0.size ≤ x ∧ Afn Z h x .byte n f ∧ Exa Z h x "[B") := by
  refine Con.body (plainFor_of_name own_pn0) ?_
  intro pP eE sS mM bB mT cC s₁ hx hby hml hZ hown hnm hret hlk X0 e0
  have hown : sS.vm.findClass "com/example/anchorline/anchorline/tcap/Dialogue" = some mM.cls := hown
  have hml : cC.maxLocals = 1 := hml
  have N0 := Fr.nil n0
  have ef : entryFrame mM #[(.ref a1)] 1 = mkF mM 0 #[.val (.ref a1)] [] := by first | (simp [entryFrame, mkF, argsToLocals, Value.category]; done) | rfl
  rw [ef]
  show Goes pP eE bB _ (s₁.setTop (mkF mM 0 #[.val (.ref a1)] []))
  refine Goes.step (fun _ kK => XS.aloadN X0.here hx rfl (hb hby own_d3_0) rfl rfl kK) ?_
  show Goes pP eE bB _ (s₁.setTop (mkF mM 1 #[.val (.ref a1)] [(.ref a1)]))
  obtain ⟨T_1, X_1, e_1, st_1⟩ := getF X0 hx hZ hown (host := "") (Or.inl (hw _ (List.mem_of_getElem? (i := 15) rfl))) Via.refl e0 F0 (g := (mkF mM 1 #[.val (.ref a1)] [(.ref a1)])) rfl rfl (hb hby own_d3_1)
  refine Goes.step st_1 ?_
  show Goes pP eE bB _ (T_1.setTop (mkF mM 4 #[.val (.ref a1)] [(.ref b)]))
  refine Goes.step (fun _ kK => XS.ifnonnullYes X_1.here hx rfl (pc0 := 4) (pc' := 11) rfl (hb hby own_d3_4) rfl (by decide) (by decide) kK) ?_
  show Goes pP eE bB _ (T_1.setTop (mkF mM 11 #[.val (.ref a1)] []))
  refine Goes.step (fun _ kK => XS.aloadN X_1.here hx rfl (hb hby own_d3_11) rfl rfl kK) ?_
  show Goes pP eE bB _ (T_1.setTop (mkF mM 12 #[.val (.ref a1)] [(.ref a1)]))
  obtain ⟨T_2, X_2, e_2, st_2⟩ := getF X_1 hx hZ hown (host := "") (Or.inl (hw _ (List.mem_of_getElem? (i := 15) rfl))) Via.refl e_1 F0 (g := (mkF mM 12 #[.val (.ref a1)] [(.ref a1)])) rfl rfl (hb hby own_d3_12)
  refine Goes.step st_2 ?_
  show Goes pP eE bB _ (T_2.setTop (mkF mM 15 #[.val (.ref a1)] [(.ref b)]))
  refine Goes.clone X_2 hx hZ hown (hw _ (List.mem_of_getElem? (i := 25) rfl)) (hw _ (List.mem_of_getElem? (i := 26) rfl)) (hw _ (List.mem_of_getElem? (i := 30) rfl)) (hw _ (List.mem_of_getElem? (i := 28) rfl)) (hw _ (List.mem_of_getElem? (i := 29) rfl)) (hw _ (List.mem_of_getElem? (i := 31) rfl)) e_2 A0 Eb (g := (mkF mM 15 #[.val (.ref a1)] [(.ref b)])) rfl (by rw [hml]; rfl) rfl (hb hby own_d3_15) (by decide) (W := 0) (cap := 4) (by show 2 * 0 + _ ≤ _; exact Nat.le_of_eq rfl) (by decide) hn (by decide) (by decide) ?_
  intro T_3 h_3 b_3 g_3 X_3 e_3 E_3 A_3 M_3
  have u_4 : a1 < b_3 := Nat.lt_of_lt_of_le (F0).lt (Nat.le_of_eq g_3.symm)
  have u_5 : b < b_3 := Nat.lt_of_lt_of_le (A0).lt (Nat.le_of_eq g_3.symm)
  have u_6 : n0 ≤ b_3 := Nat.le_trans Z0 (Nat.le_of_eq g_3.symm)
  show Goes pP eE bB _ (T_3.setTop (mkF mM 18 #[.val (.ref a1)] [(.ref b_3)]))
  obtain ⟨T_7, X_7, e_7, st_7⟩ := castY X_3 hx hZ hown (hw _ (List.mem_of_getElem? (i := 32) rfl)) e_3 (Ins.self M_3) (g := (mkF mM 18 #[.val (.ref a1)] [(.ref b_3)])) rfl rfl (hb hby own_d3_18)
  refine Goes.step st_7 ?_
  show Goes pP eE bB _ (T_7.setTop (mkF mM 21 #[.val (.ref a1)] [(.ref b_3)]))
  refine Goes.ret X_7 hx hlk hret rfl (Or.inr (Or.inr (Or.inr (Or.inr ⟨rfl, rfl, rfl⟩)))) (hb hby own_d3_21) (by decide) (by decide) ?_
  exact ⟨_, rfl, N0, by rw [e_7]; exact E_3, Nat.le_of_eq g_3.symm, by rw [e_7]; exact A_3, by rw [e_7]; exact M_3⟩
set_option maxRecDepth 65536 in
set_option maxHeartbeats 40000000 in
theorem rmA0 (l : Launch) (Z : State) (a0 : Array Value) (hw : ∀ d ∈ tables_1, d.before a0 Z = true) (a1 : Addr) (h0 : Heap) (n0 : Nat) (Z0 : n0 ≤ h0.size) (F0 : Fld Z h0 a1 "com/example/anchorline/anchorline/tcap/Dialogue" "applicationContext" "[B" .null) :
    Con l Z (⟨"com/example/anchorline/anchorline/tcap/Dialogue", "applicationContext", "()[B"⟩ : MethodName) prog_133_method_3_code 1 (some (.array .byte)) ({ frames := 0, cells := 0, slots := 0, locals := 0 } : Room) #[(.ref a1)] h0 (fun v h L => v = some .null ∧ Fr n0 L ∧ h = h0) := by
  refine Con.body (plainFor_of_name own_pn0) ?_
  intro pP eE sS mM bB mT cC s₁ hx hby hml hZ hown hnm hret hlk X0 e0
  have hown : sS.vm.findClass "com/example/anchorline/anchorline/tcap/Dialogue" = some mM.cls := hown
  have hml : cC.maxLocals = 1 := hml
  have N0 := Fr.nil n0
  have ef : entryFrame mM #[(.ref a1)] 1 = mkF mM 0 #[.val (.ref a1)] [] := by first | (simp [entryFrame, mkF, argsToLocals, Value.category]; done) | rfl
  rw [ef]
  show Goes pP eE bB _ (s₁.setTop (mkF mM 0 #[.val (.ref a1)] []))
  refine Goes.step (fun _ kK => XS.aloadN X0.here hx rfl (hb hby own_d3_0) rfl rfl kK) ?_
  show Goes pP eE bB _ (s₁.setTop (mkF mM 1 #[.val (.ref a1)] [(.ref a1)]))
  obtain ⟨T_1, X_1, e_1, st_1⟩ := getF X0 hx hZ hown (host := "") (Or.inl (hw _ (List.mem_of_getElem? (i := 15) rfl))) Via.refl e0 F0 (g := (mkF mM 1 #[.val (.ref a1)] [(.ref a1)])) rfl rfl (hb hby own_d3_1)
  refine Goes.step st_1 ?_
  show Goes pP eE bB _ (T_1.setTop (mkF mM 4 #[.val (.ref a1)] [.null]))
  refine Goes.step (fun _ kK => XS.ifnonnullNo X_1.here hx rfl (hb hby own_d3_4) rfl kK) ?_
  show Goes pP eE bB _ (T_1.setTop (mkF mM 7 #[.val (.ref a1)] []))
  refine Goes.step (fun _ kK => XS.aconstNull X_1.here hx rfl (hb hby own_d3_7) kK) ?_
  show Goes pP eE bB _ (T_1.setTop (mkF mM 8 #[.val (.ref a1)] [.null]))
  refine Goes.step (fun _ kK => XS.goto X_1.here hx rfl (pc0 := 8) (pc' := 21) rfl (hb hby own_d3_8) (by decide) (by decide) kK) ?_
  show Goes pP eE bB _ (T_1.setTop (mkF mM 21 #[.val (.ref a1)] [.null]))
  refine Goes.ret X_1 hx hlk hret rfl (Or.inr (Or.inr (Or.inr (Or.inr ⟨rfl, rfl, rfl⟩)))) (hb hby own_d3_21) (by decide) (by decide) ?_
  exact ⟨rfl, N0, e_1⟩
set_option maxRecDepth 65536 in
set_option maxHeartbeats 40000000 in
theorem rmH0 (l : Launch) (Z : State) (a0 : Array Value) (hw : ∀ d ∈ tables_1, d.before a0 Z = true) (a1 : Addr) (p3 p4 p5 p6 : Int32) (h0 : Heap) (n0 : Nat) (Z0 : n0 ≤ h0.size) (A0 : Afn Z h0 a1 .byte 0 (own_f p3 p4 p5 p6)) :
    Con l Z (⟨"com/example/anchorline/anchorline/tcap/DialogueApplicationContextPinLaw", "holds", "([BIIIII)Z"⟩ : MethodName) method_3_code 7 (some .boolean) ({ frames := 0, cells := 0, slots := 0, locals := 0 } : Room) #[(.ref a1), (.int (0 : Int32)), (.int p3), (.int p4), (.int p5), (.int p6)] h0 (fun v h L => v = some (.int 1) ∧ Fr n0 L ∧ h = h0) := by
  refine Con.body (plainFor_of_name own_pn1) ?_
  intro pP eE sS mM bB mT cC s₁ hx hby hml hZ hown hnm hret hlk X0 e0
  have hown : sS.vm.findClass "com/example/anchorline/anchorline/tcap/DialogueApplicationContextPinLaw" = some mM.cls := hown
  have hml : cC.maxLocals = 7 := hml
  have N0 := Fr.nil n0
  have ef : entryFrame mM #[(.ref a1), (.int (0 : Int32)), (.int p3), (.int p4), (.int p5), (.int p6)] 7 = mkF mM 0 #[.val (.ref a1), .val (.int (0 : Int32)), .val (.int p3), .val (.int p4), .val (.int p5), .val (.int p6), .unset] [] := by first | (simp [entryFrame, mkF, argsToLocals, Value.category]; done) | rfl
  rw [ef]
  show Goes pP eE bB _ (s₁.setTop (mkF mM 0 #[.val (.ref a1), .val (.int (0 : Int32)), .val (.int p3), .val (.int p4), .val (.int p5), .val (.int p6), .unset] []))
  refine Goes.step (fun _ kK => XS.aloadN X0.here hx rfl (hb hby own_d4_0) rfl rfl kK) ?_
  show Goes pP eE bB _ (s₁.setTop (mkF mM 1 #[.val (.ref a1), .val (.int (0 : Int32)), .val (.int p3), .val (.int p4), .val (.int p5), .val (.int p6), .unset] [(.ref a1)]))
  refine Goes.alen X0 hx hZ e0 A0 (z := (0 : Int32)) (by decide) (g := (mkF mM 1 #[.val (.ref a1), .val (.int (0 : Int32)), .val (.int p3), .val (.int p4), .val (.int p5), .val (.int p6), .unset] [(.ref a1)])) rfl rfl (hb hby own_d4_1) ?_
  show Goes pP eE bB _ (s₁.setTop (mkF mM 2 #[.val (.ref a1), .val (.int (0 : Int32)), .val (.int p3), .val (.int p4), .val (.int p5), .val (.int p6), .unset] [(.int (0 : Int32))]))
  refine Goes.step (fun _ kK => XS.iloadN X0.here hx rfl (hb hby own_d4_2) rfl kK) ?_
  show Goes pP eE bB _ (s₁.setTop (mkF mM 3 #[.val (.ref a1), .val (.int (0 : Int32)), .val (.int p3), .val (.int p4), .val (.int p5), .val (.int p6), .unset] [(.int (0 : Int32)), (.int (0 : Int32))]))
  refine Goes.step (fun _ kK => XS.icmpYes X0.here hx rfl (pc0 := 3) (pc' := 8) rfl (hb hby own_d4_3) rfl (teq (by decide)).1 (by decide) (by decide) kK) ?_
  show Goes pP eE bB _ (s₁.setTop (mkF mM 8 #[.val (.ref a1), .val (.int (0 : Int32)), .val (.int p3), .val (.int p4), .val (.int p5), .val (.int p6), .unset] []))
  refine Goes.step (fun _ kK => XS.iconst X0.here hx rfl (hb hby own_d4_8) kK) ?_
  show Goes pP eE bB _ (s₁.setTop (mkF mM 9 #[.val (.ref a1), .val (.int (0 : Int32)), .val (.int p3), .val (.int p4), .val (.int p5), .val (.int p6), .unset] [(.int (1 : Int32))]))
  refine Goes.step (fun _ kK => XS.istore X0.here hx rfl (hb hby own_d4_9) rfl (l' := #[.val (.ref a1), .val (.int (0 : Int32)), .val (.int p3), .val (.int p4), .val (.int p5), .val (.int p6), .val (.int (1 : Int32))]) rfl kK) ?_
  show Goes pP eE bB _ (s₁.setTop (mkF mM 11 #[.val (.ref a1), .val (.int (0 : Int32)), .val (.int p3), .val (.int p4), .val (.int p5), .val (.int p6), .val (.int (1 : Int32))] []))
  refine Goes.step (fun _ kK => XS.iloadN X0.here hx rfl (hb hby own_d4_11) rfl kK) ?_
  show Goes pP eE bB _ (s₁.setTop (mkF mM 12 #[.val (.ref a1), .val (.int (0 : Int32)), .val (.int p3), .val (.int p4), .val (.int p5), .val (.int p6), .val (.int (1 : Int32))] [(.int (0 : Int32))]))
  refine Goes.step (fun _ kK => XS.ifYes X0.here hx rfl (pc0 := 12) (pc' := 35) rfl (hb hby own_d4_12) rfl ((if0 _ _).trans (flt (by decide)).2.2.2) (by decide) (by decide) kK) ?_
  show Goes pP eE bB _ (s₁.setTop (mkF mM 35 #[.val (.ref a1), .val (.int (0 : Int32)), .val (.int p3), .val (.int p4), .val (.int p5), .val (.int p6), .val (.int (1 : Int32))] []))
  refine Goes.step (fun _ kK => XS.iloadN X0.here hx rfl (hb hby own_d4_35) rfl kK) ?_
  show Goes pP eE bB _ (s₁.setTop (mkF mM 36 #[.val (.ref a1), .val (.int (0 : Int32)), .val (.int p3), .val (.int p4), .val (.int p5), .val (.int p6), .val (.int (1 : Int32))] [(.int (0 : Int32))]))
  refine Goes.step (fun _ kK => XS.iconst X0.here hx rfl (hb hby own_d4_36) kK) ?_
  show Goes pP eE bB _ (s₁.setTop (mkF mM 37 #[.val (.ref a1), .val (.int (0 : Int32)), .val (.int p3), .val (.int p4), .val (.int p5), .val (.int p6), .val (.int (1 : Int32))] [(.int (1 : Int32)), (.int (0 : Int32))]))
  refine Goes.step (fun _ kK => XS.icmpYes X0.here hx rfl (pc0 := 37) (pc' := 60) rfl (hb hby own_d4_37) rfl (flt (by decide)).2.2.2 (by decide) (by decide) kK) ?_
  show Goes pP eE bB _ (s₁.setTop (mkF mM 60 #[.val (.ref a1), .val (.int (0 : Int32)), .val (.int p3), .val (.int p4), .val (.int p5), .val (.int p6), .val (.int (1 : Int32))] []))
  refine Goes.step (fun _ kK => XS.iloadN X0.here hx rfl (hb hby own_d4_60) rfl kK) ?_
  show Goes pP eE bB _ (s₁.setTop (mkF mM 61 #[.val (.ref a1), .val (.int (0 : Int32)), .val (.int p3), .val (.int p4), .val (.int p5), .val (.int p6), .val (.int (1 : Int32))] [(.int (0 : Int32))]))
  refine Goes.step (fun _ kK => XS.iconst X0.here hx rfl (hb hby own_d4_61) kK) ?_
  show Goes pP eE bB _ (s₁.setTop (mkF mM 62 #[.val (.ref a1), .val (.int (0 : Int32)), .val (.int p3), .val (.int p4), .val (.int p5), .val (.int p6), .val (.int (1 : Int32))] [(.int (2 : Int32)), (.int (0 : Int32))]))
  refine Goes.step (fun _ kK => XS.icmpYes X0.here hx rfl (pc0 := 62) (pc' := 86) rfl (hb hby own_d4_62) rfl (flt (by decide)).2.2.2 (by decide) (by decide) kK) ?_
  show Goes pP eE bB _ (s₁.setTop (mkF mM 86 #[.val (.ref a1), .val (.int (0 : Int32)), .val (.int p3), .val (.int p4), .val (.int p5), .val (.int p6), .val (.int (1 : Int32))] []))
  refine Goes.step (fun _ kK => XS.iloadN X0.here hx rfl (hb hby own_d4_86) rfl kK) ?_
  show Goes pP eE bB _ (s₁.setTop (mkF mM 87 #[.val (.ref a1), .val (.int (0 : Int32)), .val (.int p3), .val (.int p4), .val (.int p5), .val (.int p6), .val (.int (1 : Int32))] [(.int (0 : Int32))]))
  refine Goes.step (fun _ kK => XS.iconst X0.here hx rfl (hb hby own_d4_87) kK) ?_
  show Goes pP eE bB _ (s₁.setTop (mkF mM 88 #[.val (.ref a1), .val (.int (0 : Int32)), .val (.int p3), .val (.int p4), .val (.int p5), .val (.int p6), .val (.int (1 : Int32))] [(.int (3 : Int32)), (.int (0 : Int32))]))
  refine Goes.step (fun _ kK => XS.icmpYes X0.here hx rfl (pc0 := 88) (pc' := 112) rfl (hb hby own_d4_88) rfl (flt (by decide)).2.2.2 (by decide) (by decide) kK) ?_
  show Goes pP eE bB _ (s₁.setTop (mkF mM 112 #[.val (.ref a1), .val (.int (0 : Int32)), .val (.int p3), .val (.int p4), .val (.int p5), .val (.int p6), .val (.int (1 : Int32))] []))
  refine Goes.step (fun _ kK => XS.iload X0.here hx rfl (hb hby own_d4_112) rfl kK) ?_
  show Goes pP eE bB _ (s₁.setTop (mkF mM 114 #[.val (.ref a1), .val (.int (0 : Int32)), .val (.int p3), .val (.int p4), .val (.int p5), .val (.int p6), .val (.int (1 : Int32))] [(.int (1 : Int32))]))
  refine Goes.retN X0 hx hlk (t := .boolean) hret (by simp) (hb hby own_d4_114) (by decide) (by decide) ?_
  exact ⟨rfl, N0, e0⟩
set_option maxRecDepth 65536 in
set_option maxHeartbeats 40000000 in
theorem rmB0 (l : Launch) (Z : State) (a0 : Array Value) (hw : ∀ d ∈ tables_1, d.before a0 Z = true) (a1 : Addr) (p3 p4 p5 p6 : Int32) (h0 : Heap) (n0 : Nat) (Z0 : n0 ≤ h0.size) (A0 : Afn Z h0 a1 .byte 0 (own_f p3 p4 p5 p6)) (ga : n0 ≤ a1) :
    Con l Z (⟨"com/example/anchorline/anchorline/tcap/DialogueApplicationContextPinLaw", "bump", "([B)V"⟩ : MethodName) method_4_code 1 none ({ frames := 0, cells := 0, slots := 0, locals := 0 } : Room) #[(.ref a1)] h0 (fun v h L => v = none ∧ Fr n0 L ∧ Keep h0 h [a1]) := by
  refine Con.body (plainFor_of_name own_pn1) ?_
  intro pP eE sS mM bB mT cC s₁ hx hby hml hZ hown hnm hret hlk X0 e0
  have hown : sS.vm.findClass "com/example/anchorline/anchorline/tcap/DialogueApplicationContextPinLaw" = some mM.cls := hown
  have hml : cC.maxLocals = 1 := hml
  have N0 := Fr.nil n0
  have ef : entryFrame mM #[(.ref a1)] 1 = mkF mM 0 #[.val (.ref a1)] [] := by first | (simp [entryFrame, mkF, argsToLocals, Value.category]; done) | rfl
  rw [ef]
  show Goes pP eE bB _ (s₁.setTop (mkF mM 0 #[.val (.ref a1)] []))
  refine Goes.step (fun _ kK => XS.aloadN X0.here hx rfl (hb hby own_d5_0) rfl rfl kK) ?_
  show Goes pP eE bB _ (s₁.setTop (mkF mM 1 #[.val (.ref a1)] [(.ref a1)]))
  refine Goes.alen X0 hx hZ e0 A0 (z := (0 : Int32)) (by decide) (g := (mkF mM 1 #[.val (.ref a1)] [(.ref a1)])) rfl rfl (hb hby own_d5_1) ?_
  show Goes pP eE bB _ (s₁.setTop (mkF mM 2 #[.val (.ref a1)] [(.int (0 : Int32))]))
  refine Goes.step (fun _ kK => XS.ifYes X0.here hx rfl (pc0 := 2) (pc' := 14) rfl (hb hby own_d5_2) rfl ((if0 _ _).trans (flt (by decide)).2.2.2) (by decide) (by decide) kK) ?_
  show Goes pP eE bB _ (s₁.setTop (mkF mM 14 #[.val (.ref a1)] []))
  refine Goes.step (fun _ kK => XS.aloadN X0.here hx rfl (hb hby own_d5_14) rfl rfl kK) ?_
  show Goes pP eE bB _ (s₁.setTop (mkF mM 15 #[.val (.ref a1)] [(.ref a1)]))
  refine Goes.alen X0 hx hZ e0 A0 (z := (0 : Int32)) (by decide) (g := (mkF mM 15 #[.val (.ref a1)] [(.ref a1)])) rfl rfl (hb hby own_d5_15) ?_
  show Goes pP eE bB _ (s₁.setTop (mkF mM 16 #[.val (.ref a1)] [(.int (0 : Int32))]))
  refine Goes.step (fun _ kK => XS.iconst X0.here hx rfl (hb hby own_d5_16) kK) ?_
  show Goes pP eE bB _ (s₁.setTop (mkF mM 17 #[.val (.ref a1)] [(.int (1 : Int32)), (.int (0 : Int32))]))
  refine Goes.step (fun _ kK => XS.icmpYes X0.here hx rfl (pc0 := 17) (pc' := 29) rfl (hb hby own_d5_17) rfl (flt (by decide)).2.2.2 (by decide) (by decide) kK) ?_
  show Goes pP eE bB _ (s₁.setTop (mkF mM 29 #[.val (.ref a1)] []))
  refine Goes.step (fun _ kK => XS.aloadN X0.here hx rfl (hb hby own_d5_29) rfl rfl kK) ?_
  show Goes pP eE bB _ (s₁.setTop (mkF mM 30 #[.val (.ref a1)] [(.ref a1)]))
  refine Goes.alen X0 hx hZ e0 A0 (z := (0 : Int32)) (by decide) (g := (mkF mM 30 #[.val (.ref a1)] [(.ref a1)])) rfl rfl (hb hby own_d5_30) ?_
  show Goes pP eE bB _ (s₁.setTop (mkF mM 31 #[.val (.ref a1)] [(.int (0 : Int32))]))
  refine Goes.step (fun _ kK => XS.iconst X0.here hx rfl (hb hby own_d5_31) kK) ?_
  show Goes pP eE bB _ (s₁.setTop (mkF mM 32 #[.val (.ref a1)] [(.int (2 : Int32)), (.int (0 : Int32))]))
  refine Goes.step (fun _ kK => XS.icmpYes X0.here hx rfl (pc0 := 32) (pc' := 44) rfl (hb hby own_d5_32) rfl (flt (by decide)).2.2.2 (by decide) (by decide) kK) ?_
  show Goes pP eE bB _ (s₁.setTop (mkF mM 44 #[.val (.ref a1)] []))
  refine Goes.step (fun _ kK => XS.aloadN X0.here hx rfl (hb hby own_d5_44) rfl rfl kK) ?_
  show Goes pP eE bB _ (s₁.setTop (mkF mM 45 #[.val (.ref a1)] [(.ref a1)]))
  refine Goes.alen X0 hx hZ e0 A0 (z := (0 : Int32)) (by decide) (g := (mkF mM 45 #[.val (.ref a1)] [(.ref a1)])) rfl rfl (hb hby own_d5_45) ?_
  show Goes pP eE bB _ (s₁.setTop (mkF mM 46 #[.val (.ref a1)] [(.int (0 : Int32))]))
  refine Goes.step (fun _ kK => XS.iconst X0.here hx rfl (hb hby own_d5_46) kK) ?_
  show Goes pP eE bB _ (s₁.setTop (mkF mM 47 #[.val (.ref a1)] [(.int (3 : Int32)), (.int (0 : Int32))]))
  refine Goes.step (fun _ kK => XS.icmpYes X0.here hx rfl (pc0 := 47) (pc' := 59) rfl (hb hby own_d5_47) rfl (flt (by decide)).2.2.2 (by decide) (by decide) kK) ?_
  show Goes pP eE bB _ (s₁.setTop (mkF mM 59 #[.val (.ref a1)] []))
  refine Goes.ret0 X0 hx hlk hret (hb hby own_d5_59) (by decide) (by decide) ?_
  exact ⟨rfl, N0, by rw [e0]; exact (Keep.refl h0 [a1])⟩
set_option maxRecDepth 65536 in
set_option maxHeartbeats 40000000 in
theorem rmH1 (l : Launch) (Z : State) (a0 : Array Value) (hw : ∀ d ∈ tables_1, d.before a0 Z = true) (a1 : Addr) (p3 p4 p5 p6 : Int32) (h0 : Heap) (n0 : Nat) (Z0 : n0 ≤ h0.size) (A0 : Afn Z h0 a1 .byte 1 (own_f p3 p4 p5 p6)) :
    Con l Z (⟨"com/example/anchorline/anchorline/tcap/DialogueApplicationContextPinLaw", "holds", "([BIIIII)Z"⟩ : MethodName) method_3_code 7 (some .boolean) ({ frames := 0, cells := 0, slots := 0, locals := 0 } : Room) #[(.ref a1), (.int (1 : Int32)), (.int p3), (.int p4), (.int p5), (.int p6)] h0 (fun v h L => v = some (.int 1) ∧ Fr n0 L ∧ h = h0) := by
  refine Con.body (plainFor_of_name own_pn1) ?_
  intro pP eE sS mM bB mT cC s₁ hx hby hml hZ hown hnm hret hlk X0 e0
  have hown : sS.vm.findClass "com/example/anchorline/anchorline/tcap/DialogueApplicationContextPinLaw" = some mM.cls := hown
  have hml : cC.maxLocals = 7 := hml
  have N0 := Fr.nil n0
  have ef : entryFrame mM #[(.ref a1), (.int (1 : Int32)), (.int p3), (.int p4), (.int p5), (.int p6)] 7 = mkF mM 0 #[.val (.ref a1), .val (.int (1 : Int32)), .val (.int p3), .val (.int p4), .val (.int p5), .val (.int p6), .unset] [] := by first | (simp [entryFrame, mkF, argsToLocals, Value.category]; done) | rfl
  rw [ef]
  show Goes pP eE bB _ (s₁.setTop (mkF mM 0 #[.val (.ref a1), .val (.int (1 : Int32)), .val (.int p3), .val (.int p4), .val (.int p5), .val (.int p6), .unset] []))
  refine Goes.step (fun _ kK => XS.aloadN X0.here hx rfl (hb hby own_d4_0) rfl rfl kK) ?_
  show Goes pP eE bB _ (s₁.setTop (mkF mM 1 #[.val (.ref a1), .val (.int (1 : Int32)), .val (.int p3), .val (.int p4), .val (.int p5), .val (.int p6), .unset] [(.ref a1)]))
  refine Goes.alen X0 hx hZ e0 A0 (z := (1 : Int32)) (by decide) (g := (mkF mM 1 #[.val (.ref a1), .val (.int (1 : Int32)), .val (.int p3), .val (.int p4), .val (.int p5), .val (.int p6), .unset] [(.ref a1)])) rfl rfl (hb hby own_d4_1) ?_
  show Goes pP eE bB _ (s₁.setTop (mkF mM 2 #[.val (.ref a1), .val (.int (1 : Int32)), .val (.int p3), .val (.int p4), .val (.int p5), .val (.int p6), .unset] [(.int (1 : Int32))]))
  refine Goes.step (fun _ kK => XS.iloadN X0.here hx rfl (hb hby own_d4_2) rfl kK) ?_
  show Goes pP eE bB _ (s₁.setTop (mkF mM 3 #[.val (.ref a1), .val (.int (1 : Int32)), .val (.int p3), .val (.int p4), .val (.int p5), .val (.int p6), .unset] [(.int (1 : Int32)), (.int (1 : Int32))]))
  refine Goes.step (fun _ kK => XS.icmpYes X0.here hx rfl (pc0 := 3) (pc' := 8) rfl (hb hby own_d4_3) rfl (teq (by decide)).1 (by decide) (by decide) kK) ?_
  show Goes pP eE bB _ (s₁.setTop (mkF mM 8 #[.val (.ref a1), .val (.int (1 : Int32)), .val (.int p3), .val (.int p4), .val (.int p5), .val (.int p6), .unset] []))
  refine Goes.step (fun _ kK => XS.iconst X0.here hx rfl (hb hby own_d4_8) kK) ?_
  show Goes pP eE bB _ (s₁.setTop (mkF mM 9 #[.val (.ref a1), .val (.int (1 : Int32)), .val (.int p3), .val (.int p4), .val (.int p5), .val (.int p6), .unset] [(.int (1 : Int32))]))
  refine Goes.step (fun _ kK => XS.istore X0.here hx rfl (hb hby own_d4_9) rfl (l' := #[.val (.ref a1), .val (.int (1 : Int32)), .val (.int p3), .val (.int p4), .val (.int p5), .val (.int p6), .val (.int (1 : Int32))]) rfl kK) ?_
  show Goes pP eE bB _ (s₁.setTop (mkF mM 11 #[.val (.ref a1), .val (.int (1 : Int32)), .val (.int p3), .val (.int p4), .val (.int p5), .val (.int p6), .val (.int (1 : Int32))] []))
  refine Goes.step (fun _ kK => XS.iloadN X0.here hx rfl (hb hby own_d4_11) rfl kK) ?_
  show Goes pP eE bB _ (s₁.setTop (mkF mM 12 #[.val (.ref a1), .val (.int (1 : Int32)), .val (.int p3), .val (.int p4), .val (.int p5), .val (.int p6), .val (.int (1 : Int32))] [(.int (1 : Int32))]))
  refine Goes.step (fun _ kK => XS.ifNo X0.here hx rfl (hb hby own_d4_12) rfl ((if0 _ _).trans (tlt (by decide)).2.2.2) kK) ?_
  show Goes pP eE bB _ (s₁.setTop (mkF mM 15 #[.val (.ref a1), .val (.int (1 : Int32)), .val (.int p3), .val (.int p4), .val (.int p5), .val (.int p6), .val (.int (1 : Int32))] []))
  refine Goes.step (fun _ kK => XS.iload X0.here hx rfl (hb hby own_d4_15) rfl kK) ?_
  show Goes pP eE bB _ (s₁.setTop (mkF mM 17 #[.val (.ref a1), .val (.int (1 : Int32)), .val (.int p3), .val (.int p4), .val (.int p5), .val (.int p6), .val (.int (1 : Int32))] [(.int (1 : Int32))]))
  refine Goes.step (fun _ kK => XS.ifNo X0.here hx rfl (hb hby own_d4_17) rfl ((if0 _ _).trans (feq (by decide)).1) kK) ?_
  show Goes pP eE bB _ (s₁.setTop (mkF mM 20 #[.val (.ref a1), .val (.int (1 : Int32)), .val (.int p3), .val (.int p4), .val (.int p5), .val (.int p6), .val (.int (1 : Int32))] []))
  refine Goes.step (fun _ kK => XS.aloadN X0.here hx rfl (hb hby own_d4_20) rfl rfl kK) ?_
  show Goes pP eE bB _ (s₁.setTop (mkF mM 21 #[.val (.ref a1), .val (.int (1 : Int32)), .val (.int p3), .val (.int p4), .val (.int p5), .val (.int p6), .val (.int (1 : Int32))] [(.ref a1)]))
  refine Goes.step (fun _ kK => XS.iconst X0.here hx rfl (hb hby own_d4_21) kK) ?_
  show Goes pP eE bB _ (s₁.setTop (mkF mM 22 #[.val (.ref a1), .val (.int (1 : Int32)), .val (.int p3), .val (.int p4), .val (.int p5), .val (.int p6), .val (.int (1 : Int32))] [(.int (0 : Int32)), (.ref a1)]))
  refine Goes.baload X0 hx hZ e0 A0 (i := 0) (by decide) (by decide) rfl (g := (mkF mM 22 #[.val (.ref a1), .val (.int (1 : Int32)), .val (.int p3), .val (.int p4), .val (.int p5), .val (.int p6), .val (.int (1 : Int32))] [(.int (0 : Int32)), (.ref a1)])) rfl rfl (hb hby own_d4_22) ?_
  show Goes pP eE bB _ (s₁.setTop (mkF mM 23 #[.val (.ref a1), .val (.int (1 : Int32)), .val (.int p3), .val (.int p4), .val (.int p5), .val (.int p6), .val (.int (1 : Int32))] [(.int (p3.toInt8.toInt32))]))
  refine Goes.step (fun _ kK => XS.iloadN X0.here hx rfl (hb hby own_d4_23) rfl kK) ?_
  show Goes pP eE bB _ (s₁.setTop (mkF mM 24 #[.val (.ref a1), .val (.int (1 : Int32)), .val (.int p3), .val (.int p4), .val (.int p5), .val (.int p6), .val (.int (1 : Int32))] [(.int p3), (.int (p3.toInt8.toInt32))]))
  refine Goes.step (fun _ kK => XS.i2b X0.here hx rfl (hb hby own_d4_24) rfl kK) ?_
  show Goes pP eE bB _ (s₁.setTop (mkF mM 25 #[.val (.ref a1), .val (.int (1 : Int32)), .val (.int p3), .val (.int p4), .val (.int p5), .val (.int p6), .val (.int (1 : Int32))] [(.int (p3.toInt8.toInt32)), (.int (p3.toInt8.toInt32))]))
  refine Goes.step (fun _ kK => XS.icmpNo X0.here hx rfl (hb hby own_d4_25) rfl (teq (rfl : (p3.toInt8.toInt32) = (p3.toInt8.toInt32))).2 kK) ?_
  show Goes pP eE bB _ (s₁.setTop (mkF mM 28 #[.val (.ref a1), .val (.int (1 : Int32)), .val (.int p3), .val (.int p4), .val (.int p5), .val (.int p6), .val (.int (1 : Int32))] []))
  refine Goes.step (fun _ kK => XS.iconst X0.here hx rfl (hb hby own_d4_28) kK) ?_
  show Goes pP eE bB _ (s₁.setTop (mkF mM 29 #[.val (.ref a1), .val (.int (1 : Int32)), .val (.int p3), .val (.int p4), .val (.int p5), .val (.int p6), .val (.int (1 : Int32))] [(.int (1 : Int32))]))
  refine Goes.step (fun _ kK => XS.goto X0.here hx rfl (pc0 := 29) (pc' := 33) rfl (hb hby own_d4_29) (by decide) (by decide) kK) ?_
  show Goes pP eE bB _ (s₁.setTop (mkF mM 33 #[.val (.ref a1), .val (.int (1 : Int32)), .val (.int p3), .val (.int p4), .val (.int p5), .val (.int p6), .val (.int (1 : Int32))] [(.int (1 : Int32))]))
  refine Goes.step (fun _ kK => XS.istore X0.here hx rfl (hb hby own_d4_33) rfl (l' := #[.val (.ref a1), .val (.int (1 : Int32)), .val (.int p3), .val (.int p4), .val (.int p5), .val (.int p6), .val (.int (1 : Int32))]) rfl kK) ?_
  show Goes pP eE bB _ (s₁.setTop (mkF mM 35 #[.val (.ref a1), .val (.int (1 : Int32)), .val (.int p3), .val (.int p4), .val (.int p5), .val (.int p6), .val (.int (1 : Int32))] []))
  refine Goes.step (fun _ kK => XS.iloadN X0.here hx rfl (hb hby own_d4_35) rfl kK) ?_
  show Goes pP eE bB _ (s₁.setTop (mkF mM 36 #[.val (.ref a1), .val (.int (1 : Int32)), .val (.int p3), .val (.int p4), .val (.int p5), .val (.int p6), .val (.int (1 : Int32))] [(.int (1 : Int32))]))
  refine Goes.step (fun _ kK => XS.iconst X0.here hx rfl (hb hby own_d4_36) kK) ?_
  show Goes pP eE bB _ (s₁.setTop (mkF mM 37 #[.val (.ref a1), .val (.int (1 : Int32)), .val (.int p3), .val (.int p4), .val (.int p5), .val (.int p6), .val (.int (1 : Int32))] [(.int (1 : Int32)), (.int (1 : Int32))]))
  refine Goes.step (fun _ kK => XS.icmpYes X0.here hx rfl (pc0 := 37) (pc' := 60) rfl (hb hby own_d4_37) rfl (flt (by decide)).2.2.2 (by decide) (by decide) kK) ?_
  show Goes pP eE bB _ (s₁.setTop (mkF mM 60 #[.val (.ref a1), .val (.int (1 : Int32)), .val (.int p3), .val (.int p4), .val (.int p5), .val (.int p6), .val (.int (1 : Int32))] []))
  refine Goes.step (fun _ kK => XS.iloadN X0.here hx rfl (hb hby own_d4_60) rfl kK) ?_
  show Goes pP eE bB _ (s₁.setTop (mkF mM 61 #[.val (.ref a1), .val (.int (1 : Int32)), .val (.int p3), .val (.int p4), .val (.int p5), .val (.int p6), .val (.int (1 : Int32))] [(.int (1 : Int32))]))
  refine Goes.step (fun _ kK => XS.iconst X0.here hx rfl (hb hby own_d4_61) kK) ?_
  show Goes pP eE bB _ (s₁.setTop (mkF mM 62 #[.val (.ref a1), .val (.int (1 : Int32)), .val (.int p3), .val (.int p4), .val (.int p5), .val (.int p6), .val (.int (1 : Int32))] [(.int (2 : Int32)), (.int (1 : Int32))]))
  refine Goes.step (fun _ kK => XS.icmpYes X0.here hx rfl (pc0 := 62) (pc' := 86) rfl (hb hby own_d4_62) rfl (flt (by decide)).2.2.2 (by decide) (by decide) kK) ?_
  show Goes pP eE bB _ (s₁.setTop (mkF mM 86 #[.val (.ref a1), .val (.int (1 : Int32)), .val (.int p3), .val (.int p4), .val (.int p5), .val (.int p6), .val (.int (1 : Int32))] []))
  refine Goes.step (fun _ kK => XS.iloadN X0.here hx rfl (hb hby own_d4_86) rfl kK) ?_
  show Goes pP eE bB _ (s₁.setTop (mkF mM 87 #[.val (.ref a1), .val (.int (1 : Int32)), .val (.int p3), .val (.int p4), .val (.int p5), .val (.int p6), .val (.int (1 : Int32))] [(.int (1 : Int32))]))
  refine Goes.step (fun _ kK => XS.iconst X0.here hx rfl (hb hby own_d4_87) kK) ?_
  show Goes pP eE bB _ (s₁.setTop (mkF mM 88 #[.val (.ref a1), .val (.int (1 : Int32)), .val (.int p3), .val (.int p4), .val (.int p5), .val (.int p6), .val (.int (1 : Int32))] [(.int (3 : Int32)), (.int (1 : Int32))]))
  refine Goes.step (fun _ kK => XS.icmpYes X0.here hx rfl (pc0 := 88) (pc' := 112) rfl (hb hby own_d4_88) rfl (flt (by decide)).2.2.2 (by decide) (by decide) kK) ?_
  show Goes pP eE bB _ (s₁.setTop (mkF mM 112 #[.val (.ref a1), .val (.int (1 : Int32)), .val (.int p3), .val (.int p4), .val (.int p5), .val (.int p6), .val (.int (1 : Int32))] []))
  refine Goes.step (fun _ kK => XS.iload X0.here hx rfl (hb hby own_d4_112) rfl kK) ?_
  show Goes pP eE bB _ (s₁.setTop (mkF mM 114 #[.val (.ref a1), .val (.int (1 : Int32)), .val (.int p3), .val (.int p4), .val (.int p5), .val (.int p6), .val (.int (1 : Int32))] [(.int (1 : Int32))]))
  refine Goes.retN X0 hx hlk (t := .boolean) hret (by simp) (hb hby own_d4_114) (by decide) (by decide) ?_
  exact ⟨rfl, N0, e0⟩
set_option maxRecDepth 65536 in
set_option maxHeartbeats 40000000 in
theorem rmB1 (l : Launch) (Z : State) (a0 : Array Value) (hw : ∀ d ∈ tables_1, d.before a0 Z = true) (a1 : Addr) (p3 p4 p5 p6 : Int32) (h0 : Heap) (n0 : Nat) (Z0 : n0 ≤ h0.size) (A0 : Afn Z h0 a1 .byte 1 (own_f p3 p4 p5 p6)) (ga : n0 ≤ a1) :
    Con l Z (⟨"com/example/anchorline/anchorline/tcap/DialogueApplicationContextPinLaw", "bump", "([B)V"⟩ : MethodName) method_4_code 1 none ({ frames := 0, cells := 0, slots := 0, locals := 0 } : Room) #[(.ref a1)] h0 (fun v h L => v = none ∧ Fr n0 L ∧ Keep h0 h [a1]) := by
  refine Con.body (plainFor_of_name own_pn1) ?_
  intro pP eE sS mM bB mT cC s₁ hx hby hml hZ hown hnm hret hlk X0 e0
  have hown : sS.vm.findClass "com/example/anchorline/anchorline/tcap/DialogueApplicationContextPinLaw" = some mM.cls := hown
  have hml : cC.maxLocals = 1 := hml
  have N0 := Fr.nil n0
  have ef : entryFrame mM #[(.ref a1)] 1 = mkF mM 0 #[.val (.ref a1)] [] := by first | (simp [entryFrame, mkF, argsToLocals, Value.category]; done) | rfl
  rw [ef]
  show Goes pP eE bB _ (s₁.setTop (mkF mM 0 #[.val (.ref a1)] []))
  refine Goes.step (fun _ kK => XS.aloadN X0.here hx rfl (hb hby own_d5_0) rfl rfl kK) ?_
  show Goes pP eE bB _ (s₁.setTop (mkF mM 1 #[.val (.ref a1)] [(.ref a1)]))
  refine Goes.alen X0 hx hZ e0 A0 (z := (1 : Int32)) (by decide) (g := (mkF mM 1 #[.val (.ref a1)] [(.ref a1)])) rfl rfl (hb hby own_d5_1) ?_
  show Goes pP eE bB _ (s₁.setTop (mkF mM 2 #[.val (.ref a1)] [(.int (1 : Int32))]))
  refine Goes.step (fun _ kK => XS.ifNo X0.here hx rfl (hb hby own_d5_2) rfl ((if0 _ _).trans (tlt (by decide)).2.2.2) kK) ?_
  show Goes pP eE bB _ (s₁.setTop (mkF mM 5 #[.val (.ref a1)] []))
  refine Goes.step (fun _ kK => XS.aloadN X0.here hx rfl (hb hby own_d5_5) rfl rfl kK) ?_
  show Goes pP eE bB _ (s₁.setTop (mkF mM 6 #[.val (.ref a1)] [(.ref a1)]))
  refine Goes.step (fun _ kK => XS.iconst X0.here hx rfl (hb hby own_d5_6) kK) ?_
  show Goes pP eE bB _ (s₁.setTop (mkF mM 7 #[.val (.ref a1)] [(.int (0 : Int32)), (.ref a1)]))
  refine Goes.step (fun _ kK => XS.aloadN X0.here hx rfl (hb hby own_d5_7) rfl rfl kK) ?_
  show Goes pP eE bB _ (s₁.setTop (mkF mM 8 #[.val (.ref a1)] [(.ref a1), (.int (0 : Int32)), (.ref a1)]))
  refine Goes.step (fun _ kK => XS.iconst X0.here hx rfl (hb hby own_d5_8) kK) ?_
  show Goes pP eE bB _ (s₁.setTop (mkF mM 9 #[.val (.ref a1)] [(.int (0 : Int32)), (.ref a1), (.int (0 : Int32)), (.ref a1)]))
  refine Goes.baload X0 hx hZ e0 A0 (i := 0) (by decide) (by decide) (by first | rfl | simp [own_f]) (g := (mkF mM 9 #[.val (.ref a1)] [(.int (0 : Int32)), (.ref a1), (.int (0 : Int32)), (.ref a1)])) rfl rfl (hb hby own_d5_9) ?_
  show Goes pP eE bB _ (s₁.setTop (mkF mM 10 #[.val (.ref a1)] [(.int (p3.toInt8.toInt32)), (.int (0 : Int32)), (.ref a1)]))
  refine Goes.step (fun _ kK => XS.iconst X0.here hx rfl (hb hby own_d5_10) kK) ?_
  show Goes pP eE bB _ (s₁.setTop (mkF mM 11 #[.val (.ref a1)] [(.int (1 : Int32)), (.int (p3.toInt8.toInt32)), (.int (0 : Int32)), (.ref a1)]))
  refine Goes.step (fun _ kK => XS.iadd X0.here hx rfl (hb hby own_d5_11) rfl kK) ?_
  show Goes pP eE bB _ (s₁.setTop (mkF mM 12 #[.val (.ref a1)] [(.int ((p3.toInt8.toInt32) + (1 : Int32))), (.int (0 : Int32)), (.ref a1)]))
  refine Goes.step (fun _ kK => XS.i2b X0.here hx rfl (hb hby own_d5_12) rfl kK) ?_
  show Goes pP eE bB _ (s₁.setTop (mkF mM 13 #[.val (.ref a1)] [(.int (((p3.toInt8.toInt32) + (1 : Int32)).toInt8.toInt32)), (.int (0 : Int32)), (.ref a1)]))
  refine Goes.bastore X0 hx hZ e0 A0 (i := 0) (by decide) (by decide) (g := (mkF mM 13 #[.val (.ref a1)] [(.int (((p3.toInt8.toInt32) + (1 : Int32)).toInt8.toInt32)), (.int (0 : Int32)), (.ref a1)])) rfl rfl (hb hby own_d5_13) ?_
  intro T_1 h_1 X_1 e_1 W_1 A_1
  have N_1 := Fr.snoc X_1 N0 ga
  show Goes pP eE bB _ (T_1.setTop (mkF mM 14 #[.val (.ref a1)] []))
  refine Goes.step (fun _ kK => XS.aloadN X_1.here hx rfl (hb hby own_d5_14) rfl rfl kK) ?_
  show Goes pP eE bB _ (T_1.setTop (mkF mM 15 #[.val (.ref a1)] [(.ref a1)]))
  refine Goes.alen X_1 hx hZ e_1 A_1 (z := (1 : Int32)) (by decide) (g := (mkF mM 15 #[.val (.ref a1)] [(.ref a1)])) rfl rfl (hb hby own_d5_15) ?_
  show Goes pP eE bB _ (T_1.setTop (mkF mM 16 #[.val (.ref a1)] [(.int (1 : Int32))]))
  refine Goes.step (fun _ kK => XS.iconst X_1.here hx rfl (hb hby own_d5_16) kK) ?_
  show Goes pP eE bB _ (T_1.setTop (mkF mM 17 #[.val (.ref a1)] [(.int (1 : Int32)), (.int (1 : Int32))]))
  refine Goes.step (fun _ kK => XS.icmpYes X_1.here hx rfl (pc0 := 17) (pc' := 29) rfl (hb hby own_d5_17) rfl (flt (by decide)).2.2.2 (by decide) (by decide) kK) ?_
  show Goes pP eE bB _ (T_1.setTop (mkF mM 29 #[.val (.ref a1)] []))
  refine Goes.step (fun _ kK => XS.aloadN X_1.here hx rfl (hb hby own_d5_29) rfl rfl kK) ?_
  show Goes pP eE bB _ (T_1.setTop (mkF mM 30 #[.val (.ref a1)] [(.ref a1)]))
  refine Goes.alen X_1 hx hZ e_1 A_1 (z := (1 : Int32)) (by decide) (g := (mkF mM 30 #[.val (.ref a1)] [(.ref a1)])) rfl rfl (hb hby own_d5_30) ?_
  show Goes pP eE bB _ (T_1.setTop (mkF mM 31 #[.val (.ref a1)] [(.int (1 : Int32))]))
  refine Goes.step (fun _ kK => XS.iconst X_1.here hx rfl (hb hby own_d5_31) kK) ?_
  show Goes pP eE bB _ (T_1.setTop (mkF mM 32 #[.val (.ref a1)] [(.int (2 : Int32)), (.int (1 : Int32))]))
  refine Goes.step (fun _ kK => XS.icmpYes X_1.here hx rfl (pc0 := 32) (pc' := 44) rfl (hb hby own_d5_32) rfl (flt (by decide)).2.2.2 (by decide) (by decide) kK) ?_
  show Goes pP eE bB _ (T_1.setTop (mkF mM 44 #[.val (.ref a1)] []))
  refine Goes.step (fun _ kK => XS.aloadN X_1.here hx rfl (hb hby own_d5_44) rfl rfl kK) ?_
  show Goes pP eE bB _ (T_1.setTop (mkF mM 45 #[.val (.ref a1)] [(.ref a1)]))
  refine Goes.alen X_1 hx hZ e_1 A_1 (z := (1 : Int32)) (by decide) (g := (mkF mM 45 #[.val (.ref a1)] [(.ref a1)])) rfl rfl (hb hby own_d5_45) ?_
  show Goes pP eE bB _ (T_1.setTop (mkF mM 46 #[.val (.ref a1)] [(.int (1 : Int32))]))
  refine Goes.step (fun _ kK => XS.iconst X_1.here hx rfl (hb hby own_d5_46) kK) ?_
  show Goes pP eE bB _ (T_1.setTop (mkF mM 47 #[.val (.ref a1)] [(.int (3 : Int32)), (.int (1 : Int32))]))
  refine Goes.step (fun _ kK => XS.icmpYes X_1.here hx rfl (pc0 := 47) (pc' := 59) rfl (hb hby own_d5_47) rfl (flt (by decide)).2.2.2 (by decide) (by decide) kK) ?_
  show Goes pP eE bB _ (T_1.setTop (mkF mM 59 #[.val (.ref a1)] []))
  refine Goes.ret0 X_1 hx hlk hret (hb hby own_d5_59) (by decide) (by decide) ?_
  have u_2 := (Keep.refl h0 [a1]).wr W_1 (Or.inl (List.mem_of_getElem? (i := 0) rfl))
  exact ⟨rfl, N_1, by rw [e_1]; exact u_2⟩
set_option maxRecDepth 65536 in
set_option maxHeartbeats 40000000 in
theorem rmH2 (l : Launch) (Z : State) (a0 : Array Value) (hw : ∀ d ∈ tables_1, d.before a0 Z = true) (a1 : Addr) (p3 p4 p5 p6 : Int32) (h0 : Heap) (n0 : Nat) (Z0 : n0 ≤ h0.size) (A0 : Afn Z h0 a1 .byte 2 (own_f p3 p4 p5 p6)) :
    Con l Z (⟨"com/example/anchorline/anchorline/tcap/DialogueApplicationContextPinLaw", "holds", "([BIIIII)Z"⟩ : MethodName) method_3_code 7 (some .boolean) ({ frames := 0, cells := 0, slots := 0, locals := 0 } : Room) #[(.ref a1), (.int (2 : Int32)), (.int p3), (.int p4), (.int p5), (.int p6)] h0 (fun v h L => v = some (.int 1) ∧ Fr n0 L ∧ h = h0) := by
  refine Con.body (plainFor_of_name own_pn1) ?_
  intro pP eE sS mM bB mT cC s₁ hx hby hml hZ hown hnm hret hlk X0 e0
  have hown : sS.vm.findClass "com/example/anchorline/anchorline/tcap/DialogueApplicationContextPinLaw" = some mM.cls := hown
  have hml : cC.maxLocals = 7 := hml
  have N0 := Fr.nil n0
  have ef : entryFrame mM #[(.ref a1), (.int (2 : Int32)), (.int p3), (.int p4), (.int p5), (.int p6)] 7 = mkF mM 0 #[.val (.ref a1), .val (.int (2 : Int32)), .val (.int p3), .val (.int p4), .val (.int p5), .val (.int p6), .unset] [] := by first | (simp [entryFrame, mkF, argsToLocals, Value.category]; done) | rfl
  rw [ef]
  show Goes pP eE bB _ (s₁.setTop (mkF mM 0 #[.val (.ref a1), .val (.int (2 : Int32)), .val (.int p3), .val (.int p4), .val (.int p5), .val (.int p6), .unset] []))
  refine Goes.step (fun _ kK => XS.aloadN X0.here hx rfl (hb hby own_d4_0) rfl rfl kK) ?_
  show Goes pP eE bB _ (s₁.setTop (mkF mM 1 #[.val (.ref a1), .val (.int (2 : Int32)), .val (.int p3), .val (.int p4), .val (.int p5), .val (.int p6), .unset] [(.ref a1)]))
  refine Goes.alen X0 hx hZ e0 A0 (z := (2 : Int32)) (by decide) (g := (mkF mM 1 #[.val (.ref a1), .val (.int (2 : Int32)), .val (.int p3), .val (.int p4), .val (.int p5), .val (.int p6), .unset] [(.ref a1)])) rfl rfl (hb hby own_d4_1) ?_
  show Goes pP eE bB _ (s₁.setTop (mkF mM 2 #[.val (.ref a1), .val (.int (2 : Int32)), .val (.int p3), .val (.int p4), .val (.int p5), .val (.int p6), .unset] [(.int (2 : Int32))]))
  refine Goes.step (fun _ kK => XS.iloadN X0.here hx rfl (hb hby own_d4_2) rfl kK) ?_
  show Goes pP eE bB _ (s₁.setTop (mkF mM 3 #[.val (.ref a1), .val (.int (2 : Int32)), .val (.int p3), .val (.int p4), .val (.int p5), .val (.int p6), .unset] [(.int (2 : Int32)), (.int (2 : Int32))]))
  refine Goes.step (fun _ kK => XS.icmpYes X0.here hx rfl (pc0 := 3) (pc' := 8) rfl (hb hby own_d4_3) rfl (teq (by decide)).1 (by decide) (by decide) kK) ?_
  show Goes pP eE bB _ (s₁.setTop (mkF mM 8 #[.val (.ref a1), .val (.int (2 : Int32)), .val (.int p3), .val (.int p4), .val (.int p5), .val (.int p6), .unset] []))
  refine Goes.step (fun _ kK => XS.iconst X0.here hx rfl (hb hby own_d4_8) kK) ?_
  show Goes pP eE bB _ (s₁.setTop (mkF mM 9 #[.val (.ref a1), .val (.int (2 : Int32)), .val (.int p3), .val (.int p4), .val (.int p5), .val (.int p6), .unset] [(.int (1 : Int32))]))
  refine Goes.step (fun _ kK => XS.istore X0.here hx rfl (hb hby own_d4_9) rfl (l' := #[.val (.ref a1), .val (.int (2 : Int32)), .val (.int p3), .val (.int p4), .val (.int p5), .val (.int p6), .val (.int (1 : Int32))]) rfl kK) ?_
  show Goes pP eE bB _ (s₁.setTop (mkF mM 11 #[.val (.ref a1), .val (.int (2 : Int32)), .val (.int p3), .val (.int p4), .val (.int p5), .val (.int p6), .val (.int (1 : Int32))] []))
  refine Goes.step (fun _ kK => XS.iloadN X0.here hx rfl (hb hby own_d4_11) rfl kK) ?_
  show Goes pP eE bB _ (s₁.setTop (mkF mM 12 #[.val (.ref a1), .val (.int (2 : Int32)), .val (.int p3), .val (.int p4), .val (.int p5), .val (.int p6), .val (.int (1 : Int32))] [(.int (2 : Int32))]))
  refine Goes.step (fun _ kK => XS.ifNo X0.here hx rfl (hb hby own_d4_12) rfl ((if0 _ _).trans (tlt (by decide)).2.2.2) kK) ?_
  show Goes pP eE bB _ (s₁.setTop (mkF mM 15 #[.val (.ref a1), .val (.int (2 : Int32)), .val (.int p3), .val (.int p4), .val (.int p5), .val (.int p6), .val (.int (1 : Int32))] []))
  refine Goes.step (fun _ kK => XS.iload X0.here hx rfl (hb hby own_d4_15) rfl kK) ?_
  show Goes pP eE bB _ (s₁.setTop (mkF mM 17 #[.val (.ref a1), .val (.int (2 : Int32)), .val (.int p3), .val (.int p4), .val (.int p5), .val (.int p6), .val (.int (1 : Int32))] [(.int (1 : Int32))]))
  refine Goes.step (fun _ kK => XS.ifNo X0.here hx rfl (hb hby own_d4_17) rfl ((if0 _ _).trans (feq (by decide)).1) kK) ?_
  show Goes pP eE bB _ (s₁.setTop (mkF mM 20 #[.val (.ref a1), .val (.int (2 : Int32)), .val (.int p3), .val (.int p4), .val (.int p5), .val (.int p6), .val (.int (1 : Int32))] []))
  refine Goes.step (fun _ kK => XS.aloadN X0.here hx rfl (hb hby own_d4_20) rfl rfl kK) ?_
  show Goes pP eE bB _ (s₁.setTop (mkF mM 21 #[.val (.ref a1), .val (.int (2 : Int32)), .val (.int p3), .val (.int p4), .val (.int p5), .val (.int p6), .val (.int (1 : Int32))] [(.ref a1)]))
  refine Goes.step (fun _ kK => XS.iconst X0.here hx rfl (hb hby own_d4_21) kK) ?_
  show Goes pP eE bB _ (s₁.setTop (mkF mM 22 #[.val (.ref a1), .val (.int (2 : Int32)), .val (.int p3), .val (.int p4), .val (.int p5), .val (.int p6), .val (.int (1 : Int32))] [(.int (0 : Int32)), (.ref a1)]))
  refine Goes.baload X0 hx hZ e0 A0 (i := 0) (by decide) (by decide) rfl (g := (mkF mM 22 #[.val (.ref a1), .val (.int (2 : Int32)), .val (.int p3), .val (.int p4), .val (.int p5), .val (.int p6), .val (.int (1 : Int32))] [(.int (0 : Int32)), (.ref a1)])) rfl rfl (hb hby own_d4_22) ?_
  show Goes pP eE bB _ (s₁.setTop (mkF mM 23 #[.val (.ref a1), .val (.int (2 : Int32)), .val (.int p3), .val (.int p4), .val (.int p5), .val (.int p6), .val (.int (1 : Int32))] [(.int (p3.toInt8.toInt32))]))
  refine Goes.step (fun _ kK => XS.iloadN X0.here hx rfl (hb hby own_d4_23) rfl kK) ?_
  show Goes pP eE bB _ (s₁.setTop (mkF mM 24 #[.val (.ref a1), .val (.int (2 : Int32)), .val (.int p3), .val (.int p4), .val (.int p5), .val (.int p6), .val (.int (1 : Int32))] [(.int p3), (.int (p3.toInt8.toInt32))]))
  refine Goes.step (fun _ kK => XS.i2b X0.here hx rfl (hb hby own_d4_24) rfl kK) ?_
  show Goes pP eE bB _ (s₁.setTop (mkF mM 25 #[.val (.ref a1), .val (.int (2 : Int32)), .val (.int p3), .val (.int p4), .val (.int p5), .val (.int p6), .val (.int (1 : Int32))] [(.int (p3.toInt8.toInt32)), (.int (p3.toInt8.toInt32))]))
  refine Goes.step (fun _ kK => XS.icmpNo X0.here hx rfl (hb hby own_d4_25) rfl (teq (rfl : (p3.toInt8.toInt32) = (p3.toInt8.toInt32))).2 kK) ?_
  show Goes pP eE bB _ (s₁.setTop (mkF mM 28 #[.val (.ref a1), .val (.int (2 : Int32)), .val (.int p3), .val (.int p4), .val (.int p5), .val (.int p6), .val (.int (1 : Int32))] []))
  refine Goes.step (fun _ kK => XS.iconst X0.here hx rfl (hb hby own_d4_28) kK) ?_
  show Goes pP eE bB _ (s₁.setTop (mkF mM 29 #[.val (.ref a1), .val (.int (2 : Int32)), .val (.int p3), .val (.int p4), .val (.int p5), .val (.int p6), .val (.int (1 : Int32))] [(.int (1 : Int32))]))
  refine Goes.step (fun _ kK => XS.goto X0.here hx rfl (pc0 := 29) (pc' := 33) rfl (hb hby own_d4_29) (by decide) (by decide) kK) ?_
  show Goes pP eE bB _ (s₁.setTop (mkF mM 33 #[.val (.ref a1), .val (.int (2 : Int32)), .val (.int p3), .val (.int p4), .val (.int p5), .val (.int p6), .val (.int (1 : Int32))] [(.int (1 : Int32))]))
  refine Goes.step (fun _ kK => XS.istore X0.here hx rfl (hb hby own_d4_33) rfl (l' := #[.val (.ref a1), .val (.int (2 : Int32)), .val (.int p3), .val (.int p4), .val (.int p5), .val (.int p6), .val (.int (1 : Int32))]) rfl kK) ?_
  show Goes pP eE bB _ (s₁.setTop (mkF mM 35 #[.val (.ref a1), .val (.int (2 : Int32)), .val (.int p3), .val (.int p4), .val (.int p5), .val (.int p6), .val (.int (1 : Int32))] []))
  refine Goes.step (fun _ kK => XS.iloadN X0.here hx rfl (hb hby own_d4_35) rfl kK) ?_
  show Goes pP eE bB _ (s₁.setTop (mkF mM 36 #[.val (.ref a1), .val (.int (2 : Int32)), .val (.int p3), .val (.int p4), .val (.int p5), .val (.int p6), .val (.int (1 : Int32))] [(.int (2 : Int32))]))
  refine Goes.step (fun _ kK => XS.iconst X0.here hx rfl (hb hby own_d4_36) kK) ?_
  show Goes pP eE bB _ (s₁.setTop (mkF mM 37 #[.val (.ref a1), .val (.int (2 : Int32)), .val (.int p3), .val (.int p4), .val (.int p5), .val (.int p6), .val (.int (1 : Int32))] [(.int (1 : Int32)), (.int (2 : Int32))]))
  refine Goes.step (fun _ kK => XS.icmpNo X0.here hx rfl (hb hby own_d4_37) rfl (tlt (by decide)).2.2.2 kK) ?_
  show Goes pP eE bB _ (s₁.setTop (mkF mM 40 #[.val (.ref a1), .val (.int (2 : Int32)), .val (.int p3), .val (.int p4), .val (.int p5), .val (.int p6), .val (.int (1 : Int32))] []))
  refine Goes.step (fun _ kK => XS.iload X0.here hx rfl (hb hby own_d4_40) rfl kK) ?_
  show Goes pP eE bB _ (s₁.setTop (mkF mM 42 #[.val (.ref a1), .val (.int (2 : Int32)), .val (.int p3), .val (.int p4), .val (.int p5), .val (.int p6), .val (.int (1 : Int32))] [(.int (1 : Int32))]))
  refine Goes.step (fun _ kK => XS.ifNo X0.here hx rfl (hb hby own_d4_42) rfl ((if0 _ _).trans (feq (by decide)).1) kK) ?_
  show Goes pP eE bB _ (s₁.setTop (mkF mM 45 #[.val (.ref a1), .val (.int (2 : Int32)), .val (.int p3), .val (.int p4), .val (.int p5), .val (.int p6), .val (.int (1 : Int32))] []))
  refine Goes.step (fun _ kK => XS.aloadN X0.here hx rfl (hb hby own_d4_45) rfl rfl kK) ?_
  show Goes pP eE bB _ (s₁.setTop (mkF mM 46 #[.val (.ref a1), .val (.int (2 : Int32)), .val (.int p3), .val (.int p4), .val (.int p5), .val (.int p6), .val (.int (1 : Int32))] [(.ref a1)]))
  refine Goes.step (fun _ kK => XS.iconst X0.here hx rfl (hb hby own_d4_46) kK) ?_
  show Goes pP eE bB _ (s₁.setTop (mkF mM 47 #[.val (.ref a1), .val (.int (2 : Int32)), .val (.int p3), .val (.int p4), .val (.int p5), .val (.int p6), .val (.int (1 : Int32))] [(.int (1 : Int32)), (.ref a1)]))
  refine Goes.baload X0 hx hZ e0 A0 (i := 1) (by decide) (by decide) rfl (g := (mkF mM 47 #[.val (.ref a1), .val (.int (2 : Int32)), .val (.int p3), .val (.int p4), .val (.int p5), .val (.int p6), .val (.int (1 : Int32))] [(.int (1 : Int32)), (.ref a1)])) rfl rfl (hb hby own_d4_47) ?_
  show Goes pP eE bB _ (s₁.setTop (mkF mM 48 #[.val (.ref a1), .val (.int (2 : Int32)), .val (.int p3), .val (.int p4), .val (.int p5), .val (.int p6), .val (.int (1 : Int32))] [(.int (p4.toInt8.toInt32))]))
  refine Goes.step (fun _ kK => XS.iloadN X0.here hx rfl (hb hby own_d4_48) rfl kK) ?_
  show Goes pP eE bB _ (s₁.setTop (mkF mM 49 #[.val (.ref a1), .val (.int (2 : Int32)), .val (.int p3), .val (.int p4), .val (.int p5), .val (.int p6), .val (.int (1 : Int32))] [(.int p4), (.int (p4.toInt8.toInt32))]))
  refine Goes.step (fun _ kK => XS.i2b X0.here hx rfl (hb hby own_d4_49) rfl kK) ?_
  show Goes pP eE bB _ (s₁.setTop (mkF mM 50 #[.val (.ref a1), .val (.int (2 : Int32)), .val (.int p3), .val (.int p4), .val (.int p5), .val (.int p6), .val (.int (1 : Int32))] [(.int (p4.toInt8.toInt32)), (.int (p4.toInt8.toInt32))]))
  refine Goes.step (fun _ kK => XS.icmpNo X0.here hx rfl (hb hby own_d4_50) rfl (teq (rfl : (p4.toInt8.toInt32) = (p4.toInt8.toInt32))).2 kK) ?_
  show Goes pP eE bB _ (s₁.setTop (mkF mM 53 #[.val (.ref a1), .val (.int (2 : Int32)), .val (.int p3), .val (.int p4), .val (.int p5), .val (.int p6), .val (.int (1 : Int32))] []))
  refine Goes.step (fun _ kK => XS.iconst X0.here hx rfl (hb hby own_d4_53) kK) ?_
  show Goes pP eE bB _ (s₁.setTop (mkF mM 54 #[.val (.ref a1), .val (.int (2 : Int32)), .val (.int p3), .val (.int p4), .val (.int p5), .val (.int p6), .val (.int (1 : Int32))] [(.int (1 : Int32))]))
  refine Goes.step (fun _ kK => XS.goto X0.here hx rfl (pc0 := 54) (pc' := 58) rfl (hb hby own_d4_54) (by decide) (by decide) kK) ?_
  show Goes pP eE bB _ (s₁.setTop (mkF mM 58 #[.val (.ref a1), .val (.int (2 : Int32)), .val (.int p3), .val (.int p4), .val (.int p5), .val (.int p6), .val (.int (1 : Int32))] [(.int (1 : Int32))]))
  refine Goes.step (fun _ kK => XS.istore X0.here hx rfl (hb hby own_d4_58) rfl (l' := #[.val (.ref a1), .val (.int (2 : Int32)), .val (.int p3), .val (.int p4), .val (.int p5), .val (.int p6), .val (.int (1 : Int32))]) rfl kK) ?_
  show Goes pP eE bB _ (s₁.setTop (mkF mM 60 #[.val (.ref a1), .val (.int (2 : Int32)), .val (.int p3), .val (.int p4), .val (.int p5), .val (.int p6), .val (.int (1 : Int32))] []))
  refine Goes.step (fun _ kK => XS.iloadN X0.here hx rfl (hb hby own_d4_60) rfl kK) ?_
  show Goes pP eE bB _ (s₁.setTop (mkF mM 61 #[.val (.ref a1), .val (.int (2 : Int32)), .val (.int p3), .val (.int p4), .val (.int p5), .val (.int p6), .val (.int (1 : Int32))] [(.int (2 : Int32))]))
  refine Goes.step (fun _ kK => XS.iconst X0.here hx rfl (hb hby own_d4_61) kK) ?_
  show Goes pP eE bB _ (s₁.setTop (mkF mM 62 #[.val (.ref a1), .val (.int (2 : Int32)), .val (.int p3), .val (.int p4), .val (.int p5), .val (.int p6), .val (.int (1 : Int32))] [(.int (2 : Int32)), (.int (2 : Int32))]))
  refine Goes.step (fun _ kK => XS.icmpYes X0.here hx rfl (pc0 := 62) (pc' := 86) rfl (hb hby own_d4_62) rfl (flt (by decide)).2.2.2 (by decide) (by decide) kK) ?_
  show Goes pP eE bB _ (s₁.setTop (mkF mM 86 #[.val (.ref a1), .val (.int (2 : Int32)), .val (.int p3), .val (.int p4), .val (.int p5), .val (.int p6), .val (.int (1 : Int32))] []))
  refine Goes.step (fun _ kK => XS.iloadN X0.here hx rfl (hb hby own_d4_86) rfl kK) ?_
  show Goes pP eE bB _ (s₁.setTop (mkF mM 87 #[.val (.ref a1), .val (.int (2 : Int32)), .val (.int p3), .val (.int p4), .val (.int p5), .val (.int p6), .val (.int (1 : Int32))] [(.int (2 : Int32))]))
  refine Goes.step (fun _ kK => XS.iconst X0.here hx rfl (hb hby own_d4_87) kK) ?_
  show Goes pP eE bB _ (s₁.setTop (mkF mM 88 #[.val (.ref a1), .val (.int (2 : Int32)), .val (.int p3), .val (.int p4), .val (.int p5), .val (.int p6), .val (.int (1 : Int32))] [(.int (3 : Int32)), (.int (2 : Int32))]))
  refine Goes.step (fun _ kK => XS.icmpYes X0.here hx rfl (pc0 := 88) (pc' := 112) rfl (hb hby own_d4_88) rfl (flt (by decide)).2.2.2 (by decide) (by decide) kK) ?_
  show Goes pP eE bB _ (s₁.setTop (mkF mM 112 #[.val (.ref a1), .val (.int (2 : Int32)), .val (.int p3), .val (.int p4), .val (.int p5), .val (.int p6), .val (.int (1 : Int32))] []))
  refine Goes.step (fun _ kK => XS.iload X0.here hx rfl (hb hby own_d4_112) rfl kK) ?_
  show Goes pP eE bB _ (s₁.setTop (mkF mM 114 #[.val (.ref a1), .val (.int (2 : Int32)), .val (.int p3), .val (.int p4), .val (.int p5), .val (.int p6), .val (.int (1 : Int32))] [(.int (1 : Int32))]))
  refine Goes.retN X0 hx hlk (t := .boolean) hret (by simp) (hb hby own_d4_114) (by decide) (by decide) ?_
  exact ⟨rfl, N0, e0⟩
set_option maxRecDepth 65536 in
set_option maxHeartbeats 40000000 in
theorem rmB2 (l : Launch) (Z : State) (a0 : Array Value) (hw : ∀ d ∈ tables_1, d.before a0 Z = true) (a1 : Addr) (p3 p4 p5 p6 : Int32) (h0 : Heap) (n0 : Nat) (Z0 : n0 ≤ h0.size) (A0 : Afn Z h0 a1 .byte 2 (own_f p3 p4 p5 p6)) (ga : n0 ≤ a1) :
    Con l Z (⟨"com/example/anchorline/anchorline/tcap/DialogueApplicationContextPinLaw", "bump", "([B)V"⟩ : MethodName) method_4_code 1 none ({ frames := 0, cells := 0, slots := 0, locals := 0 } : Room) #[(.ref a1)] h0 (fun v h L => v = none ∧ Fr n0 L ∧ Keep h0 h [a1]) := by
  refine Con.body (plainFor_of_name own_pn1) ?_
  intro pP eE sS mM bB mT cC s₁ hx hby hml hZ hown hnm hret hlk X0 e0
  have hown : sS.vm.findClass "com/example/anchorline/anchorline/tcap/DialogueApplicationContextPinLaw" = some mM.cls := hown
  have hml : cC.maxLocals = 1 := hml
  have N0 := Fr.nil n0
  have ef : entryFrame mM #[(.ref a1)] 1 = mkF mM 0 #[.val (.ref a1)] [] := by first | (simp [entryFrame, mkF, argsToLocals, Value.category]; done) | rfl
  rw [ef]
  show Goes pP eE bB _ (s₁.setTop (mkF mM 0 #[.val (.ref a1)] []))
  refine Goes.step (fun _ kK => XS.aloadN X0.here hx rfl (hb hby own_d5_0) rfl rfl kK) ?_
  show Goes pP eE bB _ (s₁.setTop (mkF mM 1 #[.val (.ref a1)] [(.ref a1)]))
  refine Goes.alen X0 hx hZ e0 A0 (z := (2 : Int32)) (by decide) (g := (mkF mM 1 #[.val (.ref a1)] [(.ref a1)])) rfl rfl (hb hby own_d5_1) ?_
  show Goes pP eE bB _ (s₁.setTop (mkF mM 2 #[.val (.ref a1)] [(.int (2 : Int32))]))
  refine Goes.step (fun _ kK => XS.ifNo X0.here hx rfl (hb hby own_d5_2) rfl ((if0 _ _).trans (tlt (by decide)).2.2.2) kK) ?_
  show Goes pP eE bB _ (s₁.setTop (mkF mM 5 #[.val (.ref a1)] []))
  refine Goes.step (fun _ kK => XS.aloadN X0.here hx rfl (hb hby own_d5_5) rfl rfl kK) ?_
  show Goes pP eE bB _ (s₁.setTop (mkF mM 6 #[.val (.ref a1)] [(.ref a1)]))
  refine Goes.step (fun _ kK => XS.iconst X0.here hx rfl (hb hby own_d5_6) kK) ?_
  show Goes pP eE bB _ (s₁.setTop (mkF mM 7 #[.val (.ref a1)] [(.int (0 : Int32)), (.ref a1)]))
  refine Goes.step (fun _ kK => XS.aloadN X0.here hx rfl (hb hby own_d5_7) rfl rfl kK) ?_
  show Goes pP eE bB _ (s₁.setTop (mkF mM 8 #[.val (.ref a1)] [(.ref a1), (.int (0 : Int32)), (.ref a1)]))
  refine Goes.step (fun _ kK => XS.iconst X0.here hx rfl (hb hby own_d5_8) kK) ?_
  show Goes pP eE bB _ (s₁.setTop (mkF mM 9 #[.val (.ref a1)] [(.int (0 : Int32)), (.ref a1), (.int (0 : Int32)), (.ref a1)]))
  refine Goes.baload X0 hx hZ e0 A0 (i := 0) (by decide) (by decide) (by first | rfl | simp [own_f]) (g := (mkF mM 9 #[.val (.ref a1)] [(.int (0 : Int32)), (.ref a1), (.int (0 : Int32)), (.ref a1)])) rfl rfl (hb hby own_d5_9) ?_
  show Goes pP eE bB _ (s₁.setTop (mkF mM 10 #[.val (.ref a1)] [(.int (p3.toInt8.toInt32)), (.int (0 : Int32)), (.ref a1)]))
  refine Goes.step (fun _ kK => XS.iconst X0.here hx rfl (hb hby own_d5_10) kK) ?_
  show Goes pP eE bB _ (s₁.setTop (mkF mM 11 #[.val (.ref a1)] [(.int (1 : Int32)), (.int (p3.toInt8.toInt32)), (.int (0 : Int32)), (.ref a1)]))
  refine Goes.step (fun _ kK => XS.iadd X0.here hx rfl (hb hby own_d5_11) rfl kK) ?_
  show Goes pP eE bB _ (s₁.setTop (mkF mM 12 #[.val (.ref a1)] [(.int ((p3.toInt8.toInt32) + (1 : Int32))), (.int (0 : Int32)), (.ref a1)]))
  refine Goes.step (fun _ kK => XS.i2b X0.here hx rfl (hb hby own_d5_12) rfl kK) ?_
  show Goes pP eE bB _ (s₁.setTop (mkF mM 13 #[.val (.ref a1)] [(.int (((p3.toInt8.toInt32) + (1 : Int32)).toInt8.toInt32)), (.int (0 : Int32)), (.ref a1)]))
  refine Goes.bastore X0 hx hZ e0 A0 (i := 0) (by decide) (by decide) (g := (mkF mM 13 #[.val (.ref a1)] [(.int (((p3.toInt8.toInt32) + (1 : Int32)).toInt8.toInt32)), (.int (0 : Int32)), (.ref a1)])) rfl rfl (hb hby own_d5_13) ?_
  intro T_1 h_1 X_1 e_1 W_1 A_1
  have N_1 := Fr.snoc X_1 N0 ga
  show Goes pP eE bB _ (T_1.setTop (mkF mM 14 #[.val (.ref a1)] []))
  refine Goes.step (fun _ kK => XS.aloadN X_1.here hx rfl (hb hby own_d5_14) rfl rfl kK) ?_
  show Goes pP eE bB _ (T_1.setTop (mkF mM 15 #[.val (.ref a1)] [(.ref a1)]))
  refine Goes.alen X_1 hx hZ e_1 A_1 (z := (2 : Int32)) (by decide) (g := (mkF mM 15 #[.val (.ref a1)] [(.ref a1)])) rfl rfl (hb hby own_d5_15) ?_
  show Goes pP eE bB _ (T_1.setTop (mkF mM 16 #[.val (.ref a1)] [(.int (2 : Int32))]))
  refine Goes.step (fun _ kK => XS.iconst X_1.here hx rfl (hb hby own_d5_16) kK) ?_
  show Goes pP eE bB _ (T_1.setTop (mkF mM 17 #[.val (.ref a1)] [(.int (1 : Int32)), (.int (2 : Int32))]))
  refine Goes.step (fun _ kK => XS.icmpNo X_1.here hx rfl (hb hby own_d5_17) rfl (tlt (by decide)).2.2.2 kK) ?_
  show Goes pP eE bB _ (T_1.setTop (mkF mM 20 #[.val (.ref a1)] []))
  refine Goes.step (fun _ kK => XS.aloadN X_1.here hx rfl (hb hby own_d5_20) rfl rfl kK) ?_
  show Goes pP eE bB _ (T_1.setTop (mkF mM 21 #[.val (.ref a1)] [(.ref a1)]))
  refine Goes.step (fun _ kK => XS.iconst X_1.here hx rfl (hb hby own_d5_21) kK) ?_
  show Goes pP eE bB _ (T_1.setTop (mkF mM 22 #[.val (.ref a1)] [(.int (1 : Int32)), (.ref a1)]))
  refine Goes.step (fun _ kK => XS.aloadN X_1.here hx rfl (hb hby own_d5_22) rfl rfl kK) ?_
  show Goes pP eE bB _ (T_1.setTop (mkF mM 23 #[.val (.ref a1)] [(.ref a1), (.int (1 : Int32)), (.ref a1)]))
  refine Goes.step (fun _ kK => XS.iconst X_1.here hx rfl (hb hby own_d5_23) kK) ?_
  show Goes pP eE bB _ (T_1.setTop (mkF mM 24 #[.val (.ref a1)] [(.int (1 : Int32)), (.ref a1), (.int (1 : Int32)), (.ref a1)]))
  refine Goes.baload X_1 hx hZ e_1 A_1 (i := 1) (by decide) (by decide) (by first | rfl | simp [own_f]) (g := (mkF mM 24 #[.val (.ref a1)] [(.int (1 : Int32)), (.ref a1), (.int (1 : Int32)), (.ref a1)])) rfl rfl (hb hby own_d5_24) ?_
  show Goes pP eE bB _ (T_1.setTop (mkF mM 25 #[.val (.ref a1)] [(.int (p4.toInt8.toInt32)), (.int (1 : Int32)), (.ref a1)]))
  refine Goes.step (fun _ kK => XS.iconst X_1.here hx rfl (hb hby own_d5_25) kK) ?_
  show Goes pP eE bB _ (T_1.setTop (mkF mM 26 #[.val (.ref a1)] [(.int (1 : Int32)), (.int (p4.toInt8.toInt32)), (.int (1 : Int32)), (.ref a1)]))
  refine Goes.step (fun _ kK => XS.iadd X_1.here hx rfl (hb hby own_d5_26) rfl kK) ?_
  show Goes pP eE bB _ (T_1.setTop (mkF mM 27 #[.val (.ref a1)] [(.int ((p4.toInt8.toInt32) + (1 : Int32))), (.int (1 : Int32)), (.ref a1)]))
  refine Goes.step (fun _ kK => XS.i2b X_1.here hx rfl (hb hby own_d5_27) rfl kK) ?_
  show Goes pP eE bB _ (T_1.setTop (mkF mM 28 #[.val (.ref a1)] [(.int (((p4.toInt8.toInt32) + (1 : Int32)).toInt8.toInt32)), (.int (1 : Int32)), (.ref a1)]))
  refine Goes.bastore X_1 hx hZ e_1 A_1 (i := 1) (by decide) (by decide) (g := (mkF mM 28 #[.val (.ref a1)] [(.int (((p4.toInt8.toInt32) + (1 : Int32)).toInt8.toInt32)), (.int (1 : Int32)), (.ref a1)])) rfl rfl (hb hby own_d5_28) ?_
  intro T_2 h_2 X_2 e_2 W_2 A_2
  have N_2 := Fr.snoc X_2 N_1 ga
  show Goes pP eE bB _ (T_2.setTop (mkF mM 29 #[.val (.ref a1)] []))
  refine Goes.step (fun _ kK => XS.aloadN X_2.here hx rfl (hb hby own_d5_29) rfl rfl kK) ?_
  show Goes pP eE bB _ (T_2.setTop (mkF mM 30 #[.val (.ref a1)] [(.ref a1)]))
  refine Goes.alen X_2 hx hZ e_2 A_2 (z := (2 : Int32)) (by decide) (g := (mkF mM 30 #[.val (.ref a1)] [(.ref a1)])) rfl rfl (hb hby own_d5_30) ?_
  show Goes pP eE bB _ (T_2.setTop (mkF mM 31 #[.val (.ref a1)] [(.int (2 : Int32))]))
  refine Goes.step (fun _ kK => XS.iconst X_2.here hx rfl (hb hby own_d5_31) kK) ?_
  show Goes pP eE bB _ (T_2.setTop (mkF mM 32 #[.val (.ref a1)] [(.int (2 : Int32)), (.int (2 : Int32))]))
  refine Goes.step (fun _ kK => XS.icmpYes X_2.here hx rfl (pc0 := 32) (pc' := 44) rfl (hb hby own_d5_32) rfl (flt (by decide)).2.2.2 (by decide) (by decide) kK) ?_
  show Goes pP eE bB _ (T_2.setTop (mkF mM 44 #[.val (.ref a1)] []))
  refine Goes.step (fun _ kK => XS.aloadN X_2.here hx rfl (hb hby own_d5_44) rfl rfl kK) ?_
  show Goes pP eE bB _ (T_2.setTop (mkF mM 45 #[.val (.ref a1)] [(.ref a1)]))
  refine Goes.alen X_2 hx hZ e_2 A_2 (z := (2 : Int32)) (by decide) (g := (mkF mM 45 #[.val (.ref a1)] [(.ref a1)])) rfl rfl (hb hby own_d5_45) ?_
  show Goes pP eE bB _ (T_2.setTop (mkF mM 46 #[.val (.ref a1)] [(.int (2 : Int32))]))
  refine Goes.step (fun _ kK => XS.iconst X_2.here hx rfl (hb hby own_d5_46) kK) ?_
  show Goes pP eE bB _ (T_2.setTop (mkF mM 47 #[.val (.ref a1)] [(.int (3 : Int32)), (.int (2 : Int32))]))
  refine Goes.step (fun _ kK => XS.icmpYes X_2.here hx rfl (pc0 := 47) (pc' := 59) rfl (hb hby own_d5_47) rfl (flt (by decide)).2.2.2 (by decide) (by decide) kK) ?_
  show Goes pP eE bB _ (T_2.setTop (mkF mM 59 #[.val (.ref a1)] []))
  refine Goes.ret0 X_2 hx hlk hret (hb hby own_d5_59) (by decide) (by decide) ?_
  have u_3 := (Keep.refl h0 [a1]).wr W_1 (Or.inl (List.mem_of_getElem? (i := 0) rfl))
  have u_4 := u_3.wr W_2 (Or.inl (List.mem_of_getElem? (i := 0) rfl))
  exact ⟨rfl, N_2, by rw [e_2]; exact u_4⟩
set_option maxRecDepth 65536 in
set_option maxHeartbeats 40000000 in
theorem rmH3 (l : Launch) (Z : State) (a0 : Array Value) (hw : ∀ d ∈ tables_1, d.before a0 Z = true) (a1 : Addr) (p3 p4 p5 p6 : Int32) (h0 : Heap) (n0 : Nat) (Z0 : n0 ≤ h0.size) (A0 : Afn Z h0 a1 .byte 3 (own_f p3 p4 p5 p6)) :
    Con l Z (⟨"com/example/anchorline/anchorline/tcap/DialogueApplicationContextPinLaw", "holds", "([BIIIII)Z"⟩ : MethodName) method_3_code 7 (some .boolean) ({ frames := 0, cells := 0, slots := 0, locals := 0 } : Room) #[(.ref a1), (.int (3 : Int32)), (.int p3), (.int p4), (.int p5), (.int p6)] h0 (fun v h L => v = some (.int 1) ∧ Fr n0 L ∧ h = h0) := by
  refine Con.body (plainFor_of_name own_pn1) ?_
  intro pP eE sS mM bB mT cC s₁ hx hby hml hZ hown hnm hret hlk X0 e0
  have hown : sS.vm.findClass "com/example/anchorline/anchorline/tcap/DialogueApplicationContextPinLaw" = some mM.cls := hown
  have hml : cC.maxLocals = 7 := hml
  have N0 := Fr.nil n0
  have ef : entryFrame mM #[(.ref a1), (.int (3 : Int32)), (.int p3), (.int p4), (.int p5), (.int p6)] 7 = mkF mM 0 #[.val (.ref a1), .val (.int (3 : Int32)), .val (.int p3), .val (.int p4), .val (.int p5), .val (.int p6), .unset] [] := by first | (simp [entryFrame, mkF, argsToLocals, Value.category]; done) | rfl
  rw [ef]
  show Goes pP eE bB _ (s₁.setTop (mkF mM 0 #[.val (.ref a1), .val (.int (3 : Int32)), .val (.int p3), .val (.int p4), .val (.int p5), .val (.int p6), .unset] []))
  refine Goes.step (fun _ kK => XS.aloadN X0.here hx rfl (hb hby own_d4_0) rfl rfl kK) ?_
  show Goes pP eE bB _ (s₁.setTop (mkF mM 1 #[.val (.ref a1), .val (.int (3 : Int32)), .val (.int p3), .val (.int p4), .val (.int p5), .val (.int p6), .unset] [(.ref a1)]))
  refine Goes.alen X0 hx hZ e0 A0 (z := (3 : Int32)) (by decide) (g := (mkF mM 1 #[.val (.ref a1), .val (.int (3 : Int32)), .val (.int p3), .val (.int p4), .val (.int p5), .val (.int p6), .unset] [(.ref a1)])) rfl rfl (hb hby own_d4_1) ?_
  show Goes pP eE bB _ (s₁.setTop (mkF mM 2 #[.val (.ref a1), .val (.int (3 : Int32)), .val (.int p3), .val (.int p4), .val (.int p5), .val (.int p6), .unset] [(.int (3 : Int32))]))
  refine Goes.step (fun _ kK => XS.iloadN X0.here hx rfl (hb hby own_d4_2) rfl kK) ?_
  show Goes pP eE bB _ (s₁.setTop (mkF mM 3 #[.val (.ref a1), .val (.int (3 : Int32)), .val (.int p3), .val (.int p4), .val (.int p5), .val (.int p6), .unset] [(.int (3 : Int32)), (.int (3 : Int32))]))
  refine Goes.step (fun _ kK => XS.icmpYes X0.here hx rfl (pc0 := 3) (pc' := 8) rfl (hb hby own_d4_3) rfl (teq (by decide)).1 (by decide) (by decide) kK) ?_
  show Goes pP eE bB _ (s₁.setTop (mkF mM 8 #[.val (.ref a1), .val (.int (3 : Int32)), .val (.int p3), .val (.int p4), .val (.int p5), .val (.int p6), .unset] []))
  refine Goes.step (fun _ kK => XS.iconst X0.here hx rfl (hb hby own_d4_8) kK) ?_
  show Goes pP eE bB _ (s₁.setTop (mkF mM 9 #[.val (.ref a1), .val (.int (3 : Int32)), .val (.int p3), .val (.int p4), .val (.int p5), .val (.int p6), .unset] [(.int (1 : Int32))]))
  refine Goes.step (fun _ kK => XS.istore X0.here hx rfl (hb hby own_d4_9) rfl (l' := #[.val (.ref a1), .val (.int (3 : Int32)), .val (.int p3), .val (.int p4), .val (.int p5), .val (.int p6), .val (.int (1 : Int32))]) rfl kK) ?_
  show Goes pP eE bB _ (s₁.setTop (mkF mM 11 #[.val (.ref a1), .val (.int (3 : Int32)), .val (.int p3), .val (.int p4), .val (.int p5), .val (.int p6), .val (.int (1 : Int32))] []))
  refine Goes.step (fun _ kK => XS.iloadN X0.here hx rfl (hb hby own_d4_11) rfl kK) ?_
  show Goes pP eE bB _ (s₁.setTop (mkF mM 12 #[.val (.ref a1), .val (.int (3 : Int32)), .val (.int p3), .val (.int p4), .val (.int p5), .val (.int p6), .val (.int (1 : Int32))] [(.int (3 : Int32))]))
  refine Goes.step (fun _ kK => XS.ifNo X0.here hx rfl (hb hby own_d4_12) rfl ((if0 _ _).trans (tlt (by decide)).2.2.2) kK) ?_
  show Goes pP eE bB _ (s₁.setTop (mkF mM 15 #[.val (.ref a1), .val (.int (3 : Int32)), .val (.int p3), .val (.int p4), .val (.int p5), .val (.int p6), .val (.int (1 : Int32))] []))
  refine Goes.step (fun _ kK => XS.iload X0.here hx rfl (hb hby own_d4_15) rfl kK) ?_
  show Goes pP eE bB _ (s₁.setTop (mkF mM 17 #[.val (.ref a1), .val (.int (3 : Int32)), .val (.int p3), .val (.int p4), .val (.int p5), .val (.int p6), .val (.int (1 : Int32))] [(.int (1 : Int32))]))
  refine Goes.step (fun _ kK => XS.ifNo X0.here hx rfl (hb hby own_d4_17) rfl ((if0 _ _).trans (feq (by decide)).1) kK) ?_
  show Goes pP eE bB _ (s₁.setTop (mkF mM 20 #[.val (.ref a1), .val (.int (3 : Int32)), .val (.int p3), .val (.int p4), .val (.int p5), .val (.int p6), .val (.int (1 : Int32))] []))
  refine Goes.step (fun _ kK => XS.aloadN X0.here hx rfl (hb hby own_d4_20) rfl rfl kK) ?_
  show Goes pP eE bB _ (s₁.setTop (mkF mM 21 #[.val (.ref a1), .val (.int (3 : Int32)), .val (.int p3), .val (.int p4), .val (.int p5), .val (.int p6), .val (.int (1 : Int32))] [(.ref a1)]))
  refine Goes.step (fun _ kK => XS.iconst X0.here hx rfl (hb hby own_d4_21) kK) ?_
  show Goes pP eE bB _ (s₁.setTop (mkF mM 22 #[.val (.ref a1), .val (.int (3 : Int32)), .val (.int p3), .val (.int p4), .val (.int p5), .val (.int p6), .val (.int (1 : Int32))] [(.int (0 : Int32)), (.ref a1)]))
  refine Goes.baload X0 hx hZ e0 A0 (i := 0) (by decide) (by decide) rfl (g := (mkF mM 22 #[.val (.ref a1), .val (.int (3 : Int32)), .val (.int p3), .val (.int p4), .val (.int p5), .val (.int p6), .val (.int (1 : Int32))] [(.int (0 : Int32)), (.ref a1)])) rfl rfl (hb hby own_d4_22) ?_
  show Goes pP eE bB _ (s₁.setTop (mkF mM 23 #[.val (.ref a1), .val (.int (3 : Int32)), .val (.int p3), .val (.int p4), .val (.int p5), .val (.int p6), .val (.int (1 : Int32))] [(.int (p3.toInt8.toInt32))]))
  refine Goes.step (fun _ kK => XS.iloadN X0.here hx rfl (hb hby own_d4_23) rfl kK) ?_
  show Goes pP eE bB _ (s₁.setTop (mkF mM 24 #[.val (.ref a1), .val (.int (3 : Int32)), .val (.int p3), .val (.int p4), .val (.int p5), .val (.int p6), .val (.int (1 : Int32))] [(.int p3), (.int (p3.toInt8.toInt32))]))
  refine Goes.step (fun _ kK => XS.i2b X0.here hx rfl (hb hby own_d4_24) rfl kK) ?_
  show Goes pP eE bB _ (s₁.setTop (mkF mM 25 #[.val (.ref a1), .val (.int (3 : Int32)), .val (.int p3), .val (.int p4), .val (.int p5), .val (.int p6), .val (.int (1 : Int32))] [(.int (p3.toInt8.toInt32)), (.int (p3.toInt8.toInt32))]))
  refine Goes.step (fun _ kK => XS.icmpNo X0.here hx rfl (hb hby own_d4_25) rfl (teq (rfl : (p3.toInt8.toInt32) = (p3.toInt8.toInt32))).2 kK) ?_
  show Goes pP eE bB _ (s₁.setTop (mkF mM 28 #[.val (.ref a1), .val (.int (3 : Int32)), .val (.int p3), .val (.int p4), .val (.int p5), .val (.int p6), .val (.int (1 : Int32))] []))
  refine Goes.step (fun _ kK => XS.iconst X0.here hx rfl (hb hby own_d4_28) kK) ?_
  show Goes pP eE bB _ (s₁.setTop (mkF mM 29 #[.val (.ref a1), .val (.int (3 : Int32)), .val (.int p3), .val (.int p4), .val (.int p5), .val (.int p6), .val (.int (1 : Int32))] [(.int (1 : Int32))]))
  refine Goes.step (fun _ kK => XS.goto X0.here hx rfl (pc0 := 29) (pc' := 33) rfl (hb hby own_d4_29) (by decide) (by decide) kK) ?_
  show Goes pP eE bB _ (s₁.setTop (mkF mM 33 #[.val (.ref a1), .val (.int (3 : Int32)), .val (.int p3), .val (.int p4), .val (.int p5), .val (.int p6), .val (.int (1 : Int32))] [(.int (1 : Int32))]))
  refine Goes.step (fun _ kK => XS.istore X0.here hx rfl (hb hby own_d4_33) rfl (l' := #[.val (.ref a1), .val (.int (3 : Int32)), .val (.int p3), .val (.int p4), .val (.int p5), .val (.int p6), .val (.int (1 : Int32))]) rfl kK) ?_
  show Goes pP eE bB _ (s₁.setTop (mkF mM 35 #[.val (.ref a1), .val (.int (3 : Int32)), .val (.int p3), .val (.int p4), .val (.int p5), .val (.int p6), .val (.int (1 : Int32))] []))
  refine Goes.step (fun _ kK => XS.iloadN X0.here hx rfl (hb hby own_d4_35) rfl kK) ?_
  show Goes pP eE bB _ (s₁.setTop (mkF mM 36 #[.val (.ref a1), .val (.int (3 : Int32)), .val (.int p3), .val (.int p4), .val (.int p5), .val (.int p6), .val (.int (1 : Int32))] [(.int (3 : Int32))]))
  refine Goes.step (fun _ kK => XS.iconst X0.here hx rfl (hb hby own_d4_36) kK) ?_
  show Goes pP eE bB _ (s₁.setTop (mkF mM 37 #[.val (.ref a1), .val (.int (3 : Int32)), .val (.int p3), .val (.int p4), .val (.int p5), .val (.int p6), .val (.int (1 : Int32))] [(.int (1 : Int32)), (.int (3 : Int32))]))
  refine Goes.step (fun _ kK => XS.icmpNo X0.here hx rfl (hb hby own_d4_37) rfl (tlt (by decide)).2.2.2 kK) ?_
  show Goes pP eE bB _ (s₁.setTop (mkF mM 40 #[.val (.ref a1), .val (.int (3 : Int32)), .val (.int p3), .val (.int p4), .val (.int p5), .val (.int p6), .val (.int (1 : Int32))] []))
  refine Goes.step (fun _ kK => XS.iload X0.here hx rfl (hb hby own_d4_40) rfl kK) ?_
  show Goes pP eE bB _ (s₁.setTop (mkF mM 42 #[.val (.ref a1), .val (.int (3 : Int32)), .val (.int p3), .val (.int p4), .val (.int p5), .val (.int p6), .val (.int (1 : Int32))] [(.int (1 : Int32))]))
  refine Goes.step (fun _ kK => XS.ifNo X0.here hx rfl (hb hby own_d4_42) rfl ((if0 _ _).trans (feq (by decide)).1) kK) ?_
  show Goes pP eE bB _ (s₁.setTop (mkF mM 45 #[.val (.ref a1), .val (.int (3 : Int32)), .val (.int p3), .val (.int p4), .val (.int p5), .val (.int p6), .val (.int (1 : Int32))] []))
  refine Goes.step (fun _ kK => XS.aloadN X0.here hx rfl (hb hby own_d4_45) rfl rfl kK) ?_
  show Goes pP eE bB _ (s₁.setTop (mkF mM 46 #[.val (.ref a1), .val (.int (3 : Int32)), .val (.int p3), .val (.int p4), .val (.int p5), .val (.int p6), .val (.int (1 : Int32))] [(.ref a1)]))
  refine Goes.step (fun _ kK => XS.iconst X0.here hx rfl (hb hby own_d4_46) kK) ?_
  show Goes pP eE bB _ (s₁.setTop (mkF mM 47 #[.val (.ref a1), .val (.int (3 : Int32)), .val (.int p3), .val (.int p4), .val (.int p5), .val (.int p6), .val (.int (1 : Int32))] [(.int (1 : Int32)), (.ref a1)]))
  refine Goes.baload X0 hx hZ e0 A0 (i := 1) (by decide) (by decide) rfl (g := (mkF mM 47 #[.val (.ref a1), .val (.int (3 : Int32)), .val (.int p3), .val (.int p4), .val (.int p5), .val (.int p6), .val (.int (1 : Int32))] [(.int (1 : Int32)), (.ref a1)])) rfl rfl (hb hby own_d4_47) ?_
  show Goes pP eE bB _ (s₁.setTop (mkF mM 48 #[.val (.ref a1), .val (.int (3 : Int32)), .val (.int p3), .val (.int p4), .val (.int p5), .val (.int p6), .val (.int (1 : Int32))] [(.int (p4.toInt8.toInt32))]))
  refine Goes.step (fun _ kK => XS.iloadN X0.here hx rfl (hb hby own_d4_48) rfl kK) ?_
  show Goes pP eE bB _ (s₁.setTop (mkF mM 49 #[.val (.ref a1), .val (.int (3 : Int32)), .val (.int p3), .val (.int p4), .val (.int p5), .val (.int p6), .val (.int (1 : Int32))] [(.int p4), (.int (p4.toInt8.toInt32))]))
  refine Goes.step (fun _ kK => XS.i2b X0.here hx rfl (hb hby own_d4_49) rfl kK) ?_
  show Goes pP eE bB _ (s₁.setTop (mkF mM 50 #[.val (.ref a1), .val (.int (3 : Int32)), .val (.int p3), .val (.int p4), .val (.int p5), .val (.int p6), .val (.int (1 : Int32))] [(.int (p4.toInt8.toInt32)), (.int (p4.toInt8.toInt32))]))
  refine Goes.step (fun _ kK => XS.icmpNo X0.here hx rfl (hb hby own_d4_50) rfl (teq (rfl : (p4.toInt8.toInt32) = (p4.toInt8.toInt32))).2 kK) ?_
  show Goes pP eE bB _ (s₁.setTop (mkF mM 53 #[.val (.ref a1), .val (.int (3 : Int32)), .val (.int p3), .val (.int p4), .val (.int p5), .val (.int p6), .val (.int (1 : Int32))] []))
  refine Goes.step (fun _ kK => XS.iconst X0.here hx rfl (hb hby own_d4_53) kK) ?_
  show Goes pP eE bB _ (s₁.setTop (mkF mM 54 #[.val (.ref a1), .val (.int (3 : Int32)), .val (.int p3), .val (.int p4), .val (.int p5), .val (.int p6), .val (.int (1 : Int32))] [(.int (1 : Int32))]))
  refine Goes.step (fun _ kK => XS.goto X0.here hx rfl (pc0 := 54) (pc' := 58) rfl (hb hby own_d4_54) (by decide) (by decide) kK) ?_
  show Goes pP eE bB _ (s₁.setTop (mkF mM 58 #[.val (.ref a1), .val (.int (3 : Int32)), .val (.int p3), .val (.int p4), .val (.int p5), .val (.int p6), .val (.int (1 : Int32))] [(.int (1 : Int32))]))
  refine Goes.step (fun _ kK => XS.istore X0.here hx rfl (hb hby own_d4_58) rfl (l' := #[.val (.ref a1), .val (.int (3 : Int32)), .val (.int p3), .val (.int p4), .val (.int p5), .val (.int p6), .val (.int (1 : Int32))]) rfl kK) ?_
  show Goes pP eE bB _ (s₁.setTop (mkF mM 60 #[.val (.ref a1), .val (.int (3 : Int32)), .val (.int p3), .val (.int p4), .val (.int p5), .val (.int p6), .val (.int (1 : Int32))] []))
  refine Goes.step (fun _ kK => XS.iloadN X0.here hx rfl (hb hby own_d4_60) rfl kK) ?_
  show Goes pP eE bB _ (s₁.setTop (mkF mM 61 #[.val (.ref a1), .val (.int (3 : Int32)), .val (.int p3), .val (.int p4), .val (.int p5), .val (.int p6), .val (.int (1 : Int32))] [(.int (3 : Int32))]))
  refine Goes.step (fun _ kK => XS.iconst X0.here hx rfl (hb hby own_d4_61) kK) ?_
  show Goes pP eE bB _ (s₁.setTop (mkF mM 62 #[.val (.ref a1), .val (.int (3 : Int32)), .val (.int p3), .val (.int p4), .val (.int p5), .val (.int p6), .val (.int (1 : Int32))] [(.int (2 : Int32)), (.int (3 : Int32))]))
  refine Goes.step (fun _ kK => XS.icmpNo X0.here hx rfl (hb hby own_d4_62) rfl (tlt (by decide)).2.2.2 kK) ?_
  show Goes pP eE bB _ (s₁.setTop (mkF mM 65 #[.val (.ref a1), .val (.int (3 : Int32)), .val (.int p3), .val (.int p4), .val (.int p5), .val (.int p6), .val (.int (1 : Int32))] []))
  refine Goes.step (fun _ kK => XS.iload X0.here hx rfl (hb hby own_d4_65) rfl kK) ?_
  show Goes pP eE bB _ (s₁.setTop (mkF mM 67 #[.val (.ref a1), .val (.int (3 : Int32)), .val (.int p3), .val (.int p4), .val (.int p5), .val (.int p6), .val (.int (1 : Int32))] [(.int (1 : Int32))]))
  refine Goes.step (fun _ kK => XS.ifNo X0.here hx rfl (hb hby own_d4_67) rfl ((if0 _ _).trans (feq (by decide)).1) kK) ?_
  show Goes pP eE bB _ (s₁.setTop (mkF mM 70 #[.val (.ref a1), .val (.int (3 : Int32)), .val (.int p3), .val (.int p4), .val (.int p5), .val (.int p6), .val (.int (1 : Int32))] []))
  refine Goes.step (fun _ kK => XS.aloadN X0.here hx rfl (hb hby own_d4_70) rfl rfl kK) ?_
  show Goes pP eE bB _ (s₁.setTop (mkF mM 71 #[.val (.ref a1), .val (.int (3 : Int32)), .val (.int p3), .val (.int p4), .val (.int p5), .val (.int p6), .val (.int (1 : Int32))] [(.ref a1)]))
  refine Goes.step (fun _ kK => XS.iconst X0.here hx rfl (hb hby own_d4_71) kK) ?_
  show Goes pP eE bB _ (s₁.setTop (mkF mM 72 #[.val (.ref a1), .val (.int (3 : Int32)), .val (.int p3), .val (.int p4), .val (.int p5), .val (.int p6), .val (.int (1 : Int32))] [(.int (2 : Int32)), (.ref a1)]))
  refine Goes.baload X0 hx hZ e0 A0 (i := 2) (by decide) (by decide) rfl (g := (mkF mM 72 #[.val (.ref a1), .val (.int (3 : Int32)), .val (.int p3), .val (.int p4), .val (.int p5), .val (.int p6), .val (.int (1 : Int32))] [(.int (2 : Int32)), (.ref a1)])) rfl rfl (hb hby own_d4_72) ?_
  show Goes pP eE bB _ (s₁.setTop (mkF mM 73 #[.val (.ref a1), .val (.int (3 : Int32)), .val (.int p3), .val (.int p4), .val (.int p5), .val (.int p6), .val (.int (1 : Int32))] [(.int (p5.toInt8.toInt32))]))
  refine Goes.step (fun _ kK => XS.iload X0.here hx rfl (hb hby own_d4_73) rfl kK) ?_
  show Goes pP eE bB _ (s₁.setTop (mkF mM 75 #[.val (.ref a1), .val (.int (3 : Int32)), .val (.int p3), .val (.int p4), .val (.int p5), .val (.int p6), .val (.int (1 : Int32))] [(.int p5), (.int (p5.toInt8.toInt32))]))
  refine Goes.step (fun _ kK => XS.i2b X0.here hx rfl (hb hby own_d4_75) rfl kK) ?_
  show Goes pP eE bB _ (s₁.setTop (mkF mM 76 #[.val (.ref a1), .val (.int (3 : Int32)), .val (.int p3), .val (.int p4), .val (.int p5), .val (.int p6), .val (.int (1 : Int32))] [(.int (p5.toInt8.toInt32)), (.int (p5.toInt8.toInt32))]))
  refine Goes.step (fun _ kK => XS.icmpNo X0.here hx rfl (hb hby own_d4_76) rfl (teq (rfl : (p5.toInt8.toInt32) = (p5.toInt8.toInt32))).2 kK) ?_
  show Goes pP eE bB _ (s₁.setTop (mkF mM 79 #[.val (.ref a1), .val (.int (3 : Int32)), .val (.int p3), .val (.int p4), .val (.int p5), .val (.int p6), .val (.int (1 : Int32))] []))
  refine Goes.step (fun _ kK => XS.iconst X0.here hx rfl (hb hby own_d4_79) kK) ?_
  show Goes pP eE bB _ (s₁.setTop (mkF mM 80 #[.val (.ref a1), .val (.int (3 : Int32)), .val (.int p3), .val (.int p4), .val (.int p5), .val (.int p6), .val (.int (1 : Int32))] [(.int (1 : Int32))]))
  refine Goes.step (fun _ kK => XS.goto X0.here hx rfl (pc0 := 80) (pc' := 84) rfl (hb hby own_d4_80) (by decide) (by decide) kK) ?_
  show Goes pP eE bB _ (s₁.setTop (mkF mM 84 #[.val (.ref a1), .val (.int (3 : Int32)), .val (.int p3), .val (.int p4), .val (.int p5), .val (.int p6), .val (.int (1 : Int32))] [(.int (1 : Int32))]))
  refine Goes.step (fun _ kK => XS.istore X0.here hx rfl (hb hby own_d4_84) rfl (l' := #[.val (.ref a1), .val (.int (3 : Int32)), .val (.int p3), .val (.int p4), .val (.int p5), .val (.int p6), .val (.int (1 : Int32))]) rfl kK) ?_
  show Goes pP eE bB _ (s₁.setTop (mkF mM 86 #[.val (.ref a1), .val (.int (3 : Int32)), .val (.int p3), .val (.int p4), .val (.int p5), .val (.int p6), .val (.int (1 : Int32))] []))
  refine Goes.step (fun _ kK => XS.iloadN X0.here hx rfl (hb hby own_d4_86) rfl kK) ?_
  show Goes pP eE bB _ (s₁.setTop (mkF mM 87 #[.val (.ref a1), .val (.int (3 : Int32)), .val (.int p3), .val (.int p4), .val (.int p5), .val (.int p6), .val (.int (1 : Int32))] [(.int (3 : Int32))]))
  refine Goes.step (fun _ kK => XS.iconst X0.here hx rfl (hb hby own_d4_87) kK) ?_
  show Goes pP eE bB _ (s₁.setTop (mkF mM 88 #[.val (.ref a1), .val (.int (3 : Int32)), .val (.int p3), .val (.int p4), .val (.int p5), .val (.int p6), .val (.int (1 : Int32))] [(.int (3 : Int32)), (.int (3 : Int32))]))
  refine Goes.step (fun _ kK => XS.icmpYes X0.here hx rfl (pc0 := 88) (pc' := 112) rfl (hb hby own_d4_88) rfl (flt (by decide)).2.2.2 (by decide) (by decide) kK) ?_
  show Goes pP eE bB _ (s₁.setTop (mkF mM 112 #[.val (.ref a1), .val (.int (3 : Int32)), .val (.int p3), .val (.int p4), .val (.int p5), .val (.int p6), .val (.int (1 : Int32))] []))
  refine Goes.step (fun _ kK => XS.iload X0.here hx rfl (hb hby own_d4_112) rfl kK) ?_
  show Goes pP eE bB _ (s₁.setTop (mkF mM 114 #[.val (.ref a1), .val (.int (3 : Int32)), .val (.int p3), .val (.int p4), .val (.int p5), .val (.int p6), .val (.int (1 : Int32))] [(.int (1 : Int32))]))
  refine Goes.retN X0 hx hlk (t := .boolean) hret (by simp) (hb hby own_d4_114) (by decide) (by decide) ?_
  exact ⟨rfl, N0, e0⟩
set_option maxRecDepth 65536 in
set_option maxHeartbeats 40000000 in
theorem rmB3 (l : Launch) (Z : State) (a0 : Array Value) (hw : ∀ d ∈ tables_1, d.before a0 Z = true) (a1 : Addr) (p3 p4 p5 p6 : Int32) (h0 : Heap) (n0 : Nat) (Z0 : n0 ≤ h0.size) (A0 : Afn Z h0 a1 .byte 3 (own_f p3 p4 p5 p6)) (ga : n0 ≤ a1) :
    Con l Z (⟨"com/example/anchorline/anchorline/tcap/DialogueApplicationContextPinLaw", "bump", "([B)V"⟩ : MethodName) method_4_code 1 none ({ frames := 0, cells := 0, slots := 0, locals := 0 } : Room) #[(.ref a1)] h0 (fun v h L => v = none ∧ Fr n0 L ∧ Keep h0 h [a1]) := by
  refine Con.body (plainFor_of_name own_pn1) ?_
  intro pP eE sS mM bB mT cC s₁ hx hby hml hZ hown hnm hret hlk X0 e0
  have hown : sS.vm.findClass "com/example/anchorline/anchorline/tcap/DialogueApplicationContextPinLaw" = some mM.cls := hown
  have hml : cC.maxLocals = 1 := hml
  have N0 := Fr.nil n0
  have ef : entryFrame mM #[(.ref a1)] 1 = mkF mM 0 #[.val (.ref a1)] [] := by first | (simp [entryFrame, mkF, argsToLocals, Value.category]; done) | rfl
  rw [ef]
  show Goes pP eE bB _ (s₁.setTop (mkF mM 0 #[.val (.ref a1)] []))
  refine Goes.step (fun _ kK => XS.aloadN X0.here hx rfl (hb hby own_d5_0) rfl rfl kK) ?_
  show Goes pP eE bB _ (s₁.setTop (mkF mM 1 #[.val (.ref a1)] [(.ref a1)]))
  refine Goes.alen X0 hx hZ e0 A0 (z := (3 : Int32)) (by decide) (g := (mkF mM 1 #[.val (.ref a1)] [(.ref a1)])) rfl rfl (hb hby own_d5_1) ?_
  show Goes pP eE bB _ (s₁.setTop (mkF mM 2 #[.val (.ref a1)] [(.int (3 : Int32))]))
  refine Goes.step (fun _ kK => XS.ifNo X0.here hx rfl (hb hby own_d5_2) rfl ((if0 _ _).trans (tlt (by decide)).2.2.2) kK) ?_
  show Goes pP eE bB _ (s₁.setTop (mkF mM 5 #[.val (.ref a1)] []))
  refine Goes.step (fun _ kK => XS.aloadN X0.here hx rfl (hb hby own_d5_5) rfl rfl kK) ?_
  show Goes pP eE bB _ (s₁.setTop (mkF mM 6 #[.val (.ref a1)] [(.ref a1)]))
  refine Goes.step (fun _ kK => XS.iconst X0.here hx rfl (hb hby own_d5_6) kK) ?_
  show Goes pP eE bB _ (s₁.setTop (mkF mM 7 #[.val (.ref a1)] [(.int (0 : Int32)), (.ref a1)]))
  refine Goes.step (fun _ kK => XS.aloadN X0.here hx rfl (hb hby own_d5_7) rfl rfl kK) ?_
  show Goes pP eE bB _ (s₁.setTop (mkF mM 8 #[.val (.ref a1)] [(.ref a1), (.int (0 : Int32)), (.ref a1)]))
  refine Goes.step (fun _ kK => XS.iconst X0.here hx rfl (hb hby own_d5_8) kK) ?_
  show Goes pP eE bB _ (s₁.setTop (mkF mM 9 #[.val (.ref a1)] [(.int (0 : Int32)), (.ref a1), (.int (0 : Int32)), (.ref a1)]))
  refine Goes.baload X0 hx hZ e0 A0 (i := 0) (by decide) (by decide) (by first | rfl | simp [own_f]) (g := (mkF mM 9 #[.val (.ref a1)] [(.int (0 : Int32)), (.ref a1), (.int (0 : Int32)), (.ref a1)])) rfl rfl (hb hby own_d5_9) ?_
  show Goes pP eE bB _ (s₁.setTop (mkF mM 10 #[.val (.ref a1)] [(.int (p3.toInt8.toInt32)), (.int (0 : Int32)), (.ref a1)]))
  refine Goes.step (fun _ kK => XS.iconst X0.here hx rfl (hb hby own_d5_10) kK) ?_
  show Goes pP eE bB _ (s₁.setTop (mkF mM 11 #[.val (.ref a1)] [(.int (1 : Int32)), (.int (p3.toInt8.toInt32)), (.int (0 : Int32)), (.ref a1)]))
  refine Goes.step (fun _ kK => XS.iadd X0.here hx rfl (hb hby own_d5_11) rfl kK) ?_
  show Goes pP eE bB _ (s₁.setTop (mkF mM 12 #[.val (.ref a1)] [(.int ((p3.toInt8.toInt32) + (1 : Int32))), (.int (0 : Int32)), (.ref a1)]))
  refine Goes.step (fun _ kK => XS.i2b X0.here hx rfl (hb hby own_d5_12) rfl kK) ?_
  show Goes pP eE bB _ (s₁.setTop (mkF mM 13 #[.val (.ref a1)] [(.int (((p3.toInt8.toInt32) + (1 : Int32)).toInt8.toInt32)), (.int (0 : Int32)), (.ref a1)]))
  refine Goes.bastore X0 hx hZ e0 A0 (i := 0) (by decide) (by decide) (g := (mkF mM 13 #[.val (.ref a1)] [(.int (((p3.toInt8.toInt32) + (1 : Int32)).toInt8.toInt32)), (.int (0 : Int32)), (.ref a1)])) rfl rfl (hb hby own_d5_13) ?_
  intro T_1 h_1 X_1 e_1 W_1 A_1
  have N_1 := Fr.snoc X_1 N0 ga
  show Goes pP eE bB _ (T_1.setTop (mkF mM 14 #[.val (.ref a1)] []))
  refine Goes.step (fun _ kK => XS.aloadN X_1.here hx rfl (hb hby own_d5_14) rfl rfl kK) ?_
  show Goes pP eE bB _ (T_1.setTop (mkF mM 15 #[.val (.ref a1)] [(.ref a1)]))
  refine Goes.alen X_1 hx hZ e_1 A_1 (z := (3 : Int32)) (by decide) (g := (mkF mM 15 #[.val (.ref a1)] [(.ref a1)])) rfl rfl (hb hby own_d5_15) ?_
  show Goes pP eE bB _ (T_1.setTop (mkF mM 16 #[.val (.ref a1)] [(.int (3 : Int32))]))
  refine Goes.step (fun _ kK => XS.iconst X_1.here hx rfl (hb hby own_d5_16) kK) ?_
  show Goes pP eE bB _ (T_1.setTop (mkF mM 17 #[.val (.ref a1)] [(.int (1 : Int32)), (.int (3 : Int32))]))
  refine Goes.step (fun _ kK => XS.icmpNo X_1.here hx rfl (hb hby own_d5_17) rfl (tlt (by decide)).2.2.2 kK) ?_
  show Goes pP eE bB _ (T_1.setTop (mkF mM 20 #[.val (.ref a1)] []))
  refine Goes.step (fun _ kK => XS.aloadN X_1.here hx rfl (hb hby own_d5_20) rfl rfl kK) ?_
  show Goes pP eE bB _ (T_1.setTop (mkF mM 21 #[.val (.ref a1)] [(.ref a1)]))
  refine Goes.step (fun _ kK => XS.iconst X_1.here hx rfl (hb hby own_d5_21) kK) ?_
  show Goes pP eE bB _ (T_1.setTop (mkF mM 22 #[.val (.ref a1)] [(.int (1 : Int32)), (.ref a1)]))
  refine Goes.step (fun _ kK => XS.aloadN X_1.here hx rfl (hb hby own_d5_22) rfl rfl kK) ?_
  show Goes pP eE bB _ (T_1.setTop (mkF mM 23 #[.val (.ref a1)] [(.ref a1), (.int (1 : Int32)), (.ref a1)]))
  refine Goes.step (fun _ kK => XS.iconst X_1.here hx rfl (hb hby own_d5_23) kK) ?_
  show Goes pP eE bB _ (T_1.setTop (mkF mM 24 #[.val (.ref a1)] [(.int (1 : Int32)), (.ref a1), (.int (1 : Int32)), (.ref a1)]))
  refine Goes.baload X_1 hx hZ e_1 A_1 (i := 1) (by decide) (by decide) (by first | rfl | simp [own_f]) (g := (mkF mM 24 #[.val (.ref a1)] [(.int (1 : Int32)), (.ref a1), (.int (1 : Int32)), (.ref a1)])) rfl rfl (hb hby own_d5_24) ?_
  show Goes pP eE bB _ (T_1.setTop (mkF mM 25 #[.val (.ref a1)] [(.int (p4.toInt8.toInt32)), (.int (1 : Int32)), (.ref a1)]))
  refine Goes.step (fun _ kK => XS.iconst X_1.here hx rfl (hb hby own_d5_25) kK) ?_
  show Goes pP eE bB _ (T_1.setTop (mkF mM 26 #[.val (.ref a1)] [(.int (1 : Int32)), (.int (p4.toInt8.toInt32)), (.int (1 : Int32)), (.ref a1)]))
  refine Goes.step (fun _ kK => XS.iadd X_1.here hx rfl (hb hby own_d5_26) rfl kK) ?_
  show Goes pP eE bB _ (T_1.setTop (mkF mM 27 #[.val (.ref a1)] [(.int ((p4.toInt8.toInt32) + (1 : Int32))), (.int (1 : Int32)), (.ref a1)]))
  refine Goes.step (fun _ kK => XS.i2b X_1.here hx rfl (hb hby own_d5_27) rfl kK) ?_
  show Goes pP eE bB _ (T_1.setTop (mkF mM 28 #[.val (.ref a1)] [(.int (((p4.toInt8.toInt32) + (1 : Int32)).toInt8.toInt32)), (.int (1 : Int32)), (.ref a1)]))
  refine Goes.bastore X_1 hx hZ e_1 A_1 (i := 1) (by decide) (by decide) (g := (mkF mM 28 #[.val (.ref a1)] [(.int (((p4.toInt8.toInt32) + (1 : Int32)).toInt8.toInt32)), (.int (1 : Int32)), (.ref a1)])) rfl rfl (hb hby own_d5_28) ?_
  intro T_2 h_2 X_2 e_2 W_2 A_2
  have N_2 := Fr.snoc X_2 N_1 ga
  show Goes pP eE bB _ (T_2.setTop (mkF mM 29 #[.val (.ref a1)] []))
  refine Goes.step (fun _ kK => XS.aloadN X_2.here hx rfl (hb hby own_d5_29) rfl rfl kK) ?_
  show Goes pP eE bB _ (T_2.setTop (mkF mM 30 #[.val (.ref a1)] [(.ref a1)]))
  refine Goes.alen X_2 hx hZ e_2 A_2 (z := (3 : Int32)) (by decide) (g := (mkF mM 30 #[.val (.ref a1)] [(.ref a1)])) rfl rfl (hb hby own_d5_30) ?_
  show Goes pP eE bB _ (T_2.setTop (mkF mM 31 #[.val (.ref a1)] [(.int (3 : Int32))]))
  refine Goes.step (fun _ kK => XS.iconst X_2.here hx rfl (hb hby own_d5_31) kK) ?_
  show Goes pP eE bB _ (T_2.setTop (mkF mM 32 #[.val (.ref a1)] [(.int (2 : Int32)), (.int (3 : Int32))]))
  refine Goes.step (fun _ kK => XS.icmpNo X_2.here hx rfl (hb hby own_d5_32) rfl (tlt (by decide)).2.2.2 kK) ?_
  show Goes pP eE bB _ (T_2.setTop (mkF mM 35 #[.val (.ref a1)] []))
  refine Goes.step (fun _ kK => XS.aloadN X_2.here hx rfl (hb hby own_d5_35) rfl rfl kK) ?_
  show Goes pP eE bB _ (T_2.setTop (mkF mM 36 #[.val (.ref a1)] [(.ref a1)]))
  refine Goes.step (fun _ kK => XS.iconst X_2.here hx rfl (hb hby own_d5_36) kK) ?_
  show Goes pP eE bB _ (T_2.setTop (mkF mM 37 #[.val (.ref a1)] [(.int (2 : Int32)), (.ref a1)]))
  refine Goes.step (fun _ kK => XS.aloadN X_2.here hx rfl (hb hby own_d5_37) rfl rfl kK) ?_
  show Goes pP eE bB _ (T_2.setTop (mkF mM 38 #[.val (.ref a1)] [(.ref a1), (.int (2 : Int32)), (.ref a1)]))
  refine Goes.step (fun _ kK => XS.iconst X_2.here hx rfl (hb hby own_d5_38) kK) ?_
  show Goes pP eE bB _ (T_2.setTop (mkF mM 39 #[.val (.ref a1)] [(.int (2 : Int32)), (.ref a1), (.int (2 : Int32)), (.ref a1)]))
  refine Goes.baload X_2 hx hZ e_2 A_2 (i := 2) (by decide) (by decide) (by first | rfl | simp [own_f]) (g := (mkF mM 39 #[.val (.ref a1)] [(.int (2 : Int32)), (.ref a1), (.int (2 : Int32)), (.ref a1)])) rfl rfl (hb hby own_d5_39) ?_
  show Goes pP eE bB _ (T_2.setTop (mkF mM 40 #[.val (.ref a1)] [(.int (p5.toInt8.toInt32)), (.int (2 : Int32)), (.ref a1)]))
  refine Goes.step (fun _ kK => XS.iconst X_2.here hx rfl (hb hby own_d5_40) kK) ?_
  show Goes pP eE bB _ (T_2.setTop (mkF mM 41 #[.val (.ref a1)] [(.int (1 : Int32)), (.int (p5.toInt8.toInt32)), (.int (2 : Int32)), (.ref a1)]))
  refine Goes.step (fun _ kK => XS.iadd X_2.here hx rfl (hb hby own_d5_41) rfl kK) ?_
  show Goes pP eE bB _ (T_2.setTop (mkF mM 42 #[.val (.ref a1)] [(.int ((p5.toInt8.toInt32) + (1 : Int32))), (.int (2 : Int32)), (.ref a1)]))
  refine Goes.step (fun _ kK => XS.i2b X_2.here hx rfl (hb hby own_d5_42) rfl kK) ?_
  show Goes pP eE bB _ (T_2.setTop (mkF mM 43 #[.val (.ref a1)] [(.int (((p5.toInt8.toInt32) + (1 : Int32)).toInt8.toInt32)), (.int (2 : Int32)), (.ref a1)]))
  refine Goes.bastore X_2 hx hZ e_2 A_2 (i := 2) (by decide) (by decide) (g := (mkF mM 43 #[.val (.ref a1)] [(.int (((p5.toInt8.toInt32) + (1 : Int32)).toInt8.toInt32)), (.int (2 : Int32)), (.ref a1)])) rfl rfl (hb hby own_d5_43) ?_
  intro T_3 h_3 X_3 e_3 W_3 A_3
  have N_3 := Fr.snoc X_3 N_2 ga
  show Goes pP eE bB _ (T_3.setTop (mkF mM 44 #[.val (.ref a1)] []))
  refine Goes.step (fun _ kK => XS.aloadN X_3.here hx rfl (hb hby own_d5_44) rfl rfl kK) ?_
  show Goes pP eE bB _ (T_3.setTop (mkF mM 45 #[.val (.ref a1)] [(.ref a1)]))
  refine Goes.alen X_3 hx hZ e_3 A_3 (z := (3 : Int32)) (by decide) (g := (mkF mM 45 #[.val (.ref a1)] [(.ref a1)])) rfl rfl (hb hby own_d5_45) ?_
  show Goes pP eE bB _ (T_3.setTop (mkF mM 46 #[.val (.ref a1)] [(.int (3 : Int32))]))
  refine Goes.step (fun _ kK => XS.iconst X_3.here hx rfl (hb hby own_d5_46) kK) ?_
  show Goes pP eE bB _ (T_3.setTop (mkF mM 47 #[.val (.ref a1)] [(.int (3 : Int32)), (.int (3 : Int32))]))
  refine Goes.step (fun _ kK => XS.icmpYes X_3.here hx rfl (pc0 := 47) (pc' := 59) rfl (hb hby own_d5_47) rfl (flt (by decide)).2.2.2 (by decide) (by decide) kK) ?_
  show Goes pP eE bB _ (T_3.setTop (mkF mM 59 #[.val (.ref a1)] []))
  refine Goes.ret0 X_3 hx hlk hret (hb hby own_d5_59) (by decide) (by decide) ?_
  have u_4 := (Keep.refl h0 [a1]).wr W_1 (Or.inl (List.mem_of_getElem? (i := 0) rfl))
  have u_5 := u_4.wr W_2 (Or.inl (List.mem_of_getElem? (i := 0) rfl))
  have u_6 := u_5.wr W_3 (Or.inl (List.mem_of_getElem? (i := 0) rfl))
  exact ⟨rfl, N_3, by rw [e_3]; exact u_6⟩
set_option maxRecDepth 65536 in
set_option maxHeartbeats 40000000 in
theorem rmH4 (l : Launch) (Z : State) (a0 : Array Value) (hw : ∀ d ∈ tables_1, d.before a0 Z = true) (a1 : Addr) (p3 p4 p5 p6 : Int32) (h0 : Heap) (n0 : Nat) (Z0 : n0 ≤ h0.size) (A0 : Afn Z h0 a1 .byte 4 (own_f p3 p4 p5 p6)) :
    Con l Z (⟨"com/example/anchorline/anchorline/tcap/DialogueApplicationContextPinLaw", "holds", "([BIIIII)Z"⟩ : MethodName) method_3_code 7 (some .boolean) ({ frames := 0, cells := 0, slots := 0, locals := 0 } : Room) #[(.ref a1), (.int (4 : Int32)), (.int p3), (.int p4), (.int p5), (.int p6)] h0 (fun v h L => v = some (.int 1) ∧ Fr n0 L ∧ h = h0) := by
  refine Con.body (plainFor_of_name own_pn1) ?_
  intro pP eE sS mM bB mT cC s₁ hx hby hml hZ hown hnm hret hlk X0 e0
  have hown : sS.vm.findClass "com/example/anchorline/anchorline/tcap/DialogueApplicationContextPinLaw" = some mM.cls := hown
  have hml : cC.maxLocals = 7 := hml
  have N0 := Fr.nil n0
  have ef : entryFrame mM #[(.ref a1), (.int (4 : Int32)), (.int p3), (.int p4), (.int p5), (.int p6)] 7 = mkF mM 0 #[.val (.ref a1), .val (.int (4 : Int32)), .val (.int p3), .val (.int p4), .val (.int p5), .val (.int p6), .unset] [] := by first | (simp [entryFrame, mkF, argsToLocals, Value.category]; done) | rfl
  rw [ef]
  show Goes pP eE bB _ (s₁.setTop (mkF mM 0 #[.val (.ref a1), .val (.int (4 : Int32)), .val (.int p3), .val (.int p4), .val (.int p5), .val (.int p6), .unset] []))
  refine Goes.step (fun _ kK => XS.aloadN X0.here hx rfl (hb hby own_d4_0) rfl rfl kK) ?_
  show Goes pP eE bB _ (s₁.setTop (mkF mM 1 #[.val (.ref a1), .val (.int (4 : Int32)), .val (.int p3), .val (.int p4), .val (.int p5), .val (.int p6), .unset] [(.ref a1)]))
  refine Goes.alen X0 hx hZ e0 A0 (z := (4 : Int32)) (by decide) (g := (mkF mM 1 #[.val (.ref a1), .val (.int (4 : Int32)), .val (.int p3), .val (.int p4), .val (.int p5), .val (.int p6), .unset] [(.ref a1)])) rfl rfl (hb hby own_d4_1) ?_
  show Goes pP eE bB _ (s₁.setTop (mkF mM 2 #[.val (.ref a1), .val (.int (4 : Int32)), .val (.int p3), .val (.int p4), .val (.int p5), .val (.int p6), .unset] [(.int (4 : Int32))]))
  refine Goes.step (fun _ kK => XS.iloadN X0.here hx rfl (hb hby own_d4_2) rfl kK) ?_
  show Goes pP eE bB _ (s₁.setTop (mkF mM 3 #[.val (.ref a1), .val (.int (4 : Int32)), .val (.int p3), .val (.int p4), .val (.int p5), .val (.int p6), .unset] [(.int (4 : Int32)), (.int (4 : Int32))]))
  refine Goes.step (fun _ kK => XS.icmpYes X0.here hx rfl (pc0 := 3) (pc' := 8) rfl (hb hby own_d4_3) rfl (teq (by decide)).1 (by decide) (by decide) kK) ?_
  show Goes pP eE bB _ (s₁.setTop (mkF mM 8 #[.val (.ref a1), .val (.int (4 : Int32)), .val (.int p3), .val (.int p4), .val (.int p5), .val (.int p6), .unset] []))
  refine Goes.step (fun _ kK => XS.iconst X0.here hx rfl (hb hby own_d4_8) kK) ?_
  show Goes pP eE bB _ (s₁.setTop (mkF mM 9 #[.val (.ref a1), .val (.int (4 : Int32)), .val (.int p3), .val (.int p4), .val (.int p5), .val (.int p6), .unset] [(.int (1 : Int32))]))
  refine Goes.step (fun _ kK => XS.istore X0.here hx rfl (hb hby own_d4_9) rfl (l' := #[.val (.ref a1), .val (.int (4 : Int32)), .val (.int p3), .val (.int p4), .val (.int p5), .val (.int p6), .val (.int (1 : Int32))]) rfl kK) ?_
  show Goes pP eE bB _ (s₁.setTop (mkF mM 11 #[.val (.ref a1), .val (.int (4 : Int32)), .val (.int p3), .val (.int p4), .val (.int p5), .val (.int p6), .val (.int (1 : Int32))] []))
  refine Goes.step (fun _ kK => XS.iloadN X0.here hx rfl (hb hby own_d4_11) rfl kK) ?_
  show Goes pP eE bB _ (s₁.setTop (mkF mM 12 #[.val (.ref a1), .val (.int (4 : Int32)), .val (.int p3), .val (.int p4), .val (.int p5), .val (.int p6), .val (.int (1 : Int32))] [(.int (4 : Int32))]))
  refine Goes.step (fun _ kK => XS.ifNo X0.here hx rfl (hb hby own_d4_12) rfl ((if0 _ _).trans (tlt (by decide)).2.2.2) kK) ?_
  show Goes pP eE bB _ (s₁.setTop (mkF mM 15 #[.val (.ref a1), .val (.int (4 : Int32)), .val (.int p3), .val (.int p4), .val (.int p5), .val (.int p6), .val (.int (1 : Int32))] []))
  refine Goes.step (fun _ kK => XS.iload X0.here hx rfl (hb hby own_d4_15) rfl kK) ?_
  show Goes pP eE bB _ (s₁.setTop (mkF mM 17 #[.val (.ref a1), .val (.int (4 : Int32)), .val (.int p3), .val (.int p4), .val (.int p5), .val (.int p6), .val (.int (1 : Int32))] [(.int (1 : Int32))]))
  refine Goes.step (fun _ kK => XS.ifNo X0.here hx rfl (hb hby own_d4_17) rfl ((if0 _ _).trans (feq (by decide)).1) kK) ?_
  show Goes pP eE bB _ (s₁.setTop (mkF mM 20 #[.val (.ref a1), .val (.int (4 : Int32)), .val (.int p3), .val (.int p4), .val (.int p5), .val (.int p6), .val (.int (1 : Int32))] []))
  refine Goes.step (fun _ kK => XS.aloadN X0.here hx rfl (hb hby own_d4_20) rfl rfl kK) ?_
  show Goes pP eE bB _ (s₁.setTop (mkF mM 21 #[.val (.ref a1), .val (.int (4 : Int32)), .val (.int p3), .val (.int p4), .val (.int p5), .val (.int p6), .val (.int (1 : Int32))] [(.ref a1)]))
  refine Goes.step (fun _ kK => XS.iconst X0.here hx rfl (hb hby own_d4_21) kK) ?_
  show Goes pP eE bB _ (s₁.setTop (mkF mM 22 #[.val (.ref a1), .val (.int (4 : Int32)), .val (.int p3), .val (.int p4), .val (.int p5), .val (.int p6), .val (.int (1 : Int32))] [(.int (0 : Int32)), (.ref a1)]))
  refine Goes.baload X0 hx hZ e0 A0 (i := 0) (by decide) (by decide) rfl (g := (mkF mM 22 #[.val (.ref a1), .val (.int (4 : Int32)), .val (.int p3), .val (.int p4), .val (.int p5), .val (.int p6), .val (.int (1 : Int32))] [(.int (0 : Int32)), (.ref a1)])) rfl rfl (hb hby own_d4_22) ?_
  show Goes pP eE bB _ (s₁.setTop (mkF mM 23 #[.val (.ref a1), .val (.int (4 : Int32)), .val (.int p3), .val (.int p4), .val (.int p5), .val (.int p6), .val (.int (1 : Int32))] [(.int (p3.toInt8.toInt32))]))
  refine Goes.step (fun _ kK => XS.iloadN X0.here hx rfl (hb hby own_d4_23) rfl kK) ?_
  show Goes pP eE bB _ (s₁.setTop (mkF mM 24 #[.val (.ref a1), .val (.int (4 : Int32)), .val (.int p3), .val (.int p4), .val (.int p5), .val (.int p6), .val (.int (1 : Int32))] [(.int p3), (.int (p3.toInt8.toInt32))]))
  refine Goes.step (fun _ kK => XS.i2b X0.here hx rfl (hb hby own_d4_24) rfl kK) ?_
  show Goes pP eE bB _ (s₁.setTop (mkF mM 25 #[.val (.ref a1), .val (.int (4 : Int32)), .val (.int p3), .val (.int p4), .val (.int p5), .val (.int p6), .val (.int (1 : Int32))] [(.int (p3.toInt8.toInt32)), (.int (p3.toInt8.toInt32))]))
  refine Goes.step (fun _ kK => XS.icmpNo X0.here hx rfl (hb hby own_d4_25) rfl (teq (rfl : (p3.toInt8.toInt32) = (p3.toInt8.toInt32))).2 kK) ?_
  show Goes pP eE bB _ (s₁.setTop (mkF mM 28 #[.val (.ref a1), .val (.int (4 : Int32)), .val (.int p3), .val (.int p4), .val (.int p5), .val (.int p6), .val (.int (1 : Int32))] []))
  refine Goes.step (fun _ kK => XS.iconst X0.here hx rfl (hb hby own_d4_28) kK) ?_
  show Goes pP eE bB _ (s₁.setTop (mkF mM 29 #[.val (.ref a1), .val (.int (4 : Int32)), .val (.int p3), .val (.int p4), .val (.int p5), .val (.int p6), .val (.int (1 : Int32))] [(.int (1 : Int32))]))
  refine Goes.step (fun _ kK => XS.goto X0.here hx rfl (pc0 := 29) (pc' := 33) rfl (hb hby own_d4_29) (by decide) (by decide) kK) ?_
  show Goes pP eE bB _ (s₁.setTop (mkF mM 33 #[.val (.ref a1), .val (.int (4 : Int32)), .val (.int p3), .val (.int p4), .val (.int p5), .val (.int p6), .val (.int (1 : Int32))] [(.int (1 : Int32))]))
  refine Goes.step (fun _ kK => XS.istore X0.here hx rfl (hb hby own_d4_33) rfl (l' := #[.val (.ref a1), .val (.int (4 : Int32)), .val (.int p3), .val (.int p4), .val (.int p5), .val (.int p6), .val (.int (1 : Int32))]) rfl kK) ?_
  show Goes pP eE bB _ (s₁.setTop (mkF mM 35 #[.val (.ref a1), .val (.int (4 : Int32)), .val (.int p3), .val (.int p4), .val (.int p5), .val (.int p6), .val (.int (1 : Int32))] []))
  refine Goes.step (fun _ kK => XS.iloadN X0.here hx rfl (hb hby own_d4_35) rfl kK) ?_
  show Goes pP eE bB _ (s₁.setTop (mkF mM 36 #[.val (.ref a1), .val (.int (4 : Int32)), .val (.int p3), .val (.int p4), .val (.int p5), .val (.int p6), .val (.int (1 : Int32))] [(.int (4 : Int32))]))
  refine Goes.step (fun _ kK => XS.iconst X0.here hx rfl (hb hby own_d4_36) kK) ?_
  show Goes pP eE bB _ (s₁.setTop (mkF mM 37 #[.val (.ref a1), .val (.int (4 : Int32)), .val (.int p3), .val (.int p4), .val (.int p5), .val (.int p6), .val (.int (1 : Int32))] [(.int (1 : Int32)), (.int (4 : Int32))]))
  refine Goes.step (fun _ kK => XS.icmpNo X0.here hx rfl (hb hby own_d4_37) rfl (tlt (by decide)).2.2.2 kK) ?_
  show Goes pP eE bB _ (s₁.setTop (mkF mM 40 #[.val (.ref a1), .val (.int (4 : Int32)), .val (.int p3), .val (.int p4), .val (.int p5), .val (.int p6), .val (.int (1 : Int32))] []))
  refine Goes.step (fun _ kK => XS.iload X0.here hx rfl (hb hby own_d4_40) rfl kK) ?_
  show Goes pP eE bB _ (s₁.setTop (mkF mM 42 #[.val (.ref a1), .val (.int (4 : Int32)), .val (.int p3), .val (.int p4), .val (.int p5), .val (.int p6), .val (.int (1 : Int32))] [(.int (1 : Int32))]))
  refine Goes.step (fun _ kK => XS.ifNo X0.here hx rfl (hb hby own_d4_42) rfl ((if0 _ _).trans (feq (by decide)).1) kK) ?_
  show Goes pP eE bB _ (s₁.setTop (mkF mM 45 #[.val (.ref a1), .val (.int (4 : Int32)), .val (.int p3), .val (.int p4), .val (.int p5), .val (.int p6), .val (.int (1 : Int32))] []))
  refine Goes.step (fun _ kK => XS.aloadN X0.here hx rfl (hb hby own_d4_45) rfl rfl kK) ?_
  show Goes pP eE bB _ (s₁.setTop (mkF mM 46 #[.val (.ref a1), .val (.int (4 : Int32)), .val (.int p3), .val (.int p4), .val (.int p5), .val (.int p6), .val (.int (1 : Int32))] [(.ref a1)]))
  refine Goes.step (fun _ kK => XS.iconst X0.here hx rfl (hb hby own_d4_46) kK) ?_
  show Goes pP eE bB _ (s₁.setTop (mkF mM 47 #[.val (.ref a1), .val (.int (4 : Int32)), .val (.int p3), .val (.int p4), .val (.int p5), .val (.int p6), .val (.int (1 : Int32))] [(.int (1 : Int32)), (.ref a1)]))
  refine Goes.baload X0 hx hZ e0 A0 (i := 1) (by decide) (by decide) rfl (g := (mkF mM 47 #[.val (.ref a1), .val (.int (4 : Int32)), .val (.int p3), .val (.int p4), .val (.int p5), .val (.int p6), .val (.int (1 : Int32))] [(.int (1 : Int32)), (.ref a1)])) rfl rfl (hb hby own_d4_47) ?_
  show Goes pP eE bB _ (s₁.setTop (mkF mM 48 #[.val (.ref a1), .val (.int (4 : Int32)), .val (.int p3), .val (.int p4), .val (.int p5), .val (.int p6), .val (.int (1 : Int32))] [(.int (p4.toInt8.toInt32))]))
  refine Goes.step (fun _ kK => XS.iloadN X0.here hx rfl (hb hby own_d4_48) rfl kK) ?_
  show Goes pP eE bB _ (s₁.setTop (mkF mM 49 #[.val (.ref a1), .val (.int (4 : Int32)), .val (.int p3), .val (.int p4), .val (.int p5), .val (.int p6), .val (.int (1 : Int32))] [(.int p4), (.int (p4.toInt8.toInt32))]))
  refine Goes.step (fun _ kK => XS.i2b X0.here hx rfl (hb hby own_d4_49) rfl kK) ?_
  show Goes pP eE bB _ (s₁.setTop (mkF mM 50 #[.val (.ref a1), .val (.int (4 : Int32)), .val (.int p3), .val (.int p4), .val (.int p5), .val (.int p6), .val (.int (1 : Int32))] [(.int (p4.toInt8.toInt32)), (.int (p4.toInt8.toInt32))]))
  refine Goes.step (fun _ kK => XS.icmpNo X0.here hx rfl (hb hby own_d4_50) rfl (teq (rfl : (p4.toInt8.toInt32) = (p4.toInt8.toInt32))).2 kK) ?_
  show Goes pP eE bB _ (s₁.setTop (mkF mM 53 #[.val (.ref a1), .val (.int (4 : Int32)), .val (.int p3), .val (.int p4), .val (.int p5), .val (.int p6), .val (.int (1 : Int32))] []))
  refine Goes.step (fun _ kK => XS.iconst X0.here hx rfl (hb hby own_d4_53) kK) ?_
  show Goes pP eE bB _ (s₁.setTop (mkF mM 54 #[.val (.ref a1), .val (.int (4 : Int32)), .val (.int p3), .val (.int p4), .val (.int p5), .val (.int p6), .val (.int (1 : Int32))] [(.int (1 : Int32))]))
  refine Goes.step (fun _ kK => XS.goto X0.here hx rfl (pc0 := 54) (pc' := 58) rfl (hb hby own_d4_54) (by decide) (by decide) kK) ?_
  show Goes pP eE bB _ (s₁.setTop (mkF mM 58 #[.val (.ref a1), .val (.int (4 : Int32)), .val (.int p3), .val (.int p4), .val (.int p5), .val (.int p6), .val (.int (1 : Int32))] [(.int (1 : Int32))]))
  refine Goes.step (fun _ kK => XS.istore X0.here hx rfl (hb hby own_d4_58) rfl (l' := #[.val (.ref a1), .val (.int (4 : Int32)), .val (.int p3), .val (.int p4), .val (.int p5), .val (.int p6), .val (.int (1 : Int32))]) rfl kK) ?_
  show Goes pP eE bB _ (s₁.setTop (mkF mM 60 #[.val (.ref a1), .val (.int (4 : Int32)), .val (.int p3), .val (.int p4), .val (.int p5), .val (.int p6), .val (.int (1 : Int32))] []))
  refine Goes.step (fun _ kK => XS.iloadN X0.here hx rfl (hb hby own_d4_60) rfl kK) ?_
  show Goes pP eE bB _ (s₁.setTop (mkF mM 61 #[.val (.ref a1), .val (.int (4 : Int32)), .val (.int p3), .val (.int p4), .val (.int p5), .val (.int p6), .val (.int (1 : Int32))] [(.int (4 : Int32))]))
  refine Goes.step (fun _ kK => XS.iconst X0.here hx rfl (hb hby own_d4_61) kK) ?_
  show Goes pP eE bB _ (s₁.setTop (mkF mM 62 #[.val (.ref a1), .val (.int (4 : Int32)), .val (.int p3), .val (.int p4), .val (.int p5), .val (.int p6), .val (.int (1 : Int32))] [(.int (2 : Int32)), (.int (4 : Int32))]))
  refine Goes.step (fun _ kK => XS.icmpNo X0.here hx rfl (hb hby own_d4_62) rfl (tlt (by decide)).2.2.2 kK) ?_
  show Goes pP eE bB _ (s₁.setTop (mkF mM 65 #[.val (.ref a1), .val (.int (4 : Int32)), .val (.int p3), .val (.int p4), .val (.int p5), .val (.int p6), .val (.int (1 : Int32))] []))
  refine Goes.step (fun _ kK => XS.iload X0.here hx rfl (hb hby own_d4_65) rfl kK) ?_
  show Goes pP eE bB _ (s₁.setTop (mkF mM 67 #[.val (.ref a1), .val (.int (4 : Int32)), .val (.int p3), .val (.int p4), .val (.int p5), .val (.int p6), .val (.int (1 : Int32))] [(.int (1 : Int32))]))
  refine Goes.step (fun _ kK => XS.ifNo X0.here hx rfl (hb hby own_d4_67) rfl ((if0 _ _).trans (feq (by decide)).1) kK) ?_
  show Goes pP eE bB _ (s₁.setTop (mkF mM 70 #[.val (.ref a1), .val (.int (4 : Int32)), .val (.int p3), .val (.int p4), .val (.int p5), .val (.int p6), .val (.int (1 : Int32))] []))
  refine Goes.step (fun _ kK => XS.aloadN X0.here hx rfl (hb hby own_d4_70) rfl rfl kK) ?_
  show Goes pP eE bB _ (s₁.setTop (mkF mM 71 #[.val (.ref a1), .val (.int (4 : Int32)), .val (.int p3), .val (.int p4), .val (.int p5), .val (.int p6), .val (.int (1 : Int32))] [(.ref a1)]))
  refine Goes.step (fun _ kK => XS.iconst X0.here hx rfl (hb hby own_d4_71) kK) ?_
  show Goes pP eE bB _ (s₁.setTop (mkF mM 72 #[.val (.ref a1), .val (.int (4 : Int32)), .val (.int p3), .val (.int p4), .val (.int p5), .val (.int p6), .val (.int (1 : Int32))] [(.int (2 : Int32)), (.ref a1)]))
  refine Goes.baload X0 hx hZ e0 A0 (i := 2) (by decide) (by decide) rfl (g := (mkF mM 72 #[.val (.ref a1), .val (.int (4 : Int32)), .val (.int p3), .val (.int p4), .val (.int p5), .val (.int p6), .val (.int (1 : Int32))] [(.int (2 : Int32)), (.ref a1)])) rfl rfl (hb hby own_d4_72) ?_
  show Goes pP eE bB _ (s₁.setTop (mkF mM 73 #[.val (.ref a1), .val (.int (4 : Int32)), .val (.int p3), .val (.int p4), .val (.int p5), .val (.int p6), .val (.int (1 : Int32))] [(.int (p5.toInt8.toInt32))]))
  refine Goes.step (fun _ kK => XS.iload X0.here hx rfl (hb hby own_d4_73) rfl kK) ?_
  show Goes pP eE bB _ (s₁.setTop (mkF mM 75 #[.val (.ref a1), .val (.int (4 : Int32)), .val (.int p3), .val (.int p4), .val (.int p5), .val (.int p6), .val (.int (1 : Int32))] [(.int p5), (.int (p5.toInt8.toInt32))]))
  refine Goes.step (fun _ kK => XS.i2b X0.here hx rfl (hb hby own_d4_75) rfl kK) ?_
  show Goes pP eE bB _ (s₁.setTop (mkF mM 76 #[.val (.ref a1), .val (.int (4 : Int32)), .val (.int p3), .val (.int p4), .val (.int p5), .val (.int p6), .val (.int (1 : Int32))] [(.int (p5.toInt8.toInt32)), (.int (p5.toInt8.toInt32))]))
  refine Goes.step (fun _ kK => XS.icmpNo X0.here hx rfl (hb hby own_d4_76) rfl (teq (rfl : (p5.toInt8.toInt32) = (p5.toInt8.toInt32))).2 kK) ?_
  show Goes pP eE bB _ (s₁.setTop (mkF mM 79 #[.val (.ref a1), .val (.int (4 : Int32)), .val (.int p3), .val (.int p4), .val (.int p5), .val (.int p6), .val (.int (1 : Int32))] []))
  refine Goes.step (fun _ kK => XS.iconst X0.here hx rfl (hb hby own_d4_79) kK) ?_
  show Goes pP eE bB _ (s₁.setTop (mkF mM 80 #[.val (.ref a1), .val (.int (4 : Int32)), .val (.int p3), .val (.int p4), .val (.int p5), .val (.int p6), .val (.int (1 : Int32))] [(.int (1 : Int32))]))
  refine Goes.step (fun _ kK => XS.goto X0.here hx rfl (pc0 := 80) (pc' := 84) rfl (hb hby own_d4_80) (by decide) (by decide) kK) ?_
  show Goes pP eE bB _ (s₁.setTop (mkF mM 84 #[.val (.ref a1), .val (.int (4 : Int32)), .val (.int p3), .val (.int p4), .val (.int p5), .val (.int p6), .val (.int (1 : Int32))] [(.int (1 : Int32))]))
  refine Goes.step (fun _ kK => XS.istore X0.here hx rfl (hb hby own_d4_84) rfl (l' := #[.val (.ref a1), .val (.int (4 : Int32)), .val (.int p3), .val (.int p4), .val (.int p5), .val (.int p6), .val (.int (1 : Int32))]) rfl kK) ?_
  show Goes pP eE bB _ (s₁.setTop (mkF mM 86 #[.val (.ref a1), .val (.int (4 : Int32)), .val (.int p3), .val (.int p4), .val (.int p5), .val (.int p6), .val (.int (1 : Int32))] []))
  refine Goes.step (fun _ kK => XS.iloadN X0.here hx rfl (hb hby own_d4_86) rfl kK) ?_
  show Goes pP eE bB _ (s₁.setTop (mkF mM 87 #[.val (.ref a1), .val (.int (4 : Int32)), .val (.int p3), .val (.int p4), .val (.int p5), .val (.int p6), .val (.int (1 : Int32))] [(.int (4 : Int32))]))
  refine Goes.step (fun _ kK => XS.iconst X0.here hx rfl (hb hby own_d4_87) kK) ?_
  show Goes pP eE bB _ (s₁.setTop (mkF mM 88 #[.val (.ref a1), .val (.int (4 : Int32)), .val (.int p3), .val (.int p4), .val (.int p5), .val (.int p6), .val (.int (1 : Int32))] [(.int (3 : Int32)), (.int (4 : Int32))]))
  refine Goes.step (fun _ kK => XS.icmpNo X0.here hx rfl (hb hby own_d4_88) rfl (tlt (by decide)).2.2.2 kK) ?_
  show Goes pP eE bB _ (s₁.setTop (mkF mM 91 #[.val (.ref a1), .val (.int (4 : Int32)), .val (.int p3), .val (.int p4), .val (.int p5), .val (.int p6), .val (.int (1 : Int32))] []))
  refine Goes.step (fun _ kK => XS.iload X0.here hx rfl (hb hby own_d4_91) rfl kK) ?_
  show Goes pP eE bB _ (s₁.setTop (mkF mM 93 #[.val (.ref a1), .val (.int (4 : Int32)), .val (.int p3), .val (.int p4), .val (.int p5), .val (.int p6), .val (.int (1 : Int32))] [(.int (1 : Int32))]))
  refine Goes.step (fun _ kK => XS.ifNo X0.here hx rfl (hb hby own_d4_93) rfl ((if0 _ _).trans (feq (by decide)).1) kK) ?_
  show Goes pP eE bB _ (s₁.setTop (mkF mM 96 #[.val (.ref a1), .val (.int (4 : Int32)), .val (.int p3), .val (.int p4), .val (.int p5), .val (.int p6), .val (.int (1 : Int32))] []))
  refine Goes.step (fun _ kK => XS.aloadN X0.here hx rfl (hb hby own_d4_96) rfl rfl kK) ?_
  show Goes pP eE bB _ (s₁.setTop (mkF mM 97 #[.val (.ref a1), .val (.int (4 : Int32)), .val (.int p3), .val (.int p4), .val (.int p5), .val (.int p6), .val (.int (1 : Int32))] [(.ref a1)]))
  refine Goes.step (fun _ kK => XS.iconst X0.here hx rfl (hb hby own_d4_97) kK) ?_
  show Goes pP eE bB _ (s₁.setTop (mkF mM 98 #[.val (.ref a1), .val (.int (4 : Int32)), .val (.int p3), .val (.int p4), .val (.int p5), .val (.int p6), .val (.int (1 : Int32))] [(.int (3 : Int32)), (.ref a1)]))
  refine Goes.baload X0 hx hZ e0 A0 (i := 3) (by decide) (by decide) rfl (g := (mkF mM 98 #[.val (.ref a1), .val (.int (4 : Int32)), .val (.int p3), .val (.int p4), .val (.int p5), .val (.int p6), .val (.int (1 : Int32))] [(.int (3 : Int32)), (.ref a1)])) rfl rfl (hb hby own_d4_98) ?_
  show Goes pP eE bB _ (s₁.setTop (mkF mM 99 #[.val (.ref a1), .val (.int (4 : Int32)), .val (.int p3), .val (.int p4), .val (.int p5), .val (.int p6), .val (.int (1 : Int32))] [(.int (p6.toInt8.toInt32))]))
  refine Goes.step (fun _ kK => XS.iload X0.here hx rfl (hb hby own_d4_99) rfl kK) ?_
  show Goes pP eE bB _ (s₁.setTop (mkF mM 101 #[.val (.ref a1), .val (.int (4 : Int32)), .val (.int p3), .val (.int p4), .val (.int p5), .val (.int p6), .val (.int (1 : Int32))] [(.int p6), (.int (p6.toInt8.toInt32))]))
  refine Goes.step (fun _ kK => XS.i2b X0.here hx rfl (hb hby own_d4_101) rfl kK) ?_
  show Goes pP eE bB _ (s₁.setTop (mkF mM 102 #[.val (.ref a1), .val (.int (4 : Int32)), .val (.int p3), .val (.int p4), .val (.int p5), .val (.int p6), .val (.int (1 : Int32))] [(.int (p6.toInt8.toInt32)), (.int (p6.toInt8.toInt32))]))
  refine Goes.step (fun _ kK => XS.icmpNo X0.here hx rfl (hb hby own_d4_102) rfl (teq (rfl : (p6.toInt8.toInt32) = (p6.toInt8.toInt32))).2 kK) ?_
  show Goes pP eE bB _ (s₁.setTop (mkF mM 105 #[.val (.ref a1), .val (.int (4 : Int32)), .val (.int p3), .val (.int p4), .val (.int p5), .val (.int p6), .val (.int (1 : Int32))] []))
  refine Goes.step (fun _ kK => XS.iconst X0.here hx rfl (hb hby own_d4_105) kK) ?_
  show Goes pP eE bB _ (s₁.setTop (mkF mM 106 #[.val (.ref a1), .val (.int (4 : Int32)), .val (.int p3), .val (.int p4), .val (.int p5), .val (.int p6), .val (.int (1 : Int32))] [(.int (1 : Int32))]))
  refine Goes.step (fun _ kK => XS.goto X0.here hx rfl (pc0 := 106) (pc' := 110) rfl (hb hby own_d4_106) (by decide) (by decide) kK) ?_
  show Goes pP eE bB _ (s₁.setTop (mkF mM 110 #[.val (.ref a1), .val (.int (4 : Int32)), .val (.int p3), .val (.int p4), .val (.int p5), .val (.int p6), .val (.int (1 : Int32))] [(.int (1 : Int32))]))
  refine Goes.step (fun _ kK => XS.istore X0.here hx rfl (hb hby own_d4_110) rfl (l' := #[.val (.ref a1), .val (.int (4 : Int32)), .val (.int p3), .val (.int p4), .val (.int p5), .val (.int p6), .val (.int (1 : Int32))]) rfl kK) ?_
  show Goes pP eE bB _ (s₁.setTop (mkF mM 112 #[.val (.ref a1), .val (.int (4 : Int32)), .val (.int p3), .val (.int p4), .val (.int p5), .val (.int p6), .val (.int (1 : Int32))] []))
  refine Goes.step (fun _ kK => XS.iload X0.here hx rfl (hb hby own_d4_112) rfl kK) ?_
  show Goes pP eE bB _ (s₁.setTop (mkF mM 114 #[.val (.ref a1), .val (.int (4 : Int32)), .val (.int p3), .val (.int p4), .val (.int p5), .val (.int p6), .val (.int (1 : Int32))] [(.int (1 : Int32))]))
  refine Goes.retN X0 hx hlk (t := .boolean) hret (by simp) (hb hby own_d4_114) (by decide) (by decide) ?_
  exact ⟨rfl, N0, e0⟩
set_option maxRecDepth 65536 in
set_option maxHeartbeats 40000000 in
theorem rmB4 (l : Launch) (Z : State) (a0 : Array Value) (hw : ∀ d ∈ tables_1, d.before a0 Z = true) (a1 : Addr) (p3 p4 p5 p6 : Int32) (h0 : Heap) (n0 : Nat) (Z0 : n0 ≤ h0.size) (A0 : Afn Z h0 a1 .byte 4 (own_f p3 p4 p5 p6)) (ga : n0 ≤ a1) :
    Con l Z (⟨"com/example/anchorline/anchorline/tcap/DialogueApplicationContextPinLaw", "bump", "([B)V"⟩ : MethodName) method_4_code 1 none ({ frames := 0, cells := 0, slots := 0, locals := 0 } : Room) #[(.ref a1)] h0 (fun v h L => v = none ∧ Fr n0 L ∧ Keep h0 h [a1]) := by
  refine Con.body (plainFor_of_name own_pn1) ?_
  intro pP eE sS mM bB mT cC s₁ hx hby hml hZ hown hnm hret hlk X0 e0
  have hown : sS.vm.findClass "com/example/anchorline/anchorline/tcap/DialogueApplicationContextPinLaw" = some mM.cls := hown
  have hml : cC.maxLocals = 1 := hml
  have N0 := Fr.nil n0
  have ef : entryFrame mM #[(.ref a1)] 1 = mkF mM 0 #[.val (.ref a1)] [] := by first | (simp [entryFrame, mkF, argsToLocals, Value.category]; done) | rfl
  rw [ef]
  show Goes pP eE bB _ (s₁.setTop (mkF mM 0 #[.val (.ref a1)] []))
  refine Goes.step (fun _ kK => XS.aloadN X0.here hx rfl (hb hby own_d5_0) rfl rfl kK) ?_
  show Goes pP eE bB _ (s₁.setTop (mkF mM 1 #[.val (.ref a1)] [(.ref a1)]))
  refine Goes.alen X0 hx hZ e0 A0 (z := (4 : Int32)) (by decide) (g := (mkF mM 1 #[.val (.ref a1)] [(.ref a1)])) rfl rfl (hb hby own_d5_1) ?_
  show Goes pP eE bB _ (s₁.setTop (mkF mM 2 #[.val (.ref a1)] [(.int (4 : Int32))]))
  refine Goes.step (fun _ kK => XS.ifNo X0.here hx rfl (hb hby own_d5_2) rfl ((if0 _ _).trans (tlt (by decide)).2.2.2) kK) ?_
  show Goes pP eE bB _ (s₁.setTop (mkF mM 5 #[.val (.ref a1)] []))
  refine Goes.step (fun _ kK => XS.aloadN X0.here hx rfl (hb hby own_d5_5) rfl rfl kK) ?_
  show Goes pP eE bB _ (s₁.setTop (mkF mM 6 #[.val (.ref a1)] [(.ref a1)]))
  refine Goes.step (fun _ kK => XS.iconst X0.here hx rfl (hb hby own_d5_6) kK) ?_
  show Goes pP eE bB _ (s₁.setTop (mkF mM 7 #[.val (.ref a1)] [(.int (0 : Int32)), (.ref a1)]))
  refine Goes.step (fun _ kK => XS.aloadN X0.here hx rfl (hb hby own_d5_7) rfl rfl kK) ?_
  show Goes pP eE bB _ (s₁.setTop (mkF mM 8 #[.val (.ref a1)] [(.ref a1), (.int (0 : Int32)), (.ref a1)]))
  refine Goes.step (fun _ kK => XS.iconst X0.here hx rfl (hb hby own_d5_8) kK) ?_
  show Goes pP eE bB _ (s₁.setTop (mkF mM 9 #[.val (.ref a1)] [(.int (0 : Int32)), (.ref a1), (.int (0 : Int32)), (.ref a1)]))
  refine Goes.baload X0 hx hZ e0 A0 (i := 0) (by decide) (by decide) (by first | rfl | simp [own_f]) (g := (mkF mM 9 #[.val (.ref a1)] [(.int (0 : Int32)), (.ref a1), (.int (0 : Int32)), (.ref a1)])) rfl rfl (hb hby own_d5_9) ?_
  show Goes pP eE bB _ (s₁.setTop (mkF mM 10 #[.val (.ref a1)] [(.int (p3.toInt8.toInt32)), (.int (0 : Int32)), (.ref a1)]))
  refine Goes.step (fun _ kK => XS.iconst X0.here hx rfl (hb hby own_d5_10) kK) ?_
  show Goes pP eE bB _ (s₁.setTop (mkF mM 11 #[.val (.ref a1)] [(.int (1 : Int32)), (.int (p3.toInt8.toInt32)), (.int (0 : Int32)), (.ref a1)]))
  refine Goes.step (fun _ kK => XS.iadd X0.here hx rfl (hb hby own_d5_11) rfl kK) ?_
  show Goes pP eE bB _ (s₁.setTop (mkF mM 12 #[.val (.ref a1)] [(.int ((p3.toInt8.toInt32) + (1 : Int32))), (.int (0 : Int32)), (.ref a1)]))
  refine Goes.step (fun _ kK => XS.i2b X0.here hx rfl (hb hby own_d5_12) rfl kK) ?_
  show Goes pP eE bB _ (s₁.setTop (mkF mM 13 #[.val (.ref a1)] [(.int (((p3.toInt8.toInt32) + (1 : Int32)).toInt8.toInt32)), (.int (0 : Int32)), (.ref a1)]))
  refine Goes.bastore X0 hx hZ e0 A0 (i := 0) (by decide) (by decide) (g := (mkF mM 13 #[.val (.ref a1)] [(.int (((p3.toInt8.toInt32) + (1 : Int32)).toInt8.toInt32)), (.int (0 : Int32)), (.ref a1)])) rfl rfl (hb hby own_d5_13) ?_
  intro T_1 h_1 X_1 e_1 W_1 A_1
  have N_1 := Fr.snoc X_1 N0 ga
  show Goes pP eE bB _ (T_1.setTop (mkF mM 14 #[.val (.ref a1)] []))
  refine Goes.step (fun _ kK => XS.aloadN X_1.here hx rfl (hb hby own_d5_14) rfl rfl kK) ?_
  show Goes pP eE bB _ (T_1.setTop (mkF mM 15 #[.val (.ref a1)] [(.ref a1)]))
  refine Goes.alen X_1 hx hZ e_1 A_1 (z := (4 : Int32)) (by decide) (g := (mkF mM 15 #[.val (.ref a1)] [(.ref a1)])) rfl rfl (hb hby own_d5_15) ?_
  show Goes pP eE bB _ (T_1.setTop (mkF mM 16 #[.val (.ref a1)] [(.int (4 : Int32))]))
  refine Goes.step (fun _ kK => XS.iconst X_1.here hx rfl (hb hby own_d5_16) kK) ?_
  show Goes pP eE bB _ (T_1.setTop (mkF mM 17 #[.val (.ref a1)] [(.int (1 : Int32)), (.int (4 : Int32))]))
  refine Goes.step (fun _ kK => XS.icmpNo X_1.here hx rfl (hb hby own_d5_17) rfl (tlt (by decide)).2.2.2 kK) ?_
  show Goes pP eE bB _ (T_1.setTop (mkF mM 20 #[.val (.ref a1)] []))
  refine Goes.step (fun _ kK => XS.aloadN X_1.here hx rfl (hb hby own_d5_20) rfl rfl kK) ?_
  show Goes pP eE bB _ (T_1.setTop (mkF mM 21 #[.val (.ref a1)] [(.ref a1)]))
  refine Goes.step (fun _ kK => XS.iconst X_1.here hx rfl (hb hby own_d5_21) kK) ?_
  show Goes pP eE bB _ (T_1.setTop (mkF mM 22 #[.val (.ref a1)] [(.int (1 : Int32)), (.ref a1)]))
  refine Goes.step (fun _ kK => XS.aloadN X_1.here hx rfl (hb hby own_d5_22) rfl rfl kK) ?_
  show Goes pP eE bB _ (T_1.setTop (mkF mM 23 #[.val (.ref a1)] [(.ref a1), (.int (1 : Int32)), (.ref a1)]))
  refine Goes.step (fun _ kK => XS.iconst X_1.here hx rfl (hb hby own_d5_23) kK) ?_
  show Goes pP eE bB _ (T_1.setTop (mkF mM 24 #[.val (.ref a1)] [(.int (1 : Int32)), (.ref a1), (.int (1 : Int32)), (.ref a1)]))
  refine Goes.baload X_1 hx hZ e_1 A_1 (i := 1) (by decide) (by decide) (by first | rfl | simp [own_f]) (g := (mkF mM 24 #[.val (.ref a1)] [(.int (1 : Int32)), (.ref a1), (.int (1 : Int32)), (.ref a1)])) rfl rfl (hb hby own_d5_24) ?_
  show Goes pP eE bB _ (T_1.setTop (mkF mM 25 #[.val (.ref a1)] [(.int (p4.toInt8.toInt32)), (.int (1 : Int32)), (.ref a1)]))
  refine Goes.step (fun _ kK => XS.iconst X_1.here hx rfl (hb hby own_d5_25) kK) ?_
  show Goes pP eE bB _ (T_1.setTop (mkF mM 26 #[.val (.ref a1)] [(.int (1 : Int32)), (.int (p4.toInt8.toInt32)), (.int (1 : Int32)), (.ref a1)]))
  refine Goes.step (fun _ kK => XS.iadd X_1.here hx rfl (hb hby own_d5_26) rfl kK) ?_
  show Goes pP eE bB _ (T_1.setTop (mkF mM 27 #[.val (.ref a1)] [(.int ((p4.toInt8.toInt32) + (1 : Int32))), (.int (1 : Int32)), (.ref a1)]))
  refine Goes.step (fun _ kK => XS.i2b X_1.here hx rfl (hb hby own_d5_27) rfl kK) ?_
  show Goes pP eE bB _ (T_1.setTop (mkF mM 28 #[.val (.ref a1)] [(.int (((p4.toInt8.toInt32) + (1 : Int32)).toInt8.toInt32)), (.int (1 : Int32)), (.ref a1)]))
  refine Goes.bastore X_1 hx hZ e_1 A_1 (i := 1) (by decide) (by decide) (g := (mkF mM 28 #[.val (.ref a1)] [(.int (((p4.toInt8.toInt32) + (1 : Int32)).toInt8.toInt32)), (.int (1 : Int32)), (.ref a1)])) rfl rfl (hb hby own_d5_28) ?_
  intro T_2 h_2 X_2 e_2 W_2 A_2
  have N_2 := Fr.snoc X_2 N_1 ga
  show Goes pP eE bB _ (T_2.setTop (mkF mM 29 #[.val (.ref a1)] []))
  refine Goes.step (fun _ kK => XS.aloadN X_2.here hx rfl (hb hby own_d5_29) rfl rfl kK) ?_
  show Goes pP eE bB _ (T_2.setTop (mkF mM 30 #[.val (.ref a1)] [(.ref a1)]))
  refine Goes.alen X_2 hx hZ e_2 A_2 (z := (4 : Int32)) (by decide) (g := (mkF mM 30 #[.val (.ref a1)] [(.ref a1)])) rfl rfl (hb hby own_d5_30) ?_
  show Goes pP eE bB _ (T_2.setTop (mkF mM 31 #[.val (.ref a1)] [(.int (4 : Int32))]))
  refine Goes.step (fun _ kK => XS.iconst X_2.here hx rfl (hb hby own_d5_31) kK) ?_
  show Goes pP eE bB _ (T_2.setTop (mkF mM 32 #[.val (.ref a1)] [(.int (2 : Int32)), (.int (4 : Int32))]))
  refine Goes.step (fun _ kK => XS.icmpNo X_2.here hx rfl (hb hby own_d5_32) rfl (tlt (by decide)).2.2.2 kK) ?_
  show Goes pP eE bB _ (T_2.setTop (mkF mM 35 #[.val (.ref a1)] []))
  refine Goes.step (fun _ kK => XS.aloadN X_2.here hx rfl (hb hby own_d5_35) rfl rfl kK) ?_
  show Goes pP eE bB _ (T_2.setTop (mkF mM 36 #[.val (.ref a1)] [(.ref a1)]))
  refine Goes.step (fun _ kK => XS.iconst X_2.here hx rfl (hb hby own_d5_36) kK) ?_
  show Goes pP eE bB _ (T_2.setTop (mkF mM 37 #[.val (.ref a1)] [(.int (2 : Int32)), (.ref a1)]))
  refine Goes.step (fun _ kK => XS.aloadN X_2.here hx rfl (hb hby own_d5_37) rfl rfl kK) ?_
  show Goes pP eE bB _ (T_2.setTop (mkF mM 38 #[.val (.ref a1)] [(.ref a1), (.int (2 : Int32)), (.ref a1)]))
  refine Goes.step (fun _ kK => XS.iconst X_2.here hx rfl (hb hby own_d5_38) kK) ?_
  show Goes pP eE bB _ (T_2.setTop (mkF mM 39 #[.val (.ref a1)] [(.int (2 : Int32)), (.ref a1), (.int (2 : Int32)), (.ref a1)]))
  refine Goes.baload X_2 hx hZ e_2 A_2 (i := 2) (by decide) (by decide) (by first | rfl | simp [own_f]) (g := (mkF mM 39 #[.val (.ref a1)] [(.int (2 : Int32)), (.ref a1), (.int (2 : Int32)), (.ref a1)])) rfl rfl (hb hby own_d5_39) ?_
  show Goes pP eE bB _ (T_2.setTop (mkF mM 40 #[.val (.ref a1)] [(.int (p5.toInt8.toInt32)), (.int (2 : Int32)), (.ref a1)]))
  refine Goes.step (fun _ kK => XS.iconst X_2.here hx rfl (hb hby own_d5_40) kK) ?_
  show Goes pP eE bB _ (T_2.setTop (mkF mM 41 #[.val (.ref a1)] [(.int (1 : Int32)), (.int (p5.toInt8.toInt32)), (.int (2 : Int32)), (.ref a1)]))
  refine Goes.step (fun _ kK => XS.iadd X_2.here hx rfl (hb hby own_d5_41) rfl kK) ?_
  show Goes pP eE bB _ (T_2.setTop (mkF mM 42 #[.val (.ref a1)] [(.int ((p5.toInt8.toInt32) + (1 : Int32))), (.int (2 : Int32)), (.ref a1)]))
  refine Goes.step (fun _ kK => XS.i2b X_2.here hx rfl (hb hby own_d5_42) rfl kK) ?_
  show Goes pP eE bB _ (T_2.setTop (mkF mM 43 #[.val (.ref a1)] [(.int (((p5.toInt8.toInt32) + (1 : Int32)).toInt8.toInt32)), (.int (2 : Int32)), (.ref a1)]))
  refine Goes.bastore X_2 hx hZ e_2 A_2 (i := 2) (by decide) (by decide) (g := (mkF mM 43 #[.val (.ref a1)] [(.int (((p5.toInt8.toInt32) + (1 : Int32)).toInt8.toInt32)), (.int (2 : Int32)), (.ref a1)])) rfl rfl (hb hby own_d5_43) ?_
  intro T_3 h_3 X_3 e_3 W_3 A_3
  have N_3 := Fr.snoc X_3 N_2 ga
  show Goes pP eE bB _ (T_3.setTop (mkF mM 44 #[.val (.ref a1)] []))
  refine Goes.step (fun _ kK => XS.aloadN X_3.here hx rfl (hb hby own_d5_44) rfl rfl kK) ?_
  show Goes pP eE bB _ (T_3.setTop (mkF mM 45 #[.val (.ref a1)] [(.ref a1)]))
  refine Goes.alen X_3 hx hZ e_3 A_3 (z := (4 : Int32)) (by decide) (g := (mkF mM 45 #[.val (.ref a1)] [(.ref a1)])) rfl rfl (hb hby own_d5_45) ?_
  show Goes pP eE bB _ (T_3.setTop (mkF mM 46 #[.val (.ref a1)] [(.int (4 : Int32))]))
  refine Goes.step (fun _ kK => XS.iconst X_3.here hx rfl (hb hby own_d5_46) kK) ?_
  show Goes pP eE bB _ (T_3.setTop (mkF mM 47 #[.val (.ref a1)] [(.int (3 : Int32)), (.int (4 : Int32))]))
  refine Goes.step (fun _ kK => XS.icmpNo X_3.here hx rfl (hb hby own_d5_47) rfl (tlt (by decide)).2.2.2 kK) ?_
  show Goes pP eE bB _ (T_3.setTop (mkF mM 50 #[.val (.ref a1)] []))
  refine Goes.step (fun _ kK => XS.aloadN X_3.here hx rfl (hb hby own_d5_50) rfl rfl kK) ?_
  show Goes pP eE bB _ (T_3.setTop (mkF mM 51 #[.val (.ref a1)] [(.ref a1)]))
  refine Goes.step (fun _ kK => XS.iconst X_3.here hx rfl (hb hby own_d5_51) kK) ?_
  show Goes pP eE bB _ (T_3.setTop (mkF mM 52 #[.val (.ref a1)] [(.int (3 : Int32)), (.ref a1)]))
  refine Goes.step (fun _ kK => XS.aloadN X_3.here hx rfl (hb hby own_d5_52) rfl rfl kK) ?_
  show Goes pP eE bB _ (T_3.setTop (mkF mM 53 #[.val (.ref a1)] [(.ref a1), (.int (3 : Int32)), (.ref a1)]))
  refine Goes.step (fun _ kK => XS.iconst X_3.here hx rfl (hb hby own_d5_53) kK) ?_
  show Goes pP eE bB _ (T_3.setTop (mkF mM 54 #[.val (.ref a1)] [(.int (3 : Int32)), (.ref a1), (.int (3 : Int32)), (.ref a1)]))
  refine Goes.baload X_3 hx hZ e_3 A_3 (i := 3) (by decide) (by decide) (by first | rfl | simp [own_f]) (g := (mkF mM 54 #[.val (.ref a1)] [(.int (3 : Int32)), (.ref a1), (.int (3 : Int32)), (.ref a1)])) rfl rfl (hb hby own_d5_54) ?_
  show Goes pP eE bB _ (T_3.setTop (mkF mM 55 #[.val (.ref a1)] [(.int (p6.toInt8.toInt32)), (.int (3 : Int32)), (.ref a1)]))
  refine Goes.step (fun _ kK => XS.iconst X_3.here hx rfl (hb hby own_d5_55) kK) ?_
  show Goes pP eE bB _ (T_3.setTop (mkF mM 56 #[.val (.ref a1)] [(.int (1 : Int32)), (.int (p6.toInt8.toInt32)), (.int (3 : Int32)), (.ref a1)]))
  refine Goes.step (fun _ kK => XS.iadd X_3.here hx rfl (hb hby own_d5_56) rfl kK) ?_
  show Goes pP eE bB _ (T_3.setTop (mkF mM 57 #[.val (.ref a1)] [(.int ((p6.toInt8.toInt32) + (1 : Int32))), (.int (3 : Int32)), (.ref a1)]))
  refine Goes.step (fun _ kK => XS.i2b X_3.here hx rfl (hb hby own_d5_57) rfl kK) ?_
  show Goes pP eE bB _ (T_3.setTop (mkF mM 58 #[.val (.ref a1)] [(.int (((p6.toInt8.toInt32) + (1 : Int32)).toInt8.toInt32)), (.int (3 : Int32)), (.ref a1)]))
  refine Goes.bastore X_3 hx hZ e_3 A_3 (i := 3) (by decide) (by decide) (g := (mkF mM 58 #[.val (.ref a1)] [(.int (((p6.toInt8.toInt32) + (1 : Int32)).toInt8.toInt32)), (.int (3 : Int32)), (.ref a1)])) rfl rfl (hb hby own_d5_58) ?_
  intro T_4 h_4 X_4 e_4 W_4 A_4
  have N_4 := Fr.snoc X_4 N_3 ga
  show Goes pP eE bB _ (T_4.setTop (mkF mM 59 #[.val (.ref a1)] []))
  refine Goes.ret0 X_4 hx hlk hret (hb hby own_d5_59) (by decide) (by decide) ?_
  have u_5 := (Keep.refl h0 [a1]).wr W_1 (Or.inl (List.mem_of_getElem? (i := 0) rfl))
  have u_6 := u_5.wr W_2 (Or.inl (List.mem_of_getElem? (i := 0) rfl))
  have u_7 := u_6.wr W_3 (Or.inl (List.mem_of_getElem? (i := 0) rfl))
  have u_8 := u_7.wr W_4 (Or.inl (List.mem_of_getElem? (i := 0) rfl))
  exact ⟨rfl, N_4, by rw [e_4]; exact u_8⟩
set_option maxRecDepth 65536 in
set_option maxHeartbeats 40000000 in
theorem rm0 (l : Launch) (Z : State) (a0 : Array Value) (hw : ∀ d ∈ tables_1, d.before a0 Z = true) (p1 p2 p3 p4 p5 p6 : Int32) (wI : Addr) (h0 : Heap) (n0 : Nat) (Z0 : n0 ≤ h0.size) (SI : Sta Z Z.heap "com/example/anchorline/anchorline/tcap/Dialogue$State" "IDLE" "Lcom/example/anchorline/anchorline/tcap/Dialogue$State;" (.ref wI)) (O0 : Old Z n0 h0) :
    Con l Z x code maxLocals ret room_1 #[(.int p1), (.int p2), (.int p3), (.int p4), (.int p5), (.int p6)] h0 (fun v h L => v = some (.int 1) ∧ Fr n0 L) := by
  refine Con.body (plainFor_of_name own_pn1) ?_
  intro pP eE sS mM bB mT cC s₁ hx hby hml hZ hown hnm hret hlk X0 e0
  have hown : sS.vm.findClass "com/example/anchorline/anchorline/tcap/DialogueApplicationContextPinLaw" = some mM.cls := hown
  have hml : cC.maxLocals = 12 := hml
  have N0 := Fr.nil n0
  have ef : entryFrame mM #[(.int p1), (.int p2), (.int p3), (.int p4), (.int p5), (.int p6)] maxLocals = mkF mM 0 #[.val (.int p1), .val (.int p2), .val (.int p3), .val (.int p4), .val (.int p5), .val (.int p6), .unset, .unset, .unset, .unset, .unset, .unset] [] := by first | (simp [entryFrame, mkF, argsToLocals, Value.category, maxLocals]; done) | rfl
  rw [ef]
  show Goes pP eE bB _ (s₁.setTop (mkF mM 0 #[.val (.int p1), .val (.int p2), .val (.int p3), .val (.int p4), .val (.int p5), .val (.int p6), .unset, .unset, .unset, .unset, .unset, .unset] []))
  refine Goes.step (fun _ kK => XS.iload X0.here hx rfl (hb hby at_0) rfl kK) ?_
  show Goes pP eE bB _ (s₁.setTop (mkF mM 2 #[.val (.int p1), .val (.int p2), .val (.int p3), .val (.int p4), .val (.int p5), .val (.int p6), .unset, .unset, .unset, .unset, .unset, .unset] [(.int p6)]))
  refine Goes.step (fun _ kK => XS.iconst X0.here hx rfl (hb hby at_2) kK) ?_
  show Goes pP eE bB _ (s₁.setTop (mkF mM 3 #[.val (.int p1), .val (.int p2), .val (.int p3), .val (.int p4), .val (.int p5), .val (.int p6), .unset, .unset, .unset, .unset, .unset, .unset] [(.int (1 : Int32)), (.int p6)]))
  refine Goes.step (fun _ kK => XS.iand X0.here hx rfl (hb hby at_3) rfl kK) ?_
  show Goes pP eE bB _ (s₁.setTop (mkF mM 4 #[.val (.int p1), .val (.int p2), .val (.int p3), .val (.int p4), .val (.int p5), .val (.int p6), .unset, .unset, .unset, .unset, .unset, .unset] [(.int (p6 &&& (1 : Int32)))]))
  by_cases hc_1 : (p6 &&& (1 : Int32)) = (0 : Int32)
  · refine Goes.step (fun _ kK => XS.ifYes X0.here hx rfl (pc0 := 4) (pc' := 11) rfl (hb hby at_4) rfl ((if0 _ _).trans (teq hc_1).1) (by decide) (by decide) kK) ?_
    show Goes pP eE bB _ (s₁.setTop (mkF mM 11 #[.val (.int p1), .val (.int p2), .val (.int p3), .val (.int p4), .val (.int p5), .val (.int p6), .unset, .unset, .unset, .unset, .unset, .unset] []))
    refine Goes.step (fun _ kK => XS.iconst X0.here hx rfl (hb hby at_11) kK) ?_
    show Goes pP eE bB _ (s₁.setTop (mkF mM 12 #[.val (.int p1), .val (.int p2), .val (.int p3), .val (.int p4), .val (.int p5), .val (.int p6), .unset, .unset, .unset, .unset, .unset, .unset] [(.int (0 : Int32))]))
    refine Goes.step (fun _ kK => XS.istore X0.here hx rfl (hb hby at_12) rfl (l' := #[.val (.int p1), .val (.int p2), .val (.int p3), .val (.int p4), .val (.int p5), .val (.int p6), .val (.int (0 : Int32)), .unset, .unset, .unset, .unset, .unset]) rfl kK) ?_
    show Goes pP eE bB _ (s₁.setTop (mkF mM 14 #[.val (.int p1), .val (.int p2), .val (.int p3), .val (.int p4), .val (.int p5), .val (.int p6), .val (.int (0 : Int32)), .unset, .unset, .unset, .unset, .unset] []))
    refine Goes.step (fun _ kK => XS.iloadN X0.here hx rfl (hb hby at_14) rfl kK) ?_
    show Goes pP eE bB _ (s₁.setTop (mkF mM 15 #[.val (.int p1), .val (.int p2), .val (.int p3), .val (.int p4), .val (.int p5), .val (.int p6), .val (.int (0 : Int32)), .unset, .unset, .unset, .unset, .unset] [(.int p1)]))
    refine Goes.step (fun _ kK => X0.ldcI hx hown (mvT hZ (hw _ (List.mem_of_getElem? (i := 0) rfl))) rfl (hb hby at_15) kK) ?_
    show Goes pP eE bB _ (s₁.setTop (mkF mM 17 #[.val (.int p1), .val (.int p2), .val (.int p3), .val (.int p4), .val (.int p5), .val (.int p6), .val (.int (0 : Int32)), .unset, .unset, .unset, .unset, .unset] [(.int (2147483647 : Int32)), (.int p1)]))
    refine Goes.step (fun _ kK => XS.iand X0.here hx rfl (hb hby at_17) rfl kK) ?_
    show Goes pP eE bB _ (s₁.setTop (mkF mM 18 #[.val (.int p1), .val (.int p2), .val (.int p3), .val (.int p4), .val (.int p5), .val (.int p6), .val (.int (0 : Int32)), .unset, .unset, .unset, .unset, .unset] [(.int (p1 &&& (2147483647 : Int32)))]))
    refine Goes.step (fun _ kK => XS.iconst X0.here hx rfl (hb hby at_18) kK) ?_
    show Goes pP eE bB _ (s₁.setTop (mkF mM 19 #[.val (.int p1), .val (.int p2), .val (.int p3), .val (.int p4), .val (.int p5), .val (.int p6), .val (.int (0 : Int32)), .unset, .unset, .unset, .unset, .unset] [(.int (5 : Int32)), (.int (p1 &&& (2147483647 : Int32)))]))
    refine Goes.step (fun _ kK => Jvm.RoadKit.iremM X0 hx rfl (hb hby at_19) rfl (by decide) kK) ?_
    show Goes pP eE bB _ (s₁.setTop (mkF mM 20 #[.val (.int p1), .val (.int p2), .val (.int p3), .val (.int p4), .val (.int p5), .val (.int p6), .val (.int (0 : Int32)), .unset, .unset, .unset, .unset, .unset] [(.int ((p1 &&& (2147483647 : Int32)) % (5 : Int32)))]))
    refine Goes.step (fun _ kK => XS.istore X0.here hx rfl (hb hby at_20) rfl (l' := #[.val (.int p1), .val (.int p2), .val (.int p3), .val (.int p4), .val (.int p5), .val (.int p6), .val (.int (0 : Int32)), .val (.int ((p1 &&& (2147483647 : Int32)) % (5 : Int32))), .unset, .unset, .unset, .unset]) rfl kK) ?_
    show Goes pP eE bB _ (s₁.setTop (mkF mM 22 #[.val (.int p1), .val (.int p2), .val (.int p3), .val (.int p4), .val (.int p5), .val (.int p6), .val (.int (0 : Int32)), .val (.int ((p1 &&& (2147483647 : Int32)) % (5 : Int32))), .unset, .unset, .unset, .unset] []))
    rcases own_mod5 p1 with hl | hl | hl | hl | hl
    · rw [hl]
      show Goes pP eE bB _ (s₁.setTop (mkF mM 22 #[.val (.int p1), .val (.int p2), .val (.int p3), .val (.int p4), .val (.int p5), .val (.int p6), .val (.int (0 : Int32)), .val (.int (0 : Int32)), .unset, .unset, .unset, .unset] []))
      refine Goes.step (fun _ kK => XS.iload X0.here hx rfl (hb hby at_22) rfl kK) ?_
      show Goes pP eE bB _ (s₁.setTop (mkF mM 24 #[.val (.int p1), .val (.int p2), .val (.int p3), .val (.int p4), .val (.int p5), .val (.int p6), .val (.int (0 : Int32)), .val (.int (0 : Int32)), .unset, .unset, .unset, .unset] [(.int (0 : Int32))]))
      refine Goes.step (fun _ kK => XS.ifYes X0.here hx rfl (pc0 := 24) (pc' := 31) rfl (hb hby at_24) rfl ((if0 _ _).trans (teq (by decide)).1) (by decide) (by decide) kK) ?_
      show Goes pP eE bB _ (s₁.setTop (mkF mM 31 #[.val (.int p1), .val (.int p2), .val (.int p3), .val (.int p4), .val (.int p5), .val (.int p6), .val (.int (0 : Int32)), .val (.int (0 : Int32)), .unset, .unset, .unset, .unset] []))
      refine Goes.step (fun _ kK => XS.iload X0.here hx rfl (hb hby at_31) rfl kK) ?_
      show Goes pP eE bB _ (s₁.setTop (mkF mM 33 #[.val (.int p1), .val (.int p2), .val (.int p3), .val (.int p4), .val (.int p5), .val (.int p6), .val (.int (0 : Int32)), .val (.int (0 : Int32)), .unset, .unset, .unset, .unset] [(.int (0 : Int32))]))
      obtain ⟨T_2, h_2, k_2, X_2, e_2, E_2, A_2, M_2, st_2⟩ := newPE X0 hx hZ (hw _ (List.mem_of_getElem? (i := 24) rfl)) e0 (g := (mkF mM 33 #[.val (.int p1), .val (.int p2), .val (.int p3), .val (.int p4), .val (.int p5), .val (.int p6), .val (.int (0 : Int32)), .val (.int (0 : Int32)), .unset, .unset, .unset, .unset] [(.int (0 : Int32))])) rfl (hb hby at_33) rfl (by decide) (cap := 0) (by decide) (by decide) (by decide) (by decide) (ad := "[B") rfl
      obtain ⟨b_2, g_2⟩ : ∃ z, z = h0.size := ⟨_, rfl⟩
      rw [← g_2] at A_2 M_2 st_2
      have u_3 : n0 ≤ b_2 := Nat.le_trans Z0 (Nat.le_of_eq g_2.symm)
      have u_4 : Afn Z h_2 b_2 .byte 0 (fun _ => (.int (0 : Int32))) := Afn.new (n := 0) A_2 (by decide)
      refine Goes.step st_2 ?_
      show Goes pP eE bB _ (T_2.setTop (mkF mM 35 #[.val (.int p1), .val (.int p2), .val (.int p3), .val (.int p4), .val (.int p5), .val (.int p6), .val (.int (0 : Int32)), .val (.int (0 : Int32)), .unset, .unset, .unset, .unset] [(.ref b_2)]))
      refine Goes.step (fun _ kK => XS.astore X_2.here hx rfl (hb hby at_35) rfl rfl (l' := #[.val (.int p1), .val (.int p2), .val (.int p3), .val (.int p4), .val (.int p5), .val (.int p6), .val (.int (0 : Int32)), .val (.int (0 : Int32)), .val (.ref b_2), .unset, .unset, .unset]) rfl kK) ?_
      show Goes pP eE bB _ (T_2.setTop (mkF mM 37 #[.val (.int p1), .val (.int p2), .val (.int p3), .val (.int p4), .val (.int p5), .val (.int p6), .val (.int (0 : Int32)), .val (.int (0 : Int32)), .val (.ref b_2), .unset, .unset, .unset] []))
      refine Goes.step (fun _ kK => XS.iload X_2.here hx rfl (hb hby at_37) rfl kK) ?_
      show Goes pP eE bB _ (T_2.setTop (mkF mM 39 #[.val (.int p1), .val (.int p2), .val (.int p3), .val (.int p4), .val (.int p5), .val (.int p6), .val (.int (0 : Int32)), .val (.int (0 : Int32)), .val (.ref b_2), .unset, .unset, .unset] [(.int (0 : Int32))]))
      refine Goes.step (fun _ kK => XS.ifNo X_2.here hx rfl (hb hby at_39) rfl ((if0 _ _).trans (teq (by decide)).2) kK) ?_
      show Goes pP eE bB _ (T_2.setTop (mkF mM 42 #[.val (.int p1), .val (.int p2), .val (.int p3), .val (.int p4), .val (.int p5), .val (.int p6), .val (.int (0 : Int32)), .val (.int (0 : Int32)), .val (.ref b_2), .unset, .unset, .unset] []))
      refine Goes.step (fun _ kK => XS.iload X_2.here hx rfl (hb hby at_42) rfl kK) ?_
      show Goes pP eE bB _ (T_2.setTop (mkF mM 44 #[.val (.int p1), .val (.int p2), .val (.int p3), .val (.int p4), .val (.int p5), .val (.int p6), .val (.int (0 : Int32)), .val (.int (0 : Int32)), .val (.ref b_2), .unset, .unset, .unset] [(.int (0 : Int32))]))
      refine Goes.step (fun _ kK => XS.ifYes X_2.here hx rfl (pc0 := 44) (pc' := 53) rfl (hb hby at_44) rfl ((if0 _ _).trans (flt (by decide)).2.2.2) (by decide) (by decide) kK) ?_
      show Goes pP eE bB _ (T_2.setTop (mkF mM 53 #[.val (.int p1), .val (.int p2), .val (.int p3), .val (.int p4), .val (.int p5), .val (.int p6), .val (.int (0 : Int32)), .val (.int (0 : Int32)), .val (.ref b_2), .unset, .unset, .unset] []))
      refine Goes.step (fun _ kK => XS.iload X_2.here hx rfl (hb hby at_53) rfl kK) ?_
      show Goes pP eE bB _ (T_2.setTop (mkF mM 55 #[.val (.int p1), .val (.int p2), .val (.int p3), .val (.int p4), .val (.int p5), .val (.int p6), .val (.int (0 : Int32)), .val (.int (0 : Int32)), .val (.ref b_2), .unset, .unset, .unset] [(.int (0 : Int32))]))
      refine Goes.step (fun _ kK => XS.iconst X_2.here hx rfl (hb hby at_55) kK) ?_
      show Goes pP eE bB _ (T_2.setTop (mkF mM 56 #[.val (.int p1), .val (.int p2), .val (.int p3), .val (.int p4), .val (.int p5), .val (.int p6), .val (.int (0 : Int32)), .val (.int (0 : Int32)), .val (.ref b_2), .unset, .unset, .unset] [(.int (1 : Int32)), (.int (0 : Int32))]))
      refine Goes.step (fun _ kK => XS.icmpYes X_2.here hx rfl (pc0 := 56) (pc' := 65) rfl (hb hby at_56) rfl (flt (by decide)).2.2.2 (by decide) (by decide) kK) ?_
      show Goes pP eE bB _ (T_2.setTop (mkF mM 65 #[.val (.int p1), .val (.int p2), .val (.int p3), .val (.int p4), .val (.int p5), .val (.int p6), .val (.int (0 : Int32)), .val (.int (0 : Int32)), .val (.ref b_2), .unset, .unset, .unset] []))
      refine Goes.step (fun _ kK => XS.iload X_2.here hx rfl (hb hby at_65) rfl kK) ?_
      show Goes pP eE bB _ (T_2.setTop (mkF mM 67 #[.val (.int p1), .val (.int p2), .val (.int p3), .val (.int p4), .val (.int p5), .val (.int p6), .val (.int (0 : Int32)), .val (.int (0 : Int32)), .val (.ref b_2), .unset, .unset, .unset] [(.int (0 : Int32))]))
      refine Goes.step (fun _ kK => XS.iconst X_2.here hx rfl (hb hby at_67) kK) ?_
      show Goes pP eE bB _ (T_2.setTop (mkF mM 68 #[.val (.int p1), .val (.int p2), .val (.int p3), .val (.int p4), .val (.int p5), .val (.int p6), .val (.int (0 : Int32)), .val (.int (0 : Int32)), .val (.ref b_2), .unset, .unset, .unset] [(.int (2 : Int32)), (.int (0 : Int32))]))
      refine Goes.step (fun _ kK => XS.icmpYes X_2.here hx rfl (pc0 := 68) (pc' := 77) rfl (hb hby at_68) rfl (flt (by decide)).2.2.2 (by decide) (by decide) kK) ?_
      show Goes pP eE bB _ (T_2.setTop (mkF mM 77 #[.val (.int p1), .val (.int p2), .val (.int p3), .val (.int p4), .val (.int p5), .val (.int p6), .val (.int (0 : Int32)), .val (.int (0 : Int32)), .val (.ref b_2), .unset, .unset, .unset] []))
      refine Goes.step (fun _ kK => XS.iload X_2.here hx rfl (hb hby at_77) rfl kK) ?_
      show Goes pP eE bB _ (T_2.setTop (mkF mM 79 #[.val (.int p1), .val (.int p2), .val (.int p3), .val (.int p4), .val (.int p5), .val (.int p6), .val (.int (0 : Int32)), .val (.int (0 : Int32)), .val (.ref b_2), .unset, .unset, .unset] [(.int (0 : Int32))]))
      refine Goes.step (fun _ kK => XS.iconst X_2.here hx rfl (hb hby at_79) kK) ?_
      show Goes pP eE bB _ (T_2.setTop (mkF mM 80 #[.val (.int p1), .val (.int p2), .val (.int p3), .val (.int p4), .val (.int p5), .val (.int p6), .val (.int (0 : Int32)), .val (.int (0 : Int32)), .val (.ref b_2), .unset, .unset, .unset] [(.int (3 : Int32)), (.int (0 : Int32))]))
      refine Goes.step (fun _ kK => XS.icmpYes X_2.here hx rfl (pc0 := 80) (pc' := 90) rfl (hb hby at_80) rfl (flt (by decide)).2.2.2 (by decide) (by decide) kK) ?_
      show Goes pP eE bB _ (T_2.setTop (mkF mM 90 #[.val (.int p1), .val (.int p2), .val (.int p3), .val (.int p4), .val (.int p5), .val (.int p6), .val (.int (0 : Int32)), .val (.int (0 : Int32)), .val (.ref b_2), .unset, .unset, .unset] []))
      have u_5 : Afn Z h_2 b_2 .byte 0 (own_f p2 p3 p4 p5) := (u_4).congr (f' := own_f p2 p3 p4 p5) (fun i hi => absurd hi (Nat.not_lt_zero i))
      show Goes pP eE bB _ (T_2.setTop (mkF mM 90 #[.val (.int p1), .val (.int p2), .val (.int p3), .val (.int p4), .val (.int p5), .val (.int p6), .val (.int (0 : Int32)), .val (.int (0 : Int32)), .val (.ref b_2), .unset, .unset, .unset] []))
      obtain ⟨T_6, h_6, X_6, e_6, E_6, A_6, D_6, -, st_6⟩ := newO X_2 hx hZ hown (hw _ (List.mem_of_getElem? (i := 1) rfl)) (hw _ (List.mem_of_getElem? (i := 2) rfl)) (hw _ (List.mem_of_getElem? (i := 3) rfl)) e_2 (g := (mkF mM 90 #[.val (.int p1), .val (.int p2), .val (.int p3), .val (.int p4), .val (.int p5), .val (.int p6), .val (.int (0 : Int32)), .val (.int (0 : Int32)), .val (.ref b_2), .unset, .unset, .unset] [])) rfl (hb hby at_90) (by decide) (by decide)
      obtain ⟨b_6, g_6⟩ : ∃ z, z = h_2.size := ⟨_, rfl⟩
      rw [← g_6] at A_6 D_6 st_6
      have u_7 : b_2 < b_6 := Nat.lt_of_lt_of_le (u_5).lt (Nat.le_of_eq g_6.symm)
      have u_8 := Nat.le_trans Z0 E_2.1
      have u_9 : n0 ≤ b_6 := Nat.le_trans u_8 (Nat.le_of_eq g_6.symm)
      have u_10 : Fld Z h_6 b_6 "com/example/anchorline/anchorline/tcap/Dialogue" "peer" "Lcom/example/anchorline/anchorline/sccp/SccpAddress;" .null := D_6 (Or.inr (hw _ (List.mem_of_getElem? (i := 14) rfl))) (ty := (.object "com/example/anchorline/anchorline/sccp/SccpAddress")) (by decide)
      have u_11 : Fld Z h_6 b_6 "com/example/anchorline/anchorline/tcap/Dialogue" "applicationContext" "[B" .null := D_6 (Or.inr (hw _ (List.mem_of_getElem? (i := 16) rfl))) (ty := (.array .byte)) (by decide)
      have u_12 : Fld Z h_6 b_6 "com/example/anchorline/anchorline/tcap/Dialogue" "state" "Lcom/example/anchorline/anchorline/tcap/Dialogue$State;" .null := D_6 (Or.inl (hw _ (List.mem_of_getElem? (i := 18) rfl))) (ty := (.object "com/example/anchorline/anchorline/tcap/Dialogue$State")) (by decide)
      refine Goes.step st_6 ?_
      show Goes pP eE bB _ (T_6.setTop (mkF mM 93 #[.val (.int p1), .val (.int p2), .val (.int p3), .val (.int p4), .val (.int p5), .val (.int p6), .val (.int (0 : Int32)), .val (.int (0 : Int32)), .val (.ref b_2), .unset, .unset, .unset] [(.ref b_6)]))
      refine Goes.step (fun _ kK => XS.dup X_6.here hx rfl (hb hby at_93) rfl rfl kK) ?_
      show Goes pP eE bB _ (T_6.setTop (mkF mM 94 #[.val (.int p1), .val (.int p2), .val (.int p3), .val (.int p4), .val (.int p5), .val (.int p6), .val (.int (0 : Int32)), .val (.int (0 : Int32)), .val (.ref b_2), .unset, .unset, .unset] [(.ref b_6), (.ref b_6)]))
      refine Goes.step (fun _ kK => XS.aconstNull X_6.here hx rfl (hb hby at_94) kK) ?_
      show Goes pP eE bB _ (T_6.setTop (mkF mM 95 #[.val (.int p1), .val (.int p2), .val (.int p3), .val (.int p4), .val (.int p5), .val (.int p6), .val (.int (0 : Int32)), .val (.int (0 : Int32)), .val (.ref b_2), .unset, .unset, .unset] [.null, (.ref b_6), (.ref b_6)]))
      refine Goes.step (fun _ kK => XS.aload X_6.here hx rfl (hb hby at_95) rfl rfl kK) ?_
      show Goes pP eE bB _ (T_6.setTop (mkF mM 97 #[.val (.int p1), .val (.int p2), .val (.int p3), .val (.int p4), .val (.int p5), .val (.int p6), .val (.int (0 : Int32)), .val (.int (0 : Int32)), .val (.ref b_2), .unset, .unset, .unset] [(.ref b_2), .null, (.ref b_6), (.ref b_6)]))
      have u_14 := O0.ext E_2
      have u_15 := u_14.ext E_6
      obtain ⟨T_13, X_13, e_13, st_13⟩ := getS2 X_6 hx hZ hown (host := "") (Or.inl (hw _ (List.mem_of_getElem? (i := 4) rfl))) Via.refl e_6 (SI.ext u_15.2) (g := (mkF mM 97 #[.val (.int p1), .val (.int p2), .val (.int p3), .val (.int p4), .val (.int p5), .val (.int p6), .val (.int (0 : Int32)), .val (.int (0 : Int32)), .val (.ref b_2), .unset, .unset, .unset] [(.ref b_2), .null, (.ref b_6), (.ref b_6)])) rfl (hb hby at_97)
      refine Goes.step st_13 ?_
      show Goes pP eE bB _ (T_13.setTop (mkF mM 100 #[.val (.int p1), .val (.int p2), .val (.int p3), .val (.int p4), .val (.int p5), .val (.int p6), .val (.int (0 : Int32)), .val (.int (0 : Int32)), .val (.ref b_2), .unset, .unset, .unset] [(.ref wI), (.ref b_2), .null, (.ref b_6), (.ref b_6)]))
      have u_16 := Nat.le_trans u_8 E_6.1
      refine Goes.callI X_13 hx hZ rfl hown (hw _ (List.mem_of_getElem? (i := 7) rfl)) (hw _ (List.mem_of_getElem? (i := 8) rfl)) (hw _ (List.mem_of_getElem? (i := 9) rfl)) (hw _ (List.mem_of_getElem? (i := 3) rfl)) (by decide) e_13 (rmC l Z a0 hw b_6 b_2 wI h_6 n0 u_16 A_6 u_9 u_10 u_11 u_12) (W := 1) (by decide) (by decide) (by decide) (by decide) (g := (mkF mM 100 #[.val (.int p1), .val (.int p2), .val (.int p3), .val (.int p4), .val (.int p5), .val (.int p6), .val (.int (0 : Int32)), .val (.int (0 : Int32)), .val (.ref b_2), .unset, .unset, .unset] [(.ref wI), (.ref b_2), .null, (.ref b_6), (.ref b_6)])) rfl (by rw [hml]; rfl) (rest := [(.ref b_6)]) own_pd0 rfl rfl (by show 2 * 0 + _ ≤ _; exact Nat.le_of_eq rfl) (hb hby at_100) ?_
      intro v_17 T_17 L_17 X_17 hQ_17
      generalize e_17 : T_17.heap = h_17 at hQ_17
      obtain ⟨rfl, N_17q, K_17, F_17⟩ := hQ_17
      have N_17 := Fr.app N0 N_17q
      show Goes pP eE bB _ (T_17.setTop (mkF mM 103 #[.val (.int p1), .val (.int p2), .val (.int p3), .val (.int p4), .val (.int p5), .val (.int p6), .val (.int (0 : Int32)), .val (.int (0 : Int32)), .val (.ref b_2), .unset, .unset, .unset] [(.ref b_6)]))
      refine Goes.step (fun _ kK => XS.astore X_17.here hx rfl (hb hby at_103) rfl rfl (l' := #[.val (.int p1), .val (.int p2), .val (.int p3), .val (.int p4), .val (.int p5), .val (.int p6), .val (.int (0 : Int32)), .val (.int (0 : Int32)), .val (.ref b_2), .val (.ref b_6), .unset, .unset]) rfl kK) ?_
      show Goes pP eE bB _ (T_17.setTop (mkF mM 105 #[.val (.int p1), .val (.int p2), .val (.int p3), .val (.int p4), .val (.int p5), .val (.int p6), .val (.int (0 : Int32)), .val (.int (0 : Int32)), .val (.ref b_2), .val (.ref b_6), .unset, .unset] []))
      refine Goes.step (fun _ kK => XS.aload X_17.here hx rfl (hb hby at_105) rfl rfl kK) ?_
      show Goes pP eE bB _ (T_17.setTop (mkF mM 107 #[.val (.int p1), .val (.int p2), .val (.int p3), .val (.int p4), .val (.int p5), .val (.int p6), .val (.int (0 : Int32)), .val (.int (0 : Int32)), .val (.ref b_2), .val (.ref b_6), .unset, .unset] [(.ref b_6)]))
      have u_18 := Nat.le_trans u_16 K_17.1
      have u_19 := u_5.ext E_6
      have u_20 := u_19.keep K_17 (ninS (Nat.ne_of_lt u_7) nin0)
      have u_21 := M_2.ext E_6
      have u_22 := u_21.keep K_17
      have u_24 := A_6.keep K_17
      refine Goes.callV X_17 hx hZ hown (hw _ (List.mem_of_getElem? (i := 19) rfl)) (hw _ (List.mem_of_getElem? (i := 20) rfl)) (notFace_of_selects (args := #[]) (mvT hZ (hw _ (List.mem_of_getElem? (i := 22) rfl)))) (hw _ (List.mem_of_getElem? (i := 22) rfl)) (hw _ (List.mem_of_getElem? (i := 21) rfl)) (hw _ (List.mem_of_getElem? (i := 23) rfl)) (hw _ (List.mem_of_getElem? (i := 3) rfl)) (by decide) e_17 u_24 (rmA l Z a0 hw b_6 b_2 h_17 n0 u_18 0 (by decide) _ F_17 u_20 u_22) (W := 0) (by decide) (by decide) (by decide) (by decide) (g := (mkF mM 107 #[.val (.int p1), .val (.int p2), .val (.int p3), .val (.int p4), .val (.int p5), .val (.int p6), .val (.int (0 : Int32)), .val (.int (0 : Int32)), .val (.ref b_2), .val (.ref b_6), .unset, .unset] [(.ref b_6)])) rfl (by rw [hml]; rfl) (rest := []) own_pd1 rfl rfl (by show 2 * 0 + _ ≤ _; exact Nat.le_of_eq rfl) (hb hby at_107) ?_
      intro v_23 T_23 L_23 X_23 hQ_23
      generalize e_23 : T_23.heap = h_23 at hQ_23
      obtain ⟨c_23, rfl, N_23q, E_23, s_23, A_23, M_23⟩ := hQ_23
      have N_23 := Fr.app N_17 N_23q
      have u_25 := Nat.lt_of_lt_of_le (u_5).lt E_6.1
      have u_26 := Nat.lt_of_lt_of_le u_25 K_17.1
      have u_27 : b_2 < c_23 := Nat.lt_of_lt_of_le u_26 s_23
      have u_28 : b_6 < c_23 := Nat.lt_of_lt_of_le (u_24).lt s_23
      have u_29 : n0 ≤ c_23 := Nat.le_trans u_18 s_23
      show Goes pP eE bB _ (T_23.setTop (mkF mM 110 #[.val (.int p1), .val (.int p2), .val (.int p3), .val (.int p4), .val (.int p5), .val (.int p6), .val (.int (0 : Int32)), .val (.int (0 : Int32)), .val (.ref b_2), .val (.ref b_6), .unset, .unset] [(.ref c_23)]))
      refine Goes.step (fun _ kK => XS.astore X_23.here hx rfl (hb hby at_110) rfl rfl (l' := #[.val (.int p1), .val (.int p2), .val (.int p3), .val (.int p4), .val (.int p5), .val (.int p6), .val (.int (0 : Int32)), .val (.int (0 : Int32)), .val (.ref b_2), .val (.ref b_6), .val (.ref c_23), .unset]) rfl kK) ?_
      show Goes pP eE bB _ (T_23.setTop (mkF mM 112 #[.val (.int p1), .val (.int p2), .val (.int p3), .val (.int p4), .val (.int p5), .val (.int p6), .val (.int (0 : Int32)), .val (.int (0 : Int32)), .val (.ref b_2), .val (.ref b_6), .val (.ref c_23), .unset] []))
      refine Goes.step (fun _ kK => XS.iload X_23.here hx rfl (hb hby at_112) rfl kK) ?_
      show Goes pP eE bB _ (T_23.setTop (mkF mM 114 #[.val (.int p1), .val (.int p2), .val (.int p3), .val (.int p4), .val (.int p5), .val (.int p6), .val (.int (0 : Int32)), .val (.int (0 : Int32)), .val (.ref b_2), .val (.ref b_6), .val (.ref c_23), .unset] [(.int (0 : Int32))]))
      refine Goes.step (fun _ kK => XS.ifYes X_23.here hx rfl (pc0 := 114) (pc' := 136) rfl (hb hby at_114) rfl ((if0 _ _).trans (teq (by decide)).1) (by decide) (by decide) kK) ?_
      show Goes pP eE bB _ (T_23.setTop (mkF mM 136 #[.val (.int p1), .val (.int p2), .val (.int p3), .val (.int p4), .val (.int p5), .val (.int p6), .val (.int (0 : Int32)), .val (.int (0 : Int32)), .val (.ref b_2), .val (.ref b_6), .val (.ref c_23), .unset] []))
      refine Goes.step (fun _ kK => XS.aload X_23.here hx rfl (hb hby at_136) rfl rfl kK) ?_
      show Goes pP eE bB _ (T_23.setTop (mkF mM 138 #[.val (.int p1), .val (.int p2), .val (.int p3), .val (.int p4), .val (.int p5), .val (.int p6), .val (.int (0 : Int32)), .val (.int (0 : Int32)), .val (.ref b_2), .val (.ref b_6), .val (.ref c_23), .unset] [(.ref c_23)]))
      refine Goes.step (fun _ kK => XS.ifnullNo X_23.here hx rfl (hb hby at_138) rfl kK) ?_
      show Goes pP eE bB _ (T_23.setTop (mkF mM 141 #[.val (.int p1), .val (.int p2), .val (.int p3), .val (.int p4), .val (.int p5), .val (.int p6), .val (.int (0 : Int32)), .val (.int (0 : Int32)), .val (.ref b_2), .val (.ref b_6), .val (.ref c_23), .unset] []))
      refine Goes.step (fun _ kK => XS.aload X_23.here hx rfl (hb hby at_141) rfl rfl kK) ?_
      show Goes pP eE bB _ (T_23.setTop (mkF mM 143 #[.val (.int p1), .val (.int p2), .val (.int p3), .val (.int p4), .val (.int p5), .val (.int p6), .val (.int (0 : Int32)), .val (.int (0 : Int32)), .val (.ref b_2), .val (.ref b_6), .val (.ref c_23), .unset] [(.ref c_23)]))
      refine Goes.step (fun _ kK => XS.aload X_23.here hx rfl (hb hby at_143) rfl rfl kK) ?_
      show Goes pP eE bB _ (T_23.setTop (mkF mM 145 #[.val (.int p1), .val (.int p2), .val (.int p3), .val (.int p4), .val (.int p5), .val (.int p6), .val (.int (0 : Int32)), .val (.int (0 : Int32)), .val (.ref b_2), .val (.ref b_6), .val (.ref c_23), .unset] [(.ref b_2), (.ref c_23)]))
      refine Goes.step (fun _ kK => Jvm.RoadKit.acmp (g := (mkF mM 145 #[.val (.int p1), .val (.int p2), .val (.int p3), .val (.int p4), .val (.int p5), .val (.int p6), .val (.int (0 : Int32)), .val (.int (0 : Int32)), .val (.ref b_2), .val (.ref b_6), .val (.ref c_23), .unset] [(.ref b_2), (.ref c_23)])) X_23 hx rfl rfl rfl (pc0 := 145) (pc' := 150) (same := false) rfl (hb hby at_145) rfl (decide_eq_false fun q => (Nat.ne_of_gt u_27) (Value.ref.inj q)) (by decide) (by decide) kK) ?_
      show Goes pP eE bB _ (T_23.setTop (mkF mM 150 #[.val (.int p1), .val (.int p2), .val (.int p3), .val (.int p4), .val (.int p5), .val (.int p6), .val (.int (0 : Int32)), .val (.int (0 : Int32)), .val (.ref b_2), .val (.ref b_6), .val (.ref c_23), .unset] []))
      refine Goes.step (fun _ kK => XS.aload X_23.here hx rfl (hb hby at_150) rfl rfl kK) ?_
      show Goes pP eE bB _ (T_23.setTop (mkF mM 152 #[.val (.int p1), .val (.int p2), .val (.int p3), .val (.int p4), .val (.int p5), .val (.int p6), .val (.int (0 : Int32)), .val (.int (0 : Int32)), .val (.ref b_2), .val (.ref b_6), .val (.ref c_23), .unset] [(.ref c_23)]))
      refine Goes.step (fun _ kK => XS.iload X_23.here hx rfl (hb hby at_152) rfl kK) ?_
      show Goes pP eE bB _ (T_23.setTop (mkF mM 154 #[.val (.int p1), .val (.int p2), .val (.int p3), .val (.int p4), .val (.int p5), .val (.int p6), .val (.int (0 : Int32)), .val (.int (0 : Int32)), .val (.ref b_2), .val (.ref b_6), .val (.ref c_23), .unset] [(.int (0 : Int32)), (.ref c_23)]))
      refine Goes.step (fun _ kK => XS.iloadN X_23.here hx rfl (hb hby at_154) rfl kK) ?_
      show Goes pP eE bB _ (T_23.setTop (mkF mM 155 #[.val (.int p1), .val (.int p2), .val (.int p3), .val (.int p4), .val (.int p5), .val (.int p6), .val (.int (0 : Int32)), .val (.int (0 : Int32)), .val (.ref b_2), .val (.ref b_6), .val (.ref c_23), .unset] [(.int p2), (.int (0 : Int32)), (.ref c_23)]))
      refine Goes.step (fun _ kK => XS.iloadN X_23.here hx rfl (hb hby at_155) rfl kK) ?_
      show Goes pP eE bB _ (T_23.setTop (mkF mM 156 #[.val (.int p1), .val (.int p2), .val (.int p3), .val (.int p4), .val (.int p5), .val (.int p6), .val (.int (0 : Int32)), .val (.int (0 : Int32)), .val (.ref b_2), .val (.ref b_6), .val (.ref c_23), .unset] [(.int p3), (.int p2), (.int (0 : Int32)), (.ref c_23)]))
      refine Goes.step (fun _ kK => XS.iloadN X_23.here hx rfl (hb hby at_156) rfl kK) ?_
      show Goes pP eE bB _ (T_23.setTop (mkF mM 157 #[.val (.int p1), .val (.int p2), .val (.int p3), .val (.int p4), .val (.int p5), .val (.int p6), .val (.int (0 : Int32)), .val (.int (0 : Int32)), .val (.ref b_2), .val (.ref b_6), .val (.ref c_23), .unset] [(.int p4), (.int p3), (.int p2), (.int (0 : Int32)), (.ref c_23)]))
      refine Goes.step (fun _ kK => XS.iload X_23.here hx rfl (hb hby at_157) rfl kK) ?_
      show Goes pP eE bB _ (T_23.setTop (mkF mM 159 #[.val (.int p1), .val (.int p2), .val (.int p3), .val (.int p4), .val (.int p5), .val (.int p6), .val (.int (0 : Int32)), .val (.int (0 : Int32)), .val (.ref b_2), .val (.ref b_6), .val (.ref c_23), .unset] [(.int p5), (.int p4), (.int p3), (.int p2), (.int (0 : Int32)), (.ref c_23)]))
      have u_30 := Nat.le_trans u_18 E_23.1
      refine Goes.callS X_23 hx hZ hown (hw _ (List.mem_of_getElem? (i := 34) rfl)) (hw _ (List.mem_of_getElem? (i := 35) rfl)) (hw _ (List.mem_of_getElem? (i := 36) rfl)) (hw _ (List.mem_of_getElem? (i := 37) rfl)) (by decide) e_23 (rmH0 l Z a0 hw c_23 p2 p3 p4 p5 h_23 n0 u_30 A_23) (W := 0) (by decide) (by decide) (by decide) (by decide) (g := (mkF mM 159 #[.val (.int p1), .val (.int p2), .val (.int p3), .val (.int p4), .val (.int p5), .val (.int p6), .val (.int (0 : Int32)), .val (.int (0 : Int32)), .val (.ref b_2), .val (.ref b_6), .val (.ref c_23), .unset] [(.int p5), (.int p4), (.int p3), (.int p2), (.int (0 : Int32)), (.ref c_23)])) rfl (by rw [hml]; rfl) (rest := []) own_pd2 rfl rfl (by show 2 * 0 + _ ≤ _; exact Nat.le_of_eq rfl) (hb hby at_159) ?_
      intro v_31 T_31 L_31 X_31 hQ_31
      obtain ⟨rfl, N_31q, e_31⟩ := hQ_31
      have N_31 := Fr.app N_23 N_31q
      show Goes pP eE bB _ (T_31.setTop (mkF mM 162 #[.val (.int p1), .val (.int p2), .val (.int p3), .val (.int p4), .val (.int p5), .val (.int p6), .val (.int (0 : Int32)), .val (.int (0 : Int32)), .val (.ref b_2), .val (.ref b_6), .val (.ref c_23), .unset] [(.int (1 : Int32))]))
      refine Goes.step (fun _ kK => XS.ifYes X_31.here hx rfl (pc0 := 162) (pc' := 167) rfl (hb hby at_162) rfl ((if0 _ _).trans (feq (by decide)).2) (by decide) (by decide) kK) ?_
      show Goes pP eE bB _ (T_31.setTop (mkF mM 167 #[.val (.int p1), .val (.int p2), .val (.int p3), .val (.int p4), .val (.int p5), .val (.int p6), .val (.int (0 : Int32)), .val (.int (0 : Int32)), .val (.ref b_2), .val (.ref b_6), .val (.ref c_23), .unset] []))
      refine Goes.step (fun _ kK => XS.aload X_31.here hx rfl (hb hby at_167) rfl rfl kK) ?_
      show Goes pP eE bB _ (T_31.setTop (mkF mM 169 #[.val (.int p1), .val (.int p2), .val (.int p3), .val (.int p4), .val (.int p5), .val (.int p6), .val (.int (0 : Int32)), .val (.int (0 : Int32)), .val (.ref b_2), .val (.ref b_6), .val (.ref c_23), .unset] [(.ref b_2)]))
      refine Goes.step (fun _ kK => XS.iload X_31.here hx rfl (hb hby at_169) rfl kK) ?_
      show Goes pP eE bB _ (T_31.setTop (mkF mM 171 #[.val (.int p1), .val (.int p2), .val (.int p3), .val (.int p4), .val (.int p5), .val (.int p6), .val (.int (0 : Int32)), .val (.int (0 : Int32)), .val (.ref b_2), .val (.ref b_6), .val (.ref c_23), .unset] [(.int (0 : Int32)), (.ref b_2)]))
      refine Goes.step (fun _ kK => XS.iloadN X_31.here hx rfl (hb hby at_171) rfl kK) ?_
      show Goes pP eE bB _ (T_31.setTop (mkF mM 172 #[.val (.int p1), .val (.int p2), .val (.int p3), .val (.int p4), .val (.int p5), .val (.int p6), .val (.int (0 : Int32)), .val (.int (0 : Int32)), .val (.ref b_2), .val (.ref b_6), .val (.ref c_23), .unset] [(.int p2), (.int (0 : Int32)), (.ref b_2)]))
      refine Goes.step (fun _ kK => XS.iloadN X_31.here hx rfl (hb hby at_172) rfl kK) ?_
      show Goes pP eE bB _ (T_31.setTop (mkF mM 173 #[.val (.int p1), .val (.int p2), .val (.int p3), .val (.int p4), .val (.int p5), .val (.int p6), .val (.int (0 : Int32)), .val (.int (0 : Int32)), .val (.ref b_2), .val (.ref b_6), .val (.ref c_23), .unset] [(.int p3), (.int p2), (.int (0 : Int32)), (.ref b_2)]))
      refine Goes.step (fun _ kK => XS.iloadN X_31.here hx rfl (hb hby at_173) rfl kK) ?_
      show Goes pP eE bB _ (T_31.setTop (mkF mM 174 #[.val (.int p1), .val (.int p2), .val (.int p3), .val (.int p4), .val (.int p5), .val (.int p6), .val (.int (0 : Int32)), .val (.int (0 : Int32)), .val (.ref b_2), .val (.ref b_6), .val (.ref c_23), .unset] [(.int p4), (.int p3), (.int p2), (.int (0 : Int32)), (.ref b_2)]))
      refine Goes.step (fun _ kK => XS.iload X_31.here hx rfl (hb hby at_174) rfl kK) ?_
      show Goes pP eE bB _ (T_31.setTop (mkF mM 176 #[.val (.int p1), .val (.int p2), .val (.int p3), .val (.int p4), .val (.int p5), .val (.int p6), .val (.int (0 : Int32)), .val (.int (0 : Int32)), .val (.ref b_2), .val (.ref b_6), .val (.ref c_23), .unset] [(.int p5), (.int p4), (.int p3), (.int p2), (.int (0 : Int32)), (.ref b_2)]))
      have u_32 := u_20.ext E_23
      refine Goes.callS X_31 hx hZ hown (hw _ (List.mem_of_getElem? (i := 34) rfl)) (hw _ (List.mem_of_getElem? (i := 35) rfl)) (hw _ (List.mem_of_getElem? (i := 36) rfl)) (hw _ (List.mem_of_getElem? (i := 37) rfl)) (by decide) e_31 (rmH0 l Z a0 hw b_2 p2 p3 p4 p5 h_23 n0 u_30 u_32) (W := 0) (by decide) (by decide) (by decide) (by decide) (g := (mkF mM 176 #[.val (.int p1), .val (.int p2), .val (.int p3), .val (.int p4), .val (.int p5), .val (.int p6), .val (.int (0 : Int32)), .val (.int (0 : Int32)), .val (.ref b_2), .val (.ref b_6), .val (.ref c_23), .unset] [(.int p5), (.int p4), (.int p3), (.int p2), (.int (0 : Int32)), (.ref b_2)])) rfl (by rw [hml]; rfl) (rest := []) own_pd2 rfl rfl (by show 2 * 0 + _ ≤ _; exact Nat.le_of_eq rfl) (hb hby at_176) ?_
      intro v_33 T_33 L_33 X_33 hQ_33
      obtain ⟨rfl, N_33q, e_33⟩ := hQ_33
      have N_33 := Fr.app N_31 N_33q
      show Goes pP eE bB _ (T_33.setTop (mkF mM 179 #[.val (.int p1), .val (.int p2), .val (.int p3), .val (.int p4), .val (.int p5), .val (.int p6), .val (.int (0 : Int32)), .val (.int (0 : Int32)), .val (.ref b_2), .val (.ref b_6), .val (.ref c_23), .unset] [(.int (1 : Int32))]))
      refine Goes.step (fun _ kK => XS.ifYes X_33.here hx rfl (pc0 := 179) (pc' := 184) rfl (hb hby at_179) rfl ((if0 _ _).trans (feq (by decide)).2) (by decide) (by decide) kK) ?_
      show Goes pP eE bB _ (T_33.setTop (mkF mM 184 #[.val (.int p1), .val (.int p2), .val (.int p3), .val (.int p4), .val (.int p5), .val (.int p6), .val (.int (0 : Int32)), .val (.int (0 : Int32)), .val (.ref b_2), .val (.ref b_6), .val (.ref c_23), .unset] []))
      refine Goes.step (fun _ kK => XS.aload X_33.here hx rfl (hb hby at_184) rfl rfl kK) ?_
      show Goes pP eE bB _ (T_33.setTop (mkF mM 186 #[.val (.int p1), .val (.int p2), .val (.int p3), .val (.int p4), .val (.int p5), .val (.int p6), .val (.int (0 : Int32)), .val (.int (0 : Int32)), .val (.ref b_2), .val (.ref b_6), .val (.ref c_23), .unset] [(.ref c_23)]))
      refine Goes.callS X_33 hx hZ hown (hw _ (List.mem_of_getElem? (i := 38) rfl)) (hw _ (List.mem_of_getElem? (i := 39) rfl)) (hw _ (List.mem_of_getElem? (i := 36) rfl)) (hw _ (List.mem_of_getElem? (i := 40) rfl)) (by decide) e_33 (rmB0 l Z a0 hw c_23 p2 p3 p4 p5 h_23 n0 u_30 A_23 u_29) (W := 0) (by decide) (by decide) (by decide) (by decide) (g := (mkF mM 186 #[.val (.int p1), .val (.int p2), .val (.int p3), .val (.int p4), .val (.int p5), .val (.int p6), .val (.int (0 : Int32)), .val (.int (0 : Int32)), .val (.ref b_2), .val (.ref b_6), .val (.ref c_23), .unset] [(.ref c_23)])) rfl (by rw [hml]; rfl) (rest := []) own_pd3 rfl rfl (by show 2 * 0 + _ ≤ _; exact Nat.le_of_eq rfl) (hb hby at_186) ?_
      intro v_34 T_34 L_34 X_34 hQ_34
      generalize e_34 : T_34.heap = h_34 at hQ_34
      obtain ⟨rfl, N_34q, K_34⟩ := hQ_34
      have N_34 := Fr.app N_33 N_34q
      show Goes pP eE bB _ (T_34.setTop (mkF mM 189 #[.val (.int p1), .val (.int p2), .val (.int p3), .val (.int p4), .val (.int p5), .val (.int p6), .val (.int (0 : Int32)), .val (.int (0 : Int32)), .val (.ref b_2), .val (.ref b_6), .val (.ref c_23), .unset] []))
      refine Goes.step (fun _ kK => XS.aload X_34.here hx rfl (hb hby at_189) rfl rfl kK) ?_
      show Goes pP eE bB _ (T_34.setTop (mkF mM 191 #[.val (.int p1), .val (.int p2), .val (.int p3), .val (.int p4), .val (.int p5), .val (.int p6), .val (.int (0 : Int32)), .val (.int (0 : Int32)), .val (.ref b_2), .val (.ref b_6), .val (.ref c_23), .unset] [(.ref b_6)]))
      have u_35 := F_17.ext E_23
      have u_36 := u_35.keep K_34 (ninS (Nat.ne_of_lt u_28) nin0)
      have u_37 := Nat.le_trans u_30 K_34.1
      have u_38 := u_32.keep K_34 (ninS (Nat.ne_of_lt u_27) nin0)
      have u_39 := u_22.ext E_23
      have u_40 := u_39.keep K_34
      have u_42 := u_24.ext E_23
      have u_43 := u_42.keep K_34
      refine Goes.callV X_34 hx hZ hown (hw _ (List.mem_of_getElem? (i := 19) rfl)) (hw _ (List.mem_of_getElem? (i := 20) rfl)) (notFace_of_selects (args := #[]) (mvT hZ (hw _ (List.mem_of_getElem? (i := 22) rfl)))) (hw _ (List.mem_of_getElem? (i := 22) rfl)) (hw _ (List.mem_of_getElem? (i := 21) rfl)) (hw _ (List.mem_of_getElem? (i := 23) rfl)) (hw _ (List.mem_of_getElem? (i := 3) rfl)) (by decide) e_34 u_43 (rmA l Z a0 hw b_6 b_2 h_34 n0 u_37 0 (by decide) _ u_36 u_38 u_40) (W := 0) (by decide) (by decide) (by decide) (by decide) (g := (mkF mM 191 #[.val (.int p1), .val (.int p2), .val (.int p3), .val (.int p4), .val (.int p5), .val (.int p6), .val (.int (0 : Int32)), .val (.int (0 : Int32)), .val (.ref b_2), .val (.ref b_6), .val (.ref c_23), .unset] [(.ref b_6)])) rfl (by rw [hml]; rfl) (rest := []) own_pd1 rfl rfl (by show 2 * 0 + _ ≤ _; exact Nat.le_of_eq rfl) (hb hby at_191) ?_
      intro v_41 T_41 L_41 X_41 hQ_41
      generalize e_41 : T_41.heap = h_41 at hQ_41
      obtain ⟨c_41, rfl, N_41q, E_41, s_41, A_41, M_41⟩ := hQ_41
      have N_41 := Fr.app N_34 N_41q
      have u_44 := Nat.lt_of_lt_of_le u_26 E_23.1
      have u_45 := Nat.lt_of_lt_of_le u_44 K_34.1
      have u_46 : b_2 < c_41 := Nat.lt_of_lt_of_le u_45 s_41
      have u_47 := Nat.lt_of_lt_of_le (u_24).lt E_23.1
      have u_48 := Nat.lt_of_lt_of_le u_47 K_34.1
      have u_49 : b_6 < c_41 := Nat.lt_of_lt_of_le u_48 s_41
      have u_50 := Nat.lt_of_lt_of_le (M_23).lt K_34.1
      have u_51 : c_23 < c_41 := Nat.lt_of_lt_of_le u_50 s_41
      have u_52 : n0 ≤ c_41 := Nat.le_trans u_37 s_41
      show Goes pP eE bB _ (T_41.setTop (mkF mM 194 #[.val (.int p1), .val (.int p2), .val (.int p3), .val (.int p4), .val (.int p5), .val (.int p6), .val (.int (0 : Int32)), .val (.int (0 : Int32)), .val (.ref b_2), .val (.ref b_6), .val (.ref c_23), .unset] [(.ref c_41)]))
      refine Goes.step (fun _ kK => XS.astore X_41.here hx rfl (hb hby at_194) rfl rfl (l' := #[.val (.int p1), .val (.int p2), .val (.int p3), .val (.int p4), .val (.int p5), .val (.int p6), .val (.int (0 : Int32)), .val (.int (0 : Int32)), .val (.ref b_2), .val (.ref b_6), .val (.ref c_23), .val (.ref c_41)]) rfl kK) ?_
      show Goes pP eE bB _ (T_41.setTop (mkF mM 196 #[.val (.int p1), .val (.int p2), .val (.int p3), .val (.int p4), .val (.int p5), .val (.int p6), .val (.int (0 : Int32)), .val (.int (0 : Int32)), .val (.ref b_2), .val (.ref b_6), .val (.ref c_23), .val (.ref c_41)] []))
      refine Goes.step (fun _ kK => XS.aload X_41.here hx rfl (hb hby at_196) rfl rfl kK) ?_
      show Goes pP eE bB _ (T_41.setTop (mkF mM 198 #[.val (.int p1), .val (.int p2), .val (.int p3), .val (.int p4), .val (.int p5), .val (.int p6), .val (.int (0 : Int32)), .val (.int (0 : Int32)), .val (.ref b_2), .val (.ref b_6), .val (.ref c_23), .val (.ref c_41)] [(.ref c_41)]))
      refine Goes.step (fun _ kK => XS.ifnullNo X_41.here hx rfl (hb hby at_198) rfl kK) ?_
      show Goes pP eE bB _ (T_41.setTop (mkF mM 201 #[.val (.int p1), .val (.int p2), .val (.int p3), .val (.int p4), .val (.int p5), .val (.int p6), .val (.int (0 : Int32)), .val (.int (0 : Int32)), .val (.ref b_2), .val (.ref b_6), .val (.ref c_23), .val (.ref c_41)] []))
      refine Goes.step (fun _ kK => XS.aload X_41.here hx rfl (hb hby at_201) rfl rfl kK) ?_
      show Goes pP eE bB _ (T_41.setTop (mkF mM 203 #[.val (.int p1), .val (.int p2), .val (.int p3), .val (.int p4), .val (.int p5), .val (.int p6), .val (.int (0 : Int32)), .val (.int (0 : Int32)), .val (.ref b_2), .val (.ref b_6), .val (.ref c_23), .val (.ref c_41)] [(.ref c_41)]))
      refine Goes.step (fun _ kK => XS.aload X_41.here hx rfl (hb hby at_203) rfl rfl kK) ?_
      show Goes pP eE bB _ (T_41.setTop (mkF mM 205 #[.val (.int p1), .val (.int p2), .val (.int p3), .val (.int p4), .val (.int p5), .val (.int p6), .val (.int (0 : Int32)), .val (.int (0 : Int32)), .val (.ref b_2), .val (.ref b_6), .val (.ref c_23), .val (.ref c_41)] [(.ref b_2), (.ref c_41)]))
      refine Goes.step (fun _ kK => Jvm.RoadKit.acmp (g := (mkF mM 205 #[.val (.int p1), .val (.int p2), .val (.int p3), .val (.int p4), .val (.int p5), .val (.int p6), .val (.int (0 : Int32)), .val (.int (0 : Int32)), .val (.ref b_2), .val (.ref b_6), .val (.ref c_23), .val (.ref c_41)] [(.ref b_2), (.ref c_41)])) X_41 hx rfl rfl rfl (pc0 := 205) (pc' := 208) (same := false) rfl (hb hby at_205) rfl (decide_eq_false fun q => (Nat.ne_of_gt u_46) (Value.ref.inj q)) (by decide) (by decide) kK) ?_
      show Goes pP eE bB _ (T_41.setTop (mkF mM 208 #[.val (.int p1), .val (.int p2), .val (.int p3), .val (.int p4), .val (.int p5), .val (.int p6), .val (.int (0 : Int32)), .val (.int (0 : Int32)), .val (.ref b_2), .val (.ref b_6), .val (.ref c_23), .val (.ref c_41)] []))
      refine Goes.step (fun _ kK => XS.aload X_41.here hx rfl (hb hby at_208) rfl rfl kK) ?_
      show Goes pP eE bB _ (T_41.setTop (mkF mM 210 #[.val (.int p1), .val (.int p2), .val (.int p3), .val (.int p4), .val (.int p5), .val (.int p6), .val (.int (0 : Int32)), .val (.int (0 : Int32)), .val (.ref b_2), .val (.ref b_6), .val (.ref c_23), .val (.ref c_41)] [(.ref c_41)]))
      refine Goes.step (fun _ kK => XS.aload X_41.here hx rfl (hb hby at_210) rfl rfl kK) ?_
      show Goes pP eE bB _ (T_41.setTop (mkF mM 212 #[.val (.int p1), .val (.int p2), .val (.int p3), .val (.int p4), .val (.int p5), .val (.int p6), .val (.int (0 : Int32)), .val (.int (0 : Int32)), .val (.ref b_2), .val (.ref b_6), .val (.ref c_23), .val (.ref c_41)] [(.ref c_23), (.ref c_41)]))
      refine Goes.step (fun _ kK => Jvm.RoadKit.acmp (g := (mkF mM 212 #[.val (.int p1), .val (.int p2), .val (.int p3), .val (.int p4), .val (.int p5), .val (.int p6), .val (.int (0 : Int32)), .val (.int (0 : Int32)), .val (.ref b_2), .val (.ref b_6), .val (.ref c_23), .val (.ref c_41)] [(.ref c_23), (.ref c_41)])) X_41 hx rfl rfl rfl (pc0 := 212) (pc' := 217) (same := false) rfl (hb hby at_212) rfl (decide_eq_false fun q => (Nat.ne_of_gt u_51) (Value.ref.inj q)) (by decide) (by decide) kK) ?_
      show Goes pP eE bB _ (T_41.setTop (mkF mM 217 #[.val (.int p1), .val (.int p2), .val (.int p3), .val (.int p4), .val (.int p5), .val (.int p6), .val (.int (0 : Int32)), .val (.int (0 : Int32)), .val (.ref b_2), .val (.ref b_6), .val (.ref c_23), .val (.ref c_41)] []))
      refine Goes.step (fun _ kK => XS.aload X_41.here hx rfl (hb hby at_217) rfl rfl kK) ?_
      show Goes pP eE bB _ (T_41.setTop (mkF mM 219 #[.val (.int p1), .val (.int p2), .val (.int p3), .val (.int p4), .val (.int p5), .val (.int p6), .val (.int (0 : Int32)), .val (.int (0 : Int32)), .val (.ref b_2), .val (.ref b_6), .val (.ref c_23), .val (.ref c_41)] [(.ref c_41)]))
      refine Goes.step (fun _ kK => XS.iload X_41.here hx rfl (hb hby at_219) rfl kK) ?_
      show Goes pP eE bB _ (T_41.setTop (mkF mM 221 #[.val (.int p1), .val (.int p2), .val (.int p3), .val (.int p4), .val (.int p5), .val (.int p6), .val (.int (0 : Int32)), .val (.int (0 : Int32)), .val (.ref b_2), .val (.ref b_6), .val (.ref c_23), .val (.ref c_41)] [(.int (0 : Int32)), (.ref c_41)]))
      refine Goes.step (fun _ kK => XS.iloadN X_41.here hx rfl (hb hby at_221) rfl kK) ?_
      show Goes pP eE bB _ (T_41.setTop (mkF mM 222 #[.val (.int p1), .val (.int p2), .val (.int p3), .val (.int p4), .val (.int p5), .val (.int p6), .val (.int (0 : Int32)), .val (.int (0 : Int32)), .val (.ref b_2), .val (.ref b_6), .val (.ref c_23), .val (.ref c_41)] [(.int p2), (.int (0 : Int32)), (.ref c_41)]))
      refine Goes.step (fun _ kK => XS.iloadN X_41.here hx rfl (hb hby at_222) rfl kK) ?_
      show Goes pP eE bB _ (T_41.setTop (mkF mM 223 #[.val (.int p1), .val (.int p2), .val (.int p3), .val (.int p4), .val (.int p5), .val (.int p6), .val (.int (0 : Int32)), .val (.int (0 : Int32)), .val (.ref b_2), .val (.ref b_6), .val (.ref c_23), .val (.ref c_41)] [(.int p3), (.int p2), (.int (0 : Int32)), (.ref c_41)]))
      refine Goes.step (fun _ kK => XS.iloadN X_41.here hx rfl (hb hby at_223) rfl kK) ?_
      show Goes pP eE bB _ (T_41.setTop (mkF mM 224 #[.val (.int p1), .val (.int p2), .val (.int p3), .val (.int p4), .val (.int p5), .val (.int p6), .val (.int (0 : Int32)), .val (.int (0 : Int32)), .val (.ref b_2), .val (.ref b_6), .val (.ref c_23), .val (.ref c_41)] [(.int p4), (.int p3), (.int p2), (.int (0 : Int32)), (.ref c_41)]))
      refine Goes.step (fun _ kK => XS.iload X_41.here hx rfl (hb hby at_224) rfl kK) ?_
      show Goes pP eE bB _ (T_41.setTop (mkF mM 226 #[.val (.int p1), .val (.int p2), .val (.int p3), .val (.int p4), .val (.int p5), .val (.int p6), .val (.int (0 : Int32)), .val (.int (0 : Int32)), .val (.ref b_2), .val (.ref b_6), .val (.ref c_23), .val (.ref c_41)] [(.int p5), (.int p4), (.int p3), (.int p2), (.int (0 : Int32)), (.ref c_41)]))
      have u_53 := Nat.le_trans u_37 E_41.1
      refine Goes.callS X_41 hx hZ hown (hw _ (List.mem_of_getElem? (i := 34) rfl)) (hw _ (List.mem_of_getElem? (i := 35) rfl)) (hw _ (List.mem_of_getElem? (i := 36) rfl)) (hw _ (List.mem_of_getElem? (i := 37) rfl)) (by decide) e_41 (rmH0 l Z a0 hw c_41 p2 p3 p4 p5 h_41 n0 u_53 A_41) (W := 0) (by decide) (by decide) (by decide) (by decide) (g := (mkF mM 226 #[.val (.int p1), .val (.int p2), .val (.int p3), .val (.int p4), .val (.int p5), .val (.int p6), .val (.int (0 : Int32)), .val (.int (0 : Int32)), .val (.ref b_2), .val (.ref b_6), .val (.ref c_23), .val (.ref c_41)] [(.int p5), (.int p4), (.int p3), (.int p2), (.int (0 : Int32)), (.ref c_41)])) rfl (by rw [hml]; rfl) (rest := []) own_pd2 rfl rfl (by show 2 * 0 + _ ≤ _; exact Nat.le_of_eq rfl) (hb hby at_226) ?_
      intro v_54 T_54 L_54 X_54 hQ_54
      obtain ⟨rfl, N_54q, e_54⟩ := hQ_54
      have N_54 := Fr.app N_41 N_54q
      show Goes pP eE bB _ (T_54.setTop (mkF mM 229 #[.val (.int p1), .val (.int p2), .val (.int p3), .val (.int p4), .val (.int p5), .val (.int p6), .val (.int (0 : Int32)), .val (.int (0 : Int32)), .val (.ref b_2), .val (.ref b_6), .val (.ref c_23), .val (.ref c_41)] [(.int (1 : Int32))]))
      refine Goes.step (fun _ kK => XS.ifNo X_54.here hx rfl (hb hby at_229) rfl ((if0 _ _).trans (feq (by decide)).1) kK) ?_
      show Goes pP eE bB _ (T_54.setTop (mkF mM 232 #[.val (.int p1), .val (.int p2), .val (.int p3), .val (.int p4), .val (.int p5), .val (.int p6), .val (.int (0 : Int32)), .val (.int (0 : Int32)), .val (.ref b_2), .val (.ref b_6), .val (.ref c_23), .val (.ref c_41)] []))
      refine Goes.step (fun _ kK => XS.aload X_54.here hx rfl (hb hby at_232) rfl rfl kK) ?_
      show Goes pP eE bB _ (T_54.setTop (mkF mM 234 #[.val (.int p1), .val (.int p2), .val (.int p3), .val (.int p4), .val (.int p5), .val (.int p6), .val (.int (0 : Int32)), .val (.int (0 : Int32)), .val (.ref b_2), .val (.ref b_6), .val (.ref c_23), .val (.ref c_41)] [(.ref b_2)]))
      refine Goes.step (fun _ kK => XS.iload X_54.here hx rfl (hb hby at_234) rfl kK) ?_
      show Goes pP eE bB _ (T_54.setTop (mkF mM 236 #[.val (.int p1), .val (.int p2), .val (.int p3), .val (.int p4), .val (.int p5), .val (.int p6), .val (.int (0 : Int32)), .val (.int (0 : Int32)), .val (.ref b_2), .val (.ref b_6), .val (.ref c_23), .val (.ref c_41)] [(.int (0 : Int32)), (.ref b_2)]))
      refine Goes.step (fun _ kK => XS.iloadN X_54.here hx rfl (hb hby at_236) rfl kK) ?_
      show Goes pP eE bB _ (T_54.setTop (mkF mM 237 #[.val (.int p1), .val (.int p2), .val (.int p3), .val (.int p4), .val (.int p5), .val (.int p6), .val (.int (0 : Int32)), .val (.int (0 : Int32)), .val (.ref b_2), .val (.ref b_6), .val (.ref c_23), .val (.ref c_41)] [(.int p2), (.int (0 : Int32)), (.ref b_2)]))
      refine Goes.step (fun _ kK => XS.iloadN X_54.here hx rfl (hb hby at_237) rfl kK) ?_
      show Goes pP eE bB _ (T_54.setTop (mkF mM 238 #[.val (.int p1), .val (.int p2), .val (.int p3), .val (.int p4), .val (.int p5), .val (.int p6), .val (.int (0 : Int32)), .val (.int (0 : Int32)), .val (.ref b_2), .val (.ref b_6), .val (.ref c_23), .val (.ref c_41)] [(.int p3), (.int p2), (.int (0 : Int32)), (.ref b_2)]))
      refine Goes.step (fun _ kK => XS.iloadN X_54.here hx rfl (hb hby at_238) rfl kK) ?_
      show Goes pP eE bB _ (T_54.setTop (mkF mM 239 #[.val (.int p1), .val (.int p2), .val (.int p3), .val (.int p4), .val (.int p5), .val (.int p6), .val (.int (0 : Int32)), .val (.int (0 : Int32)), .val (.ref b_2), .val (.ref b_6), .val (.ref c_23), .val (.ref c_41)] [(.int p4), (.int p3), (.int p2), (.int (0 : Int32)), (.ref b_2)]))
      refine Goes.step (fun _ kK => XS.iload X_54.here hx rfl (hb hby at_239) rfl kK) ?_
      show Goes pP eE bB _ (T_54.setTop (mkF mM 241 #[.val (.int p1), .val (.int p2), .val (.int p3), .val (.int p4), .val (.int p5), .val (.int p6), .val (.int (0 : Int32)), .val (.int (0 : Int32)), .val (.ref b_2), .val (.ref b_6), .val (.ref c_23), .val (.ref c_41)] [(.int p5), (.int p4), (.int p3), (.int p2), (.int (0 : Int32)), (.ref b_2)]))
      have u_55 := u_38.ext E_41
      refine Goes.callS X_54 hx hZ hown (hw _ (List.mem_of_getElem? (i := 34) rfl)) (hw _ (List.mem_of_getElem? (i := 35) rfl)) (hw _ (List.mem_of_getElem? (i := 36) rfl)) (hw _ (List.mem_of_getElem? (i := 37) rfl)) (by decide) e_54 (rmH0 l Z a0 hw b_2 p2 p3 p4 p5 h_41 n0 u_53 u_55) (W := 0) (by decide) (by decide) (by decide) (by decide) (g := (mkF mM 241 #[.val (.int p1), .val (.int p2), .val (.int p3), .val (.int p4), .val (.int p5), .val (.int p6), .val (.int (0 : Int32)), .val (.int (0 : Int32)), .val (.ref b_2), .val (.ref b_6), .val (.ref c_23), .val (.ref c_41)] [(.int p5), (.int p4), (.int p3), (.int p2), (.int (0 : Int32)), (.ref b_2)])) rfl (by rw [hml]; rfl) (rest := []) own_pd2 rfl rfl (by show 2 * 0 + _ ≤ _; exact Nat.le_of_eq rfl) (hb hby at_241) ?_
      intro v_56 T_56 L_56 X_56 hQ_56
      obtain ⟨rfl, N_56q, e_56⟩ := hQ_56
      have N_56 := Fr.app N_54 N_56q
      show Goes pP eE bB _ (T_56.setTop (mkF mM 244 #[.val (.int p1), .val (.int p2), .val (.int p3), .val (.int p4), .val (.int p5), .val (.int p6), .val (.int (0 : Int32)), .val (.int (0 : Int32)), .val (.ref b_2), .val (.ref b_6), .val (.ref c_23), .val (.ref c_41)] [(.int (1 : Int32))]))
      refine Goes.step (fun _ kK => XS.ifNo X_56.here hx rfl (hb hby at_244) rfl ((if0 _ _).trans (feq (by decide)).1) kK) ?_
      show Goes pP eE bB _ (T_56.setTop (mkF mM 247 #[.val (.int p1), .val (.int p2), .val (.int p3), .val (.int p4), .val (.int p5), .val (.int p6), .val (.int (0 : Int32)), .val (.int (0 : Int32)), .val (.ref b_2), .val (.ref b_6), .val (.ref c_23), .val (.ref c_41)] []))
      refine Goes.step (fun _ kK => XS.iconst X_56.here hx rfl (hb hby at_247) kK) ?_
      show Goes pP eE bB _ (T_56.setTop (mkF mM 248 #[.val (.int p1), .val (.int p2), .val (.int p3), .val (.int p4), .val (.int p5), .val (.int p6), .val (.int (0 : Int32)), .val (.int (0 : Int32)), .val (.ref b_2), .val (.ref b_6), .val (.ref c_23), .val (.ref c_41)] [(.int (1 : Int32))]))
      refine Goes.step (fun _ kK => XS.goto X_56.here hx rfl (pc0 := 248) (pc' := 252) rfl (hb hby at_248) (by decide) (by decide) kK) ?_
      show Goes pP eE bB _ (T_56.setTop (mkF mM 252 #[.val (.int p1), .val (.int p2), .val (.int p3), .val (.int p4), .val (.int p5), .val (.int p6), .val (.int (0 : Int32)), .val (.int (0 : Int32)), .val (.ref b_2), .val (.ref b_6), .val (.ref c_23), .val (.ref c_41)] [(.int (1 : Int32))]))
      refine Goes.retN X_56 hx hlk (t := .boolean) hret (by simp) (hb hby at_252) (by decide) (by decide) ?_
      exact ⟨rfl, N_56⟩
    · rw [hl]
      show Goes pP eE bB _ (s₁.setTop (mkF mM 22 #[.val (.int p1), .val (.int p2), .val (.int p3), .val (.int p4), .val (.int p5), .val (.int p6), .val (.int (0 : Int32)), .val (.int (1 : Int32)), .unset, .unset, .unset, .unset] []))
      refine Goes.step (fun _ kK => XS.iload X0.here hx rfl (hb hby at_22) rfl kK) ?_
      show Goes pP eE bB _ (s₁.setTop (mkF mM 24 #[.val (.int p1), .val (.int p2), .val (.int p3), .val (.int p4), .val (.int p5), .val (.int p6), .val (.int (0 : Int32)), .val (.int (1 : Int32)), .unset, .unset, .unset, .unset] [(.int (0 : Int32))]))
      refine Goes.step (fun _ kK => XS.ifYes X0.here hx rfl (pc0 := 24) (pc' := 31) rfl (hb hby at_24) rfl ((if0 _ _).trans (teq (by decide)).1) (by decide) (by decide) kK) ?_
      show Goes pP eE bB _ (s₁.setTop (mkF mM 31 #[.val (.int p1), .val (.int p2), .val (.int p3), .val (.int p4), .val (.int p5), .val (.int p6), .val (.int (0 : Int32)), .val (.int (1 : Int32)), .unset, .unset, .unset, .unset] []))
      refine Goes.step (fun _ kK => XS.iload X0.here hx rfl (hb hby at_31) rfl kK) ?_
      show Goes pP eE bB _ (s₁.setTop (mkF mM 33 #[.val (.int p1), .val (.int p2), .val (.int p3), .val (.int p4), .val (.int p5), .val (.int p6), .val (.int (0 : Int32)), .val (.int (1 : Int32)), .unset, .unset, .unset, .unset] [(.int (1 : Int32))]))
      obtain ⟨T_57, h_57, k_57, X_57, e_57, E_57, A_57, M_57, st_57⟩ := newPE X0 hx hZ (hw _ (List.mem_of_getElem? (i := 24) rfl)) e0 (g := (mkF mM 33 #[.val (.int p1), .val (.int p2), .val (.int p3), .val (.int p4), .val (.int p5), .val (.int p6), .val (.int (0 : Int32)), .val (.int (1 : Int32)), .unset, .unset, .unset, .unset] [(.int (1 : Int32))])) rfl (hb hby at_33) rfl (by decide) (cap := 1) (by decide) (by decide) (by decide) (by decide) (ad := "[B") rfl
      obtain ⟨b_57, g_57⟩ : ∃ z, z = h0.size := ⟨_, rfl⟩
      rw [← g_57] at A_57 M_57 st_57
      have u_58 : n0 ≤ b_57 := Nat.le_trans Z0 (Nat.le_of_eq g_57.symm)
      have u_59 : Afn Z h_57 b_57 .byte 1 (fun _ => (.int (0 : Int32))) := Afn.new (n := 1) A_57 (by decide)
      refine Goes.step st_57 ?_
      show Goes pP eE bB _ (T_57.setTop (mkF mM 35 #[.val (.int p1), .val (.int p2), .val (.int p3), .val (.int p4), .val (.int p5), .val (.int p6), .val (.int (0 : Int32)), .val (.int (1 : Int32)), .unset, .unset, .unset, .unset] [(.ref b_57)]))
      refine Goes.step (fun _ kK => XS.astore X_57.here hx rfl (hb hby at_35) rfl rfl (l' := #[.val (.int p1), .val (.int p2), .val (.int p3), .val (.int p4), .val (.int p5), .val (.int p6), .val (.int (0 : Int32)), .val (.int (1 : Int32)), .val (.ref b_57), .unset, .unset, .unset]) rfl kK) ?_
      show Goes pP eE bB _ (T_57.setTop (mkF mM 37 #[.val (.int p1), .val (.int p2), .val (.int p3), .val (.int p4), .val (.int p5), .val (.int p6), .val (.int (0 : Int32)), .val (.int (1 : Int32)), .val (.ref b_57), .unset, .unset, .unset] []))
      refine Goes.step (fun _ kK => XS.iload X_57.here hx rfl (hb hby at_37) rfl kK) ?_
      show Goes pP eE bB _ (T_57.setTop (mkF mM 39 #[.val (.int p1), .val (.int p2), .val (.int p3), .val (.int p4), .val (.int p5), .val (.int p6), .val (.int (0 : Int32)), .val (.int (1 : Int32)), .val (.ref b_57), .unset, .unset, .unset] [(.int (0 : Int32))]))
      refine Goes.step (fun _ kK => XS.ifNo X_57.here hx rfl (hb hby at_39) rfl ((if0 _ _).trans (teq (by decide)).2) kK) ?_
      show Goes pP eE bB _ (T_57.setTop (mkF mM 42 #[.val (.int p1), .val (.int p2), .val (.int p3), .val (.int p4), .val (.int p5), .val (.int p6), .val (.int (0 : Int32)), .val (.int (1 : Int32)), .val (.ref b_57), .unset, .unset, .unset] []))
      refine Goes.step (fun _ kK => XS.iload X_57.here hx rfl (hb hby at_42) rfl kK) ?_
      show Goes pP eE bB _ (T_57.setTop (mkF mM 44 #[.val (.int p1), .val (.int p2), .val (.int p3), .val (.int p4), .val (.int p5), .val (.int p6), .val (.int (0 : Int32)), .val (.int (1 : Int32)), .val (.ref b_57), .unset, .unset, .unset] [(.int (1 : Int32))]))
      refine Goes.step (fun _ kK => XS.ifNo X_57.here hx rfl (hb hby at_44) rfl ((if0 _ _).trans (tlt (by decide)).2.2.2) kK) ?_
      show Goes pP eE bB _ (T_57.setTop (mkF mM 47 #[.val (.int p1), .val (.int p2), .val (.int p3), .val (.int p4), .val (.int p5), .val (.int p6), .val (.int (0 : Int32)), .val (.int (1 : Int32)), .val (.ref b_57), .unset, .unset, .unset] []))
      refine Goes.step (fun _ kK => XS.aload X_57.here hx rfl (hb hby at_47) rfl rfl kK) ?_
      show Goes pP eE bB _ (T_57.setTop (mkF mM 49 #[.val (.int p1), .val (.int p2), .val (.int p3), .val (.int p4), .val (.int p5), .val (.int p6), .val (.int (0 : Int32)), .val (.int (1 : Int32)), .val (.ref b_57), .unset, .unset, .unset] [(.ref b_57)]))
      refine Goes.step (fun _ kK => XS.iconst X_57.here hx rfl (hb hby at_49) kK) ?_
      show Goes pP eE bB _ (T_57.setTop (mkF mM 50 #[.val (.int p1), .val (.int p2), .val (.int p3), .val (.int p4), .val (.int p5), .val (.int p6), .val (.int (0 : Int32)), .val (.int (1 : Int32)), .val (.ref b_57), .unset, .unset, .unset] [(.int (0 : Int32)), (.ref b_57)]))
      refine Goes.step (fun _ kK => XS.iloadN X_57.here hx rfl (hb hby at_50) rfl kK) ?_
      show Goes pP eE bB _ (T_57.setTop (mkF mM 51 #[.val (.int p1), .val (.int p2), .val (.int p3), .val (.int p4), .val (.int p5), .val (.int p6), .val (.int (0 : Int32)), .val (.int (1 : Int32)), .val (.ref b_57), .unset, .unset, .unset] [(.int p2), (.int (0 : Int32)), (.ref b_57)]))
      refine Goes.step (fun _ kK => XS.i2b X_57.here hx rfl (hb hby at_51) rfl kK) ?_
      show Goes pP eE bB _ (T_57.setTop (mkF mM 52 #[.val (.int p1), .val (.int p2), .val (.int p3), .val (.int p4), .val (.int p5), .val (.int p6), .val (.int (0 : Int32)), .val (.int (1 : Int32)), .val (.ref b_57), .unset, .unset, .unset] [(.int (p2.toInt8.toInt32)), (.int (0 : Int32)), (.ref b_57)]))
      refine Goes.bastore X_57 hx hZ e_57 u_59 (i := 0) (by decide) (by decide) (g := (mkF mM 52 #[.val (.int p1), .val (.int p2), .val (.int p3), .val (.int p4), .val (.int p5), .val (.int p6), .val (.int (0 : Int32)), .val (.int (1 : Int32)), .val (.ref b_57), .unset, .unset, .unset] [(.int (p2.toInt8.toInt32)), (.int (0 : Int32)), (.ref b_57)])) rfl rfl (hb hby at_52) ?_
      intro T_60 h_60 X_60 e_60 W_60 A_60
      have N_60 := Fr.snoc X_60 N0 u_58
      show Goes pP eE bB _ (T_60.setTop (mkF mM 53 #[.val (.int p1), .val (.int p2), .val (.int p3), .val (.int p4), .val (.int p5), .val (.int p6), .val (.int (0 : Int32)), .val (.int (1 : Int32)), .val (.ref b_57), .unset, .unset, .unset] []))
      refine Goes.step (fun _ kK => XS.iload X_60.here hx rfl (hb hby at_53) rfl kK) ?_
      show Goes pP eE bB _ (T_60.setTop (mkF mM 55 #[.val (.int p1), .val (.int p2), .val (.int p3), .val (.int p4), .val (.int p5), .val (.int p6), .val (.int (0 : Int32)), .val (.int (1 : Int32)), .val (.ref b_57), .unset, .unset, .unset] [(.int (1 : Int32))]))
      refine Goes.step (fun _ kK => XS.iconst X_60.here hx rfl (hb hby at_55) kK) ?_
      show Goes pP eE bB _ (T_60.setTop (mkF mM 56 #[.val (.int p1), .val (.int p2), .val (.int p3), .val (.int p4), .val (.int p5), .val (.int p6), .val (.int (0 : Int32)), .val (.int (1 : Int32)), .val (.ref b_57), .unset, .unset, .unset] [(.int (1 : Int32)), (.int (1 : Int32))]))
      refine Goes.step (fun _ kK => XS.icmpYes X_60.here hx rfl (pc0 := 56) (pc' := 65) rfl (hb hby at_56) rfl (flt (by decide)).2.2.2 (by decide) (by decide) kK) ?_
      show Goes pP eE bB _ (T_60.setTop (mkF mM 65 #[.val (.int p1), .val (.int p2), .val (.int p3), .val (.int p4), .val (.int p5), .val (.int p6), .val (.int (0 : Int32)), .val (.int (1 : Int32)), .val (.ref b_57), .unset, .unset, .unset] []))
      refine Goes.step (fun _ kK => XS.iload X_60.here hx rfl (hb hby at_65) rfl kK) ?_
      show Goes pP eE bB _ (T_60.setTop (mkF mM 67 #[.val (.int p1), .val (.int p2), .val (.int p3), .val (.int p4), .val (.int p5), .val (.int p6), .val (.int (0 : Int32)), .val (.int (1 : Int32)), .val (.ref b_57), .unset, .unset, .unset] [(.int (1 : Int32))]))
      refine Goes.step (fun _ kK => XS.iconst X_60.here hx rfl (hb hby at_67) kK) ?_
      show Goes pP eE bB _ (T_60.setTop (mkF mM 68 #[.val (.int p1), .val (.int p2), .val (.int p3), .val (.int p4), .val (.int p5), .val (.int p6), .val (.int (0 : Int32)), .val (.int (1 : Int32)), .val (.ref b_57), .unset, .unset, .unset] [(.int (2 : Int32)), (.int (1 : Int32))]))
      refine Goes.step (fun _ kK => XS.icmpYes X_60.here hx rfl (pc0 := 68) (pc' := 77) rfl (hb hby at_68) rfl (flt (by decide)).2.2.2 (by decide) (by decide) kK) ?_
      show Goes pP eE bB _ (T_60.setTop (mkF mM 77 #[.val (.int p1), .val (.int p2), .val (.int p3), .val (.int p4), .val (.int p5), .val (.int p6), .val (.int (0 : Int32)), .val (.int (1 : Int32)), .val (.ref b_57), .unset, .unset, .unset] []))
      refine Goes.step (fun _ kK => XS.iload X_60.here hx rfl (hb hby at_77) rfl kK) ?_
      show Goes pP eE bB _ (T_60.setTop (mkF mM 79 #[.val (.int p1), .val (.int p2), .val (.int p3), .val (.int p4), .val (.int p5), .val (.int p6), .val (.int (0 : Int32)), .val (.int (1 : Int32)), .val (.ref b_57), .unset, .unset, .unset] [(.int (1 : Int32))]))
      refine Goes.step (fun _ kK => XS.iconst X_60.here hx rfl (hb hby at_79) kK) ?_
      show Goes pP eE bB _ (T_60.setTop (mkF mM 80 #[.val (.int p1), .val (.int p2), .val (.int p3), .val (.int p4), .val (.int p5), .val (.int p6), .val (.int (0 : Int32)), .val (.int (1 : Int32)), .val (.ref b_57), .unset, .unset, .unset] [(.int (3 : Int32)), (.int (1 : Int32))]))
      refine Goes.step (fun _ kK => XS.icmpYes X_60.here hx rfl (pc0 := 80) (pc' := 90) rfl (hb hby at_80) rfl (flt (by decide)).2.2.2 (by decide) (by decide) kK) ?_
      show Goes pP eE bB _ (T_60.setTop (mkF mM 90 #[.val (.int p1), .val (.int p2), .val (.int p3), .val (.int p4), .val (.int p5), .val (.int p6), .val (.int (0 : Int32)), .val (.int (1 : Int32)), .val (.ref b_57), .unset, .unset, .unset] []))
      have u_61 : Afn Z h_60 b_57 .byte 1 (own_f p2 p3 p4 p5) := (A_60).congr (f' := own_f p2 p3 p4 p5) (fun i hi => by
        obtain rfl : i = 0 := by omega
        all_goals simp [own_f])
      show Goes pP eE bB _ (T_60.setTop (mkF mM 90 #[.val (.int p1), .val (.int p2), .val (.int p3), .val (.int p4), .val (.int p5), .val (.int p6), .val (.int (0 : Int32)), .val (.int (1 : Int32)), .val (.ref b_57), .unset, .unset, .unset] []))
      obtain ⟨T_62, h_62, X_62, e_62, E_62, A_62, D_62, -, st_62⟩ := newO X_60 hx hZ hown (hw _ (List.mem_of_getElem? (i := 1) rfl)) (hw _ (List.mem_of_getElem? (i := 2) rfl)) (hw _ (List.mem_of_getElem? (i := 3) rfl)) e_60 (g := (mkF mM 90 #[.val (.int p1), .val (.int p2), .val (.int p3), .val (.int p4), .val (.int p5), .val (.int p6), .val (.int (0 : Int32)), .val (.int (1 : Int32)), .val (.ref b_57), .unset, .unset, .unset] [])) rfl (hb hby at_90) (by decide) (by decide)
      obtain ⟨b_62, g_62⟩ : ∃ z, z = h_60.size := ⟨_, rfl⟩
      rw [← g_62] at A_62 D_62 st_62
      have u_63 : b_57 < b_62 := Nat.lt_of_lt_of_le (u_61).lt (Nat.le_of_eq g_62.symm)
      have u_64 := Nat.le_trans Z0 E_57.1
      have u_65 := Nat.le_trans u_64 (Keep.of_wr W_60).1
      have u_66 : n0 ≤ b_62 := Nat.le_trans u_65 (Nat.le_of_eq g_62.symm)
      have u_67 : Fld Z h_62 b_62 "com/example/anchorline/anchorline/tcap/Dialogue" "peer" "Lcom/example/anchorline/anchorline/sccp/SccpAddress;" .null := D_62 (Or.inr (hw _ (List.mem_of_getElem? (i := 14) rfl))) (ty := (.object "com/example/anchorline/anchorline/sccp/SccpAddress")) (by decide)
      have u_68 : Fld Z h_62 b_62 "com/example/anchorline/anchorline/tcap/Dialogue" "applicationContext" "[B" .null := D_62 (Or.inr (hw _ (List.mem_of_getElem? (i := 16) rfl))) (ty := (.array .byte)) (by decide)
      have u_69 : Fld Z h_62 b_62 "com/example/anchorline/anchorline/tcap/Dialogue" "state" "Lcom/example/anchorline/anchorline/tcap/Dialogue$State;" .null := D_62 (Or.inl (hw _ (List.mem_of_getElem? (i := 18) rfl))) (ty := (.object "com/example/anchorline/anchorline/tcap/Dialogue$State")) (by decide)
      refine Goes.step st_62 ?_
      show Goes pP eE bB _ (T_62.setTop (mkF mM 93 #[.val (.int p1), .val (.int p2), .val (.int p3), .val (.int p4), .val (.int p5), .val (.int p6), .val (.int (0 : Int32)), .val (.int (1 : Int32)), .val (.ref b_57), .unset, .unset, .unset] [(.ref b_62)]))
      refine Goes.step (fun _ kK => XS.dup X_62.here hx rfl (hb hby at_93) rfl rfl kK) ?_
      show Goes pP eE bB _ (T_62.setTop (mkF mM 94 #[.val (.int p1), .val (.int p2), .val (.int p3), .val (.int p4), .val (.int p5), .val (.int p6), .val (.int (0 : Int32)), .val (.int (1 : Int32)), .val (.ref b_57), .unset, .unset, .unset] [(.ref b_62), (.ref b_62)]))
      refine Goes.step (fun _ kK => XS.aconstNull X_62.here hx rfl (hb hby at_94) kK) ?_
      show Goes pP eE bB _ (T_62.setTop (mkF mM 95 #[.val (.int p1), .val (.int p2), .val (.int p3), .val (.int p4), .val (.int p5), .val (.int p6), .val (.int (0 : Int32)), .val (.int (1 : Int32)), .val (.ref b_57), .unset, .unset, .unset] [.null, (.ref b_62), (.ref b_62)]))
      refine Goes.step (fun _ kK => XS.aload X_62.here hx rfl (hb hby at_95) rfl rfl kK) ?_
      show Goes pP eE bB _ (T_62.setTop (mkF mM 97 #[.val (.int p1), .val (.int p2), .val (.int p3), .val (.int p4), .val (.int p5), .val (.int p6), .val (.int (0 : Int32)), .val (.int (1 : Int32)), .val (.ref b_57), .unset, .unset, .unset] [(.ref b_57), .null, (.ref b_62), (.ref b_62)]))
      have u_71 := O0.ext E_57
      have u_72 := u_71.wr W_60 u_58
      have u_73 := u_72.ext E_62
      obtain ⟨T_70, X_70, e_70, st_70⟩ := getS2 X_62 hx hZ hown (host := "") (Or.inl (hw _ (List.mem_of_getElem? (i := 4) rfl))) Via.refl e_62 (SI.ext u_73.2) (g := (mkF mM 97 #[.val (.int p1), .val (.int p2), .val (.int p3), .val (.int p4), .val (.int p5), .val (.int p6), .val (.int (0 : Int32)), .val (.int (1 : Int32)), .val (.ref b_57), .unset, .unset, .unset] [(.ref b_57), .null, (.ref b_62), (.ref b_62)])) rfl (hb hby at_97)
      refine Goes.step st_70 ?_
      show Goes pP eE bB _ (T_70.setTop (mkF mM 100 #[.val (.int p1), .val (.int p2), .val (.int p3), .val (.int p4), .val (.int p5), .val (.int p6), .val (.int (0 : Int32)), .val (.int (1 : Int32)), .val (.ref b_57), .unset, .unset, .unset] [(.ref wI), (.ref b_57), .null, (.ref b_62), (.ref b_62)]))
      have u_74 := Nat.le_trans u_65 E_62.1
      refine Goes.callI X_70 hx hZ rfl hown (hw _ (List.mem_of_getElem? (i := 7) rfl)) (hw _ (List.mem_of_getElem? (i := 8) rfl)) (hw _ (List.mem_of_getElem? (i := 9) rfl)) (hw _ (List.mem_of_getElem? (i := 3) rfl)) (by decide) e_70 (rmC l Z a0 hw b_62 b_57 wI h_62 n0 u_74 A_62 u_66 u_67 u_68 u_69) (W := 1) (by decide) (by decide) (by decide) (by decide) (g := (mkF mM 100 #[.val (.int p1), .val (.int p2), .val (.int p3), .val (.int p4), .val (.int p5), .val (.int p6), .val (.int (0 : Int32)), .val (.int (1 : Int32)), .val (.ref b_57), .unset, .unset, .unset] [(.ref wI), (.ref b_57), .null, (.ref b_62), (.ref b_62)])) rfl (by rw [hml]; rfl) (rest := [(.ref b_62)]) own_pd0 rfl rfl (by show 2 * 0 + _ ≤ _; exact Nat.le_of_eq rfl) (hb hby at_100) ?_
      intro v_75 T_75 L_75 X_75 hQ_75
      generalize e_75 : T_75.heap = h_75 at hQ_75
      obtain ⟨rfl, N_75q, K_75, F_75⟩ := hQ_75
      have N_75 := Fr.app N_60 N_75q
      show Goes pP eE bB _ (T_75.setTop (mkF mM 103 #[.val (.int p1), .val (.int p2), .val (.int p3), .val (.int p4), .val (.int p5), .val (.int p6), .val (.int (0 : Int32)), .val (.int (1 : Int32)), .val (.ref b_57), .unset, .unset, .unset] [(.ref b_62)]))
      refine Goes.step (fun _ kK => XS.astore X_75.here hx rfl (hb hby at_103) rfl rfl (l' := #[.val (.int p1), .val (.int p2), .val (.int p3), .val (.int p4), .val (.int p5), .val (.int p6), .val (.int (0 : Int32)), .val (.int (1 : Int32)), .val (.ref b_57), .val (.ref b_62), .unset, .unset]) rfl kK) ?_
      show Goes pP eE bB _ (T_75.setTop (mkF mM 105 #[.val (.int p1), .val (.int p2), .val (.int p3), .val (.int p4), .val (.int p5), .val (.int p6), .val (.int (0 : Int32)), .val (.int (1 : Int32)), .val (.ref b_57), .val (.ref b_62), .unset, .unset] []))
      refine Goes.step (fun _ kK => XS.aload X_75.here hx rfl (hb hby at_105) rfl rfl kK) ?_
      show Goes pP eE bB _ (T_75.setTop (mkF mM 107 #[.val (.int p1), .val (.int p2), .val (.int p3), .val (.int p4), .val (.int p5), .val (.int p6), .val (.int (0 : Int32)), .val (.int (1 : Int32)), .val (.ref b_57), .val (.ref b_62), .unset, .unset] [(.ref b_62)]))
      have u_76 := Nat.le_trans u_74 K_75.1
      have u_77 := u_61.ext E_62
      have u_78 := u_77.keep K_75 (ninS (Nat.ne_of_lt u_63) nin0)
      have u_79 := M_57.wr W_60
      have u_80 := u_79.ext E_62
      have u_81 := u_80.keep K_75
      have u_83 := A_62.keep K_75
      refine Goes.callV X_75 hx hZ hown (hw _ (List.mem_of_getElem? (i := 19) rfl)) (hw _ (List.mem_of_getElem? (i := 20) rfl)) (notFace_of_selects (args := #[]) (mvT hZ (hw _ (List.mem_of_getElem? (i := 22) rfl)))) (hw _ (List.mem_of_getElem? (i := 22) rfl)) (hw _ (List.mem_of_getElem? (i := 21) rfl)) (hw _ (List.mem_of_getElem? (i := 23) rfl)) (hw _ (List.mem_of_getElem? (i := 3) rfl)) (by decide) e_75 u_83 (rmA l Z a0 hw b_62 b_57 h_75 n0 u_76 1 (by decide) _ F_75 u_78 u_81) (W := 0) (by decide) (by decide) (by decide) (by decide) (g := (mkF mM 107 #[.val (.int p1), .val (.int p2), .val (.int p3), .val (.int p4), .val (.int p5), .val (.int p6), .val (.int (0 : Int32)), .val (.int (1 : Int32)), .val (.ref b_57), .val (.ref b_62), .unset, .unset] [(.ref b_62)])) rfl (by rw [hml]; rfl) (rest := []) own_pd1 rfl rfl (by show 2 * 0 + _ ≤ _; exact Nat.le_of_eq rfl) (hb hby at_107) ?_
      intro v_82 T_82 L_82 X_82 hQ_82
      generalize e_82 : T_82.heap = h_82 at hQ_82
      obtain ⟨c_82, rfl, N_82q, E_82, s_82, A_82, M_82⟩ := hQ_82
      have N_82 := Fr.app N_75 N_82q
      have u_84 := Nat.lt_of_lt_of_le (u_61).lt E_62.1
      have u_85 := Nat.lt_of_lt_of_le u_84 K_75.1
      have u_86 : b_57 < c_82 := Nat.lt_of_lt_of_le u_85 s_82
      have u_87 : b_62 < c_82 := Nat.lt_of_lt_of_le (u_83).lt s_82
      have u_88 : n0 ≤ c_82 := Nat.le_trans u_76 s_82
      show Goes pP eE bB _ (T_82.setTop (mkF mM 110 #[.val (.int p1), .val (.int p2), .val (.int p3), .val (.int p4), .val (.int p5), .val (.int p6), .val (.int (0 : Int32)), .val (.int (1 : Int32)), .val (.ref b_57), .val (.ref b_62), .unset, .unset] [(.ref c_82)]))
      refine Goes.step (fun _ kK => XS.astore X_82.here hx rfl (hb hby at_110) rfl rfl (l' := #[.val (.int p1), .val (.int p2), .val (.int p3), .val (.int p4), .val (.int p5), .val (.int p6), .val (.int (0 : Int32)), .val (.int (1 : Int32)), .val (.ref b_57), .val (.ref b_62), .val (.ref c_82), .unset]) rfl kK) ?_
      show Goes pP eE bB _ (T_82.setTop (mkF mM 112 #[.val (.int p1), .val (.int p2), .val (.int p3), .val (.int p4), .val (.int p5), .val (.int p6), .val (.int (0 : Int32)), .val (.int (1 : Int32)), .val (.ref b_57), .val (.ref b_62), .val (.ref c_82), .unset] []))
      refine Goes.step (fun _ kK => XS.iload X_82.here hx rfl (hb hby at_112) rfl kK) ?_
      show Goes pP eE bB _ (T_82.setTop (mkF mM 114 #[.val (.int p1), .val (.int p2), .val (.int p3), .val (.int p4), .val (.int p5), .val (.int p6), .val (.int (0 : Int32)), .val (.int (1 : Int32)), .val (.ref b_57), .val (.ref b_62), .val (.ref c_82), .unset] [(.int (0 : Int32))]))
      refine Goes.step (fun _ kK => XS.ifYes X_82.here hx rfl (pc0 := 114) (pc' := 136) rfl (hb hby at_114) rfl ((if0 _ _).trans (teq (by decide)).1) (by decide) (by decide) kK) ?_
      show Goes pP eE bB _ (T_82.setTop (mkF mM 136 #[.val (.int p1), .val (.int p2), .val (.int p3), .val (.int p4), .val (.int p5), .val (.int p6), .val (.int (0 : Int32)), .val (.int (1 : Int32)), .val (.ref b_57), .val (.ref b_62), .val (.ref c_82), .unset] []))
      refine Goes.step (fun _ kK => XS.aload X_82.here hx rfl (hb hby at_136) rfl rfl kK) ?_
      show Goes pP eE bB _ (T_82.setTop (mkF mM 138 #[.val (.int p1), .val (.int p2), .val (.int p3), .val (.int p4), .val (.int p5), .val (.int p6), .val (.int (0 : Int32)), .val (.int (1 : Int32)), .val (.ref b_57), .val (.ref b_62), .val (.ref c_82), .unset] [(.ref c_82)]))
      refine Goes.step (fun _ kK => XS.ifnullNo X_82.here hx rfl (hb hby at_138) rfl kK) ?_
      show Goes pP eE bB _ (T_82.setTop (mkF mM 141 #[.val (.int p1), .val (.int p2), .val (.int p3), .val (.int p4), .val (.int p5), .val (.int p6), .val (.int (0 : Int32)), .val (.int (1 : Int32)), .val (.ref b_57), .val (.ref b_62), .val (.ref c_82), .unset] []))
      refine Goes.step (fun _ kK => XS.aload X_82.here hx rfl (hb hby at_141) rfl rfl kK) ?_
      show Goes pP eE bB _ (T_82.setTop (mkF mM 143 #[.val (.int p1), .val (.int p2), .val (.int p3), .val (.int p4), .val (.int p5), .val (.int p6), .val (.int (0 : Int32)), .val (.int (1 : Int32)), .val (.ref b_57), .val (.ref b_62), .val (.ref c_82), .unset] [(.ref c_82)]))
      refine Goes.step (fun _ kK => XS.aload X_82.here hx rfl (hb hby at_143) rfl rfl kK) ?_
      show Goes pP eE bB _ (T_82.setTop (mkF mM 145 #[.val (.int p1), .val (.int p2), .val (.int p3), .val (.int p4), .val (.int p5), .val (.int p6), .val (.int (0 : Int32)), .val (.int (1 : Int32)), .val (.ref b_57), .val (.ref b_62), .val (.ref c_82), .unset] [(.ref b_57), (.ref c_82)]))
      refine Goes.step (fun _ kK => Jvm.RoadKit.acmp (g := (mkF mM 145 #[.val (.int p1), .val (.int p2), .val (.int p3), .val (.int p4), .val (.int p5), .val (.int p6), .val (.int (0 : Int32)), .val (.int (1 : Int32)), .val (.ref b_57), .val (.ref b_62), .val (.ref c_82), .unset] [(.ref b_57), (.ref c_82)])) X_82 hx rfl rfl rfl (pc0 := 145) (pc' := 150) (same := false) rfl (hb hby at_145) rfl (decide_eq_false fun q => (Nat.ne_of_gt u_86) (Value.ref.inj q)) (by decide) (by decide) kK) ?_
      show Goes pP eE bB _ (T_82.setTop (mkF mM 150 #[.val (.int p1), .val (.int p2), .val (.int p3), .val (.int p4), .val (.int p5), .val (.int p6), .val (.int (0 : Int32)), .val (.int (1 : Int32)), .val (.ref b_57), .val (.ref b_62), .val (.ref c_82), .unset] []))
      refine Goes.step (fun _ kK => XS.aload X_82.here hx rfl (hb hby at_150) rfl rfl kK) ?_
      show Goes pP eE bB _ (T_82.setTop (mkF mM 152 #[.val (.int p1), .val (.int p2), .val (.int p3), .val (.int p4), .val (.int p5), .val (.int p6), .val (.int (0 : Int32)), .val (.int (1 : Int32)), .val (.ref b_57), .val (.ref b_62), .val (.ref c_82), .unset] [(.ref c_82)]))
      refine Goes.step (fun _ kK => XS.iload X_82.here hx rfl (hb hby at_152) rfl kK) ?_
      show Goes pP eE bB _ (T_82.setTop (mkF mM 154 #[.val (.int p1), .val (.int p2), .val (.int p3), .val (.int p4), .val (.int p5), .val (.int p6), .val (.int (0 : Int32)), .val (.int (1 : Int32)), .val (.ref b_57), .val (.ref b_62), .val (.ref c_82), .unset] [(.int (1 : Int32)), (.ref c_82)]))
      refine Goes.step (fun _ kK => XS.iloadN X_82.here hx rfl (hb hby at_154) rfl kK) ?_
      show Goes pP eE bB _ (T_82.setTop (mkF mM 155 #[.val (.int p1), .val (.int p2), .val (.int p3), .val (.int p4), .val (.int p5), .val (.int p6), .val (.int (0 : Int32)), .val (.int (1 : Int32)), .val (.ref b_57), .val (.ref b_62), .val (.ref c_82), .unset] [(.int p2), (.int (1 : Int32)), (.ref c_82)]))
      refine Goes.step (fun _ kK => XS.iloadN X_82.here hx rfl (hb hby at_155) rfl kK) ?_
      show Goes pP eE bB _ (T_82.setTop (mkF mM 156 #[.val (.int p1), .val (.int p2), .val (.int p3), .val (.int p4), .val (.int p5), .val (.int p6), .val (.int (0 : Int32)), .val (.int (1 : Int32)), .val (.ref b_57), .val (.ref b_62), .val (.ref c_82), .unset] [(.int p3), (.int p2), (.int (1 : Int32)), (.ref c_82)]))
      refine Goes.step (fun _ kK => XS.iloadN X_82.here hx rfl (hb hby at_156) rfl kK) ?_
      show Goes pP eE bB _ (T_82.setTop (mkF mM 157 #[.val (.int p1), .val (.int p2), .val (.int p3), .val (.int p4), .val (.int p5), .val (.int p6), .val (.int (0 : Int32)), .val (.int (1 : Int32)), .val (.ref b_57), .val (.ref b_62), .val (.ref c_82), .unset] [(.int p4), (.int p3), (.int p2), (.int (1 : Int32)), (.ref c_82)]))
      refine Goes.step (fun _ kK => XS.iload X_82.here hx rfl (hb hby at_157) rfl kK) ?_
      show Goes pP eE bB _ (T_82.setTop (mkF mM 159 #[.val (.int p1), .val (.int p2), .val (.int p3), .val (.int p4), .val (.int p5), .val (.int p6), .val (.int (0 : Int32)), .val (.int (1 : Int32)), .val (.ref b_57), .val (.ref b_62), .val (.ref c_82), .unset] [(.int p5), (.int p4), (.int p3), (.int p2), (.int (1 : Int32)), (.ref c_82)]))
      have u_89 := Nat.le_trans u_76 E_82.1
      refine Goes.callS X_82 hx hZ hown (hw _ (List.mem_of_getElem? (i := 34) rfl)) (hw _ (List.mem_of_getElem? (i := 35) rfl)) (hw _ (List.mem_of_getElem? (i := 36) rfl)) (hw _ (List.mem_of_getElem? (i := 37) rfl)) (by decide) e_82 (rmH1 l Z a0 hw c_82 p2 p3 p4 p5 h_82 n0 u_89 A_82) (W := 0) (by decide) (by decide) (by decide) (by decide) (g := (mkF mM 159 #[.val (.int p1), .val (.int p2), .val (.int p3), .val (.int p4), .val (.int p5), .val (.int p6), .val (.int (0 : Int32)), .val (.int (1 : Int32)), .val (.ref b_57), .val (.ref b_62), .val (.ref c_82), .unset] [(.int p5), (.int p4), (.int p3), (.int p2), (.int (1 : Int32)), (.ref c_82)])) rfl (by rw [hml]; rfl) (rest := []) own_pd2 rfl rfl (by show 2 * 0 + _ ≤ _; exact Nat.le_of_eq rfl) (hb hby at_159) ?_
      intro v_90 T_90 L_90 X_90 hQ_90
      obtain ⟨rfl, N_90q, e_90⟩ := hQ_90
      have N_90 := Fr.app N_82 N_90q
      show Goes pP eE bB _ (T_90.setTop (mkF mM 162 #[.val (.int p1), .val (.int p2), .val (.int p3), .val (.int p4), .val (.int p5), .val (.int p6), .val (.int (0 : Int32)), .val (.int (1 : Int32)), .val (.ref b_57), .val (.ref b_62), .val (.ref c_82), .unset] [(.int (1 : Int32))]))
      refine Goes.step (fun _ kK => XS.ifYes X_90.here hx rfl (pc0 := 162) (pc' := 167) rfl (hb hby at_162) rfl ((if0 _ _).trans (feq (by decide)).2) (by decide) (by decide) kK) ?_
      show Goes pP eE bB _ (T_90.setTop (mkF mM 167 #[.val (.int p1), .val (.int p2), .val (.int p3), .val (.int p4), .val (.int p5), .val (.int p6), .val (.int (0 : Int32)), .val (.int (1 : Int32)), .val (.ref b_57), .val (.ref b_62), .val (.ref c_82), .unset] []))
      refine Goes.step (fun _ kK => XS.aload X_90.here hx rfl (hb hby at_167) rfl rfl kK) ?_
      show Goes pP eE bB _ (T_90.setTop (mkF mM 169 #[.val (.int p1), .val (.int p2), .val (.int p3), .val (.int p4), .val (.int p5), .val (.int p6), .val (.int (0 : Int32)), .val (.int (1 : Int32)), .val (.ref b_57), .val (.ref b_62), .val (.ref c_82), .unset] [(.ref b_57)]))
      refine Goes.step (fun _ kK => XS.iload X_90.here hx rfl (hb hby at_169) rfl kK) ?_
      show Goes pP eE bB _ (T_90.setTop (mkF mM 171 #[.val (.int p1), .val (.int p2), .val (.int p3), .val (.int p4), .val (.int p5), .val (.int p6), .val (.int (0 : Int32)), .val (.int (1 : Int32)), .val (.ref b_57), .val (.ref b_62), .val (.ref c_82), .unset] [(.int (1 : Int32)), (.ref b_57)]))
      refine Goes.step (fun _ kK => XS.iloadN X_90.here hx rfl (hb hby at_171) rfl kK) ?_
      show Goes pP eE bB _ (T_90.setTop (mkF mM 172 #[.val (.int p1), .val (.int p2), .val (.int p3), .val (.int p4), .val (.int p5), .val (.int p6), .val (.int (0 : Int32)), .val (.int (1 : Int32)), .val (.ref b_57), .val (.ref b_62), .val (.ref c_82), .unset] [(.int p2), (.int (1 : Int32)), (.ref b_57)]))
      refine Goes.step (fun _ kK => XS.iloadN X_90.here hx rfl (hb hby at_172) rfl kK) ?_
      show Goes pP eE bB _ (T_90.setTop (mkF mM 173 #[.val (.int p1), .val (.int p2), .val (.int p3), .val (.int p4), .val (.int p5), .val (.int p6), .val (.int (0 : Int32)), .val (.int (1 : Int32)), .val (.ref b_57), .val (.ref b_62), .val (.ref c_82), .unset] [(.int p3), (.int p2), (.int (1 : Int32)), (.ref b_57)]))
      refine Goes.step (fun _ kK => XS.iloadN X_90.here hx rfl (hb hby at_173) rfl kK) ?_
      show Goes pP eE bB _ (T_90.setTop (mkF mM 174 #[.val (.int p1), .val (.int p2), .val (.int p3), .val (.int p4), .val (.int p5), .val (.int p6), .val (.int (0 : Int32)), .val (.int (1 : Int32)), .val (.ref b_57), .val (.ref b_62), .val (.ref c_82), .unset] [(.int p4), (.int p3), (.int p2), (.int (1 : Int32)), (.ref b_57)]))
      refine Goes.step (fun _ kK => XS.iload X_90.here hx rfl (hb hby at_174) rfl kK) ?_
      show Goes pP eE bB _ (T_90.setTop (mkF mM 176 #[.val (.int p1), .val (.int p2), .val (.int p3), .val (.int p4), .val (.int p5), .val (.int p6), .val (.int (0 : Int32)), .val (.int (1 : Int32)), .val (.ref b_57), .val (.ref b_62), .val (.ref c_82), .unset] [(.int p5), (.int p4), (.int p3), (.int p2), (.int (1 : Int32)), (.ref b_57)]))
      have u_91 := u_78.ext E_82
      refine Goes.callS X_90 hx hZ hown (hw _ (List.mem_of_getElem? (i := 34) rfl)) (hw _ (List.mem_of_getElem? (i := 35) rfl)) (hw _ (List.mem_of_getElem? (i := 36) rfl)) (hw _ (List.mem_of_getElem? (i := 37) rfl)) (by decide) e_90 (rmH1 l Z a0 hw b_57 p2 p3 p4 p5 h_82 n0 u_89 u_91) (W := 0) (by decide) (by decide) (by decide) (by decide) (g := (mkF mM 176 #[.val (.int p1), .val (.int p2), .val (.int p3), .val (.int p4), .val (.int p5), .val (.int p6), .val (.int (0 : Int32)), .val (.int (1 : Int32)), .val (.ref b_57), .val (.ref b_62), .val (.ref c_82), .unset] [(.int p5), (.int p4), (.int p3), (.int p2), (.int (1 : Int32)), (.ref b_57)])) rfl (by rw [hml]; rfl) (rest := []) own_pd2 rfl rfl (by show 2 * 0 + _ ≤ _; exact Nat.le_of_eq rfl) (hb hby at_176) ?_
      intro v_92 T_92 L_92 X_92 hQ_92
      obtain ⟨rfl, N_92q, e_92⟩ := hQ_92
      have N_92 := Fr.app N_90 N_92q
      show Goes pP eE bB _ (T_92.setTop (mkF mM 179 #[.val (.int p1), .val (.int p2), .val (.int p3), .val (.int p4), .val (.int p5), .val (.int p6), .val (.int (0 : Int32)), .val (.int (1 : Int32)), .val (.ref b_57), .val (.ref b_62), .val (.ref c_82), .unset] [(.int (1 : Int32))]))
      refine Goes.step (fun _ kK => XS.ifYes X_92.here hx rfl (pc0 := 179) (pc' := 184) rfl (hb hby at_179) rfl ((if0 _ _).trans (feq (by decide)).2) (by decide) (by decide) kK) ?_
      show Goes pP eE bB _ (T_92.setTop (mkF mM 184 #[.val (.int p1), .val (.int p2), .val (.int p3), .val (.int p4), .val (.int p5), .val (.int p6), .val (.int (0 : Int32)), .val (.int (1 : Int32)), .val (.ref b_57), .val (.ref b_62), .val (.ref c_82), .unset] []))
      refine Goes.step (fun _ kK => XS.aload X_92.here hx rfl (hb hby at_184) rfl rfl kK) ?_
      show Goes pP eE bB _ (T_92.setTop (mkF mM 186 #[.val (.int p1), .val (.int p2), .val (.int p3), .val (.int p4), .val (.int p5), .val (.int p6), .val (.int (0 : Int32)), .val (.int (1 : Int32)), .val (.ref b_57), .val (.ref b_62), .val (.ref c_82), .unset] [(.ref c_82)]))
      refine Goes.callS X_92 hx hZ hown (hw _ (List.mem_of_getElem? (i := 38) rfl)) (hw _ (List.mem_of_getElem? (i := 39) rfl)) (hw _ (List.mem_of_getElem? (i := 36) rfl)) (hw _ (List.mem_of_getElem? (i := 40) rfl)) (by decide) e_92 (rmB1 l Z a0 hw c_82 p2 p3 p4 p5 h_82 n0 u_89 A_82 u_88) (W := 0) (by decide) (by decide) (by decide) (by decide) (g := (mkF mM 186 #[.val (.int p1), .val (.int p2), .val (.int p3), .val (.int p4), .val (.int p5), .val (.int p6), .val (.int (0 : Int32)), .val (.int (1 : Int32)), .val (.ref b_57), .val (.ref b_62), .val (.ref c_82), .unset] [(.ref c_82)])) rfl (by rw [hml]; rfl) (rest := []) own_pd3 rfl rfl (by show 2 * 0 + _ ≤ _; exact Nat.le_of_eq rfl) (hb hby at_186) ?_
      intro v_93 T_93 L_93 X_93 hQ_93
      generalize e_93 : T_93.heap = h_93 at hQ_93
      obtain ⟨rfl, N_93q, K_93⟩ := hQ_93
      have N_93 := Fr.app N_92 N_93q
      show Goes pP eE bB _ (T_93.setTop (mkF mM 189 #[.val (.int p1), .val (.int p2), .val (.int p3), .val (.int p4), .val (.int p5), .val (.int p6), .val (.int (0 : Int32)), .val (.int (1 : Int32)), .val (.ref b_57), .val (.ref b_62), .val (.ref c_82), .unset] []))
      refine Goes.step (fun _ kK => XS.aload X_93.here hx rfl (hb hby at_189) rfl rfl kK) ?_
      show Goes pP eE bB _ (T_93.setTop (mkF mM 191 #[.val (.int p1), .val (.int p2), .val (.int p3), .val (.int p4), .val (.int p5), .val (.int p6), .val (.int (0 : Int32)), .val (.int (1 : Int32)), .val (.ref b_57), .val (.ref b_62), .val (.ref c_82), .unset] [(.ref b_62)]))
      have u_94 := F_75.ext E_82
      have u_95 := u_94.keep K_93 (ninS (Nat.ne_of_lt u_87) nin0)
      have u_96 := Nat.le_trans u_89 K_93.1
      have u_97 := u_91.keep K_93 (ninS (Nat.ne_of_lt u_86) nin0)
      have u_98 := u_81.ext E_82
      have u_99 := u_98.keep K_93
      have u_101 := u_83.ext E_82
      have u_102 := u_101.keep K_93
      refine Goes.callV X_93 hx hZ hown (hw _ (List.mem_of_getElem? (i := 19) rfl)) (hw _ (List.mem_of_getElem? (i := 20) rfl)) (notFace_of_selects (args := #[]) (mvT hZ (hw _ (List.mem_of_getElem? (i := 22) rfl)))) (hw _ (List.mem_of_getElem? (i := 22) rfl)) (hw _ (List.mem_of_getElem? (i := 21) rfl)) (hw _ (List.mem_of_getElem? (i := 23) rfl)) (hw _ (List.mem_of_getElem? (i := 3) rfl)) (by decide) e_93 u_102 (rmA l Z a0 hw b_62 b_57 h_93 n0 u_96 1 (by decide) _ u_95 u_97 u_99) (W := 0) (by decide) (by decide) (by decide) (by decide) (g := (mkF mM 191 #[.val (.int p1), .val (.int p2), .val (.int p3), .val (.int p4), .val (.int p5), .val (.int p6), .val (.int (0 : Int32)), .val (.int (1 : Int32)), .val (.ref b_57), .val (.ref b_62), .val (.ref c_82), .unset] [(.ref b_62)])) rfl (by rw [hml]; rfl) (rest := []) own_pd1 rfl rfl (by show 2 * 0 + _ ≤ _; exact Nat.le_of_eq rfl) (hb hby at_191) ?_
      intro v_100 T_100 L_100 X_100 hQ_100
      generalize e_100 : T_100.heap = h_100 at hQ_100
      obtain ⟨c_100, rfl, N_100q, E_100, s_100, A_100, M_100⟩ := hQ_100
      have N_100 := Fr.app N_93 N_100q
      have u_103 := Nat.lt_of_lt_of_le u_85 E_82.1
      have u_104 := Nat.lt_of_lt_of_le u_103 K_93.1
      have u_105 : b_57 < c_100 := Nat.lt_of_lt_of_le u_104 s_100
      have u_106 := Nat.lt_of_lt_of_le (u_83).lt E_82.1
      have u_107 := Nat.lt_of_lt_of_le u_106 K_93.1
      have u_108 : b_62 < c_100 := Nat.lt_of_lt_of_le u_107 s_100
      have u_109 := Nat.lt_of_lt_of_le (M_82).lt K_93.1
      have u_110 : c_82 < c_100 := Nat.lt_of_lt_of_le u_109 s_100
      have u_111 : n0 ≤ c_100 := Nat.le_trans u_96 s_100
      show Goes pP eE bB _ (T_100.setTop (mkF mM 194 #[.val (.int p1), .val (.int p2), .val (.int p3), .val (.int p4), .val (.int p5), .val (.int p6), .val (.int (0 : Int32)), .val (.int (1 : Int32)), .val (.ref b_57), .val (.ref b_62), .val (.ref c_82), .unset] [(.ref c_100)]))
      refine Goes.step (fun _ kK => XS.astore X_100.here hx rfl (hb hby at_194) rfl rfl (l' := #[.val (.int p1), .val (.int p2), .val (.int p3), .val (.int p4), .val (.int p5), .val (.int p6), .val (.int (0 : Int32)), .val (.int (1 : Int32)), .val (.ref b_57), .val (.ref b_62), .val (.ref c_82), .val (.ref c_100)]) rfl kK) ?_
      show Goes pP eE bB _ (T_100.setTop (mkF mM 196 #[.val (.int p1), .val (.int p2), .val (.int p3), .val (.int p4), .val (.int p5), .val (.int p6), .val (.int (0 : Int32)), .val (.int (1 : Int32)), .val (.ref b_57), .val (.ref b_62), .val (.ref c_82), .val (.ref c_100)] []))
      refine Goes.step (fun _ kK => XS.aload X_100.here hx rfl (hb hby at_196) rfl rfl kK) ?_
      show Goes pP eE bB _ (T_100.setTop (mkF mM 198 #[.val (.int p1), .val (.int p2), .val (.int p3), .val (.int p4), .val (.int p5), .val (.int p6), .val (.int (0 : Int32)), .val (.int (1 : Int32)), .val (.ref b_57), .val (.ref b_62), .val (.ref c_82), .val (.ref c_100)] [(.ref c_100)]))
      refine Goes.step (fun _ kK => XS.ifnullNo X_100.here hx rfl (hb hby at_198) rfl kK) ?_
      show Goes pP eE bB _ (T_100.setTop (mkF mM 201 #[.val (.int p1), .val (.int p2), .val (.int p3), .val (.int p4), .val (.int p5), .val (.int p6), .val (.int (0 : Int32)), .val (.int (1 : Int32)), .val (.ref b_57), .val (.ref b_62), .val (.ref c_82), .val (.ref c_100)] []))
      refine Goes.step (fun _ kK => XS.aload X_100.here hx rfl (hb hby at_201) rfl rfl kK) ?_
      show Goes pP eE bB _ (T_100.setTop (mkF mM 203 #[.val (.int p1), .val (.int p2), .val (.int p3), .val (.int p4), .val (.int p5), .val (.int p6), .val (.int (0 : Int32)), .val (.int (1 : Int32)), .val (.ref b_57), .val (.ref b_62), .val (.ref c_82), .val (.ref c_100)] [(.ref c_100)]))
      refine Goes.step (fun _ kK => XS.aload X_100.here hx rfl (hb hby at_203) rfl rfl kK) ?_
      show Goes pP eE bB _ (T_100.setTop (mkF mM 205 #[.val (.int p1), .val (.int p2), .val (.int p3), .val (.int p4), .val (.int p5), .val (.int p6), .val (.int (0 : Int32)), .val (.int (1 : Int32)), .val (.ref b_57), .val (.ref b_62), .val (.ref c_82), .val (.ref c_100)] [(.ref b_57), (.ref c_100)]))
      refine Goes.step (fun _ kK => Jvm.RoadKit.acmp (g := (mkF mM 205 #[.val (.int p1), .val (.int p2), .val (.int p3), .val (.int p4), .val (.int p5), .val (.int p6), .val (.int (0 : Int32)), .val (.int (1 : Int32)), .val (.ref b_57), .val (.ref b_62), .val (.ref c_82), .val (.ref c_100)] [(.ref b_57), (.ref c_100)])) X_100 hx rfl rfl rfl (pc0 := 205) (pc' := 208) (same := false) rfl (hb hby at_205) rfl (decide_eq_false fun q => (Nat.ne_of_gt u_105) (Value.ref.inj q)) (by decide) (by decide) kK) ?_
      show Goes pP eE bB _ (T_100.setTop (mkF mM 208 #[.val (.int p1), .val (.int p2), .val (.int p3), .val (.int p4), .val (.int p5), .val (.int p6), .val (.int (0 : Int32)), .val (.int (1 : Int32)), .val (.ref b_57), .val (.ref b_62), .val (.ref c_82), .val (.ref c_100)] []))
      refine Goes.step (fun _ kK => XS.aload X_100.here hx rfl (hb hby at_208) rfl rfl kK) ?_
      show Goes pP eE bB _ (T_100.setTop (mkF mM 210 #[.val (.int p1), .val (.int p2), .val (.int p3), .val (.int p4), .val (.int p5), .val (.int p6), .val (.int (0 : Int32)), .val (.int (1 : Int32)), .val (.ref b_57), .val (.ref b_62), .val (.ref c_82), .val (.ref c_100)] [(.ref c_100)]))
      refine Goes.step (fun _ kK => XS.aload X_100.here hx rfl (hb hby at_210) rfl rfl kK) ?_
      show Goes pP eE bB _ (T_100.setTop (mkF mM 212 #[.val (.int p1), .val (.int p2), .val (.int p3), .val (.int p4), .val (.int p5), .val (.int p6), .val (.int (0 : Int32)), .val (.int (1 : Int32)), .val (.ref b_57), .val (.ref b_62), .val (.ref c_82), .val (.ref c_100)] [(.ref c_82), (.ref c_100)]))
      refine Goes.step (fun _ kK => Jvm.RoadKit.acmp (g := (mkF mM 212 #[.val (.int p1), .val (.int p2), .val (.int p3), .val (.int p4), .val (.int p5), .val (.int p6), .val (.int (0 : Int32)), .val (.int (1 : Int32)), .val (.ref b_57), .val (.ref b_62), .val (.ref c_82), .val (.ref c_100)] [(.ref c_82), (.ref c_100)])) X_100 hx rfl rfl rfl (pc0 := 212) (pc' := 217) (same := false) rfl (hb hby at_212) rfl (decide_eq_false fun q => (Nat.ne_of_gt u_110) (Value.ref.inj q)) (by decide) (by decide) kK) ?_
      show Goes pP eE bB _ (T_100.setTop (mkF mM 217 #[.val (.int p1), .val (.int p2), .val (.int p3), .val (.int p4), .val (.int p5), .val (.int p6), .val (.int (0 : Int32)), .val (.int (1 : Int32)), .val (.ref b_57), .val (.ref b_62), .val (.ref c_82), .val (.ref c_100)] []))
      refine Goes.step (fun _ kK => XS.aload X_100.here hx rfl (hb hby at_217) rfl rfl kK) ?_
      show Goes pP eE bB _ (T_100.setTop (mkF mM 219 #[.val (.int p1), .val (.int p2), .val (.int p3), .val (.int p4), .val (.int p5), .val (.int p6), .val (.int (0 : Int32)), .val (.int (1 : Int32)), .val (.ref b_57), .val (.ref b_62), .val (.ref c_82), .val (.ref c_100)] [(.ref c_100)]))
      refine Goes.step (fun _ kK => XS.iload X_100.here hx rfl (hb hby at_219) rfl kK) ?_
      show Goes pP eE bB _ (T_100.setTop (mkF mM 221 #[.val (.int p1), .val (.int p2), .val (.int p3), .val (.int p4), .val (.int p5), .val (.int p6), .val (.int (0 : Int32)), .val (.int (1 : Int32)), .val (.ref b_57), .val (.ref b_62), .val (.ref c_82), .val (.ref c_100)] [(.int (1 : Int32)), (.ref c_100)]))
      refine Goes.step (fun _ kK => XS.iloadN X_100.here hx rfl (hb hby at_221) rfl kK) ?_
      show Goes pP eE bB _ (T_100.setTop (mkF mM 222 #[.val (.int p1), .val (.int p2), .val (.int p3), .val (.int p4), .val (.int p5), .val (.int p6), .val (.int (0 : Int32)), .val (.int (1 : Int32)), .val (.ref b_57), .val (.ref b_62), .val (.ref c_82), .val (.ref c_100)] [(.int p2), (.int (1 : Int32)), (.ref c_100)]))
      refine Goes.step (fun _ kK => XS.iloadN X_100.here hx rfl (hb hby at_222) rfl kK) ?_
      show Goes pP eE bB _ (T_100.setTop (mkF mM 223 #[.val (.int p1), .val (.int p2), .val (.int p3), .val (.int p4), .val (.int p5), .val (.int p6), .val (.int (0 : Int32)), .val (.int (1 : Int32)), .val (.ref b_57), .val (.ref b_62), .val (.ref c_82), .val (.ref c_100)] [(.int p3), (.int p2), (.int (1 : Int32)), (.ref c_100)]))
      refine Goes.step (fun _ kK => XS.iloadN X_100.here hx rfl (hb hby at_223) rfl kK) ?_
      show Goes pP eE bB _ (T_100.setTop (mkF mM 224 #[.val (.int p1), .val (.int p2), .val (.int p3), .val (.int p4), .val (.int p5), .val (.int p6), .val (.int (0 : Int32)), .val (.int (1 : Int32)), .val (.ref b_57), .val (.ref b_62), .val (.ref c_82), .val (.ref c_100)] [(.int p4), (.int p3), (.int p2), (.int (1 : Int32)), (.ref c_100)]))
      refine Goes.step (fun _ kK => XS.iload X_100.here hx rfl (hb hby at_224) rfl kK) ?_
      show Goes pP eE bB _ (T_100.setTop (mkF mM 226 #[.val (.int p1), .val (.int p2), .val (.int p3), .val (.int p4), .val (.int p5), .val (.int p6), .val (.int (0 : Int32)), .val (.int (1 : Int32)), .val (.ref b_57), .val (.ref b_62), .val (.ref c_82), .val (.ref c_100)] [(.int p5), (.int p4), (.int p3), (.int p2), (.int (1 : Int32)), (.ref c_100)]))
      have u_112 := Nat.le_trans u_96 E_100.1
      refine Goes.callS X_100 hx hZ hown (hw _ (List.mem_of_getElem? (i := 34) rfl)) (hw _ (List.mem_of_getElem? (i := 35) rfl)) (hw _ (List.mem_of_getElem? (i := 36) rfl)) (hw _ (List.mem_of_getElem? (i := 37) rfl)) (by decide) e_100 (rmH1 l Z a0 hw c_100 p2 p3 p4 p5 h_100 n0 u_112 A_100) (W := 0) (by decide) (by decide) (by decide) (by decide) (g := (mkF mM 226 #[.val (.int p1), .val (.int p2), .val (.int p3), .val (.int p4), .val (.int p5), .val (.int p6), .val (.int (0 : Int32)), .val (.int (1 : Int32)), .val (.ref b_57), .val (.ref b_62), .val (.ref c_82), .val (.ref c_100)] [(.int p5), (.int p4), (.int p3), (.int p2), (.int (1 : Int32)), (.ref c_100)])) rfl (by rw [hml]; rfl) (rest := []) own_pd2 rfl rfl (by show 2 * 0 + _ ≤ _; exact Nat.le_of_eq rfl) (hb hby at_226) ?_
      intro v_113 T_113 L_113 X_113 hQ_113
      obtain ⟨rfl, N_113q, e_113⟩ := hQ_113
      have N_113 := Fr.app N_100 N_113q
      show Goes pP eE bB _ (T_113.setTop (mkF mM 229 #[.val (.int p1), .val (.int p2), .val (.int p3), .val (.int p4), .val (.int p5), .val (.int p6), .val (.int (0 : Int32)), .val (.int (1 : Int32)), .val (.ref b_57), .val (.ref b_62), .val (.ref c_82), .val (.ref c_100)] [(.int (1 : Int32))]))
      refine Goes.step (fun _ kK => XS.ifNo X_113.here hx rfl (hb hby at_229) rfl ((if0 _ _).trans (feq (by decide)).1) kK) ?_
      show Goes pP eE bB _ (T_113.setTop (mkF mM 232 #[.val (.int p1), .val (.int p2), .val (.int p3), .val (.int p4), .val (.int p5), .val (.int p6), .val (.int (0 : Int32)), .val (.int (1 : Int32)), .val (.ref b_57), .val (.ref b_62), .val (.ref c_82), .val (.ref c_100)] []))
      refine Goes.step (fun _ kK => XS.aload X_113.here hx rfl (hb hby at_232) rfl rfl kK) ?_
      show Goes pP eE bB _ (T_113.setTop (mkF mM 234 #[.val (.int p1), .val (.int p2), .val (.int p3), .val (.int p4), .val (.int p5), .val (.int p6), .val (.int (0 : Int32)), .val (.int (1 : Int32)), .val (.ref b_57), .val (.ref b_62), .val (.ref c_82), .val (.ref c_100)] [(.ref b_57)]))
      refine Goes.step (fun _ kK => XS.iload X_113.here hx rfl (hb hby at_234) rfl kK) ?_
      show Goes pP eE bB _ (T_113.setTop (mkF mM 236 #[.val (.int p1), .val (.int p2), .val (.int p3), .val (.int p4), .val (.int p5), .val (.int p6), .val (.int (0 : Int32)), .val (.int (1 : Int32)), .val (.ref b_57), .val (.ref b_62), .val (.ref c_82), .val (.ref c_100)] [(.int (1 : Int32)), (.ref b_57)]))
      refine Goes.step (fun _ kK => XS.iloadN X_113.here hx rfl (hb hby at_236) rfl kK) ?_
      show Goes pP eE bB _ (T_113.setTop (mkF mM 237 #[.val (.int p1), .val (.int p2), .val (.int p3), .val (.int p4), .val (.int p5), .val (.int p6), .val (.int (0 : Int32)), .val (.int (1 : Int32)), .val (.ref b_57), .val (.ref b_62), .val (.ref c_82), .val (.ref c_100)] [(.int p2), (.int (1 : Int32)), (.ref b_57)]))
      refine Goes.step (fun _ kK => XS.iloadN X_113.here hx rfl (hb hby at_237) rfl kK) ?_
      show Goes pP eE bB _ (T_113.setTop (mkF mM 238 #[.val (.int p1), .val (.int p2), .val (.int p3), .val (.int p4), .val (.int p5), .val (.int p6), .val (.int (0 : Int32)), .val (.int (1 : Int32)), .val (.ref b_57), .val (.ref b_62), .val (.ref c_82), .val (.ref c_100)] [(.int p3), (.int p2), (.int (1 : Int32)), (.ref b_57)]))
      refine Goes.step (fun _ kK => XS.iloadN X_113.here hx rfl (hb hby at_238) rfl kK) ?_
      show Goes pP eE bB _ (T_113.setTop (mkF mM 239 #[.val (.int p1), .val (.int p2), .val (.int p3), .val (.int p4), .val (.int p5), .val (.int p6), .val (.int (0 : Int32)), .val (.int (1 : Int32)), .val (.ref b_57), .val (.ref b_62), .val (.ref c_82), .val (.ref c_100)] [(.int p4), (.int p3), (.int p2), (.int (1 : Int32)), (.ref b_57)]))
      refine Goes.step (fun _ kK => XS.iload X_113.here hx rfl (hb hby at_239) rfl kK) ?_
      show Goes pP eE bB _ (T_113.setTop (mkF mM 241 #[.val (.int p1), .val (.int p2), .val (.int p3), .val (.int p4), .val (.int p5), .val (.int p6), .val (.int (0 : Int32)), .val (.int (1 : Int32)), .val (.ref b_57), .val (.ref b_62), .val (.ref c_82), .val (.ref c_100)] [(.int p5), (.int p4), (.int p3), (.int p2), (.int (1 : Int32)), (.ref b_57)]))
      have u_114 := u_97.ext E_100
      refine Goes.callS X_113 hx hZ hown (hw _ (List.mem_of_getElem? (i := 34) rfl)) (hw _ (List.mem_of_getElem? (i := 35) rfl)) (hw _ (List.mem_of_getElem? (i := 36) rfl)) (hw _ (List.mem_of_getElem? (i := 37) rfl)) (by decide) e_113 (rmH1 l Z a0 hw b_57 p2 p3 p4 p5 h_100 n0 u_112 u_114) (W := 0) (by decide) (by decide) (by decide) (by decide) (g := (mkF mM 241 #[.val (.int p1), .val (.int p2), .val (.int p3), .val (.int p4), .val (.int p5), .val (.int p6), .val (.int (0 : Int32)), .val (.int (1 : Int32)), .val (.ref b_57), .val (.ref b_62), .val (.ref c_82), .val (.ref c_100)] [(.int p5), (.int p4), (.int p3), (.int p2), (.int (1 : Int32)), (.ref b_57)])) rfl (by rw [hml]; rfl) (rest := []) own_pd2 rfl rfl (by show 2 * 0 + _ ≤ _; exact Nat.le_of_eq rfl) (hb hby at_241) ?_
      intro v_115 T_115 L_115 X_115 hQ_115
      obtain ⟨rfl, N_115q, e_115⟩ := hQ_115
      have N_115 := Fr.app N_113 N_115q
      show Goes pP eE bB _ (T_115.setTop (mkF mM 244 #[.val (.int p1), .val (.int p2), .val (.int p3), .val (.int p4), .val (.int p5), .val (.int p6), .val (.int (0 : Int32)), .val (.int (1 : Int32)), .val (.ref b_57), .val (.ref b_62), .val (.ref c_82), .val (.ref c_100)] [(.int (1 : Int32))]))
      refine Goes.step (fun _ kK => XS.ifNo X_115.here hx rfl (hb hby at_244) rfl ((if0 _ _).trans (feq (by decide)).1) kK) ?_
      show Goes pP eE bB _ (T_115.setTop (mkF mM 247 #[.val (.int p1), .val (.int p2), .val (.int p3), .val (.int p4), .val (.int p5), .val (.int p6), .val (.int (0 : Int32)), .val (.int (1 : Int32)), .val (.ref b_57), .val (.ref b_62), .val (.ref c_82), .val (.ref c_100)] []))
      refine Goes.step (fun _ kK => XS.iconst X_115.here hx rfl (hb hby at_247) kK) ?_
      show Goes pP eE bB _ (T_115.setTop (mkF mM 248 #[.val (.int p1), .val (.int p2), .val (.int p3), .val (.int p4), .val (.int p5), .val (.int p6), .val (.int (0 : Int32)), .val (.int (1 : Int32)), .val (.ref b_57), .val (.ref b_62), .val (.ref c_82), .val (.ref c_100)] [(.int (1 : Int32))]))
      refine Goes.step (fun _ kK => XS.goto X_115.here hx rfl (pc0 := 248) (pc' := 252) rfl (hb hby at_248) (by decide) (by decide) kK) ?_
      show Goes pP eE bB _ (T_115.setTop (mkF mM 252 #[.val (.int p1), .val (.int p2), .val (.int p3), .val (.int p4), .val (.int p5), .val (.int p6), .val (.int (0 : Int32)), .val (.int (1 : Int32)), .val (.ref b_57), .val (.ref b_62), .val (.ref c_82), .val (.ref c_100)] [(.int (1 : Int32))]))
      refine Goes.retN X_115 hx hlk (t := .boolean) hret (by simp) (hb hby at_252) (by decide) (by decide) ?_
      exact ⟨rfl, N_115⟩
    · rw [hl]
      show Goes pP eE bB _ (s₁.setTop (mkF mM 22 #[.val (.int p1), .val (.int p2), .val (.int p3), .val (.int p4), .val (.int p5), .val (.int p6), .val (.int (0 : Int32)), .val (.int (2 : Int32)), .unset, .unset, .unset, .unset] []))
      refine Goes.step (fun _ kK => XS.iload X0.here hx rfl (hb hby at_22) rfl kK) ?_
      show Goes pP eE bB _ (s₁.setTop (mkF mM 24 #[.val (.int p1), .val (.int p2), .val (.int p3), .val (.int p4), .val (.int p5), .val (.int p6), .val (.int (0 : Int32)), .val (.int (2 : Int32)), .unset, .unset, .unset, .unset] [(.int (0 : Int32))]))
      refine Goes.step (fun _ kK => XS.ifYes X0.here hx rfl (pc0 := 24) (pc' := 31) rfl (hb hby at_24) rfl ((if0 _ _).trans (teq (by decide)).1) (by decide) (by decide) kK) ?_
      show Goes pP eE bB _ (s₁.setTop (mkF mM 31 #[.val (.int p1), .val (.int p2), .val (.int p3), .val (.int p4), .val (.int p5), .val (.int p6), .val (.int (0 : Int32)), .val (.int (2 : Int32)), .unset, .unset, .unset, .unset] []))
      refine Goes.step (fun _ kK => XS.iload X0.here hx rfl (hb hby at_31) rfl kK) ?_
      show Goes pP eE bB _ (s₁.setTop (mkF mM 33 #[.val (.int p1), .val (.int p2), .val (.int p3), .val (.int p4), .val (.int p5), .val (.int p6), .val (.int (0 : Int32)), .val (.int (2 : Int32)), .unset, .unset, .unset, .unset] [(.int (2 : Int32))]))
      obtain ⟨T_116, h_116, k_116, X_116, e_116, E_116, A_116, M_116, st_116⟩ := newPE X0 hx hZ (hw _ (List.mem_of_getElem? (i := 24) rfl)) e0 (g := (mkF mM 33 #[.val (.int p1), .val (.int p2), .val (.int p3), .val (.int p4), .val (.int p5), .val (.int p6), .val (.int (0 : Int32)), .val (.int (2 : Int32)), .unset, .unset, .unset, .unset] [(.int (2 : Int32))])) rfl (hb hby at_33) rfl (by decide) (cap := 2) (by decide) (by decide) (by decide) (by decide) (ad := "[B") rfl
      obtain ⟨b_116, g_116⟩ : ∃ z, z = h0.size := ⟨_, rfl⟩
      rw [← g_116] at A_116 M_116 st_116
      have u_117 : n0 ≤ b_116 := Nat.le_trans Z0 (Nat.le_of_eq g_116.symm)
      have u_118 : Afn Z h_116 b_116 .byte 2 (fun _ => (.int (0 : Int32))) := Afn.new (n := 2) A_116 (by decide)
      refine Goes.step st_116 ?_
      show Goes pP eE bB _ (T_116.setTop (mkF mM 35 #[.val (.int p1), .val (.int p2), .val (.int p3), .val (.int p4), .val (.int p5), .val (.int p6), .val (.int (0 : Int32)), .val (.int (2 : Int32)), .unset, .unset, .unset, .unset] [(.ref b_116)]))
      refine Goes.step (fun _ kK => XS.astore X_116.here hx rfl (hb hby at_35) rfl rfl (l' := #[.val (.int p1), .val (.int p2), .val (.int p3), .val (.int p4), .val (.int p5), .val (.int p6), .val (.int (0 : Int32)), .val (.int (2 : Int32)), .val (.ref b_116), .unset, .unset, .unset]) rfl kK) ?_
      show Goes pP eE bB _ (T_116.setTop (mkF mM 37 #[.val (.int p1), .val (.int p2), .val (.int p3), .val (.int p4), .val (.int p5), .val (.int p6), .val (.int (0 : Int32)), .val (.int (2 : Int32)), .val (.ref b_116), .unset, .unset, .unset] []))
      refine Goes.step (fun _ kK => XS.iload X_116.here hx rfl (hb hby at_37) rfl kK) ?_
      show Goes pP eE bB _ (T_116.setTop (mkF mM 39 #[.val (.int p1), .val (.int p2), .val (.int p3), .val (.int p4), .val (.int p5), .val (.int p6), .val (.int (0 : Int32)), .val (.int (2 : Int32)), .val (.ref b_116), .unset, .unset, .unset] [(.int (0 : Int32))]))
      refine Goes.step (fun _ kK => XS.ifNo X_116.here hx rfl (hb hby at_39) rfl ((if0 _ _).trans (teq (by decide)).2) kK) ?_
      show Goes pP eE bB _ (T_116.setTop (mkF mM 42 #[.val (.int p1), .val (.int p2), .val (.int p3), .val (.int p4), .val (.int p5), .val (.int p6), .val (.int (0 : Int32)), .val (.int (2 : Int32)), .val (.ref b_116), .unset, .unset, .unset] []))
      refine Goes.step (fun _ kK => XS.iload X_116.here hx rfl (hb hby at_42) rfl kK) ?_
      show Goes pP eE bB _ (T_116.setTop (mkF mM 44 #[.val (.int p1), .val (.int p2), .val (.int p3), .val (.int p4), .val (.int p5), .val (.int p6), .val (.int (0 : Int32)), .val (.int (2 : Int32)), .val (.ref b_116), .unset, .unset, .unset] [(.int (2 : Int32))]))
      refine Goes.step (fun _ kK => XS.ifNo X_116.here hx rfl (hb hby at_44) rfl ((if0 _ _).trans (tlt (by decide)).2.2.2) kK) ?_
      show Goes pP eE bB _ (T_116.setTop (mkF mM 47 #[.val (.int p1), .val (.int p2), .val (.int p3), .val (.int p4), .val (.int p5), .val (.int p6), .val (.int (0 : Int32)), .val (.int (2 : Int32)), .val (.ref b_116), .unset, .unset, .unset] []))
      refine Goes.step (fun _ kK => XS.aload X_116.here hx rfl (hb hby at_47) rfl rfl kK) ?_
      show Goes pP eE bB _ (T_116.setTop (mkF mM 49 #[.val (.int p1), .val (.int p2), .val (.int p3), .val (.int p4), .val (.int p5), .val (.int p6), .val (.int (0 : Int32)), .val (.int (2 : Int32)), .val (.ref b_116), .unset, .unset, .unset] [(.ref b_116)]))
      refine Goes.step (fun _ kK => XS.iconst X_116.here hx rfl (hb hby at_49) kK) ?_
      show Goes pP eE bB _ (T_116.setTop (mkF mM 50 #[.val (.int p1), .val (.int p2), .val (.int p3), .val (.int p4), .val (.int p5), .val (.int p6), .val (.int (0 : Int32)), .val (.int (2 : Int32)), .val (.ref b_116), .unset, .unset, .unset] [(.int (0 : Int32)), (.ref b_116)]))
      refine Goes.step (fun _ kK => XS.iloadN X_116.here hx rfl (hb hby at_50) rfl kK) ?_
      show Goes pP eE bB _ (T_116.setTop (mkF mM 51 #[.val (.int p1), .val (.int p2), .val (.int p3), .val (.int p4), .val (.int p5), .val (.int p6), .val (.int (0 : Int32)), .val (.int (2 : Int32)), .val (.ref b_116), .unset, .unset, .unset] [(.int p2), (.int (0 : Int32)), (.ref b_116)]))
      refine Goes.step (fun _ kK => XS.i2b X_116.here hx rfl (hb hby at_51) rfl kK) ?_
      show Goes pP eE bB _ (T_116.setTop (mkF mM 52 #[.val (.int p1), .val (.int p2), .val (.int p3), .val (.int p4), .val (.int p5), .val (.int p6), .val (.int (0 : Int32)), .val (.int (2 : Int32)), .val (.ref b_116), .unset, .unset, .unset] [(.int (p2.toInt8.toInt32)), (.int (0 : Int32)), (.ref b_116)]))
      refine Goes.bastore X_116 hx hZ e_116 u_118 (i := 0) (by decide) (by decide) (g := (mkF mM 52 #[.val (.int p1), .val (.int p2), .val (.int p3), .val (.int p4), .val (.int p5), .val (.int p6), .val (.int (0 : Int32)), .val (.int (2 : Int32)), .val (.ref b_116), .unset, .unset, .unset] [(.int (p2.toInt8.toInt32)), (.int (0 : Int32)), (.ref b_116)])) rfl rfl (hb hby at_52) ?_
      intro T_119 h_119 X_119 e_119 W_119 A_119
      have N_119 := Fr.snoc X_119 N0 u_117
      show Goes pP eE bB _ (T_119.setTop (mkF mM 53 #[.val (.int p1), .val (.int p2), .val (.int p3), .val (.int p4), .val (.int p5), .val (.int p6), .val (.int (0 : Int32)), .val (.int (2 : Int32)), .val (.ref b_116), .unset, .unset, .unset] []))
      refine Goes.step (fun _ kK => XS.iload X_119.here hx rfl (hb hby at_53) rfl kK) ?_
      show Goes pP eE bB _ (T_119.setTop (mkF mM 55 #[.val (.int p1), .val (.int p2), .val (.int p3), .val (.int p4), .val (.int p5), .val (.int p6), .val (.int (0 : Int32)), .val (.int (2 : Int32)), .val (.ref b_116), .unset, .unset, .unset] [(.int (2 : Int32))]))
      refine Goes.step (fun _ kK => XS.iconst X_119.here hx rfl (hb hby at_55) kK) ?_
      show Goes pP eE bB _ (T_119.setTop (mkF mM 56 #[.val (.int p1), .val (.int p2), .val (.int p3), .val (.int p4), .val (.int p5), .val (.int p6), .val (.int (0 : Int32)), .val (.int (2 : Int32)), .val (.ref b_116), .unset, .unset, .unset] [(.int (1 : Int32)), (.int (2 : Int32))]))
      refine Goes.step (fun _ kK => XS.icmpNo X_119.here hx rfl (hb hby at_56) rfl (tlt (by decide)).2.2.2 kK) ?_
      show Goes pP eE bB _ (T_119.setTop (mkF mM 59 #[.val (.int p1), .val (.int p2), .val (.int p3), .val (.int p4), .val (.int p5), .val (.int p6), .val (.int (0 : Int32)), .val (.int (2 : Int32)), .val (.ref b_116), .unset, .unset, .unset] []))
      refine Goes.step (fun _ kK => XS.aload X_119.here hx rfl (hb hby at_59) rfl rfl kK) ?_
      show Goes pP eE bB _ (T_119.setTop (mkF mM 61 #[.val (.int p1), .val (.int p2), .val (.int p3), .val (.int p4), .val (.int p5), .val (.int p6), .val (.int (0 : Int32)), .val (.int (2 : Int32)), .val (.ref b_116), .unset, .unset, .unset] [(.ref b_116)]))
      refine Goes.step (fun _ kK => XS.iconst X_119.here hx rfl (hb hby at_61) kK) ?_
      show Goes pP eE bB _ (T_119.setTop (mkF mM 62 #[.val (.int p1), .val (.int p2), .val (.int p3), .val (.int p4), .val (.int p5), .val (.int p6), .val (.int (0 : Int32)), .val (.int (2 : Int32)), .val (.ref b_116), .unset, .unset, .unset] [(.int (1 : Int32)), (.ref b_116)]))
      refine Goes.step (fun _ kK => XS.iloadN X_119.here hx rfl (hb hby at_62) rfl kK) ?_
      show Goes pP eE bB _ (T_119.setTop (mkF mM 63 #[.val (.int p1), .val (.int p2), .val (.int p3), .val (.int p4), .val (.int p5), .val (.int p6), .val (.int (0 : Int32)), .val (.int (2 : Int32)), .val (.ref b_116), .unset, .unset, .unset] [(.int p3), (.int (1 : Int32)), (.ref b_116)]))
      refine Goes.step (fun _ kK => XS.i2b X_119.here hx rfl (hb hby at_63) rfl kK) ?_
      show Goes pP eE bB _ (T_119.setTop (mkF mM 64 #[.val (.int p1), .val (.int p2), .val (.int p3), .val (.int p4), .val (.int p5), .val (.int p6), .val (.int (0 : Int32)), .val (.int (2 : Int32)), .val (.ref b_116), .unset, .unset, .unset] [(.int (p3.toInt8.toInt32)), (.int (1 : Int32)), (.ref b_116)]))
      refine Goes.bastore X_119 hx hZ e_119 A_119 (i := 1) (by decide) (by decide) (g := (mkF mM 64 #[.val (.int p1), .val (.int p2), .val (.int p3), .val (.int p4), .val (.int p5), .val (.int p6), .val (.int (0 : Int32)), .val (.int (2 : Int32)), .val (.ref b_116), .unset, .unset, .unset] [(.int (p3.toInt8.toInt32)), (.int (1 : Int32)), (.ref b_116)])) rfl rfl (hb hby at_64) ?_
      intro T_120 h_120 X_120 e_120 W_120 A_120
      have N_120 := Fr.snoc X_120 N_119 u_117
      show Goes pP eE bB _ (T_120.setTop (mkF mM 65 #[.val (.int p1), .val (.int p2), .val (.int p3), .val (.int p4), .val (.int p5), .val (.int p6), .val (.int (0 : Int32)), .val (.int (2 : Int32)), .val (.ref b_116), .unset, .unset, .unset] []))
      refine Goes.step (fun _ kK => XS.iload X_120.here hx rfl (hb hby at_65) rfl kK) ?_
      show Goes pP eE bB _ (T_120.setTop (mkF mM 67 #[.val (.int p1), .val (.int p2), .val (.int p3), .val (.int p4), .val (.int p5), .val (.int p6), .val (.int (0 : Int32)), .val (.int (2 : Int32)), .val (.ref b_116), .unset, .unset, .unset] [(.int (2 : Int32))]))
      refine Goes.step (fun _ kK => XS.iconst X_120.here hx rfl (hb hby at_67) kK) ?_
      show Goes pP eE bB _ (T_120.setTop (mkF mM 68 #[.val (.int p1), .val (.int p2), .val (.int p3), .val (.int p4), .val (.int p5), .val (.int p6), .val (.int (0 : Int32)), .val (.int (2 : Int32)), .val (.ref b_116), .unset, .unset, .unset] [(.int (2 : Int32)), (.int (2 : Int32))]))
      refine Goes.step (fun _ kK => XS.icmpYes X_120.here hx rfl (pc0 := 68) (pc' := 77) rfl (hb hby at_68) rfl (flt (by decide)).2.2.2 (by decide) (by decide) kK) ?_
      show Goes pP eE bB _ (T_120.setTop (mkF mM 77 #[.val (.int p1), .val (.int p2), .val (.int p3), .val (.int p4), .val (.int p5), .val (.int p6), .val (.int (0 : Int32)), .val (.int (2 : Int32)), .val (.ref b_116), .unset, .unset, .unset] []))
      refine Goes.step (fun _ kK => XS.iload X_120.here hx rfl (hb hby at_77) rfl kK) ?_
      show Goes pP eE bB _ (T_120.setTop (mkF mM 79 #[.val (.int p1), .val (.int p2), .val (.int p3), .val (.int p4), .val (.int p5), .val (.int p6), .val (.int (0 : Int32)), .val (.int (2 : Int32)), .val (.ref b_116), .unset, .unset, .unset] [(.int (2 : Int32))]))
      refine Goes.step (fun _ kK => XS.iconst X_120.here hx rfl (hb hby at_79) kK) ?_
      show Goes pP eE bB _ (T_120.setTop (mkF mM 80 #[.val (.int p1), .val (.int p2), .val (.int p3), .val (.int p4), .val (.int p5), .val (.int p6), .val (.int (0 : Int32)), .val (.int (2 : Int32)), .val (.ref b_116), .unset, .unset, .unset] [(.int (3 : Int32)), (.int (2 : Int32))]))
      refine Goes.step (fun _ kK => XS.icmpYes X_120.here hx rfl (pc0 := 80) (pc' := 90) rfl (hb hby at_80) rfl (flt (by decide)).2.2.2 (by decide) (by decide) kK) ?_
      show Goes pP eE bB _ (T_120.setTop (mkF mM 90 #[.val (.int p1), .val (.int p2), .val (.int p3), .val (.int p4), .val (.int p5), .val (.int p6), .val (.int (0 : Int32)), .val (.int (2 : Int32)), .val (.ref b_116), .unset, .unset, .unset] []))
      have u_121 : Afn Z h_120 b_116 .byte 2 (own_f p2 p3 p4 p5) := (A_120).congr (f' := own_f p2 p3 p4 p5) (fun i hi => by
        obtain rfl | rfl : i = 0 ∨ i = 1 := by omega
        all_goals simp [own_f])
      show Goes pP eE bB _ (T_120.setTop (mkF mM 90 #[.val (.int p1), .val (.int p2), .val (.int p3), .val (.int p4), .val (.int p5), .val (.int p6), .val (.int (0 : Int32)), .val (.int (2 : Int32)), .val (.ref b_116), .unset, .unset, .unset] []))
      obtain ⟨T_122, h_122, X_122, e_122, E_122, A_122, D_122, -, st_122⟩ := newO X_120 hx hZ hown (hw _ (List.mem_of_getElem? (i := 1) rfl)) (hw _ (List.mem_of_getElem? (i := 2) rfl)) (hw _ (List.mem_of_getElem? (i := 3) rfl)) e_120 (g := (mkF mM 90 #[.val (.int p1), .val (.int p2), .val (.int p3), .val (.int p4), .val (.int p5), .val (.int p6), .val (.int (0 : Int32)), .val (.int (2 : Int32)), .val (.ref b_116), .unset, .unset, .unset] [])) rfl (hb hby at_90) (by decide) (by decide)
      obtain ⟨b_122, g_122⟩ : ∃ z, z = h_120.size := ⟨_, rfl⟩
      rw [← g_122] at A_122 D_122 st_122
      have u_123 : b_116 < b_122 := Nat.lt_of_lt_of_le (u_121).lt (Nat.le_of_eq g_122.symm)
      have u_124 := Nat.le_trans Z0 E_116.1
      have u_125 := Nat.le_trans u_124 (Keep.of_wr W_119).1
      have u_126 := Nat.le_trans u_125 (Keep.of_wr W_120).1
      have u_127 : n0 ≤ b_122 := Nat.le_trans u_126 (Nat.le_of_eq g_122.symm)
      have u_128 : Fld Z h_122 b_122 "com/example/anchorline/anchorline/tcap/Dialogue" "peer" "Lcom/example/anchorline/anchorline/sccp/SccpAddress;" .null := D_122 (Or.inr (hw _ (List.mem_of_getElem? (i := 14) rfl))) (ty := (.object "com/example/anchorline/anchorline/sccp/SccpAddress")) (by decide)
      have u_129 : Fld Z h_122 b_122 "com/example/anchorline/anchorline/tcap/Dialogue" "applicationContext" "[B" .null := D_122 (Or.inr (hw _ (List.mem_of_getElem? (i := 16) rfl))) (ty := (.array .byte)) (by decide)
      have u_130 : Fld Z h_122 b_122 "com/example/anchorline/anchorline/tcap/Dialogue" "state" "Lcom/example/anchorline/anchorline/tcap/Dialogue$State;" .null := D_122 (Or.inl (hw _ (List.mem_of_getElem? (i := 18) rfl))) (ty := (.object "com/example/anchorline/anchorline/tcap/Dialogue$State")) (by decide)
      refine Goes.step st_122 ?_
      show Goes pP eE bB _ (T_122.setTop (mkF mM 93 #[.val (.int p1), .val (.int p2), .val (.int p3), .val (.int p4), .val (.int p5), .val (.int p6), .val (.int (0 : Int32)), .val (.int (2 : Int32)), .val (.ref b_116), .unset, .unset, .unset] [(.ref b_122)]))
      refine Goes.step (fun _ kK => XS.dup X_122.here hx rfl (hb hby at_93) rfl rfl kK) ?_
      show Goes pP eE bB _ (T_122.setTop (mkF mM 94 #[.val (.int p1), .val (.int p2), .val (.int p3), .val (.int p4), .val (.int p5), .val (.int p6), .val (.int (0 : Int32)), .val (.int (2 : Int32)), .val (.ref b_116), .unset, .unset, .unset] [(.ref b_122), (.ref b_122)]))
      refine Goes.step (fun _ kK => XS.aconstNull X_122.here hx rfl (hb hby at_94) kK) ?_
      show Goes pP eE bB _ (T_122.setTop (mkF mM 95 #[.val (.int p1), .val (.int p2), .val (.int p3), .val (.int p4), .val (.int p5), .val (.int p6), .val (.int (0 : Int32)), .val (.int (2 : Int32)), .val (.ref b_116), .unset, .unset, .unset] [.null, (.ref b_122), (.ref b_122)]))
      refine Goes.step (fun _ kK => XS.aload X_122.here hx rfl (hb hby at_95) rfl rfl kK) ?_
      show Goes pP eE bB _ (T_122.setTop (mkF mM 97 #[.val (.int p1), .val (.int p2), .val (.int p3), .val (.int p4), .val (.int p5), .val (.int p6), .val (.int (0 : Int32)), .val (.int (2 : Int32)), .val (.ref b_116), .unset, .unset, .unset] [(.ref b_116), .null, (.ref b_122), (.ref b_122)]))
      have u_132 := O0.ext E_116
      have u_133 := u_132.wr W_119 u_117
      have u_134 := u_133.wr W_120 u_117
      have u_135 := u_134.ext E_122
      obtain ⟨T_131, X_131, e_131, st_131⟩ := getS2 X_122 hx hZ hown (host := "") (Or.inl (hw _ (List.mem_of_getElem? (i := 4) rfl))) Via.refl e_122 (SI.ext u_135.2) (g := (mkF mM 97 #[.val (.int p1), .val (.int p2), .val (.int p3), .val (.int p4), .val (.int p5), .val (.int p6), .val (.int (0 : Int32)), .val (.int (2 : Int32)), .val (.ref b_116), .unset, .unset, .unset] [(.ref b_116), .null, (.ref b_122), (.ref b_122)])) rfl (hb hby at_97)
      refine Goes.step st_131 ?_
      show Goes pP eE bB _ (T_131.setTop (mkF mM 100 #[.val (.int p1), .val (.int p2), .val (.int p3), .val (.int p4), .val (.int p5), .val (.int p6), .val (.int (0 : Int32)), .val (.int (2 : Int32)), .val (.ref b_116), .unset, .unset, .unset] [(.ref wI), (.ref b_116), .null, (.ref b_122), (.ref b_122)]))
      have u_136 := Nat.le_trans u_126 E_122.1
      refine Goes.callI X_131 hx hZ rfl hown (hw _ (List.mem_of_getElem? (i := 7) rfl)) (hw _ (List.mem_of_getElem? (i := 8) rfl)) (hw _ (List.mem_of_getElem? (i := 9) rfl)) (hw _ (List.mem_of_getElem? (i := 3) rfl)) (by decide) e_131 (rmC l Z a0 hw b_122 b_116 wI h_122 n0 u_136 A_122 u_127 u_128 u_129 u_130) (W := 1) (by decide) (by decide) (by decide) (by decide) (g := (mkF mM 100 #[.val (.int p1), .val (.int p2), .val (.int p3), .val (.int p4), .val (.int p5), .val (.int p6), .val (.int (0 : Int32)), .val (.int (2 : Int32)), .val (.ref b_116), .unset, .unset, .unset] [(.ref wI), (.ref b_116), .null, (.ref b_122), (.ref b_122)])) rfl (by rw [hml]; rfl) (rest := [(.ref b_122)]) own_pd0 rfl rfl (by show 2 * 0 + _ ≤ _; exact Nat.le_of_eq rfl) (hb hby at_100) ?_
      intro v_137 T_137 L_137 X_137 hQ_137
      generalize e_137 : T_137.heap = h_137 at hQ_137
      obtain ⟨rfl, N_137q, K_137, F_137⟩ := hQ_137
      have N_137 := Fr.app N_120 N_137q
      show Goes pP eE bB _ (T_137.setTop (mkF mM 103 #[.val (.int p1), .val (.int p2), .val (.int p3), .val (.int p4), .val (.int p5), .val (.int p6), .val (.int (0 : Int32)), .val (.int (2 : Int32)), .val (.ref b_116), .unset, .unset, .unset] [(.ref b_122)]))
      refine Goes.step (fun _ kK => XS.astore X_137.here hx rfl (hb hby at_103) rfl rfl (l' := #[.val (.int p1), .val (.int p2), .val (.int p3), .val (.int p4), .val (.int p5), .val (.int p6), .val (.int (0 : Int32)), .val (.int (2 : Int32)), .val (.ref b_116), .val (.ref b_122), .unset, .unset]) rfl kK) ?_
      show Goes pP eE bB _ (T_137.setTop (mkF mM 105 #[.val (.int p1), .val (.int p2), .val (.int p3), .val (.int p4), .val (.int p5), .val (.int p6), .val (.int (0 : Int32)), .val (.int (2 : Int32)), .val (.ref b_116), .val (.ref b_122), .unset, .unset] []))
      refine Goes.step (fun _ kK => XS.aload X_137.here hx rfl (hb hby at_105) rfl rfl kK) ?_
      show Goes pP eE bB _ (T_137.setTop (mkF mM 107 #[.val (.int p1), .val (.int p2), .val (.int p3), .val (.int p4), .val (.int p5), .val (.int p6), .val (.int (0 : Int32)), .val (.int (2 : Int32)), .val (.ref b_116), .val (.ref b_122), .unset, .unset] [(.ref b_122)]))
      have u_138 := Nat.le_trans u_136 K_137.1
      have u_139 := u_121.ext E_122
      have u_140 := u_139.keep K_137 (ninS (Nat.ne_of_lt u_123) nin0)
      have u_141 := M_116.wr W_119
      have u_142 := u_141.wr W_120
      have u_143 := u_142.ext E_122
      have u_144 := u_143.keep K_137
      have u_146 := A_122.keep K_137
      refine Goes.callV X_137 hx hZ hown (hw _ (List.mem_of_getElem? (i := 19) rfl)) (hw _ (List.mem_of_getElem? (i := 20) rfl)) (notFace_of_selects (args := #[]) (mvT hZ (hw _ (List.mem_of_getElem? (i := 22) rfl)))) (hw _ (List.mem_of_getElem? (i := 22) rfl)) (hw _ (List.mem_of_getElem? (i := 21) rfl)) (hw _ (List.mem_of_getElem? (i := 23) rfl)) (hw _ (List.mem_of_getElem? (i := 3) rfl)) (by decide) e_137 u_146 (rmA l Z a0 hw b_122 b_116 h_137 n0 u_138 2 (by decide) _ F_137 u_140 u_144) (W := 0) (by decide) (by decide) (by decide) (by decide) (g := (mkF mM 107 #[.val (.int p1), .val (.int p2), .val (.int p3), .val (.int p4), .val (.int p5), .val (.int p6), .val (.int (0 : Int32)), .val (.int (2 : Int32)), .val (.ref b_116), .val (.ref b_122), .unset, .unset] [(.ref b_122)])) rfl (by rw [hml]; rfl) (rest := []) own_pd1 rfl rfl (by show 2 * 0 + _ ≤ _; exact Nat.le_of_eq rfl) (hb hby at_107) ?_
      intro v_145 T_145 L_145 X_145 hQ_145
      generalize e_145 : T_145.heap = h_145 at hQ_145
      obtain ⟨c_145, rfl, N_145q, E_145, s_145, A_145, M_145⟩ := hQ_145
      have N_145 := Fr.app N_137 N_145q
      have u_147 := Nat.lt_of_lt_of_le (u_121).lt E_122.1
      have u_148 := Nat.lt_of_lt_of_le u_147 K_137.1
      have u_149 : b_116 < c_145 := Nat.lt_of_lt_of_le u_148 s_145
      have u_150 : b_122 < c_145 := Nat.lt_of_lt_of_le (u_146).lt s_145
      have u_151 : n0 ≤ c_145 := Nat.le_trans u_138 s_145
      show Goes pP eE bB _ (T_145.setTop (mkF mM 110 #[.val (.int p1), .val (.int p2), .val (.int p3), .val (.int p4), .val (.int p5), .val (.int p6), .val (.int (0 : Int32)), .val (.int (2 : Int32)), .val (.ref b_116), .val (.ref b_122), .unset, .unset] [(.ref c_145)]))
      refine Goes.step (fun _ kK => XS.astore X_145.here hx rfl (hb hby at_110) rfl rfl (l' := #[.val (.int p1), .val (.int p2), .val (.int p3), .val (.int p4), .val (.int p5), .val (.int p6), .val (.int (0 : Int32)), .val (.int (2 : Int32)), .val (.ref b_116), .val (.ref b_122), .val (.ref c_145), .unset]) rfl kK) ?_
      show Goes pP eE bB _ (T_145.setTop (mkF mM 112 #[.val (.int p1), .val (.int p2), .val (.int p3), .val (.int p4), .val (.int p5), .val (.int p6), .val (.int (0 : Int32)), .val (.int (2 : Int32)), .val (.ref b_116), .val (.ref b_122), .val (.ref c_145), .unset] []))
      refine Goes.step (fun _ kK => XS.iload X_145.here hx rfl (hb hby at_112) rfl kK) ?_
      show Goes pP eE bB _ (T_145.setTop (mkF mM 114 #[.val (.int p1), .val (.int p2), .val (.int p3), .val (.int p4), .val (.int p5), .val (.int p6), .val (.int (0 : Int32)), .val (.int (2 : Int32)), .val (.ref b_116), .val (.ref b_122), .val (.ref c_145), .unset] [(.int (0 : Int32))]))
      refine Goes.step (fun _ kK => XS.ifYes X_145.here hx rfl (pc0 := 114) (pc' := 136) rfl (hb hby at_114) rfl ((if0 _ _).trans (teq (by decide)).1) (by decide) (by decide) kK) ?_
      show Goes pP eE bB _ (T_145.setTop (mkF mM 136 #[.val (.int p1), .val (.int p2), .val (.int p3), .val (.int p4), .val (.int p5), .val (.int p6), .val (.int (0 : Int32)), .val (.int (2 : Int32)), .val (.ref b_116), .val (.ref b_122), .val (.ref c_145), .unset] []))
      refine Goes.step (fun _ kK => XS.aload X_145.here hx rfl (hb hby at_136) rfl rfl kK) ?_
      show Goes pP eE bB _ (T_145.setTop (mkF mM 138 #[.val (.int p1), .val (.int p2), .val (.int p3), .val (.int p4), .val (.int p5), .val (.int p6), .val (.int (0 : Int32)), .val (.int (2 : Int32)), .val (.ref b_116), .val (.ref b_122), .val (.ref c_145), .unset] [(.ref c_145)]))
      refine Goes.step (fun _ kK => XS.ifnullNo X_145.here hx rfl (hb hby at_138) rfl kK) ?_
      show Goes pP eE bB _ (T_145.setTop (mkF mM 141 #[.val (.int p1), .val (.int p2), .val (.int p3), .val (.int p4), .val (.int p5), .val (.int p6), .val (.int (0 : Int32)), .val (.int (2 : Int32)), .val (.ref b_116), .val (.ref b_122), .val (.ref c_145), .unset] []))
      refine Goes.step (fun _ kK => XS.aload X_145.here hx rfl (hb hby at_141) rfl rfl kK) ?_
      show Goes pP eE bB _ (T_145.setTop (mkF mM 143 #[.val (.int p1), .val (.int p2), .val (.int p3), .val (.int p4), .val (.int p5), .val (.int p6), .val (.int (0 : Int32)), .val (.int (2 : Int32)), .val (.ref b_116), .val (.ref b_122), .val (.ref c_145), .unset] [(.ref c_145)]))
      refine Goes.step (fun _ kK => XS.aload X_145.here hx rfl (hb hby at_143) rfl rfl kK) ?_
      show Goes pP eE bB _ (T_145.setTop (mkF mM 145 #[.val (.int p1), .val (.int p2), .val (.int p3), .val (.int p4), .val (.int p5), .val (.int p6), .val (.int (0 : Int32)), .val (.int (2 : Int32)), .val (.ref b_116), .val (.ref b_122), .val (.ref c_145), .unset] [(.ref b_116), (.ref c_145)]))
      refine Goes.step (fun _ kK => Jvm.RoadKit.acmp (g := (mkF mM 145 #[.val (.int p1), .val (.int p2), .val (.int p3), .val (.int p4), .val (.int p5), .val (.int p6), .val (.int (0 : Int32)), .val (.int (2 : Int32)), .val (.ref b_116), .val (.ref b_122), .val (.ref c_145), .unset] [(.ref b_116), (.ref c_145)])) X_145 hx rfl rfl rfl (pc0 := 145) (pc' := 150) (same := false) rfl (hb hby at_145) rfl (decide_eq_false fun q => (Nat.ne_of_gt u_149) (Value.ref.inj q)) (by decide) (by decide) kK) ?_
      show Goes pP eE bB _ (T_145.setTop (mkF mM 150 #[.val (.int p1), .val (.int p2), .val (.int p3), .val (.int p4), .val (.int p5), .val (.int p6), .val (.int (0 : Int32)), .val (.int (2 : Int32)), .val (.ref b_116), .val (.ref b_122), .val (.ref c_145), .unset] []))
      refine Goes.step (fun _ kK => XS.aload X_145.here hx rfl (hb hby at_150) rfl rfl kK) ?_
      show Goes pP eE bB _ (T_145.setTop (mkF mM 152 #[.val (.int p1), .val (.int p2), .val (.int p3), .val (.int p4), .val (.int p5), .val (.int p6), .val (.int (0 : Int32)), .val (.int (2 : Int32)), .val (.ref b_116), .val (.ref b_122), .val (.ref c_145), .unset] [(.ref c_145)]))
      refine Goes.step (fun _ kK => XS.iload X_145.here hx rfl (hb hby at_152) rfl kK) ?_
      show Goes pP eE bB _ (T_145.setTop (mkF mM 154 #[.val (.int p1), .val (.int p2), .val (.int p3), .val (.int p4), .val (.int p5), .val (.int p6), .val (.int (0 : Int32)), .val (.int (2 : Int32)), .val (.ref b_116), .val (.ref b_122), .val (.ref c_145), .unset] [(.int (2 : Int32)), (.ref c_145)]))
      refine Goes.step (fun _ kK => XS.iloadN X_145.here hx rfl (hb hby at_154) rfl kK) ?_
      show Goes pP eE bB _ (T_145.setTop (mkF mM 155 #[.val (.int p1), .val (.int p2), .val (.int p3), .val (.int p4), .val (.int p5), .val (.int p6), .val (.int (0 : Int32)), .val (.int (2 : Int32)), .val (.ref b_116), .val (.ref b_122), .val (.ref c_145), .unset] [(.int p2), (.int (2 : Int32)), (.ref c_145)]))
      refine Goes.step (fun _ kK => XS.iloadN X_145.here hx rfl (hb hby at_155) rfl kK) ?_
      show Goes pP eE bB _ (T_145.setTop (mkF mM 156 #[.val (.int p1), .val (.int p2), .val (.int p3), .val (.int p4), .val (.int p5), .val (.int p6), .val (.int (0 : Int32)), .val (.int (2 : Int32)), .val (.ref b_116), .val (.ref b_122), .val (.ref c_145), .unset] [(.int p3), (.int p2), (.int (2 : Int32)), (.ref c_145)]))
      refine Goes.step (fun _ kK => XS.iloadN X_145.here hx rfl (hb hby at_156) rfl kK) ?_
      show Goes pP eE bB _ (T_145.setTop (mkF mM 157 #[.val (.int p1), .val (.int p2), .val (.int p3), .val (.int p4), .val (.int p5), .val (.int p6), .val (.int (0 : Int32)), .val (.int (2 : Int32)), .val (.ref b_116), .val (.ref b_122), .val (.ref c_145), .unset] [(.int p4), (.int p3), (.int p2), (.int (2 : Int32)), (.ref c_145)]))
      refine Goes.step (fun _ kK => XS.iload X_145.here hx rfl (hb hby at_157) rfl kK) ?_
      show Goes pP eE bB _ (T_145.setTop (mkF mM 159 #[.val (.int p1), .val (.int p2), .val (.int p3), .val (.int p4), .val (.int p5), .val (.int p6), .val (.int (0 : Int32)), .val (.int (2 : Int32)), .val (.ref b_116), .val (.ref b_122), .val (.ref c_145), .unset] [(.int p5), (.int p4), (.int p3), (.int p2), (.int (2 : Int32)), (.ref c_145)]))
      have u_152 := Nat.le_trans u_138 E_145.1
      refine Goes.callS X_145 hx hZ hown (hw _ (List.mem_of_getElem? (i := 34) rfl)) (hw _ (List.mem_of_getElem? (i := 35) rfl)) (hw _ (List.mem_of_getElem? (i := 36) rfl)) (hw _ (List.mem_of_getElem? (i := 37) rfl)) (by decide) e_145 (rmH2 l Z a0 hw c_145 p2 p3 p4 p5 h_145 n0 u_152 A_145) (W := 0) (by decide) (by decide) (by decide) (by decide) (g := (mkF mM 159 #[.val (.int p1), .val (.int p2), .val (.int p3), .val (.int p4), .val (.int p5), .val (.int p6), .val (.int (0 : Int32)), .val (.int (2 : Int32)), .val (.ref b_116), .val (.ref b_122), .val (.ref c_145), .unset] [(.int p5), (.int p4), (.int p3), (.int p2), (.int (2 : Int32)), (.ref c_145)])) rfl (by rw [hml]; rfl) (rest := []) own_pd2 rfl rfl (by show 2 * 0 + _ ≤ _; exact Nat.le_of_eq rfl) (hb hby at_159) ?_
      intro v_153 T_153 L_153 X_153 hQ_153
      obtain ⟨rfl, N_153q, e_153⟩ := hQ_153
      have N_153 := Fr.app N_145 N_153q
      show Goes pP eE bB _ (T_153.setTop (mkF mM 162 #[.val (.int p1), .val (.int p2), .val (.int p3), .val (.int p4), .val (.int p5), .val (.int p6), .val (.int (0 : Int32)), .val (.int (2 : Int32)), .val (.ref b_116), .val (.ref b_122), .val (.ref c_145), .unset] [(.int (1 : Int32))]))
      refine Goes.step (fun _ kK => XS.ifYes X_153.here hx rfl (pc0 := 162) (pc' := 167) rfl (hb hby at_162) rfl ((if0 _ _).trans (feq (by decide)).2) (by decide) (by decide) kK) ?_
      show Goes pP eE bB _ (T_153.setTop (mkF mM 167 #[.val (.int p1), .val (.int p2), .val (.int p3), .val (.int p4), .val (.int p5), .val (.int p6), .val (.int (0 : Int32)), .val (.int (2 : Int32)), .val (.ref b_116), .val (.ref b_122), .val (.ref c_145), .unset] []))
      refine Goes.step (fun _ kK => XS.aload X_153.here hx rfl (hb hby at_167) rfl rfl kK) ?_
      show Goes pP eE bB _ (T_153.setTop (mkF mM 169 #[.val (.int p1), .val (.int p2), .val (.int p3), .val (.int p4), .val (.int p5), .val (.int p6), .val (.int (0 : Int32)), .val (.int (2 : Int32)), .val (.ref b_116), .val (.ref b_122), .val (.ref c_145), .unset] [(.ref b_116)]))
      refine Goes.step (fun _ kK => XS.iload X_153.here hx rfl (hb hby at_169) rfl kK) ?_
      show Goes pP eE bB _ (T_153.setTop (mkF mM 171 #[.val (.int p1), .val (.int p2), .val (.int p3), .val (.int p4), .val (.int p5), .val (.int p6), .val (.int (0 : Int32)), .val (.int (2 : Int32)), .val (.ref b_116), .val (.ref b_122), .val (.ref c_145), .unset] [(.int (2 : Int32)), (.ref b_116)]))
      refine Goes.step (fun _ kK => XS.iloadN X_153.here hx rfl (hb hby at_171) rfl kK) ?_
      show Goes pP eE bB _ (T_153.setTop (mkF mM 172 #[.val (.int p1), .val (.int p2), .val (.int p3), .val (.int p4), .val (.int p5), .val (.int p6), .val (.int (0 : Int32)), .val (.int (2 : Int32)), .val (.ref b_116), .val (.ref b_122), .val (.ref c_145), .unset] [(.int p2), (.int (2 : Int32)), (.ref b_116)]))
      refine Goes.step (fun _ kK => XS.iloadN X_153.here hx rfl (hb hby at_172) rfl kK) ?_
      show Goes pP eE bB _ (T_153.setTop (mkF mM 173 #[.val (.int p1), .val (.int p2), .val (.int p3), .val (.int p4), .val (.int p5), .val (.int p6), .val (.int (0 : Int32)), .val (.int (2 : Int32)), .val (.ref b_116), .val (.ref b_122), .val (.ref c_145), .unset] [(.int p3), (.int p2), (.int (2 : Int32)), (.ref b_116)]))
      refine Goes.step (fun _ kK => XS.iloadN X_153.here hx rfl (hb hby at_173) rfl kK) ?_
      show Goes pP eE bB _ (T_153.setTop (mkF mM 174 #[.val (.int p1), .val (.int p2), .val (.int p3), .val (.int p4), .val (.int p5), .val (.int p6), .val (.int (0 : Int32)), .val (.int (2 : Int32)), .val (.ref b_116), .val (.ref b_122), .val (.ref c_145), .unset] [(.int p4), (.int p3), (.int p2), (.int (2 : Int32)), (.ref b_116)]))
      refine Goes.step (fun _ kK => XS.iload X_153.here hx rfl (hb hby at_174) rfl kK) ?_
      show Goes pP eE bB _ (T_153.setTop (mkF mM 176 #[.val (.int p1), .val (.int p2), .val (.int p3), .val (.int p4), .val (.int p5), .val (.int p6), .val (.int (0 : Int32)), .val (.int (2 : Int32)), .val (.ref b_116), .val (.ref b_122), .val (.ref c_145), .unset] [(.int p5), (.int p4), (.int p3), (.int p2), (.int (2 : Int32)), (.ref b_116)]))
      have u_154 := u_140.ext E_145
      refine Goes.callS X_153 hx hZ hown (hw _ (List.mem_of_getElem? (i := 34) rfl)) (hw _ (List.mem_of_getElem? (i := 35) rfl)) (hw _ (List.mem_of_getElem? (i := 36) rfl)) (hw _ (List.mem_of_getElem? (i := 37) rfl)) (by decide) e_153 (rmH2 l Z a0 hw b_116 p2 p3 p4 p5 h_145 n0 u_152 u_154) (W := 0) (by decide) (by decide) (by decide) (by decide) (g := (mkF mM 176 #[.val (.int p1), .val (.int p2), .val (.int p3), .val (.int p4), .val (.int p5), .val (.int p6), .val (.int (0 : Int32)), .val (.int (2 : Int32)), .val (.ref b_116), .val (.ref b_122), .val (.ref c_145), .unset] [(.int p5), (.int p4), (.int p3), (.int p2), (.int (2 : Int32)), (.ref b_116)])) rfl (by rw [hml]; rfl) (rest := []) own_pd2 rfl rfl (by show 2 * 0 + _ ≤ _; exact Nat.le_of_eq rfl) (hb hby at_176) ?_
      intro v_155 T_155 L_155 X_155 hQ_155
      obtain ⟨rfl, N_155q, e_155⟩ := hQ_155
      have N_155 := Fr.app N_153 N_155q
      show Goes pP eE bB _ (T_155.setTop (mkF mM 179 #[.val (.int p1), .val (.int p2), .val (.int p3), .val (.int p4), .val (.int p5), .val (.int p6), .val (.int (0 : Int32)), .val (.int (2 : Int32)), .val (.ref b_116), .val (.ref b_122), .val (.ref c_145), .unset] [(.int (1 : Int32))]))
      refine Goes.step (fun _ kK => XS.ifYes X_155.here hx rfl (pc0 := 179) (pc' := 184) rfl (hb hby at_179) rfl ((if0 _ _).trans (feq (by decide)).2) (by decide) (by decide) kK) ?_
      show Goes pP eE bB _ (T_155.setTop (mkF mM 184 #[.val (.int p1), .val (.int p2), .val (.int p3), .val (.int p4), .val (.int p5), .val (.int p6), .val (.int (0 : Int32)), .val (.int (2 : Int32)), .val (.ref b_116), .val (.ref b_122), .val (.ref c_145), .unset] []))
      refine Goes.step (fun _ kK => XS.aload X_155.here hx rfl (hb hby at_184) rfl rfl kK) ?_
      show Goes pP eE bB _ (T_155.setTop (mkF mM 186 #[.val (.int p1), .val (.int p2), .val (.int p3), .val (.int p4), .val (.int p5), .val (.int p6), .val (.int (0 : Int32)), .val (.int (2 : Int32)), .val (.ref b_116), .val (.ref b_122), .val (.ref c_145), .unset] [(.ref c_145)]))
      refine Goes.callS X_155 hx hZ hown (hw _ (List.mem_of_getElem? (i := 38) rfl)) (hw _ (List.mem_of_getElem? (i := 39) rfl)) (hw _ (List.mem_of_getElem? (i := 36) rfl)) (hw _ (List.mem_of_getElem? (i := 40) rfl)) (by decide) e_155 (rmB2 l Z a0 hw c_145 p2 p3 p4 p5 h_145 n0 u_152 A_145 u_151) (W := 0) (by decide) (by decide) (by decide) (by decide) (g := (mkF mM 186 #[.val (.int p1), .val (.int p2), .val (.int p3), .val (.int p4), .val (.int p5), .val (.int p6), .val (.int (0 : Int32)), .val (.int (2 : Int32)), .val (.ref b_116), .val (.ref b_122), .val (.ref c_145), .unset] [(.ref c_145)])) rfl (by rw [hml]; rfl) (rest := []) own_pd3 rfl rfl (by show 2 * 0 + _ ≤ _; exact Nat.le_of_eq rfl) (hb hby at_186) ?_
      intro v_156 T_156 L_156 X_156 hQ_156
      generalize e_156 : T_156.heap = h_156 at hQ_156
      obtain ⟨rfl, N_156q, K_156⟩ := hQ_156
      have N_156 := Fr.app N_155 N_156q
      show Goes pP eE bB _ (T_156.setTop (mkF mM 189 #[.val (.int p1), .val (.int p2), .val (.int p3), .val (.int p4), .val (.int p5), .val (.int p6), .val (.int (0 : Int32)), .val (.int (2 : Int32)), .val (.ref b_116), .val (.ref b_122), .val (.ref c_145), .unset] []))
      refine Goes.step (fun _ kK => XS.aload X_156.here hx rfl (hb hby at_189) rfl rfl kK) ?_
      show Goes pP eE bB _ (T_156.setTop (mkF mM 191 #[.val (.int p1), .val (.int p2), .val (.int p3), .val (.int p4), .val (.int p5), .val (.int p6), .val (.int (0 : Int32)), .val (.int (2 : Int32)), .val (.ref b_116), .val (.ref b_122), .val (.ref c_145), .unset] [(.ref b_122)]))
      have u_157 := F_137.ext E_145
      have u_158 := u_157.keep K_156 (ninS (Nat.ne_of_lt u_150) nin0)
      have u_159 := Nat.le_trans u_152 K_156.1
      have u_160 := u_154.keep K_156 (ninS (Nat.ne_of_lt u_149) nin0)
      have u_161 := u_144.ext E_145
      have u_162 := u_161.keep K_156
      have u_164 := u_146.ext E_145
      have u_165 := u_164.keep K_156
      refine Goes.callV X_156 hx hZ hown (hw _ (List.mem_of_getElem? (i := 19) rfl)) (hw _ (List.mem_of_getElem? (i := 20) rfl)) (notFace_of_selects (args := #[]) (mvT hZ (hw _ (List.mem_of_getElem? (i := 22) rfl)))) (hw _ (List.mem_of_getElem? (i := 22) rfl)) (hw _ (List.mem_of_getElem? (i := 21) rfl)) (hw _ (List.mem_of_getElem? (i := 23) rfl)) (hw _ (List.mem_of_getElem? (i := 3) rfl)) (by decide) e_156 u_165 (rmA l Z a0 hw b_122 b_116 h_156 n0 u_159 2 (by decide) _ u_158 u_160 u_162) (W := 0) (by decide) (by decide) (by decide) (by decide) (g := (mkF mM 191 #[.val (.int p1), .val (.int p2), .val (.int p3), .val (.int p4), .val (.int p5), .val (.int p6), .val (.int (0 : Int32)), .val (.int (2 : Int32)), .val (.ref b_116), .val (.ref b_122), .val (.ref c_145), .unset] [(.ref b_122)])) rfl (by rw [hml]; rfl) (rest := []) own_pd1 rfl rfl (by show 2 * 0 + _ ≤ _; exact Nat.le_of_eq rfl) (hb hby at_191) ?_
      intro v_163 T_163 L_163 X_163 hQ_163
      generalize e_163 : T_163.heap = h_163 at hQ_163
      obtain ⟨c_163, rfl, N_163q, E_163, s_163, A_163, M_163⟩ := hQ_163
      have N_163 := Fr.app N_156 N_163q
      have u_166 := Nat.lt_of_lt_of_le u_148 E_145.1
      have u_167 := Nat.lt_of_lt_of_le u_166 K_156.1
      have u_168 : b_116 < c_163 := Nat.lt_of_lt_of_le u_167 s_163
      have u_169 := Nat.lt_of_lt_of_le (u_146).lt E_145.1
      have u_170 := Nat.lt_of_lt_of_le u_169 K_156.1
      have u_171 : b_122 < c_163 := Nat.lt_of_lt_of_le u_170 s_163
      have u_172 := Nat.lt_of_lt_of_le (M_145).lt K_156.1
      have u_173 : c_145 < c_163 := Nat.lt_of_lt_of_le u_172 s_163
      have u_174 : n0 ≤ c_163 := Nat.le_trans u_159 s_163
      show Goes pP eE bB _ (T_163.setTop (mkF mM 194 #[.val (.int p1), .val (.int p2), .val (.int p3), .val (.int p4), .val (.int p5), .val (.int p6), .val (.int (0 : Int32)), .val (.int (2 : Int32)), .val (.ref b_116), .val (.ref b_122), .val (.ref c_145), .unset] [(.ref c_163)]))
      refine Goes.step (fun _ kK => XS.astore X_163.here hx rfl (hb hby at_194) rfl rfl (l' := #[.val (.int p1), .val (.int p2), .val (.int p3), .val (.int p4), .val (.int p5), .val (.int p6), .val (.int (0 : Int32)), .val (.int (2 : Int32)), .val (.ref b_116), .val (.ref b_122), .val (.ref c_145), .val (.ref c_163)]) rfl kK) ?_
      show Goes pP eE bB _ (T_163.setTop (mkF mM 196 #[.val (.int p1), .val (.int p2), .val (.int p3), .val (.int p4), .val (.int p5), .val (.int p6), .val (.int (0 : Int32)), .val (.int (2 : Int32)), .val (.ref b_116), .val (.ref b_122), .val (.ref c_145), .val (.ref c_163)] []))
      refine Goes.step (fun _ kK => XS.aload X_163.here hx rfl (hb hby at_196) rfl rfl kK) ?_
      show Goes pP eE bB _ (T_163.setTop (mkF mM 198 #[.val (.int p1), .val (.int p2), .val (.int p3), .val (.int p4), .val (.int p5), .val (.int p6), .val (.int (0 : Int32)), .val (.int (2 : Int32)), .val (.ref b_116), .val (.ref b_122), .val (.ref c_145), .val (.ref c_163)] [(.ref c_163)]))
      refine Goes.step (fun _ kK => XS.ifnullNo X_163.here hx rfl (hb hby at_198) rfl kK) ?_
      show Goes pP eE bB _ (T_163.setTop (mkF mM 201 #[.val (.int p1), .val (.int p2), .val (.int p3), .val (.int p4), .val (.int p5), .val (.int p6), .val (.int (0 : Int32)), .val (.int (2 : Int32)), .val (.ref b_116), .val (.ref b_122), .val (.ref c_145), .val (.ref c_163)] []))
      refine Goes.step (fun _ kK => XS.aload X_163.here hx rfl (hb hby at_201) rfl rfl kK) ?_
      show Goes pP eE bB _ (T_163.setTop (mkF mM 203 #[.val (.int p1), .val (.int p2), .val (.int p3), .val (.int p4), .val (.int p5), .val (.int p6), .val (.int (0 : Int32)), .val (.int (2 : Int32)), .val (.ref b_116), .val (.ref b_122), .val (.ref c_145), .val (.ref c_163)] [(.ref c_163)]))
      refine Goes.step (fun _ kK => XS.aload X_163.here hx rfl (hb hby at_203) rfl rfl kK) ?_
      show Goes pP eE bB _ (T_163.setTop (mkF mM 205 #[.val (.int p1), .val (.int p2), .val (.int p3), .val (.int p4), .val (.int p5), .val (.int p6), .val (.int (0 : Int32)), .val (.int (2 : Int32)), .val (.ref b_116), .val (.ref b_122), .val (.ref c_145), .val (.ref c_163)] [(.ref b_116), (.ref c_163)]))
      refine Goes.step (fun _ kK => Jvm.RoadKit.acmp (g := (mkF mM 205 #[.val (.int p1), .val (.int p2), .val (.int p3), .val (.int p4), .val (.int p5), .val (.int p6), .val (.int (0 : Int32)), .val (.int (2 : Int32)), .val (.ref b_116), .val (.ref b_122), .val (.ref c_145), .val (.ref c_163)] [(.ref b_116), (.ref c_163)])) X_163 hx rfl rfl rfl (pc0 := 205) (pc' := 208) (same := false) rfl (hb hby at_205) rfl (decide_eq_false fun q => (Nat.ne_of_gt u_168) (Value.ref.inj q)) (by decide) (by decide) kK) ?_
      show Goes pP eE bB _ (T_163.setTop (mkF mM 208 #[.val (.int p1), .val (.int p2), .val (.int p3), .val (.int p4), .val (.int p5), .val (.int p6), .val (.int (0 : Int32)), .val (.int (2 : Int32)), .val (.ref b_116), .val (.ref b_122), .val (.ref c_145), .val (.ref c_163)] []))
      refine Goes.step (fun _ kK => XS.aload X_163.here hx rfl (hb hby at_208) rfl rfl kK) ?_
      show Goes pP eE bB _ (T_163.setTop (mkF mM 210 #[.val (.int p1), .val (.int p2), .val (.int p3), .val (.int p4), .val (.int p5), .val (.int p6), .val (.int (0 : Int32)), .val (.int (2 : Int32)), .val (.ref b_116), .val (.ref b_122), .val (.ref c_145), .val (.ref c_163)] [(.ref c_163)]))
      refine Goes.step (fun _ kK => XS.aload X_163.here hx rfl (hb hby at_210) rfl rfl kK) ?_
      show Goes pP eE bB _ (T_163.setTop (mkF mM 212 #[.val (.int p1), .val (.int p2), .val (.int p3), .val (.int p4), .val (.int p5), .val (.int p6), .val (.int (0 : Int32)), .val (.int (2 : Int32)), .val (.ref b_116), .val (.ref b_122), .val (.ref c_145), .val (.ref c_163)] [(.ref c_145), (.ref c_163)]))
      refine Goes.step (fun _ kK => Jvm.RoadKit.acmp (g := (mkF mM 212 #[.val (.int p1), .val (.int p2), .val (.int p3), .val (.int p4), .val (.int p5), .val (.int p6), .val (.int (0 : Int32)), .val (.int (2 : Int32)), .val (.ref b_116), .val (.ref b_122), .val (.ref c_145), .val (.ref c_163)] [(.ref c_145), (.ref c_163)])) X_163 hx rfl rfl rfl (pc0 := 212) (pc' := 217) (same := false) rfl (hb hby at_212) rfl (decide_eq_false fun q => (Nat.ne_of_gt u_173) (Value.ref.inj q)) (by decide) (by decide) kK) ?_
      show Goes pP eE bB _ (T_163.setTop (mkF mM 217 #[.val (.int p1), .val (.int p2), .val (.int p3), .val (.int p4), .val (.int p5), .val (.int p6), .val (.int (0 : Int32)), .val (.int (2 : Int32)), .val (.ref b_116), .val (.ref b_122), .val (.ref c_145), .val (.ref c_163)] []))
      refine Goes.step (fun _ kK => XS.aload X_163.here hx rfl (hb hby at_217) rfl rfl kK) ?_
      show Goes pP eE bB _ (T_163.setTop (mkF mM 219 #[.val (.int p1), .val (.int p2), .val (.int p3), .val (.int p4), .val (.int p5), .val (.int p6), .val (.int (0 : Int32)), .val (.int (2 : Int32)), .val (.ref b_116), .val (.ref b_122), .val (.ref c_145), .val (.ref c_163)] [(.ref c_163)]))
      refine Goes.step (fun _ kK => XS.iload X_163.here hx rfl (hb hby at_219) rfl kK) ?_
      show Goes pP eE bB _ (T_163.setTop (mkF mM 221 #[.val (.int p1), .val (.int p2), .val (.int p3), .val (.int p4), .val (.int p5), .val (.int p6), .val (.int (0 : Int32)), .val (.int (2 : Int32)), .val (.ref b_116), .val (.ref b_122), .val (.ref c_145), .val (.ref c_163)] [(.int (2 : Int32)), (.ref c_163)]))
      refine Goes.step (fun _ kK => XS.iloadN X_163.here hx rfl (hb hby at_221) rfl kK) ?_
      show Goes pP eE bB _ (T_163.setTop (mkF mM 222 #[.val (.int p1), .val (.int p2), .val (.int p3), .val (.int p4), .val (.int p5), .val (.int p6), .val (.int (0 : Int32)), .val (.int (2 : Int32)), .val (.ref b_116), .val (.ref b_122), .val (.ref c_145), .val (.ref c_163)] [(.int p2), (.int (2 : Int32)), (.ref c_163)]))
      refine Goes.step (fun _ kK => XS.iloadN X_163.here hx rfl (hb hby at_222) rfl kK) ?_
      show Goes pP eE bB _ (T_163.setTop (mkF mM 223 #[.val (.int p1), .val (.int p2), .val (.int p3), .val (.int p4), .val (.int p5), .val (.int p6), .val (.int (0 : Int32)), .val (.int (2 : Int32)), .val (.ref b_116), .val (.ref b_122), .val (.ref c_145), .val (.ref c_163)] [(.int p3), (.int p2), (.int (2 : Int32)), (.ref c_163)]))
      refine Goes.step (fun _ kK => XS.iloadN X_163.here hx rfl (hb hby at_223) rfl kK) ?_
      show Goes pP eE bB _ (T_163.setTop (mkF mM 224 #[.val (.int p1), .val (.int p2), .val (.int p3), .val (.int p4), .val (.int p5), .val (.int p6), .val (.int (0 : Int32)), .val (.int (2 : Int32)), .val (.ref b_116), .val (.ref b_122), .val (.ref c_145), .val (.ref c_163)] [(.int p4), (.int p3), (.int p2), (.int (2 : Int32)), (.ref c_163)]))
      refine Goes.step (fun _ kK => XS.iload X_163.here hx rfl (hb hby at_224) rfl kK) ?_
      show Goes pP eE bB _ (T_163.setTop (mkF mM 226 #[.val (.int p1), .val (.int p2), .val (.int p3), .val (.int p4), .val (.int p5), .val (.int p6), .val (.int (0 : Int32)), .val (.int (2 : Int32)), .val (.ref b_116), .val (.ref b_122), .val (.ref c_145), .val (.ref c_163)] [(.int p5), (.int p4), (.int p3), (.int p2), (.int (2 : Int32)), (.ref c_163)]))
      have u_175 := Nat.le_trans u_159 E_163.1
      refine Goes.callS X_163 hx hZ hown (hw _ (List.mem_of_getElem? (i := 34) rfl)) (hw _ (List.mem_of_getElem? (i := 35) rfl)) (hw _ (List.mem_of_getElem? (i := 36) rfl)) (hw _ (List.mem_of_getElem? (i := 37) rfl)) (by decide) e_163 (rmH2 l Z a0 hw c_163 p2 p3 p4 p5 h_163 n0 u_175 A_163) (W := 0) (by decide) (by decide) (by decide) (by decide) (g := (mkF mM 226 #[.val (.int p1), .val (.int p2), .val (.int p3), .val (.int p4), .val (.int p5), .val (.int p6), .val (.int (0 : Int32)), .val (.int (2 : Int32)), .val (.ref b_116), .val (.ref b_122), .val (.ref c_145), .val (.ref c_163)] [(.int p5), (.int p4), (.int p3), (.int p2), (.int (2 : Int32)), (.ref c_163)])) rfl (by rw [hml]; rfl) (rest := []) own_pd2 rfl rfl (by show 2 * 0 + _ ≤ _; exact Nat.le_of_eq rfl) (hb hby at_226) ?_
      intro v_176 T_176 L_176 X_176 hQ_176
      obtain ⟨rfl, N_176q, e_176⟩ := hQ_176
      have N_176 := Fr.app N_163 N_176q
      show Goes pP eE bB _ (T_176.setTop (mkF mM 229 #[.val (.int p1), .val (.int p2), .val (.int p3), .val (.int p4), .val (.int p5), .val (.int p6), .val (.int (0 : Int32)), .val (.int (2 : Int32)), .val (.ref b_116), .val (.ref b_122), .val (.ref c_145), .val (.ref c_163)] [(.int (1 : Int32))]))
      refine Goes.step (fun _ kK => XS.ifNo X_176.here hx rfl (hb hby at_229) rfl ((if0 _ _).trans (feq (by decide)).1) kK) ?_
      show Goes pP eE bB _ (T_176.setTop (mkF mM 232 #[.val (.int p1), .val (.int p2), .val (.int p3), .val (.int p4), .val (.int p5), .val (.int p6), .val (.int (0 : Int32)), .val (.int (2 : Int32)), .val (.ref b_116), .val (.ref b_122), .val (.ref c_145), .val (.ref c_163)] []))
      refine Goes.step (fun _ kK => XS.aload X_176.here hx rfl (hb hby at_232) rfl rfl kK) ?_
      show Goes pP eE bB _ (T_176.setTop (mkF mM 234 #[.val (.int p1), .val (.int p2), .val (.int p3), .val (.int p4), .val (.int p5), .val (.int p6), .val (.int (0 : Int32)), .val (.int (2 : Int32)), .val (.ref b_116), .val (.ref b_122), .val (.ref c_145), .val (.ref c_163)] [(.ref b_116)]))
      refine Goes.step (fun _ kK => XS.iload X_176.here hx rfl (hb hby at_234) rfl kK) ?_
      show Goes pP eE bB _ (T_176.setTop (mkF mM 236 #[.val (.int p1), .val (.int p2), .val (.int p3), .val (.int p4), .val (.int p5), .val (.int p6), .val (.int (0 : Int32)), .val (.int (2 : Int32)), .val (.ref b_116), .val (.ref b_122), .val (.ref c_145), .val (.ref c_163)] [(.int (2 : Int32)), (.ref b_116)]))
      refine Goes.step (fun _ kK => XS.iloadN X_176.here hx rfl (hb hby at_236) rfl kK) ?_
      show Goes pP eE bB _ (T_176.setTop (mkF mM 237 #[.val (.int p1), .val (.int p2), .val (.int p3), .val (.int p4), .val (.int p5), .val (.int p6), .val (.int (0 : Int32)), .val (.int (2 : Int32)), .val (.ref b_116), .val (.ref b_122), .val (.ref c_145), .val (.ref c_163)] [(.int p2), (.int (2 : Int32)), (.ref b_116)]))
      refine Goes.step (fun _ kK => XS.iloadN X_176.here hx rfl (hb hby at_237) rfl kK) ?_
      show Goes pP eE bB _ (T_176.setTop (mkF mM 238 #[.val (.int p1), .val (.int p2), .val (.int p3), .val (.int p4), .val (.int p5), .val (.int p6), .val (.int (0 : Int32)), .val (.int (2 : Int32)), .val (.ref b_116), .val (.ref b_122), .val (.ref c_145), .val (.ref c_163)] [(.int p3), (.int p2), (.int (2 : Int32)), (.ref b_116)]))
      refine Goes.step (fun _ kK => XS.iloadN X_176.here hx rfl (hb hby at_238) rfl kK) ?_
      show Goes pP eE bB _ (T_176.setTop (mkF mM 239 #[.val (.int p1), .val (.int p2), .val (.int p3), .val (.int p4), .val (.int p5), .val (.int p6), .val (.int (0 : Int32)), .val (.int (2 : Int32)), .val (.ref b_116), .val (.ref b_122), .val (.ref c_145), .val (.ref c_163)] [(.int p4), (.int p3), (.int p2), (.int (2 : Int32)), (.ref b_116)]))
      refine Goes.step (fun _ kK => XS.iload X_176.here hx rfl (hb hby at_239) rfl kK) ?_
      show Goes pP eE bB _ (T_176.setTop (mkF mM 241 #[.val (.int p1), .val (.int p2), .val (.int p3), .val (.int p4), .val (.int p5), .val (.int p6), .val (.int (0 : Int32)), .val (.int (2 : Int32)), .val (.ref b_116), .val (.ref b_122), .val (.ref c_145), .val (.ref c_163)] [(.int p5), (.int p4), (.int p3), (.int p2), (.int (2 : Int32)), (.ref b_116)]))
      have u_177 := u_160.ext E_163
      refine Goes.callS X_176 hx hZ hown (hw _ (List.mem_of_getElem? (i := 34) rfl)) (hw _ (List.mem_of_getElem? (i := 35) rfl)) (hw _ (List.mem_of_getElem? (i := 36) rfl)) (hw _ (List.mem_of_getElem? (i := 37) rfl)) (by decide) e_176 (rmH2 l Z a0 hw b_116 p2 p3 p4 p5 h_163 n0 u_175 u_177) (W := 0) (by decide) (by decide) (by decide) (by decide) (g := (mkF mM 241 #[.val (.int p1), .val (.int p2), .val (.int p3), .val (.int p4), .val (.int p5), .val (.int p6), .val (.int (0 : Int32)), .val (.int (2 : Int32)), .val (.ref b_116), .val (.ref b_122), .val (.ref c_145), .val (.ref c_163)] [(.int p5), (.int p4), (.int p3), (.int p2), (.int (2 : Int32)), (.ref b_116)])) rfl (by rw [hml]; rfl) (rest := []) own_pd2 rfl rfl (by show 2 * 0 + _ ≤ _; exact Nat.le_of_eq rfl) (hb hby at_241) ?_
      intro v_178 T_178 L_178 X_178 hQ_178
      obtain ⟨rfl, N_178q, e_178⟩ := hQ_178
      have N_178 := Fr.app N_176 N_178q
      show Goes pP eE bB _ (T_178.setTop (mkF mM 244 #[.val (.int p1), .val (.int p2), .val (.int p3), .val (.int p4), .val (.int p5), .val (.int p6), .val (.int (0 : Int32)), .val (.int (2 : Int32)), .val (.ref b_116), .val (.ref b_122), .val (.ref c_145), .val (.ref c_163)] [(.int (1 : Int32))]))
      refine Goes.step (fun _ kK => XS.ifNo X_178.here hx rfl (hb hby at_244) rfl ((if0 _ _).trans (feq (by decide)).1) kK) ?_
      show Goes pP eE bB _ (T_178.setTop (mkF mM 247 #[.val (.int p1), .val (.int p2), .val (.int p3), .val (.int p4), .val (.int p5), .val (.int p6), .val (.int (0 : Int32)), .val (.int (2 : Int32)), .val (.ref b_116), .val (.ref b_122), .val (.ref c_145), .val (.ref c_163)] []))
      refine Goes.step (fun _ kK => XS.iconst X_178.here hx rfl (hb hby at_247) kK) ?_
      show Goes pP eE bB _ (T_178.setTop (mkF mM 248 #[.val (.int p1), .val (.int p2), .val (.int p3), .val (.int p4), .val (.int p5), .val (.int p6), .val (.int (0 : Int32)), .val (.int (2 : Int32)), .val (.ref b_116), .val (.ref b_122), .val (.ref c_145), .val (.ref c_163)] [(.int (1 : Int32))]))
      refine Goes.step (fun _ kK => XS.goto X_178.here hx rfl (pc0 := 248) (pc' := 252) rfl (hb hby at_248) (by decide) (by decide) kK) ?_
      show Goes pP eE bB _ (T_178.setTop (mkF mM 252 #[.val (.int p1), .val (.int p2), .val (.int p3), .val (.int p4), .val (.int p5), .val (.int p6), .val (.int (0 : Int32)), .val (.int (2 : Int32)), .val (.ref b_116), .val (.ref b_122), .val (.ref c_145), .val (.ref c_163)] [(.int (1 : Int32))]))
      refine Goes.retN X_178 hx hlk (t := .boolean) hret (by simp) (hb hby at_252) (by decide) (by decide) ?_
      exact ⟨rfl, N_178⟩
    · rw [hl]
      show Goes pP eE bB _ (s₁.setTop (mkF mM 22 #[.val (.int p1), .val (.int p2), .val (.int p3), .val (.int p4), .val (.int p5), .val (.int p6), .val (.int (0 : Int32)), .val (.int (3 : Int32)), .unset, .unset, .unset, .unset] []))
      refine Goes.step (fun _ kK => XS.iload X0.here hx rfl (hb hby at_22) rfl kK) ?_
      show Goes pP eE bB _ (s₁.setTop (mkF mM 24 #[.val (.int p1), .val (.int p2), .val (.int p3), .val (.int p4), .val (.int p5), .val (.int p6), .val (.int (0 : Int32)), .val (.int (3 : Int32)), .unset, .unset, .unset, .unset] [(.int (0 : Int32))]))
      refine Goes.step (fun _ kK => XS.ifYes X0.here hx rfl (pc0 := 24) (pc' := 31) rfl (hb hby at_24) rfl ((if0 _ _).trans (teq (by decide)).1) (by decide) (by decide) kK) ?_
      show Goes pP eE bB _ (s₁.setTop (mkF mM 31 #[.val (.int p1), .val (.int p2), .val (.int p3), .val (.int p4), .val (.int p5), .val (.int p6), .val (.int (0 : Int32)), .val (.int (3 : Int32)), .unset, .unset, .unset, .unset] []))
      refine Goes.step (fun _ kK => XS.iload X0.here hx rfl (hb hby at_31) rfl kK) ?_
      show Goes pP eE bB _ (s₁.setTop (mkF mM 33 #[.val (.int p1), .val (.int p2), .val (.int p3), .val (.int p4), .val (.int p5), .val (.int p6), .val (.int (0 : Int32)), .val (.int (3 : Int32)), .unset, .unset, .unset, .unset] [(.int (3 : Int32))]))
      obtain ⟨T_179, h_179, k_179, X_179, e_179, E_179, A_179, M_179, st_179⟩ := newPE X0 hx hZ (hw _ (List.mem_of_getElem? (i := 24) rfl)) e0 (g := (mkF mM 33 #[.val (.int p1), .val (.int p2), .val (.int p3), .val (.int p4), .val (.int p5), .val (.int p6), .val (.int (0 : Int32)), .val (.int (3 : Int32)), .unset, .unset, .unset, .unset] [(.int (3 : Int32))])) rfl (hb hby at_33) rfl (by decide) (cap := 3) (by decide) (by decide) (by decide) (by decide) (ad := "[B") rfl
      obtain ⟨b_179, g_179⟩ : ∃ z, z = h0.size := ⟨_, rfl⟩
      rw [← g_179] at A_179 M_179 st_179
      have u_180 : n0 ≤ b_179 := Nat.le_trans Z0 (Nat.le_of_eq g_179.symm)
      have u_181 : Afn Z h_179 b_179 .byte 3 (fun _ => (.int (0 : Int32))) := Afn.new (n := 3) A_179 (by decide)
      refine Goes.step st_179 ?_
      show Goes pP eE bB _ (T_179.setTop (mkF mM 35 #[.val (.int p1), .val (.int p2), .val (.int p3), .val (.int p4), .val (.int p5), .val (.int p6), .val (.int (0 : Int32)), .val (.int (3 : Int32)), .unset, .unset, .unset, .unset] [(.ref b_179)]))
      refine Goes.step (fun _ kK => XS.astore X_179.here hx rfl (hb hby at_35) rfl rfl (l' := #[.val (.int p1), .val (.int p2), .val (.int p3), .val (.int p4), .val (.int p5), .val (.int p6), .val (.int (0 : Int32)), .val (.int (3 : Int32)), .val (.ref b_179), .unset, .unset, .unset]) rfl kK) ?_
      show Goes pP eE bB _ (T_179.setTop (mkF mM 37 #[.val (.int p1), .val (.int p2), .val (.int p3), .val (.int p4), .val (.int p5), .val (.int p6), .val (.int (0 : Int32)), .val (.int (3 : Int32)), .val (.ref b_179), .unset, .unset, .unset] []))
      refine Goes.step (fun _ kK => XS.iload X_179.here hx rfl (hb hby at_37) rfl kK) ?_
      show Goes pP eE bB _ (T_179.setTop (mkF mM 39 #[.val (.int p1), .val (.int p2), .val (.int p3), .val (.int p4), .val (.int p5), .val (.int p6), .val (.int (0 : Int32)), .val (.int (3 : Int32)), .val (.ref b_179), .unset, .unset, .unset] [(.int (0 : Int32))]))
      refine Goes.step (fun _ kK => XS.ifNo X_179.here hx rfl (hb hby at_39) rfl ((if0 _ _).trans (teq (by decide)).2) kK) ?_
      show Goes pP eE bB _ (T_179.setTop (mkF mM 42 #[.val (.int p1), .val (.int p2), .val (.int p3), .val (.int p4), .val (.int p5), .val (.int p6), .val (.int (0 : Int32)), .val (.int (3 : Int32)), .val (.ref b_179), .unset, .unset, .unset] []))
      refine Goes.step (fun _ kK => XS.iload X_179.here hx rfl (hb hby at_42) rfl kK) ?_
      show Goes pP eE bB _ (T_179.setTop (mkF mM 44 #[.val (.int p1), .val (.int p2), .val (.int p3), .val (.int p4), .val (.int p5), .val (.int p6), .val (.int (0 : Int32)), .val (.int (3 : Int32)), .val (.ref b_179), .unset, .unset, .unset] [(.int (3 : Int32))]))
      refine Goes.step (fun _ kK => XS.ifNo X_179.here hx rfl (hb hby at_44) rfl ((if0 _ _).trans (tlt (by decide)).2.2.2) kK) ?_
      show Goes pP eE bB _ (T_179.setTop (mkF mM 47 #[.val (.int p1), .val (.int p2), .val (.int p3), .val (.int p4), .val (.int p5), .val (.int p6), .val (.int (0 : Int32)), .val (.int (3 : Int32)), .val (.ref b_179), .unset, .unset, .unset] []))
      refine Goes.step (fun _ kK => XS.aload X_179.here hx rfl (hb hby at_47) rfl rfl kK) ?_
      show Goes pP eE bB _ (T_179.setTop (mkF mM 49 #[.val (.int p1), .val (.int p2), .val (.int p3), .val (.int p4), .val (.int p5), .val (.int p6), .val (.int (0 : Int32)), .val (.int (3 : Int32)), .val (.ref b_179), .unset, .unset, .unset] [(.ref b_179)]))
      refine Goes.step (fun _ kK => XS.iconst X_179.here hx rfl (hb hby at_49) kK) ?_
      show Goes pP eE bB _ (T_179.setTop (mkF mM 50 #[.val (.int p1), .val (.int p2), .val (.int p3), .val (.int p4), .val (.int p5), .val (.int p6), .val (.int (0 : Int32)), .val (.int (3 : Int32)), .val (.ref b_179), .unset, .unset, .unset] [(.int (0 : Int32)), (.ref b_179)]))
      refine Goes.step (fun _ kK => XS.iloadN X_179.here hx rfl (hb hby at_50) rfl kK) ?_
      show Goes pP eE bB _ (T_179.setTop (mkF mM 51 #[.val (.int p1), .val (.int p2), .val (.int p3), .val (.int p4), .val (.int p5), .val (.int p6), .val (.int (0 : Int32)), .val (.int (3 : Int32)), .val (.ref b_179), .unset, .unset, .unset] [(.int p2), (.int (0 : Int32)), (.ref b_179)]))
      refine Goes.step (fun _ kK => XS.i2b X_179.here hx rfl (hb hby at_51) rfl kK) ?_
      show Goes pP eE bB _ (T_179.setTop (mkF mM 52 #[.val (.int p1), .val (.int p2), .val (.int p3), .val (.int p4), .val (.int p5), .val (.int p6), .val (.int (0 : Int32)), .val (.int (3 : Int32)), .val (.ref b_179), .unset, .unset, .unset] [(.int (p2.toInt8.toInt32)), (.int (0 : Int32)), (.ref b_179)]))
      refine Goes.bastore X_179 hx hZ e_179 u_181 (i := 0) (by decide) (by decide) (g := (mkF mM 52 #[.val (.int p1), .val (.int p2), .val (.int p3), .val (.int p4), .val (.int p5), .val (.int p6), .val (.int (0 : Int32)), .val (.int (3 : Int32)), .val (.ref b_179), .unset, .unset, .unset] [(.int (p2.toInt8.toInt32)), (.int (0 : Int32)), (.ref b_179)])) rfl rfl (hb hby at_52) ?_
      intro T_182 h_182 X_182 e_182 W_182 A_182
      have N_182 := Fr.snoc X_182 N0 u_180
      show Goes pP eE bB _ (T_182.setTop (mkF mM 53 #[.val (.int p1), .val (.int p2), .val (.int p3), .val (.int p4), .val (.int p5), .val (.int p6), .val (.int (0 : Int32)), .val (.int (3 : Int32)), .val (.ref b_179), .unset, .unset, .unset] []))
      refine Goes.step (fun _ kK => XS.iload X_182.here hx rfl (hb hby at_53) rfl kK) ?_
      show Goes pP eE bB _ (T_182.setTop (mkF mM 55 #[.val (.int p1), .val (.int p2), .val (.int p3), .val (.int p4), .val (.int p5), .val (.int p6), .val (.int (0 : Int32)), .val (.int (3 : Int32)), .val (.ref b_179), .unset, .unset, .unset] [(.int (3 : Int32))]))
      refine Goes.step (fun _ kK => XS.iconst X_182.here hx rfl (hb hby at_55) kK) ?_
      show Goes pP eE bB _ (T_182.setTop (mkF mM 56 #[.val (.int p1), .val (.int p2), .val (.int p3), .val (.int p4), .val (.int p5), .val (.int p6), .val (.int (0 : Int32)), .val (.int (3 : Int32)), .val (.ref b_179), .unset, .unset, .unset] [(.int (1 : Int32)), (.int (3 : Int32))]))
      refine Goes.step (fun _ kK => XS.icmpNo X_182.here hx rfl (hb hby at_56) rfl (tlt (by decide)).2.2.2 kK) ?_
      show Goes pP eE bB _ (T_182.setTop (mkF mM 59 #[.val (.int p1), .val (.int p2), .val (.int p3), .val (.int p4), .val (.int p5), .val (.int p6), .val (.int (0 : Int32)), .val (.int (3 : Int32)), .val (.ref b_179), .unset, .unset, .unset] []))
      refine Goes.step (fun _ kK => XS.aload X_182.here hx rfl (hb hby at_59) rfl rfl kK) ?_
      show Goes pP eE bB _ (T_182.setTop (mkF mM 61 #[.val (.int p1), .val (.int p2), .val (.int p3), .val (.int p4), .val (.int p5), .val (.int p6), .val (.int (0 : Int32)), .val (.int (3 : Int32)), .val (.ref b_179), .unset, .unset, .unset] [(.ref b_179)]))
      refine Goes.step (fun _ kK => XS.iconst X_182.here hx rfl (hb hby at_61) kK) ?_
      show Goes pP eE bB _ (T_182.setTop (mkF mM 62 #[.val (.int p1), .val (.int p2), .val (.int p3), .val (.int p4), .val (.int p5), .val (.int p6), .val (.int (0 : Int32)), .val (.int (3 : Int32)), .val (.ref b_179), .unset, .unset, .unset] [(.int (1 : Int32)), (.ref b_179)]))
      refine Goes.step (fun _ kK => XS.iloadN X_182.here hx rfl (hb hby at_62) rfl kK) ?_
      show Goes pP eE bB _ (T_182.setTop (mkF mM 63 #[.val (.int p1), .val (.int p2), .val (.int p3), .val (.int p4), .val (.int p5), .val (.int p6), .val (.int (0 : Int32)), .val (.int (3 : Int32)), .val (.ref b_179), .unset, .unset, .unset] [(.int p3), (.int (1 : Int32)), (.ref b_179)]))
      refine Goes.step (fun _ kK => XS.i2b X_182.here hx rfl (hb hby at_63) rfl kK) ?_
      show Goes pP eE bB _ (T_182.setTop (mkF mM 64 #[.val (.int p1), .val (.int p2), .val (.int p3), .val (.int p4), .val (.int p5), .val (.int p6), .val (.int (0 : Int32)), .val (.int (3 : Int32)), .val (.ref b_179), .unset, .unset, .unset] [(.int (p3.toInt8.toInt32)), (.int (1 : Int32)), (.ref b_179)]))
      refine Goes.bastore X_182 hx hZ e_182 A_182 (i := 1) (by decide) (by decide) (g := (mkF mM 64 #[.val (.int p1), .val (.int p2), .val (.int p3), .val (.int p4), .val (.int p5), .val (.int p6), .val (.int (0 : Int32)), .val (.int (3 : Int32)), .val (.ref b_179), .unset, .unset, .unset] [(.int (p3.toInt8.toInt32)), (.int (1 : Int32)), (.ref b_179)])) rfl rfl (hb hby at_64) ?_
      intro T_183 h_183 X_183 e_183 W_183 A_183
      have N_183 := Fr.snoc X_183 N_182 u_180
      show Goes pP eE bB _ (T_183.setTop (mkF mM 65 #[.val (.int p1), .val (.int p2), .val (.int p3), .val (.int p4), .val (.int p5), .val (.int p6), .val (.int (0 : Int32)), .val (.int (3 : Int32)), .val (.ref b_179), .unset, .unset, .unset] []))
      refine Goes.step (fun _ kK => XS.iload X_183.here hx rfl (hb hby at_65) rfl kK) ?_
      show Goes pP eE bB _ (T_183.setTop (mkF mM 67 #[.val (.int p1), .val (.int p2), .val (.int p3), .val (.int p4), .val (.int p5), .val (.int p6), .val (.int (0 : Int32)), .val (.int (3 : Int32)), .val (.ref b_179), .unset, .unset, .unset] [(.int (3 : Int32))]))
      refine Goes.step (fun _ kK => XS.iconst X_183.here hx rfl (hb hby at_67) kK) ?_
      show Goes pP eE bB _ (T_183.setTop (mkF mM 68 #[.val (.int p1), .val (.int p2), .val (.int p3), .val (.int p4), .val (.int p5), .val (.int p6), .val (.int (0 : Int32)), .val (.int (3 : Int32)), .val (.ref b_179), .unset, .unset, .unset] [(.int (2 : Int32)), (.int (3 : Int32))]))
      refine Goes.step (fun _ kK => XS.icmpNo X_183.here hx rfl (hb hby at_68) rfl (tlt (by decide)).2.2.2 kK) ?_
      show Goes pP eE bB _ (T_183.setTop (mkF mM 71 #[.val (.int p1), .val (.int p2), .val (.int p3), .val (.int p4), .val (.int p5), .val (.int p6), .val (.int (0 : Int32)), .val (.int (3 : Int32)), .val (.ref b_179), .unset, .unset, .unset] []))
      refine Goes.step (fun _ kK => XS.aload X_183.here hx rfl (hb hby at_71) rfl rfl kK) ?_
      show Goes pP eE bB _ (T_183.setTop (mkF mM 73 #[.val (.int p1), .val (.int p2), .val (.int p3), .val (.int p4), .val (.int p5), .val (.int p6), .val (.int (0 : Int32)), .val (.int (3 : Int32)), .val (.ref b_179), .unset, .unset, .unset] [(.ref b_179)]))
      refine Goes.step (fun _ kK => XS.iconst X_183.here hx rfl (hb hby at_73) kK) ?_
      show Goes pP eE bB _ (T_183.setTop (mkF mM 74 #[.val (.int p1), .val (.int p2), .val (.int p3), .val (.int p4), .val (.int p5), .val (.int p6), .val (.int (0 : Int32)), .val (.int (3 : Int32)), .val (.ref b_179), .unset, .unset, .unset] [(.int (2 : Int32)), (.ref b_179)]))
      refine Goes.step (fun _ kK => XS.iloadN X_183.here hx rfl (hb hby at_74) rfl kK) ?_
      show Goes pP eE bB _ (T_183.setTop (mkF mM 75 #[.val (.int p1), .val (.int p2), .val (.int p3), .val (.int p4), .val (.int p5), .val (.int p6), .val (.int (0 : Int32)), .val (.int (3 : Int32)), .val (.ref b_179), .unset, .unset, .unset] [(.int p4), (.int (2 : Int32)), (.ref b_179)]))
      refine Goes.step (fun _ kK => XS.i2b X_183.here hx rfl (hb hby at_75) rfl kK) ?_
      show Goes pP eE bB _ (T_183.setTop (mkF mM 76 #[.val (.int p1), .val (.int p2), .val (.int p3), .val (.int p4), .val (.int p5), .val (.int p6), .val (.int (0 : Int32)), .val (.int (3 : Int32)), .val (.ref b_179), .unset, .unset, .unset] [(.int (p4.toInt8.toInt32)), (.int (2 : Int32)), (.ref b_179)]))
      refine Goes.bastore X_183 hx hZ e_183 A_183 (i := 2) (by decide) (by decide) (g := (mkF mM 76 #[.val (.int p1), .val (.int p2), .val (.int p3), .val (.int p4), .val (.int p5), .val (.int p6), .val (.int (0 : Int32)), .val (.int (3 : Int32)), .val (.ref b_179), .unset, .unset, .unset] [(.int (p4.toInt8.toInt32)), (.int (2 : Int32)), (.ref b_179)])) rfl rfl (hb hby at_76) ?_
      intro T_184 h_184 X_184 e_184 W_184 A_184
      have N_184 := Fr.snoc X_184 N_183 u_180
      show Goes pP eE bB _ (T_184.setTop (mkF mM 77 #[.val (.int p1), .val (.int p2), .val (.int p3), .val (.int p4), .val (.int p5), .val (.int p6), .val (.int (0 : Int32)), .val (.int (3 : Int32)), .val (.ref b_179), .unset, .unset, .unset] []))
      refine Goes.step (fun _ kK => XS.iload X_184.here hx rfl (hb hby at_77) rfl kK) ?_
      show Goes pP eE bB _ (T_184.setTop (mkF mM 79 #[.val (.int p1), .val (.int p2), .val (.int p3), .val (.int p4), .val (.int p5), .val (.int p6), .val (.int (0 : Int32)), .val (.int (3 : Int32)), .val (.ref b_179), .unset, .unset, .unset] [(.int (3 : Int32))]))
      refine Goes.step (fun _ kK => XS.iconst X_184.here hx rfl (hb hby at_79) kK) ?_
      show Goes pP eE bB _ (T_184.setTop (mkF mM 80 #[.val (.int p1), .val (.int p2), .val (.int p3), .val (.int p4), .val (.int p5), .val (.int p6), .val (.int (0 : Int32)), .val (.int (3 : Int32)), .val (.ref b_179), .unset, .unset, .unset] [(.int (3 : Int32)), (.int (3 : Int32))]))
      refine Goes.step (fun _ kK => XS.icmpYes X_184.here hx rfl (pc0 := 80) (pc' := 90) rfl (hb hby at_80) rfl (flt (by decide)).2.2.2 (by decide) (by decide) kK) ?_
      show Goes pP eE bB _ (T_184.setTop (mkF mM 90 #[.val (.int p1), .val (.int p2), .val (.int p3), .val (.int p4), .val (.int p5), .val (.int p6), .val (.int (0 : Int32)), .val (.int (3 : Int32)), .val (.ref b_179), .unset, .unset, .unset] []))
      have u_185 : Afn Z h_184 b_179 .byte 3 (own_f p2 p3 p4 p5) := (A_184).congr (f' := own_f p2 p3 p4 p5) (fun i hi => by
        obtain rfl | rfl | rfl : i = 0 ∨ i = 1 ∨ i = 2 := by omega
        all_goals simp [own_f])
      show Goes pP eE bB _ (T_184.setTop (mkF mM 90 #[.val (.int p1), .val (.int p2), .val (.int p3), .val (.int p4), .val (.int p5), .val (.int p6), .val (.int (0 : Int32)), .val (.int (3 : Int32)), .val (.ref b_179), .unset, .unset, .unset] []))
      obtain ⟨T_186, h_186, X_186, e_186, E_186, A_186, D_186, -, st_186⟩ := newO X_184 hx hZ hown (hw _ (List.mem_of_getElem? (i := 1) rfl)) (hw _ (List.mem_of_getElem? (i := 2) rfl)) (hw _ (List.mem_of_getElem? (i := 3) rfl)) e_184 (g := (mkF mM 90 #[.val (.int p1), .val (.int p2), .val (.int p3), .val (.int p4), .val (.int p5), .val (.int p6), .val (.int (0 : Int32)), .val (.int (3 : Int32)), .val (.ref b_179), .unset, .unset, .unset] [])) rfl (hb hby at_90) (by decide) (by decide)
      obtain ⟨b_186, g_186⟩ : ∃ z, z = h_184.size := ⟨_, rfl⟩
      rw [← g_186] at A_186 D_186 st_186
      have u_187 : b_179 < b_186 := Nat.lt_of_lt_of_le (u_185).lt (Nat.le_of_eq g_186.symm)
      have u_188 := Nat.le_trans Z0 E_179.1
      have u_189 := Nat.le_trans u_188 (Keep.of_wr W_182).1
      have u_190 := Nat.le_trans u_189 (Keep.of_wr W_183).1
      have u_191 := Nat.le_trans u_190 (Keep.of_wr W_184).1
      have u_192 : n0 ≤ b_186 := Nat.le_trans u_191 (Nat.le_of_eq g_186.symm)
      have u_193 : Fld Z h_186 b_186 "com/example/anchorline/anchorline/tcap/Dialogue" "peer" "Lcom/example/anchorline/anchorline/sccp/SccpAddress;" .null := D_186 (Or.inr (hw _ (List.mem_of_getElem? (i := 14) rfl))) (ty := (.object "com/example/anchorline/anchorline/sccp/SccpAddress")) (by decide)
      have u_194 : Fld Z h_186 b_186 "com/example/anchorline/anchorline/tcap/Dialogue" "applicationContext" "[B" .null := D_186 (Or.inr (hw _ (List.mem_of_getElem? (i := 16) rfl))) (ty := (.array .byte)) (by decide)
      have u_195 : Fld Z h_186 b_186 "com/example/anchorline/anchorline/tcap/Dialogue" "state" "Lcom/example/anchorline/anchorline/tcap/Dialogue$State;" .null := D_186 (Or.inl (hw _ (List.mem_of_getElem? (i := 18) rfl))) (ty := (.object "com/example/anchorline/anchorline/tcap/Dialogue$State")) (by decide)
      refine Goes.step st_186 ?_
      show Goes pP eE bB _ (T_186.setTop (mkF mM 93 #[.val (.int p1), .val (.int p2), .val (.int p3), .val (.int p4), .val (.int p5), .val (.int p6), .val (.int (0 : Int32)), .val (.int (3 : Int32)), .val (.ref b_179), .unset, .unset, .unset] [(.ref b_186)]))
      refine Goes.step (fun _ kK => XS.dup X_186.here hx rfl (hb hby at_93) rfl rfl kK) ?_
      show Goes pP eE bB _ (T_186.setTop (mkF mM 94 #[.val (.int p1), .val (.int p2), .val (.int p3), .val (.int p4), .val (.int p5), .val (.int p6), .val (.int (0 : Int32)), .val (.int (3 : Int32)), .val (.ref b_179), .unset, .unset, .unset] [(.ref b_186), (.ref b_186)]))
      refine Goes.step (fun _ kK => XS.aconstNull X_186.here hx rfl (hb hby at_94) kK) ?_
      show Goes pP eE bB _ (T_186.setTop (mkF mM 95 #[.val (.int p1), .val (.int p2), .val (.int p3), .val (.int p4), .val (.int p5), .val (.int p6), .val (.int (0 : Int32)), .val (.int (3 : Int32)), .val (.ref b_179), .unset, .unset, .unset] [.null, (.ref b_186), (.ref b_186)]))
      refine Goes.step (fun _ kK => XS.aload X_186.here hx rfl (hb hby at_95) rfl rfl kK) ?_
      show Goes pP eE bB _ (T_186.setTop (mkF mM 97 #[.val (.int p1), .val (.int p2), .val (.int p3), .val (.int p4), .val (.int p5), .val (.int p6), .val (.int (0 : Int32)), .val (.int (3 : Int32)), .val (.ref b_179), .unset, .unset, .unset] [(.ref b_179), .null, (.ref b_186), (.ref b_186)]))
      have u_197 := O0.ext E_179
      have u_198 := u_197.wr W_182 u_180
      have u_199 := u_198.wr W_183 u_180
      have u_200 := u_199.wr W_184 u_180
      have u_201 := u_200.ext E_186
      obtain ⟨T_196, X_196, e_196, st_196⟩ := getS2 X_186 hx hZ hown (host := "") (Or.inl (hw _ (List.mem_of_getElem? (i := 4) rfl))) Via.refl e_186 (SI.ext u_201.2) (g := (mkF mM 97 #[.val (.int p1), .val (.int p2), .val (.int p3), .val (.int p4), .val (.int p5), .val (.int p6), .val (.int (0 : Int32)), .val (.int (3 : Int32)), .val (.ref b_179), .unset, .unset, .unset] [(.ref b_179), .null, (.ref b_186), (.ref b_186)])) rfl (hb hby at_97)
      refine Goes.step st_196 ?_
      show Goes pP eE bB _ (T_196.setTop (mkF mM 100 #[.val (.int p1), .val (.int p2), .val (.int p3), .val (.int p4), .val (.int p5), .val (.int p6), .val (.int (0 : Int32)), .val (.int (3 : Int32)), .val (.ref b_179), .unset, .unset, .unset] [(.ref wI), (.ref b_179), .null, (.ref b_186), (.ref b_186)]))
      have u_202 := Nat.le_trans u_191 E_186.1
      refine Goes.callI X_196 hx hZ rfl hown (hw _ (List.mem_of_getElem? (i := 7) rfl)) (hw _ (List.mem_of_getElem? (i := 8) rfl)) (hw _ (List.mem_of_getElem? (i := 9) rfl)) (hw _ (List.mem_of_getElem? (i := 3) rfl)) (by decide) e_196 (rmC l Z a0 hw b_186 b_179 wI h_186 n0 u_202 A_186 u_192 u_193 u_194 u_195) (W := 1) (by decide) (by decide) (by decide) (by decide) (g := (mkF mM 100 #[.val (.int p1), .val (.int p2), .val (.int p3), .val (.int p4), .val (.int p5), .val (.int p6), .val (.int (0 : Int32)), .val (.int (3 : Int32)), .val (.ref b_179), .unset, .unset, .unset] [(.ref wI), (.ref b_179), .null, (.ref b_186), (.ref b_186)])) rfl (by rw [hml]; rfl) (rest := [(.ref b_186)]) own_pd0 rfl rfl (by show 2 * 0 + _ ≤ _; exact Nat.le_of_eq rfl) (hb hby at_100) ?_
      intro v_203 T_203 L_203 X_203 hQ_203
      generalize e_203 : T_203.heap = h_203 at hQ_203
      obtain ⟨rfl, N_203q, K_203, F_203⟩ := hQ_203
      have N_203 := Fr.app N_184 N_203q
      show Goes pP eE bB _ (T_203.setTop (mkF mM 103 #[.val (.int p1), .val (.int p2), .val (.int p3), .val (.int p4), .val (.int p5), .val (.int p6), .val (.int (0 : Int32)), .val (.int (3 : Int32)), .val (.ref b_179), .unset, .unset, .unset] [(.ref b_186)]))
      refine Goes.step (fun _ kK => XS.astore X_203.here hx rfl (hb hby at_103) rfl rfl (l' := #[.val (.int p1), .val (.int p2), .val (.int p3), .val (.int p4), .val (.int p5), .val (.int p6), .val (.int (0 : Int32)), .val (.int (3 : Int32)), .val (.ref b_179), .val (.ref b_186), .unset, .unset]) rfl kK) ?_
      show Goes pP eE bB _ (T_203.setTop (mkF mM 105 #[.val (.int p1), .val (.int p2), .val (.int p3), .val (.int p4), .val (.int p5), .val (.int p6), .val (.int (0 : Int32)), .val (.int (3 : Int32)), .val (.ref b_179), .val (.ref b_186), .unset, .unset] []))
      refine Goes.step (fun _ kK => XS.aload X_203.here hx rfl (hb hby at_105) rfl rfl kK) ?_
      show Goes pP eE bB _ (T_203.setTop (mkF mM 107 #[.val (.int p1), .val (.int p2), .val (.int p3), .val (.int p4), .val (.int p5), .val (.int p6), .val (.int (0 : Int32)), .val (.int (3 : Int32)), .val (.ref b_179), .val (.ref b_186), .unset, .unset] [(.ref b_186)]))
      have u_204 := Nat.le_trans u_202 K_203.1
      have u_205 := u_185.ext E_186
      have u_206 := u_205.keep K_203 (ninS (Nat.ne_of_lt u_187) nin0)
      have u_207 := M_179.wr W_182
      have u_208 := u_207.wr W_183
      have u_209 := u_208.wr W_184
      have u_210 := u_209.ext E_186
      have u_211 := u_210.keep K_203
      have u_213 := A_186.keep K_203
      refine Goes.callV X_203 hx hZ hown (hw _ (List.mem_of_getElem? (i := 19) rfl)) (hw _ (List.mem_of_getElem? (i := 20) rfl)) (notFace_of_selects (args := #[]) (mvT hZ (hw _ (List.mem_of_getElem? (i := 22) rfl)))) (hw _ (List.mem_of_getElem? (i := 22) rfl)) (hw _ (List.mem_of_getElem? (i := 21) rfl)) (hw _ (List.mem_of_getElem? (i := 23) rfl)) (hw _ (List.mem_of_getElem? (i := 3) rfl)) (by decide) e_203 u_213 (rmA l Z a0 hw b_186 b_179 h_203 n0 u_204 3 (by decide) _ F_203 u_206 u_211) (W := 0) (by decide) (by decide) (by decide) (by decide) (g := (mkF mM 107 #[.val (.int p1), .val (.int p2), .val (.int p3), .val (.int p4), .val (.int p5), .val (.int p6), .val (.int (0 : Int32)), .val (.int (3 : Int32)), .val (.ref b_179), .val (.ref b_186), .unset, .unset] [(.ref b_186)])) rfl (by rw [hml]; rfl) (rest := []) own_pd1 rfl rfl (by show 2 * 0 + _ ≤ _; exact Nat.le_of_eq rfl) (hb hby at_107) ?_
      intro v_212 T_212 L_212 X_212 hQ_212
      generalize e_212 : T_212.heap = h_212 at hQ_212
      obtain ⟨c_212, rfl, N_212q, E_212, s_212, A_212, M_212⟩ := hQ_212
      have N_212 := Fr.app N_203 N_212q
      have u_214 := Nat.lt_of_lt_of_le (u_185).lt E_186.1
      have u_215 := Nat.lt_of_lt_of_le u_214 K_203.1
      have u_216 : b_179 < c_212 := Nat.lt_of_lt_of_le u_215 s_212
      have u_217 : b_186 < c_212 := Nat.lt_of_lt_of_le (u_213).lt s_212
      have u_218 : n0 ≤ c_212 := Nat.le_trans u_204 s_212
      show Goes pP eE bB _ (T_212.setTop (mkF mM 110 #[.val (.int p1), .val (.int p2), .val (.int p3), .val (.int p4), .val (.int p5), .val (.int p6), .val (.int (0 : Int32)), .val (.int (3 : Int32)), .val (.ref b_179), .val (.ref b_186), .unset, .unset] [(.ref c_212)]))
      refine Goes.step (fun _ kK => XS.astore X_212.here hx rfl (hb hby at_110) rfl rfl (l' := #[.val (.int p1), .val (.int p2), .val (.int p3), .val (.int p4), .val (.int p5), .val (.int p6), .val (.int (0 : Int32)), .val (.int (3 : Int32)), .val (.ref b_179), .val (.ref b_186), .val (.ref c_212), .unset]) rfl kK) ?_
      show Goes pP eE bB _ (T_212.setTop (mkF mM 112 #[.val (.int p1), .val (.int p2), .val (.int p3), .val (.int p4), .val (.int p5), .val (.int p6), .val (.int (0 : Int32)), .val (.int (3 : Int32)), .val (.ref b_179), .val (.ref b_186), .val (.ref c_212), .unset] []))
      refine Goes.step (fun _ kK => XS.iload X_212.here hx rfl (hb hby at_112) rfl kK) ?_
      show Goes pP eE bB _ (T_212.setTop (mkF mM 114 #[.val (.int p1), .val (.int p2), .val (.int p3), .val (.int p4), .val (.int p5), .val (.int p6), .val (.int (0 : Int32)), .val (.int (3 : Int32)), .val (.ref b_179), .val (.ref b_186), .val (.ref c_212), .unset] [(.int (0 : Int32))]))
      refine Goes.step (fun _ kK => XS.ifYes X_212.here hx rfl (pc0 := 114) (pc' := 136) rfl (hb hby at_114) rfl ((if0 _ _).trans (teq (by decide)).1) (by decide) (by decide) kK) ?_
      show Goes pP eE bB _ (T_212.setTop (mkF mM 136 #[.val (.int p1), .val (.int p2), .val (.int p3), .val (.int p4), .val (.int p5), .val (.int p6), .val (.int (0 : Int32)), .val (.int (3 : Int32)), .val (.ref b_179), .val (.ref b_186), .val (.ref c_212), .unset] []))
      refine Goes.step (fun _ kK => XS.aload X_212.here hx rfl (hb hby at_136) rfl rfl kK) ?_
      show Goes pP eE bB _ (T_212.setTop (mkF mM 138 #[.val (.int p1), .val (.int p2), .val (.int p3), .val (.int p4), .val (.int p5), .val (.int p6), .val (.int (0 : Int32)), .val (.int (3 : Int32)), .val (.ref b_179), .val (.ref b_186), .val (.ref c_212), .unset] [(.ref c_212)]))
      refine Goes.step (fun _ kK => XS.ifnullNo X_212.here hx rfl (hb hby at_138) rfl kK) ?_
      show Goes pP eE bB _ (T_212.setTop (mkF mM 141 #[.val (.int p1), .val (.int p2), .val (.int p3), .val (.int p4), .val (.int p5), .val (.int p6), .val (.int (0 : Int32)), .val (.int (3 : Int32)), .val (.ref b_179), .val (.ref b_186), .val (.ref c_212), .unset] []))
      refine Goes.step (fun _ kK => XS.aload X_212.here hx rfl (hb hby at_141) rfl rfl kK) ?_
      show Goes pP eE bB _ (T_212.setTop (mkF mM 143 #[.val (.int p1), .val (.int p2), .val (.int p3), .val (.int p4), .val (.int p5), .val (.int p6), .val (.int (0 : Int32)), .val (.int (3 : Int32)), .val (.ref b_179), .val (.ref b_186), .val (.ref c_212), .unset] [(.ref c_212)]))
      refine Goes.step (fun _ kK => XS.aload X_212.here hx rfl (hb hby at_143) rfl rfl kK) ?_
      show Goes pP eE bB _ (T_212.setTop (mkF mM 145 #[.val (.int p1), .val (.int p2), .val (.int p3), .val (.int p4), .val (.int p5), .val (.int p6), .val (.int (0 : Int32)), .val (.int (3 : Int32)), .val (.ref b_179), .val (.ref b_186), .val (.ref c_212), .unset] [(.ref b_179), (.ref c_212)]))
      refine Goes.step (fun _ kK => Jvm.RoadKit.acmp (g := (mkF mM 145 #[.val (.int p1), .val (.int p2), .val (.int p3), .val (.int p4), .val (.int p5), .val (.int p6), .val (.int (0 : Int32)), .val (.int (3 : Int32)), .val (.ref b_179), .val (.ref b_186), .val (.ref c_212), .unset] [(.ref b_179), (.ref c_212)])) X_212 hx rfl rfl rfl (pc0 := 145) (pc' := 150) (same := false) rfl (hb hby at_145) rfl (decide_eq_false fun q => (Nat.ne_of_gt u_216) (Value.ref.inj q)) (by decide) (by decide) kK) ?_
      show Goes pP eE bB _ (T_212.setTop (mkF mM 150 #[.val (.int p1), .val (.int p2), .val (.int p3), .val (.int p4), .val (.int p5), .val (.int p6), .val (.int (0 : Int32)), .val (.int (3 : Int32)), .val (.ref b_179), .val (.ref b_186), .val (.ref c_212), .unset] []))
      refine Goes.step (fun _ kK => XS.aload X_212.here hx rfl (hb hby at_150) rfl rfl kK) ?_
      show Goes pP eE bB _ (T_212.setTop (mkF mM 152 #[.val (.int p1), .val (.int p2), .val (.int p3), .val (.int p4), .val (.int p5), .val (.int p6), .val (.int (0 : Int32)), .val (.int (3 : Int32)), .val (.ref b_179), .val (.ref b_186), .val (.ref c_212), .unset] [(.ref c_212)]))
      refine Goes.step (fun _ kK => XS.iload X_212.here hx rfl (hb hby at_152) rfl kK) ?_
      show Goes pP eE bB _ (T_212.setTop (mkF mM 154 #[.val (.int p1), .val (.int p2), .val (.int p3), .val (.int p4), .val (.int p5), .val (.int p6), .val (.int (0 : Int32)), .val (.int (3 : Int32)), .val (.ref b_179), .val (.ref b_186), .val (.ref c_212), .unset] [(.int (3 : Int32)), (.ref c_212)]))
      refine Goes.step (fun _ kK => XS.iloadN X_212.here hx rfl (hb hby at_154) rfl kK) ?_
      show Goes pP eE bB _ (T_212.setTop (mkF mM 155 #[.val (.int p1), .val (.int p2), .val (.int p3), .val (.int p4), .val (.int p5), .val (.int p6), .val (.int (0 : Int32)), .val (.int (3 : Int32)), .val (.ref b_179), .val (.ref b_186), .val (.ref c_212), .unset] [(.int p2), (.int (3 : Int32)), (.ref c_212)]))
      refine Goes.step (fun _ kK => XS.iloadN X_212.here hx rfl (hb hby at_155) rfl kK) ?_
      show Goes pP eE bB _ (T_212.setTop (mkF mM 156 #[.val (.int p1), .val (.int p2), .val (.int p3), .val (.int p4), .val (.int p5), .val (.int p6), .val (.int (0 : Int32)), .val (.int (3 : Int32)), .val (.ref b_179), .val (.ref b_186), .val (.ref c_212), .unset] [(.int p3), (.int p2), (.int (3 : Int32)), (.ref c_212)]))
      refine Goes.step (fun _ kK => XS.iloadN X_212.here hx rfl (hb hby at_156) rfl kK) ?_
      show Goes pP eE bB _ (T_212.setTop (mkF mM 157 #[.val (.int p1), .val (.int p2), .val (.int p3), .val (.int p4), .val (.int p5), .val (.int p6), .val (.int (0 : Int32)), .val (.int (3 : Int32)), .val (.ref b_179), .val (.ref b_186), .val (.ref c_212), .unset] [(.int p4), (.int p3), (.int p2), (.int (3 : Int32)), (.ref c_212)]))
      refine Goes.step (fun _ kK => XS.iload X_212.here hx rfl (hb hby at_157) rfl kK) ?_
      show Goes pP eE bB _ (T_212.setTop (mkF mM 159 #[.val (.int p1), .val (.int p2), .val (.int p3), .val (.int p4), .val (.int p5), .val (.int p6), .val (.int (0 : Int32)), .val (.int (3 : Int32)), .val (.ref b_179), .val (.ref b_186), .val (.ref c_212), .unset] [(.int p5), (.int p4), (.int p3), (.int p2), (.int (3 : Int32)), (.ref c_212)]))
      have u_219 := Nat.le_trans u_204 E_212.1
      refine Goes.callS X_212 hx hZ hown (hw _ (List.mem_of_getElem? (i := 34) rfl)) (hw _ (List.mem_of_getElem? (i := 35) rfl)) (hw _ (List.mem_of_getElem? (i := 36) rfl)) (hw _ (List.mem_of_getElem? (i := 37) rfl)) (by decide) e_212 (rmH3 l Z a0 hw c_212 p2 p3 p4 p5 h_212 n0 u_219 A_212) (W := 0) (by decide) (by decide) (by decide) (by decide) (g := (mkF mM 159 #[.val (.int p1), .val (.int p2), .val (.int p3), .val (.int p4), .val (.int p5), .val (.int p6), .val (.int (0 : Int32)), .val (.int (3 : Int32)), .val (.ref b_179), .val (.ref b_186), .val (.ref c_212), .unset] [(.int p5), (.int p4), (.int p3), (.int p2), (.int (3 : Int32)), (.ref c_212)])) rfl (by rw [hml]; rfl) (rest := []) own_pd2 rfl rfl (by show 2 * 0 + _ ≤ _; exact Nat.le_of_eq rfl) (hb hby at_159) ?_
      intro v_220 T_220 L_220 X_220 hQ_220
      obtain ⟨rfl, N_220q, e_220⟩ := hQ_220
      have N_220 := Fr.app N_212 N_220q
      show Goes pP eE bB _ (T_220.setTop (mkF mM 162 #[.val (.int p1), .val (.int p2), .val (.int p3), .val (.int p4), .val (.int p5), .val (.int p6), .val (.int (0 : Int32)), .val (.int (3 : Int32)), .val (.ref b_179), .val (.ref b_186), .val (.ref c_212), .unset] [(.int (1 : Int32))]))
      refine Goes.step (fun _ kK => XS.ifYes X_220.here hx rfl (pc0 := 162) (pc' := 167) rfl (hb hby at_162) rfl ((if0 _ _).trans (feq (by decide)).2) (by decide) (by decide) kK) ?_
      show Goes pP eE bB _ (T_220.setTop (mkF mM 167 #[.val (.int p1), .val (.int p2), .val (.int p3), .val (.int p4), .val (.int p5), .val (.int p6), .val (.int (0 : Int32)), .val (.int (3 : Int32)), .val (.ref b_179), .val (.ref b_186), .val (.ref c_212), .unset] []))
      refine Goes.step (fun _ kK => XS.aload X_220.here hx rfl (hb hby at_167) rfl rfl kK) ?_
      show Goes pP eE bB _ (T_220.setTop (mkF mM 169 #[.val (.int p1), .val (.int p2), .val (.int p3), .val (.int p4), .val (.int p5), .val (.int p6), .val (.int (0 : Int32)), .val (.int (3 : Int32)), .val (.ref b_179), .val (.ref b_186), .val (.ref c_212), .unset] [(.ref b_179)]))
      refine Goes.step (fun _ kK => XS.iload X_220.here hx rfl (hb hby at_169) rfl kK) ?_
      show Goes pP eE bB _ (T_220.setTop (mkF mM 171 #[.val (.int p1), .val (.int p2), .val (.int p3), .val (.int p4), .val (.int p5), .val (.int p6), .val (.int (0 : Int32)), .val (.int (3 : Int32)), .val (.ref b_179), .val (.ref b_186), .val (.ref c_212), .unset] [(.int (3 : Int32)), (.ref b_179)]))
      refine Goes.step (fun _ kK => XS.iloadN X_220.here hx rfl (hb hby at_171) rfl kK) ?_
      show Goes pP eE bB _ (T_220.setTop (mkF mM 172 #[.val (.int p1), .val (.int p2), .val (.int p3), .val (.int p4), .val (.int p5), .val (.int p6), .val (.int (0 : Int32)), .val (.int (3 : Int32)), .val (.ref b_179), .val (.ref b_186), .val (.ref c_212), .unset] [(.int p2), (.int (3 : Int32)), (.ref b_179)]))
      refine Goes.step (fun _ kK => XS.iloadN X_220.here hx rfl (hb hby at_172) rfl kK) ?_
      show Goes pP eE bB _ (T_220.setTop (mkF mM 173 #[.val (.int p1), .val (.int p2), .val (.int p3), .val (.int p4), .val (.int p5), .val (.int p6), .val (.int (0 : Int32)), .val (.int (3 : Int32)), .val (.ref b_179), .val (.ref b_186), .val (.ref c_212), .unset] [(.int p3), (.int p2), (.int (3 : Int32)), (.ref b_179)]))
      refine Goes.step (fun _ kK => XS.iloadN X_220.here hx rfl (hb hby at_173) rfl kK) ?_
      show Goes pP eE bB _ (T_220.setTop (mkF mM 174 #[.val (.int p1), .val (.int p2), .val (.int p3), .val (.int p4), .val (.int p5), .val (.int p6), .val (.int (0 : Int32)), .val (.int (3 : Int32)), .val (.ref b_179), .val (.ref b_186), .val (.ref c_212), .unset] [(.int p4), (.int p3), (.int p2), (.int (3 : Int32)), (.ref b_179)]))
      refine Goes.step (fun _ kK => XS.iload X_220.here hx rfl (hb hby at_174) rfl kK) ?_
      show Goes pP eE bB _ (T_220.setTop (mkF mM 176 #[.val (.int p1), .val (.int p2), .val (.int p3), .val (.int p4), .val (.int p5), .val (.int p6), .val (.int (0 : Int32)), .val (.int (3 : Int32)), .val (.ref b_179), .val (.ref b_186), .val (.ref c_212), .unset] [(.int p5), (.int p4), (.int p3), (.int p2), (.int (3 : Int32)), (.ref b_179)]))
      have u_221 := u_206.ext E_212
      refine Goes.callS X_220 hx hZ hown (hw _ (List.mem_of_getElem? (i := 34) rfl)) (hw _ (List.mem_of_getElem? (i := 35) rfl)) (hw _ (List.mem_of_getElem? (i := 36) rfl)) (hw _ (List.mem_of_getElem? (i := 37) rfl)) (by decide) e_220 (rmH3 l Z a0 hw b_179 p2 p3 p4 p5 h_212 n0 u_219 u_221) (W := 0) (by decide) (by decide) (by decide) (by decide) (g := (mkF mM 176 #[.val (.int p1), .val (.int p2), .val (.int p3), .val (.int p4), .val (.int p5), .val (.int p6), .val (.int (0 : Int32)), .val (.int (3 : Int32)), .val (.ref b_179), .val (.ref b_186), .val (.ref c_212), .unset] [(.int p5), (.int p4), (.int p3), (.int p2), (.int (3 : Int32)), (.ref b_179)])) rfl (by rw [hml]; rfl) (rest := []) own_pd2 rfl rfl (by show 2 * 0 + _ ≤ _; exact Nat.le_of_eq rfl) (hb hby at_176) ?_
      intro v_222 T_222 L_222 X_222 hQ_222
      obtain ⟨rfl, N_222q, e_222⟩ := hQ_222
      have N_222 := Fr.app N_220 N_222q
      show Goes pP eE bB _ (T_222.setTop (mkF mM 179 #[.val (.int p1), .val (.int p2), .val (.int p3), .val (.int p4), .val (.int p5), .val (.int p6), .val (.int (0 : Int32)), .val (.int (3 : Int32)), .val (.ref b_179), .val (.ref b_186), .val (.ref c_212), .unset] [(.int (1 : Int32))]))
      refine Goes.step (fun _ kK => XS.ifYes X_222.here hx rfl (pc0 := 179) (pc' := 184) rfl (hb hby at_179) rfl ((if0 _ _).trans (feq (by decide)).2) (by decide) (by decide) kK) ?_
      show Goes pP eE bB _ (T_222.setTop (mkF mM 184 #[.val (.int p1), .val (.int p2), .val (.int p3), .val (.int p4), .val (.int p5), .val (.int p6), .val (.int (0 : Int32)), .val (.int (3 : Int32)), .val (.ref b_179), .val (.ref b_186), .val (.ref c_212), .unset] []))
      refine Goes.step (fun _ kK => XS.aload X_222.here hx rfl (hb hby at_184) rfl rfl kK) ?_
      show Goes pP eE bB _ (T_222.setTop (mkF mM 186 #[.val (.int p1), .val (.int p2), .val (.int p3), .val (.int p4), .val (.int p5), .val (.int p6), .val (.int (0 : Int32)), .val (.int (3 : Int32)), .val (.ref b_179), .val (.ref b_186), .val (.ref c_212), .unset] [(.ref c_212)]))
      refine Goes.callS X_222 hx hZ hown (hw _ (List.mem_of_getElem? (i := 38) rfl)) (hw _ (List.mem_of_getElem? (i := 39) rfl)) (hw _ (List.mem_of_getElem? (i := 36) rfl)) (hw _ (List.mem_of_getElem? (i := 40) rfl)) (by decide) e_222 (rmB3 l Z a0 hw c_212 p2 p3 p4 p5 h_212 n0 u_219 A_212 u_218) (W := 0) (by decide) (by decide) (by decide) (by decide) (g := (mkF mM 186 #[.val (.int p1), .val (.int p2), .val (.int p3), .val (.int p4), .val (.int p5), .val (.int p6), .val (.int (0 : Int32)), .val (.int (3 : Int32)), .val (.ref b_179), .val (.ref b_186), .val (.ref c_212), .unset] [(.ref c_212)])) rfl (by rw [hml]; rfl) (rest := []) own_pd3 rfl rfl (by show 2 * 0 + _ ≤ _; exact Nat.le_of_eq rfl) (hb hby at_186) ?_
      intro v_223 T_223 L_223 X_223 hQ_223
      generalize e_223 : T_223.heap = h_223 at hQ_223
      obtain ⟨rfl, N_223q, K_223⟩ := hQ_223
      have N_223 := Fr.app N_222 N_223q
      show Goes pP eE bB _ (T_223.setTop (mkF mM 189 #[.val (.int p1), .val (.int p2), .val (.int p3), .val (.int p4), .val (.int p5), .val (.int p6), .val (.int (0 : Int32)), .val (.int (3 : Int32)), .val (.ref b_179), .val (.ref b_186), .val (.ref c_212), .unset] []))
      refine Goes.step (fun _ kK => XS.aload X_223.here hx rfl (hb hby at_189) rfl rfl kK) ?_
      show Goes pP eE bB _ (T_223.setTop (mkF mM 191 #[.val (.int p1), .val (.int p2), .val (.int p3), .val (.int p4), .val (.int p5), .val (.int p6), .val (.int (0 : Int32)), .val (.int (3 : Int32)), .val (.ref b_179), .val (.ref b_186), .val (.ref c_212), .unset] [(.ref b_186)]))
      have u_224 := F_203.ext E_212
      have u_225 := u_224.keep K_223 (ninS (Nat.ne_of_lt u_217) nin0)
      have u_226 := Nat.le_trans u_219 K_223.1
      have u_227 := u_221.keep K_223 (ninS (Nat.ne_of_lt u_216) nin0)
      have u_228 := u_211.ext E_212
      have u_229 := u_228.keep K_223
      have u_231 := u_213.ext E_212
      have u_232 := u_231.keep K_223
      refine Goes.callV X_223 hx hZ hown (hw _ (List.mem_of_getElem? (i := 19) rfl)) (hw _ (List.mem_of_getElem? (i := 20) rfl)) (notFace_of_selects (args := #[]) (mvT hZ (hw _ (List.mem_of_getElem? (i := 22) rfl)))) (hw _ (List.mem_of_getElem? (i := 22) rfl)) (hw _ (List.mem_of_getElem? (i := 21) rfl)) (hw _ (List.mem_of_getElem? (i := 23) rfl)) (hw _ (List.mem_of_getElem? (i := 3) rfl)) (by decide) e_223 u_232 (rmA l Z a0 hw b_186 b_179 h_223 n0 u_226 3 (by decide) _ u_225 u_227 u_229) (W := 0) (by decide) (by decide) (by decide) (by decide) (g := (mkF mM 191 #[.val (.int p1), .val (.int p2), .val (.int p3), .val (.int p4), .val (.int p5), .val (.int p6), .val (.int (0 : Int32)), .val (.int (3 : Int32)), .val (.ref b_179), .val (.ref b_186), .val (.ref c_212), .unset] [(.ref b_186)])) rfl (by rw [hml]; rfl) (rest := []) own_pd1 rfl rfl (by show 2 * 0 + _ ≤ _; exact Nat.le_of_eq rfl) (hb hby at_191) ?_
      intro v_230 T_230 L_230 X_230 hQ_230
      generalize e_230 : T_230.heap = h_230 at hQ_230
      obtain ⟨c_230, rfl, N_230q, E_230, s_230, A_230, M_230⟩ := hQ_230
      have N_230 := Fr.app N_223 N_230q
      have u_233 := Nat.lt_of_lt_of_le u_215 E_212.1
      have u_234 := Nat.lt_of_lt_of_le u_233 K_223.1
      have u_235 : b_179 < c_230 := Nat.lt_of_lt_of_le u_234 s_230
      have u_236 := Nat.lt_of_lt_of_le (u_213).lt E_212.1
      have u_237 := Nat.lt_of_lt_of_le u_236 K_223.1
      have u_238 : b_186 < c_230 := Nat.lt_of_lt_of_le u_237 s_230
      have u_239 := Nat.lt_of_lt_of_le (M_212).lt K_223.1
      have u_240 : c_212 < c_230 := Nat.lt_of_lt_of_le u_239 s_230
      have u_241 : n0 ≤ c_230 := Nat.le_trans u_226 s_230
      show Goes pP eE bB _ (T_230.setTop (mkF mM 194 #[.val (.int p1), .val (.int p2), .val (.int p3), .val (.int p4), .val (.int p5), .val (.int p6), .val (.int (0 : Int32)), .val (.int (3 : Int32)), .val (.ref b_179), .val (.ref b_186), .val (.ref c_212), .unset] [(.ref c_230)]))
      refine Goes.step (fun _ kK => XS.astore X_230.here hx rfl (hb hby at_194) rfl rfl (l' := #[.val (.int p1), .val (.int p2), .val (.int p3), .val (.int p4), .val (.int p5), .val (.int p6), .val (.int (0 : Int32)), .val (.int (3 : Int32)), .val (.ref b_179), .val (.ref b_186), .val (.ref c_212), .val (.ref c_230)]) rfl kK) ?_
      show Goes pP eE bB _ (T_230.setTop (mkF mM 196 #[.val (.int p1), .val (.int p2), .val (.int p3), .val (.int p4), .val (.int p5), .val (.int p6), .val (.int (0 : Int32)), .val (.int (3 : Int32)), .val (.ref b_179), .val (.ref b_186), .val (.ref c_212), .val (.ref c_230)] []))
      refine Goes.step (fun _ kK => XS.aload X_230.here hx rfl (hb hby at_196) rfl rfl kK) ?_
      show Goes pP eE bB _ (T_230.setTop (mkF mM 198 #[.val (.int p1), .val (.int p2), .val (.int p3), .val (.int p4), .val (.int p5), .val (.int p6), .val (.int (0 : Int32)), .val (.int (3 : Int32)), .val (.ref b_179), .val (.ref b_186), .val (.ref c_212), .val (.ref c_230)] [(.ref c_230)]))
      refine Goes.step (fun _ kK => XS.ifnullNo X_230.here hx rfl (hb hby at_198) rfl kK) ?_
      show Goes pP eE bB _ (T_230.setTop (mkF mM 201 #[.val (.int p1), .val (.int p2), .val (.int p3), .val (.int p4), .val (.int p5), .val (.int p6), .val (.int (0 : Int32)), .val (.int (3 : Int32)), .val (.ref b_179), .val (.ref b_186), .val (.ref c_212), .val (.ref c_230)] []))
      refine Goes.step (fun _ kK => XS.aload X_230.here hx rfl (hb hby at_201) rfl rfl kK) ?_
      show Goes pP eE bB _ (T_230.setTop (mkF mM 203 #[.val (.int p1), .val (.int p2), .val (.int p3), .val (.int p4), .val (.int p5), .val (.int p6), .val (.int (0 : Int32)), .val (.int (3 : Int32)), .val (.ref b_179), .val (.ref b_186), .val (.ref c_212), .val (.ref c_230)] [(.ref c_230)]))
      refine Goes.step (fun _ kK => XS.aload X_230.here hx rfl (hb hby at_203) rfl rfl kK) ?_
      show Goes pP eE bB _ (T_230.setTop (mkF mM 205 #[.val (.int p1), .val (.int p2), .val (.int p3), .val (.int p4), .val (.int p5), .val (.int p6), .val (.int (0 : Int32)), .val (.int (3 : Int32)), .val (.ref b_179), .val (.ref b_186), .val (.ref c_212), .val (.ref c_230)] [(.ref b_179), (.ref c_230)]))
      refine Goes.step (fun _ kK => Jvm.RoadKit.acmp (g := (mkF mM 205 #[.val (.int p1), .val (.int p2), .val (.int p3), .val (.int p4), .val (.int p5), .val (.int p6), .val (.int (0 : Int32)), .val (.int (3 : Int32)), .val (.ref b_179), .val (.ref b_186), .val (.ref c_212), .val (.ref c_230)] [(.ref b_179), (.ref c_230)])) X_230 hx rfl rfl rfl (pc0 := 205) (pc' := 208) (same := false) rfl (hb hby at_205) rfl (decide_eq_false fun q => (Nat.ne_of_gt u_235) (Value.ref.inj q)) (by decide) (by decide) kK) ?_
      show Goes pP eE bB _ (T_230.setTop (mkF mM 208 #[.val (.int p1), .val (.int p2), .val (.int p3), .val (.int p4), .val (.int p5), .val (.int p6), .val (.int (0 : Int32)), .val (.int (3 : Int32)), .val (.ref b_179), .val (.ref b_186), .val (.ref c_212), .val (.ref c_230)] []))
      refine Goes.step (fun _ kK => XS.aload X_230.here hx rfl (hb hby at_208) rfl rfl kK) ?_
      show Goes pP eE bB _ (T_230.setTop (mkF mM 210 #[.val (.int p1), .val (.int p2), .val (.int p3), .val (.int p4), .val (.int p5), .val (.int p6), .val (.int (0 : Int32)), .val (.int (3 : Int32)), .val (.ref b_179), .val (.ref b_186), .val (.ref c_212), .val (.ref c_230)] [(.ref c_230)]))
      refine Goes.step (fun _ kK => XS.aload X_230.here hx rfl (hb hby at_210) rfl rfl kK) ?_
      show Goes pP eE bB _ (T_230.setTop (mkF mM 212 #[.val (.int p1), .val (.int p2), .val (.int p3), .val (.int p4), .val (.int p5), .val (.int p6), .val (.int (0 : Int32)), .val (.int (3 : Int32)), .val (.ref b_179), .val (.ref b_186), .val (.ref c_212), .val (.ref c_230)] [(.ref c_212), (.ref c_230)]))
      refine Goes.step (fun _ kK => Jvm.RoadKit.acmp (g := (mkF mM 212 #[.val (.int p1), .val (.int p2), .val (.int p3), .val (.int p4), .val (.int p5), .val (.int p6), .val (.int (0 : Int32)), .val (.int (3 : Int32)), .val (.ref b_179), .val (.ref b_186), .val (.ref c_212), .val (.ref c_230)] [(.ref c_212), (.ref c_230)])) X_230 hx rfl rfl rfl (pc0 := 212) (pc' := 217) (same := false) rfl (hb hby at_212) rfl (decide_eq_false fun q => (Nat.ne_of_gt u_240) (Value.ref.inj q)) (by decide) (by decide) kK) ?_
      show Goes pP eE bB _ (T_230.setTop (mkF mM 217 #[.val (.int p1), .val (.int p2), .val (.int p3), .val (.int p4), .val (.int p5), .val (.int p6), .val (.int (0 : Int32)), .val (.int (3 : Int32)), .val (.ref b_179), .val (.ref b_186), .val (.ref c_212), .val (.ref c_230)] []))
      refine Goes.step (fun _ kK => XS.aload X_230.here hx rfl (hb hby at_217) rfl rfl kK) ?_
      show Goes pP eE bB _ (T_230.setTop (mkF mM 219 #[.val (.int p1), .val (.int p2), .val (.int p3), .val (.int p4), .val (.int p5), .val (.int p6), .val (.int (0 : Int32)), .val (.int (3 : Int32)), .val (.ref b_179), .val (.ref b_186), .val (.ref c_212), .val (.ref c_230)] [(.ref c_230)]))
      refine Goes.step (fun _ kK => XS.iload X_230.here hx rfl (hb hby at_219) rfl kK) ?_
      show Goes pP eE bB _ (T_230.setTop (mkF mM 221 #[.val (.int p1), .val (.int p2), .val (.int p3), .val (.int p4), .val (.int p5), .val (.int p6), .val (.int (0 : Int32)), .val (.int (3 : Int32)), .val (.ref b_179), .val (.ref b_186), .val (.ref c_212), .val (.ref c_230)] [(.int (3 : Int32)), (.ref c_230)]))
      refine Goes.step (fun _ kK => XS.iloadN X_230.here hx rfl (hb hby at_221) rfl kK) ?_
      show Goes pP eE bB _ (T_230.setTop (mkF mM 222 #[.val (.int p1), .val (.int p2), .val (.int p3), .val (.int p4), .val (.int p5), .val (.int p6), .val (.int (0 : Int32)), .val (.int (3 : Int32)), .val (.ref b_179), .val (.ref b_186), .val (.ref c_212), .val (.ref c_230)] [(.int p2), (.int (3 : Int32)), (.ref c_230)]))
      refine Goes.step (fun _ kK => XS.iloadN X_230.here hx rfl (hb hby at_222) rfl kK) ?_
      show Goes pP eE bB _ (T_230.setTop (mkF mM 223 #[.val (.int p1), .val (.int p2), .val (.int p3), .val (.int p4), .val (.int p5), .val (.int p6), .val (.int (0 : Int32)), .val (.int (3 : Int32)), .val (.ref b_179), .val (.ref b_186), .val (.ref c_212), .val (.ref c_230)] [(.int p3), (.int p2), (.int (3 : Int32)), (.ref c_230)]))
      refine Goes.step (fun _ kK => XS.iloadN X_230.here hx rfl (hb hby at_223) rfl kK) ?_
      show Goes pP eE bB _ (T_230.setTop (mkF mM 224 #[.val (.int p1), .val (.int p2), .val (.int p3), .val (.int p4), .val (.int p5), .val (.int p6), .val (.int (0 : Int32)), .val (.int (3 : Int32)), .val (.ref b_179), .val (.ref b_186), .val (.ref c_212), .val (.ref c_230)] [(.int p4), (.int p3), (.int p2), (.int (3 : Int32)), (.ref c_230)]))
      refine Goes.step (fun _ kK => XS.iload X_230.here hx rfl (hb hby at_224) rfl kK) ?_
      show Goes pP eE bB _ (T_230.setTop (mkF mM 226 #[.val (.int p1), .val (.int p2), .val (.int p3), .val (.int p4), .val (.int p5), .val (.int p6), .val (.int (0 : Int32)), .val (.int (3 : Int32)), .val (.ref b_179), .val (.ref b_186), .val (.ref c_212), .val (.ref c_230)] [(.int p5), (.int p4), (.int p3), (.int p2), (.int (3 : Int32)), (.ref c_230)]))
      have u_242 := Nat.le_trans u_226 E_230.1
      refine Goes.callS X_230 hx hZ hown (hw _ (List.mem_of_getElem? (i := 34) rfl)) (hw _ (List.mem_of_getElem? (i := 35) rfl)) (hw _ (List.mem_of_getElem? (i := 36) rfl)) (hw _ (List.mem_of_getElem? (i := 37) rfl)) (by decide) e_230 (rmH3 l Z a0 hw c_230 p2 p3 p4 p5 h_230 n0 u_242 A_230) (W := 0) (by decide) (by decide) (by decide) (by decide) (g := (mkF mM 226 #[.val (.int p1), .val (.int p2), .val (.int p3), .val (.int p4), .val (.int p5), .val (.int p6), .val (.int (0 : Int32)), .val (.int (3 : Int32)), .val (.ref b_179), .val (.ref b_186), .val (.ref c_212), .val (.ref c_230)] [(.int p5), (.int p4), (.int p3), (.int p2), (.int (3 : Int32)), (.ref c_230)])) rfl (by rw [hml]; rfl) (rest := []) own_pd2 rfl rfl (by show 2 * 0 + _ ≤ _; exact Nat.le_of_eq rfl) (hb hby at_226) ?_
      intro v_243 T_243 L_243 X_243 hQ_243
      obtain ⟨rfl, N_243q, e_243⟩ := hQ_243
      have N_243 := Fr.app N_230 N_243q
      show Goes pP eE bB _ (T_243.setTop (mkF mM 229 #[.val (.int p1), .val (.int p2), .val (.int p3), .val (.int p4), .val (.int p5), .val (.int p6), .val (.int (0 : Int32)), .val (.int (3 : Int32)), .val (.ref b_179), .val (.ref b_186), .val (.ref c_212), .val (.ref c_230)] [(.int (1 : Int32))]))
      refine Goes.step (fun _ kK => XS.ifNo X_243.here hx rfl (hb hby at_229) rfl ((if0 _ _).trans (feq (by decide)).1) kK) ?_
      show Goes pP eE bB _ (T_243.setTop (mkF mM 232 #[.val (.int p1), .val (.int p2), .val (.int p3), .val (.int p4), .val (.int p5), .val (.int p6), .val (.int (0 : Int32)), .val (.int (3 : Int32)), .val (.ref b_179), .val (.ref b_186), .val (.ref c_212), .val (.ref c_230)] []))
      refine Goes.step (fun _ kK => XS.aload X_243.here hx rfl (hb hby at_232) rfl rfl kK) ?_
      show Goes pP eE bB _ (T_243.setTop (mkF mM 234 #[.val (.int p1), .val (.int p2), .val (.int p3), .val (.int p4), .val (.int p5), .val (.int p6), .val (.int (0 : Int32)), .val (.int (3 : Int32)), .val (.ref b_179), .val (.ref b_186), .val (.ref c_212), .val (.ref c_230)] [(.ref b_179)]))
      refine Goes.step (fun _ kK => XS.iload X_243.here hx rfl (hb hby at_234) rfl kK) ?_
      show Goes pP eE bB _ (T_243.setTop (mkF mM 236 #[.val (.int p1), .val (.int p2), .val (.int p3), .val (.int p4), .val (.int p5), .val (.int p6), .val (.int (0 : Int32)), .val (.int (3 : Int32)), .val (.ref b_179), .val (.ref b_186), .val (.ref c_212), .val (.ref c_230)] [(.int (3 : Int32)), (.ref b_179)]))
      refine Goes.step (fun _ kK => XS.iloadN X_243.here hx rfl (hb hby at_236) rfl kK) ?_
      show Goes pP eE bB _ (T_243.setTop (mkF mM 237 #[.val (.int p1), .val (.int p2), .val (.int p3), .val (.int p4), .val (.int p5), .val (.int p6), .val (.int (0 : Int32)), .val (.int (3 : Int32)), .val (.ref b_179), .val (.ref b_186), .val (.ref c_212), .val (.ref c_230)] [(.int p2), (.int (3 : Int32)), (.ref b_179)]))
      refine Goes.step (fun _ kK => XS.iloadN X_243.here hx rfl (hb hby at_237) rfl kK) ?_
      show Goes pP eE bB _ (T_243.setTop (mkF mM 238 #[.val (.int p1), .val (.int p2), .val (.int p3), .val (.int p4), .val (.int p5), .val (.int p6), .val (.int (0 : Int32)), .val (.int (3 : Int32)), .val (.ref b_179), .val (.ref b_186), .val (.ref c_212), .val (.ref c_230)] [(.int p3), (.int p2), (.int (3 : Int32)), (.ref b_179)]))
      refine Goes.step (fun _ kK => XS.iloadN X_243.here hx rfl (hb hby at_238) rfl kK) ?_
      show Goes pP eE bB _ (T_243.setTop (mkF mM 239 #[.val (.int p1), .val (.int p2), .val (.int p3), .val (.int p4), .val (.int p5), .val (.int p6), .val (.int (0 : Int32)), .val (.int (3 : Int32)), .val (.ref b_179), .val (.ref b_186), .val (.ref c_212), .val (.ref c_230)] [(.int p4), (.int p3), (.int p2), (.int (3 : Int32)), (.ref b_179)]))
      refine Goes.step (fun _ kK => XS.iload X_243.here hx rfl (hb hby at_239) rfl kK) ?_
      show Goes pP eE bB _ (T_243.setTop (mkF mM 241 #[.val (.int p1), .val (.int p2), .val (.int p3), .val (.int p4), .val (.int p5), .val (.int p6), .val (.int (0 : Int32)), .val (.int (3 : Int32)), .val (.ref b_179), .val (.ref b_186), .val (.ref c_212), .val (.ref c_230)] [(.int p5), (.int p4), (.int p3), (.int p2), (.int (3 : Int32)), (.ref b_179)]))
      have u_244 := u_227.ext E_230
      refine Goes.callS X_243 hx hZ hown (hw _ (List.mem_of_getElem? (i := 34) rfl)) (hw _ (List.mem_of_getElem? (i := 35) rfl)) (hw _ (List.mem_of_getElem? (i := 36) rfl)) (hw _ (List.mem_of_getElem? (i := 37) rfl)) (by decide) e_243 (rmH3 l Z a0 hw b_179 p2 p3 p4 p5 h_230 n0 u_242 u_244) (W := 0) (by decide) (by decide) (by decide) (by decide) (g := (mkF mM 241 #[.val (.int p1), .val (.int p2), .val (.int p3), .val (.int p4), .val (.int p5), .val (.int p6), .val (.int (0 : Int32)), .val (.int (3 : Int32)), .val (.ref b_179), .val (.ref b_186), .val (.ref c_212), .val (.ref c_230)] [(.int p5), (.int p4), (.int p3), (.int p2), (.int (3 : Int32)), (.ref b_179)])) rfl (by rw [hml]; rfl) (rest := []) own_pd2 rfl rfl (by show 2 * 0 + _ ≤ _; exact Nat.le_of_eq rfl) (hb hby at_241) ?_
      intro v_245 T_245 L_245 X_245 hQ_245
      obtain ⟨rfl, N_245q, e_245⟩ := hQ_245
      have N_245 := Fr.app N_243 N_245q
      show Goes pP eE bB _ (T_245.setTop (mkF mM 244 #[.val (.int p1), .val (.int p2), .val (.int p3), .val (.int p4), .val (.int p5), .val (.int p6), .val (.int (0 : Int32)), .val (.int (3 : Int32)), .val (.ref b_179), .val (.ref b_186), .val (.ref c_212), .val (.ref c_230)] [(.int (1 : Int32))]))
      refine Goes.step (fun _ kK => XS.ifNo X_245.here hx rfl (hb hby at_244) rfl ((if0 _ _).trans (feq (by decide)).1) kK) ?_
      show Goes pP eE bB _ (T_245.setTop (mkF mM 247 #[.val (.int p1), .val (.int p2), .val (.int p3), .val (.int p4), .val (.int p5), .val (.int p6), .val (.int (0 : Int32)), .val (.int (3 : Int32)), .val (.ref b_179), .val (.ref b_186), .val (.ref c_212), .val (.ref c_230)] []))
      refine Goes.step (fun _ kK => XS.iconst X_245.here hx rfl (hb hby at_247) kK) ?_
      show Goes pP eE bB _ (T_245.setTop (mkF mM 248 #[.val (.int p1), .val (.int p2), .val (.int p3), .val (.int p4), .val (.int p5), .val (.int p6), .val (.int (0 : Int32)), .val (.int (3 : Int32)), .val (.ref b_179), .val (.ref b_186), .val (.ref c_212), .val (.ref c_230)] [(.int (1 : Int32))]))
      refine Goes.step (fun _ kK => XS.goto X_245.here hx rfl (pc0 := 248) (pc' := 252) rfl (hb hby at_248) (by decide) (by decide) kK) ?_
      show Goes pP eE bB _ (T_245.setTop (mkF mM 252 #[.val (.int p1), .val (.int p2), .val (.int p3), .val (.int p4), .val (.int p5), .val (.int p6), .val (.int (0 : Int32)), .val (.int (3 : Int32)), .val (.ref b_179), .val (.ref b_186), .val (.ref c_212), .val (.ref c_230)] [(.int (1 : Int32))]))
      refine Goes.retN X_245 hx hlk (t := .boolean) hret (by simp) (hb hby at_252) (by decide) (by decide) ?_
      exact ⟨rfl, N_245⟩
    · rw [hl]
      show Goes pP eE bB _ (s₁.setTop (mkF mM 22 #[.val (.int p1), .val (.int p2), .val (.int p3), .val (.int p4), .val (.int p5), .val (.int p6), .val (.int (0 : Int32)), .val (.int (4 : Int32)), .unset, .unset, .unset, .unset] []))
      refine Goes.step (fun _ kK => XS.iload X0.here hx rfl (hb hby at_22) rfl kK) ?_
      show Goes pP eE bB _ (s₁.setTop (mkF mM 24 #[.val (.int p1), .val (.int p2), .val (.int p3), .val (.int p4), .val (.int p5), .val (.int p6), .val (.int (0 : Int32)), .val (.int (4 : Int32)), .unset, .unset, .unset, .unset] [(.int (0 : Int32))]))
      refine Goes.step (fun _ kK => XS.ifYes X0.here hx rfl (pc0 := 24) (pc' := 31) rfl (hb hby at_24) rfl ((if0 _ _).trans (teq (by decide)).1) (by decide) (by decide) kK) ?_
      show Goes pP eE bB _ (s₁.setTop (mkF mM 31 #[.val (.int p1), .val (.int p2), .val (.int p3), .val (.int p4), .val (.int p5), .val (.int p6), .val (.int (0 : Int32)), .val (.int (4 : Int32)), .unset, .unset, .unset, .unset] []))
      refine Goes.step (fun _ kK => XS.iload X0.here hx rfl (hb hby at_31) rfl kK) ?_
      show Goes pP eE bB _ (s₁.setTop (mkF mM 33 #[.val (.int p1), .val (.int p2), .val (.int p3), .val (.int p4), .val (.int p5), .val (.int p6), .val (.int (0 : Int32)), .val (.int (4 : Int32)), .unset, .unset, .unset, .unset] [(.int (4 : Int32))]))
      obtain ⟨T_246, h_246, k_246, X_246, e_246, E_246, A_246, M_246, st_246⟩ := newPE X0 hx hZ (hw _ (List.mem_of_getElem? (i := 24) rfl)) e0 (g := (mkF mM 33 #[.val (.int p1), .val (.int p2), .val (.int p3), .val (.int p4), .val (.int p5), .val (.int p6), .val (.int (0 : Int32)), .val (.int (4 : Int32)), .unset, .unset, .unset, .unset] [(.int (4 : Int32))])) rfl (hb hby at_33) rfl (by decide) (cap := 4) (by decide) (by decide) (by decide) (by decide) (ad := "[B") rfl
      obtain ⟨b_246, g_246⟩ : ∃ z, z = h0.size := ⟨_, rfl⟩
      rw [← g_246] at A_246 M_246 st_246
      have u_247 : n0 ≤ b_246 := Nat.le_trans Z0 (Nat.le_of_eq g_246.symm)
      have u_248 : Afn Z h_246 b_246 .byte 4 (fun _ => (.int (0 : Int32))) := Afn.new (n := 4) A_246 (by decide)
      refine Goes.step st_246 ?_
      show Goes pP eE bB _ (T_246.setTop (mkF mM 35 #[.val (.int p1), .val (.int p2), .val (.int p3), .val (.int p4), .val (.int p5), .val (.int p6), .val (.int (0 : Int32)), .val (.int (4 : Int32)), .unset, .unset, .unset, .unset] [(.ref b_246)]))
      refine Goes.step (fun _ kK => XS.astore X_246.here hx rfl (hb hby at_35) rfl rfl (l' := #[.val (.int p1), .val (.int p2), .val (.int p3), .val (.int p4), .val (.int p5), .val (.int p6), .val (.int (0 : Int32)), .val (.int (4 : Int32)), .val (.ref b_246), .unset, .unset, .unset]) rfl kK) ?_
      show Goes pP eE bB _ (T_246.setTop (mkF mM 37 #[.val (.int p1), .val (.int p2), .val (.int p3), .val (.int p4), .val (.int p5), .val (.int p6), .val (.int (0 : Int32)), .val (.int (4 : Int32)), .val (.ref b_246), .unset, .unset, .unset] []))
      refine Goes.step (fun _ kK => XS.iload X_246.here hx rfl (hb hby at_37) rfl kK) ?_
      show Goes pP eE bB _ (T_246.setTop (mkF mM 39 #[.val (.int p1), .val (.int p2), .val (.int p3), .val (.int p4), .val (.int p5), .val (.int p6), .val (.int (0 : Int32)), .val (.int (4 : Int32)), .val (.ref b_246), .unset, .unset, .unset] [(.int (0 : Int32))]))
      refine Goes.step (fun _ kK => XS.ifNo X_246.here hx rfl (hb hby at_39) rfl ((if0 _ _).trans (teq (by decide)).2) kK) ?_
      show Goes pP eE bB _ (T_246.setTop (mkF mM 42 #[.val (.int p1), .val (.int p2), .val (.int p3), .val (.int p4), .val (.int p5), .val (.int p6), .val (.int (0 : Int32)), .val (.int (4 : Int32)), .val (.ref b_246), .unset, .unset, .unset] []))
      refine Goes.step (fun _ kK => XS.iload X_246.here hx rfl (hb hby at_42) rfl kK) ?_
      show Goes pP eE bB _ (T_246.setTop (mkF mM 44 #[.val (.int p1), .val (.int p2), .val (.int p3), .val (.int p4), .val (.int p5), .val (.int p6), .val (.int (0 : Int32)), .val (.int (4 : Int32)), .val (.ref b_246), .unset, .unset, .unset] [(.int (4 : Int32))]))
      refine Goes.step (fun _ kK => XS.ifNo X_246.here hx rfl (hb hby at_44) rfl ((if0 _ _).trans (tlt (by decide)).2.2.2) kK) ?_
      show Goes pP eE bB _ (T_246.setTop (mkF mM 47 #[.val (.int p1), .val (.int p2), .val (.int p3), .val (.int p4), .val (.int p5), .val (.int p6), .val (.int (0 : Int32)), .val (.int (4 : Int32)), .val (.ref b_246), .unset, .unset, .unset] []))
      refine Goes.step (fun _ kK => XS.aload X_246.here hx rfl (hb hby at_47) rfl rfl kK) ?_
      show Goes pP eE bB _ (T_246.setTop (mkF mM 49 #[.val (.int p1), .val (.int p2), .val (.int p3), .val (.int p4), .val (.int p5), .val (.int p6), .val (.int (0 : Int32)), .val (.int (4 : Int32)), .val (.ref b_246), .unset, .unset, .unset] [(.ref b_246)]))
      refine Goes.step (fun _ kK => XS.iconst X_246.here hx rfl (hb hby at_49) kK) ?_
      show Goes pP eE bB _ (T_246.setTop (mkF mM 50 #[.val (.int p1), .val (.int p2), .val (.int p3), .val (.int p4), .val (.int p5), .val (.int p6), .val (.int (0 : Int32)), .val (.int (4 : Int32)), .val (.ref b_246), .unset, .unset, .unset] [(.int (0 : Int32)), (.ref b_246)]))
      refine Goes.step (fun _ kK => XS.iloadN X_246.here hx rfl (hb hby at_50) rfl kK) ?_
      show Goes pP eE bB _ (T_246.setTop (mkF mM 51 #[.val (.int p1), .val (.int p2), .val (.int p3), .val (.int p4), .val (.int p5), .val (.int p6), .val (.int (0 : Int32)), .val (.int (4 : Int32)), .val (.ref b_246), .unset, .unset, .unset] [(.int p2), (.int (0 : Int32)), (.ref b_246)]))
      refine Goes.step (fun _ kK => XS.i2b X_246.here hx rfl (hb hby at_51) rfl kK) ?_
      show Goes pP eE bB _ (T_246.setTop (mkF mM 52 #[.val (.int p1), .val (.int p2), .val (.int p3), .val (.int p4), .val (.int p5), .val (.int p6), .val (.int (0 : Int32)), .val (.int (4 : Int32)), .val (.ref b_246), .unset, .unset, .unset] [(.int (p2.toInt8.toInt32)), (.int (0 : Int32)), (.ref b_246)]))
      refine Goes.bastore X_246 hx hZ e_246 u_248 (i := 0) (by decide) (by decide) (g := (mkF mM 52 #[.val (.int p1), .val (.int p2), .val (.int p3), .val (.int p4), .val (.int p5), .val (.int p6), .val (.int (0 : Int32)), .val (.int (4 : Int32)), .val (.ref b_246), .unset, .unset, .unset] [(.int (p2.toInt8.toInt32)), (.int (0 : Int32)), (.ref b_246)])) rfl rfl (hb hby at_52) ?_
      intro T_249 h_249 X_249 e_249 W_249 A_249
      have N_249 := Fr.snoc X_249 N0 u_247
      show Goes pP eE bB _ (T_249.setTop (mkF mM 53 #[.val (.int p1), .val (.int p2), .val (.int p3), .val (.int p4), .val (.int p5), .val (.int p6), .val (.int (0 : Int32)), .val (.int (4 : Int32)), .val (.ref b_246), .unset, .unset, .unset] []))
      refine Goes.step (fun _ kK => XS.iload X_249.here hx rfl (hb hby at_53) rfl kK) ?_
      show Goes pP eE bB _ (T_249.setTop (mkF mM 55 #[.val (.int p1), .val (.int p2), .val (.int p3), .val (.int p4), .val (.int p5), .val (.int p6), .val (.int (0 : Int32)), .val (.int (4 : Int32)), .val (.ref b_246), .unset, .unset, .unset] [(.int (4 : Int32))]))
      refine Goes.step (fun _ kK => XS.iconst X_249.here hx rfl (hb hby at_55) kK) ?_
      show Goes pP eE bB _ (T_249.setTop (mkF mM 56 #[.val (.int p1), .val (.int p2), .val (.int p3), .val (.int p4), .val (.int p5), .val (.int p6), .val (.int (0 : Int32)), .val (.int (4 : Int32)), .val (.ref b_246), .unset, .unset, .unset] [(.int (1 : Int32)), (.int (4 : Int32))]))
      refine Goes.step (fun _ kK => XS.icmpNo X_249.here hx rfl (hb hby at_56) rfl (tlt (by decide)).2.2.2 kK) ?_
      show Goes pP eE bB _ (T_249.setTop (mkF mM 59 #[.val (.int p1), .val (.int p2), .val (.int p3), .val (.int p4), .val (.int p5), .val (.int p6), .val (.int (0 : Int32)), .val (.int (4 : Int32)), .val (.ref b_246), .unset, .unset, .unset] []))
      refine Goes.step (fun _ kK => XS.aload X_249.here hx rfl (hb hby at_59) rfl rfl kK) ?_
      show Goes pP eE bB _ (T_249.setTop (mkF mM 61 #[.val (.int p1), .val (.int p2), .val (.int p3), .val (.int p4), .val (.int p5), .val (.int p6), .val (.int (0 : Int32)), .val (.int (4 : Int32)), .val (.ref b_246), .unset, .unset, .unset] [(.ref b_246)]))
      refine Goes.step (fun _ kK => XS.iconst X_249.here hx rfl (hb hby at_61) kK) ?_
      show Goes pP eE bB _ (T_249.setTop (mkF mM 62 #[.val (.int p1), .val (.int p2), .val (.int p3), .val (.int p4), .val (.int p5), .val (.int p6), .val (.int (0 : Int32)), .val (.int (4 : Int32)), .val (.ref b_246), .unset, .unset, .unset] [(.int (1 : Int32)), (.ref b_246)]))
      refine Goes.step (fun _ kK => XS.iloadN X_249.here hx rfl (hb hby at_62) rfl kK) ?_
      show Goes pP eE bB _ (T_249.setTop (mkF mM 63 #[.val (.int p1), .val (.int p2), .val (.int p3), .val (.int p4), .val (.int p5), .val (.int p6), .val (.int (0 : Int32)), .val (.int (4 : Int32)), .val (.ref b_246), .unset, .unset, .unset] [(.int p3), (.int (1 : Int32)), (.ref b_246)]))
      refine Goes.step (fun _ kK => XS.i2b X_249.here hx rfl (hb hby at_63) rfl kK) ?_
      show Goes pP eE bB _ (T_249.setTop (mkF mM 64 #[.val (.int p1), .val (.int p2), .val (.int p3), .val (.int p4), .val (.int p5), .val (.int p6), .val (.int (0 : Int32)), .val (.int (4 : Int32)), .val (.ref b_246), .unset, .unset, .unset] [(.int (p3.toInt8.toInt32)), (.int (1 : Int32)), (.ref b_246)]))
      refine Goes.bastore X_249 hx hZ e_249 A_249 (i := 1) (by decide) (by decide) (g := (mkF mM 64 #[.val (.int p1), .val (.int p2), .val (.int p3), .val (.int p4), .val (.int p5), .val (.int p6), .val (.int (0 : Int32)), .val (.int (4 : Int32)), .val (.ref b_246), .unset, .unset, .unset] [(.int (p3.toInt8.toInt32)), (.int (1 : Int32)), (.ref b_246)])) rfl rfl (hb hby at_64) ?_
      intro T_250 h_250 X_250 e_250 W_250 A_250
      have N_250 := Fr.snoc X_250 N_249 u_247
      show Goes pP eE bB _ (T_250.setTop (mkF mM 65 #[.val (.int p1), .val (.int p2), .val (.int p3), .val (.int p4), .val (.int p5), .val (.int p6), .val (.int (0 : Int32)), .val (.int (4 : Int32)), .val (.ref b_246), .unset, .unset, .unset] []))
      refine Goes.step (fun _ kK => XS.iload X_250.here hx rfl (hb hby at_65) rfl kK) ?_
      show Goes pP eE bB _ (T_250.setTop (mkF mM 67 #[.val (.int p1), .val (.int p2), .val (.int p3), .val (.int p4), .val (.int p5), .val (.int p6), .val (.int (0 : Int32)), .val (.int (4 : Int32)), .val (.ref b_246), .unset, .unset, .unset] [(.int (4 : Int32))]))
      refine Goes.step (fun _ kK => XS.iconst X_250.here hx rfl (hb hby at_67) kK) ?_
      show Goes pP eE bB _ (T_250.setTop (mkF mM 68 #[.val (.int p1), .val (.int p2), .val (.int p3), .val (.int p4), .val (.int p5), .val (.int p6), .val (.int (0 : Int32)), .val (.int (4 : Int32)), .val (.ref b_246), .unset, .unset, .unset] [(.int (2 : Int32)), (.int (4 : Int32))]))
      refine Goes.step (fun _ kK => XS.icmpNo X_250.here hx rfl (hb hby at_68) rfl (tlt (by decide)).2.2.2 kK) ?_
      show Goes pP eE bB _ (T_250.setTop (mkF mM 71 #[.val (.int p1), .val (.int p2), .val (.int p3), .val (.int p4), .val (.int p5), .val (.int p6), .val (.int (0 : Int32)), .val (.int (4 : Int32)), .val (.ref b_246), .unset, .unset, .unset] []))
      refine Goes.step (fun _ kK => XS.aload X_250.here hx rfl (hb hby at_71) rfl rfl kK) ?_
      show Goes pP eE bB _ (T_250.setTop (mkF mM 73 #[.val (.int p1), .val (.int p2), .val (.int p3), .val (.int p4), .val (.int p5), .val (.int p6), .val (.int (0 : Int32)), .val (.int (4 : Int32)), .val (.ref b_246), .unset, .unset, .unset] [(.ref b_246)]))
      refine Goes.step (fun _ kK => XS.iconst X_250.here hx rfl (hb hby at_73) kK) ?_
      show Goes pP eE bB _ (T_250.setTop (mkF mM 74 #[.val (.int p1), .val (.int p2), .val (.int p3), .val (.int p4), .val (.int p5), .val (.int p6), .val (.int (0 : Int32)), .val (.int (4 : Int32)), .val (.ref b_246), .unset, .unset, .unset] [(.int (2 : Int32)), (.ref b_246)]))
      refine Goes.step (fun _ kK => XS.iloadN X_250.here hx rfl (hb hby at_74) rfl kK) ?_
      show Goes pP eE bB _ (T_250.setTop (mkF mM 75 #[.val (.int p1), .val (.int p2), .val (.int p3), .val (.int p4), .val (.int p5), .val (.int p6), .val (.int (0 : Int32)), .val (.int (4 : Int32)), .val (.ref b_246), .unset, .unset, .unset] [(.int p4), (.int (2 : Int32)), (.ref b_246)]))
      refine Goes.step (fun _ kK => XS.i2b X_250.here hx rfl (hb hby at_75) rfl kK) ?_
      show Goes pP eE bB _ (T_250.setTop (mkF mM 76 #[.val (.int p1), .val (.int p2), .val (.int p3), .val (.int p4), .val (.int p5), .val (.int p6), .val (.int (0 : Int32)), .val (.int (4 : Int32)), .val (.ref b_246), .unset, .unset, .unset] [(.int (p4.toInt8.toInt32)), (.int (2 : Int32)), (.ref b_246)]))
      refine Goes.bastore X_250 hx hZ e_250 A_250 (i := 2) (by decide) (by decide) (g := (mkF mM 76 #[.val (.int p1), .val (.int p2), .val (.int p3), .val (.int p4), .val (.int p5), .val (.int p6), .val (.int (0 : Int32)), .val (.int (4 : Int32)), .val (.ref b_246), .unset, .unset, .unset] [(.int (p4.toInt8.toInt32)), (.int (2 : Int32)), (.ref b_246)])) rfl rfl (hb hby at_76) ?_
      intro T_251 h_251 X_251 e_251 W_251 A_251
      have N_251 := Fr.snoc X_251 N_250 u_247
      show Goes pP eE bB _ (T_251.setTop (mkF mM 77 #[.val (.int p1), .val (.int p2), .val (.int p3), .val (.int p4), .val (.int p5), .val (.int p6), .val (.int (0 : Int32)), .val (.int (4 : Int32)), .val (.ref b_246), .unset, .unset, .unset] []))
      refine Goes.step (fun _ kK => XS.iload X_251.here hx rfl (hb hby at_77) rfl kK) ?_
      show Goes pP eE bB _ (T_251.setTop (mkF mM 79 #[.val (.int p1), .val (.int p2), .val (.int p3), .val (.int p4), .val (.int p5), .val (.int p6), .val (.int (0 : Int32)), .val (.int (4 : Int32)), .val (.ref b_246), .unset, .unset, .unset] [(.int (4 : Int32))]))
      refine Goes.step (fun _ kK => XS.iconst X_251.here hx rfl (hb hby at_79) kK) ?_
      show Goes pP eE bB _ (T_251.setTop (mkF mM 80 #[.val (.int p1), .val (.int p2), .val (.int p3), .val (.int p4), .val (.int p5), .val (.int p6), .val (.int (0 : Int32)), .val (.int (4 : Int32)), .val (.ref b_246), .unset, .unset, .unset] [(.int (3 : Int32)), (.int (4 : Int32))]))
      refine Goes.step (fun _ kK => XS.icmpNo X_251.here hx rfl (hb hby at_80) rfl (tlt (by decide)).2.2.2 kK) ?_
      show Goes pP eE bB _ (T_251.setTop (mkF mM 83 #[.val (.int p1), .val (.int p2), .val (.int p3), .val (.int p4), .val (.int p5), .val (.int p6), .val (.int (0 : Int32)), .val (.int (4 : Int32)), .val (.ref b_246), .unset, .unset, .unset] []))
      refine Goes.step (fun _ kK => XS.aload X_251.here hx rfl (hb hby at_83) rfl rfl kK) ?_
      show Goes pP eE bB _ (T_251.setTop (mkF mM 85 #[.val (.int p1), .val (.int p2), .val (.int p3), .val (.int p4), .val (.int p5), .val (.int p6), .val (.int (0 : Int32)), .val (.int (4 : Int32)), .val (.ref b_246), .unset, .unset, .unset] [(.ref b_246)]))
      refine Goes.step (fun _ kK => XS.iconst X_251.here hx rfl (hb hby at_85) kK) ?_
      show Goes pP eE bB _ (T_251.setTop (mkF mM 86 #[.val (.int p1), .val (.int p2), .val (.int p3), .val (.int p4), .val (.int p5), .val (.int p6), .val (.int (0 : Int32)), .val (.int (4 : Int32)), .val (.ref b_246), .unset, .unset, .unset] [(.int (3 : Int32)), (.ref b_246)]))
      refine Goes.step (fun _ kK => XS.iload X_251.here hx rfl (hb hby at_86) rfl kK) ?_
      show Goes pP eE bB _ (T_251.setTop (mkF mM 88 #[.val (.int p1), .val (.int p2), .val (.int p3), .val (.int p4), .val (.int p5), .val (.int p6), .val (.int (0 : Int32)), .val (.int (4 : Int32)), .val (.ref b_246), .unset, .unset, .unset] [(.int p5), (.int (3 : Int32)), (.ref b_246)]))
      refine Goes.step (fun _ kK => XS.i2b X_251.here hx rfl (hb hby at_88) rfl kK) ?_
      show Goes pP eE bB _ (T_251.setTop (mkF mM 89 #[.val (.int p1), .val (.int p2), .val (.int p3), .val (.int p4), .val (.int p5), .val (.int p6), .val (.int (0 : Int32)), .val (.int (4 : Int32)), .val (.ref b_246), .unset, .unset, .unset] [(.int (p5.toInt8.toInt32)), (.int (3 : Int32)), (.ref b_246)]))
      refine Goes.bastore X_251 hx hZ e_251 A_251 (i := 3) (by decide) (by decide) (g := (mkF mM 89 #[.val (.int p1), .val (.int p2), .val (.int p3), .val (.int p4), .val (.int p5), .val (.int p6), .val (.int (0 : Int32)), .val (.int (4 : Int32)), .val (.ref b_246), .unset, .unset, .unset] [(.int (p5.toInt8.toInt32)), (.int (3 : Int32)), (.ref b_246)])) rfl rfl (hb hby at_89) ?_
      intro T_252 h_252 X_252 e_252 W_252 A_252
      have N_252 := Fr.snoc X_252 N_251 u_247
      show Goes pP eE bB _ (T_252.setTop (mkF mM 90 #[.val (.int p1), .val (.int p2), .val (.int p3), .val (.int p4), .val (.int p5), .val (.int p6), .val (.int (0 : Int32)), .val (.int (4 : Int32)), .val (.ref b_246), .unset, .unset, .unset] []))
      have u_253 : Afn Z h_252 b_246 .byte 4 (own_f p2 p3 p4 p5) := (A_252).congr (f' := own_f p2 p3 p4 p5) (fun i hi => by
        obtain rfl | rfl | rfl | rfl : i = 0 ∨ i = 1 ∨ i = 2 ∨ i = 3 := by omega
        all_goals simp [own_f])
      show Goes pP eE bB _ (T_252.setTop (mkF mM 90 #[.val (.int p1), .val (.int p2), .val (.int p3), .val (.int p4), .val (.int p5), .val (.int p6), .val (.int (0 : Int32)), .val (.int (4 : Int32)), .val (.ref b_246), .unset, .unset, .unset] []))
      obtain ⟨T_254, h_254, X_254, e_254, E_254, A_254, D_254, -, st_254⟩ := newO X_252 hx hZ hown (hw _ (List.mem_of_getElem? (i := 1) rfl)) (hw _ (List.mem_of_getElem? (i := 2) rfl)) (hw _ (List.mem_of_getElem? (i := 3) rfl)) e_252 (g := (mkF mM 90 #[.val (.int p1), .val (.int p2), .val (.int p3), .val (.int p4), .val (.int p5), .val (.int p6), .val (.int (0 : Int32)), .val (.int (4 : Int32)), .val (.ref b_246), .unset, .unset, .unset] [])) rfl (hb hby at_90) (by decide) (by decide)
      obtain ⟨b_254, g_254⟩ : ∃ z, z = h_252.size := ⟨_, rfl⟩
      rw [← g_254] at A_254 D_254 st_254
      have u_255 : b_246 < b_254 := Nat.lt_of_lt_of_le (u_253).lt (Nat.le_of_eq g_254.symm)
      have u_256 := Nat.le_trans Z0 E_246.1
      have u_257 := Nat.le_trans u_256 (Keep.of_wr W_249).1
      have u_258 := Nat.le_trans u_257 (Keep.of_wr W_250).1
      have u_259 := Nat.le_trans u_258 (Keep.of_wr W_251).1
      have u_260 := Nat.le_trans u_259 (Keep.of_wr W_252).1
      have u_261 : n0 ≤ b_254 := Nat.le_trans u_260 (Nat.le_of_eq g_254.symm)
      have u_262 : Fld Z h_254 b_254 "com/example/anchorline/anchorline/tcap/Dialogue" "peer" "Lcom/example/anchorline/anchorline/sccp/SccpAddress;" .null := D_254 (Or.inr (hw _ (List.mem_of_getElem? (i := 14) rfl))) (ty := (.object "com/example/anchorline/anchorline/sccp/SccpAddress")) (by decide)
      have u_263 : Fld Z h_254 b_254 "com/example/anchorline/anchorline/tcap/Dialogue" "applicationContext" "[B" .null := D_254 (Or.inr (hw _ (List.mem_of_getElem? (i := 16) rfl))) (ty := (.array .byte)) (by decide)
      have u_264 : Fld Z h_254 b_254 "com/example/anchorline/anchorline/tcap/Dialogue" "state" "Lcom/example/anchorline/anchorline/tcap/Dialogue$State;" .null := D_254 (Or.inl (hw _ (List.mem_of_getElem? (i := 18) rfl))) (ty := (.object "com/example/anchorline/anchorline/tcap/Dialogue$State")) (by decide)
      refine Goes.step st_254 ?_
      show Goes pP eE bB _ (T_254.setTop (mkF mM 93 #[.val (.int p1), .val (.int p2), .val (.int p3), .val (.int p4), .val (.int p5), .val (.int p6), .val (.int (0 : Int32)), .val (.int (4 : Int32)), .val (.ref b_246), .unset, .unset, .unset] [(.ref b_254)]))
      refine Goes.step (fun _ kK => XS.dup X_254.here hx rfl (hb hby at_93) rfl rfl kK) ?_
      show Goes pP eE bB _ (T_254.setTop (mkF mM 94 #[.val (.int p1), .val (.int p2), .val (.int p3), .val (.int p4), .val (.int p5), .val (.int p6), .val (.int (0 : Int32)), .val (.int (4 : Int32)), .val (.ref b_246), .unset, .unset, .unset] [(.ref b_254), (.ref b_254)]))
      refine Goes.step (fun _ kK => XS.aconstNull X_254.here hx rfl (hb hby at_94) kK) ?_
      show Goes pP eE bB _ (T_254.setTop (mkF mM 95 #[.val (.int p1), .val (.int p2), .val (.int p3), .val (.int p4), .val (.int p5), .val (.int p6), .val (.int (0 : Int32)), .val (.int (4 : Int32)), .val (.ref b_246), .unset, .unset, .unset] [.null, (.ref b_254), (.ref b_254)]))
      refine Goes.step (fun _ kK => XS.aload X_254.here hx rfl (hb hby at_95) rfl rfl kK) ?_
      show Goes pP eE bB _ (T_254.setTop (mkF mM 97 #[.val (.int p1), .val (.int p2), .val (.int p3), .val (.int p4), .val (.int p5), .val (.int p6), .val (.int (0 : Int32)), .val (.int (4 : Int32)), .val (.ref b_246), .unset, .unset, .unset] [(.ref b_246), .null, (.ref b_254), (.ref b_254)]))
      have u_266 := O0.ext E_246
      have u_267 := u_266.wr W_249 u_247
      have u_268 := u_267.wr W_250 u_247
      have u_269 := u_268.wr W_251 u_247
      have u_270 := u_269.wr W_252 u_247
      have u_271 := u_270.ext E_254
      obtain ⟨T_265, X_265, e_265, st_265⟩ := getS2 X_254 hx hZ hown (host := "") (Or.inl (hw _ (List.mem_of_getElem? (i := 4) rfl))) Via.refl e_254 (SI.ext u_271.2) (g := (mkF mM 97 #[.val (.int p1), .val (.int p2), .val (.int p3), .val (.int p4), .val (.int p5), .val (.int p6), .val (.int (0 : Int32)), .val (.int (4 : Int32)), .val (.ref b_246), .unset, .unset, .unset] [(.ref b_246), .null, (.ref b_254), (.ref b_254)])) rfl (hb hby at_97)
      refine Goes.step st_265 ?_
      show Goes pP eE bB _ (T_265.setTop (mkF mM 100 #[.val (.int p1), .val (.int p2), .val (.int p3), .val (.int p4), .val (.int p5), .val (.int p6), .val (.int (0 : Int32)), .val (.int (4 : Int32)), .val (.ref b_246), .unset, .unset, .unset] [(.ref wI), (.ref b_246), .null, (.ref b_254), (.ref b_254)]))
      have u_272 := Nat.le_trans u_260 E_254.1
      refine Goes.callI X_265 hx hZ rfl hown (hw _ (List.mem_of_getElem? (i := 7) rfl)) (hw _ (List.mem_of_getElem? (i := 8) rfl)) (hw _ (List.mem_of_getElem? (i := 9) rfl)) (hw _ (List.mem_of_getElem? (i := 3) rfl)) (by decide) e_265 (rmC l Z a0 hw b_254 b_246 wI h_254 n0 u_272 A_254 u_261 u_262 u_263 u_264) (W := 1) (by decide) (by decide) (by decide) (by decide) (g := (mkF mM 100 #[.val (.int p1), .val (.int p2), .val (.int p3), .val (.int p4), .val (.int p5), .val (.int p6), .val (.int (0 : Int32)), .val (.int (4 : Int32)), .val (.ref b_246), .unset, .unset, .unset] [(.ref wI), (.ref b_246), .null, (.ref b_254), (.ref b_254)])) rfl (by rw [hml]; rfl) (rest := [(.ref b_254)]) own_pd0 rfl rfl (by show 2 * 0 + _ ≤ _; exact Nat.le_of_eq rfl) (hb hby at_100) ?_
      intro v_273 T_273 L_273 X_273 hQ_273
      generalize e_273 : T_273.heap = h_273 at hQ_273
      obtain ⟨rfl, N_273q, K_273, F_273⟩ := hQ_273
      have N_273 := Fr.app N_252 N_273q
      show Goes pP eE bB _ (T_273.setTop (mkF mM 103 #[.val (.int p1), .val (.int p2), .val (.int p3), .val (.int p4), .val (.int p5), .val (.int p6), .val (.int (0 : Int32)), .val (.int (4 : Int32)), .val (.ref b_246), .unset, .unset, .unset] [(.ref b_254)]))
      refine Goes.step (fun _ kK => XS.astore X_273.here hx rfl (hb hby at_103) rfl rfl (l' := #[.val (.int p1), .val (.int p2), .val (.int p3), .val (.int p4), .val (.int p5), .val (.int p6), .val (.int (0 : Int32)), .val (.int (4 : Int32)), .val (.ref b_246), .val (.ref b_254), .unset, .unset]) rfl kK) ?_
      show Goes pP eE bB _ (T_273.setTop (mkF mM 105 #[.val (.int p1), .val (.int p2), .val (.int p3), .val (.int p4), .val (.int p5), .val (.int p6), .val (.int (0 : Int32)), .val (.int (4 : Int32)), .val (.ref b_246), .val (.ref b_254), .unset, .unset] []))
      refine Goes.step (fun _ kK => XS.aload X_273.here hx rfl (hb hby at_105) rfl rfl kK) ?_
      show Goes pP eE bB _ (T_273.setTop (mkF mM 107 #[.val (.int p1), .val (.int p2), .val (.int p3), .val (.int p4), .val (.int p5), .val (.int p6), .val (.int (0 : Int32)), .val (.int (4 : Int32)), .val (.ref b_246), .val (.ref b_254), .unset, .unset] [(.ref b_254)]))
      have u_274 := Nat.le_trans u_272 K_273.1
      have u_275 := u_253.ext E_254
      have u_276 := u_275.keep K_273 (ninS (Nat.ne_of_lt u_255) nin0)
      have u_277 := M_246.wr W_249
      have u_278 := u_277.wr W_250
      have u_279 := u_278.wr W_251
      have u_280 := u_279.wr W_252
      have u_281 := u_280.ext E_254
      have u_282 := u_281.keep K_273
      have u_284 := A_254.keep K_273
      refine Goes.callV X_273 hx hZ hown (hw _ (List.mem_of_getElem? (i := 19) rfl)) (hw _ (List.mem_of_getElem? (i := 20) rfl)) (notFace_of_selects (args := #[]) (mvT hZ (hw _ (List.mem_of_getElem? (i := 22) rfl)))) (hw _ (List.mem_of_getElem? (i := 22) rfl)) (hw _ (List.mem_of_getElem? (i := 21) rfl)) (hw _ (List.mem_of_getElem? (i := 23) rfl)) (hw _ (List.mem_of_getElem? (i := 3) rfl)) (by decide) e_273 u_284 (rmA l Z a0 hw b_254 b_246 h_273 n0 u_274 4 (by decide) _ F_273 u_276 u_282) (W := 0) (by decide) (by decide) (by decide) (by decide) (g := (mkF mM 107 #[.val (.int p1), .val (.int p2), .val (.int p3), .val (.int p4), .val (.int p5), .val (.int p6), .val (.int (0 : Int32)), .val (.int (4 : Int32)), .val (.ref b_246), .val (.ref b_254), .unset, .unset] [(.ref b_254)])) rfl (by rw [hml]; rfl) (rest := []) own_pd1 rfl rfl (by show 2 * 0 + _ ≤ _; exact Nat.le_of_eq rfl) (hb hby at_107) ?_
      intro v_283 T_283 L_283 X_283 hQ_283
      generalize e_283 : T_283.heap = h_283 at hQ_283
      obtain ⟨c_283, rfl, N_283q, E_283, s_283, A_283, M_283⟩ := hQ_283
      have N_283 := Fr.app N_273 N_283q
      have u_285 := Nat.lt_of_lt_of_le (u_253).lt E_254.1
      have u_286 := Nat.lt_of_lt_of_le u_285 K_273.1
      have u_287 : b_246 < c_283 := Nat.lt_of_lt_of_le u_286 s_283
      have u_288 : b_254 < c_283 := Nat.lt_of_lt_of_le (u_284).lt s_283
      have u_289 : n0 ≤ c_283 := Nat.le_trans u_274 s_283
      show Goes pP eE bB _ (T_283.setTop (mkF mM 110 #[.val (.int p1), .val (.int p2), .val (.int p3), .val (.int p4), .val (.int p5), .val (.int p6), .val (.int (0 : Int32)), .val (.int (4 : Int32)), .val (.ref b_246), .val (.ref b_254), .unset, .unset] [(.ref c_283)]))
      refine Goes.step (fun _ kK => XS.astore X_283.here hx rfl (hb hby at_110) rfl rfl (l' := #[.val (.int p1), .val (.int p2), .val (.int p3), .val (.int p4), .val (.int p5), .val (.int p6), .val (.int (0 : Int32)), .val (.int (4 : Int32)), .val (.ref b_246), .val (.ref b_254), .val (.ref c_283), .unset]) rfl kK) ?_
      show Goes pP eE bB _ (T_283.setTop (mkF mM 112 #[.val (.int p1), .val (.int p2), .val (.int p3), .val (.int p4), .val (.int p5), .val (.int p6), .val (.int (0 : Int32)), .val (.int (4 : Int32)), .val (.ref b_246), .val (.ref b_254), .val (.ref c_283), .unset] []))
      refine Goes.step (fun _ kK => XS.iload X_283.here hx rfl (hb hby at_112) rfl kK) ?_
      show Goes pP eE bB _ (T_283.setTop (mkF mM 114 #[.val (.int p1), .val (.int p2), .val (.int p3), .val (.int p4), .val (.int p5), .val (.int p6), .val (.int (0 : Int32)), .val (.int (4 : Int32)), .val (.ref b_246), .val (.ref b_254), .val (.ref c_283), .unset] [(.int (0 : Int32))]))
      refine Goes.step (fun _ kK => XS.ifYes X_283.here hx rfl (pc0 := 114) (pc' := 136) rfl (hb hby at_114) rfl ((if0 _ _).trans (teq (by decide)).1) (by decide) (by decide) kK) ?_
      show Goes pP eE bB _ (T_283.setTop (mkF mM 136 #[.val (.int p1), .val (.int p2), .val (.int p3), .val (.int p4), .val (.int p5), .val (.int p6), .val (.int (0 : Int32)), .val (.int (4 : Int32)), .val (.ref b_246), .val (.ref b_254), .val (.ref c_283), .unset] []))
      refine Goes.step (fun _ kK => XS.aload X_283.here hx rfl (hb hby at_136) rfl rfl kK) ?_
      show Goes pP eE bB _ (T_283.setTop (mkF mM 138 #[.val (.int p1), .val (.int p2), .val (.int p3), .val (.int p4), .val (.int p5), .val (.int p6), .val (.int (0 : Int32)), .val (.int (4 : Int32)), .val (.ref b_246), .val (.ref b_254), .val (.ref c_283), .unset] [(.ref c_283)]))
      refine Goes.step (fun _ kK => XS.ifnullNo X_283.here hx rfl (hb hby at_138) rfl kK) ?_
      show Goes pP eE bB _ (T_283.setTop (mkF mM 141 #[.val (.int p1), .val (.int p2), .val (.int p3), .val (.int p4), .val (.int p5), .val (.int p6), .val (.int (0 : Int32)), .val (.int (4 : Int32)), .val (.ref b_246), .val (.ref b_254), .val (.ref c_283), .unset] []))
      refine Goes.step (fun _ kK => XS.aload X_283.here hx rfl (hb hby at_141) rfl rfl kK) ?_
      show Goes pP eE bB _ (T_283.setTop (mkF mM 143 #[.val (.int p1), .val (.int p2), .val (.int p3), .val (.int p4), .val (.int p5), .val (.int p6), .val (.int (0 : Int32)), .val (.int (4 : Int32)), .val (.ref b_246), .val (.ref b_254), .val (.ref c_283), .unset] [(.ref c_283)]))
      refine Goes.step (fun _ kK => XS.aload X_283.here hx rfl (hb hby at_143) rfl rfl kK) ?_
      show Goes pP eE bB _ (T_283.setTop (mkF mM 145 #[.val (.int p1), .val (.int p2), .val (.int p3), .val (.int p4), .val (.int p5), .val (.int p6), .val (.int (0 : Int32)), .val (.int (4 : Int32)), .val (.ref b_246), .val (.ref b_254), .val (.ref c_283), .unset] [(.ref b_246), (.ref c_283)]))
      refine Goes.step (fun _ kK => Jvm.RoadKit.acmp (g := (mkF mM 145 #[.val (.int p1), .val (.int p2), .val (.int p3), .val (.int p4), .val (.int p5), .val (.int p6), .val (.int (0 : Int32)), .val (.int (4 : Int32)), .val (.ref b_246), .val (.ref b_254), .val (.ref c_283), .unset] [(.ref b_246), (.ref c_283)])) X_283 hx rfl rfl rfl (pc0 := 145) (pc' := 150) (same := false) rfl (hb hby at_145) rfl (decide_eq_false fun q => (Nat.ne_of_gt u_287) (Value.ref.inj q)) (by decide) (by decide) kK) ?_
      show Goes pP eE bB _ (T_283.setTop (mkF mM 150 #[.val (.int p1), .val (.int p2), .val (.int p3), .val (.int p4), .val (.int p5), .val (.int p6), .val (.int (0 : Int32)), .val (.int (4 : Int32)), .val (.ref b_246), .val (.ref b_254), .val (.ref c_283), .unset] []))
      refine Goes.step (fun _ kK => XS.aload X_283.here hx rfl (hb hby at_150) rfl rfl kK) ?_
      show Goes pP eE bB _ (T_283.setTop (mkF mM 152 #[.val (.int p1), .val (.int p2), .val (.int p3), .val (.int p4), .val (.int p5), .val (.int p6), .val (.int (0 : Int32)), .val (.int (4 : Int32)), .val (.ref b_246), .val (.ref b_254), .val (.ref c_283), .unset] [(.ref c_283)]))
      refine Goes.step (fun _ kK => XS.iload X_283.here hx rfl (hb hby at_152) rfl kK) ?_
      show Goes pP eE bB _ (T_283.setTop (mkF mM 154 #[.val (.int p1), .val (.int p2), .val (.int p3), .val (.int p4), .val (.int p5), .val (.int p6), .val (.int (0 : Int32)), .val (.int (4 : Int32)), .val (.ref b_246), .val (.ref b_254), .val (.ref c_283), .unset] [(.int (4 : Int32)), (.ref c_283)]))
      refine Goes.step (fun _ kK => XS.iloadN X_283.here hx rfl (hb hby at_154) rfl kK) ?_
      show Goes pP eE bB _ (T_283.setTop (mkF mM 155 #[.val (.int p1), .val (.int p2), .val (.int p3), .val (.int p4), .val (.int p5), .val (.int p6), .val (.int (0 : Int32)), .val (.int (4 : Int32)), .val (.ref b_246), .val (.ref b_254), .val (.ref c_283), .unset] [(.int p2), (.int (4 : Int32)), (.ref c_283)]))
      refine Goes.step (fun _ kK => XS.iloadN X_283.here hx rfl (hb hby at_155) rfl kK) ?_
      show Goes pP eE bB _ (T_283.setTop (mkF mM 156 #[.val (.int p1), .val (.int p2), .val (.int p3), .val (.int p4), .val (.int p5), .val (.int p6), .val (.int (0 : Int32)), .val (.int (4 : Int32)), .val (.ref b_246), .val (.ref b_254), .val (.ref c_283), .unset] [(.int p3), (.int p2), (.int (4 : Int32)), (.ref c_283)]))
      refine Goes.step (fun _ kK => XS.iloadN X_283.here hx rfl (hb hby at_156) rfl kK) ?_
      show Goes pP eE bB _ (T_283.setTop (mkF mM 157 #[.val (.int p1), .val (.int p2), .val (.int p3), .val (.int p4), .val (.int p5), .val (.int p6), .val (.int (0 : Int32)), .val (.int (4 : Int32)), .val (.ref b_246), .val (.ref b_254), .val (.ref c_283), .unset] [(.int p4), (.int p3), (.int p2), (.int (4 : Int32)), (.ref c_283)]))
      refine Goes.step (fun _ kK => XS.iload X_283.here hx rfl (hb hby at_157) rfl kK) ?_
      show Goes pP eE bB _ (T_283.setTop (mkF mM 159 #[.val (.int p1), .val (.int p2), .val (.int p3), .val (.int p4), .val (.int p5), .val (.int p6), .val (.int (0 : Int32)), .val (.int (4 : Int32)), .val (.ref b_246), .val (.ref b_254), .val (.ref c_283), .unset] [(.int p5), (.int p4), (.int p3), (.int p2), (.int (4 : Int32)), (.ref c_283)]))
      have u_290 := Nat.le_trans u_274 E_283.1
      refine Goes.callS X_283 hx hZ hown (hw _ (List.mem_of_getElem? (i := 34) rfl)) (hw _ (List.mem_of_getElem? (i := 35) rfl)) (hw _ (List.mem_of_getElem? (i := 36) rfl)) (hw _ (List.mem_of_getElem? (i := 37) rfl)) (by decide) e_283 (rmH4 l Z a0 hw c_283 p2 p3 p4 p5 h_283 n0 u_290 A_283) (W := 0) (by decide) (by decide) (by decide) (by decide) (g := (mkF mM 159 #[.val (.int p1), .val (.int p2), .val (.int p3), .val (.int p4), .val (.int p5), .val (.int p6), .val (.int (0 : Int32)), .val (.int (4 : Int32)), .val (.ref b_246), .val (.ref b_254), .val (.ref c_283), .unset] [(.int p5), (.int p4), (.int p3), (.int p2), (.int (4 : Int32)), (.ref c_283)])) rfl (by rw [hml]; rfl) (rest := []) own_pd2 rfl rfl (by show 2 * 0 + _ ≤ _; exact Nat.le_of_eq rfl) (hb hby at_159) ?_
      intro v_291 T_291 L_291 X_291 hQ_291
      obtain ⟨rfl, N_291q, e_291⟩ := hQ_291
      have N_291 := Fr.app N_283 N_291q
      show Goes pP eE bB _ (T_291.setTop (mkF mM 162 #[.val (.int p1), .val (.int p2), .val (.int p3), .val (.int p4), .val (.int p5), .val (.int p6), .val (.int (0 : Int32)), .val (.int (4 : Int32)), .val (.ref b_246), .val (.ref b_254), .val (.ref c_283), .unset] [(.int (1 : Int32))]))
      refine Goes.step (fun _ kK => XS.ifYes X_291.here hx rfl (pc0 := 162) (pc' := 167) rfl (hb hby at_162) rfl ((if0 _ _).trans (feq (by decide)).2) (by decide) (by decide) kK) ?_
      show Goes pP eE bB _ (T_291.setTop (mkF mM 167 #[.val (.int p1), .val (.int p2), .val (.int p3), .val (.int p4), .val (.int p5), .val (.int p6), .val (.int (0 : Int32)), .val (.int (4 : Int32)), .val (.ref b_246), .val (.ref b_254), .val (.ref c_283), .unset] []))
      refine Goes.step (fun _ kK => XS.aload X_291.here hx rfl (hb hby at_167) rfl rfl kK) ?_
      show Goes pP eE bB _ (T_291.setTop (mkF mM 169 #[.val (.int p1), .val (.int p2), .val (.int p3), .val (.int p4), .val (.int p5), .val (.int p6), .val (.int (0 : Int32)), .val (.int (4 : Int32)), .val (.ref b_246), .val (.ref b_254), .val (.ref c_283), .unset] [(.ref b_246)]))
      refine Goes.step (fun _ kK => XS.iload X_291.here hx rfl (hb hby at_169) rfl kK) ?_
      show Goes pP eE bB _ (T_291.setTop (mkF mM 171 #[.val (.int p1), .val (.int p2), .val (.int p3), .val (.int p4), .val (.int p5), .val (.int p6), .val (.int (0 : Int32)), .val (.int (4 : Int32)), .val (.ref b_246), .val (.ref b_254), .val (.ref c_283), .unset] [(.int (4 : Int32)), (.ref b_246)]))
      refine Goes.step (fun _ kK => XS.iloadN X_291.here hx rfl (hb hby at_171) rfl kK) ?_
      show Goes pP eE bB _ (T_291.setTop (mkF mM 172 #[.val (.int p1), .val (.int p2), .val (.int p3), .val (.int p4), .val (.int p5), .val (.int p6), .val (.int (0 : Int32)), .val (.int (4 : Int32)), .val (.ref b_246), .val (.ref b_254), .val (.ref c_283), .unset] [(.int p2), (.int (4 : Int32)), (.ref b_246)]))
      refine Goes.step (fun _ kK => XS.iloadN X_291.here hx rfl (hb hby at_172) rfl kK) ?_
      show Goes pP eE bB _ (T_291.setTop (mkF mM 173 #[.val (.int p1), .val (.int p2), .val (.int p3), .val (.int p4), .val (.int p5), .val (.int p6), .val (.int (0 : Int32)), .val (.int (4 : Int32)), .val (.ref b_246), .val (.ref b_254), .val (.ref c_283), .unset] [(.int p3), (.int p2), (.int (4 : Int32)), (.ref b_246)]))
      refine Goes.step (fun _ kK => XS.iloadN X_291.here hx rfl (hb hby at_173) rfl kK) ?_
      show Goes pP eE bB _ (T_291.setTop (mkF mM 174 #[.val (.int p1), .val (.int p2), .val (.int p3), .val (.int p4), .val (.int p5), .val (.int p6), .val (.int (0 : Int32)), .val (.int (4 : Int32)), .val (.ref b_246), .val (.ref b_254), .val (.ref c_283), .unset] [(.int p4), (.int p3), (.int p2), (.int (4 : Int32)), (.ref b_246)]))
      refine Goes.step (fun _ kK => XS.iload X_291.here hx rfl (hb hby at_174) rfl kK) ?_
      show Goes pP eE bB _ (T_291.setTop (mkF mM 176 #[.val (.int p1), .val (.int p2), .val (.int p3), .val (.int p4), .val (.int p5), .val (.int p6), .val (.int (0 : Int32)), .val (.int (4 : Int32)), .val (.ref b_246), .val (.ref b_254), .val (.ref c_283), .unset] [(.int p5), (.int p4), (.int p3), (.int p2), (.int (4 : Int32)), (.ref b_246)]))
      have u_292 := u_276.ext E_283
      refine Goes.callS X_291 hx hZ hown (hw _ (List.mem_of_getElem? (i := 34) rfl)) (hw _ (List.mem_of_getElem? (i := 35) rfl)) (hw _ (List.mem_of_getElem? (i := 36) rfl)) (hw _ (List.mem_of_getElem? (i := 37) rfl)) (by decide) e_291 (rmH4 l Z a0 hw b_246 p2 p3 p4 p5 h_283 n0 u_290 u_292) (W := 0) (by decide) (by decide) (by decide) (by decide) (g := (mkF mM 176 #[.val (.int p1), .val (.int p2), .val (.int p3), .val (.int p4), .val (.int p5), .val (.int p6), .val (.int (0 : Int32)), .val (.int (4 : Int32)), .val (.ref b_246), .val (.ref b_254), .val (.ref c_283), .unset] [(.int p5), (.int p4), (.int p3), (.int p2), (.int (4 : Int32)), (.ref b_246)])) rfl (by rw [hml]; rfl) (rest := []) own_pd2 rfl rfl (by show 2 * 0 + _ ≤ _; exact Nat.le_of_eq rfl) (hb hby at_176) ?_
      intro v_293 T_293 L_293 X_293 hQ_293
      obtain ⟨rfl, N_293q, e_293⟩ := hQ_293
      have N_293 := Fr.app N_291 N_293q
      show Goes pP eE bB _ (T_293.setTop (mkF mM 179 #[.val (.int p1), .val (.int p2), .val (.int p3), .val (.int p4), .val (.int p5), .val (.int p6), .val (.int (0 : Int32)), .val (.int (4 : Int32)), .val (.ref b_246), .val (.ref b_254), .val (.ref c_283), .unset] [(.int (1 : Int32))]))
      refine Goes.step (fun _ kK => XS.ifYes X_293.here hx rfl (pc0 := 179) (pc' := 184) rfl (hb hby at_179) rfl ((if0 _ _).trans (feq (by decide)).2) (by decide) (by decide) kK) ?_
      show Goes pP eE bB _ (T_293.setTop (mkF mM 184 #[.val (.int p1), .val (.int p2), .val (.int p3), .val (.int p4), .val (.int p5), .val (.int p6), .val (.int (0 : Int32)), .val (.int (4 : Int32)), .val (.ref b_246), .val (.ref b_254), .val (.ref c_283), .unset] []))
      refine Goes.step (fun _ kK => XS.aload X_293.here hx rfl (hb hby at_184) rfl rfl kK) ?_
      show Goes pP eE bB _ (T_293.setTop (mkF mM 186 #[.val (.int p1), .val (.int p2), .val (.int p3), .val (.int p4), .val (.int p5), .val (.int p6), .val (.int (0 : Int32)), .val (.int (4 : Int32)), .val (.ref b_246), .val (.ref b_254), .val (.ref c_283), .unset] [(.ref c_283)]))
      refine Goes.callS X_293 hx hZ hown (hw _ (List.mem_of_getElem? (i := 38) rfl)) (hw _ (List.mem_of_getElem? (i := 39) rfl)) (hw _ (List.mem_of_getElem? (i := 36) rfl)) (hw _ (List.mem_of_getElem? (i := 40) rfl)) (by decide) e_293 (rmB4 l Z a0 hw c_283 p2 p3 p4 p5 h_283 n0 u_290 A_283 u_289) (W := 0) (by decide) (by decide) (by decide) (by decide) (g := (mkF mM 186 #[.val (.int p1), .val (.int p2), .val (.int p3), .val (.int p4), .val (.int p5), .val (.int p6), .val (.int (0 : Int32)), .val (.int (4 : Int32)), .val (.ref b_246), .val (.ref b_254), .val (.ref c_283), .unset] [(.ref c_283)])) rfl (by rw [hml]; rfl) (rest := []) own_pd3 rfl rfl (by show 2 * 0 + _ ≤ _; exact Nat.le_of_eq rfl) (hb hby at_186) ?_
      intro v_294 T_294 L_294 X_294 hQ_294
      generalize e_294 : T_294.heap = h_294 at hQ_294
      obtain ⟨rfl, N_294q, K_294⟩ := hQ_294
      have N_294 := Fr.app N_293 N_294q
      show Goes pP eE bB _ (T_294.setTop (mkF mM 189 #[.val (.int p1), .val (.int p2), .val (.int p3), .val (.int p4), .val (.int p5), .val (.int p6), .val (.int (0 : Int32)), .val (.int (4 : Int32)), .val (.ref b_246), .val (.ref b_254), .val (.ref c_283), .unset] []))
      refine Goes.step (fun _ kK => XS.aload X_294.here hx rfl (hb hby at_189) rfl rfl kK) ?_
      show Goes pP eE bB _ (T_294.setTop (mkF mM 191 #[.val (.int p1), .val (.int p2), .val (.int p3), .val (.int p4), .val (.int p5), .val (.int p6), .val (.int (0 : Int32)), .val (.int (4 : Int32)), .val (.ref b_246), .val (.ref b_254), .val (.ref c_283), .unset] [(.ref b_254)]))
      have u_295 := F_273.ext E_283
      have u_296 := u_295.keep K_294 (ninS (Nat.ne_of_lt u_288) nin0)
      have u_297 := Nat.le_trans u_290 K_294.1
      have u_298 := u_292.keep K_294 (ninS (Nat.ne_of_lt u_287) nin0)
      have u_299 := u_282.ext E_283
      have u_300 := u_299.keep K_294
      have u_302 := u_284.ext E_283
      have u_303 := u_302.keep K_294
      refine Goes.callV X_294 hx hZ hown (hw _ (List.mem_of_getElem? (i := 19) rfl)) (hw _ (List.mem_of_getElem? (i := 20) rfl)) (notFace_of_selects (args := #[]) (mvT hZ (hw _ (List.mem_of_getElem? (i := 22) rfl)))) (hw _ (List.mem_of_getElem? (i := 22) rfl)) (hw _ (List.mem_of_getElem? (i := 21) rfl)) (hw _ (List.mem_of_getElem? (i := 23) rfl)) (hw _ (List.mem_of_getElem? (i := 3) rfl)) (by decide) e_294 u_303 (rmA l Z a0 hw b_254 b_246 h_294 n0 u_297 4 (by decide) _ u_296 u_298 u_300) (W := 0) (by decide) (by decide) (by decide) (by decide) (g := (mkF mM 191 #[.val (.int p1), .val (.int p2), .val (.int p3), .val (.int p4), .val (.int p5), .val (.int p6), .val (.int (0 : Int32)), .val (.int (4 : Int32)), .val (.ref b_246), .val (.ref b_254), .val (.ref c_283), .unset] [(.ref b_254)])) rfl (by rw [hml]; rfl) (rest := []) own_pd1 rfl rfl (by show 2 * 0 + _ ≤ _; exact Nat.le_of_eq rfl) (hb hby at_191) ?_
      intro v_301 T_301 L_301 X_301 hQ_301
      generalize e_301 : T_301.heap = h_301 at hQ_301
      obtain ⟨c_301, rfl, N_301q, E_301, s_301, A_301, M_301⟩ := hQ_301
      have N_301 := Fr.app N_294 N_301q
      have u_304 := Nat.lt_of_lt_of_le u_286 E_283.1
      have u_305 := Nat.lt_of_lt_of_le u_304 K_294.1
      have u_306 : b_246 < c_301 := Nat.lt_of_lt_of_le u_305 s_301
      have u_307 := Nat.lt_of_lt_of_le (u_284).lt E_283.1
      have u_308 := Nat.lt_of_lt_of_le u_307 K_294.1
      have u_309 : b_254 < c_301 := Nat.lt_of_lt_of_le u_308 s_301
      have u_310 := Nat.lt_of_lt_of_le (M_283).lt K_294.1
      have u_311 : c_283 < c_301 := Nat.lt_of_lt_of_le u_310 s_301
      have u_312 : n0 ≤ c_301 := Nat.le_trans u_297 s_301
      show Goes pP eE bB _ (T_301.setTop (mkF mM 194 #[.val (.int p1), .val (.int p2), .val (.int p3), .val (.int p4), .val (.int p5), .val (.int p6), .val (.int (0 : Int32)), .val (.int (4 : Int32)), .val (.ref b_246), .val (.ref b_254), .val (.ref c_283), .unset] [(.ref c_301)]))
      refine Goes.step (fun _ kK => XS.astore X_301.here hx rfl (hb hby at_194) rfl rfl (l' := #[.val (.int p1), .val (.int p2), .val (.int p3), .val (.int p4), .val (.int p5), .val (.int p6), .val (.int (0 : Int32)), .val (.int (4 : Int32)), .val (.ref b_246), .val (.ref b_254), .val (.ref c_283), .val (.ref c_301)]) rfl kK) ?_
      show Goes pP eE bB _ (T_301.setTop (mkF mM 196 #[.val (.int p1), .val (.int p2), .val (.int p3), .val (.int p4), .val (.int p5), .val (.int p6), .val (.int (0 : Int32)), .val (.int (4 : Int32)), .val (.ref b_246), .val (.ref b_254), .val (.ref c_283), .val (.ref c_301)] []))
      refine Goes.step (fun _ kK => XS.aload X_301.here hx rfl (hb hby at_196) rfl rfl kK) ?_
      show Goes pP eE bB _ (T_301.setTop (mkF mM 198 #[.val (.int p1), .val (.int p2), .val (.int p3), .val (.int p4), .val (.int p5), .val (.int p6), .val (.int (0 : Int32)), .val (.int (4 : Int32)), .val (.ref b_246), .val (.ref b_254), .val (.ref c_283), .val (.ref c_301)] [(.ref c_301)]))
      refine Goes.step (fun _ kK => XS.ifnullNo X_301.here hx rfl (hb hby at_198) rfl kK) ?_
      show Goes pP eE bB _ (T_301.setTop (mkF mM 201 #[.val (.int p1), .val (.int p2), .val (.int p3), .val (.int p4), .val (.int p5), .val (.int p6), .val (.int (0 : Int32)), .val (.int (4 : Int32)), .val (.ref b_246), .val (.ref b_254), .val (.ref c_283), .val (.ref c_301)] []))
      refine Goes.step (fun _ kK => XS.aload X_301.here hx rfl (hb hby at_201) rfl rfl kK) ?_
      show Goes pP eE bB _ (T_301.setTop (mkF mM 203 #[.val (.int p1), .val (.int p2), .val (.int p3), .val (.int p4), .val (.int p5), .val (.int p6), .val (.int (0 : Int32)), .val (.int (4 : Int32)), .val (.ref b_246), .val (.ref b_254), .val (.ref c_283), .val (.ref c_301)] [(.ref c_301)]))
      refine Goes.step (fun _ kK => XS.aload X_301.here hx rfl (hb hby at_203) rfl rfl kK) ?_
      show Goes pP eE bB _ (T_301.setTop (mkF mM 205 #[.val (.int p1), .val (.int p2), .val (.int p3), .val (.int p4), .val (.int p5), .val (.int p6), .val (.int (0 : Int32)), .val (.int (4 : Int32)), .val (.ref b_246), .val (.ref b_254), .val (.ref c_283), .val (.ref c_301)] [(.ref b_246), (.ref c_301)]))
      refine Goes.step (fun _ kK => Jvm.RoadKit.acmp (g := (mkF mM 205 #[.val (.int p1), .val (.int p2), .val (.int p3), .val (.int p4), .val (.int p5), .val (.int p6), .val (.int (0 : Int32)), .val (.int (4 : Int32)), .val (.ref b_246), .val (.ref b_254), .val (.ref c_283), .val (.ref c_301)] [(.ref b_246), (.ref c_301)])) X_301 hx rfl rfl rfl (pc0 := 205) (pc' := 208) (same := false) rfl (hb hby at_205) rfl (decide_eq_false fun q => (Nat.ne_of_gt u_306) (Value.ref.inj q)) (by decide) (by decide) kK) ?_
      show Goes pP eE bB _ (T_301.setTop (mkF mM 208 #[.val (.int p1), .val (.int p2), .val (.int p3), .val (.int p4), .val (.int p5), .val (.int p6), .val (.int (0 : Int32)), .val (.int (4 : Int32)), .val (.ref b_246), .val (.ref b_254), .val (.ref c_283), .val (.ref c_301)] []))
      refine Goes.step (fun _ kK => XS.aload X_301.here hx rfl (hb hby at_208) rfl rfl kK) ?_
      show Goes pP eE bB _ (T_301.setTop (mkF mM 210 #[.val (.int p1), .val (.int p2), .val (.int p3), .val (.int p4), .val (.int p5), .val (.int p6), .val (.int (0 : Int32)), .val (.int (4 : Int32)), .val (.ref b_246), .val (.ref b_254), .val (.ref c_283), .val (.ref c_301)] [(.ref c_301)]))
      refine Goes.step (fun _ kK => XS.aload X_301.here hx rfl (hb hby at_210) rfl rfl kK) ?_
      show Goes pP eE bB _ (T_301.setTop (mkF mM 212 #[.val (.int p1), .val (.int p2), .val (.int p3), .val (.int p4), .val (.int p5), .val (.int p6), .val (.int (0 : Int32)), .val (.int (4 : Int32)), .val (.ref b_246), .val (.ref b_254), .val (.ref c_283), .val (.ref c_301)] [(.ref c_283), (.ref c_301)]))
      refine Goes.step (fun _ kK => Jvm.RoadKit.acmp (g := (mkF mM 212 #[.val (.int p1), .val (.int p2), .val (.int p3), .val (.int p4), .val (.int p5), .val (.int p6), .val (.int (0 : Int32)), .val (.int (4 : Int32)), .val (.ref b_246), .val (.ref b_254), .val (.ref c_283), .val (.ref c_301)] [(.ref c_283), (.ref c_301)])) X_301 hx rfl rfl rfl (pc0 := 212) (pc' := 217) (same := false) rfl (hb hby at_212) rfl (decide_eq_false fun q => (Nat.ne_of_gt u_311) (Value.ref.inj q)) (by decide) (by decide) kK) ?_
      show Goes pP eE bB _ (T_301.setTop (mkF mM 217 #[.val (.int p1), .val (.int p2), .val (.int p3), .val (.int p4), .val (.int p5), .val (.int p6), .val (.int (0 : Int32)), .val (.int (4 : Int32)), .val (.ref b_246), .val (.ref b_254), .val (.ref c_283), .val (.ref c_301)] []))
      refine Goes.step (fun _ kK => XS.aload X_301.here hx rfl (hb hby at_217) rfl rfl kK) ?_
      show Goes pP eE bB _ (T_301.setTop (mkF mM 219 #[.val (.int p1), .val (.int p2), .val (.int p3), .val (.int p4), .val (.int p5), .val (.int p6), .val (.int (0 : Int32)), .val (.int (4 : Int32)), .val (.ref b_246), .val (.ref b_254), .val (.ref c_283), .val (.ref c_301)] [(.ref c_301)]))
      refine Goes.step (fun _ kK => XS.iload X_301.here hx rfl (hb hby at_219) rfl kK) ?_
      show Goes pP eE bB _ (T_301.setTop (mkF mM 221 #[.val (.int p1), .val (.int p2), .val (.int p3), .val (.int p4), .val (.int p5), .val (.int p6), .val (.int (0 : Int32)), .val (.int (4 : Int32)), .val (.ref b_246), .val (.ref b_254), .val (.ref c_283), .val (.ref c_301)] [(.int (4 : Int32)), (.ref c_301)]))
      refine Goes.step (fun _ kK => XS.iloadN X_301.here hx rfl (hb hby at_221) rfl kK) ?_
      show Goes pP eE bB _ (T_301.setTop (mkF mM 222 #[.val (.int p1), .val (.int p2), .val (.int p3), .val (.int p4), .val (.int p5), .val (.int p6), .val (.int (0 : Int32)), .val (.int (4 : Int32)), .val (.ref b_246), .val (.ref b_254), .val (.ref c_283), .val (.ref c_301)] [(.int p2), (.int (4 : Int32)), (.ref c_301)]))
      refine Goes.step (fun _ kK => XS.iloadN X_301.here hx rfl (hb hby at_222) rfl kK) ?_
      show Goes pP eE bB _ (T_301.setTop (mkF mM 223 #[.val (.int p1), .val (.int p2), .val (.int p3), .val (.int p4), .val (.int p5), .val (.int p6), .val (.int (0 : Int32)), .val (.int (4 : Int32)), .val (.ref b_246), .val (.ref b_254), .val (.ref c_283), .val (.ref c_301)] [(.int p3), (.int p2), (.int (4 : Int32)), (.ref c_301)]))
      refine Goes.step (fun _ kK => XS.iloadN X_301.here hx rfl (hb hby at_223) rfl kK) ?_
      show Goes pP eE bB _ (T_301.setTop (mkF mM 224 #[.val (.int p1), .val (.int p2), .val (.int p3), .val (.int p4), .val (.int p5), .val (.int p6), .val (.int (0 : Int32)), .val (.int (4 : Int32)), .val (.ref b_246), .val (.ref b_254), .val (.ref c_283), .val (.ref c_301)] [(.int p4), (.int p3), (.int p2), (.int (4 : Int32)), (.ref c_301)]))
      refine Goes.step (fun _ kK => XS.iload X_301.here hx rfl (hb hby at_224) rfl kK) ?_
      show Goes pP eE bB _ (T_301.setTop (mkF mM 226 #[.val (.int p1), .val (.int p2), .val (.int p3), .val (.int p4), .val (.int p5), .val (.int p6), .val (.int (0 : Int32)), .val (.int (4 : Int32)), .val (.ref b_246), .val (.ref b_254), .val (.ref c_283), .val (.ref c_301)] [(.int p5), (.int p4), (.int p3), (.int p2), (.int (4 : Int32)), (.ref c_301)]))
      have u_313 := Nat.le_trans u_297 E_301.1
      refine Goes.callS X_301 hx hZ hown (hw _ (List.mem_of_getElem? (i := 34) rfl)) (hw _ (List.mem_of_getElem? (i := 35) rfl)) (hw _ (List.mem_of_getElem? (i := 36) rfl)) (hw _ (List.mem_of_getElem? (i := 37) rfl)) (by decide) e_301 (rmH4 l Z a0 hw c_301 p2 p3 p4 p5 h_301 n0 u_313 A_301) (W := 0) (by decide) (by decide) (by decide) (by decide) (g := (mkF mM 226 #[.val (.int p1), .val (.int p2), .val (.int p3), .val (.int p4), .val (.int p5), .val (.int p6), .val (.int (0 : Int32)), .val (.int (4 : Int32)), .val (.ref b_246), .val (.ref b_254), .val (.ref c_283), .val (.ref c_301)] [(.int p5), (.int p4), (.int p3), (.int p2), (.int (4 : Int32)), (.ref c_301)])) rfl (by rw [hml]; rfl) (rest := []) own_pd2 rfl rfl (by show 2 * 0 + _ ≤ _; exact Nat.le_of_eq rfl) (hb hby at_226) ?_
      intro v_314 T_314 L_314 X_314 hQ_314
      obtain ⟨rfl, N_314q, e_314⟩ := hQ_314
      have N_314 := Fr.app N_301 N_314q
      show Goes pP eE bB _ (T_314.setTop (mkF mM 229 #[.val (.int p1), .val (.int p2), .val (.int p3), .val (.int p4), .val (.int p5), .val (.int p6), .val (.int (0 : Int32)), .val (.int (4 : Int32)), .val (.ref b_246), .val (.ref b_254), .val (.ref c_283), .val (.ref c_301)] [(.int (1 : Int32))]))
      refine Goes.step (fun _ kK => XS.ifNo X_314.here hx rfl (hb hby at_229) rfl ((if0 _ _).trans (feq (by decide)).1) kK) ?_
      show Goes pP eE bB _ (T_314.setTop (mkF mM 232 #[.val (.int p1), .val (.int p2), .val (.int p3), .val (.int p4), .val (.int p5), .val (.int p6), .val (.int (0 : Int32)), .val (.int (4 : Int32)), .val (.ref b_246), .val (.ref b_254), .val (.ref c_283), .val (.ref c_301)] []))
      refine Goes.step (fun _ kK => XS.aload X_314.here hx rfl (hb hby at_232) rfl rfl kK) ?_
      show Goes pP eE bB _ (T_314.setTop (mkF mM 234 #[.val (.int p1), .val (.int p2), .val (.int p3), .val (.int p4), .val (.int p5), .val (.int p6), .val (.int (0 : Int32)), .val (.int (4 : Int32)), .val (.ref b_246), .val (.ref b_254), .val (.ref c_283), .val (.ref c_301)] [(.ref b_246)]))
      refine Goes.step (fun _ kK => XS.iload X_314.here hx rfl (hb hby at_234) rfl kK) ?_
      show Goes pP eE bB _ (T_314.setTop (mkF mM 236 #[.val (.int p1), .val (.int p2), .val (.int p3), .val (.int p4), .val (.int p5), .val (.int p6), .val (.int (0 : Int32)), .val (.int (4 : Int32)), .val (.ref b_246), .val (.ref b_254), .val (.ref c_283), .val (.ref c_301)] [(.int (4 : Int32)), (.ref b_246)]))
      refine Goes.step (fun _ kK => XS.iloadN X_314.here hx rfl (hb hby at_236) rfl kK) ?_
      show Goes pP eE bB _ (T_314.setTop (mkF mM 237 #[.val (.int p1), .val (.int p2), .val (.int p3), .val (.int p4), .val (.int p5), .val (.int p6), .val (.int (0 : Int32)), .val (.int (4 : Int32)), .val (.ref b_246), .val (.ref b_254), .val (.ref c_283), .val (.ref c_301)] [(.int p2), (.int (4 : Int32)), (.ref b_246)]))
      refine Goes.step (fun _ kK => XS.iloadN X_314.here hx rfl (hb hby at_237) rfl kK) ?_
      show Goes pP eE bB _ (T_314.setTop (mkF mM 238 #[.val (.int p1), .val (.int p2), .val (.int p3), .val (.int p4), .val (.int p5), .val (.int p6), .val (.int (0 : Int32)), .val (.int (4 : Int32)), .val (.ref b_246), .val (.ref b_254), .val (.ref c_283), .val (.ref c_301)] [(.int p3), (.int p2), (.int (4 : Int32)), (.ref b_246)]))
      refine Goes.step (fun _ kK => XS.iloadN X_314.here hx rfl (hb hby at_238) rfl kK) ?_
      show Goes pP eE bB _ (T_314.setTop (mkF mM 239 #[.val (.int p1), .val (.int p2), .val (.int p3), .val (.int p4), .val (.int p5), .val (.int p6), .val (.int (0 : Int32)), .val (.int (4 : Int32)), .val (.ref b_246), .val (.ref b_254), .val (.ref c_283), .val (.ref c_301)] [(.int p4), (.int p3), (.int p2), (.int (4 : Int32)), (.ref b_246)]))
      refine Goes.step (fun _ kK => XS.iload X_314.here hx rfl (hb hby at_239) rfl kK) ?_
      show Goes pP eE bB _ (T_314.setTop (mkF mM 241 #[.val (.int p1), .val (.int p2), .val (.int p3), .val (.int p4), .val (.int p5), .val (.int p6), .val (.int (0 : Int32)), .val (.int (4 : Int32)), .val (.ref b_246), .val (.ref b_254), .val (.ref c_283), .val (.ref c_301)] [(.int p5), (.int p4), (.int p3), (.int p2), (.int (4 : Int32)), (.ref b_246)]))
      have u_315 := u_298.ext E_301
      refine Goes.callS X_314 hx hZ hown (hw _ (List.mem_of_getElem? (i := 34) rfl)) (hw _ (List.mem_of_getElem? (i := 35) rfl)) (hw _ (List.mem_of_getElem? (i := 36) rfl)) (hw _ (List.mem_of_getElem? (i := 37) rfl)) (by decide) e_314 (rmH4 l Z a0 hw b_246 p2 p3 p4 p5 h_301 n0 u_313 u_315) (W := 0) (by decide) (by decide) (by decide) (by decide) (g := (mkF mM 241 #[.val (.int p1), .val (.int p2), .val (.int p3), .val (.int p4), .val (.int p5), .val (.int p6), .val (.int (0 : Int32)), .val (.int (4 : Int32)), .val (.ref b_246), .val (.ref b_254), .val (.ref c_283), .val (.ref c_301)] [(.int p5), (.int p4), (.int p3), (.int p2), (.int (4 : Int32)), (.ref b_246)])) rfl (by rw [hml]; rfl) (rest := []) own_pd2 rfl rfl (by show 2 * 0 + _ ≤ _; exact Nat.le_of_eq rfl) (hb hby at_241) ?_
      intro v_316 T_316 L_316 X_316 hQ_316
      obtain ⟨rfl, N_316q, e_316⟩ := hQ_316
      have N_316 := Fr.app N_314 N_316q
      show Goes pP eE bB _ (T_316.setTop (mkF mM 244 #[.val (.int p1), .val (.int p2), .val (.int p3), .val (.int p4), .val (.int p5), .val (.int p6), .val (.int (0 : Int32)), .val (.int (4 : Int32)), .val (.ref b_246), .val (.ref b_254), .val (.ref c_283), .val (.ref c_301)] [(.int (1 : Int32))]))
      refine Goes.step (fun _ kK => XS.ifNo X_316.here hx rfl (hb hby at_244) rfl ((if0 _ _).trans (feq (by decide)).1) kK) ?_
      show Goes pP eE bB _ (T_316.setTop (mkF mM 247 #[.val (.int p1), .val (.int p2), .val (.int p3), .val (.int p4), .val (.int p5), .val (.int p6), .val (.int (0 : Int32)), .val (.int (4 : Int32)), .val (.ref b_246), .val (.ref b_254), .val (.ref c_283), .val (.ref c_301)] []))
      refine Goes.step (fun _ kK => XS.iconst X_316.here hx rfl (hb hby at_247) kK) ?_
      show Goes pP eE bB _ (T_316.setTop (mkF mM 248 #[.val (.int p1), .val (.int p2), .val (.int p3), .val (.int p4), .val (.int p5), .val (.int p6), .val (.int (0 : Int32)), .val (.int (4 : Int32)), .val (.ref b_246), .val (.ref b_254), .val (.ref c_283), .val (.ref c_301)] [(.int (1 : Int32))]))
      refine Goes.step (fun _ kK => XS.goto X_316.here hx rfl (pc0 := 248) (pc' := 252) rfl (hb hby at_248) (by decide) (by decide) kK) ?_
      show Goes pP eE bB _ (T_316.setTop (mkF mM 252 #[.val (.int p1), .val (.int p2), .val (.int p3), .val (.int p4), .val (.int p5), .val (.int p6), .val (.int (0 : Int32)), .val (.int (4 : Int32)), .val (.ref b_246), .val (.ref b_254), .val (.ref c_283), .val (.ref c_301)] [(.int (1 : Int32))]))
      refine Goes.retN X_316 hx hlk (t := .boolean) hret (by simp) (hb hby at_252) (by decide) (by decide) ?_
      exact ⟨rfl, N_316⟩
  · refine Goes.step (fun _ kK => XS.ifNo X0.here hx rfl (hb hby at_4) rfl ((if0 _ _).trans (feq hc_1).1) kK) ?_
    show Goes pP eE bB _ (s₁.setTop (mkF mM 7 #[.val (.int p1), .val (.int p2), .val (.int p3), .val (.int p4), .val (.int p5), .val (.int p6), .unset, .unset, .unset, .unset, .unset, .unset] []))
    refine Goes.step (fun _ kK => XS.iconst X0.here hx rfl (hb hby at_7) kK) ?_
    show Goes pP eE bB _ (s₁.setTop (mkF mM 8 #[.val (.int p1), .val (.int p2), .val (.int p3), .val (.int p4), .val (.int p5), .val (.int p6), .unset, .unset, .unset, .unset, .unset, .unset] [(.int (1 : Int32))]))
    refine Goes.step (fun _ kK => XS.goto X0.here hx rfl (pc0 := 8) (pc' := 12) rfl (hb hby at_8) (by decide) (by decide) kK) ?_
    show Goes pP eE bB _ (s₁.setTop (mkF mM 12 #[.val (.int p1), .val (.int p2), .val (.int p3), .val (.int p4), .val (.int p5), .val (.int p6), .unset, .unset, .unset, .unset, .unset, .unset] [(.int (1 : Int32))]))
    refine Goes.step (fun _ kK => XS.istore X0.here hx rfl (hb hby at_12) rfl (l' := #[.val (.int p1), .val (.int p2), .val (.int p3), .val (.int p4), .val (.int p5), .val (.int p6), .val (.int (1 : Int32)), .unset, .unset, .unset, .unset, .unset]) rfl kK) ?_
    show Goes pP eE bB _ (s₁.setTop (mkF mM 14 #[.val (.int p1), .val (.int p2), .val (.int p3), .val (.int p4), .val (.int p5), .val (.int p6), .val (.int (1 : Int32)), .unset, .unset, .unset, .unset, .unset] []))
    refine Goes.step (fun _ kK => XS.iloadN X0.here hx rfl (hb hby at_14) rfl kK) ?_
    show Goes pP eE bB _ (s₁.setTop (mkF mM 15 #[.val (.int p1), .val (.int p2), .val (.int p3), .val (.int p4), .val (.int p5), .val (.int p6), .val (.int (1 : Int32)), .unset, .unset, .unset, .unset, .unset] [(.int p1)]))
    refine Goes.step (fun _ kK => X0.ldcI hx hown (mvT hZ (hw _ (List.mem_of_getElem? (i := 0) rfl))) rfl (hb hby at_15) kK) ?_
    show Goes pP eE bB _ (s₁.setTop (mkF mM 17 #[.val (.int p1), .val (.int p2), .val (.int p3), .val (.int p4), .val (.int p5), .val (.int p6), .val (.int (1 : Int32)), .unset, .unset, .unset, .unset, .unset] [(.int (2147483647 : Int32)), (.int p1)]))
    refine Goes.step (fun _ kK => XS.iand X0.here hx rfl (hb hby at_17) rfl kK) ?_
    show Goes pP eE bB _ (s₁.setTop (mkF mM 18 #[.val (.int p1), .val (.int p2), .val (.int p3), .val (.int p4), .val (.int p5), .val (.int p6), .val (.int (1 : Int32)), .unset, .unset, .unset, .unset, .unset] [(.int (p1 &&& (2147483647 : Int32)))]))
    refine Goes.step (fun _ kK => XS.iconst X0.here hx rfl (hb hby at_18) kK) ?_
    show Goes pP eE bB _ (s₁.setTop (mkF mM 19 #[.val (.int p1), .val (.int p2), .val (.int p3), .val (.int p4), .val (.int p5), .val (.int p6), .val (.int (1 : Int32)), .unset, .unset, .unset, .unset, .unset] [(.int (5 : Int32)), (.int (p1 &&& (2147483647 : Int32)))]))
    refine Goes.step (fun _ kK => Jvm.RoadKit.iremM X0 hx rfl (hb hby at_19) rfl (by decide) kK) ?_
    show Goes pP eE bB _ (s₁.setTop (mkF mM 20 #[.val (.int p1), .val (.int p2), .val (.int p3), .val (.int p4), .val (.int p5), .val (.int p6), .val (.int (1 : Int32)), .unset, .unset, .unset, .unset, .unset] [(.int ((p1 &&& (2147483647 : Int32)) % (5 : Int32)))]))
    refine Goes.step (fun _ kK => XS.istore X0.here hx rfl (hb hby at_20) rfl (l' := #[.val (.int p1), .val (.int p2), .val (.int p3), .val (.int p4), .val (.int p5), .val (.int p6), .val (.int (1 : Int32)), .val (.int ((p1 &&& (2147483647 : Int32)) % (5 : Int32))), .unset, .unset, .unset, .unset]) rfl kK) ?_
    show Goes pP eE bB _ (s₁.setTop (mkF mM 22 #[.val (.int p1), .val (.int p2), .val (.int p3), .val (.int p4), .val (.int p5), .val (.int p6), .val (.int (1 : Int32)), .val (.int ((p1 &&& (2147483647 : Int32)) % (5 : Int32))), .unset, .unset, .unset, .unset] []))
    show Goes pP eE bB _ (s₁.setTop (mkF mM 22 #[.val (.int p1), .val (.int p2), .val (.int p3), .val (.int p4), .val (.int p5), .val (.int p6), .val (.int (1 : Int32)), .val (.int ((p1 &&& (2147483647 : Int32)) % (5 : Int32))), .unset, .unset, .unset, .unset] []))
    refine Goes.step (fun _ kK => XS.iload X0.here hx rfl (hb hby at_22) rfl kK) ?_
    show Goes pP eE bB _ (s₁.setTop (mkF mM 24 #[.val (.int p1), .val (.int p2), .val (.int p3), .val (.int p4), .val (.int p5), .val (.int p6), .val (.int (1 : Int32)), .val (.int ((p1 &&& (2147483647 : Int32)) % (5 : Int32))), .unset, .unset, .unset, .unset] [(.int (1 : Int32))]))
    refine Goes.step (fun _ kK => XS.ifNo X0.here hx rfl (hb hby at_24) rfl ((if0 _ _).trans (feq (by decide)).1) kK) ?_
    show Goes pP eE bB _ (s₁.setTop (mkF mM 27 #[.val (.int p1), .val (.int p2), .val (.int p3), .val (.int p4), .val (.int p5), .val (.int p6), .val (.int (1 : Int32)), .val (.int ((p1 &&& (2147483647 : Int32)) % (5 : Int32))), .unset, .unset, .unset, .unset] []))
    refine Goes.step (fun _ kK => XS.aconstNull X0.here hx rfl (hb hby at_27) kK) ?_
    show Goes pP eE bB _ (s₁.setTop (mkF mM 28 #[.val (.int p1), .val (.int p2), .val (.int p3), .val (.int p4), .val (.int p5), .val (.int p6), .val (.int (1 : Int32)), .val (.int ((p1 &&& (2147483647 : Int32)) % (5 : Int32))), .unset, .unset, .unset, .unset] [.null]))
    refine Goes.step (fun _ kK => XS.goto X0.here hx rfl (pc0 := 28) (pc' := 35) rfl (hb hby at_28) (by decide) (by decide) kK) ?_
    show Goes pP eE bB _ (s₁.setTop (mkF mM 35 #[.val (.int p1), .val (.int p2), .val (.int p3), .val (.int p4), .val (.int p5), .val (.int p6), .val (.int (1 : Int32)), .val (.int ((p1 &&& (2147483647 : Int32)) % (5 : Int32))), .unset, .unset, .unset, .unset] [.null]))
    refine Goes.step (fun _ kK => XS.astore X0.here hx rfl (hb hby at_35) rfl rfl (l' := #[.val (.int p1), .val (.int p2), .val (.int p3), .val (.int p4), .val (.int p5), .val (.int p6), .val (.int (1 : Int32)), .val (.int ((p1 &&& (2147483647 : Int32)) % (5 : Int32))), .val .null, .unset, .unset, .unset]) rfl kK) ?_
    show Goes pP eE bB _ (s₁.setTop (mkF mM 37 #[.val (.int p1), .val (.int p2), .val (.int p3), .val (.int p4), .val (.int p5), .val (.int p6), .val (.int (1 : Int32)), .val (.int ((p1 &&& (2147483647 : Int32)) % (5 : Int32))), .val .null, .unset, .unset, .unset] []))
    refine Goes.step (fun _ kK => XS.iload X0.here hx rfl (hb hby at_37) rfl kK) ?_
    show Goes pP eE bB _ (s₁.setTop (mkF mM 39 #[.val (.int p1), .val (.int p2), .val (.int p3), .val (.int p4), .val (.int p5), .val (.int p6), .val (.int (1 : Int32)), .val (.int ((p1 &&& (2147483647 : Int32)) % (5 : Int32))), .val .null, .unset, .unset, .unset] [(.int (1 : Int32))]))
    refine Goes.step (fun _ kK => XS.ifYes X0.here hx rfl (pc0 := 39) (pc' := 90) rfl (hb hby at_39) rfl ((if0 _ _).trans (feq (by decide)).2) (by decide) (by decide) kK) ?_
    show Goes pP eE bB _ (s₁.setTop (mkF mM 90 #[.val (.int p1), .val (.int p2), .val (.int p3), .val (.int p4), .val (.int p5), .val (.int p6), .val (.int (1 : Int32)), .val (.int ((p1 &&& (2147483647 : Int32)) % (5 : Int32))), .val .null, .unset, .unset, .unset] []))
    show Goes pP eE bB _ (s₁.setTop (mkF mM 90 #[.val (.int p1), .val (.int p2), .val (.int p3), .val (.int p4), .val (.int p5), .val (.int p6), .val (.int (1 : Int32)), .val (.int ((p1 &&& (2147483647 : Int32)) % (5 : Int32))), .val .null, .unset, .unset, .unset] []))
    obtain ⟨T_317, h_317, X_317, e_317, E_317, A_317, D_317, -, st_317⟩ := newO X0 hx hZ hown (hw _ (List.mem_of_getElem? (i := 1) rfl)) (hw _ (List.mem_of_getElem? (i := 2) rfl)) (hw _ (List.mem_of_getElem? (i := 3) rfl)) e0 (g := (mkF mM 90 #[.val (.int p1), .val (.int p2), .val (.int p3), .val (.int p4), .val (.int p5), .val (.int p6), .val (.int (1 : Int32)), .val (.int ((p1 &&& (2147483647 : Int32)) % (5 : Int32))), .val .null, .unset, .unset, .unset] [])) rfl (hb hby at_90) (by decide) (by decide)
    obtain ⟨b_317, g_317⟩ : ∃ z, z = h0.size := ⟨_, rfl⟩
    rw [← g_317] at A_317 D_317 st_317
    have u_318 : n0 ≤ b_317 := Nat.le_trans Z0 (Nat.le_of_eq g_317.symm)
    have u_319 : Fld Z h_317 b_317 "com/example/anchorline/anchorline/tcap/Dialogue" "peer" "Lcom/example/anchorline/anchorline/sccp/SccpAddress;" .null := D_317 (Or.inr (hw _ (List.mem_of_getElem? (i := 14) rfl))) (ty := (.object "com/example/anchorline/anchorline/sccp/SccpAddress")) (by decide)
    have u_320 : Fld Z h_317 b_317 "com/example/anchorline/anchorline/tcap/Dialogue" "applicationContext" "[B" .null := D_317 (Or.inr (hw _ (List.mem_of_getElem? (i := 16) rfl))) (ty := (.array .byte)) (by decide)
    have u_321 : Fld Z h_317 b_317 "com/example/anchorline/anchorline/tcap/Dialogue" "state" "Lcom/example/anchorline/anchorline/tcap/Dialogue$State;" .null := D_317 (Or.inl (hw _ (List.mem_of_getElem? (i := 18) rfl))) (ty := (.object "com/example/anchorline/anchorline/tcap/Dialogue$State")) (by decide)
    refine Goes.step st_317 ?_
    show Goes pP eE bB _ (T_317.setTop (mkF mM 93 #[.val (.int p1), .val (.int p2), .val (.int p3), .val (.int p4), .val (.int p5), .val (.int p6), .val (.int (1 : Int32)), .val (.int ((p1 &&& (2147483647 : Int32)) % (5 : Int32))), .val .null, .unset, .unset, .unset] [(.ref b_317)]))
    refine Goes.step (fun _ kK => XS.dup X_317.here hx rfl (hb hby at_93) rfl rfl kK) ?_
    show Goes pP eE bB _ (T_317.setTop (mkF mM 94 #[.val (.int p1), .val (.int p2), .val (.int p3), .val (.int p4), .val (.int p5), .val (.int p6), .val (.int (1 : Int32)), .val (.int ((p1 &&& (2147483647 : Int32)) % (5 : Int32))), .val .null, .unset, .unset, .unset] [(.ref b_317), (.ref b_317)]))
    refine Goes.step (fun _ kK => XS.aconstNull X_317.here hx rfl (hb hby at_94) kK) ?_
    show Goes pP eE bB _ (T_317.setTop (mkF mM 95 #[.val (.int p1), .val (.int p2), .val (.int p3), .val (.int p4), .val (.int p5), .val (.int p6), .val (.int (1 : Int32)), .val (.int ((p1 &&& (2147483647 : Int32)) % (5 : Int32))), .val .null, .unset, .unset, .unset] [.null, (.ref b_317), (.ref b_317)]))
    refine Goes.step (fun _ kK => XS.aload X_317.here hx rfl (hb hby at_95) rfl rfl kK) ?_
    show Goes pP eE bB _ (T_317.setTop (mkF mM 97 #[.val (.int p1), .val (.int p2), .val (.int p3), .val (.int p4), .val (.int p5), .val (.int p6), .val (.int (1 : Int32)), .val (.int ((p1 &&& (2147483647 : Int32)) % (5 : Int32))), .val .null, .unset, .unset, .unset] [.null, .null, (.ref b_317), (.ref b_317)]))
    have u_323 := O0.ext E_317
    obtain ⟨T_322, X_322, e_322, st_322⟩ := getS2 X_317 hx hZ hown (host := "") (Or.inl (hw _ (List.mem_of_getElem? (i := 4) rfl))) Via.refl e_317 (SI.ext u_323.2) (g := (mkF mM 97 #[.val (.int p1), .val (.int p2), .val (.int p3), .val (.int p4), .val (.int p5), .val (.int p6), .val (.int (1 : Int32)), .val (.int ((p1 &&& (2147483647 : Int32)) % (5 : Int32))), .val .null, .unset, .unset, .unset] [.null, .null, (.ref b_317), (.ref b_317)])) rfl (hb hby at_97)
    refine Goes.step st_322 ?_
    show Goes pP eE bB _ (T_322.setTop (mkF mM 100 #[.val (.int p1), .val (.int p2), .val (.int p3), .val (.int p4), .val (.int p5), .val (.int p6), .val (.int (1 : Int32)), .val (.int ((p1 &&& (2147483647 : Int32)) % (5 : Int32))), .val .null, .unset, .unset, .unset] [(.ref wI), .null, .null, (.ref b_317), (.ref b_317)]))
    have u_324 := Nat.le_trans Z0 E_317.1
    refine Goes.callI X_322 hx hZ rfl hown (hw _ (List.mem_of_getElem? (i := 7) rfl)) (hw _ (List.mem_of_getElem? (i := 8) rfl)) (hw _ (List.mem_of_getElem? (i := 9) rfl)) (hw _ (List.mem_of_getElem? (i := 3) rfl)) (by decide) e_322 (rmC0 l Z a0 hw b_317 wI h_317 n0 u_324 A_317 u_318 u_319 u_320 u_321) (W := 1) (by decide) (by decide) (by decide) (by decide) (g := (mkF mM 100 #[.val (.int p1), .val (.int p2), .val (.int p3), .val (.int p4), .val (.int p5), .val (.int p6), .val (.int (1 : Int32)), .val (.int ((p1 &&& (2147483647 : Int32)) % (5 : Int32))), .val .null, .unset, .unset, .unset] [(.ref wI), .null, .null, (.ref b_317), (.ref b_317)])) rfl (by rw [hml]; rfl) (rest := [(.ref b_317)]) own_pd0 rfl rfl (by show 2 * 0 + _ ≤ _; exact Nat.le_of_eq rfl) (hb hby at_100) ?_
    intro v_325 T_325 L_325 X_325 hQ_325
    generalize e_325 : T_325.heap = h_325 at hQ_325
    obtain ⟨rfl, N_325q, K_325, F_325⟩ := hQ_325
    have N_325 := Fr.app N0 N_325q
    show Goes pP eE bB _ (T_325.setTop (mkF mM 103 #[.val (.int p1), .val (.int p2), .val (.int p3), .val (.int p4), .val (.int p5), .val (.int p6), .val (.int (1 : Int32)), .val (.int ((p1 &&& (2147483647 : Int32)) % (5 : Int32))), .val .null, .unset, .unset, .unset] [(.ref b_317)]))
    refine Goes.step (fun _ kK => XS.astore X_325.here hx rfl (hb hby at_103) rfl rfl (l' := #[.val (.int p1), .val (.int p2), .val (.int p3), .val (.int p4), .val (.int p5), .val (.int p6), .val (.int (1 : Int32)), .val (.int ((p1 &&& (2147483647 : Int32)) % (5 : Int32))), .val .null, .val (.ref b_317), .unset, .unset]) rfl kK) ?_
    show Goes pP eE bB _ (T_325.setTop (mkF mM 105 #[.val (.int p1), .val (.int p2), .val (.int p3), .val (.int p4), .val (.int p5), .val (.int p6), .val (.int (1 : Int32)), .val (.int ((p1 &&& (2147483647 : Int32)) % (5 : Int32))), .val .null, .val (.ref b_317), .unset, .unset] []))
    refine Goes.step (fun _ kK => XS.aload X_325.here hx rfl (hb hby at_105) rfl rfl kK) ?_
    show Goes pP eE bB _ (T_325.setTop (mkF mM 107 #[.val (.int p1), .val (.int p2), .val (.int p3), .val (.int p4), .val (.int p5), .val (.int p6), .val (.int (1 : Int32)), .val (.int ((p1 &&& (2147483647 : Int32)) % (5 : Int32))), .val .null, .val (.ref b_317), .unset, .unset] [(.ref b_317)]))
    have u_326 := Nat.le_trans u_324 K_325.1
    have u_328 := A_317.keep K_325
    refine Goes.callV X_325 hx hZ hown (hw _ (List.mem_of_getElem? (i := 19) rfl)) (hw _ (List.mem_of_getElem? (i := 20) rfl)) (notFace_of_selects (args := #[]) (mvT hZ (hw _ (List.mem_of_getElem? (i := 22) rfl)))) (hw _ (List.mem_of_getElem? (i := 22) rfl)) (hw _ (List.mem_of_getElem? (i := 21) rfl)) (hw _ (List.mem_of_getElem? (i := 23) rfl)) (hw _ (List.mem_of_getElem? (i := 3) rfl)) (by decide) e_325 u_328 (rmA0 l Z a0 hw b_317 h_325 n0 u_326 F_325) (W := 0) (by decide) (by decide) (by decide) (by decide) (g := (mkF mM 107 #[.val (.int p1), .val (.int p2), .val (.int p3), .val (.int p4), .val (.int p5), .val (.int p6), .val (.int (1 : Int32)), .val (.int ((p1 &&& (2147483647 : Int32)) % (5 : Int32))), .val .null, .val (.ref b_317), .unset, .unset] [(.ref b_317)])) rfl (by rw [hml]; rfl) (rest := []) own_pd1 rfl rfl (by show 2 * 0 + _ ≤ _; exact Nat.le_of_eq rfl) (hb hby at_107) ?_
    intro v_327 T_327 L_327 X_327 hQ_327
    obtain ⟨rfl, N_327q, e_327⟩ := hQ_327
    have N_327 := Fr.app N_325 N_327q
    show Goes pP eE bB _ (T_327.setTop (mkF mM 110 #[.val (.int p1), .val (.int p2), .val (.int p3), .val (.int p4), .val (.int p5), .val (.int p6), .val (.int (1 : Int32)), .val (.int ((p1 &&& (2147483647 : Int32)) % (5 : Int32))), .val .null, .val (.ref b_317), .unset, .unset] [.null]))
    refine Goes.step (fun _ kK => XS.astore X_327.here hx rfl (hb hby at_110) rfl rfl (l' := #[.val (.int p1), .val (.int p2), .val (.int p3), .val (.int p4), .val (.int p5), .val (.int p6), .val (.int (1 : Int32)), .val (.int ((p1 &&& (2147483647 : Int32)) % (5 : Int32))), .val .null, .val (.ref b_317), .val .null, .unset]) rfl kK) ?_
    show Goes pP eE bB _ (T_327.setTop (mkF mM 112 #[.val (.int p1), .val (.int p2), .val (.int p3), .val (.int p4), .val (.int p5), .val (.int p6), .val (.int (1 : Int32)), .val (.int ((p1 &&& (2147483647 : Int32)) % (5 : Int32))), .val .null, .val (.ref b_317), .val .null, .unset] []))
    refine Goes.step (fun _ kK => XS.iload X_327.here hx rfl (hb hby at_112) rfl kK) ?_
    show Goes pP eE bB _ (T_327.setTop (mkF mM 114 #[.val (.int p1), .val (.int p2), .val (.int p3), .val (.int p4), .val (.int p5), .val (.int p6), .val (.int (1 : Int32)), .val (.int ((p1 &&& (2147483647 : Int32)) % (5 : Int32))), .val .null, .val (.ref b_317), .val .null, .unset] [(.int (1 : Int32))]))
    refine Goes.step (fun _ kK => XS.ifNo X_327.here hx rfl (hb hby at_114) rfl ((if0 _ _).trans (feq (by decide)).1) kK) ?_
    show Goes pP eE bB _ (T_327.setTop (mkF mM 117 #[.val (.int p1), .val (.int p2), .val (.int p3), .val (.int p4), .val (.int p5), .val (.int p6), .val (.int (1 : Int32)), .val (.int ((p1 &&& (2147483647 : Int32)) % (5 : Int32))), .val .null, .val (.ref b_317), .val .null, .unset] []))
    refine Goes.step (fun _ kK => XS.aload X_327.here hx rfl (hb hby at_117) rfl rfl kK) ?_
    show Goes pP eE bB _ (T_327.setTop (mkF mM 119 #[.val (.int p1), .val (.int p2), .val (.int p3), .val (.int p4), .val (.int p5), .val (.int p6), .val (.int (1 : Int32)), .val (.int ((p1 &&& (2147483647 : Int32)) % (5 : Int32))), .val .null, .val (.ref b_317), .val .null, .unset] [.null]))
    refine Goes.step (fun _ kK => XS.ifnonnullNo X_327.here hx rfl (hb hby at_119) rfl kK) ?_
    show Goes pP eE bB _ (T_327.setTop (mkF mM 122 #[.val (.int p1), .val (.int p2), .val (.int p3), .val (.int p4), .val (.int p5), .val (.int p6), .val (.int (1 : Int32)), .val (.int ((p1 &&& (2147483647 : Int32)) % (5 : Int32))), .val .null, .val (.ref b_317), .val .null, .unset] []))
    refine Goes.step (fun _ kK => XS.aload X_327.here hx rfl (hb hby at_122) rfl rfl kK) ?_
    show Goes pP eE bB _ (T_327.setTop (mkF mM 124 #[.val (.int p1), .val (.int p2), .val (.int p3), .val (.int p4), .val (.int p5), .val (.int p6), .val (.int (1 : Int32)), .val (.int ((p1 &&& (2147483647 : Int32)) % (5 : Int32))), .val .null, .val (.ref b_317), .val .null, .unset] [(.ref b_317)]))
    refine Goes.callV X_327 hx hZ hown (hw _ (List.mem_of_getElem? (i := 19) rfl)) (hw _ (List.mem_of_getElem? (i := 20) rfl)) (notFace_of_selects (args := #[]) (mvT hZ (hw _ (List.mem_of_getElem? (i := 22) rfl)))) (hw _ (List.mem_of_getElem? (i := 22) rfl)) (hw _ (List.mem_of_getElem? (i := 21) rfl)) (hw _ (List.mem_of_getElem? (i := 23) rfl)) (hw _ (List.mem_of_getElem? (i := 3) rfl)) (by decide) e_327 u_328 (rmA0 l Z a0 hw b_317 h_325 n0 u_326 F_325) (W := 0) (by decide) (by decide) (by decide) (by decide) (g := (mkF mM 124 #[.val (.int p1), .val (.int p2), .val (.int p3), .val (.int p4), .val (.int p5), .val (.int p6), .val (.int (1 : Int32)), .val (.int ((p1 &&& (2147483647 : Int32)) % (5 : Int32))), .val .null, .val (.ref b_317), .val .null, .unset] [(.ref b_317)])) rfl (by rw [hml]; rfl) (rest := []) own_pd1 rfl rfl (by show 2 * 0 + _ ≤ _; exact Nat.le_of_eq rfl) (hb hby at_124) ?_
    intro v_329 T_329 L_329 X_329 hQ_329
    obtain ⟨rfl, N_329q, e_329⟩ := hQ_329
    have N_329 := Fr.app N_327 N_329q
    show Goes pP eE bB _ (T_329.setTop (mkF mM 127 #[.val (.int p1), .val (.int p2), .val (.int p3), .val (.int p4), .val (.int p5), .val (.int p6), .val (.int (1 : Int32)), .val (.int ((p1 &&& (2147483647 : Int32)) % (5 : Int32))), .val .null, .val (.ref b_317), .val .null, .unset] [.null]))
    refine Goes.step (fun _ kK => XS.ifnonnullNo X_329.here hx rfl (hb hby at_127) rfl kK) ?_
    show Goes pP eE bB _ (T_329.setTop (mkF mM 130 #[.val (.int p1), .val (.int p2), .val (.int p3), .val (.int p4), .val (.int p5), .val (.int p6), .val (.int (1 : Int32)), .val (.int ((p1 &&& (2147483647 : Int32)) % (5 : Int32))), .val .null, .val (.ref b_317), .val .null, .unset] []))
    refine Goes.step (fun _ kK => XS.iconst X_329.here hx rfl (hb hby at_130) kK) ?_
    show Goes pP eE bB _ (T_329.setTop (mkF mM 131 #[.val (.int p1), .val (.int p2), .val (.int p3), .val (.int p4), .val (.int p5), .val (.int p6), .val (.int (1 : Int32)), .val (.int ((p1 &&& (2147483647 : Int32)) % (5 : Int32))), .val .null, .val (.ref b_317), .val .null, .unset] [(.int (1 : Int32))]))
    refine Goes.step (fun _ kK => XS.goto X_329.here hx rfl (pc0 := 131) (pc' := 135) rfl (hb hby at_131) (by decide) (by decide) kK) ?_
    show Goes pP eE bB _ (T_329.setTop (mkF mM 135 #[.val (.int p1), .val (.int p2), .val (.int p3), .val (.int p4), .val (.int p5), .val (.int p6), .val (.int (1 : Int32)), .val (.int ((p1 &&& (2147483647 : Int32)) % (5 : Int32))), .val .null, .val (.ref b_317), .val .null, .unset] [(.int (1 : Int32))]))
    refine Goes.retN X_329 hx hlk (t := .boolean) hret (by simp) (hb hby at_135) (by decide) (by decide) ?_
    exact ⟨rfl, N_329⟩
set_option maxRecDepth 65536 in
set_option maxHeartbeats 40000000 in
theorem comes_1 {Post : Tables → Env → Array Value → State → Outcome → State → Prop} (hpost : ∀ tb e args s v u, (limb_1_1.after args s (.returned v) u = true ∧ limb_1_2.after args s (.returned v) u = true ∧ True) → FrameEnd s (.returned v) u (Jvm.fieldLocs frame_1_writes args s ++ Jvm.arrayLocs frame_1_arrays args s ++ Jvm.staticLocs frame_1_statics s) 16 128 → Post tb e args s (.returned v) u) :
    ArmFor flags0 classFile x code maxLocals ret World_1 tables_1 room_1 Calls_1 rest_1 Pre_1 Post := by
  intro l hfl _ _ p e ha hc hk s m args below hf hA hF happ hP
  obtain ⟨hcalls, hrest, hpre⟩ := hP
  obtain ⟨-, -, -, hnamed, -, -, -, hat⟩ := (Spec.applies_iff hf).mp happ
  obtain ⟨hg, hn⟩ := and_e (Cond.before_iff.mp (show (Jvm.Cond.and given_1 narrow_1).before args s = true from hpre))
  obtain ⟨hcnt, g0⟩ := and_e hg
  obtain ⟨q0, g1⟩ := and_e g0
  obtain ⟨q1, g2⟩ := and_e g1
  obtain ⟨q2, g3⟩ := and_e g2
  obtain ⟨q3, g4⟩ := and_e g3
  obtain ⟨q4, g5⟩ := and_e g4
  have q5 := g5
  obtain ⟨w0, w1, w2, w3, w4, w5, rfl⟩ : ∃ w0 w1 w2 w3 w4 w5 : Value, args = #[w0, w1, w2, w3, w4, w5] := by
    have hs : args.size = 6 := by simpa [Cond.value, given_1] using hcnt
    obtain ⟨L⟩ := args
    match L, hs with
    | [w0, w1, w2, w3, w4, w5], _ => exact ⟨w0, w1, w2, w3, w4, w5, rfl⟩
  have hw := fun d (hd : d ∈ tables_1) => atoms_spec (ws := Jvm.Cond.code x code maxLocals ret :: tables_1) hat d (List.mem_cons_of_mem _ hd)
  obtain ⟨i0, e0⟩ := is_v q0
  obtain rfl : w0 = (.int i0) := Option.some.inj e0
  obtain ⟨i1, e1⟩ := is_v q1
  obtain rfl : w1 = (.int i1) := Option.some.inj e1
  obtain ⟨i2, e2⟩ := is_v q2
  obtain rfl : w2 = (.int i2) := Option.some.inj e2
  obtain ⟨i3, e3⟩ := is_v q3
  obtain rfl : w3 = (.int i3) := Option.some.inj e3
  obtain ⟨i4, e4⟩ := is_v q4
  obtain rfl : w4 = (.int i4) := Option.some.inj e4
  obtain ⟨i5, e5⟩ := is_v q5
  obtain rfl : w5 = (.int i5) := Option.some.inj e5
  obtain ⟨wI, vI⟩ := exa_v hn
  have SI := Sta.start vI (Or.inr ⟨hw _ (List.mem_of_getElem? (i := 5) rfl), hw _ (List.mem_of_getElem? (i := 6) rfl)⟩)
  obtain ⟨n, o, h1, h2, h3, _, L, rfl, ⟨rfl, N⟩, hq⟩ := rm0 l s _ hw i0 i1 i2 i3 i4 i5 wI s.heap s.heap.size (Nat.le_refl _) SI (Old.start s) tables_1 p e ha hc hk s m _ below hf ((Spec.applies_iff_loose hf).mp happ).1 ⟨rfl, State.Warmed39.refl s, rfl⟩ trivial
  refine ⟨n, _, h1, h2, h3, hpost _ _ _ _ _ _ ⟨Cond.after_iff.mpr rfl, Cond.after_iff.mpr (eq_i res_at (Term.int_eval (1)) rfl), trivial⟩ ⟨hq.1, hq.2.1, (hq.2.2.sift fun y hy => Or.inr (N y hy)).mono (by decide) (by decide)⟩⟩
theorem main_1_1 : Claimed_1_1 := comes_1 fun _ _ _ _ _ _ h hF => ⟨h.1, hF⟩
theorem main_1_2 : Claimed_1_2 := comes_1 fun _ _ _ _ _ _ h hF => ⟨h.2.1, hF⟩
end Jvm.Pilot.@@N@@
namespace Jvm.Pilot.@@N@@
open Jvm Jvm.ClassFile Sem Op Lib Jvm.Free Jvm.Stand Jvm.Pilot.@@N@@.Jvm.D
/-! MADE BY PROGRAM (witnessworld.py) out of the Statement's table words and the real class files: 13 classes; the members and pool entries that the words name. The judged class is class 1, her method 1. -/
namespace start1
open Jvm.ClassFile
def u (s : String) : CpInfo := .utf8 (stringToUtf16 s)
/-- a pool by its gaps: so many unusable entries, then the entry; so many at the end -/
def gap : Nat → List CpInfo → List CpInfo
  | 0, r => r
  | n + 1, r => .unusable :: gap n r
def poolList (es : List (Nat × CpInfo)) (last : Nat) : List CpInfo := es.foldr (fun e r => gap e.1 (e.2 :: r)) (gap last [])
def pool (es : List (Nat × CpInfo)) (last : Nat) : Array CpInfo := ⟨poolList es last⟩
def fileOf (pool : Array CpInfo) (this : Nat) (attrs : Array Attribute := #[]) (ms : Array MethodInfo := #[]) (fl : Nat := 33) (sup : Nat := 0) (ifs : Array Nat := #[]) (fds : Array FieldInfo := #[]) : ClassFile where
  minorVersion := 0
  majorVersion := 65
  constantPool := pool
  accessFlags := fl
  thisClass := this
  superClass := sup
  interfaces := ifs
  fields := fds
  methods := ms
  attributes := attrs
def plain (name : String) (sup : Option ClassId) : Class where
  name := name
  kind := .ordinary
  loader := none
  accessFlags := 33
  super := sup
  interfaces := #[]
  cf := none
  fields := #[]
  methods := #[]
  instanceTypes := #[]
  staticTypes := #[]
  resolved := #[]
  callSites := []
  init := .initialized
  statics := none
  mirror := none

def pool0 : Array CpInfo := pool [(5, u "<init>"), (0, u "()V"), (1, .class_ 10), (1, u "java/lang/Object"), (85, u "clone"), (0, u "()Ljava/lang/Object;")] 26

def k0c0 : Code := { maxStack := 0, maxLocals := 1, code := object_method_1_code, exceptionTable := #[], attributes := #[] }
def k0m0 : Method := { name := "<init>", desc := "()V", sig := { parameters := [], returnType := none }, accessFlags := 1, code := some k0c0 }
def k0m1 : Method := { name := "clone", desc := "()Ljava/lang/Object;", sig := { parameters := [], returnType := some (.object "java/lang/Object") }, accessFlags := 260, code := none }
/-- java/lang/Object -/
def k0 : Class := { plain "java/lang/Object" none with
  accessFlags := 33
  interfaces := #[]
  cf := some (fileOf pool0 8 #[] #[{ accessFlags := 1, nameIndex := 5, descriptorIndex := 6, attributes := #[] }, { accessFlags := 260, nameIndex := 96, descriptorIndex := 97, attributes := #[] }] 33 0 #[] #[])
  fields := #[]
  methods := #[k0m0, k0m1]
  instanceTypes := #[]
  staticTypes := #[]
  resolved := Array.replicate 124 none
  statics := none }

def pool1 : Array CpInfo := pool [(2, .class_ 4), (1, u "java/lang/Object"), (0, u "<init>"), (0, u "()V"), (0, .integer 2147483647), (0, .class_ 9), (0, u "com/example/anchorline/anchorline/tcap/Dialogue"), (0, .fieldref 11 12), (0, .class_ 13), (0, .nameAndType 14 15), (0, u "com/example/anchorline/anchorline/tcap/Dialogue$State"), (0, u "IDLE"), (0, u "Lcom/example/anchorline/anchorline/tcap/Dialogue$State;"), (0, .methodref 8 17), (0, .nameAndType 5 18), (0, u "(Lcom/example/anchorline/anchorline/sccp/SccpAddress;[BLcom/example/anchorline/anchorline/tcap/Dialogue$State;)V"), (0, .methodref 8 20), (0, .nameAndType 21 22), (0, u "applicationContext"), (0, u "()[B"), (0, .methodref 24 25), (0, .class_ 26), (0, .nameAndType 27 28), (0, u "com/example/anchorline/anchorline/tcap/DialogueApplicationContextPinLaw"), (0, u "holds"), (0, u "([BIIIII)Z"), (0, .methodref 24 30), (0, .nameAndType 31 32), (0, u "bump"), (0, u "([B)V"), (2, u "law"), (0, u "(IIIIII)Z")] 7

def k1m0 : Method := { name := "<init>", desc := "()V", sig := { parameters := [], returnType := none }, accessFlags := 1, code := none }
def k1c1 : Code := { maxStack := 6, maxLocals := 12, code := code, exceptionTable := #[], attributes := #[] }
def k1m1 : Method := { name := "law", desc := "(IIIIII)Z", sig := { parameters := [.int, .int, .int, .int, .int, .int], returnType := some .boolean }, accessFlags := 9, code := some k1c1 }
def k1c2 : Code := { maxStack := 2, maxLocals := 7, code := method_3_code, exceptionTable := #[], attributes := #[] }
def k1m2 : Method := { name := "holds", desc := "([BIIIII)Z", sig := { parameters := [(.array .byte), .int, .int, .int, .int, .int], returnType := some .boolean }, accessFlags := 10, code := some k1c2 }
def k1c3 : Code := { maxStack := 4, maxLocals := 1, code := method_4_code, exceptionTable := #[], attributes := #[] }
def k1m3 : Method := { name := "bump", desc := "([B)V", sig := { parameters := [(.array .byte)], returnType := none }, accessFlags := 10, code := some k1c3 }
/-- com/example/anchorline/anchorline/tcap/DialogueApplicationContextPinLaw -/
def k1 : Class := { plain "com/example/anchorline/anchorline/tcap/DialogueApplicationContextPinLaw" (some 0) with
  accessFlags := 49
  interfaces := #[]
  cf := some (fileOf pool1 24 #[] #[{ accessFlags := 1, nameIndex := 5, descriptorIndex := 6, attributes := #[] }, { accessFlags := 9, nameIndex := 35, descriptorIndex := 36, attributes := #[] }, { accessFlags := 10, nameIndex := 27, descriptorIndex := 28, attributes := #[] }, { accessFlags := 10, nameIndex := 31, descriptorIndex := 32, attributes := #[] }] 49 2 #[] #[])
  fields := #[]
  methods := #[k1m0, k1m1, k1m2, k1m3]
  instanceTypes := #[]
  staticTypes := #[]
  resolved := Array.replicate 44 none
  statics := none }

def pool2 : Array CpInfo := pool [(1, .methodref 2 3), (0, .class_ 4), (0, .nameAndType 5 6), (0, u "java/lang/Object"), (0, u "<init>"), (0, u "()V"), (0, .fieldref 8 9), (0, .class_ 10), (0, .nameAndType 11 12), (0, u "com/example/anchorline/anchorline/tcap/Dialogue"), (0, u "peer"), (0, u "Lcom/example/anchorline/anchorline/sccp/SccpAddress;"), (0, .fieldref 8 14), (0, .nameAndType 15 16), (0, u "applicationContext"), (0, u "[B"), (0, .fieldref 8 18), (0, .nameAndType 19 20), (0, u "state"), (0, u "Lcom/example/anchorline/anchorline/tcap/Dialogue$State;"), (0, .methodref 22 23), (0, .class_ 16), (0, .nameAndType 24 25), (0, u "clone"), (0, u "()Ljava/lang/Object;"), (2, u "lastInvokeId"), (0, u "I"), (2, u "localId"), (10, u "MAX_INVOKE_ID"), (2, u "remoteId"), (0, u "user"), (0, u "Lcom/example/anchorline/anchorline/tcap/Tcap$DialogueUser;"), (0, u "abortInformation"), (0, u "(Lcom/example/anchorline/anchorline/sccp/SccpAddress;[BLcom/example/anchorline/anchorline/tcap/Dialogue$State;)V"), (3, u "()[B"), (8, .class_ 64), (0, u "com/example/anchorline/anchorline/tcap/Dialogue$State")] 21

def k2c0 : Code := { maxStack := 2, maxLocals := 4, code := prog_133_method_1_code, exceptionTable := #[], attributes := #[] }
def k2m0 : Method := { name := "<init>", desc := "(Lcom/example/anchorline/anchorline/sccp/SccpAddress;[BLcom/example/anchorline/anchorline/tcap/Dialogue$State;)V", sig := { parameters := [(.object "com/example/anchorline/anchorline/sccp/SccpAddress"), (.array .byte), (.object "com/example/anchorline/anchorline/tcap/Dialogue$State")], returnType := none }, accessFlags := 0, code := some k2c0 }
def k2c1 : Code := { maxStack := 1, maxLocals := 1, code := prog_133_method_3_code, exceptionTable := #[], attributes := #[] }
def k2m1 : Method := { name := "applicationContext", desc := "()[B", sig := { parameters := [], returnType := some (.array .byte) }, accessFlags := 1, code := some k2c1 }
/-- com/example/anchorline/anchorline/tcap/Dialogue -/
def k2 : Class := { plain "com/example/anchorline/anchorline/tcap/Dialogue" (some 0) with
  accessFlags := 49
  interfaces := #[]
  cf := some (fileOf pool2 8 #[.nestMembers #[63]] #[{ accessFlags := 0, nameIndex := 5, descriptorIndex := 50, attributes := #[] }, { accessFlags := 1, nameIndex := 15, descriptorIndex := 54, attributes := #[] }] 49 2 #[] #[{ accessFlags := 26, nameIndex := 43, descriptorIndex := 29, attributes := #[] }, { accessFlags := 18, nameIndex := 11, descriptorIndex := 12, attributes := #[] }, { accessFlags := 18, nameIndex := 15, descriptorIndex := 16, attributes := #[] }, { accessFlags := 0, nameIndex := 32, descriptorIndex := 29, attributes := #[] }, { accessFlags := 0, nameIndex := 46, descriptorIndex := 16, attributes := #[] }, { accessFlags := 0, nameIndex := 19, descriptorIndex := 20, attributes := #[] }, { accessFlags := 0, nameIndex := 47, descriptorIndex := 48, attributes := #[] }, { accessFlags := 0, nameIndex := 49, descriptorIndex := 16, attributes := #[] }, { accessFlags := 2, nameIndex := 28, descriptorIndex := 29, attributes := #[] }])
  fields := #[{ name := "MAX_INVOKE_ID", type := .int, accessFlags := 26, slot := 0, constantValue := 0 }, { name := "peer", type := (.object "com/example/anchorline/anchorline/sccp/SccpAddress"), accessFlags := 18, slot := 0, constantValue := 0 }, { name := "applicationContext", type := (.array .byte), accessFlags := 18, slot := 1, constantValue := 0 }, { name := "localId", type := .int, accessFlags := 0, slot := 2, constantValue := 0 }, { name := "remoteId", type := (.array .byte), accessFlags := 0, slot := 3, constantValue := 0 }, { name := "state", type := (.object "com/example/anchorline/anchorline/tcap/Dialogue$State"), accessFlags := 0, slot := 4, constantValue := 0 }, { name := "user", type := (.object "com/example/anchorline/anchorline/tcap/Tcap$DialogueUser"), accessFlags := 0, slot := 5, constantValue := 0 }, { name := "abortInformation", type := (.array .byte), accessFlags := 0, slot := 6, constantValue := 0 }, { name := "lastInvokeId", type := .int, accessFlags := 2, slot := 7, constantValue := 0 }]
  methods := #[k2m0, k2m1]
  instanceTypes := #[(.object "com/example/anchorline/anchorline/sccp/SccpAddress"), (.array .byte), .int, (.array .byte), (.object "com/example/anchorline/anchorline/tcap/Dialogue$State"), (.object "com/example/anchorline/anchorline/tcap/Tcap$DialogueUser"), (.array .byte), .int]
  staticTypes := #[.int]
  resolved := Array.replicate 86 none
  statics := none }

def pool3 : Array CpInfo := pool [(1, .class_ 2), (0, u "java/lang/constant/Constable"), (0, .class_ 4), (0, u "java/lang/Object")] 6

/-- java/lang/constant/Constable -/
def k3 : Class := { plain "java/lang/constant/Constable" (some 0) with
  accessFlags := 1537
  interfaces := #[]
  cf := some (fileOf pool3 1 #[] #[] 1537 3 #[] #[])
  fields := #[]
  methods := #[]
  instanceTypes := #[]
  staticTypes := #[]
  resolved := Array.replicate 11 none
  statics := none }

def pool4 : Array CpInfo := pool [(1, .class_ 2), (0, u "java/lang/Comparable"), (0, .class_ 4), (0, u "java/lang/Object")] 7

/-- java/lang/Comparable -/
def k4 : Class := { plain "java/lang/Comparable" (some 0) with
  accessFlags := 1537
  interfaces := #[]
  cf := some (fileOf pool4 1 #[] #[] 1537 3 #[] #[])
  fields := #[]
  methods := #[]
  instanceTypes := #[]
  staticTypes := #[]
  resolved := Array.replicate 12 none
  statics := none }

def pool5 : Array CpInfo := pool [(1, .class_ 2), (0, u "java/io/Serializable"), (0, .class_ 4), (0, u "java/lang/Object")] 2

/-- java/io/Serializable -/
def k5 : Class := { plain "java/io/Serializable" (some 0) with
  accessFlags := 1537
  interfaces := #[]
  cf := some (fileOf pool5 1 #[] #[] 1537 3 #[] #[])
  fields := #[]
  methods := #[]
  instanceTypes := #[]
  staticTypes := #[]
  resolved := Array.replicate 7 none
  statics := none }

def pool6 : Array CpInfo := pool [(2, .class_ 4), (1, u "java/lang/Enum"), (0, u "name"), (0, u "Ljava/lang/String;"), (2, u "ordinal"), (0, u "I"), (1, .class_ 14), (1, u "java/lang/Object"), (4, u "hash"), (86, .class_ 108), (1, u "java/lang/Enum$EnumDesc"), (2, .class_ 112), (0, u "java/lang/constant/Constable"), (0, .class_ 114), (0, u "java/lang/Comparable"), (0, .class_ 116), (0, u "java/io/Serializable")] 87

/-- java/lang/Enum -/
def k6 : Class := { plain "java/lang/Enum" (some 0) with
  accessFlags := 1057
  interfaces := #[3, 4, 5]
  cf := some (fileOf pool6 2 #[.nestMembers #[106]] #[] 1057 12 #[111, 113, 115] #[{ accessFlags := 18, nameIndex := 5, descriptorIndex := 6, attributes := #[] }, { accessFlags := 18, nameIndex := 9, descriptorIndex := 10, attributes := #[] }, { accessFlags := 2, nameIndex := 19, descriptorIndex := 10, attributes := #[] }])
  fields := #[{ name := "name", type := (.object "java/lang/String"), accessFlags := 18, slot := 0, constantValue := 0 }, { name := "ordinal", type := .int, accessFlags := 18, slot := 1, constantValue := 0 }, { name := "hash", type := .int, accessFlags := 2, slot := 2, constantValue := 0 }]
  methods := #[]
  instanceTypes := #[(.object "java/lang/String"), .int, .int]
  staticTypes := #[]
  resolved := Array.replicate 204 none
  statics := none }

def pool7 : Array CpInfo := pool [(1, .class_ 2), (0, u "com/example/anchorline/anchorline/tcap/Dialogue$State"), (2, u "IDLE"), (0, u "Lcom/example/anchorline/anchorline/tcap/Dialogue$State;"), (2, u "INITIATION_SENT"), (2, u "ABORT_WHEN_ANSWERED"), (2, u "INITIATION_RECEIVED"), (2, u "ACTIVE"), (2, u "CLOSED"), (2, u "$VALUES"), (0, u "[Lcom/example/anchorline/anchorline/tcap/Dialogue$State;"), (6, .class_ 34), (1, u "java/lang/Enum"), (29, .class_ 65), (0, u "com/example/anchorline/anchorline/tcap/Dialogue")] 2

/-- com/example/anchorline/anchorline/tcap/Dialogue$State -/
def k7 : Class := { plain "com/example/anchorline/anchorline/tcap/Dialogue$State" (some 6) with
  accessFlags := 16432
  interfaces := #[]
  cf := some (fileOf pool7 1 #[.nestHost 64] #[] 16432 32 #[] #[{ accessFlags := 16409, nameIndex := 5, descriptorIndex := 6, attributes := #[] }, { accessFlags := 16409, nameIndex := 9, descriptorIndex := 6, attributes := #[] }, { accessFlags := 16409, nameIndex := 12, descriptorIndex := 6, attributes := #[] }, { accessFlags := 16409, nameIndex := 15, descriptorIndex := 6, attributes := #[] }, { accessFlags := 16409, nameIndex := 18, descriptorIndex := 6, attributes := #[] }, { accessFlags := 16409, nameIndex := 21, descriptorIndex := 6, attributes := #[] }, { accessFlags := 4122, nameIndex := 24, descriptorIndex := 25, attributes := #[] }])
  fields := #[{ name := "IDLE", type := (.object "com/example/anchorline/anchorline/tcap/Dialogue$State"), accessFlags := 16409, slot := 0, constantValue := 0 }, { name := "INITIATION_SENT", type := (.object "com/example/anchorline/anchorline/tcap/Dialogue$State"), accessFlags := 16409, slot := 1, constantValue := 0 }, { name := "ABORT_WHEN_ANSWERED", type := (.object "com/example/anchorline/anchorline/tcap/Dialogue$State"), accessFlags := 16409, slot := 2, constantValue := 0 }, { name := "INITIATION_RECEIVED", type := (.object "com/example/anchorline/anchorline/tcap/Dialogue$State"), accessFlags := 16409, slot := 3, constantValue := 0 }, { name := "ACTIVE", type := (.object "com/example/anchorline/anchorline/tcap/Dialogue$State"), accessFlags := 16409, slot := 4, constantValue := 0 }, { name := "CLOSED", type := (.object "com/example/anchorline/anchorline/tcap/Dialogue$State"), accessFlags := 16409, slot := 5, constantValue := 0 }, { name := "$VALUES", type := (.array (.object "com/example/anchorline/anchorline/tcap/Dialogue$State")), accessFlags := 4122, slot := 6, constantValue := 0 }]
  methods := #[]
  instanceTypes := #[(.object "java/lang/String"), .int, .int]
  staticTypes := #[(.object "com/example/anchorline/anchorline/tcap/Dialogue$State"), (.object "com/example/anchorline/anchorline/tcap/Dialogue$State"), (.object "com/example/anchorline/anchorline/tcap/Dialogue$State"), (.object "com/example/anchorline/anchorline/tcap/Dialogue$State"), (.object "com/example/anchorline/anchorline/tcap/Dialogue$State"), (.object "com/example/anchorline/anchorline/tcap/Dialogue$State"), (.array (.object "com/example/anchorline/anchorline/tcap/Dialogue$State"))]
  resolved := Array.replicate 68 none
  statics := some 0 }

def pool8 : Array CpInfo := pool [(1, .class_ 2), (0, u "java/lang/Cloneable"), (0, .class_ 4), (0, u "java/lang/Object")] 2

/-- java/lang/Cloneable -/
def k8 : Class := { plain "java/lang/Cloneable" (some 0) with
  accessFlags := 1537
  interfaces := #[]
  cf := some (fileOf pool8 1 #[] #[] 1537 3 #[] #[])
  fields := #[]
  methods := #[]
  instanceTypes := #[]
  staticTypes := #[]
  resolved := Array.replicate 7 none
  statics := none }

/-- the primitive byte -/
def k9 : Class := { plain "byte" none with kind := .primitive 'B', accessFlags := 0x411 }
/-- [B -/
def k10 : Class := { plain "[B" (some 0) with kind := .array 9 .byte, interfaces := #[8, 5], accessFlags := 1041 }

/-- the primitive int -/
def k11 : Class := { plain "int" none with kind := .primitive 'I', accessFlags := 0x411 }
/-- [I -/
def k12 : Class := { plain "[I" (some 0) with kind := .array 11 .int, interfaces := #[8, 5], accessFlags := 1041 }

def heap : Heap := #[{ cls := 7, slots := #[.ref 1, .null, .null, .null, .null, .null, .null], vm := .statics 7 },
  { cls := 7, slots := #[.null, .int 0, .int 0], vm := .none }]
def classes : Array Class := #[k0, k1, k2, k3, k4, k5, k6, k7, k8, k9, k10, k11, k12]
def interned : List (Array UInt16 × Addr) := []
def slotsUsed : Nat := 10
def theMethod : MethodId := ⟨1, 1⟩
def args0 : Array Value := #[.int 2, .int 7, .int 8, .int 9, .int 10, .int 4]
def aboutOver (below : List Frame) : State where
  vm := { classes := classes, interned := interned.toArray }
  heap := heap
  slotsUsed := slotsUsed
  threads := #[{ frames := .invoking theMethod args0 :: below }]
def below0 : List Frame := [.native { method := ⟨0, 0⟩, args := #[] }]
def about1 : State := aboutOver below0
def p0 : Program := .bare "" "" ""
def e0 : Env := launch0.env 0 0 0
theorem w_frames : about1.frames = Frame.invoking theMethod args0 :: below0 := rfl
set_option maxRecDepth 65536 in
theorem w_args : argsFit about1.vm theMethod args0 = true := by decide +kernel
set_option maxRecDepth 65536 in
theorem w_heap : heapFits about1 = true := by decide +kernel
set_option maxRecDepth 65536 in
theorem w_runnable : about1.curStatus? = some .runnable := by decide +kernel
set_option maxRecDepth 65536 in
theorem w_alone : about1.alone = true := by decide +kernel
set_option maxRecDepth 65536 in
theorem w_named : about1.methodNamed? x = some theMethod := by decide +kernel
set_option maxRecDepth 65536 in
theorem w_hears : about1.hears theMethod below0 = true := by decide +kernel
set_option maxRecDepth 65536 in
theorem w_ripe : about1.ripe theMethod args0 below0 = true := by decide +kernel
theorem w_running : about1.status = .running := rfl
set_option maxRecDepth 65536 in
theorem w_room : about1.hasRoom e0.platform room_1 = true :=
  launch0.hasRoom_least _ room_1 (by decide +kernel) (by decide +kernel) (by decide +kernel) (by decide +kernel) (by decide +kernel) (by decide +kernel)
theorem allAtoms_all (ts : List Jvm.Cond) (a : Array Jvm.Value) (st : Jvm.State) : (allAtoms ts).before a st = ts.all (fun c => c.before a st) := by
  induction ts with
  | nil => rfl
  | cons c t ih =>
    show (Jvm.Cond.and c (allAtoms t)).before a st = _
    rw [Jvm.Cond.before_and, ih, List.all_cons]
def words1 : List Jvm.Cond := Jvm.Cond.code x code maxLocals ret :: tables_1
/-- a 'code' word, met by the world's own term for the bytes: nothing is compared byte by byte -/
theorem code_word {y : MethodName} {bytes : ByteArray} {mx : Nat} {rt : Option FieldType} {a : Array Value} {s : State} {m : MethodId} {meth : Method} {c : Code} (h1 : s.methodNamed? y = some m) (h2 : s.vm.method? m = some meth) (h3 : meth.code = some c) (h4 : c.code = bytes)
    (h5 : (c.maxLocals == mx && c.exceptionTable.isEmpty && decide (c.maxStack ≤ mostOperands) && decide (meth.sig.returnType = rt) && !meth.locks && decide (parseMethodDescriptor y.desc = some meth.sig)) = true) : (Jvm.Cond.code y bytes mx rt).before a s = true := by
  simp only [Bool.and_eq_true, beq_iff_eq, Bool.not_eq_true', decide_eq_true_eq] at h5
  obtain ⟨⟨⟨⟨⟨g1, g2⟩, g3⟩, g4⟩, g5⟩, g6⟩ := h5
  simp [Cond.before, Cond.holds, Cond.value, h1, h2, h3, h4, g1, g2, g3, g4, g5, g6]
def isCode : Jvm.Cond → Bool
  | .code _ _ _ _ => true
  | _ => false
theorem all_split {L : List Jvm.Cond} {P : Jvm.Cond → Bool} (h1 : L.all (fun c => isCode c || P c) = true) (h2 : ∀ c ∈ L.filter isCode, P c = true) : L.all P = true := by
  refine List.all_eq_true.mpr fun c hc => ?_
  have h := List.all_eq_true.mp h1 c hc
  rcases Bool.eq_false_or_eq_true (isCode c) with hi | hi
  · exact h2 c (List.mem_filter.mpr ⟨hc, hi⟩)
  · simpa [hi] using h
set_option maxRecDepth 65536 in
theorem w_c0 : (Jvm.Cond.code x code maxLocals ret).before args0 about1 = true := code_word (m := ⟨1, 1⟩) (meth := k1m1) (c := k1c1) (by decide +kernel) rfl rfl rfl (by decide +kernel)
set_option maxRecDepth 65536 in
theorem w_c1 : (Jvm.Cond.code ({ cls := "com/example/anchorline/anchorline/tcap/Dialogue", name := "<init>", desc := "(Lcom/example/anchorline/anchorline/sccp/SccpAddress;[BLcom/example/anchorline/anchorline/tcap/Dialogue$State;)V" } : Jvm.MethodName) prog_133_method_1_code (4 : Nat) (Option.none : Option Jvm.ClassFile.FieldType)).before args0 about1 = true := code_word (m := ⟨2, 0⟩) (meth := k2m0) (c := k2c0) (by decide +kernel) rfl rfl rfl (by decide +kernel)
set_option maxRecDepth 65536 in
theorem w_c2 : (Jvm.Cond.code ({ cls := "java/lang/Object", name := "<init>", desc := "()V" } : Jvm.MethodName) object_method_1_code (1 : Nat) (Option.none : Option Jvm.ClassFile.FieldType)).before args0 about1 = true := code_word (m := ⟨0, 0⟩) (meth := k0m0) (c := k0c0) (by decide +kernel) rfl rfl rfl (by decide +kernel)
set_option maxRecDepth 65536 in
theorem w_c3 : (Jvm.Cond.code ({ cls := "com/example/anchorline/anchorline/tcap/Dialogue", name := "applicationContext", desc := "()[B" } : Jvm.MethodName) prog_133_method_3_code (1 : Nat) (Option.some (Jvm.ClassFile.FieldType.array Jvm.ClassFile.FieldType.byte))).before args0 about1 = true := code_word (m := ⟨2, 1⟩) (meth := k2m1) (c := k2c1) (by decide +kernel) rfl rfl rfl (by decide +kernel)
set_option maxRecDepth 65536 in
theorem w_c4 : (Jvm.Cond.code ({ cls := "com/example/anchorline/anchorline/tcap/DialogueApplicationContextPinLaw", name := "holds", desc := "([BIIIII)Z" } : Jvm.MethodName) method_3_code (7 : Nat) (Option.some Jvm.ClassFile.FieldType.boolean)).before args0 about1 = true := code_word (m := ⟨1, 2⟩) (meth := k1m2) (c := k1c2) (by decide +kernel) rfl rfl rfl (by decide +kernel)
set_option maxRecDepth 65536 in
theorem w_c5 : (Jvm.Cond.code ({ cls := "com/example/anchorline/anchorline/tcap/DialogueApplicationContextPinLaw", name := "bump", desc := "([B)V" } : Jvm.MethodName) method_4_code (1 : Nat) (Option.none : Option Jvm.ClassFile.FieldType)).before args0 about1 = true := code_word (m := ⟨1, 3⟩) (meth := k1m3) (c := k1c3) (by decide +kernel) rfl rfl rfl (by decide +kernel)
def codes1 : List Jvm.Cond := [Jvm.Cond.code x code maxLocals ret, Jvm.Cond.code ({ cls := "com/example/anchorline/anchorline/tcap/Dialogue", name := "<init>", desc := "(Lcom/example/anchorline/anchorline/sccp/SccpAddress;[BLcom/example/anchorline/anchorline/tcap/Dialogue$State;)V" } : Jvm.MethodName) prog_133_method_1_code (4 : Nat) (Option.none : Option Jvm.ClassFile.FieldType), Jvm.Cond.code ({ cls := "java/lang/Object", name := "<init>", desc := "()V" } : Jvm.MethodName) object_method_1_code (1 : Nat) (Option.none : Option Jvm.ClassFile.FieldType), Jvm.Cond.code ({ cls := "com/example/anchorline/anchorline/tcap/Dialogue", name := "applicationContext", desc := "()[B" } : Jvm.MethodName) prog_133_method_3_code (1 : Nat) (Option.some (Jvm.ClassFile.FieldType.array Jvm.ClassFile.FieldType.byte)), Jvm.Cond.code ({ cls := "com/example/anchorline/anchorline/tcap/DialogueApplicationContextPinLaw", name := "holds", desc := "([BIIIII)Z" } : Jvm.MethodName) method_3_code (7 : Nat) (Option.some Jvm.ClassFile.FieldType.boolean), Jvm.Cond.code ({ cls := "com/example/anchorline/anchorline/tcap/DialogueApplicationContextPinLaw", name := "bump", desc := "([B)V" } : Jvm.MethodName) method_4_code (1 : Nat) (Option.none : Option Jvm.ClassFile.FieldType)]
set_option maxRecDepth 65536 in
theorem codes_eq : words1.filter isCode = codes1 := rfl
theorem w_codes : ∀ c ∈ words1.filter isCode, c.before args0 about1 = true := by
  rw [codes_eq]
  intro c hc
  simp only [codes1, List.mem_cons, List.not_mem_nil, or_false] at hc
  rcases hc with rfl | rfl | rfl | rfl | rfl | rfl
  · exact w_c0
  · exact w_c1
  · exact w_c2
  · exact w_c3
  · exact w_c4
  · exact w_c5
set_option maxRecDepth 65536 in
theorem w_t1 : (words1.take 24).all (fun c => isCode c || c.before args0 about1) = true := by decide +kernel
set_option maxRecDepth 65536 in
theorem w_t2 : (words1.drop 24).all (fun c => isCode c || c.before args0 about1) = true := by decide +kernel
theorem w_tables : (allAtoms (Jvm.Cond.code x code maxLocals ret :: tables_1)).before args0 about1 = true := by
  rw [allAtoms_all]
  show words1.all (fun c => c.before args0 about1) = true
  refine all_split ?_ w_codes
  rw [← List.take_append_drop 24 words1, List.all_append, w_t1, w_t2]
  rfl
set_option maxRecDepth 65536 in
theorem w_case : (Jvm.Cond.and given_1 narrow_1).before args0 about1 = true := by decide +kernel
theorem w_applies : (headSpec (Jvm.Cond.code x code maxLocals ret :: tables_1) room_1).applies x e0.platform about1 = true :=
  (Spec.applies_iff w_frames).mpr ⟨w_running, w_runnable, w_alone, w_named, w_hears, w_ripe, w_room, w_tables⟩
theorem atStart : AtStart classFile x code maxLocals ret World_1 tables_1 room_1 Calls_1 rest_1 Pre_1 launch0 p0 e0 about1 theMethod args0 below0 :=
  ⟨lists_1, trivial, launch0.admits_env _ _ _, launch0.least_env, fairChoices_fair.cas, fairChoices_fair.clock, w_frames, w_args, w_heap, w_applies, trivial, trivial, w_case⟩
end start1
theorem witness_1 : WitnessClaimed_1 := ⟨start1.p0, start1.e0, start1.about1, start1.theMethod, start1.args0, start1.below0, start1.atStart⟩
end Jvm.Pilot.@@N@@
