import JvmDerived
import JvmDerived.Pilot.@@N@@Statement
import JvmDerived.Pilot.@@N@@Code
set_option linter.unusedVariables false
set_option linter.unusedSimpArgs false
@@BLOCK:NumsL.lean.txt@@
namespace Jvm.Pilot.@@N@@
open Jvm Jvm.ClassFile Sem Op Lib Jvm.Free Jvm.Stand Jvm.LawKit Jvm.RoadKit Bundle Jvm.Pilot.@@N@@.Jvm.D
section Own
variable {p : Program} {l : Launch} {e : Env} {R : Room} {s : State} {m : MethodId} {args : Array Value} {below : List Frame} {meth : Method} {c : Code} {T : State} {locs : List Loc} {cells slots : Nat} {Z : State} {a0 : Array Value} {h : Heap}
/-- from t the run comes to an end that P speaks of -/
def Goes (p : Program) (e : Env) (below : List Frame) (P : State → Outcome → Prop) (t : State) : Prop :=
  ∃ s₂ o, Steps p.tables e below t s₂ ∧ s₂.status = .running ∧ Ended s₂ below o ∧ P s₂ o
/-- it returned, what Q says, and the frame -/
def Aim (s : State) (Q : Option Value → Heap → List Loc → Prop) (k n : Nat) (s₂ : State) (o : Outcome) : Prop :=
  ∃ v L, o = .returned v ∧ Q v s₂.heap L ∧ FrameEnd s o s₂ L k n
theorem Goes.step {P : State → Outcome → Prop} {t t' : State} (st : ∀ tgt, Steps p.tables e below t' tgt → Steps p.tables e below t tgt) (q : Goes p e below P t') : Goes p e below P t := by
  obtain ⟨s₂, o, k, r⟩ := q
  exact ⟨s₂, o, st _ k, r⟩
theorem Goes.tr {P : State → Outcome → Prop} {t t' : State} (st : Steps p.tables e below t t') (q : Goes p e below P t') : Goes p e below P t := by
  obtain ⟨s₂, o, k, r⟩ := q
  exact ⟨s₂, o, st.trans k, r⟩
theorem Goes.retN (X : Stand p l e R s m args below meth c T locs cells slots) (hx : p.tables.exec = Jvm.exec) (hlk : meth.locks = false) {t : FieldType} (hret : meth.sig.returnType = some t) (ht : t = .boolean ∨ t = .byte ∨ t = .char ∨ t = .short) {pc : Nat} {Ls : Array Slot} {z : Int32} {rest : List Value}
    (hd : decode c.code pc = .ok (.ireturn, 1)) {Q : Option Value → Heap → List Loc → Prop} {k n : Nat} (hk : cells ≤ k) (hn : slots ≤ n) (hQ : Q (some (.int (nar t z))) T.heap locs) :
    Goes p e below (Aim s Q k n) (T.setTop (mkF m pc Ls (.int z :: rest))) := by
  obtain ⟨fs, hr, hrun, hended, hW, hsame⟩ := X.leave (v := some (.int (nar t z))) (fun h => by rw [hret] at h; cases h) hlk
  exact ⟨_, _, Jvm.RoadKit.retN X hx hret ht hd hr, hrun, hended, _, _, rfl, hQ, ⟨_, rfl⟩, hW, hsame.mono hk hn⟩
theorem Goes.ret (X : Stand p l e R s m args below meth c T locs cells slots) (hx : p.tables.exec = Jvm.exec) (hlk : meth.locks = false) {t : FieldType} (hret : meth.sig.returnType = some t) {w : Value} (hnr : narrow t w = w) {i : Instr} {pc : Nat} {Ls : Array Slot} {rest : List Value}
    (hi : (i = .ireturn ∧ (t = .int ∨ t = .boolean ∨ t = .byte ∨ t = .char ∨ t = .short) ∧ ∃ z, w = .int z) ∨ (i = .lreturn ∧ t = .long ∧ ∃ z, w = .long z) ∨ (i = .dreturn ∧ t = .double ∧ ∃ z, w = .double z) ∨ (i = .freturn ∧ t = .float ∧ ∃ z, w = .float z) ∨ (i = .areturn ∧ t.isReference = true ∧ w.isRef = true))
    (hd : decode c.code pc = .ok (i, 1)) {Q : Option Value → Heap → List Loc → Prop} {k n : Nat} (hk : cells ≤ k) (hn : slots ≤ n) (hQ : Q (some w) T.heap locs) :
    Goes p e below (Aim s Q k n) (T.setTop (mkF m pc Ls (w :: rest))) := by
  obtain ⟨fs, hr, hrun, hended, hW, hsame⟩ := X.leave (v := some w) (fun h => by rw [hret] at h; cases h) hlk
  exact ⟨_, _, Jvm.RoadKit.retOut X hx hret hnr hi hd hr, hrun, hended, _, _, rfl, hQ, ⟨_, rfl⟩, hW, hsame.mono hk hn⟩
theorem Goes.ret0 (X : Stand p l e R s m args below meth c T locs cells slots) (hx : p.tables.exec = Jvm.exec) (hlk : meth.locks = false) (hret : meth.sig.returnType = none) {pc : Nat} {Ls : Array Slot}
    (hd : decode c.code pc = .ok (.return_, 1)) {Q : Option Value → Heap → List Loc → Prop} {k n : Nat} (hk : cells ≤ k) (hn : slots ≤ n) (hQ : Q none T.heap locs) :
    Goes p e below (Aim s Q k n) (T.setTop (mkF m pc Ls [])) := by
  obtain ⟨fs, hr, hrun, hended, hW, hsame⟩ := X.leave (v := none) (fun _ => rfl) hlk
  exact ⟨_, _, X.returnOut hx hret hd hr, hrun, hended, _, _, rfl, hQ, ⟨_, rfl⟩, hW, hsame.mono hk hn⟩
/-- a body's contract: called with these arguments over the heap h0 it returns, and Q says what it leaves -/
def Con (l : Launch) (Z : State) (y : MethodName) (bytes : ByteArray) (maxL : Nat) (ret : Option FieldType) (rm : Room) (as : Array Value) (h0 : Heap) (Q : Option Value → Heap → List Loc → Prop) : Prop :=
  ∀ ws : List Jvm.Cond, MetFree l y (head1 (Jvm.Cond.code y bytes maxL ret :: ws) rm) (fun a U => a = as ∧ Z.Warmed39 U.vm ∧ U.heap = h0) (fun _ _ _ _ _ => True) (fun _ U o U' => ∃ v L, o = .returned v ∧ Q v U'.heap L ∧ FrameEnd U o U' L rm.cells rm.slots)
theorem Con.body {y : MethodName} {bytes : ByteArray} {maxL : Nat} {ret : Option FieldType} {rm : Room} {as : Array Value} {h0 : Heap} {Q : Option Value → Heap → List Loc → Prop} (hp : plainFor y = true)
    (H : ∀ (p : Program) (e : Env) (s : State) (m : MethodId) (below : List Frame) (meth : Method) (c : Code) (s₁ : State), p.tables.exec = Jvm.exec → c.code = bytes → c.maxLocals = maxL → Z.Warmed39 s.vm → s.vm.findClass y.cls = some m.cls → meth.name = y.name → meth.sig.returnType = ret → meth.locks = false →
      Stand p l e rm s m as below meth c s₁ [] 0 0 → s₁.heap = h0 → Goes p e below (Aim s Q rm.cells rm.slots) (s₁.setTop (entryFrame m as maxL))) :
    Con l Z y bytes maxL ret rm as h0 Q := by
  intro ws
  refine MetFree.of_bodySF hp hisR ?_
  intro p e s m args below meth c s₁ Bd hml0 hP hK
  obtain ⟨rfl, hZ, hh⟩ := hP
  exact H p e s m below meth c s₁ Bd.exec Bd.bytes hml0 hZ (findClass_of_methodNamed Bd.named) (name_of_methodNamed Bd.named Bd.method).1 Bd.returns Bd.notSynchronized (Stand.of_body Bd) (by rw [← hh, Bd.state]; rfl)
theorem Goes.callS (X : Stand p l e R s m args below meth c T locs cells slots) (hx : p.tables.exec = Jvm.exec) (hZ : Z.Warmed39 s.vm) {own : String} {index : Nat} {y : MethodName} {bytes : ByteArray} {maxL : Nat} {ret : Option FieldType} {rm : Room} {as : List Value} {Q : Option Value → Heap → List Loc → Prop} (hown : s.vm.findClass own = some m.cls)
    (w1 : (Jvm.Cond.methodLink own index y).before a0 Z = true) (w2 : (Jvm.Cond.static y).before a0 Z = true) (w3 : (Jvm.Cond.initialized y.cls).before a0 Z = true) (w4 : (Jvm.Cond.code y bytes maxL ret).before a0 Z = true) (hy : y.cls ≠ "java/lang/invoke/MethodHandle" ∧ y.cls ≠ "java/lang/invoke/VarHandle")
    (eT : T.heap = h) (hM : Con l Z y bytes maxL ret rm as.toArray h Q) {W : Nat} (hf : rm.frames + 1 ≤ R.frames) (hl : W + (maxL + 11) + rm.locals ≤ R.locals) (hc : cells + rm.cells ≤ R.cells) (hs : slots + rm.slots ≤ R.slots)
    {g : JFrame} (hg : g.method = m) (hsize : g.locals.size = c.maxLocals) {rest : List Value} {ps : List FieldType} {r : Option FieldType} (hd : parseMethodDescriptor y.desc = some ⟨ps, r⟩) (hlen : as.length = ps.length) (hstack : g.stack = as.reverse ++ rest) (hW : 2 * g.monitorRoom + (rest.map fun v => v.category).sum ≤ W) (hdg : decode c.code g.pc = .ok (.invokestatic index, 3))
    {P : State → Outcome → Prop} (k : ∀ v T' L, Stand p l e R s m args below meth c T' (locs ++ L) (cells + rm.cells) (slots + rm.slots) → Q v T'.heap L → Goes p e below P (T'.setTop { g with pc := g.pc + 3, stack := v.toList ++ rest })) :
    Goes p e below P (T.setTop g) := by
  obtain ⟨v, vm₁, ⟨T', L', k', n'⟩, -, X', ⟨L, hQ, l', y', z'⟩, st⟩ := Jvm.LawKit.callS X hx hown (mvT hZ w1) (mvT hZ w2) (mvT hZ w3) (mvT hZ w4) hy (backOf (W := W) (hM []) hZ w4 w3 hf hl) (g := g) hg hsize (argsL := as) (rest := rest) (lenOf hd hlen) hstack hW hdg (fun _ _ => ⟨rfl, eT, hc, hs⟩)
  try dsimp only at X' hQ l' y' z' st
  subst l' y' z'
  exact Goes.step st (k v T' L X' hQ)
theorem Goes.callV (X : Stand p l e R s m args below meth c T locs cells slots) (hx : p.tables.exec = Jvm.exec) (hZ : Z.Warmed39 s.vm) {own C : String} {index : Nat} {y z : MethodName} {bytes : ByteArray} {maxL : Nat} {ret : Option FieldType} {rm : Room} {as : List Value} {Q : Option Value → Heap → List Loc → Prop} (hown : s.vm.findClass own = some m.cls)
    (w1 : (Jvm.Cond.methodLink own index y).before a0 Z = true) (w2 : (Jvm.Cond.declares y).before a0 Z = true) (hnf : NotFace s y) (w3 : (Jvm.Cond.selects C y z).before a0 Z = true) (w4 : (Jvm.Cond.instanceMethod z).before a0 Z = true) (w5 : (Jvm.Cond.code z bytes maxL ret).before a0 Z = true) (w6 : (Jvm.Cond.initialized z.cls).before a0 Z = true) (hy : y.cls ≠ "java/lang/invoke/MethodHandle" ∧ y.cls ≠ "java/lang/invoke/VarHandle")
    (eT : T.heap = h) {b : Addr} (E : Exa Z h b C) (hM : Con l Z z bytes maxL ret rm (.ref b :: as).toArray h Q) {W : Nat} (hf : rm.frames + 1 ≤ R.frames) (hl : W + (maxL + 11) + rm.locals ≤ R.locals) (hc : cells + rm.cells ≤ R.cells) (hs : slots + rm.slots ≤ R.slots)
    {g : JFrame} (hg : g.method = m) (hsize : g.locals.size = c.maxLocals) {rest : List Value} {ps : List FieldType} {r : Option FieldType} (hd : parseMethodDescriptor y.desc = some ⟨ps, r⟩) (hlen : as.length = ps.length) (hstack : g.stack = as.reverse ++ .ref b :: rest) (hW : 2 * g.monitorRoom + (rest.map fun v => v.category).sum ≤ W) (hdg : decode c.code g.pc = .ok (.invokevirtual index, 3))
    {P : State → Outcome → Prop} (k : ∀ v T' L, Stand p l e R s m args below meth c T' (locs ++ L) (cells + rm.cells) (slots + rm.slots) → Q v T'.heap L → Goes p e below P (T'.setTop { g with pc := g.pc + 3, stack := v.toList ++ rest })) :
    Goes p e below P (T.setTop g) := by
  obtain ⟨cB, kB, q1, -, q3⟩ := isOf hZ eT E
  obtain ⟨v, vm₁, ⟨T', L', k', n'⟩, -, X', ⟨L, hQ, l', y', z'⟩, st⟩ := X.virtualBack hx (y := y) (z := z) hown (mvT hZ w1) (mvT hZ w2) hnf (mvT hZ w3) (mvT hZ w4) hy (backOf (W := W) (hM []) hZ w5 w6 hf hl) q1 q3 (g := g) hg hsize (Steps.refl _) (argsL := as) (rest := rest) (lenOf hd hlen) hstack hW hdg (fun _ _ => ⟨rfl, eT, hc, hs⟩)
  try dsimp only at X' hQ l' y' z' st
  subst l' y' z'
  exact Goes.tr st (k v T' L X' hQ)
theorem Goes.callI (X : Stand p l e R s m args below meth c T locs cells slots) (hx : p.tables.exec = Jvm.exec) (hZ : Z.Warmed39 s.vm) {own : String} {index : Nat} {y : MethodName} {bytes : ByteArray} {maxL : Nat} {rm : Room} {as : List Value} {Q : Option Value → Heap → List Loc → Prop} (hy1 : y.name = "<init>") (hown : s.vm.findClass own = some m.cls)
    (w1 : (Jvm.Cond.methodLink own index y).before a0 Z = true) (w2 : (Jvm.Cond.instanceMethod y).before a0 Z = true) (w3 : (Jvm.Cond.code y bytes maxL none).before a0 Z = true) (w4 : (Jvm.Cond.initialized y.cls).before a0 Z = true) (hy : y.cls ≠ "java/lang/invoke/MethodHandle" ∧ y.cls ≠ "java/lang/invoke/VarHandle")
    (eT : T.heap = h) {b : Addr} (hM : Con l Z y bytes maxL none rm (.ref b :: as).toArray h Q) {W : Nat} (hf : rm.frames + 1 ≤ R.frames) (hl : W + (maxL + 11) + rm.locals ≤ R.locals) (hc : cells + rm.cells ≤ R.cells) (hs : slots + rm.slots ≤ R.slots)
    {g : JFrame} (hg : g.method = m) (hsize : g.locals.size = c.maxLocals) {rest : List Value} {ps : List FieldType} {r : Option FieldType} (hd : parseMethodDescriptor y.desc = some ⟨ps, r⟩) (hlen : as.length = ps.length) (hstack : g.stack = as.reverse ++ .ref b :: rest) (hW : 2 * g.monitorRoom + (rest.map fun v => v.category).sum ≤ W) (hdg : decode c.code g.pc = .ok (.invokespecial index, 3))
    {P : State → Outcome → Prop} (k : ∀ v T' L, Stand p l e R s m args below meth c T' (locs ++ L) (cells + rm.cells) (slots + rm.slots) → Q v T'.heap L → Goes p e below P (T'.setTop { g with pc := g.pc + 3, stack := v.toList ++ rest })) :
    Goes p e below P (T.setTop g) := by
  obtain ⟨v, vm₁, ⟨T', L', k', n'⟩, -, X', ⟨L, hQ, l', y', z'⟩, st⟩ := X.specialBack hx (y := y) hy1 hown (mvT hZ w1) (mvT hZ w2) (mvT hZ w3) hy (backOf (W := W) (hM []) hZ w3 w4 hf hl) (g := g) hg hsize (Steps.refl _) (a := b) (argsL := as) (rest := rest) (lenOf hd hlen) hstack hW hdg (fun _ _ => ⟨rfl, eT, hc, hs⟩)
  try dsimp only at X' hQ l' y' z' st
  subst l' y' z'
  exact Goes.tr st (k v T' L X' hQ)
theorem own_refR {v : Value} (h : v.isRef = true) : v = .null ∨ ∃ a, v = .ref a := by
  cases v <;> first | exact Or.inl rfl | exact Or.inr ⟨_, rfl⟩ | cases h
theorem jlt {a b : Int64} : lcmpW a b < 0 ↔ a < b := by rw [lcW]; exact lc_lt a b
theorem jgt {a b : Int64} : 0 < lcmpW a b ↔ b < a := by rw [lcW]; exact lc_gt a b
theorem jeq {a b : Int64} : lcmpW a b = 0 ↔ a = b := by rw [lcW]; exact lc_eq a b
end Own
section OwnHeap
variable {p : Program} {l : Launch} {e : Env} {R : Room} {s : State} {m : MethodId} {args : Array Value} {below : List Frame} {meth : Method} {c : Code} {T : State} {locs : List Loc} {cells slots : Nat} {Z : State} {a0 : Array Value} {h h' : Heap} {a b : Addr} {ty : FieldType} {n : Nat} {f f' : Nat → Value} {sl : Nat} {v : Value} {ws : List Addr}
theorem own_ix {j : Int32} {i n : Nat} (hj : j.toInt = (i : Int)) (hi : i < n) : ¬ (j < 0 ∨ n ≤ j.toNatClampNeg) := by
  simp only [Int32.lt_iff_toInt_lt, Int32.toNatClampNeg, hj, Int32.reduceToInt]; omega
theorem own_ixn {j : Int32} {i : Nat} (hj : j.toInt = (i : Int)) : j.toNatClampNeg = i := by
  simp only [Int32.toNatClampNeg, hj]; omega
/-- the array at a holds n places, the i-th f i -/
def Afn (Z : State) (h : Heap) (a : Addr) (ty : FieldType) (n : Nat) (f : Nat → Value) : Prop :=
  ∃ c : Cell, Arr Z h a c ty ∧ c.slots.size = n ∧ n < 2 ^ 31 ∧ (∀ i, i < n → c.slots[i]? = some (f i)) ∧ ∀ i, i < n → fits ty (f i) = true
theorem Afn.lt (F : Afn Z h a ty n f) : a < h.size := by obtain ⟨c, A, -⟩ := F; exact A.lt
theorem Afn.ext (F : Afn Z h a ty n f) (E : Ext h h') : Afn Z h' a ty n f := by obtain ⟨c, A, r⟩ := F; exact ⟨c, A.ext E, r⟩
theorem Afn.other (F : Afn Z h b ty n f) (W : Wr h h' a sl v) (q : b ≠ a) : Afn Z h' b ty n f := by obtain ⟨c, A, r⟩ := F; exact ⟨c, A.other W q, r⟩
theorem Afn.keep (F : Afn Z h a ty n f) (K : Keep h h' ws) (q : a ∉ ws) : Afn Z h' a ty n f := by obtain ⟨c, A, r⟩ := F; exact ⟨c, ⟨K.2.1 a c A.1 q, A.2⟩, r⟩
theorem Afn.congr (F : Afn Z h a ty n f) (q : ∀ i, i < n → f i = f' i) : Afn Z h a ty n f' := by
  obtain ⟨c, A, S, B, H, G⟩ := F
  exact ⟨c, A, S, B, fun i hi => by rw [← q i hi]; exact H i hi, fun i hi => by rw [← q i hi]; exact G i hi⟩
theorem Afn.new {k : ClassId} {z : Int32} (A : Arr Z h a (newA k ty z) ty) (q : z.toInt = (n : Int)) : Afn Z h a ty n (fun _ => defaultValue ty) := by
  obtain ⟨c, A', -, S, q3, H, G⟩ := Arv.new A (by rw [Int32.lt_iff_toInt_lt, q]; simp only [Int32.reduceToInt]; omega)
  rw [own_ixn q] at S
  refine ⟨c, A', S, ?_, fun i hi => H i (by rw [S]; exact hi), fun i hi => G i (by rw [S]; exact hi)⟩
  have := z.toInt_lt
  omega
theorem Afn.set {i : Nat} (F : Afn Z h a ty n f) (W : Wr h h' a i v) (hv : fits ty v = true) : Afn Z h' a ty n (fun x => if x = i then v else f x) := by
  obtain ⟨c, A, S, B, H, G⟩ := F
  refine ⟨_, A.same W, by rw [sz_set]; exact S, B, fun x hx => ?_, fun x hx => ?_⟩
  · show _ = some (if x = i then v else f x)
    by_cases q : x = i
    · subst q
      rw [if_pos rfl]
      have hx' : x < c.slots.size := by rw [S]; exact hx
      simp [Cell.setSlot, hx']
    · rw [if_neg q, ← H x hx]
      exact Array.getElem?_setIfInBounds_ne (Ne.symm q)
  · by_cases q : x = i
    · simp only [q, if_true]; exact hv
    · simp only [if_neg q]; exact G x hx
theorem Goes.iastore (X : Stand p l e R s m args below meth c T locs cells slots) (hx : p.tables.exec = Jvm.exec) (hZ : Z.Warmed39 s.vm) (eT : T.heap = h) (A : Afn Z h a .int n f) {j : Int32} {i : Nat} (hj : j.toInt = (i : Int)) (hi : i < n) {x : Int32} {g : JFrame} (hg : g.method = m) {rest : List Value} (hs : g.stack = .int x :: .int j :: .ref a :: rest) (hd : decode c.code g.pc = .ok (.iastore, 1)) {P : State → Outcome → Prop}
    (k : ∀ T' h', Stand p l e R s m args below meth c T' (locs ++ [⟨a, i⟩]) cells slots → T'.heap = h' → Wr h h' a i (.int x) → Afn Z h' a .int n (fun z => if z = i then .int x else f z) → Goes p e below P (T'.setTop { g with pc := g.pc + 1, stack := rest })) : Goes p e below P (T.setTop g) := by
  obtain ⟨cl, A1, S, -⟩ := id A
  obtain ⟨T', h', X', e', W, st⟩ := stI X hx hZ eT A1 (j := j) (by rw [S]; exact own_ix hj hi) hg hs hd
  rw [own_ixn hj] at X' W
  exact Goes.step st (k T' h' X' e' W (A.set W rfl))
theorem Goes.lastore (X : Stand p l e R s m args below meth c T locs cells slots) (hx : p.tables.exec = Jvm.exec) (hZ : Z.Warmed39 s.vm) (eT : T.heap = h) (A : Afn Z h a .long n f) {j : Int32} {i : Nat} (hj : j.toInt = (i : Int)) (hi : i < n) {x : Int64} {g : JFrame} (hg : g.method = m) {rest : List Value} (hs : g.stack = .long x :: .int j :: .ref a :: rest) (hd : decode c.code g.pc = .ok (.lastore, 1)) {P : State → Outcome → Prop}
    (k : ∀ T' h', Stand p l e R s m args below meth c T' (locs ++ [⟨a, i⟩]) cells slots → T'.heap = h' → Wr h h' a i (.long x) → Afn Z h' a .long n (fun z => if z = i then .long x else f z) → Goes p e below P (T'.setTop { g with pc := g.pc + 1, stack := rest })) : Goes p e below P (T.setTop g) := by
  obtain ⟨cl, A1, S, -⟩ := id A
  obtain ⟨T', h', X', e', W, st⟩ := stJ X hx hZ eT A1 (j := j) (by rw [S]; exact own_ix hj hi) hg hs hd
  rw [own_ixn hj] at X' W
  exact Goes.step st (k T' h' X' e' W (A.set W rfl))
theorem Goes.bastore (X : Stand p l e R s m args below meth c T locs cells slots) (hx : p.tables.exec = Jvm.exec) (hZ : Z.Warmed39 s.vm) (eT : T.heap = h) (A : Afn Z h a .byte n f) {j : Int32} {i : Nat} (hj : j.toInt = (i : Int)) (hi : i < n) {x : Int32} {g : JFrame} (hg : g.method = m) {rest : List Value} (hs : g.stack = .int x :: .int j :: .ref a :: rest) (hd : decode c.code g.pc = .ok (.bastore, 1)) {P : State → Outcome → Prop}
    (k : ∀ T' h', Stand p l e R s m args below meth c T' (locs ++ [⟨a, i⟩]) cells slots → T'.heap = h' → Wr h h' a i (.int x.toInt8.toInt32) → Afn Z h' a .byte n (fun z => if z = i then .int x.toInt8.toInt32 else f z) → Goes p e below P (T'.setTop { g with pc := g.pc + 1, stack := rest })) : Goes p e below P (T.setTop g) := by
  obtain ⟨cl, A1, S, -⟩ := id A
  obtain ⟨T', h', X', e', W, st⟩ := stB X hx hZ eT A1 (j := j) (by rw [S]; exact own_ix hj hi) hg hs hd
  rw [own_ixn hj] at X' W
  exact Goes.step st (k T' h' X' e' W (A.set W (fits_nar_byte x)))
theorem Goes.castore (X : Stand p l e R s m args below meth c T locs cells slots) (hx : p.tables.exec = Jvm.exec) (hZ : Z.Warmed39 s.vm) (eT : T.heap = h) (A : Afn Z h a .char n f) {j : Int32} {i : Nat} (hj : j.toInt = (i : Int)) (hi : i < n) {x : Int32} {g : JFrame} (hg : g.method = m) {rest : List Value} (hs : g.stack = .int x :: .int j :: .ref a :: rest) (hd : decode c.code g.pc = .ok (.castore, 1)) {P : State → Outcome → Prop}
    (k : ∀ T' h', Stand p l e R s m args below meth c T' (locs ++ [⟨a, i⟩]) cells slots → T'.heap = h' → Wr h h' a i (.int (nar .char x)) → Afn Z h' a .char n (fun z => if z = i then .int (nar .char x) else f z) → Goes p e below P (T'.setTop { g with pc := g.pc + 1, stack := rest })) : Goes p e below P (T.setTop g) := by
  obtain ⟨cl, A1, S, -⟩ := id A
  obtain ⟨T', h', X', e', W, st⟩ := stC X hx hZ eT A1 (j := j) (by rw [S]; exact own_ix hj hi) hg hs hd
  rw [own_ixn hj] at X' W
  exact Goes.step st (k T' h' X' e' W (A.set W (fits_nar_char x)))
theorem Goes.iaload (X : Stand p l e R s m args below meth c T locs cells slots) (hx : p.tables.exec = Jvm.exec) (hZ : Z.Warmed39 s.vm) (eT : T.heap = h) (A : Afn Z h a .int n f) {j : Int32} {i : Nat} (hj : j.toInt = (i : Int)) (hi : i < n) (hv : f i = v) {g : JFrame} (hg : g.method = m) {rest : List Value} (hs : g.stack = .int j :: .ref a :: rest) (hd : decode c.code g.pc = .ok (.iaload, 1)) {P : State → Outcome → Prop}
    (k : Goes p e below P (T.setTop { g with pc := g.pc + 1, stack := v :: rest })) : Goes p e below P (T.setTop g) := by
  obtain ⟨cl, A1, S, B, H, G⟩ := A
  exact Goes.step (fun tgt q => X.iaload hx (j := j) (v := v) (by rw [eT]; exact A1.1) (State.isArrayOf_alike hZ.alike A1.2.1) A1.2.2 (by rw [S]; exact own_ix hj hi) (by rw [own_ixn hj, ← hv]; exact H i hi) hg hs hd tgt q) k
theorem Goes.laload (X : Stand p l e R s m args below meth c T locs cells slots) (hx : p.tables.exec = Jvm.exec) (hZ : Z.Warmed39 s.vm) (eT : T.heap = h) (A : Afn Z h a .long n f) {j : Int32} {i : Nat} (hj : j.toInt = (i : Int)) (hi : i < n) (hv : f i = v) {g : JFrame} (hg : g.method = m) {rest : List Value} (hs : g.stack = .int j :: .ref a :: rest) (hd : decode c.code g.pc = .ok (.laload, 1)) {P : State → Outcome → Prop}
    (k : Goes p e below P (T.setTop { g with pc := g.pc + 1, stack := v :: rest })) : Goes p e below P (T.setTop g) := by
  obtain ⟨cl, A1, S, B, H, G⟩ := A
  exact Goes.step (fun tgt q => X.laload hx (j := j) (v := v) (by rw [eT]; exact A1.1) (State.isArrayOf_alike hZ.alike A1.2.1) A1.2.2 (by rw [S]; exact own_ix hj hi) (by rw [own_ixn hj, ← hv]; exact H i hi) hg hs hd tgt q) k
theorem Goes.baload (X : Stand p l e R s m args below meth c T locs cells slots) (hx : p.tables.exec = Jvm.exec) (hZ : Z.Warmed39 s.vm) (eT : T.heap = h) (A : Afn Z h a .byte n f) {j : Int32} {i : Nat} (hj : j.toInt = (i : Int)) (hi : i < n) (hv : f i = v) {g : JFrame} (hg : g.method = m) {rest : List Value} (hs : g.stack = .int j :: .ref a :: rest) (hd : decode c.code g.pc = .ok (.baload, 1)) {P : State → Outcome → Prop}
    (k : Goes p e below P (T.setTop { g with pc := g.pc + 1, stack := v :: rest })) : Goes p e below P (T.setTop g) := by
  obtain ⟨cl, A1, S, B, H, G⟩ := A
  exact Goes.step (fun tgt q => X.baloadBytes hx (j := j) (v := v) (by rw [eT]; exact A1.1) (State.isArrayOf_alike hZ.alike A1.2.1) A1.2.2 (by rw [S]; exact own_ix hj hi) (by rw [own_ixn hj, ← hv]; exact H i hi) hg hs hd tgt q) k
theorem Goes.caload (X : Stand p l e R s m args below meth c T locs cells slots) (hx : p.tables.exec = Jvm.exec) (hZ : Z.Warmed39 s.vm) (eT : T.heap = h) (A : Afn Z h a .char n f) {j : Int32} {i : Nat} (hj : j.toInt = (i : Int)) (hi : i < n) (hv : f i = v) {g : JFrame} (hg : g.method = m) {rest : List Value} (hs : g.stack = .int j :: .ref a :: rest) (hd : decode c.code g.pc = .ok (.caload, 1)) {P : State → Outcome → Prop}
    (k : Goes p e below P (T.setTop { g with pc := g.pc + 1, stack := v :: rest })) : Goes p e below P (T.setTop g) := by
  obtain ⟨cl, A1, S, B, H, G⟩ := A
  exact Goes.step (fun tgt q => X.caload hx (j := j) (v := v) (by rw [eT]; exact A1.1) (State.isArrayOf_alike hZ.alike A1.2.1) A1.2.2 (by rw [S]; exact own_ix hj hi) (by rw [own_ixn hj, ← hv]; exact H i hi) hg hs hd tgt q) k
theorem Goes.aaload {C : FieldType} (X : Stand p l e R s m args below meth c T locs cells slots) (hx : p.tables.exec = Jvm.exec) (hZ : Z.Warmed39 s.vm) (eT : T.heap = h) (A : Afn Z h a C n f) (hC : C.isReference = true) {j : Int32} {i : Nat} (hj : j.toInt = (i : Int)) (hi : i < n) (hv : f i = v) {g : JFrame} (hg : g.method = m) {rest : List Value} (hs : g.stack = .int j :: .ref a :: rest) (hd : decode c.code g.pc = .ok (.aaload, 1)) {P : State → Outcome → Prop}
    (k : Goes p e below P (T.setTop { g with pc := g.pc + 1, stack := v :: rest })) : Goes p e below P (T.setTop g) := by
  obtain ⟨cl, A1, S, B, H, G⟩ := A
  exact Goes.step (fun tgt q => X.aaload hx (j := j) (v := v) (by rw [eT]; exact A1.1) (State.isArrayOf_alike hZ.alike A1.2.1) hC A1.2.2 (by rw [S]; exact own_ix hj hi) (by rw [own_ixn hj, ← hv]; exact H i hi) hg hs hd tgt q) k
theorem Goes.alen (X : Stand p l e R s m args below meth c T locs cells slots) (hx : p.tables.exec = Jvm.exec) (hZ : Z.Warmed39 s.vm) (eT : T.heap = h) (A : Afn Z h a ty n f) {z : Int32} (hz : z.toInt = (n : Int)) {g : JFrame} (hg : g.method = m) {rest : List Value} (hs : g.stack = .ref a :: rest) (hd : decode c.code g.pc = .ok (.arraylength, 1)) {P : State → Outcome → Prop}
    (k : Goes p e below P (T.setTop { g with pc := g.pc + 1, stack := .int z :: rest })) : Goes p e below P (T.setTop g) := by
  obtain ⟨cl, A1, S, B, H, G⟩ := A
  have q : cl.slots.size.toInt32 = z := by rw [S, ← Int32.toInt_inj, hz]; exact len_toInt B
  exact Goes.step (fun tgt r => X.arraylength hx (by rw [eT]; exact A1.1) (State.isArrayOf_alike hZ.alike A1.2.1) hg hs hd tgt (by rw [q]; exact r)) k
theorem Goes.clone (X : Stand p l e R s m args below meth c T locs cells slots) (hx : p.tables.exec = Jvm.exec) (hZ : Z.Warmed39 s.vm) {own ad : String} {index : Nat} (hown : s.vm.findClass own = some m.cls)
    (w1 : (Jvm.Cond.methodLink own index ⟨ad, "clone", "()Ljava/lang/Object;"⟩).before a0 Z = true) (w2 : (Jvm.Cond.sameMethod ad "java/lang/Object" "clone" "()Ljava/lang/Object;").before a0 Z = true) (w3 : (Jvm.Cond.native ⟨"java/lang/Object", "clone", "()Ljava/lang/Object;"⟩).before a0 Z = true)
    (w4 : (Jvm.Cond.instanceMethod ⟨"java/lang/Object", "clone", "()Ljava/lang/Object;"⟩).before a0 Z = true) (w5 : (Jvm.Cond.selects ad ⟨ad, "clone", "()Ljava/lang/Object;"⟩ ⟨"java/lang/Object", "clone", "()Ljava/lang/Object;"⟩).before a0 Z = true) (w6 : (Jvm.Cond.castable ad "java/lang/Cloneable").before a0 Z = true)
    (eT : T.heap = h) (A : Afn Z h a ty n f) (E : Exa Z h a ad) {g : JFrame} (hg : g.method = m) (hsize : g.locals.size = c.maxLocals) {rest : List Value} (hs : g.stack = .ref a :: rest) (hd : decode c.code g.pc = .ok (.invokevirtual index, 3))
    (hf : 1 ≤ R.frames) {W cap : Nat} (hW : 2 * g.monitorRoom + (rest.map fun v => v.category).sum ≤ W) (hl : W + 14 ≤ R.locals) (hcap : n ≤ cap) (hc : cells + 1 ≤ R.cells) (hsl : slots + cap ≤ R.slots) {P : State → Outcome → Prop}
    (k : ∀ T' h' b, b = h.size → Stand p l e R s m args below meth c T' locs (cells + 1) (slots + cap) → T'.heap = h' → Ext h h' → Afn Z h' b ty n f → Exa Z h' b ad → Goes p e below P (T'.setTop { g with pc := g.pc + 3, stack := .ref b :: rest })) : Goes p e below P (T.setTop g) := by
  obtain ⟨cl, A1, S, B, H, G⟩ := id A
  have FC : FitC Z cl := fitC_of A1 fun i hi v hv => by
    rw [S] at hi
    rw [H i hi] at hv
    cases hv
    exact G i hi
  obtain ⟨T', h', X', e', ex, A', E', st⟩ := cloneA X hx hZ hown w1 w2 w3 w4 w5 w6 eT A1 E FC hg hsize hs hd hf hW hl (by rw [S]; exact hcap) hc hsl
  exact Goes.step st (k T' h' _ rfl X' e' ex ⟨cloneOf cl, A', S, B, H, G⟩ E')
theorem Goes.callP (X : Stand p l e R s m args below meth c T locs cells slots) (hx : p.tables.exec = Jvm.exec) (hZ : Z.Warmed39 s.vm) {own C0 C1 : String} {index : Nat} {y z : MethodName} {bytes : ByteArray} {maxL : Nat} {ret : Option FieldType} {rm : Room} {as : List Value} {Q : Option Value → Heap → List Loc → Prop} (hown : s.vm.findClass own = some m.cls)
    (w1 : (Jvm.Cond.methodLink own index y).before a0 Z = true) (w2 : (Jvm.Cond.instanceMethod y).before a0 Z = true) (w3 : (Jvm.Cond.privateMethod y).before a0 Z = true) (w4 : (Jvm.Cond.selects C0 z z).before a0 Z = true) (hz : z.cls = y.cls) (w5 : (Jvm.Cond.code y bytes maxL ret).before a0 Z = true) (w6 : (Jvm.Cond.initialized y.cls).before a0 Z = true) (hy : y.cls ≠ "java/lang/invoke/MethodHandle" ∧ y.cls ≠ "java/lang/invoke/VarHandle")
    (eT : T.heap = h) {b : Addr} (E : Exa Z h b C1) (hM : Con l Z y bytes maxL ret rm (.ref b :: as).toArray h Q) {W : Nat} (hf : rm.frames + 1 ≤ R.frames) (hl : W + (maxL + 11) + rm.locals ≤ R.locals) (hc : cells + rm.cells ≤ R.cells) (hs : slots + rm.slots ≤ R.slots)
    {g : JFrame} (hg : g.method = m) (hsize : g.locals.size = c.maxLocals) {rest : List Value} {ps : List FieldType} {r : Option FieldType} (hd : parseMethodDescriptor y.desc = some ⟨ps, r⟩) (hlen : as.length = ps.length) (hstack : g.stack = as.reverse ++ .ref b :: rest) (hW : 2 * g.monitorRoom + (rest.map fun v => v.category).sum ≤ W) (hdg : decode c.code g.pc = .ok (.invokevirtual index, 3))
    {P : State → Outcome → Prop} (k : ∀ v T' L, Stand p l e R s m args below meth c T' (locs ++ L) (cells + rm.cells) (slots + rm.slots) → Q v T'.heap L → Goes p e below P (T'.setTop { g with pc := g.pc + 3, stack := v.toList ++ rest })) :
    Goes p e below P (T.setTop g) := by
  have hpr := Cond.privateMethod_at (mvP hZ w3 (args := args))
  have hsel : (Jvm.Cond.selects y.cls y y).before args s = true := by
    obtain ⟨c2, r2, m2, -, -, q3, -, kP, hkP, hkPi⟩ := Cond.selects_spec (mvT (args := args) hZ w4)
    exact selects_self_of_private (hz ▸ findClass_of_methodNamed q3) hkP hkPi hpr (mvT hZ w2) hy
  obtain ⟨cell, hcell, hobj⟩ := E.cell
  obtain ⟨v, vm₁, ⟨T', L', k', n'⟩, -, X', ⟨L, hQ, l', y', z'⟩, st⟩ := X.privateBack hx (y := y) hown (mvT hZ w1) (mvT hZ w2) hsel hpr (mvT hZ w5) hy (backOf (W := W) (hM []) hZ w5 w6 hf hl) (g := g) hg hsize (Steps.refl _) (a := b) (by rw [eT]; exact hcell) hobj (argsL := as) (rest := rest) (lenOf hd hlen) hstack hW hdg (fun _ _ => ⟨rfl, eT, hc, hs⟩)
  try dsimp only at X' hQ l' y' z' st
  subst l' y' z'
  exact Goes.tr st (k v T' L X' hQ)
theorem Afn.of_arv {k : ClassId} {z : Int32} {vs : List Value} {d : Value} (F : Arv Z h a k ty z vs d) (q : z.toInt = (n : Int)) : Afn Z h a ty n (fun i => vs.getD i d) := by
  obtain ⟨c, A', -, S, q3, H, G⟩ := F
  rw [own_ixn q] at S
  refine ⟨c, A', S, ?_, fun i hi => H i (by rw [S]; exact hi), fun i hi => G i (by rw [S]; exact hi)⟩
  have := z.toInt_lt
  omega
theorem Afn.to_arv {z : Int32} {d : Value} (F : Afn Z h a ty n f) (q : z.toInt = (n : Int)) : ∃ k, Arv Z h a k ty z ((List.range n).map f) d := by
  obtain ⟨c, A, S, B, H, G⟩ := F
  have e : ∀ i, i < n → ((List.range n).map f).getD i d = f i := fun i hi => by simp [List.getD_eq_getElem?_getD, hi]
  refine ⟨c.cls, c, A, rfl, by rw [S, own_ixn q], by rw [Int32.lt_iff_toInt_lt, q]; simp only [Int32.reduceToInt]; omega, fun i hi => ?_, fun i hi => ?_⟩
  · rw [e i (S ▸ hi)]; exact H i (S ▸ hi)
  · rw [e i (S ▸ hi)]; exact G i (S ▸ hi)
theorem own_cp {n n' sp dp nn : Nat} {f g : Nat → Value} {d d' : Value} (h1 : sp + nn ≤ n) (h2 : dp + nn ≤ n') : ∀ i, i < n' →
    (((List.range n').map g).take dp ++ (List.range nn).map (fun i => ((List.range n).map f).getD (sp + i) d) ++ ((List.range n').map g).drop (dp + nn)).getD i d' = if dp ≤ i ∧ i < dp + nn then f (sp + (i - dp)) else g i := fun i hi => by
  have e : ∀ j, j < nn → ((List.range n).map f).getD (sp + j) d = f (sp + j) := fun j hj => by
    have hh : sp + j < n := by omega
    simp [List.getD_eq_getElem?_getD, hh]
  rw [List.getD_eq_getElem?_getD]
  by_cases q1 : i < dp
  · have q2 : ¬ (dp ≤ i ∧ i < dp + nn) := by omega
    rw [if_neg q2, List.append_assoc, List.getElem?_append_left (by simp; omega)]
    simp [List.getElem?_take, q1, hi]
  · by_cases q2 : i < dp + nn
    · rw [if_pos ⟨by omega, q2⟩, List.getElem?_append_left (by simp; omega), List.getElem?_append_right (by simp; omega)]
      have hl : (((List.range n').map g).take dp).length = dp := by simp; omega
      rw [hl, List.getElem?_map, List.getElem?_range (by omega : i - dp < nn)]
      simp only [Option.map_some, Option.getD_some]
      exact e _ (by omega)
    · rw [if_neg (by omega), List.getElem?_append_right (by simp; omega)]
      have hl : (((List.range n').map g).take dp ++ (List.range nn).map (fun i => ((List.range n).map f).getD (sp + i) d)).length = dp + nn := by simp; omega
      rw [hl, List.getElem?_drop, show dp + nn + (i - (dp + nn)) = i from by omega]
      simp [hi]
/-- System.arraycopy between two arrays of one primitive kind -/
theorem Goes.acopy {n' sp dp nn : Nat} {g' : Nat → Value} {z z' zs zd zn : Int32} (X : Stand p l e R s m args below meth c T locs cells slots) (hx : p.tables.exec = Jvm.exec) (hZ : Z.Warmed39 s.vm) {own : String} {index : Nat} (hown : s.vm.findClass own = some m.cls)
    (w1 : (Jvm.Cond.methodLink own index Jvm.Stand.acN).before a0 Z = true) (w2 : (Jvm.Cond.native Jvm.Stand.acN).before a0 Z = true) (w3 : (Jvm.Cond.static Jvm.Stand.acN).before a0 Z = true) (w4 : (Jvm.Cond.initialized "java/lang/System").before a0 Z = true) (eT : T.heap = h)
    (A : Afn Z h a ty n f) (B : Afn Z h b ty n' g') (hty : refKind ty = false) (hz : z.toInt = (n : Int)) (hz' : z'.toInt = (n' : Int)) (hzs : zs.toInt = (sp : Int)) (hzd : zd.toInt = (dp : Int)) (hzn : zn.toInt = (nn : Int)) (h4 : sp + nn ≤ n) (h5 : dp + nn ≤ n') {n0 : Nat} (N : Fr n0 locs) (ge : n0 ≤ b)
    {g : JFrame} (hg : g.method = m) (hsize : g.locals.size = c.maxLocals) {rest : List Value} (hs : g.stack = .int zn :: .int zd :: .ref b :: .int zs :: .ref a :: rest) (hd : decode c.code g.pc = .ok (.invokestatic index, 3))
    (hf : 1 ≤ R.frames) {W : Nat} (hW : 2 * g.monitorRoom + (rest.map fun v => v.category).sum ≤ W) (hlo : W + (nativeFrameWords "java/lang/System" "arraycopy" 5 + 11) ≤ R.locals) {P : State → Outcome → Prop}
    (k : ∀ T' h' L, Stand p l e R s m args below meth c T' L cells slots → T'.heap = h' → Fr n0 L → Keep h h' [b] → Afn Z h' b ty n' (fun i => if dp ≤ i ∧ i < dp + nn then f (sp + (i - dp)) else g' i) → Goes p e below P (T'.setTop { g with pc := g.pc + 3, stack := rest })) : Goes p e below P (T.setTop g) := by
  have ng : ∀ {x : Int32} {i : Nat}, x.toInt = (i : Int) → ¬ x < 0 := fun {x i} q => by rw [Int32.lt_iff_toInt_lt, q]; simp only [Int32.reduceToInt]; omega
  obtain ⟨k1, A'⟩ := A.to_arv (d := .null) hz
  obtain ⟨k2, B'⟩ := B.to_arv (d := .null) hz'
  obtain ⟨T', h', L, X', e', N', K, C, st⟩ := cpA X hx hZ hown w1 w2 w3 w4 eT A' B' (Or.inl ⟨rfl, hty⟩) (sp := zs) (dp := zd) (nn := zn) (ng hzs) (ng hzd) (ng hzn) (by rw [own_ixn hz, own_ixn hzs, own_ixn hzn]; exact h4) (by rw [own_ixn hz', own_ixn hzd, own_ixn hzn]; exact h5) rfl (by simp [own_ixn hzd, own_ixn hzn]; exact h5) N ge hg hsize hs hd hf hW hlo
  rw [own_ixn hzd, own_ixn hzn, own_ixn hzs] at C
  exact Goes.step st (k T' h' L X' e' N' K ((Afn.of_arv C hz').congr (own_cp h4 h5)))
theorem own_len {t : Term} {cl : Cell} {z : Int32} (ev : t.eval args Z none [] Z = some (.ref a)) (ha : Z.arrayAt? a = some cl) (q : (Term.length t).eval args Z none [] Z = some (.int z)) : cl.slots.size < 2 ^ 31 ∧ cl.slots.size.toInt32 = z := by
  by_cases hl : cl.slots.size < 2 ^ 31
  · rw [len_f ev ha hl] at q
    exact ⟨hl, Value.int.inj (Option.some.inj q)⟩
  · simp [Term.eval, ev, ha, hl] at q
theorem own_eqR {t u : Term} (hb : u.eval args Z none [] Z = some (.ref a)) (q : (Jvm.Cond.eq t u).value args Z none Z [] = some true) : t.eval args Z none [] Z = some (.ref a) := by
  obtain ⟨x, y, e1, e2, k1, k2⟩ := cmp_v (Or.inl q)
  cases hb.symm.trans e2
  have hx : x.isRef = true := k2.2
  have hh := gotT (eq_R e1 e2 hx rfl) q
  rw [e1, hh]
end OwnHeap
theorem own_d2_0 : decode jdk_30_method_1_code 0 = .ok (.aload_n 0, 1) := by decide +kernel
theorem own_d2_1 : decode jdk_30_method_1_code 1 = .ok (.invokespecial 1, 3) := by decide +kernel
theorem own_d2_4 : decode jdk_30_method_1_code 4 = .ok (.return_, 1) := by decide +kernel
theorem own_d1_0 : decode prog_86_method_1_code 0 = .ok (.aload_n 0, 1) := by decide +kernel
theorem own_d1_1 : decode prog_86_method_1_code 1 = .ok (.invokespecial 1, 3) := by decide +kernel
theorem own_d1_4 : decode prog_86_method_1_code 4 = .ok (.aload_n 0, 1) := by decide +kernel
theorem own_d1_5 : decode prog_86_method_1_code 5 = .ok (.iload_n 1, 1) := by decide +kernel
theorem own_d1_6 : decode prog_86_method_1_code 6 = .ok (.putfield 7, 3) := by decide +kernel
theorem own_d1_9 : decode prog_86_method_1_code 9 = .ok (.aload_n 0, 1) := by decide +kernel
theorem own_d1_10 : decode prog_86_method_1_code 10 = .ok (.iload_n 2, 1) := by decide +kernel
theorem own_d1_11 : decode prog_86_method_1_code 11 = .ok (.putfield 13, 3) := by decide +kernel
theorem own_d1_14 : decode prog_86_method_1_code 14 = .ok (.return_, 1) := by decide +kernel
theorem own_d4_0 : decode method_4_code 0 = .ok (.iload_n 0, 1) := by decide +kernel
theorem own_d4_1 : decode method_4_code 1 = .ok (.ldc 31, 2) := by decide +kernel
theorem own_d4_3 : decode method_4_code 3 = .ok (.iand, 1) := by decide +kernel
theorem own_d4_4 : decode method_4_code 4 = .ok (.bipush 6, 2) := by decide +kernel
theorem own_d4_6 : decode method_4_code 6 = .ok (.irem, 1) := by decide +kernel
theorem own_d4_7 : decode method_4_code 7 = .ok (.istore_n 1, 1) := by decide +kernel
theorem own_d4_8 : decode method_4_code 8 = .ok (.iload_n 1, 1) := by decide +kernel
theorem own_d4_9 : decode method_4_code 9 = .ok (.ifCond .ne 7, 3) := by decide +kernel
theorem own_d4_12 : decode method_4_code 12 = .ok (.getstatic 32, 3) := by decide +kernel
theorem own_d4_15 : decode method_4_code 15 = .ok (.areturn, 1) := by decide +kernel
theorem own_d4_16 : decode method_4_code 16 = .ok (.iload_n 1, 1) := by decide +kernel
theorem own_d4_17 : decode method_4_code 17 = .ok (.iconst 1, 1) := by decide +kernel
theorem own_d4_18 : decode method_4_code 18 = .ok (.if_icmp .ne 7, 3) := by decide +kernel
theorem own_d4_21 : decode method_4_code 21 = .ok (.getstatic 38, 3) := by decide +kernel
theorem own_d4_24 : decode method_4_code 24 = .ok (.areturn, 1) := by decide +kernel
theorem own_d4_25 : decode method_4_code 25 = .ok (.iload_n 1, 1) := by decide +kernel
theorem own_d4_26 : decode method_4_code 26 = .ok (.iconst 2, 1) := by decide +kernel
theorem own_d4_27 : decode method_4_code 27 = .ok (.if_icmp .ne 7, 3) := by decide +kernel
theorem own_d4_30 : decode method_4_code 30 = .ok (.getstatic 41, 3) := by decide +kernel
theorem own_d4_33 : decode method_4_code 33 = .ok (.areturn, 1) := by decide +kernel
theorem own_d4_34 : decode method_4_code 34 = .ok (.iload_n 1, 1) := by decide +kernel
theorem own_d4_35 : decode method_4_code 35 = .ok (.iconst 3, 1) := by decide +kernel
theorem own_d4_36 : decode method_4_code 36 = .ok (.if_icmp .ne 7, 3) := by decide +kernel
theorem own_d4_39 : decode method_4_code 39 = .ok (.getstatic 44, 3) := by decide +kernel
theorem own_d4_42 : decode method_4_code 42 = .ok (.areturn, 1) := by decide +kernel
theorem own_d4_43 : decode method_4_code 43 = .ok (.iload_n 1, 1) := by decide +kernel
theorem own_d4_44 : decode method_4_code 44 = .ok (.iconst 4, 1) := by decide +kernel
theorem own_d4_45 : decode method_4_code 45 = .ok (.if_icmp .ne 7, 3) := by decide +kernel
theorem own_d4_48 : decode method_4_code 48 = .ok (.getstatic 47, 3) := by decide +kernel
theorem own_d4_51 : decode method_4_code 51 = .ok (.areturn, 1) := by decide +kernel
theorem own_d4_52 : decode method_4_code 52 = .ok (.getstatic 50, 3) := by decide +kernel
theorem own_d4_55 : decode method_4_code 55 = .ok (.areturn, 1) := by decide +kernel
theorem own_d5_0 : decode prog_133_method_1_code 0 = .ok (.aload_n 0, 1) := by decide +kernel
theorem own_d5_1 : decode prog_133_method_1_code 1 = .ok (.invokespecial 1, 3) := by decide +kernel
theorem own_d5_4 : decode prog_133_method_1_code 4 = .ok (.aload_n 0, 1) := by decide +kernel
theorem own_d5_5 : decode prog_133_method_1_code 5 = .ok (.aload_n 1, 1) := by decide +kernel
theorem own_d5_6 : decode prog_133_method_1_code 6 = .ok (.putfield 7, 3) := by decide +kernel
theorem own_d5_9 : decode prog_133_method_1_code 9 = .ok (.aload_n 0, 1) := by decide +kernel
theorem own_d5_10 : decode prog_133_method_1_code 10 = .ok (.aload_n 2, 1) := by decide +kernel
theorem own_d5_11 : decode prog_133_method_1_code 11 = .ok (.putfield 13, 3) := by decide +kernel
theorem own_d5_14 : decode prog_133_method_1_code 14 = .ok (.aload_n 0, 1) := by decide +kernel
theorem own_d5_15 : decode prog_133_method_1_code 15 = .ok (.aload_n 3, 1) := by decide +kernel
theorem own_d5_16 : decode prog_133_method_1_code 16 = .ok (.putfield 17, 3) := by decide +kernel
theorem own_d5_19 : decode prog_133_method_1_code 19 = .ok (.return_, 1) := by decide +kernel
theorem own_d7_0 : decode prog_133_method_4_code 0 = .ok (.aload_n 0, 1) := by decide +kernel
theorem own_d7_1 : decode prog_133_method_4_code 1 = .ok (.aload_n 0, 1) := by decide +kernel
theorem own_d7_2 : decode prog_133_method_4_code 2 = .ok (.getfield 26, 3) := by decide +kernel
theorem own_d7_5 : decode prog_133_method_4_code 5 = .ok (.bipush 127, 2) := by decide +kernel
theorem own_d7_7 : decode prog_133_method_4_code 7 = .ok (.irem, 1) := by decide +kernel
theorem own_d7_8 : decode prog_133_method_4_code 8 = .ok (.iconst 1, 1) := by decide +kernel
theorem own_d7_9 : decode prog_133_method_4_code 9 = .ok (.iadd, 1) := by decide +kernel
theorem own_d7_10 : decode prog_133_method_4_code 10 = .ok (.putfield 26, 3) := by decide +kernel
theorem own_d7_13 : decode prog_133_method_4_code 13 = .ok (.aload_n 0, 1) := by decide +kernel
theorem own_d7_14 : decode prog_133_method_4_code 14 = .ok (.getfield 26, 3) := by decide +kernel
theorem own_d7_17 : decode prog_133_method_4_code 17 = .ok (.ireturn, 1) := by decide +kernel
theorem own_d6_0 : decode method_3_code 0 = .ok (.iload_n 3, 1) := by decide +kernel
theorem own_d6_1 : decode method_3_code 1 = .ok (.ifCond .ne 7, 3) := by decide +kernel
theorem own_d6_4 : decode method_3_code 4 = .ok (.aload_n 0, 1) := by decide +kernel
theorem own_d6_5 : decode method_3_code 5 = .ok (.goto 4, 3) := by decide +kernel
theorem own_d6_9 : decode method_3_code 9 = .ok (.astore 4, 2) := by decide +kernel
theorem own_d6_11 : decode method_3_code 11 = .ok (.aload_n 2, 1) := by decide +kernel
theorem own_d6_12 : decode method_3_code 12 = .ok (.iload_n 3, 1) := by decide +kernel
theorem own_d6_13 : decode method_3_code 13 = .ok (.aload_n 2, 1) := by decide +kernel
theorem own_d6_14 : decode method_3_code 14 = .ok (.iload_n 3, 1) := by decide +kernel
theorem own_d6_15 : decode method_3_code 15 = .ok (.iaload, 1) := by decide +kernel
theorem own_d6_16 : decode method_3_code 16 = .ok (.iconst 1, 1) := by decide +kernel
theorem own_d6_17 : decode method_3_code 17 = .ok (.iadd, 1) := by decide +kernel
theorem own_d6_18 : decode method_3_code 18 = .ok (.iastore, 1) := by decide +kernel
theorem own_d6_19 : decode method_3_code 19 = .ok (.aload 4, 2) := by decide +kernel
theorem own_d6_21 : decode method_3_code 21 = .ok (.invokevirtual 27, 3) := by decide +kernel
theorem own_d6_24 : decode method_3_code 24 = .ok (.aload_n 2, 1) := by decide +kernel
theorem own_d6_25 : decode method_3_code 25 = .ok (.iload_n 3, 1) := by decide +kernel
theorem own_d6_26 : decode method_3_code 26 = .ok (.iaload, 1) := by decide +kernel
theorem own_d6_27 : decode method_3_code 27 = .ok (.if_icmp .ne 7, 3) := by decide +kernel
theorem own_d6_30 : decode method_3_code 30 = .ok (.iconst 1, 1) := by decide +kernel
theorem own_d6_31 : decode method_3_code 31 = .ok (.goto 4, 3) := by decide +kernel
theorem own_d6_35 : decode method_3_code 35 = .ok (.ireturn, 1) := by decide +kernel
theorem own_d6_8 : decode method_3_code 8 = .ok (.aload_n 1, 1) := by decide +kernel
theorem own_pd0 : parseMethodDescriptor "()V" = some ⟨[], none⟩ := by decide +kernel
theorem own_pd1 : parseMethodDescriptor "()I" = some ⟨[], some .int⟩ := by decide +kernel
theorem own_pd2 : parseMethodDescriptor "(II)V" = some ⟨[.int, .int], none⟩ := by decide +kernel
theorem own_pd3 : parseMethodDescriptor "(I)Lcom/example/anchorline/anchorline/tcap/Dialogue$State;" = some ⟨[.int], some (.object "com/example/anchorline/anchorline/tcap/Dialogue$State")⟩ := by decide +kernel
theorem own_pd4 : parseMethodDescriptor "(Lcom/example/anchorline/anchorline/sccp/SccpAddress;[BLcom/example/anchorline/anchorline/tcap/Dialogue$State;)V" = some ⟨[(.object "com/example/anchorline/anchorline/sccp/SccpAddress"), (.array .byte), (.object "com/example/anchorline/anchorline/tcap/Dialogue$State")], none⟩ := by decide +kernel
theorem own_pd5 : parseMethodDescriptor "(Lcom/example/anchorline/anchorline/tcap/Dialogue;Lcom/example/anchorline/anchorline/tcap/Dialogue;[II)Z" = some ⟨[(.object "com/example/anchorline/anchorline/tcap/Dialogue"), (.object "com/example/anchorline/anchorline/tcap/Dialogue"), (.array .int), .int], some .boolean⟩ := by decide +kernel
theorem own_pn0 : plainName "java/lang/Record" = true := by first | (simp [plainName, overriddenIn]; done) | decide +kernel
theorem own_pn1 : plainName "com/example/anchorline/anchorline/sccp/SccpAddress" = true := by first | (simp [plainName, overriddenIn]; done) | decide +kernel
theorem own_pn2 : plainName "com/example/anchorline/anchorline/tcap/DialogueNewInvokeIdPinLaw" = true := by first | (simp [plainName, overriddenIn]; done) | decide +kernel
theorem own_pn3 : plainName "com/example/anchorline/anchorline/tcap/Dialogue" = true := by first | (simp [plainName, overriddenIn]; done) | decide +kernel
/-- both dialogues have given out as many ids as are counted -/
def own_Inv (Z : State) (h : Heap) (a b t : Addr) (c0 c1 : Int32) (k : Int) : Prop :=
  Fld Z h a "com/example/anchorline/anchorline/tcap/Dialogue" "lastInvokeId" "I" (.int c0) ∧ Fld Z h b "com/example/anchorline/anchorline/tcap/Dialogue" "lastInvokeId" "I" (.int c1) ∧ (∃ f, Afn Z h t .int 2 f ∧ f 0 = .int c0 ∧ f 1 = .int c1) ∧ 0 ≤ c0.toInt ∧ c0.toInt ≤ k ∧ 0 ≤ c1.toInt ∧ c1.toInt ≤ k
theorem own_c {x : Int32} {k : Int} (h1 : 0 ≤ x.toInt) (h2 : x.toInt ≤ k) (hk : k ≤ 100) : x % (127 : Int32) = x := by
  rw [← Int32.toInt_inj, Jvm.Kit.i32_rem_nonneg h1, show (127 : Int32).toInt = 127 from by decide]; omega
theorem own_c1 {x : Int32} {k : Int} (h1 : 0 ≤ x.toInt) (h2 : x.toInt ≤ k) (hk : k ≤ 100) : (x + (1 : Int32)).toInt = x.toInt + 1 := by
  rw [Jvm.Kit.i32_add] <;> rw [show (1 : Int32).toInt = 1 from by decide] <;> omega
theorem own_bit (x : Int32) : x &&& (1 : Int32) = (0 : Int32) ∨ x &&& (1 : Int32) = (1 : Int32) := by
  have hm : (x &&& (1 : Int32)).toInt = x.toInt % 2 ^ 1 := Jvm.Kit.i32_mask x 1 (k := 1) (by decide) (by decide)
  simp only [← Int32.toInt_inj, hm, show (0 : Int32).toInt = 0 from by decide, show (1 : Int32).toInt = 1 from by decide]
  omega
set_option maxRecDepth 65536 in
set_option maxHeartbeats 40000000 in
theorem rmR (l : Launch) (Z : State) (a0 : Array Value) (hw : ∀ d ∈ tables_1, d.before a0 Z = true) (a1 : Addr) (h0 : Heap) (n0 : Nat) (Z0 : n0 ≤ h0.size) :
    Con l Z (⟨"java/lang/Record", "<init>", "()V"⟩ : MethodName) jdk_30_method_1_code 1 none ({ frames := 1, cells := 0, slots := 0, locals := 12 } : Room) #[(.ref a1)] h0 (fun v h L => v = none ∧ Fr n0 L ∧ h = h0) := by
  refine Con.body (plainFor_of_name own_pn0) ?_
  intro pP eE sS mM bB mT cC s₁ hx hby hml hZ hown hnm hret hlk X0 e0
  have hown : sS.vm.findClass "java/lang/Record" = some mM.cls := hown
  have hml : cC.maxLocals = 1 := hml
  have N0 := Fr.nil n0
  have ef : entryFrame mM #[(.ref a1)] 1 = mkF mM 0 #[.val (.ref a1)] [] := by first | (simp [entryFrame, mkF, argsToLocals, Value.category]; done) | rfl
  rw [ef]
  show Goes pP eE bB _ (s₁.setTop (mkF mM 0 #[.val (.ref a1)] []))
  refine Goes.step (fun _ kK => XS.aloadN X0.here hx rfl (hb hby own_d2_0) rfl rfl kK) ?_
  show Goes pP eE bB _ (s₁.setTop (mkF mM 1 #[.val (.ref a1)] [(.ref a1)]))
  obtain ⟨T_1, X_1, e_1, st_1⟩ := initO X0 hx hZ hown (hw _ (List.mem_of_getElem? (i := 11) rfl)) (hw _ (List.mem_of_getElem? (i := 12) rfl)) (hw _ (List.mem_of_getElem? (i := 13) rfl)) e0 (g := (mkF mM 1 #[.val (.ref a1)] [(.ref a1)])) rfl (by rw [hml]; rfl) rfl (hb hby own_d2_1) (by decide) (W := 0) (by show 2 * 0 + _ ≤ _; exact Nat.le_of_eq rfl) (by decide)
  refine Goes.step st_1 ?_
  show Goes pP eE bB _ (T_1.setTop (mkF mM 4 #[.val (.ref a1)] []))
  refine Goes.ret0 X_1 hx hlk hret (hb hby own_d2_4) (by decide) (by decide) ?_
  exact ⟨rfl, N0, e_1⟩
set_option maxRecDepth 65536 in
set_option maxHeartbeats 40000000 in
theorem rmSc (l : Launch) (Z : State) (a0 : Array Value) (hw : ∀ d ∈ tables_1, d.before a0 Z = true) (a1 : Addr) (p2 p3 : Int32) (h0 : Heap) (n0 : Nat) (Z0 : n0 ≤ h0.size) (E0 : Exa Z h0 a1 "com/example/anchorline/anchorline/sccp/SccpAddress") (ga : n0 ≤ a1) (F_pointCode : Fld Z h0 a1 "com/example/anchorline/anchorline/sccp/SccpAddress" "pointCode" "I" (.int (0 : Int32))) (F_subsystem : Fld Z h0 a1 "com/example/anchorline/anchorline/sccp/SccpAddress" "subsystem" "I" (.int (0 : Int32))) :
    Con l Z (⟨"com/example/anchorline/anchorline/sccp/SccpAddress", "<init>", "(II)V"⟩ : MethodName) prog_86_method_1_code 3 none ({ frames := 2, cells := 0, slots := 0, locals := 24 } : Room) #[(.ref a1), (.int p2), (.int p3)] h0 (fun v h L => v = none ∧ Fr n0 L ∧ Keep h0 h [a1]) := by
  refine Con.body (plainFor_of_name own_pn1) ?_
  intro pP eE sS mM bB mT cC s₁ hx hby hml hZ hown hnm hret hlk X0 e0
  have hown : sS.vm.findClass "com/example/anchorline/anchorline/sccp/SccpAddress" = some mM.cls := hown
  have hml : cC.maxLocals = 3 := hml
  have N0 := Fr.nil n0
  have ef : entryFrame mM #[(.ref a1), (.int p2), (.int p3)] 3 = mkF mM 0 #[.val (.ref a1), .val (.int p2), .val (.int p3)] [] := by first | (simp [entryFrame, mkF, argsToLocals, Value.category]; done) | rfl
  rw [ef]
  show Goes pP eE bB _ (s₁.setTop (mkF mM 0 #[.val (.ref a1), .val (.int p2), .val (.int p3)] []))
  refine Goes.step (fun _ kK => XS.aloadN X0.here hx rfl (hb hby own_d1_0) rfl rfl kK) ?_
  show Goes pP eE bB _ (s₁.setTop (mkF mM 1 #[.val (.ref a1), .val (.int p2), .val (.int p3)] [(.ref a1)]))
  refine Goes.callI X0 hx hZ rfl hown (hw _ (List.mem_of_getElem? (i := 6) rfl)) (hw _ (List.mem_of_getElem? (i := 7) rfl)) (hw _ (List.mem_of_getElem? (i := 10) rfl)) (hw _ (List.mem_of_getElem? (i := 9) rfl)) (by decide) e0 (rmR l Z a0 hw a1 h0 n0 Z0) (W := 0) (by decide) (by decide) (by decide) (by decide) (g := (mkF mM 1 #[.val (.ref a1), .val (.int p2), .val (.int p3)] [(.ref a1)])) rfl (by rw [hml]; rfl) (rest := []) own_pd0 rfl rfl (by show 2 * 0 + _ ≤ _; exact Nat.le_of_eq rfl) (hb hby own_d1_1) ?_
  intro v_1 T_1 L_1 X_1 hQ_1
  obtain ⟨rfl, N_1q, e_1⟩ := hQ_1
  have N_1 := Fr.app N0 N_1q
  show Goes pP eE bB _ (T_1.setTop (mkF mM 4 #[.val (.ref a1), .val (.int p2), .val (.int p3)] []))
  refine Goes.step (fun _ kK => XS.aloadN X_1.here hx rfl (hb hby own_d1_4) rfl rfl kK) ?_
  show Goes pP eE bB _ (T_1.setTop (mkF mM 5 #[.val (.ref a1), .val (.int p2), .val (.int p3)] [(.ref a1)]))
  refine Goes.step (fun _ kK => XS.iloadN X_1.here hx rfl (hb hby own_d1_5) rfl kK) ?_
  show Goes pP eE bB _ (T_1.setTop (mkF mM 6 #[.val (.ref a1), .val (.int p2), .val (.int p3)] [(.int p2), (.ref a1)]))
  obtain ⟨T_2, h_2, X_2, e_2, W_2, st_2⟩ := putF X_1 hx hZ hown (host := "") (Or.inl (hw _ (List.mem_of_getElem? (i := 14) rfl))) Via.refl e_1 F_pointCode E0 (Or.inr ⟨(hw _ (List.mem_of_getElem? (i := 15) rfl)), rfl, hnm⟩) (hw _ (List.mem_of_getElem? (i := 1) rfl)) (ty := .int) (by decide) rfl rfl (g := (mkF mM 6 #[.val (.ref a1), .val (.int p2), .val (.int p3)] [(.int p2), (.ref a1)])) rfl rfl (hb hby own_d1_6)
  have u_3 := F_pointCode.same W_2
  have N_2 := Fr.snoc X_2 N_1 ga
  refine Goes.step st_2 ?_
  show Goes pP eE bB _ (T_2.setTop (mkF mM 9 #[.val (.ref a1), .val (.int p2), .val (.int p3)] []))
  refine Goes.step (fun _ kK => XS.aloadN X_2.here hx rfl (hb hby own_d1_9) rfl rfl kK) ?_
  show Goes pP eE bB _ (T_2.setTop (mkF mM 10 #[.val (.ref a1), .val (.int p2), .val (.int p3)] [(.ref a1)]))
  refine Goes.step (fun _ kK => XS.iloadN X_2.here hx rfl (hb hby own_d1_10) rfl kK) ?_
  show Goes pP eE bB _ (T_2.setTop (mkF mM 11 #[.val (.ref a1), .val (.int p2), .val (.int p3)] [(.int p3), (.ref a1)]))
  have u_4 := F_subsystem.other W_2 (Or.inr (slot_ne (Or.inr (hw _ (List.mem_of_getElem? (i := 17) rfl))) (Or.inr (hw _ (List.mem_of_getElem? (i := 15) rfl))) (by decide) (t := .int) (t' := .int) (by decide) (by decide)))
  have u_5 := E0.wr W_2
  obtain ⟨T_6, h_6, X_6, e_6, W_6, st_6⟩ := putF X_2 hx hZ hown (host := "") (Or.inl (hw _ (List.mem_of_getElem? (i := 16) rfl))) Via.refl e_2 u_4 u_5 (Or.inr ⟨(hw _ (List.mem_of_getElem? (i := 17) rfl)), rfl, hnm⟩) (hw _ (List.mem_of_getElem? (i := 1) rfl)) (ty := .int) (by decide) rfl rfl (g := (mkF mM 11 #[.val (.ref a1), .val (.int p2), .val (.int p3)] [(.int p3), (.ref a1)])) rfl rfl (hb hby own_d1_11)
  have u_7 := u_4.same W_6
  have N_6 := Fr.snoc X_6 N_2 ga
  refine Goes.step st_6 ?_
  show Goes pP eE bB _ (T_6.setTop (mkF mM 14 #[.val (.ref a1), .val (.int p2), .val (.int p3)] []))
  refine Goes.ret0 X_6 hx hlk hret (hb hby own_d1_14) (by decide) (by decide) ?_
  have u_8 := (Keep.refl h0 [a1]).wr W_2 (Or.inl (List.mem_of_getElem? (i := 0) rfl))
  have u_9 := u_8.wr W_6 (Or.inl (List.mem_of_getElem? (i := 0) rfl))
  exact ⟨rfl, N_6, by rw [e_6]; exact u_9⟩
set_option maxRecDepth 65536 in
set_option maxHeartbeats 40000000 in
theorem rmT (l : Launch) (Z : State) (a0 : Array Value) (hw : ∀ d ∈ tables_1, d.before a0 Z = true) (p1 : Int32) (w0 w1 w2 w3 w4 w5 : Addr) (h0 : Heap) (n0 : Nat) (Z0 : n0 ≤ h0.size) (Sw0 : Sta Z Z.heap "com/example/anchorline/anchorline/tcap/Dialogue$State" "IDLE" "Lcom/example/anchorline/anchorline/tcap/Dialogue$State;" (.ref w0)) (Sw1 : Sta Z Z.heap "com/example/anchorline/anchorline/tcap/Dialogue$State" "INITIATION_SENT" "Lcom/example/anchorline/anchorline/tcap/Dialogue$State;" (.ref w1)) (Sw2 : Sta Z Z.heap "com/example/anchorline/anchorline/tcap/Dialogue$State" "ABORT_WHEN_ANSWERED" "Lcom/example/anchorline/anchorline/tcap/Dialogue$State;" (.ref w2)) (Sw3 : Sta Z Z.heap "com/example/anchorline/anchorline/tcap/Dialogue$State" "INITIATION_RECEIVED" "Lcom/example/anchorline/anchorline/tcap/Dialogue$State;" (.ref w3)) (Sw4 : Sta Z Z.heap "com/example/anchorline/anchorline/tcap/Dialogue$State" "ACTIVE" "Lcom/example/anchorline/anchorline/tcap/Dialogue$State;" (.ref w4)) (Sw5 : Sta Z Z.heap "com/example/anchorline/anchorline/tcap/Dialogue$State" "CLOSED" "Lcom/example/anchorline/anchorline/tcap/Dialogue$State;" (.ref w5)) (O0 : Old Z n0 h0) :
    Con l Z (⟨"com/example/anchorline/anchorline/tcap/DialogueNewInvokeIdPinLaw", "state", "(I)Lcom/example/anchorline/anchorline/tcap/Dialogue$State;"⟩ : MethodName) method_4_code 2 (some (.object "com/example/anchorline/anchorline/tcap/Dialogue$State")) ({ frames := 0, cells := 0, slots := 0, locals := 0 } : Room) #[(.int p1)] h0 (fun v h L => ∃ x, v = some (.ref x) ∧ Fr n0 L ∧ h = h0) := by
  refine Con.body (plainFor_of_name own_pn2) ?_
  intro pP eE sS mM bB mT cC s₁ hx hby hml hZ hown hnm hret hlk X0 e0
  have hown : sS.vm.findClass "com/example/anchorline/anchorline/tcap/DialogueNewInvokeIdPinLaw" = some mM.cls := hown
  have hml : cC.maxLocals = 2 := hml
  have N0 := Fr.nil n0
  have ef : entryFrame mM #[(.int p1)] 2 = mkF mM 0 #[.val (.int p1), .unset] [] := by first | (simp [entryFrame, mkF, argsToLocals, Value.category]; done) | rfl
  rw [ef]
  show Goes pP eE bB _ (s₁.setTop (mkF mM 0 #[.val (.int p1), .unset] []))
  refine Goes.step (fun _ kK => XS.iloadN X0.here hx rfl (hb hby own_d4_0) rfl kK) ?_
  show Goes pP eE bB _ (s₁.setTop (mkF mM 1 #[.val (.int p1), .unset] [(.int p1)]))
  refine Goes.step (fun _ kK => X0.ldcI hx hown (mvT hZ (hw _ (List.mem_of_getElem? (i := 26) rfl))) rfl (hb hby own_d4_1) kK) ?_
  show Goes pP eE bB _ (s₁.setTop (mkF mM 3 #[.val (.int p1), .unset] [(.int (2147483647 : Int32)), (.int p1)]))
  refine Goes.step (fun _ kK => XS.iand X0.here hx rfl (hb hby own_d4_3) rfl kK) ?_
  show Goes pP eE bB _ (s₁.setTop (mkF mM 4 #[.val (.int p1), .unset] [(.int (p1 &&& (2147483647 : Int32)))]))
  refine Goes.step (fun _ kK => XS.bipush X0.here hx rfl (hb hby own_d4_4) kK) ?_
  show Goes pP eE bB _ (s₁.setTop (mkF mM 6 #[.val (.int p1), .unset] [(.int (6 : Int32)), (.int (p1 &&& (2147483647 : Int32)))]))
  refine Goes.step (fun _ kK => Jvm.RoadKit.iremM X0 hx rfl (hb hby own_d4_6) rfl (by decide) kK) ?_
  show Goes pP eE bB _ (s₁.setTop (mkF mM 7 #[.val (.int p1), .unset] [(.int ((p1 &&& (2147483647 : Int32)) % (6 : Int32)))]))
  refine Goes.step (fun _ kK => XS.istoreN X0.here hx rfl (hb hby own_d4_7) rfl (l' := #[.val (.int p1), .val (.int ((p1 &&& (2147483647 : Int32)) % (6 : Int32)))]) rfl kK) ?_
  show Goes pP eE bB _ (s₁.setTop (mkF mM 8 #[.val (.int p1), .val (.int ((p1 &&& (2147483647 : Int32)) % (6 : Int32)))] []))
  refine Goes.step (fun _ kK => XS.iloadN X0.here hx rfl (hb hby own_d4_8) rfl kK) ?_
  show Goes pP eE bB _ (s₁.setTop (mkF mM 9 #[.val (.int p1), .val (.int ((p1 &&& (2147483647 : Int32)) % (6 : Int32)))] [(.int ((p1 &&& (2147483647 : Int32)) % (6 : Int32)))]))
  by_cases hc_1 : ((p1 &&& (2147483647 : Int32)) % (6 : Int32)) = (0 : Int32)
  · refine Goes.step (fun _ kK => XS.ifNo X0.here hx rfl (hb hby own_d4_9) rfl ((if0 _ _).trans (teq hc_1).2) kK) ?_
    show Goes pP eE bB _ (s₁.setTop (mkF mM 12 #[.val (.int p1), .val (.int ((p1 &&& (2147483647 : Int32)) % (6 : Int32)))] []))
    obtain ⟨T_2, X_2, e_2, st_2⟩ := getS2 X0 hx hZ hown (host := "") (Or.inl (hw _ (List.mem_of_getElem? (i := 40) rfl))) Via.refl e0 (Sw0.ext O0.2) (g := (mkF mM 12 #[.val (.int p1), .val (.int ((p1 &&& (2147483647 : Int32)) % (6 : Int32)))] [])) rfl (hb hby own_d4_12)
    refine Goes.step st_2 ?_
    show Goes pP eE bB _ (T_2.setTop (mkF mM 15 #[.val (.int p1), .val (.int ((p1 &&& (2147483647 : Int32)) % (6 : Int32)))] [(.ref w0)]))
    refine Goes.ret X_2 hx hlk hret rfl (Or.inr (Or.inr (Or.inr (Or.inr ⟨rfl, rfl, rfl⟩)))) (hb hby own_d4_15) (by decide) (by decide) ?_
    exact ⟨_, rfl, N0, e_2⟩
  · refine Goes.step (fun _ kK => XS.ifYes X0.here hx rfl (pc0 := 9) (pc' := 16) rfl (hb hby own_d4_9) rfl ((if0 _ _).trans (feq hc_1).2) (by decide) (by decide) kK) ?_
    show Goes pP eE bB _ (s₁.setTop (mkF mM 16 #[.val (.int p1), .val (.int ((p1 &&& (2147483647 : Int32)) % (6 : Int32)))] []))
    refine Goes.step (fun _ kK => XS.iloadN X0.here hx rfl (hb hby own_d4_16) rfl kK) ?_
    show Goes pP eE bB _ (s₁.setTop (mkF mM 17 #[.val (.int p1), .val (.int ((p1 &&& (2147483647 : Int32)) % (6 : Int32)))] [(.int ((p1 &&& (2147483647 : Int32)) % (6 : Int32)))]))
    refine Goes.step (fun _ kK => XS.iconst X0.here hx rfl (hb hby own_d4_17) kK) ?_
    show Goes pP eE bB _ (s₁.setTop (mkF mM 18 #[.val (.int p1), .val (.int ((p1 &&& (2147483647 : Int32)) % (6 : Int32)))] [(.int (1 : Int32)), (.int ((p1 &&& (2147483647 : Int32)) % (6 : Int32)))]))
    by_cases hc_3 : ((p1 &&& (2147483647 : Int32)) % (6 : Int32)) = (1 : Int32)
    · refine Goes.step (fun _ kK => XS.icmpNo X0.here hx rfl (hb hby own_d4_18) rfl (teq hc_3).2 kK) ?_
      show Goes pP eE bB _ (s₁.setTop (mkF mM 21 #[.val (.int p1), .val (.int ((p1 &&& (2147483647 : Int32)) % (6 : Int32)))] []))
      obtain ⟨T_4, X_4, e_4, st_4⟩ := getS2 X0 hx hZ hown (host := "") (Or.inl (hw _ (List.mem_of_getElem? (i := 55) rfl))) Via.refl e0 (Sw1.ext O0.2) (g := (mkF mM 21 #[.val (.int p1), .val (.int ((p1 &&& (2147483647 : Int32)) % (6 : Int32)))] [])) rfl (hb hby own_d4_21)
      refine Goes.step st_4 ?_
      show Goes pP eE bB _ (T_4.setTop (mkF mM 24 #[.val (.int p1), .val (.int ((p1 &&& (2147483647 : Int32)) % (6 : Int32)))] [(.ref w1)]))
      refine Goes.ret X_4 hx hlk hret rfl (Or.inr (Or.inr (Or.inr (Or.inr ⟨rfl, rfl, rfl⟩)))) (hb hby own_d4_24) (by decide) (by decide) ?_
      exact ⟨_, rfl, N0, e_4⟩
    · refine Goes.step (fun _ kK => XS.icmpYes X0.here hx rfl (pc0 := 18) (pc' := 25) rfl (hb hby own_d4_18) rfl (feq hc_3).2 (by decide) (by decide) kK) ?_
      show Goes pP eE bB _ (s₁.setTop (mkF mM 25 #[.val (.int p1), .val (.int ((p1 &&& (2147483647 : Int32)) % (6 : Int32)))] []))
      refine Goes.step (fun _ kK => XS.iloadN X0.here hx rfl (hb hby own_d4_25) rfl kK) ?_
      show Goes pP eE bB _ (s₁.setTop (mkF mM 26 #[.val (.int p1), .val (.int ((p1 &&& (2147483647 : Int32)) % (6 : Int32)))] [(.int ((p1 &&& (2147483647 : Int32)) % (6 : Int32)))]))
      refine Goes.step (fun _ kK => XS.iconst X0.here hx rfl (hb hby own_d4_26) kK) ?_
      show Goes pP eE bB _ (s₁.setTop (mkF mM 27 #[.val (.int p1), .val (.int ((p1 &&& (2147483647 : Int32)) % (6 : Int32)))] [(.int (2 : Int32)), (.int ((p1 &&& (2147483647 : Int32)) % (6 : Int32)))]))
      by_cases hc_5 : ((p1 &&& (2147483647 : Int32)) % (6 : Int32)) = (2 : Int32)
      · refine Goes.step (fun _ kK => XS.icmpNo X0.here hx rfl (hb hby own_d4_27) rfl (teq hc_5).2 kK) ?_
        show Goes pP eE bB _ (s₁.setTop (mkF mM 30 #[.val (.int p1), .val (.int ((p1 &&& (2147483647 : Int32)) % (6 : Int32)))] []))
        obtain ⟨T_6, X_6, e_6, st_6⟩ := getS2 X0 hx hZ hown (host := "") (Or.inl (hw _ (List.mem_of_getElem? (i := 27) rfl))) Via.refl e0 (Sw2.ext O0.2) (g := (mkF mM 30 #[.val (.int p1), .val (.int ((p1 &&& (2147483647 : Int32)) % (6 : Int32)))] [])) rfl (hb hby own_d4_30)
        refine Goes.step st_6 ?_
        show Goes pP eE bB _ (T_6.setTop (mkF mM 33 #[.val (.int p1), .val (.int ((p1 &&& (2147483647 : Int32)) % (6 : Int32)))] [(.ref w2)]))
        refine Goes.ret X_6 hx hlk hret rfl (Or.inr (Or.inr (Or.inr (Or.inr ⟨rfl, rfl, rfl⟩)))) (hb hby own_d4_33) (by decide) (by decide) ?_
        exact ⟨_, rfl, N0, e_6⟩
      · refine Goes.step (fun _ kK => XS.icmpYes X0.here hx rfl (pc0 := 27) (pc' := 34) rfl (hb hby own_d4_27) rfl (feq hc_5).2 (by decide) (by decide) kK) ?_
        show Goes pP eE bB _ (s₁.setTop (mkF mM 34 #[.val (.int p1), .val (.int ((p1 &&& (2147483647 : Int32)) % (6 : Int32)))] []))
        refine Goes.step (fun _ kK => XS.iloadN X0.here hx rfl (hb hby own_d4_34) rfl kK) ?_
        show Goes pP eE bB _ (s₁.setTop (mkF mM 35 #[.val (.int p1), .val (.int ((p1 &&& (2147483647 : Int32)) % (6 : Int32)))] [(.int ((p1 &&& (2147483647 : Int32)) % (6 : Int32)))]))
        refine Goes.step (fun _ kK => XS.iconst X0.here hx rfl (hb hby own_d4_35) kK) ?_
        show Goes pP eE bB _ (s₁.setTop (mkF mM 36 #[.val (.int p1), .val (.int ((p1 &&& (2147483647 : Int32)) % (6 : Int32)))] [(.int (3 : Int32)), (.int ((p1 &&& (2147483647 : Int32)) % (6 : Int32)))]))
        by_cases hc_7 : ((p1 &&& (2147483647 : Int32)) % (6 : Int32)) = (3 : Int32)
        · refine Goes.step (fun _ kK => XS.icmpNo X0.here hx rfl (hb hby own_d4_36) rfl (teq hc_7).2 kK) ?_
          show Goes pP eE bB _ (s₁.setTop (mkF mM 39 #[.val (.int p1), .val (.int ((p1 &&& (2147483647 : Int32)) % (6 : Int32)))] []))
          obtain ⟨T_8, X_8, e_8, st_8⟩ := getS2 X0 hx hZ hown (host := "") (Or.inl (hw _ (List.mem_of_getElem? (i := 57) rfl))) Via.refl e0 (Sw3.ext O0.2) (g := (mkF mM 39 #[.val (.int p1), .val (.int ((p1 &&& (2147483647 : Int32)) % (6 : Int32)))] [])) rfl (hb hby own_d4_39)
          refine Goes.step st_8 ?_
          show Goes pP eE bB _ (T_8.setTop (mkF mM 42 #[.val (.int p1), .val (.int ((p1 &&& (2147483647 : Int32)) % (6 : Int32)))] [(.ref w3)]))
          refine Goes.ret X_8 hx hlk hret rfl (Or.inr (Or.inr (Or.inr (Or.inr ⟨rfl, rfl, rfl⟩)))) (hb hby own_d4_42) (by decide) (by decide) ?_
          exact ⟨_, rfl, N0, e_8⟩
        · refine Goes.step (fun _ kK => XS.icmpYes X0.here hx rfl (pc0 := 36) (pc' := 43) rfl (hb hby own_d4_36) rfl (feq hc_7).2 (by decide) (by decide) kK) ?_
          show Goes pP eE bB _ (s₁.setTop (mkF mM 43 #[.val (.int p1), .val (.int ((p1 &&& (2147483647 : Int32)) % (6 : Int32)))] []))
          refine Goes.step (fun _ kK => XS.iloadN X0.here hx rfl (hb hby own_d4_43) rfl kK) ?_
          show Goes pP eE bB _ (s₁.setTop (mkF mM 44 #[.val (.int p1), .val (.int ((p1 &&& (2147483647 : Int32)) % (6 : Int32)))] [(.int ((p1 &&& (2147483647 : Int32)) % (6 : Int32)))]))
          refine Goes.step (fun _ kK => XS.iconst X0.here hx rfl (hb hby own_d4_44) kK) ?_
          show Goes pP eE bB _ (s₁.setTop (mkF mM 45 #[.val (.int p1), .val (.int ((p1 &&& (2147483647 : Int32)) % (6 : Int32)))] [(.int (4 : Int32)), (.int ((p1 &&& (2147483647 : Int32)) % (6 : Int32)))]))
          by_cases hc_9 : ((p1 &&& (2147483647 : Int32)) % (6 : Int32)) = (4 : Int32)
          · refine Goes.step (fun _ kK => XS.icmpNo X0.here hx rfl (hb hby own_d4_45) rfl (teq hc_9).2 kK) ?_
            show Goes pP eE bB _ (s₁.setTop (mkF mM 48 #[.val (.int p1), .val (.int ((p1 &&& (2147483647 : Int32)) % (6 : Int32)))] []))
            obtain ⟨T_10, X_10, e_10, st_10⟩ := getS2 X0 hx hZ hown (host := "") (Or.inl (hw _ (List.mem_of_getElem? (i := 53) rfl))) Via.refl e0 (Sw4.ext O0.2) (g := (mkF mM 48 #[.val (.int p1), .val (.int ((p1 &&& (2147483647 : Int32)) % (6 : Int32)))] [])) rfl (hb hby own_d4_48)
            refine Goes.step st_10 ?_
            show Goes pP eE bB _ (T_10.setTop (mkF mM 51 #[.val (.int p1), .val (.int ((p1 &&& (2147483647 : Int32)) % (6 : Int32)))] [(.ref w4)]))
            refine Goes.ret X_10 hx hlk hret rfl (Or.inr (Or.inr (Or.inr (Or.inr ⟨rfl, rfl, rfl⟩)))) (hb hby own_d4_51) (by decide) (by decide) ?_
            exact ⟨_, rfl, N0, e_10⟩
          · refine Goes.step (fun _ kK => XS.icmpYes X0.here hx rfl (pc0 := 45) (pc' := 52) rfl (hb hby own_d4_45) rfl (feq hc_9).2 (by decide) (by decide) kK) ?_
            show Goes pP eE bB _ (s₁.setTop (mkF mM 52 #[.val (.int p1), .val (.int ((p1 &&& (2147483647 : Int32)) % (6 : Int32)))] []))
            obtain ⟨T_11, X_11, e_11, st_11⟩ := getS2 X0 hx hZ hown (host := "") (Or.inl (hw _ (List.mem_of_getElem? (i := 59) rfl))) Via.refl e0 (Sw5.ext O0.2) (g := (mkF mM 52 #[.val (.int p1), .val (.int ((p1 &&& (2147483647 : Int32)) % (6 : Int32)))] [])) rfl (hb hby own_d4_52)
            refine Goes.step st_11 ?_
            show Goes pP eE bB _ (T_11.setTop (mkF mM 55 #[.val (.int p1), .val (.int ((p1 &&& (2147483647 : Int32)) % (6 : Int32)))] [(.ref w5)]))
            refine Goes.ret X_11 hx hlk hret rfl (Or.inr (Or.inr (Or.inr (Or.inr ⟨rfl, rfl, rfl⟩)))) (hb hby own_d4_55) (by decide) (by decide) ?_
            exact ⟨_, rfl, N0, e_11⟩
set_option maxRecDepth 65536 in
set_option maxHeartbeats 40000000 in
theorem rmC (l : Launch) (Z : State) (a0 : Array Value) (hw : ∀ d ∈ tables_1, d.before a0 Z = true) (a1 a2 a3 a4 : Addr) (h0 : Heap) (n0 : Nat) (Z0 : n0 ≤ h0.size) (E0 : Exa Z h0 a1 "com/example/anchorline/anchorline/tcap/Dialogue") (ga : n0 ≤ a1) (F_peer : Fld Z h0 a1 "com/example/anchorline/anchorline/tcap/Dialogue" "peer" "Lcom/example/anchorline/anchorline/sccp/SccpAddress;" .null) (F_applicationContext : Fld Z h0 a1 "com/example/anchorline/anchorline/tcap/Dialogue" "applicationContext" "[B" .null) (F_state : Fld Z h0 a1 "com/example/anchorline/anchorline/tcap/Dialogue" "state" "Lcom/example/anchorline/anchorline/tcap/Dialogue$State;" .null) (F_last : Fld Z h0 a1 "com/example/anchorline/anchorline/tcap/Dialogue" "lastInvokeId" "I" (.int (0 : Int32))) :
    Con l Z (⟨"com/example/anchorline/anchorline/tcap/Dialogue", "<init>", "(Lcom/example/anchorline/anchorline/sccp/SccpAddress;[BLcom/example/anchorline/anchorline/tcap/Dialogue$State;)V"⟩ : MethodName) prog_133_method_1_code 4 none ({ frames := 1, cells := 0, slots := 0, locals := 12 } : Room) #[(.ref a1), (.ref a2), (.ref a3), (.ref a4)] h0 (fun v h L => v = none ∧ Fr n0 L ∧ Keep h0 h [a1] ∧ Fld Z h a1 "com/example/anchorline/anchorline/tcap/Dialogue" "lastInvokeId" "I" (.int (0 : Int32))) := by
  refine Con.body (plainFor_of_name own_pn3) ?_
  intro pP eE sS mM bB mT cC s₁ hx hby hml hZ hown hnm hret hlk X0 e0
  have hown : sS.vm.findClass "com/example/anchorline/anchorline/tcap/Dialogue" = some mM.cls := hown
  have hml : cC.maxLocals = 4 := hml
  have N0 := Fr.nil n0
  have ef : entryFrame mM #[(.ref a1), (.ref a2), (.ref a3), (.ref a4)] 4 = mkF mM 0 #[.val (.ref a1), .val (.ref a2), .val (.ref a3), .val (.ref a4)] [] := by first | (simp [entryFrame, mkF, argsToLocals, Value.category]; done) | rfl
  rw [ef]
  show Goes pP eE bB _ (s₁.setTop (mkF mM 0 #[.val (.ref a1), .val (.ref a2), .val (.ref a3), .val (.ref a4)] []))
  refine Goes.step (fun _ kK => XS.aloadN X0.here hx rfl (hb hby own_d5_0) rfl rfl kK) ?_
  show Goes pP eE bB _ (s₁.setTop (mkF mM 1 #[.val (.ref a1), .val (.ref a2), .val (.ref a3), .val (.ref a4)] [(.ref a1)]))
  obtain ⟨T_1, X_1, e_1, st_1⟩ := initO X0 hx hZ hown (hw _ (List.mem_of_getElem? (i := 33) rfl)) (hw _ (List.mem_of_getElem? (i := 12) rfl)) (hw _ (List.mem_of_getElem? (i := 13) rfl)) e0 (g := (mkF mM 1 #[.val (.ref a1), .val (.ref a2), .val (.ref a3), .val (.ref a4)] [(.ref a1)])) rfl (by rw [hml]; rfl) rfl (hb hby own_d5_1) (by decide) (W := 0) (by show 2 * 0 + _ ≤ _; exact Nat.le_of_eq rfl) (by decide)
  refine Goes.step st_1 ?_
  show Goes pP eE bB _ (T_1.setTop (mkF mM 4 #[.val (.ref a1), .val (.ref a2), .val (.ref a3), .val (.ref a4)] []))
  refine Goes.step (fun _ kK => XS.aloadN X_1.here hx rfl (hb hby own_d5_4) rfl rfl kK) ?_
  show Goes pP eE bB _ (T_1.setTop (mkF mM 5 #[.val (.ref a1), .val (.ref a2), .val (.ref a3), .val (.ref a4)] [(.ref a1)]))
  refine Goes.step (fun _ kK => XS.aloadN X_1.here hx rfl (hb hby own_d5_5) rfl rfl kK) ?_
  show Goes pP eE bB _ (T_1.setTop (mkF mM 6 #[.val (.ref a1), .val (.ref a2), .val (.ref a3), .val (.ref a4)] [(.ref a2), (.ref a1)]))
  obtain ⟨T_2, h_2, X_2, e_2, W_2, st_2⟩ := putF X_1 hx hZ hown (host := "") (Or.inl (hw _ (List.mem_of_getElem? (i := 34) rfl))) Via.refl e_1 F_peer E0 (Or.inr ⟨(hw _ (List.mem_of_getElem? (i := 35) rfl)), rfl, hnm⟩) (hw _ (List.mem_of_getElem? (i := 20) rfl)) (ty := (.object "com/example/anchorline/anchorline/sccp/SccpAddress")) (by decide) rfl rfl (g := (mkF mM 6 #[.val (.ref a1), .val (.ref a2), .val (.ref a3), .val (.ref a4)] [(.ref a2), (.ref a1)])) rfl rfl (hb hby own_d5_6)
  have u_3 := F_peer.same W_2
  have N_2 := Fr.snoc X_2 N0 ga
  refine Goes.step st_2 ?_
  show Goes pP eE bB _ (T_2.setTop (mkF mM 9 #[.val (.ref a1), .val (.ref a2), .val (.ref a3), .val (.ref a4)] []))
  refine Goes.step (fun _ kK => XS.aloadN X_2.here hx rfl (hb hby own_d5_9) rfl rfl kK) ?_
  show Goes pP eE bB _ (T_2.setTop (mkF mM 10 #[.val (.ref a1), .val (.ref a2), .val (.ref a3), .val (.ref a4)] [(.ref a1)]))
  refine Goes.step (fun _ kK => XS.aloadN X_2.here hx rfl (hb hby own_d5_10) rfl rfl kK) ?_
  show Goes pP eE bB _ (T_2.setTop (mkF mM 11 #[.val (.ref a1), .val (.ref a2), .val (.ref a3), .val (.ref a4)] [(.ref a3), (.ref a1)]))
  have u_4 := F_applicationContext.other W_2 (Or.inr (slot_ne (Or.inr (hw _ (List.mem_of_getElem? (i := 37) rfl))) (Or.inr (hw _ (List.mem_of_getElem? (i := 35) rfl))) (by decide) (t := (.array .byte)) (t' := (.object "com/example/anchorline/anchorline/sccp/SccpAddress")) (by decide) (by decide)))
  have u_5 := E0.wr W_2
  obtain ⟨T_6, h_6, X_6, e_6, W_6, st_6⟩ := putF X_2 hx hZ hown (host := "") (Or.inl (hw _ (List.mem_of_getElem? (i := 36) rfl))) Via.refl e_2 u_4 u_5 (Or.inr ⟨(hw _ (List.mem_of_getElem? (i := 37) rfl)), rfl, hnm⟩) (hw _ (List.mem_of_getElem? (i := 20) rfl)) (ty := (.array .byte)) (by decide) rfl rfl (g := (mkF mM 11 #[.val (.ref a1), .val (.ref a2), .val (.ref a3), .val (.ref a4)] [(.ref a3), (.ref a1)])) rfl rfl (hb hby own_d5_11)
  have u_7 := u_4.same W_6
  have N_6 := Fr.snoc X_6 N_2 ga
  refine Goes.step st_6 ?_
  show Goes pP eE bB _ (T_6.setTop (mkF mM 14 #[.val (.ref a1), .val (.ref a2), .val (.ref a3), .val (.ref a4)] []))
  refine Goes.step (fun _ kK => XS.aloadN X_6.here hx rfl (hb hby own_d5_14) rfl rfl kK) ?_
  show Goes pP eE bB _ (T_6.setTop (mkF mM 15 #[.val (.ref a1), .val (.ref a2), .val (.ref a3), .val (.ref a4)] [(.ref a1)]))
  refine Goes.step (fun _ kK => XS.aloadN X_6.here hx rfl (hb hby own_d5_15) rfl rfl kK) ?_
  show Goes pP eE bB _ (T_6.setTop (mkF mM 16 #[.val (.ref a1), .val (.ref a2), .val (.ref a3), .val (.ref a4)] [(.ref a4), (.ref a1)]))
  have u_8 := F_state.other W_2 (Or.inr (slot_ne (Or.inl (hw _ (List.mem_of_getElem? (i := 39) rfl))) (Or.inr (hw _ (List.mem_of_getElem? (i := 35) rfl))) (by decide) (t := (.object "com/example/anchorline/anchorline/tcap/Dialogue$State")) (t' := (.object "com/example/anchorline/anchorline/sccp/SccpAddress")) (by decide) (by decide)))
  have u_9 := u_8.other W_6 (Or.inr (slot_ne (Or.inl (hw _ (List.mem_of_getElem? (i := 39) rfl))) (Or.inr (hw _ (List.mem_of_getElem? (i := 37) rfl))) (by decide) (t := (.object "com/example/anchorline/anchorline/tcap/Dialogue$State")) (t' := (.array .byte)) (by decide) (by decide)))
  have u_10 := u_5.wr W_6
  obtain ⟨T_11, h_11, X_11, e_11, W_11, st_11⟩ := putF X_6 hx hZ hown (host := "") (Or.inl (hw _ (List.mem_of_getElem? (i := 38) rfl))) Via.refl e_6 u_9 u_10 (Or.inl (hw _ (List.mem_of_getElem? (i := 39) rfl))) (hw _ (List.mem_of_getElem? (i := 20) rfl)) (ty := (.object "com/example/anchorline/anchorline/tcap/Dialogue$State")) (by decide) rfl rfl (g := (mkF mM 16 #[.val (.ref a1), .val (.ref a2), .val (.ref a3), .val (.ref a4)] [(.ref a4), (.ref a1)])) rfl rfl (hb hby own_d5_16)
  have u_12 := u_9.same W_11
  have N_11 := Fr.snoc X_11 N_6 ga
  refine Goes.step st_11 ?_
  show Goes pP eE bB _ (T_11.setTop (mkF mM 19 #[.val (.ref a1), .val (.ref a2), .val (.ref a3), .val (.ref a4)] []))
  refine Goes.ret0 X_11 hx hlk hret (hb hby own_d5_19) (by decide) (by decide) ?_
  have u_13 := (Keep.refl h0 [a1]).wr W_2 (Or.inl (List.mem_of_getElem? (i := 0) rfl))
  have u_14 := u_13.wr W_6 (Or.inl (List.mem_of_getElem? (i := 0) rfl))
  have u_15 := u_14.wr W_11 (Or.inl (List.mem_of_getElem? (i := 0) rfl))
  have u_16 := F_last.other W_2 (Or.inr (slot_ne (Or.inl (hw _ (List.mem_of_getElem? (i := 52) rfl))) (Or.inr (hw _ (List.mem_of_getElem? (i := 35) rfl))) (by decide) (t := .int) (t' := (.object "com/example/anchorline/anchorline/sccp/SccpAddress")) (by decide) (by decide)))
  have u_17 := u_16.other W_6 (Or.inr (slot_ne (Or.inl (hw _ (List.mem_of_getElem? (i := 52) rfl))) (Or.inr (hw _ (List.mem_of_getElem? (i := 37) rfl))) (by decide) (t := .int) (t' := (.array .byte)) (by decide) (by decide)))
  have u_18 := u_17.other W_11 (Or.inr (slot_ne (Or.inl (hw _ (List.mem_of_getElem? (i := 52) rfl))) (Or.inl (hw _ (List.mem_of_getElem? (i := 39) rfl))) (by decide) (t := .int) (t' := (.object "com/example/anchorline/anchorline/tcap/Dialogue$State")) (by decide) (by decide)))
  exact ⟨rfl, N_11, by rw [e_11]; exact u_15, by rw [e_11]; exact u_18⟩
set_option maxRecDepth 65536 in
set_option maxHeartbeats 40000000 in
theorem rmC0 (l : Launch) (Z : State) (a0 : Array Value) (hw : ∀ d ∈ tables_1, d.before a0 Z = true) (a1 a2 a4 : Addr) (h0 : Heap) (n0 : Nat) (Z0 : n0 ≤ h0.size) (E0 : Exa Z h0 a1 "com/example/anchorline/anchorline/tcap/Dialogue") (ga : n0 ≤ a1) (F_peer : Fld Z h0 a1 "com/example/anchorline/anchorline/tcap/Dialogue" "peer" "Lcom/example/anchorline/anchorline/sccp/SccpAddress;" .null) (F_applicationContext : Fld Z h0 a1 "com/example/anchorline/anchorline/tcap/Dialogue" "applicationContext" "[B" .null) (F_state : Fld Z h0 a1 "com/example/anchorline/anchorline/tcap/Dialogue" "state" "Lcom/example/anchorline/anchorline/tcap/Dialogue$State;" .null) (F_last : Fld Z h0 a1 "com/example/anchorline/anchorline/tcap/Dialogue" "lastInvokeId" "I" (.int (0 : Int32))) :
    Con l Z (⟨"com/example/anchorline/anchorline/tcap/Dialogue", "<init>", "(Lcom/example/anchorline/anchorline/sccp/SccpAddress;[BLcom/example/anchorline/anchorline/tcap/Dialogue$State;)V"⟩ : MethodName) prog_133_method_1_code 4 none ({ frames := 1, cells := 0, slots := 0, locals := 12 } : Room) #[(.ref a1), (.ref a2), .null, (.ref a4)] h0 (fun v h L => v = none ∧ Fr n0 L ∧ Keep h0 h [a1] ∧ Fld Z h a1 "com/example/anchorline/anchorline/tcap/Dialogue" "lastInvokeId" "I" (.int (0 : Int32))) := by
  refine Con.body (plainFor_of_name own_pn3) ?_
  intro pP eE sS mM bB mT cC s₁ hx hby hml hZ hown hnm hret hlk X0 e0
  have hown : sS.vm.findClass "com/example/anchorline/anchorline/tcap/Dialogue" = some mM.cls := hown
  have hml : cC.maxLocals = 4 := hml
  have N0 := Fr.nil n0
  have ef : entryFrame mM #[(.ref a1), (.ref a2), .null, (.ref a4)] 4 = mkF mM 0 #[.val (.ref a1), .val (.ref a2), .val .null, .val (.ref a4)] [] := by first | (simp [entryFrame, mkF, argsToLocals, Value.category]; done) | rfl
  rw [ef]
  show Goes pP eE bB _ (s₁.setTop (mkF mM 0 #[.val (.ref a1), .val (.ref a2), .val .null, .val (.ref a4)] []))
  refine Goes.step (fun _ kK => XS.aloadN X0.here hx rfl (hb hby own_d5_0) rfl rfl kK) ?_
  show Goes pP eE bB _ (s₁.setTop (mkF mM 1 #[.val (.ref a1), .val (.ref a2), .val .null, .val (.ref a4)] [(.ref a1)]))
  obtain ⟨T_1, X_1, e_1, st_1⟩ := initO X0 hx hZ hown (hw _ (List.mem_of_getElem? (i := 33) rfl)) (hw _ (List.mem_of_getElem? (i := 12) rfl)) (hw _ (List.mem_of_getElem? (i := 13) rfl)) e0 (g := (mkF mM 1 #[.val (.ref a1), .val (.ref a2), .val .null, .val (.ref a4)] [(.ref a1)])) rfl (by rw [hml]; rfl) rfl (hb hby own_d5_1) (by decide) (W := 0) (by show 2 * 0 + _ ≤ _; exact Nat.le_of_eq rfl) (by decide)
  refine Goes.step st_1 ?_
  show Goes pP eE bB _ (T_1.setTop (mkF mM 4 #[.val (.ref a1), .val (.ref a2), .val .null, .val (.ref a4)] []))
  refine Goes.step (fun _ kK => XS.aloadN X_1.here hx rfl (hb hby own_d5_4) rfl rfl kK) ?_
  show Goes pP eE bB _ (T_1.setTop (mkF mM 5 #[.val (.ref a1), .val (.ref a2), .val .null, .val (.ref a4)] [(.ref a1)]))
  refine Goes.step (fun _ kK => XS.aloadN X_1.here hx rfl (hb hby own_d5_5) rfl rfl kK) ?_
  show Goes pP eE bB _ (T_1.setTop (mkF mM 6 #[.val (.ref a1), .val (.ref a2), .val .null, .val (.ref a4)] [(.ref a2), (.ref a1)]))
  obtain ⟨T_2, h_2, X_2, e_2, W_2, st_2⟩ := putF X_1 hx hZ hown (host := "") (Or.inl (hw _ (List.mem_of_getElem? (i := 34) rfl))) Via.refl e_1 F_peer E0 (Or.inr ⟨(hw _ (List.mem_of_getElem? (i := 35) rfl)), rfl, hnm⟩) (hw _ (List.mem_of_getElem? (i := 20) rfl)) (ty := (.object "com/example/anchorline/anchorline/sccp/SccpAddress")) (by decide) rfl rfl (g := (mkF mM 6 #[.val (.ref a1), .val (.ref a2), .val .null, .val (.ref a4)] [(.ref a2), (.ref a1)])) rfl rfl (hb hby own_d5_6)
  have u_3 := F_peer.same W_2
  have N_2 := Fr.snoc X_2 N0 ga
  refine Goes.step st_2 ?_
  show Goes pP eE bB _ (T_2.setTop (mkF mM 9 #[.val (.ref a1), .val (.ref a2), .val .null, .val (.ref a4)] []))
  refine Goes.step (fun _ kK => XS.aloadN X_2.here hx rfl (hb hby own_d5_9) rfl rfl kK) ?_
  show Goes pP eE bB _ (T_2.setTop (mkF mM 10 #[.val (.ref a1), .val (.ref a2), .val .null, .val (.ref a4)] [(.ref a1)]))
  refine Goes.step (fun _ kK => XS.aloadN X_2.here hx rfl (hb hby own_d5_10) rfl rfl kK) ?_
  show Goes pP eE bB _ (T_2.setTop (mkF mM 11 #[.val (.ref a1), .val (.ref a2), .val .null, .val (.ref a4)] [.null, (.ref a1)]))
  have u_4 := F_applicationContext.other W_2 (Or.inr (slot_ne (Or.inr (hw _ (List.mem_of_getElem? (i := 37) rfl))) (Or.inr (hw _ (List.mem_of_getElem? (i := 35) rfl))) (by decide) (t := (.array .byte)) (t' := (.object "com/example/anchorline/anchorline/sccp/SccpAddress")) (by decide) (by decide)))
  have u_5 := E0.wr W_2
  obtain ⟨T_6, h_6, X_6, e_6, W_6, st_6⟩ := putF X_2 hx hZ hown (host := "") (Or.inl (hw _ (List.mem_of_getElem? (i := 36) rfl))) Via.refl e_2 u_4 u_5 (Or.inr ⟨(hw _ (List.mem_of_getElem? (i := 37) rfl)), rfl, hnm⟩) (hw _ (List.mem_of_getElem? (i := 20) rfl)) (ty := (.array .byte)) (by decide) rfl rfl (g := (mkF mM 11 #[.val (.ref a1), .val (.ref a2), .val .null, .val (.ref a4)] [.null, (.ref a1)])) rfl rfl (hb hby own_d5_11)
  have u_7 := u_4.same W_6
  have N_6 := Fr.snoc X_6 N_2 ga
  refine Goes.step st_6 ?_
  show Goes pP eE bB _ (T_6.setTop (mkF mM 14 #[.val (.ref a1), .val (.ref a2), .val .null, .val (.ref a4)] []))
  refine Goes.step (fun _ kK => XS.aloadN X_6.here hx rfl (hb hby own_d5_14) rfl rfl kK) ?_
  show Goes pP eE bB _ (T_6.setTop (mkF mM 15 #[.val (.ref a1), .val (.ref a2), .val .null, .val (.ref a4)] [(.ref a1)]))
  refine Goes.step (fun _ kK => XS.aloadN X_6.here hx rfl (hb hby own_d5_15) rfl rfl kK) ?_
  show Goes pP eE bB _ (T_6.setTop (mkF mM 16 #[.val (.ref a1), .val (.ref a2), .val .null, .val (.ref a4)] [(.ref a4), (.ref a1)]))
  have u_8 := F_state.other W_2 (Or.inr (slot_ne (Or.inl (hw _ (List.mem_of_getElem? (i := 39) rfl))) (Or.inr (hw _ (List.mem_of_getElem? (i := 35) rfl))) (by decide) (t := (.object "com/example/anchorline/anchorline/tcap/Dialogue$State")) (t' := (.object "com/example/anchorline/anchorline/sccp/SccpAddress")) (by decide) (by decide)))
  have u_9 := u_8.other W_6 (Or.inr (slot_ne (Or.inl (hw _ (List.mem_of_getElem? (i := 39) rfl))) (Or.inr (hw _ (List.mem_of_getElem? (i := 37) rfl))) (by decide) (t := (.object "com/example/anchorline/anchorline/tcap/Dialogue$State")) (t' := (.array .byte)) (by decide) (by decide)))
  have u_10 := u_5.wr W_6
  obtain ⟨T_11, h_11, X_11, e_11, W_11, st_11⟩ := putF X_6 hx hZ hown (host := "") (Or.inl (hw _ (List.mem_of_getElem? (i := 38) rfl))) Via.refl e_6 u_9 u_10 (Or.inl (hw _ (List.mem_of_getElem? (i := 39) rfl))) (hw _ (List.mem_of_getElem? (i := 20) rfl)) (ty := (.object "com/example/anchorline/anchorline/tcap/Dialogue$State")) (by decide) rfl rfl (g := (mkF mM 16 #[.val (.ref a1), .val (.ref a2), .val .null, .val (.ref a4)] [(.ref a4), (.ref a1)])) rfl rfl (hb hby own_d5_16)
  have u_12 := u_9.same W_11
  have N_11 := Fr.snoc X_11 N_6 ga
  refine Goes.step st_11 ?_
  show Goes pP eE bB _ (T_11.setTop (mkF mM 19 #[.val (.ref a1), .val (.ref a2), .val .null, .val (.ref a4)] []))
  refine Goes.ret0 X_11 hx hlk hret (hb hby own_d5_19) (by decide) (by decide) ?_
  have u_13 := (Keep.refl h0 [a1]).wr W_2 (Or.inl (List.mem_of_getElem? (i := 0) rfl))
  have u_14 := u_13.wr W_6 (Or.inl (List.mem_of_getElem? (i := 0) rfl))
  have u_15 := u_14.wr W_11 (Or.inl (List.mem_of_getElem? (i := 0) rfl))
  have u_16 := F_last.other W_2 (Or.inr (slot_ne (Or.inl (hw _ (List.mem_of_getElem? (i := 52) rfl))) (Or.inr (hw _ (List.mem_of_getElem? (i := 35) rfl))) (by decide) (t := .int) (t' := (.object "com/example/anchorline/anchorline/sccp/SccpAddress")) (by decide) (by decide)))
  have u_17 := u_16.other W_6 (Or.inr (slot_ne (Or.inl (hw _ (List.mem_of_getElem? (i := 52) rfl))) (Or.inr (hw _ (List.mem_of_getElem? (i := 37) rfl))) (by decide) (t := .int) (t' := (.array .byte)) (by decide) (by decide)))
  have u_18 := u_17.other W_11 (Or.inr (slot_ne (Or.inl (hw _ (List.mem_of_getElem? (i := 52) rfl))) (Or.inl (hw _ (List.mem_of_getElem? (i := 39) rfl))) (by decide) (t := .int) (t' := (.object "com/example/anchorline/anchorline/tcap/Dialogue$State")) (by decide) (by decide)))
  exact ⟨rfl, N_11, by rw [e_11]; exact u_15, by rw [e_11]; exact u_18⟩
set_option maxRecDepth 65536 in
set_option maxHeartbeats 40000000 in
theorem rmN (l : Launch) (Z : State) (a0 : Array Value) (hw : ∀ d ∈ tables_1, d.before a0 Z = true) (a1 : Addr) (c : Int32) (h0 : Heap) (n0 : Nat) (Z0 : n0 ≤ h0.size) (hc : c % (127 : Int32) = c) (hc' : c % (127 : Int32) + (1 : Int32) = c + (1 : Int32)) (E0 : Exa Z h0 a1 "com/example/anchorline/anchorline/tcap/Dialogue") (ga : n0 ≤ a1) (F0 : Fld Z h0 a1 "com/example/anchorline/anchorline/tcap/Dialogue" "lastInvokeId" "I" (.int c)) :
    Con l Z (⟨"com/example/anchorline/anchorline/tcap/Dialogue", "newInvokeId", "()I"⟩ : MethodName) prog_133_method_4_code 1 (some .int) ({ frames := 0, cells := 0, slots := 0, locals := 0 } : Room) #[(.ref a1)] h0 (fun v h L => v = some (.int (c + (1 : Int32))) ∧ Fr n0 L ∧ Keep h0 h [a1] ∧ Fld Z h a1 "com/example/anchorline/anchorline/tcap/Dialogue" "lastInvokeId" "I" (.int (c + (1 : Int32)))) := by
  refine Con.body (plainFor_of_name own_pn3) ?_
  intro pP eE sS mM bB mT cC s₁ hx hby hml hZ hown hnm hret hlk X0 e0
  have hown : sS.vm.findClass "com/example/anchorline/anchorline/tcap/Dialogue" = some mM.cls := hown
  have hml : cC.maxLocals = 1 := hml
  have N0 := Fr.nil n0
  have ef : entryFrame mM #[(.ref a1)] 1 = mkF mM 0 #[.val (.ref a1)] [] := by first | (simp [entryFrame, mkF, argsToLocals, Value.category]; done) | rfl
  rw [ef]
  show Goes pP eE bB _ (s₁.setTop (mkF mM 0 #[.val (.ref a1)] []))
  refine Goes.step (fun _ kK => XS.aloadN X0.here hx rfl (hb hby own_d7_0) rfl rfl kK) ?_
  show Goes pP eE bB _ (s₁.setTop (mkF mM 1 #[.val (.ref a1)] [(.ref a1)]))
  refine Goes.step (fun _ kK => XS.aloadN X0.here hx rfl (hb hby own_d7_1) rfl rfl kK) ?_
  show Goes pP eE bB _ (s₁.setTop (mkF mM 2 #[.val (.ref a1)] [(.ref a1), (.ref a1)]))
  obtain ⟨T_1, X_1, e_1, st_1⟩ := getF X0 hx hZ hown (host := "") (Or.inl (hw _ (List.mem_of_getElem? (i := 51) rfl))) Via.refl e0 F0 (g := (mkF mM 2 #[.val (.ref a1)] [(.ref a1), (.ref a1)])) rfl rfl (hb hby own_d7_2)
  refine Goes.step st_1 ?_
  show Goes pP eE bB _ (T_1.setTop (mkF mM 5 #[.val (.ref a1)] [(.int c), (.ref a1)]))
  refine Goes.step (fun _ kK => XS.bipush X_1.here hx rfl (hb hby own_d7_5) kK) ?_
  show Goes pP eE bB _ (T_1.setTop (mkF mM 7 #[.val (.ref a1)] [(.int (127 : Int32)), (.int c), (.ref a1)]))
  refine Goes.step (fun _ kK => Jvm.RoadKit.iremM X_1 hx rfl (hb hby own_d7_7) rfl (by decide) kK) ?_
  show Goes pP eE bB _ (T_1.setTop (mkF mM 8 #[.val (.ref a1)] [(.int (c % (127 : Int32))), (.ref a1)]))
  refine Goes.step (fun _ kK => XS.iconst X_1.here hx rfl (hb hby own_d7_8) kK) ?_
  show Goes pP eE bB _ (T_1.setTop (mkF mM 9 #[.val (.ref a1)] [(.int (1 : Int32)), (.int (c % (127 : Int32))), (.ref a1)]))
  refine Goes.step (fun _ kK => XS.iadd X_1.here hx rfl (hb hby own_d7_9) rfl kK) ?_
  show Goes pP eE bB _ (T_1.setTop (mkF mM 10 #[.val (.ref a1)] [(.int ((c % (127 : Int32)) + (1 : Int32))), (.ref a1)]))
  obtain ⟨T_2, h_2, X_2, e_2, W_2, st_2⟩ := putF X_1 hx hZ hown (host := "") (Or.inl (hw _ (List.mem_of_getElem? (i := 51) rfl))) Via.refl e_1 F0 E0 (Or.inl (hw _ (List.mem_of_getElem? (i := 52) rfl))) (hw _ (List.mem_of_getElem? (i := 20) rfl)) (ty := .int) (by decide) rfl rfl (g := (mkF mM 10 #[.val (.ref a1)] [(.int ((c % (127 : Int32)) + (1 : Int32))), (.ref a1)])) rfl rfl (hb hby own_d7_10)
  have u_3 := F0.same W_2
  have N_2 := Fr.snoc X_2 N0 ga
  refine Goes.step st_2 ?_
  show Goes pP eE bB _ (T_2.setTop (mkF mM 13 #[.val (.ref a1)] []))
  refine Goes.step (fun _ kK => XS.aloadN X_2.here hx rfl (hb hby own_d7_13) rfl rfl kK) ?_
  show Goes pP eE bB _ (T_2.setTop (mkF mM 14 #[.val (.ref a1)] [(.ref a1)]))
  obtain ⟨T_4, X_4, e_4, st_4⟩ := getF X_2 hx hZ hown (host := "") (Or.inl (hw _ (List.mem_of_getElem? (i := 51) rfl))) Via.refl e_2 u_3 (g := (mkF mM 14 #[.val (.ref a1)] [(.ref a1)])) rfl rfl (hb hby own_d7_14)
  refine Goes.step st_4 ?_
  show Goes pP eE bB _ (T_4.setTop (mkF mM 17 #[.val (.ref a1)] [(.int ((c % (127 : Int32)) + (1 : Int32)))]))
  refine Goes.ret X_4 hx hlk hret rfl (Or.inl ⟨rfl, Or.inl rfl, _, rfl⟩) (hb hby own_d7_17) (by decide) (by decide) ?_
  have u_5 := (Keep.refl h0 [a1]).wr W_2 (Or.inl (List.mem_of_getElem? (i := 0) rfl))
  exact ⟨by rw [hc], N_2, by rw [e_4]; exact u_5, by rw [e_4, ← hc']; exact u_3⟩
set_option maxRecDepth 65536 in
set_option maxHeartbeats 40000000 in
theorem rmP0 (l : Launch) (Z : State) (a0 : Array Value) (hw : ∀ d ∈ tables_1, d.before a0 Z = true) (a1 a2 a3 : Addr) (c0 c1 : Int32) (h0 : Heap) (n0 : Nat) (Z0 : n0 ≤ h0.size) (k : Int) (hk : k ≤ 100) (E1 : Exa Z h0 a1 "com/example/anchorline/anchorline/tcap/Dialogue") (E2 : Exa Z h0 a2 "com/example/anchorline/anchorline/tcap/Dialogue") (g1 : n0 ≤ a1) (g2 : n0 ≤ a2) (g3 : n0 ≤ a3) (d12 : a1 ≠ a2) (d13 : a1 ≠ a3) (d23 : a2 ≠ a3) (I0 : own_Inv Z h0 a1 a2 a3 c0 c1 k) :
    Con l Z (⟨"com/example/anchorline/anchorline/tcap/DialogueNewInvokeIdPinLaw", "step", "(Lcom/example/anchorline/anchorline/tcap/Dialogue;Lcom/example/anchorline/anchorline/tcap/Dialogue;[II)Z"⟩ : MethodName) method_3_code 5 (some .boolean) ({ frames := 1, cells := 0, slots := 0, locals := 12 } : Room) #[(.ref a1), (.ref a2), (.ref a3), (.int (0 : Int32))] h0 (fun v h L => v = some (.int 1) ∧ Fr n0 L ∧ Keep h0 h [a1, a2, a3] ∧ ∃ x0 x1, own_Inv Z h a1 a2 a3 x0 x1 (k + 1)) := by
  refine Con.body (plainFor_of_name own_pn2) ?_
  intro pP eE sS mM bB mT cC s₁ hx hby hml hZ hown hnm hret hlk X0 e0
  have hown : sS.vm.findClass "com/example/anchorline/anchorline/tcap/DialogueNewInvokeIdPinLaw" = some mM.cls := hown
  have hml : cC.maxLocals = 5 := hml
  have N0 := Fr.nil n0
  have ef : entryFrame mM #[(.ref a1), (.ref a2), (.ref a3), (.int (0 : Int32))] 5 = mkF mM 0 #[.val (.ref a1), .val (.ref a2), .val (.ref a3), .val (.int (0 : Int32)), .unset] [] := by first | (simp [entryFrame, mkF, argsToLocals, Value.category]; done) | rfl
  rw [ef]
  obtain ⟨F1, F2, ⟨f, A3, hf0, hf1⟩, hlc0, hkc0, hlc1, hkc1⟩ := I0
  show Goes pP eE bB _ (s₁.setTop (mkF mM 0 #[.val (.ref a1), .val (.ref a2), .val (.ref a3), .val (.int (0 : Int32)), .unset] []))
  refine Goes.step (fun _ kK => XS.iloadN X0.here hx rfl (hb hby own_d6_0) rfl kK) ?_
  show Goes pP eE bB _ (s₁.setTop (mkF mM 1 #[.val (.ref a1), .val (.ref a2), .val (.ref a3), .val (.int (0 : Int32)), .unset] [(.int (0 : Int32))]))
  refine Goes.step (fun _ kK => XS.ifNo X0.here hx rfl (hb hby own_d6_1) rfl ((if0 _ _).trans (teq (by decide)).2) kK) ?_
  show Goes pP eE bB _ (s₁.setTop (mkF mM 4 #[.val (.ref a1), .val (.ref a2), .val (.ref a3), .val (.int (0 : Int32)), .unset] []))
  refine Goes.step (fun _ kK => XS.aloadN X0.here hx rfl (hb hby own_d6_4) rfl rfl kK) ?_
  show Goes pP eE bB _ (s₁.setTop (mkF mM 5 #[.val (.ref a1), .val (.ref a2), .val (.ref a3), .val (.int (0 : Int32)), .unset] [(.ref a1)]))
  refine Goes.step (fun _ kK => XS.goto X0.here hx rfl (pc0 := 5) (pc' := 9) rfl (hb hby own_d6_5) (by decide) (by decide) kK) ?_
  show Goes pP eE bB _ (s₁.setTop (mkF mM 9 #[.val (.ref a1), .val (.ref a2), .val (.ref a3), .val (.int (0 : Int32)), .unset] [(.ref a1)]))
  refine Goes.step (fun _ kK => XS.astore X0.here hx rfl (hb hby own_d6_9) rfl rfl (l' := #[.val (.ref a1), .val (.ref a2), .val (.ref a3), .val (.int (0 : Int32)), .val (.ref a1)]) rfl kK) ?_
  show Goes pP eE bB _ (s₁.setTop (mkF mM 11 #[.val (.ref a1), .val (.ref a2), .val (.ref a3), .val (.int (0 : Int32)), .val (.ref a1)] []))
  refine Goes.step (fun _ kK => XS.aloadN X0.here hx rfl (hb hby own_d6_11) rfl rfl kK) ?_
  show Goes pP eE bB _ (s₁.setTop (mkF mM 12 #[.val (.ref a1), .val (.ref a2), .val (.ref a3), .val (.int (0 : Int32)), .val (.ref a1)] [(.ref a3)]))
  refine Goes.step (fun _ kK => XS.iloadN X0.here hx rfl (hb hby own_d6_12) rfl kK) ?_
  show Goes pP eE bB _ (s₁.setTop (mkF mM 13 #[.val (.ref a1), .val (.ref a2), .val (.ref a3), .val (.int (0 : Int32)), .val (.ref a1)] [(.int (0 : Int32)), (.ref a3)]))
  refine Goes.step (fun _ kK => XS.aloadN X0.here hx rfl (hb hby own_d6_13) rfl rfl kK) ?_
  show Goes pP eE bB _ (s₁.setTop (mkF mM 14 #[.val (.ref a1), .val (.ref a2), .val (.ref a3), .val (.int (0 : Int32)), .val (.ref a1)] [(.ref a3), (.int (0 : Int32)), (.ref a3)]))
  refine Goes.step (fun _ kK => XS.iloadN X0.here hx rfl (hb hby own_d6_14) rfl kK) ?_
  show Goes pP eE bB _ (s₁.setTop (mkF mM 15 #[.val (.ref a1), .val (.ref a2), .val (.ref a3), .val (.int (0 : Int32)), .val (.ref a1)] [(.int (0 : Int32)), (.ref a3), (.int (0 : Int32)), (.ref a3)]))
  refine Goes.iaload X0 hx hZ e0 A3 (i := 0) (by decide) (by decide) hf0 (g := (mkF mM 15 #[.val (.ref a1), .val (.ref a2), .val (.ref a3), .val (.int (0 : Int32)), .val (.ref a1)] [(.int (0 : Int32)), (.ref a3), (.int (0 : Int32)), (.ref a3)])) rfl rfl (hb hby own_d6_15) ?_
  show Goes pP eE bB _ (s₁.setTop (mkF mM 16 #[.val (.ref a1), .val (.ref a2), .val (.ref a3), .val (.int (0 : Int32)), .val (.ref a1)] [(.int c0), (.int (0 : Int32)), (.ref a3)]))
  refine Goes.step (fun _ kK => XS.iconst X0.here hx rfl (hb hby own_d6_16) kK) ?_
  show Goes pP eE bB _ (s₁.setTop (mkF mM 17 #[.val (.ref a1), .val (.ref a2), .val (.ref a3), .val (.int (0 : Int32)), .val (.ref a1)] [(.int (1 : Int32)), (.int c0), (.int (0 : Int32)), (.ref a3)]))
  refine Goes.step (fun _ kK => XS.iadd X0.here hx rfl (hb hby own_d6_17) rfl kK) ?_
  show Goes pP eE bB _ (s₁.setTop (mkF mM 18 #[.val (.ref a1), .val (.ref a2), .val (.ref a3), .val (.int (0 : Int32)), .val (.ref a1)] [(.int (c0 + (1 : Int32))), (.int (0 : Int32)), (.ref a3)]))
  refine Goes.iastore X0 hx hZ e0 A3 (i := 0) (by decide) (by decide) (g := (mkF mM 18 #[.val (.ref a1), .val (.ref a2), .val (.ref a3), .val (.int (0 : Int32)), .val (.ref a1)] [(.int (c0 + (1 : Int32))), (.int (0 : Int32)), (.ref a3)])) rfl rfl (hb hby own_d6_18) ?_
  intro T_1 h_1 X_1 e_1 W_1 A_1
  have N_1 := Fr.snoc X_1 N0 g3
  show Goes pP eE bB _ (T_1.setTop (mkF mM 19 #[.val (.ref a1), .val (.ref a2), .val (.ref a3), .val (.int (0 : Int32)), .val (.ref a1)] []))
  refine Goes.step (fun _ kK => XS.aload X_1.here hx rfl (hb hby own_d6_19) rfl rfl kK) ?_
  show Goes pP eE bB _ (T_1.setTop (mkF mM 21 #[.val (.ref a1), .val (.ref a2), .val (.ref a3), .val (.int (0 : Int32)), .val (.ref a1)] [(.ref a1)]))
  have u_2 := Nat.le_trans Z0 (Keep.of_wr W_1).1
  have u_3 := E1.wr W_1
  have u_4 := F1.other W_1 (Or.inl d13)
  refine Goes.callV X_1 hx hZ hown (hw _ (List.mem_of_getElem? (i := 46) rfl)) (hw _ (List.mem_of_getElem? (i := 47) rfl)) (notFace_of_selects (args := #[]) (mvT hZ (hw _ (List.mem_of_getElem? (i := 49) rfl)))) (hw _ (List.mem_of_getElem? (i := 49) rfl)) (hw _ (List.mem_of_getElem? (i := 48) rfl)) (hw _ (List.mem_of_getElem? (i := 50) rfl)) (hw _ (List.mem_of_getElem? (i := 21) rfl)) (by decide) e_1 u_3 (rmN l Z a0 hw a1 c0 h_1 n0 u_2 (own_c hlc0 hkc0 hk) (by rw [(own_c hlc0 hkc0 hk)]) u_3 g1 u_4) (W := 0) (by decide) (by decide) (by decide) (by decide) (g := (mkF mM 21 #[.val (.ref a1), .val (.ref a2), .val (.ref a3), .val (.int (0 : Int32)), .val (.ref a1)] [(.ref a1)])) rfl (by rw [hml]; rfl) (rest := []) own_pd1 rfl rfl (by show 2 * 0 + _ ≤ _; exact Nat.le_of_eq rfl) (hb hby own_d6_21) ?_
  intro v_5 T_5 L_5 X_5 hQ_5
  generalize e_5 : T_5.heap = h_5 at hQ_5
  obtain ⟨rfl, N_5q, K_5, F_5⟩ := hQ_5
  have N_5 := Fr.app N_1 N_5q
  show Goes pP eE bB _ (T_5.setTop (mkF mM 24 #[.val (.ref a1), .val (.ref a2), .val (.ref a3), .val (.int (0 : Int32)), .val (.ref a1)] [(.int (c0 + (1 : Int32)))]))
  refine Goes.step (fun _ kK => XS.aloadN X_5.here hx rfl (hb hby own_d6_24) rfl rfl kK) ?_
  show Goes pP eE bB _ (T_5.setTop (mkF mM 25 #[.val (.ref a1), .val (.ref a2), .val (.ref a3), .val (.int (0 : Int32)), .val (.ref a1)] [(.ref a3), (.int (c0 + (1 : Int32)))]))
  refine Goes.step (fun _ kK => XS.iloadN X_5.here hx rfl (hb hby own_d6_25) rfl kK) ?_
  show Goes pP eE bB _ (T_5.setTop (mkF mM 26 #[.val (.ref a1), .val (.ref a2), .val (.ref a3), .val (.int (0 : Int32)), .val (.ref a1)] [(.int (0 : Int32)), (.ref a3), (.int (c0 + (1 : Int32)))]))
  have u_6 := A_1.keep K_5 (ninS (Ne.symm d13) nin0)
  refine Goes.iaload X_5 hx hZ e_5 u_6 (i := 0) (by decide) (by decide) (show _ = Value.int (c0 + (1 : Int32)) from if_pos rfl) (g := (mkF mM 26 #[.val (.ref a1), .val (.ref a2), .val (.ref a3), .val (.int (0 : Int32)), .val (.ref a1)] [(.int (0 : Int32)), (.ref a3), (.int (c0 + (1 : Int32)))])) rfl rfl (hb hby own_d6_26) ?_
  show Goes pP eE bB _ (T_5.setTop (mkF mM 27 #[.val (.ref a1), .val (.ref a2), .val (.ref a3), .val (.int (0 : Int32)), .val (.ref a1)] [(.int (c0 + (1 : Int32))), (.int (c0 + (1 : Int32)))]))
  refine Goes.step (fun _ kK => XS.icmpNo X_5.here hx rfl (hb hby own_d6_27) rfl (teq (rfl : (c0 + (1 : Int32)) = (c0 + (1 : Int32)))).2 kK) ?_
  show Goes pP eE bB _ (T_5.setTop (mkF mM 30 #[.val (.ref a1), .val (.ref a2), .val (.ref a3), .val (.int (0 : Int32)), .val (.ref a1)] []))
  refine Goes.step (fun _ kK => XS.iconst X_5.here hx rfl (hb hby own_d6_30) kK) ?_
  show Goes pP eE bB _ (T_5.setTop (mkF mM 31 #[.val (.ref a1), .val (.ref a2), .val (.ref a3), .val (.int (0 : Int32)), .val (.ref a1)] [(.int (1 : Int32))]))
  refine Goes.step (fun _ kK => XS.goto X_5.here hx rfl (pc0 := 31) (pc' := 35) rfl (hb hby own_d6_31) (by decide) (by decide) kK) ?_
  show Goes pP eE bB _ (T_5.setTop (mkF mM 35 #[.val (.ref a1), .val (.ref a2), .val (.ref a3), .val (.int (0 : Int32)), .val (.ref a1)] [(.int (1 : Int32))]))
  refine Goes.retN X_5 hx hlk (t := .boolean) hret (by simp) (hb hby own_d6_35) (by decide) (by decide) ?_
  have u_7 := (Keep.refl h0 [a1, a2, a3]).wr W_1 (Or.inl (List.mem_of_getElem? (i := 2) rfl))
  have u_8 := u_7.trans K_5 (allS (Or.inl (List.mem_of_getElem? (i := 0) rfl)) all0)
  have u_9 := F2.other W_1 (Or.inl d23)
  have u_10 := u_9.keep K_5 (ninS (Ne.symm d12) nin0)
  have hs := own_c1 hlc0 hkc0 hk
  refine ⟨rfl, N_5, by rw [e_5]; exact u_8, _, _, by rw [e_5]; exact F_5, by rw [e_5]; exact u_10, ⟨_, by rw [e_5]; exact u_6, ?_, ?_⟩, ?_, ?_, ?_, ?_⟩
  · simp
  · simp [hf1]
  all_goals omega
set_option maxRecDepth 65536 in
set_option maxHeartbeats 40000000 in
theorem rmP1 (l : Launch) (Z : State) (a0 : Array Value) (hw : ∀ d ∈ tables_1, d.before a0 Z = true) (a1 a2 a3 : Addr) (c0 c1 : Int32) (h0 : Heap) (n0 : Nat) (Z0 : n0 ≤ h0.size) (k : Int) (hk : k ≤ 100) (E1 : Exa Z h0 a1 "com/example/anchorline/anchorline/tcap/Dialogue") (E2 : Exa Z h0 a2 "com/example/anchorline/anchorline/tcap/Dialogue") (g1 : n0 ≤ a1) (g2 : n0 ≤ a2) (g3 : n0 ≤ a3) (d12 : a1 ≠ a2) (d13 : a1 ≠ a3) (d23 : a2 ≠ a3) (I0 : own_Inv Z h0 a1 a2 a3 c0 c1 k) :
    Con l Z (⟨"com/example/anchorline/anchorline/tcap/DialogueNewInvokeIdPinLaw", "step", "(Lcom/example/anchorline/anchorline/tcap/Dialogue;Lcom/example/anchorline/anchorline/tcap/Dialogue;[II)Z"⟩ : MethodName) method_3_code 5 (some .boolean) ({ frames := 1, cells := 0, slots := 0, locals := 12 } : Room) #[(.ref a1), (.ref a2), (.ref a3), (.int (1 : Int32))] h0 (fun v h L => v = some (.int 1) ∧ Fr n0 L ∧ Keep h0 h [a1, a2, a3] ∧ ∃ x0 x1, own_Inv Z h a1 a2 a3 x0 x1 (k + 1)) := by
  refine Con.body (plainFor_of_name own_pn2) ?_
  intro pP eE sS mM bB mT cC s₁ hx hby hml hZ hown hnm hret hlk X0 e0
  have hown : sS.vm.findClass "com/example/anchorline/anchorline/tcap/DialogueNewInvokeIdPinLaw" = some mM.cls := hown
  have hml : cC.maxLocals = 5 := hml
  have N0 := Fr.nil n0
  have ef : entryFrame mM #[(.ref a1), (.ref a2), (.ref a3), (.int (1 : Int32))] 5 = mkF mM 0 #[.val (.ref a1), .val (.ref a2), .val (.ref a3), .val (.int (1 : Int32)), .unset] [] := by first | (simp [entryFrame, mkF, argsToLocals, Value.category]; done) | rfl
  rw [ef]
  obtain ⟨F1, F2, ⟨f, A3, hf0, hf1⟩, hlc0, hkc0, hlc1, hkc1⟩ := I0
  show Goes pP eE bB _ (s₁.setTop (mkF mM 0 #[.val (.ref a1), .val (.ref a2), .val (.ref a3), .val (.int (1 : Int32)), .unset] []))
  refine Goes.step (fun _ kK => XS.iloadN X0.here hx rfl (hb hby own_d6_0) rfl kK) ?_
  show Goes pP eE bB _ (s₁.setTop (mkF mM 1 #[.val (.ref a1), .val (.ref a2), .val (.ref a3), .val (.int (1 : Int32)), .unset] [(.int (1 : Int32))]))
  refine Goes.step (fun _ kK => XS.ifYes X0.here hx rfl (pc0 := 1) (pc' := 8) rfl (hb hby own_d6_1) rfl ((if0 _ _).trans (feq (by decide)).2) (by decide) (by decide) kK) ?_
  show Goes pP eE bB _ (s₁.setTop (mkF mM 8 #[.val (.ref a1), .val (.ref a2), .val (.ref a3), .val (.int (1 : Int32)), .unset] []))
  refine Goes.step (fun _ kK => XS.aloadN X0.here hx rfl (hb hby own_d6_8) rfl rfl kK) ?_
  show Goes pP eE bB _ (s₁.setTop (mkF mM 9 #[.val (.ref a1), .val (.ref a2), .val (.ref a3), .val (.int (1 : Int32)), .unset] [(.ref a2)]))
  refine Goes.step (fun _ kK => XS.astore X0.here hx rfl (hb hby own_d6_9) rfl rfl (l' := #[.val (.ref a1), .val (.ref a2), .val (.ref a3), .val (.int (1 : Int32)), .val (.ref a2)]) rfl kK) ?_
  show Goes pP eE bB _ (s₁.setTop (mkF mM 11 #[.val (.ref a1), .val (.ref a2), .val (.ref a3), .val (.int (1 : Int32)), .val (.ref a2)] []))
  refine Goes.step (fun _ kK => XS.aloadN X0.here hx rfl (hb hby own_d6_11) rfl rfl kK) ?_
  show Goes pP eE bB _ (s₁.setTop (mkF mM 12 #[.val (.ref a1), .val (.ref a2), .val (.ref a3), .val (.int (1 : Int32)), .val (.ref a2)] [(.ref a3)]))
  refine Goes.step (fun _ kK => XS.iloadN X0.here hx rfl (hb hby own_d6_12) rfl kK) ?_
  show Goes pP eE bB _ (s₁.setTop (mkF mM 13 #[.val (.ref a1), .val (.ref a2), .val (.ref a3), .val (.int (1 : Int32)), .val (.ref a2)] [(.int (1 : Int32)), (.ref a3)]))
  refine Goes.step (fun _ kK => XS.aloadN X0.here hx rfl (hb hby own_d6_13) rfl rfl kK) ?_
  show Goes pP eE bB _ (s₁.setTop (mkF mM 14 #[.val (.ref a1), .val (.ref a2), .val (.ref a3), .val (.int (1 : Int32)), .val (.ref a2)] [(.ref a3), (.int (1 : Int32)), (.ref a3)]))
  refine Goes.step (fun _ kK => XS.iloadN X0.here hx rfl (hb hby own_d6_14) rfl kK) ?_
  show Goes pP eE bB _ (s₁.setTop (mkF mM 15 #[.val (.ref a1), .val (.ref a2), .val (.ref a3), .val (.int (1 : Int32)), .val (.ref a2)] [(.int (1 : Int32)), (.ref a3), (.int (1 : Int32)), (.ref a3)]))
  refine Goes.iaload X0 hx hZ e0 A3 (i := 1) (by decide) (by decide) hf1 (g := (mkF mM 15 #[.val (.ref a1), .val (.ref a2), .val (.ref a3), .val (.int (1 : Int32)), .val (.ref a2)] [(.int (1 : Int32)), (.ref a3), (.int (1 : Int32)), (.ref a3)])) rfl rfl (hb hby own_d6_15) ?_
  show Goes pP eE bB _ (s₁.setTop (mkF mM 16 #[.val (.ref a1), .val (.ref a2), .val (.ref a3), .val (.int (1 : Int32)), .val (.ref a2)] [(.int c1), (.int (1 : Int32)), (.ref a3)]))
  refine Goes.step (fun _ kK => XS.iconst X0.here hx rfl (hb hby own_d6_16) kK) ?_
  show Goes pP eE bB _ (s₁.setTop (mkF mM 17 #[.val (.ref a1), .val (.ref a2), .val (.ref a3), .val (.int (1 : Int32)), .val (.ref a2)] [(.int (1 : Int32)), (.int c1), (.int (1 : Int32)), (.ref a3)]))
  refine Goes.step (fun _ kK => XS.iadd X0.here hx rfl (hb hby own_d6_17) rfl kK) ?_
  show Goes pP eE bB _ (s₁.setTop (mkF mM 18 #[.val (.ref a1), .val (.ref a2), .val (.ref a3), .val (.int (1 : Int32)), .val (.ref a2)] [(.int (c1 + (1 : Int32))), (.int (1 : Int32)), (.ref a3)]))
  refine Goes.iastore X0 hx hZ e0 A3 (i := 1) (by decide) (by decide) (g := (mkF mM 18 #[.val (.ref a1), .val (.ref a2), .val (.ref a3), .val (.int (1 : Int32)), .val (.ref a2)] [(.int (c1 + (1 : Int32))), (.int (1 : Int32)), (.ref a3)])) rfl rfl (hb hby own_d6_18) ?_
  intro T_1 h_1 X_1 e_1 W_1 A_1
  have N_1 := Fr.snoc X_1 N0 g3
  show Goes pP eE bB _ (T_1.setTop (mkF mM 19 #[.val (.ref a1), .val (.ref a2), .val (.ref a3), .val (.int (1 : Int32)), .val (.ref a2)] []))
  refine Goes.step (fun _ kK => XS.aload X_1.here hx rfl (hb hby own_d6_19) rfl rfl kK) ?_
  show Goes pP eE bB _ (T_1.setTop (mkF mM 21 #[.val (.ref a1), .val (.ref a2), .val (.ref a3), .val (.int (1 : Int32)), .val (.ref a2)] [(.ref a2)]))
  have u_2 := Nat.le_trans Z0 (Keep.of_wr W_1).1
  have u_3 := E2.wr W_1
  have u_4 := F2.other W_1 (Or.inl d23)
  refine Goes.callV X_1 hx hZ hown (hw _ (List.mem_of_getElem? (i := 46) rfl)) (hw _ (List.mem_of_getElem? (i := 47) rfl)) (notFace_of_selects (args := #[]) (mvT hZ (hw _ (List.mem_of_getElem? (i := 49) rfl)))) (hw _ (List.mem_of_getElem? (i := 49) rfl)) (hw _ (List.mem_of_getElem? (i := 48) rfl)) (hw _ (List.mem_of_getElem? (i := 50) rfl)) (hw _ (List.mem_of_getElem? (i := 21) rfl)) (by decide) e_1 u_3 (rmN l Z a0 hw a2 c1 h_1 n0 u_2 (own_c hlc1 hkc1 hk) (by rw [(own_c hlc1 hkc1 hk)]) u_3 g2 u_4) (W := 0) (by decide) (by decide) (by decide) (by decide) (g := (mkF mM 21 #[.val (.ref a1), .val (.ref a2), .val (.ref a3), .val (.int (1 : Int32)), .val (.ref a2)] [(.ref a2)])) rfl (by rw [hml]; rfl) (rest := []) own_pd1 rfl rfl (by show 2 * 0 + _ ≤ _; exact Nat.le_of_eq rfl) (hb hby own_d6_21) ?_
  intro v_5 T_5 L_5 X_5 hQ_5
  generalize e_5 : T_5.heap = h_5 at hQ_5
  obtain ⟨rfl, N_5q, K_5, F_5⟩ := hQ_5
  have N_5 := Fr.app N_1 N_5q
  show Goes pP eE bB _ (T_5.setTop (mkF mM 24 #[.val (.ref a1), .val (.ref a2), .val (.ref a3), .val (.int (1 : Int32)), .val (.ref a2)] [(.int (c1 + (1 : Int32)))]))
  refine Goes.step (fun _ kK => XS.aloadN X_5.here hx rfl (hb hby own_d6_24) rfl rfl kK) ?_
  show Goes pP eE bB _ (T_5.setTop (mkF mM 25 #[.val (.ref a1), .val (.ref a2), .val (.ref a3), .val (.int (1 : Int32)), .val (.ref a2)] [(.ref a3), (.int (c1 + (1 : Int32)))]))
  refine Goes.step (fun _ kK => XS.iloadN X_5.here hx rfl (hb hby own_d6_25) rfl kK) ?_
  show Goes pP eE bB _ (T_5.setTop (mkF mM 26 #[.val (.ref a1), .val (.ref a2), .val (.ref a3), .val (.int (1 : Int32)), .val (.ref a2)] [(.int (1 : Int32)), (.ref a3), (.int (c1 + (1 : Int32)))]))
  have u_6 := A_1.keep K_5 (ninS (Ne.symm d23) nin0)
  refine Goes.iaload X_5 hx hZ e_5 u_6 (i := 1) (by decide) (by decide) (show _ = Value.int (c1 + (1 : Int32)) from if_pos rfl) (g := (mkF mM 26 #[.val (.ref a1), .val (.ref a2), .val (.ref a3), .val (.int (1 : Int32)), .val (.ref a2)] [(.int (1 : Int32)), (.ref a3), (.int (c1 + (1 : Int32)))])) rfl rfl (hb hby own_d6_26) ?_
  show Goes pP eE bB _ (T_5.setTop (mkF mM 27 #[.val (.ref a1), .val (.ref a2), .val (.ref a3), .val (.int (1 : Int32)), .val (.ref a2)] [(.int (c1 + (1 : Int32))), (.int (c1 + (1 : Int32)))]))
  refine Goes.step (fun _ kK => XS.icmpNo X_5.here hx rfl (hb hby own_d6_27) rfl (teq (rfl : (c1 + (1 : Int32)) = (c1 + (1 : Int32)))).2 kK) ?_
  show Goes pP eE bB _ (T_5.setTop (mkF mM 30 #[.val (.ref a1), .val (.ref a2), .val (.ref a3), .val (.int (1 : Int32)), .val (.ref a2)] []))
  refine Goes.step (fun _ kK => XS.iconst X_5.here hx rfl (hb hby own_d6_30) kK) ?_
  show Goes pP eE bB _ (T_5.setTop (mkF mM 31 #[.val (.ref a1), .val (.ref a2), .val (.ref a3), .val (.int (1 : Int32)), .val (.ref a2)] [(.int (1 : Int32))]))
  refine Goes.step (fun _ kK => XS.goto X_5.here hx rfl (pc0 := 31) (pc' := 35) rfl (hb hby own_d6_31) (by decide) (by decide) kK) ?_
  show Goes pP eE bB _ (T_5.setTop (mkF mM 35 #[.val (.ref a1), .val (.ref a2), .val (.ref a3), .val (.int (1 : Int32)), .val (.ref a2)] [(.int (1 : Int32))]))
  refine Goes.retN X_5 hx hlk (t := .boolean) hret (by simp) (hb hby own_d6_35) (by decide) (by decide) ?_
  have u_7 := (Keep.refl h0 [a1, a2, a3]).wr W_1 (Or.inl (List.mem_of_getElem? (i := 2) rfl))
  have u_8 := u_7.trans K_5 (allS (Or.inl (List.mem_of_getElem? (i := 1) rfl)) all0)
  have u_9 := F1.other W_1 (Or.inl d13)
  have u_10 := u_9.keep K_5 (ninS d12 nin0)
  have hs := own_c1 hlc1 hkc1 hk
  refine ⟨rfl, N_5, by rw [e_5]; exact u_8, _, _, by rw [e_5]; exact u_10, by rw [e_5]; exact F_5, ⟨_, by rw [e_5]; exact u_6, ?_, ?_⟩, ?_, ?_, ?_, ?_⟩
  · simp [hf0]
  · simp
  all_goals omega
theorem rmP (l : Launch) (Z : State) (a0 : Array Value) (hw : ∀ d ∈ tables_1, d.before a0 Z = true) (a1 a2 a3 : Addr) (p4 : Int32) (c0 c1 : Int32) (h0 : Heap) (n0 : Nat) (Z0 : n0 ≤ h0.size) (hb : p4 = (0 : Int32) ∨ p4 = (1 : Int32)) (k : Int) (hk : k ≤ 100) (E1 : Exa Z h0 a1 "com/example/anchorline/anchorline/tcap/Dialogue") (E2 : Exa Z h0 a2 "com/example/anchorline/anchorline/tcap/Dialogue") (g1 : n0 ≤ a1) (g2 : n0 ≤ a2) (g3 : n0 ≤ a3) (d12 : a1 ≠ a2) (d13 : a1 ≠ a3) (d23 : a2 ≠ a3) (I0 : own_Inv Z h0 a1 a2 a3 c0 c1 k) :
    Con l Z (⟨"com/example/anchorline/anchorline/tcap/DialogueNewInvokeIdPinLaw", "step", "(Lcom/example/anchorline/anchorline/tcap/Dialogue;Lcom/example/anchorline/anchorline/tcap/Dialogue;[II)Z"⟩ : MethodName) method_3_code 5 (some .boolean) ({ frames := 1, cells := 0, slots := 0, locals := 12 } : Room) #[(.ref a1), (.ref a2), (.ref a3), (.int p4)] h0 (fun v h L => v = some (.int 1) ∧ Fr n0 L ∧ Keep h0 h [a1, a2, a3] ∧ ∃ x0 x1, own_Inv Z h a1 a2 a3 x0 x1 (k + 1)) := by
  rcases hb with rfl | rfl
  · exact rmP0 l Z a0 hw a1 a2 a3 c0 c1 h0 n0 Z0 k hk E1 E2 g1 g2 g3 d12 d13 d23 I0
  · exact rmP1 l Z a0 hw a1 a2 a3 c0 c1 h0 n0 Z0 k hk E1 E2 g1 g2 g3 d12 d13 d23 I0
set_option maxRecDepth 65536 in
set_option maxHeartbeats 40000000 in
theorem rm0 (l : Launch) (Z : State) (a0 : Array Value) (hw : ∀ d ∈ tables_1, d.before a0 Z = true) (p1 p2 p3 p4 p5 : Int32) (w0 w1 w2 w3 w4 w5 : Addr) (h0 : Heap) (n0 : Nat) (Z0 : n0 ≤ h0.size) (Sw0 : Sta Z Z.heap "com/example/anchorline/anchorline/tcap/Dialogue$State" "IDLE" "Lcom/example/anchorline/anchorline/tcap/Dialogue$State;" (.ref w0)) (Sw1 : Sta Z Z.heap "com/example/anchorline/anchorline/tcap/Dialogue$State" "INITIATION_SENT" "Lcom/example/anchorline/anchorline/tcap/Dialogue$State;" (.ref w1)) (Sw2 : Sta Z Z.heap "com/example/anchorline/anchorline/tcap/Dialogue$State" "ABORT_WHEN_ANSWERED" "Lcom/example/anchorline/anchorline/tcap/Dialogue$State;" (.ref w2)) (Sw3 : Sta Z Z.heap "com/example/anchorline/anchorline/tcap/Dialogue$State" "INITIATION_RECEIVED" "Lcom/example/anchorline/anchorline/tcap/Dialogue$State;" (.ref w3)) (Sw4 : Sta Z Z.heap "com/example/anchorline/anchorline/tcap/Dialogue$State" "ACTIVE" "Lcom/example/anchorline/anchorline/tcap/Dialogue$State;" (.ref w4)) (Sw5 : Sta Z Z.heap "com/example/anchorline/anchorline/tcap/Dialogue$State" "CLOSED" "Lcom/example/anchorline/anchorline/tcap/Dialogue$State;" (.ref w5)) (O0 : Old Z n0 h0) :
    Con l Z x code maxLocals ret room_1 #[(.int p1), (.int p2), (.int p3), (.int p4), (.int p5)] h0 (fun v h L => v = some (.int 1) ∧ Fr n0 L) := by
  refine Con.body (plainFor_of_name own_pn2) ?_
  intro pP eE sS mM bB mT cC s₁ hx hby hml hZ hown hnm hret hlk X0 e0
  have hown : sS.vm.findClass "com/example/anchorline/anchorline/tcap/DialogueNewInvokeIdPinLaw" = some mM.cls := hown
  have hml : cC.maxLocals = 12 := hml
  have N0 := Fr.nil n0
  have ef : entryFrame mM #[(.int p1), (.int p2), (.int p3), (.int p4), (.int p5)] maxLocals = mkF mM 0 #[.val (.int p1), .val (.int p2), .val (.int p3), .val (.int p4), .val (.int p5), .unset, .unset, .unset, .unset, .unset, .unset, .unset] [] := by first | (simp [entryFrame, mkF, argsToLocals, Value.category, maxLocals]; done) | rfl
  rw [ef]
  show Goes pP eE bB _ (s₁.setTop (mkF mM 0 #[.val (.int p1), .val (.int p2), .val (.int p3), .val (.int p4), .val (.int p5), .unset, .unset, .unset, .unset, .unset, .unset, .unset] []))
  obtain ⟨T_1, h_1, X_1, e_1, E_1, A_1, D_1, -, st_1⟩ := newO X0 hx hZ hown (hw _ (List.mem_of_getElem? (i := 0) rfl)) (hw _ (List.mem_of_getElem? (i := 1) rfl)) (hw _ (List.mem_of_getElem? (i := 2) rfl)) e0 (g := (mkF mM 0 #[.val (.int p1), .val (.int p2), .val (.int p3), .val (.int p4), .val (.int p5), .unset, .unset, .unset, .unset, .unset, .unset, .unset] [])) rfl (hb hby at_0) (by decide) (by decide)
  obtain ⟨b_1, g_1⟩ : ∃ z, z = h0.size := ⟨_, rfl⟩
  rw [← g_1] at A_1 D_1 st_1
  have u_2 : n0 ≤ b_1 := Nat.le_trans Z0 (Nat.le_of_eq g_1.symm)
  have u_3 : Fld Z h_1 b_1 "com/example/anchorline/anchorline/sccp/SccpAddress" "pointCode" "I" (.int (0 : Int32)) := D_1 (Or.inr (hw _ (List.mem_of_getElem? (i := 15) rfl))) (ty := .int) (by decide)
  have u_4 : Fld Z h_1 b_1 "com/example/anchorline/anchorline/sccp/SccpAddress" "subsystem" "I" (.int (0 : Int32)) := D_1 (Or.inr (hw _ (List.mem_of_getElem? (i := 17) rfl))) (ty := .int) (by decide)
  refine Goes.step st_1 ?_
  show Goes pP eE bB _ (T_1.setTop (mkF mM 3 #[.val (.int p1), .val (.int p2), .val (.int p3), .val (.int p4), .val (.int p5), .unset, .unset, .unset, .unset, .unset, .unset, .unset] [(.ref b_1)]))
  refine Goes.step (fun _ kK => XS.dup X_1.here hx rfl (hb hby at_3) rfl rfl kK) ?_
  show Goes pP eE bB _ (T_1.setTop (mkF mM 4 #[.val (.int p1), .val (.int p2), .val (.int p3), .val (.int p4), .val (.int p5), .unset, .unset, .unset, .unset, .unset, .unset, .unset] [(.ref b_1), (.ref b_1)]))
  refine Goes.step (fun _ kK => XS.iloadN X_1.here hx rfl (hb hby at_4) rfl kK) ?_
  show Goes pP eE bB _ (T_1.setTop (mkF mM 5 #[.val (.int p1), .val (.int p2), .val (.int p3), .val (.int p4), .val (.int p5), .unset, .unset, .unset, .unset, .unset, .unset, .unset] [(.int p1), (.ref b_1), (.ref b_1)]))
  refine Goes.step (fun _ kK => XS.iloadN X_1.here hx rfl (hb hby at_5) rfl kK) ?_
  show Goes pP eE bB _ (T_1.setTop (mkF mM 6 #[.val (.int p1), .val (.int p2), .val (.int p3), .val (.int p4), .val (.int p5), .unset, .unset, .unset, .unset, .unset, .unset, .unset] [(.int p2), (.int p1), (.ref b_1), (.ref b_1)]))
  have u_5 := Nat.le_trans Z0 E_1.1
  refine Goes.callI X_1 hx hZ rfl hown (hw _ (List.mem_of_getElem? (i := 3) rfl)) (hw _ (List.mem_of_getElem? (i := 4) rfl)) (hw _ (List.mem_of_getElem? (i := 5) rfl)) (hw _ (List.mem_of_getElem? (i := 2) rfl)) (by decide) e_1 (rmSc l Z a0 hw b_1 p1 p2 h_1 n0 u_5 A_1 u_2 u_3 u_4) (W := 1) (by decide) (by decide) (by decide) (by decide) (g := (mkF mM 6 #[.val (.int p1), .val (.int p2), .val (.int p3), .val (.int p4), .val (.int p5), .unset, .unset, .unset, .unset, .unset, .unset, .unset] [(.int p2), (.int p1), (.ref b_1), (.ref b_1)])) rfl (by rw [hml]; rfl) (rest := [(.ref b_1)]) own_pd2 rfl rfl (by show 2 * 0 + _ ≤ _; exact Nat.le_of_eq rfl) (hb hby at_6) ?_
  intro v_6 T_6 L_6 X_6 hQ_6
  generalize e_6 : T_6.heap = h_6 at hQ_6
  obtain ⟨rfl, N_6q, K_6⟩ := hQ_6
  have N_6 := Fr.app N0 N_6q
  show Goes pP eE bB _ (T_6.setTop (mkF mM 9 #[.val (.int p1), .val (.int p2), .val (.int p3), .val (.int p4), .val (.int p5), .unset, .unset, .unset, .unset, .unset, .unset, .unset] [(.ref b_1)]))
  refine Goes.step (fun _ kK => XS.astore X_6.here hx rfl (hb hby at_9) rfl rfl (l' := #[.val (.int p1), .val (.int p2), .val (.int p3), .val (.int p4), .val (.int p5), .val (.ref b_1), .unset, .unset, .unset, .unset, .unset, .unset]) rfl kK) ?_
  show Goes pP eE bB _ (T_6.setTop (mkF mM 11 #[.val (.int p1), .val (.int p2), .val (.int p3), .val (.int p4), .val (.int p5), .val (.ref b_1), .unset, .unset, .unset, .unset, .unset, .unset] []))
  refine Goes.step (fun _ kK => XS.iloadN X_6.here hx rfl (hb hby at_11) rfl kK) ?_
  show Goes pP eE bB _ (T_6.setTop (mkF mM 12 #[.val (.int p1), .val (.int p2), .val (.int p3), .val (.int p4), .val (.int p5), .val (.ref b_1), .unset, .unset, .unset, .unset, .unset, .unset] [(.int p4)]))
  refine Goes.step (fun _ kK => XS.iconst X_6.here hx rfl (hb hby at_12) kK) ?_
  show Goes pP eE bB _ (T_6.setTop (mkF mM 13 #[.val (.int p1), .val (.int p2), .val (.int p3), .val (.int p4), .val (.int p5), .val (.ref b_1), .unset, .unset, .unset, .unset, .unset, .unset] [(.int (1 : Int32)), (.int p4)]))
  refine Goes.step (fun _ kK => XS.iand X_6.here hx rfl (hb hby at_13) rfl kK) ?_
  show Goes pP eE bB _ (T_6.setTop (mkF mM 14 #[.val (.int p1), .val (.int p2), .val (.int p3), .val (.int p4), .val (.int p5), .val (.ref b_1), .unset, .unset, .unset, .unset, .unset, .unset] [(.int (p4 &&& (1 : Int32)))]))
  by_cases hc_7 : (p4 &&& (1 : Int32)) = (0 : Int32)
  · refine Goes.step (fun _ kK => XS.ifYes X_6.here hx rfl (pc0 := 14) (pc' := 21) rfl (hb hby at_14) rfl ((if0 _ _).trans (teq hc_7).1) (by decide) (by decide) kK) ?_
    show Goes pP eE bB _ (T_6.setTop (mkF mM 21 #[.val (.int p1), .val (.int p2), .val (.int p3), .val (.int p4), .val (.int p5), .val (.ref b_1), .unset, .unset, .unset, .unset, .unset, .unset] []))
    refine Goes.step (fun _ kK => XS.iconst X_6.here hx rfl (hb hby at_21) kK) ?_
    show Goes pP eE bB _ (T_6.setTop (mkF mM 22 #[.val (.int p1), .val (.int p2), .val (.int p3), .val (.int p4), .val (.int p5), .val (.ref b_1), .unset, .unset, .unset, .unset, .unset, .unset] [(.int (1 : Int32))]))
    obtain ⟨T_8, h_8, k_8, X_8, e_8, E_8, A_8, M_8, st_8⟩ := newPE X_6 hx hZ (hw _ (List.mem_of_getElem? (i := 18) rfl)) e_6 (g := (mkF mM 22 #[.val (.int p1), .val (.int p2), .val (.int p3), .val (.int p4), .val (.int p5), .val (.ref b_1), .unset, .unset, .unset, .unset, .unset, .unset] [(.int (1 : Int32))])) rfl (hb hby at_22) rfl (by decide) (cap := 1) (by decide) (by decide) (by decide) (by decide) (ad := "[B") rfl
    obtain ⟨b_8, g_8⟩ : ∃ z, z = h_6.size := ⟨_, rfl⟩
    rw [← g_8] at A_8 M_8 st_8
    have u_9 := Nat.lt_of_lt_of_le (A_1).lt K_6.1
    have u_10 : b_1 < b_8 := Nat.lt_of_lt_of_le u_9 (Nat.le_of_eq g_8.symm)
    have u_11 := Nat.le_trans u_5 K_6.1
    have u_12 : n0 ≤ b_8 := Nat.le_trans u_11 (Nat.le_of_eq g_8.symm)
    have u_13 : Afn Z h_8 b_8 .byte 1 (fun _ => (.int (0 : Int32))) := Afn.new (n := 1) A_8 (by decide)
    refine Goes.step st_8 ?_
    show Goes pP eE bB _ (T_8.setTop (mkF mM 24 #[.val (.int p1), .val (.int p2), .val (.int p3), .val (.int p4), .val (.int p5), .val (.ref b_1), .unset, .unset, .unset, .unset, .unset, .unset] [(.ref b_8)]))
    refine Goes.step (fun _ kK => XS.dup X_8.here hx rfl (hb hby at_24) rfl rfl kK) ?_
    show Goes pP eE bB _ (T_8.setTop (mkF mM 25 #[.val (.int p1), .val (.int p2), .val (.int p3), .val (.int p4), .val (.int p5), .val (.ref b_1), .unset, .unset, .unset, .unset, .unset, .unset] [(.ref b_8), (.ref b_8)]))
    refine Goes.step (fun _ kK => XS.iconst X_8.here hx rfl (hb hby at_25) kK) ?_
    show Goes pP eE bB _ (T_8.setTop (mkF mM 26 #[.val (.int p1), .val (.int p2), .val (.int p3), .val (.int p4), .val (.int p5), .val (.ref b_1), .unset, .unset, .unset, .unset, .unset, .unset] [(.int (0 : Int32)), (.ref b_8), (.ref b_8)]))
    refine Goes.step (fun _ kK => XS.iloadN X_8.here hx rfl (hb hby at_26) rfl kK) ?_
    show Goes pP eE bB _ (T_8.setTop (mkF mM 27 #[.val (.int p1), .val (.int p2), .val (.int p3), .val (.int p4), .val (.int p5), .val (.ref b_1), .unset, .unset, .unset, .unset, .unset, .unset] [(.int p4), (.int (0 : Int32)), (.ref b_8), (.ref b_8)]))
    refine Goes.step (fun _ kK => XS.iconst X_8.here hx rfl (hb hby at_27) kK) ?_
    show Goes pP eE bB _ (T_8.setTop (mkF mM 28 #[.val (.int p1), .val (.int p2), .val (.int p3), .val (.int p4), .val (.int p5), .val (.ref b_1), .unset, .unset, .unset, .unset, .unset, .unset] [(.int (1 : Int32)), (.int p4), (.int (0 : Int32)), (.ref b_8), (.ref b_8)]))
    refine Goes.step (fun _ kK => XS.ishr X_8.here hx rfl (hb hby at_28) rfl kK) ?_
    show Goes pP eE bB _ (T_8.setTop (mkF mM 29 #[.val (.int p1), .val (.int p2), .val (.int p3), .val (.int p4), .val (.int p5), .val (.ref b_1), .unset, .unset, .unset, .unset, .unset, .unset] [(.int (p4 >>> ((1 : Int32) &&& 31))), (.int (0 : Int32)), (.ref b_8), (.ref b_8)]))
    refine Goes.step (fun _ kK => XS.i2b X_8.here hx rfl (hb hby at_29) rfl kK) ?_
    show Goes pP eE bB _ (T_8.setTop (mkF mM 30 #[.val (.int p1), .val (.int p2), .val (.int p3), .val (.int p4), .val (.int p5), .val (.ref b_1), .unset, .unset, .unset, .unset, .unset, .unset] [(.int ((p4 >>> ((1 : Int32) &&& 31)).toInt8.toInt32)), (.int (0 : Int32)), (.ref b_8), (.ref b_8)]))
    refine Goes.bastore X_8 hx hZ e_8 u_13 (i := 0) (by decide) (by decide) (g := (mkF mM 30 #[.val (.int p1), .val (.int p2), .val (.int p3), .val (.int p4), .val (.int p5), .val (.ref b_1), .unset, .unset, .unset, .unset, .unset, .unset] [(.int ((p4 >>> ((1 : Int32) &&& 31)).toInt8.toInt32)), (.int (0 : Int32)), (.ref b_8), (.ref b_8)])) rfl rfl (hb hby at_30) ?_
    intro T_14 h_14 X_14 e_14 W_14 A_14
    have N_14 := Fr.snoc X_14 N_6 u_12
    show Goes pP eE bB _ (T_14.setTop (mkF mM 31 #[.val (.int p1), .val (.int p2), .val (.int p3), .val (.int p4), .val (.int p5), .val (.ref b_1), .unset, .unset, .unset, .unset, .unset, .unset] [(.ref b_8)]))
    refine Goes.step (fun _ kK => XS.astore X_14.here hx rfl (hb hby at_31) rfl rfl (l' := #[.val (.int p1), .val (.int p2), .val (.int p3), .val (.int p4), .val (.int p5), .val (.ref b_1), .val (.ref b_8), .unset, .unset, .unset, .unset, .unset]) rfl kK) ?_
    show Goes pP eE bB _ (T_14.setTop (mkF mM 33 #[.val (.int p1), .val (.int p2), .val (.int p3), .val (.int p4), .val (.int p5), .val (.ref b_1), .val (.ref b_8), .unset, .unset, .unset, .unset, .unset] []))
    refine Goes.step (fun _ kK => XS.iloadN X_14.here hx rfl (hb hby at_33) rfl kK) ?_
    show Goes pP eE bB _ (T_14.setTop (mkF mM 34 #[.val (.int p1), .val (.int p2), .val (.int p3), .val (.int p4), .val (.int p5), .val (.ref b_1), .val (.ref b_8), .unset, .unset, .unset, .unset, .unset] [(.int p4)]))
    refine Goes.step (fun _ kK => XS.iconst X_14.here hx rfl (hb hby at_34) kK) ?_
    show Goes pP eE bB _ (T_14.setTop (mkF mM 35 #[.val (.int p1), .val (.int p2), .val (.int p3), .val (.int p4), .val (.int p5), .val (.ref b_1), .val (.ref b_8), .unset, .unset, .unset, .unset, .unset] [(.int (2 : Int32)), (.int p4)]))
    refine Goes.step (fun _ kK => XS.iand X_14.here hx rfl (hb hby at_35) rfl kK) ?_
    show Goes pP eE bB _ (T_14.setTop (mkF mM 36 #[.val (.int p1), .val (.int p2), .val (.int p3), .val (.int p4), .val (.int p5), .val (.ref b_1), .val (.ref b_8), .unset, .unset, .unset, .unset, .unset] [(.int (p4 &&& (2 : Int32)))]))
    by_cases hc_15 : (p4 &&& (2 : Int32)) = (0 : Int32)
    · refine Goes.step (fun _ kK => XS.ifYes X_14.here hx rfl (pc0 := 36) (pc' := 43) rfl (hb hby at_36) rfl ((if0 _ _).trans (teq hc_15).1) (by decide) (by decide) kK) ?_
      show Goes pP eE bB _ (T_14.setTop (mkF mM 43 #[.val (.int p1), .val (.int p2), .val (.int p3), .val (.int p4), .val (.int p5), .val (.ref b_1), .val (.ref b_8), .unset, .unset, .unset, .unset, .unset] []))
      refine Goes.step (fun _ kK => XS.iconst X_14.here hx rfl (hb hby at_43) kK) ?_
      show Goes pP eE bB _ (T_14.setTop (mkF mM 44 #[.val (.int p1), .val (.int p2), .val (.int p3), .val (.int p4), .val (.int p5), .val (.ref b_1), .val (.ref b_8), .unset, .unset, .unset, .unset, .unset] [(.int (2 : Int32))]))
      obtain ⟨T_16, h_16, k_16, X_16, e_16, E_16, A_16, M_16, st_16⟩ := newPE X_14 hx hZ (hw _ (List.mem_of_getElem? (i := 18) rfl)) e_14 (g := (mkF mM 44 #[.val (.int p1), .val (.int p2), .val (.int p3), .val (.int p4), .val (.int p5), .val (.ref b_1), .val (.ref b_8), .unset, .unset, .unset, .unset, .unset] [(.int (2 : Int32))])) rfl (hb hby at_44) rfl (by decide) (cap := 2) (by decide) (by decide) (by decide) (by decide) (ad := "[B") rfl
      obtain ⟨b_16, g_16⟩ : ∃ z, z = h_14.size := ⟨_, rfl⟩
      rw [← g_16] at A_16 M_16 st_16
      have u_17 := Nat.lt_of_lt_of_le u_9 E_8.1
      have u_18 := Nat.lt_of_lt_of_le u_17 (Keep.of_wr W_14).1
      have u_19 : b_1 < b_16 := Nat.lt_of_lt_of_le u_18 (Nat.le_of_eq g_16.symm)
      have u_20 : b_8 < b_16 := Nat.lt_of_lt_of_le (A_14).lt (Nat.le_of_eq g_16.symm)
      have u_21 := Nat.le_trans u_11 E_8.1
      have u_22 := Nat.le_trans u_21 (Keep.of_wr W_14).1
      have u_23 : n0 ≤ b_16 := Nat.le_trans u_22 (Nat.le_of_eq g_16.symm)
      have u_24 : Afn Z h_16 b_16 .byte 2 (fun _ => (.int (0 : Int32))) := Afn.new (n := 2) A_16 (by decide)
      refine Goes.step st_16 ?_
      show Goes pP eE bB _ (T_16.setTop (mkF mM 46 #[.val (.int p1), .val (.int p2), .val (.int p3), .val (.int p4), .val (.int p5), .val (.ref b_1), .val (.ref b_8), .unset, .unset, .unset, .unset, .unset] [(.ref b_16)]))
      refine Goes.step (fun _ kK => XS.dup X_16.here hx rfl (hb hby at_46) rfl rfl kK) ?_
      show Goes pP eE bB _ (T_16.setTop (mkF mM 47 #[.val (.int p1), .val (.int p2), .val (.int p3), .val (.int p4), .val (.int p5), .val (.ref b_1), .val (.ref b_8), .unset, .unset, .unset, .unset, .unset] [(.ref b_16), (.ref b_16)]))
      refine Goes.step (fun _ kK => XS.iconst X_16.here hx rfl (hb hby at_47) kK) ?_
      show Goes pP eE bB _ (T_16.setTop (mkF mM 48 #[.val (.int p1), .val (.int p2), .val (.int p3), .val (.int p4), .val (.int p5), .val (.ref b_1), .val (.ref b_8), .unset, .unset, .unset, .unset, .unset] [(.int (0 : Int32)), (.ref b_16), (.ref b_16)]))
      refine Goes.step (fun _ kK => XS.iloadN X_16.here hx rfl (hb hby at_48) rfl kK) ?_
      show Goes pP eE bB _ (T_16.setTop (mkF mM 49 #[.val (.int p1), .val (.int p2), .val (.int p3), .val (.int p4), .val (.int p5), .val (.ref b_1), .val (.ref b_8), .unset, .unset, .unset, .unset, .unset] [(.int p4), (.int (0 : Int32)), (.ref b_16), (.ref b_16)]))
      refine Goes.step (fun _ kK => XS.iconst X_16.here hx rfl (hb hby at_49) kK) ?_
      show Goes pP eE bB _ (T_16.setTop (mkF mM 50 #[.val (.int p1), .val (.int p2), .val (.int p3), .val (.int p4), .val (.int p5), .val (.ref b_1), .val (.ref b_8), .unset, .unset, .unset, .unset, .unset] [(.int (2 : Int32)), (.int p4), (.int (0 : Int32)), (.ref b_16), (.ref b_16)]))
      refine Goes.step (fun _ kK => XS.ishr X_16.here hx rfl (hb hby at_50) rfl kK) ?_
      show Goes pP eE bB _ (T_16.setTop (mkF mM 51 #[.val (.int p1), .val (.int p2), .val (.int p3), .val (.int p4), .val (.int p5), .val (.ref b_1), .val (.ref b_8), .unset, .unset, .unset, .unset, .unset] [(.int (p4 >>> ((2 : Int32) &&& 31))), (.int (0 : Int32)), (.ref b_16), (.ref b_16)]))
      refine Goes.step (fun _ kK => XS.i2b X_16.here hx rfl (hb hby at_51) rfl kK) ?_
      show Goes pP eE bB _ (T_16.setTop (mkF mM 52 #[.val (.int p1), .val (.int p2), .val (.int p3), .val (.int p4), .val (.int p5), .val (.ref b_1), .val (.ref b_8), .unset, .unset, .unset, .unset, .unset] [(.int ((p4 >>> ((2 : Int32) &&& 31)).toInt8.toInt32)), (.int (0 : Int32)), (.ref b_16), (.ref b_16)]))
      refine Goes.bastore X_16 hx hZ e_16 u_24 (i := 0) (by decide) (by decide) (g := (mkF mM 52 #[.val (.int p1), .val (.int p2), .val (.int p3), .val (.int p4), .val (.int p5), .val (.ref b_1), .val (.ref b_8), .unset, .unset, .unset, .unset, .unset] [(.int ((p4 >>> ((2 : Int32) &&& 31)).toInt8.toInt32)), (.int (0 : Int32)), (.ref b_16), (.ref b_16)])) rfl rfl (hb hby at_52) ?_
      intro T_25 h_25 X_25 e_25 W_25 A_25
      have N_25 := Fr.snoc X_25 N_14 u_23
      show Goes pP eE bB _ (T_25.setTop (mkF mM 53 #[.val (.int p1), .val (.int p2), .val (.int p3), .val (.int p4), .val (.int p5), .val (.ref b_1), .val (.ref b_8), .unset, .unset, .unset, .unset, .unset] [(.ref b_16)]))
      refine Goes.step (fun _ kK => XS.dup X_25.here hx rfl (hb hby at_53) rfl rfl kK) ?_
      show Goes pP eE bB _ (T_25.setTop (mkF mM 54 #[.val (.int p1), .val (.int p2), .val (.int p3), .val (.int p4), .val (.int p5), .val (.ref b_1), .val (.ref b_8), .unset, .unset, .unset, .unset, .unset] [(.ref b_16), (.ref b_16)]))
      refine Goes.step (fun _ kK => XS.iconst X_25.here hx rfl (hb hby at_54) kK) ?_
      show Goes pP eE bB _ (T_25.setTop (mkF mM 55 #[.val (.int p1), .val (.int p2), .val (.int p3), .val (.int p4), .val (.int p5), .val (.ref b_1), .val (.ref b_8), .unset, .unset, .unset, .unset, .unset] [(.int (1 : Int32)), (.ref b_16), (.ref b_16)]))
      refine Goes.step (fun _ kK => XS.iloadN X_25.here hx rfl (hb hby at_55) rfl kK) ?_
      show Goes pP eE bB _ (T_25.setTop (mkF mM 56 #[.val (.int p1), .val (.int p2), .val (.int p3), .val (.int p4), .val (.int p5), .val (.ref b_1), .val (.ref b_8), .unset, .unset, .unset, .unset, .unset] [(.int p4), (.int (1 : Int32)), (.ref b_16), (.ref b_16)]))
      refine Goes.step (fun _ kK => XS.bipush X_25.here hx rfl (hb hby at_56) kK) ?_
      show Goes pP eE bB _ (T_25.setTop (mkF mM 58 #[.val (.int p1), .val (.int p2), .val (.int p3), .val (.int p4), .val (.int p5), .val (.ref b_1), .val (.ref b_8), .unset, .unset, .unset, .unset, .unset] [(.int (10 : Int32)), (.int p4), (.int (1 : Int32)), (.ref b_16), (.ref b_16)]))
      refine Goes.step (fun _ kK => XS.ishr X_25.here hx rfl (hb hby at_58) rfl kK) ?_
      show Goes pP eE bB _ (T_25.setTop (mkF mM 59 #[.val (.int p1), .val (.int p2), .val (.int p3), .val (.int p4), .val (.int p5), .val (.ref b_1), .val (.ref b_8), .unset, .unset, .unset, .unset, .unset] [(.int (p4 >>> ((10 : Int32) &&& 31))), (.int (1 : Int32)), (.ref b_16), (.ref b_16)]))
      refine Goes.step (fun _ kK => XS.i2b X_25.here hx rfl (hb hby at_59) rfl kK) ?_
      show Goes pP eE bB _ (T_25.setTop (mkF mM 60 #[.val (.int p1), .val (.int p2), .val (.int p3), .val (.int p4), .val (.int p5), .val (.ref b_1), .val (.ref b_8), .unset, .unset, .unset, .unset, .unset] [(.int ((p4 >>> ((10 : Int32) &&& 31)).toInt8.toInt32)), (.int (1 : Int32)), (.ref b_16), (.ref b_16)]))
      refine Goes.bastore X_25 hx hZ e_25 A_25 (i := 1) (by decide) (by decide) (g := (mkF mM 60 #[.val (.int p1), .val (.int p2), .val (.int p3), .val (.int p4), .val (.int p5), .val (.ref b_1), .val (.ref b_8), .unset, .unset, .unset, .unset, .unset] [(.int ((p4 >>> ((10 : Int32) &&& 31)).toInt8.toInt32)), (.int (1 : Int32)), (.ref b_16), (.ref b_16)])) rfl rfl (hb hby at_60) ?_
      intro T_26 h_26 X_26 e_26 W_26 A_26
      have N_26 := Fr.snoc X_26 N_25 u_23
      show Goes pP eE bB _ (T_26.setTop (mkF mM 61 #[.val (.int p1), .val (.int p2), .val (.int p3), .val (.int p4), .val (.int p5), .val (.ref b_1), .val (.ref b_8), .unset, .unset, .unset, .unset, .unset] [(.ref b_16)]))
      refine Goes.step (fun _ kK => XS.astore X_26.here hx rfl (hb hby at_61) rfl rfl (l' := #[.val (.int p1), .val (.int p2), .val (.int p3), .val (.int p4), .val (.int p5), .val (.ref b_1), .val (.ref b_8), .val (.ref b_16), .unset, .unset, .unset, .unset]) rfl kK) ?_
      show Goes pP eE bB _ (T_26.setTop (mkF mM 63 #[.val (.int p1), .val (.int p2), .val (.int p3), .val (.int p4), .val (.int p5), .val (.ref b_1), .val (.ref b_8), .val (.ref b_16), .unset, .unset, .unset, .unset] []))
      obtain ⟨T_27, h_27, X_27, e_27, E_27, A_27, D_27, -, st_27⟩ := newO X_26 hx hZ hown (hw _ (List.mem_of_getElem? (i := 19) rfl)) (hw _ (List.mem_of_getElem? (i := 20) rfl)) (hw _ (List.mem_of_getElem? (i := 21) rfl)) e_26 (g := (mkF mM 63 #[.val (.int p1), .val (.int p2), .val (.int p3), .val (.int p4), .val (.int p5), .val (.ref b_1), .val (.ref b_8), .val (.ref b_16), .unset, .unset, .unset, .unset] [])) rfl (hb hby at_63) (by decide) (by decide)
      obtain ⟨b_27, g_27⟩ : ∃ z, z = h_26.size := ⟨_, rfl⟩
      rw [← g_27] at A_27 D_27 st_27
      have u_28 := Nat.lt_of_lt_of_le u_18 E_16.1
      have u_29 := Nat.lt_of_lt_of_le u_28 (Keep.of_wr W_25).1
      have u_30 := Nat.lt_of_lt_of_le u_29 (Keep.of_wr W_26).1
      have u_31 : b_1 < b_27 := Nat.lt_of_lt_of_le u_30 (Nat.le_of_eq g_27.symm)
      have u_32 := Nat.lt_of_lt_of_le (A_14).lt E_16.1
      have u_33 := Nat.lt_of_lt_of_le u_32 (Keep.of_wr W_25).1
      have u_34 := Nat.lt_of_lt_of_le u_33 (Keep.of_wr W_26).1
      have u_35 : b_8 < b_27 := Nat.lt_of_lt_of_le u_34 (Nat.le_of_eq g_27.symm)
      have u_36 : b_16 < b_27 := Nat.lt_of_lt_of_le (A_26).lt (Nat.le_of_eq g_27.symm)
      have u_37 := Nat.le_trans u_22 E_16.1
      have u_38 := Nat.le_trans u_37 (Keep.of_wr W_25).1
      have u_39 := Nat.le_trans u_38 (Keep.of_wr W_26).1
      have u_40 : n0 ≤ b_27 := Nat.le_trans u_39 (Nat.le_of_eq g_27.symm)
      have u_41 : Fld Z h_27 b_27 "com/example/anchorline/anchorline/tcap/Dialogue" "peer" "Lcom/example/anchorline/anchorline/sccp/SccpAddress;" .null := D_27 (Or.inr (hw _ (List.mem_of_getElem? (i := 35) rfl))) (ty := (.object "com/example/anchorline/anchorline/sccp/SccpAddress")) (by decide)
      have u_42 : Fld Z h_27 b_27 "com/example/anchorline/anchorline/tcap/Dialogue" "applicationContext" "[B" .null := D_27 (Or.inr (hw _ (List.mem_of_getElem? (i := 37) rfl))) (ty := (.array .byte)) (by decide)
      have u_43 : Fld Z h_27 b_27 "com/example/anchorline/anchorline/tcap/Dialogue" "state" "Lcom/example/anchorline/anchorline/tcap/Dialogue$State;" .null := D_27 (Or.inl (hw _ (List.mem_of_getElem? (i := 39) rfl))) (ty := (.object "com/example/anchorline/anchorline/tcap/Dialogue$State")) (by decide)
      have u_44 : Fld Z h_27 b_27 "com/example/anchorline/anchorline/tcap/Dialogue" "lastInvokeId" "I" (.int (0 : Int32)) := D_27 (Or.inl (hw _ (List.mem_of_getElem? (i := 52) rfl))) (ty := .int) (by decide)
      refine Goes.step st_27 ?_
      show Goes pP eE bB _ (T_27.setTop (mkF mM 66 #[.val (.int p1), .val (.int p2), .val (.int p3), .val (.int p4), .val (.int p5), .val (.ref b_1), .val (.ref b_8), .val (.ref b_16), .unset, .unset, .unset, .unset] [(.ref b_27)]))
      refine Goes.step (fun _ kK => XS.dup X_27.here hx rfl (hb hby at_66) rfl rfl kK) ?_
      show Goes pP eE bB _ (T_27.setTop (mkF mM 67 #[.val (.int p1), .val (.int p2), .val (.int p3), .val (.int p4), .val (.int p5), .val (.ref b_1), .val (.ref b_8), .val (.ref b_16), .unset, .unset, .unset, .unset] [(.ref b_27), (.ref b_27)]))
      refine Goes.step (fun _ kK => XS.aload X_27.here hx rfl (hb hby at_67) rfl rfl kK) ?_
      show Goes pP eE bB _ (T_27.setTop (mkF mM 69 #[.val (.int p1), .val (.int p2), .val (.int p3), .val (.int p4), .val (.int p5), .val (.ref b_1), .val (.ref b_8), .val (.ref b_16), .unset, .unset, .unset, .unset] [(.ref b_1), (.ref b_27), (.ref b_27)]))
      refine Goes.step (fun _ kK => XS.aload X_27.here hx rfl (hb hby at_69) rfl rfl kK) ?_
      show Goes pP eE bB _ (T_27.setTop (mkF mM 71 #[.val (.int p1), .val (.int p2), .val (.int p3), .val (.int p4), .val (.int p5), .val (.ref b_1), .val (.ref b_8), .val (.ref b_16), .unset, .unset, .unset, .unset] [(.ref b_8), (.ref b_1), (.ref b_27), (.ref b_27)]))
      refine Goes.step (fun _ kK => XS.iloadN X_27.here hx rfl (hb hby at_71) rfl kK) ?_
      show Goes pP eE bB _ (T_27.setTop (mkF mM 72 #[.val (.int p1), .val (.int p2), .val (.int p3), .val (.int p4), .val (.int p5), .val (.ref b_1), .val (.ref b_8), .val (.ref b_16), .unset, .unset, .unset, .unset] [(.int p3), (.ref b_8), (.ref b_1), (.ref b_27), (.ref b_27)]))
      have u_45 := Nat.le_trans u_39 E_27.1
      have u_46 := O0.ext E_1
      have u_47 := u_46.keep K_6 (allS u_2 all0)
      have u_48 := u_47.ext E_8
      have u_49 := u_48.wr W_14 u_12
      have u_50 := u_49.ext E_16
      have u_51 := u_50.wr W_25 u_23
      have u_52 := u_51.wr W_26 u_23
      have u_53 := u_52.ext E_27
      refine Goes.callS X_27 hx hZ hown (hw _ (List.mem_of_getElem? (i := 22) rfl)) (hw _ (List.mem_of_getElem? (i := 23) rfl)) (hw _ (List.mem_of_getElem? (i := 24) rfl)) (hw _ (List.mem_of_getElem? (i := 25) rfl)) (by decide) e_27 (rmT l Z a0 hw p3 w0 w1 w2 w3 w4 w5 h_27 n0 u_45 Sw0 Sw1 Sw2 Sw3 Sw4 Sw5 u_53) (W := 4) (by decide) (by decide) (by decide) (by decide) (g := (mkF mM 72 #[.val (.int p1), .val (.int p2), .val (.int p3), .val (.int p4), .val (.int p5), .val (.ref b_1), .val (.ref b_8), .val (.ref b_16), .unset, .unset, .unset, .unset] [(.int p3), (.ref b_8), (.ref b_1), (.ref b_27), (.ref b_27)])) rfl (by rw [hml]; rfl) (rest := [(.ref b_8), (.ref b_1), (.ref b_27), (.ref b_27)]) own_pd3 rfl rfl (by show 2 * 0 + _ ≤ _; exact Nat.le_of_eq rfl) (hb hby at_72) ?_
      intro v_54 T_54 L_54 X_54 hQ_54
      obtain ⟨c_54, rfl, N_54q, e_54⟩ := hQ_54
      have N_54 := Fr.app N_26 N_54q
      show Goes pP eE bB _ (T_54.setTop (mkF mM 75 #[.val (.int p1), .val (.int p2), .val (.int p3), .val (.int p4), .val (.int p5), .val (.ref b_1), .val (.ref b_8), .val (.ref b_16), .unset, .unset, .unset, .unset] [(.ref c_54), (.ref b_8), (.ref b_1), (.ref b_27), (.ref b_27)]))
      refine Goes.callI X_54 hx hZ rfl hown (hw _ (List.mem_of_getElem? (i := 30) rfl)) (hw _ (List.mem_of_getElem? (i := 31) rfl)) (hw _ (List.mem_of_getElem? (i := 32) rfl)) (hw _ (List.mem_of_getElem? (i := 21) rfl)) (by decide) e_54 (rmC l Z a0 hw b_27 b_1 b_8 c_54 h_27 n0 u_45 A_27 u_40 u_41 u_42 u_43 u_44) (W := 1) (by decide) (by decide) (by decide) (by decide) (g := (mkF mM 75 #[.val (.int p1), .val (.int p2), .val (.int p3), .val (.int p4), .val (.int p5), .val (.ref b_1), .val (.ref b_8), .val (.ref b_16), .unset, .unset, .unset, .unset] [(.ref c_54), (.ref b_8), (.ref b_1), (.ref b_27), (.ref b_27)])) rfl (by rw [hml]; rfl) (rest := [(.ref b_27)]) own_pd4 rfl rfl (by show 2 * 0 + _ ≤ _; exact Nat.le_of_eq rfl) (hb hby at_75) ?_
      intro v_55 T_55 L_55 X_55 hQ_55
      generalize e_55 : T_55.heap = h_55 at hQ_55
      obtain ⟨rfl, N_55q, K_55, F_55⟩ := hQ_55
      have N_55 := Fr.app N_54 N_55q
      show Goes pP eE bB _ (T_55.setTop (mkF mM 78 #[.val (.int p1), .val (.int p2), .val (.int p3), .val (.int p4), .val (.int p5), .val (.ref b_1), .val (.ref b_8), .val (.ref b_16), .unset, .unset, .unset, .unset] [(.ref b_27)]))
      refine Goes.step (fun _ kK => XS.astore X_55.here hx rfl (hb hby at_78) rfl rfl (l' := #[.val (.int p1), .val (.int p2), .val (.int p3), .val (.int p4), .val (.int p5), .val (.ref b_1), .val (.ref b_8), .val (.ref b_16), .val (.ref b_27), .unset, .unset, .unset]) rfl kK) ?_
      show Goes pP eE bB _ (T_55.setTop (mkF mM 80 #[.val (.int p1), .val (.int p2), .val (.int p3), .val (.int p4), .val (.int p5), .val (.ref b_1), .val (.ref b_8), .val (.ref b_16), .val (.ref b_27), .unset, .unset, .unset] []))
      obtain ⟨T_56, h_56, X_56, e_56, E_56, A_56, D_56, -, st_56⟩ := newO X_55 hx hZ hown (hw _ (List.mem_of_getElem? (i := 19) rfl)) (hw _ (List.mem_of_getElem? (i := 20) rfl)) (hw _ (List.mem_of_getElem? (i := 21) rfl)) e_55 (g := (mkF mM 80 #[.val (.int p1), .val (.int p2), .val (.int p3), .val (.int p4), .val (.int p5), .val (.ref b_1), .val (.ref b_8), .val (.ref b_16), .val (.ref b_27), .unset, .unset, .unset] [])) rfl (hb hby at_80) (by decide) (by decide)
      obtain ⟨b_56, g_56⟩ : ∃ z, z = h_55.size := ⟨_, rfl⟩
      rw [← g_56] at A_56 D_56 st_56
      have u_57 := Nat.lt_of_lt_of_le u_30 E_27.1
      have u_58 := Nat.lt_of_lt_of_le u_57 K_55.1
      have u_59 : b_1 < b_56 := Nat.lt_of_lt_of_le u_58 (Nat.le_of_eq g_56.symm)
      have u_60 := Nat.lt_of_lt_of_le u_34 E_27.1
      have u_61 := Nat.lt_of_lt_of_le u_60 K_55.1
      have u_62 : b_8 < b_56 := Nat.lt_of_lt_of_le u_61 (Nat.le_of_eq g_56.symm)
      have u_63 := Nat.lt_of_lt_of_le (A_26).lt E_27.1
      have u_64 := Nat.lt_of_lt_of_le u_63 K_55.1
      have u_65 : b_16 < b_56 := Nat.lt_of_lt_of_le u_64 (Nat.le_of_eq g_56.symm)
      have u_66 := Nat.lt_of_lt_of_le (A_27).lt K_55.1
      have u_67 : b_27 < b_56 := Nat.lt_of_lt_of_le u_66 (Nat.le_of_eq g_56.symm)
      have u_68 := Nat.le_trans u_45 K_55.1
      have u_69 : n0 ≤ b_56 := Nat.le_trans u_68 (Nat.le_of_eq g_56.symm)
      have u_70 : Fld Z h_56 b_56 "com/example/anchorline/anchorline/tcap/Dialogue" "peer" "Lcom/example/anchorline/anchorline/sccp/SccpAddress;" .null := D_56 (Or.inr (hw _ (List.mem_of_getElem? (i := 35) rfl))) (ty := (.object "com/example/anchorline/anchorline/sccp/SccpAddress")) (by decide)
      have u_71 : Fld Z h_56 b_56 "com/example/anchorline/anchorline/tcap/Dialogue" "applicationContext" "[B" .null := D_56 (Or.inr (hw _ (List.mem_of_getElem? (i := 37) rfl))) (ty := (.array .byte)) (by decide)
      have u_72 : Fld Z h_56 b_56 "com/example/anchorline/anchorline/tcap/Dialogue" "state" "Lcom/example/anchorline/anchorline/tcap/Dialogue$State;" .null := D_56 (Or.inl (hw _ (List.mem_of_getElem? (i := 39) rfl))) (ty := (.object "com/example/anchorline/anchorline/tcap/Dialogue$State")) (by decide)
      have u_73 : Fld Z h_56 b_56 "com/example/anchorline/anchorline/tcap/Dialogue" "lastInvokeId" "I" (.int (0 : Int32)) := D_56 (Or.inl (hw _ (List.mem_of_getElem? (i := 52) rfl))) (ty := .int) (by decide)
      refine Goes.step st_56 ?_
      show Goes pP eE bB _ (T_56.setTop (mkF mM 83 #[.val (.int p1), .val (.int p2), .val (.int p3), .val (.int p4), .val (.int p5), .val (.ref b_1), .val (.ref b_8), .val (.ref b_16), .val (.ref b_27), .unset, .unset, .unset] [(.ref b_56)]))
      refine Goes.step (fun _ kK => XS.dup X_56.here hx rfl (hb hby at_83) rfl rfl kK) ?_
      show Goes pP eE bB _ (T_56.setTop (mkF mM 84 #[.val (.int p1), .val (.int p2), .val (.int p3), .val (.int p4), .val (.int p5), .val (.ref b_1), .val (.ref b_8), .val (.ref b_16), .val (.ref b_27), .unset, .unset, .unset] [(.ref b_56), (.ref b_56)]))
      refine Goes.step (fun _ kK => XS.aload X_56.here hx rfl (hb hby at_84) rfl rfl kK) ?_
      show Goes pP eE bB _ (T_56.setTop (mkF mM 86 #[.val (.int p1), .val (.int p2), .val (.int p3), .val (.int p4), .val (.int p5), .val (.ref b_1), .val (.ref b_8), .val (.ref b_16), .val (.ref b_27), .unset, .unset, .unset] [(.ref b_1), (.ref b_56), (.ref b_56)]))
      refine Goes.step (fun _ kK => XS.aload X_56.here hx rfl (hb hby at_86) rfl rfl kK) ?_
      show Goes pP eE bB _ (T_56.setTop (mkF mM 88 #[.val (.int p1), .val (.int p2), .val (.int p3), .val (.int p4), .val (.int p5), .val (.ref b_1), .val (.ref b_8), .val (.ref b_16), .val (.ref b_27), .unset, .unset, .unset] [(.ref b_16), (.ref b_1), (.ref b_56), (.ref b_56)]))
      refine Goes.step (fun _ kK => XS.iloadN X_56.here hx rfl (hb hby at_88) rfl kK) ?_
      show Goes pP eE bB _ (T_56.setTop (mkF mM 89 #[.val (.int p1), .val (.int p2), .val (.int p3), .val (.int p4), .val (.int p5), .val (.ref b_1), .val (.ref b_8), .val (.ref b_16), .val (.ref b_27), .unset, .unset, .unset] [(.int p3), (.ref b_16), (.ref b_1), (.ref b_56), (.ref b_56)]))
      refine Goes.step (fun _ kK => XS.iconst X_56.here hx rfl (hb hby at_89) kK) ?_
      show Goes pP eE bB _ (T_56.setTop (mkF mM 90 #[.val (.int p1), .val (.int p2), .val (.int p3), .val (.int p4), .val (.int p5), .val (.ref b_1), .val (.ref b_8), .val (.ref b_16), .val (.ref b_27), .unset, .unset, .unset] [(.int (3 : Int32)), (.int p3), (.ref b_16), (.ref b_1), (.ref b_56), (.ref b_56)]))
      refine Goes.step (fun _ kK => XS.iushr X_56.here hx rfl (hb hby at_90) rfl kK) ?_
      show Goes pP eE bB _ (T_56.setTop (mkF mM 91 #[.val (.int p1), .val (.int p2), .val (.int p3), .val (.int p4), .val (.int p5), .val (.ref b_1), .val (.ref b_8), .val (.ref b_16), .val (.ref b_27), .unset, .unset, .unset] [(.int ((p3.toUInt32 >>> ((3 : Int32) &&& 31).toUInt32).toInt32)), (.ref b_16), (.ref b_1), (.ref b_56), (.ref b_56)]))
      have u_74 := Nat.le_trans u_68 E_56.1
      have u_75 := u_53.keep K_55 (allS u_40 all0)
      have u_76 := u_75.ext E_56
      refine Goes.callS X_56 hx hZ hown (hw _ (List.mem_of_getElem? (i := 22) rfl)) (hw _ (List.mem_of_getElem? (i := 23) rfl)) (hw _ (List.mem_of_getElem? (i := 24) rfl)) (hw _ (List.mem_of_getElem? (i := 25) rfl)) (by decide) e_56 (rmT l Z a0 hw ((p3.toUInt32 >>> ((3 : Int32) &&& 31).toUInt32).toInt32) w0 w1 w2 w3 w4 w5 h_56 n0 u_74 Sw0 Sw1 Sw2 Sw3 Sw4 Sw5 u_76) (W := 4) (by decide) (by decide) (by decide) (by decide) (g := (mkF mM 91 #[.val (.int p1), .val (.int p2), .val (.int p3), .val (.int p4), .val (.int p5), .val (.ref b_1), .val (.ref b_8), .val (.ref b_16), .val (.ref b_27), .unset, .unset, .unset] [(.int ((p3.toUInt32 >>> ((3 : Int32) &&& 31).toUInt32).toInt32)), (.ref b_16), (.ref b_1), (.ref b_56), (.ref b_56)])) rfl (by rw [hml]; rfl) (rest := [(.ref b_16), (.ref b_1), (.ref b_56), (.ref b_56)]) own_pd3 rfl rfl (by show 2 * 0 + _ ≤ _; exact Nat.le_of_eq rfl) (hb hby at_91) ?_
      intro v_77 T_77 L_77 X_77 hQ_77
      obtain ⟨c_77, rfl, N_77q, e_77⟩ := hQ_77
      have N_77 := Fr.app N_55 N_77q
      show Goes pP eE bB _ (T_77.setTop (mkF mM 94 #[.val (.int p1), .val (.int p2), .val (.int p3), .val (.int p4), .val (.int p5), .val (.ref b_1), .val (.ref b_8), .val (.ref b_16), .val (.ref b_27), .unset, .unset, .unset] [(.ref c_77), (.ref b_16), (.ref b_1), (.ref b_56), (.ref b_56)]))
      refine Goes.callI X_77 hx hZ rfl hown (hw _ (List.mem_of_getElem? (i := 30) rfl)) (hw _ (List.mem_of_getElem? (i := 31) rfl)) (hw _ (List.mem_of_getElem? (i := 32) rfl)) (hw _ (List.mem_of_getElem? (i := 21) rfl)) (by decide) e_77 (rmC l Z a0 hw b_56 b_1 b_16 c_77 h_56 n0 u_74 A_56 u_69 u_70 u_71 u_72 u_73) (W := 1) (by decide) (by decide) (by decide) (by decide) (g := (mkF mM 94 #[.val (.int p1), .val (.int p2), .val (.int p3), .val (.int p4), .val (.int p5), .val (.ref b_1), .val (.ref b_8), .val (.ref b_16), .val (.ref b_27), .unset, .unset, .unset] [(.ref c_77), (.ref b_16), (.ref b_1), (.ref b_56), (.ref b_56)])) rfl (by rw [hml]; rfl) (rest := [(.ref b_56)]) own_pd4 rfl rfl (by show 2 * 0 + _ ≤ _; exact Nat.le_of_eq rfl) (hb hby at_94) ?_
      intro v_78 T_78 L_78 X_78 hQ_78
      generalize e_78 : T_78.heap = h_78 at hQ_78
      obtain ⟨rfl, N_78q, K_78, F_78⟩ := hQ_78
      have N_78 := Fr.app N_77 N_78q
      show Goes pP eE bB _ (T_78.setTop (mkF mM 97 #[.val (.int p1), .val (.int p2), .val (.int p3), .val (.int p4), .val (.int p5), .val (.ref b_1), .val (.ref b_8), .val (.ref b_16), .val (.ref b_27), .unset, .unset, .unset] [(.ref b_56)]))
      refine Goes.step (fun _ kK => XS.astore X_78.here hx rfl (hb hby at_97) rfl rfl (l' := #[.val (.int p1), .val (.int p2), .val (.int p3), .val (.int p4), .val (.int p5), .val (.ref b_1), .val (.ref b_8), .val (.ref b_16), .val (.ref b_27), .val (.ref b_56), .unset, .unset]) rfl kK) ?_
      show Goes pP eE bB _ (T_78.setTop (mkF mM 99 #[.val (.int p1), .val (.int p2), .val (.int p3), .val (.int p4), .val (.int p5), .val (.ref b_1), .val (.ref b_8), .val (.ref b_16), .val (.ref b_27), .val (.ref b_56), .unset, .unset] []))
      refine Goes.step (fun _ kK => XS.iconst X_78.here hx rfl (hb hby at_99) kK) ?_
      show Goes pP eE bB _ (T_78.setTop (mkF mM 100 #[.val (.int p1), .val (.int p2), .val (.int p3), .val (.int p4), .val (.int p5), .val (.ref b_1), .val (.ref b_8), .val (.ref b_16), .val (.ref b_27), .val (.ref b_56), .unset, .unset] [(.int (2 : Int32))]))
      obtain ⟨T_79, h_79, k_79, X_79, e_79, E_79, A_79, M_79, st_79⟩ := newPE X_78 hx hZ (hw _ (List.mem_of_getElem? (i := 42) rfl)) e_78 (g := (mkF mM 100 #[.val (.int p1), .val (.int p2), .val (.int p3), .val (.int p4), .val (.int p5), .val (.ref b_1), .val (.ref b_8), .val (.ref b_16), .val (.ref b_27), .val (.ref b_56), .unset, .unset] [(.int (2 : Int32))])) rfl (hb hby at_100) rfl (by decide) (cap := 2) (by decide) (by decide) (by decide) (by decide) (ad := "[I") rfl
      obtain ⟨b_79, g_79⟩ : ∃ z, z = h_78.size := ⟨_, rfl⟩
      rw [← g_79] at A_79 M_79 st_79
      have u_80 := Nat.lt_of_lt_of_le u_58 E_56.1
      have u_81 := Nat.lt_of_lt_of_le u_80 K_78.1
      have u_82 : b_1 < b_79 := Nat.lt_of_lt_of_le u_81 (Nat.le_of_eq g_79.symm)
      have u_83 := Nat.lt_of_lt_of_le u_61 E_56.1
      have u_84 := Nat.lt_of_lt_of_le u_83 K_78.1
      have u_85 : b_8 < b_79 := Nat.lt_of_lt_of_le u_84 (Nat.le_of_eq g_79.symm)
      have u_86 := Nat.lt_of_lt_of_le u_64 E_56.1
      have u_87 := Nat.lt_of_lt_of_le u_86 K_78.1
      have u_88 : b_16 < b_79 := Nat.lt_of_lt_of_le u_87 (Nat.le_of_eq g_79.symm)
      have u_89 := Nat.lt_of_lt_of_le u_66 E_56.1
      have u_90 := Nat.lt_of_lt_of_le u_89 K_78.1
      have u_91 : b_27 < b_79 := Nat.lt_of_lt_of_le u_90 (Nat.le_of_eq g_79.symm)
      have u_92 := Nat.lt_of_lt_of_le (A_56).lt K_78.1
      have u_93 : b_56 < b_79 := Nat.lt_of_lt_of_le u_92 (Nat.le_of_eq g_79.symm)
      have u_94 := Nat.le_trans u_74 K_78.1
      have u_95 : n0 ≤ b_79 := Nat.le_trans u_94 (Nat.le_of_eq g_79.symm)
      have u_96 : Afn Z h_79 b_79 .int 2 (fun _ => (.int (0 : Int32))) := Afn.new (n := 2) A_79 (by decide)
      refine Goes.step st_79 ?_
      show Goes pP eE bB _ (T_79.setTop (mkF mM 102 #[.val (.int p1), .val (.int p2), .val (.int p3), .val (.int p4), .val (.int p5), .val (.ref b_1), .val (.ref b_8), .val (.ref b_16), .val (.ref b_27), .val (.ref b_56), .unset, .unset] [(.ref b_79)]))
      refine Goes.step (fun _ kK => XS.astore X_79.here hx rfl (hb hby at_102) rfl rfl (l' := #[.val (.int p1), .val (.int p2), .val (.int p3), .val (.int p4), .val (.int p5), .val (.ref b_1), .val (.ref b_8), .val (.ref b_16), .val (.ref b_27), .val (.ref b_56), .val (.ref b_79), .unset]) rfl kK) ?_
      show Goes pP eE bB _ (T_79.setTop (mkF mM 104 #[.val (.int p1), .val (.int p2), .val (.int p3), .val (.int p4), .val (.int p5), .val (.ref b_1), .val (.ref b_8), .val (.ref b_16), .val (.ref b_27), .val (.ref b_56), .val (.ref b_79), .unset] []))
      refine Goes.step (fun _ kK => XS.iconst X_79.here hx rfl (hb hby at_104) kK) ?_
      show Goes pP eE bB _ (T_79.setTop (mkF mM 105 #[.val (.int p1), .val (.int p2), .val (.int p3), .val (.int p4), .val (.int p5), .val (.ref b_1), .val (.ref b_8), .val (.ref b_16), .val (.ref b_27), .val (.ref b_56), .val (.ref b_79), .unset] [(.int (1 : Int32))]))
      refine Goes.step (fun _ kK => XS.istore X_79.here hx rfl (hb hby at_105) rfl (l' := #[.val (.int p1), .val (.int p2), .val (.int p3), .val (.int p4), .val (.int p5), .val (.ref b_1), .val (.ref b_8), .val (.ref b_16), .val (.ref b_27), .val (.ref b_56), .val (.ref b_79), .val (.int (1 : Int32))]) rfl kK) ?_
      show Goes pP eE bB _ (T_79.setTop (mkF mM 107 #[.val (.int p1), .val (.int p2), .val (.int p3), .val (.int p4), .val (.int p5), .val (.ref b_1), .val (.ref b_8), .val (.ref b_16), .val (.ref b_27), .val (.ref b_56), .val (.ref b_79), .val (.int (1 : Int32))] []))
      refine Goes.step (fun _ kK => XS.aload X_79.here hx rfl (hb hby at_107) rfl rfl kK) ?_
      show Goes pP eE bB _ (T_79.setTop (mkF mM 109 #[.val (.int p1), .val (.int p2), .val (.int p3), .val (.int p4), .val (.int p5), .val (.ref b_1), .val (.ref b_8), .val (.ref b_16), .val (.ref b_27), .val (.ref b_56), .val (.ref b_79), .val (.int (1 : Int32))] [(.ref b_27)]))
      refine Goes.step (fun _ kK => XS.aload X_79.here hx rfl (hb hby at_109) rfl rfl kK) ?_
      show Goes pP eE bB _ (T_79.setTop (mkF mM 111 #[.val (.int p1), .val (.int p2), .val (.int p3), .val (.int p4), .val (.int p5), .val (.ref b_1), .val (.ref b_8), .val (.ref b_16), .val (.ref b_27), .val (.ref b_56), .val (.ref b_79), .val (.int (1 : Int32))] [(.ref b_56), (.ref b_27)]))
      refine Goes.step (fun _ kK => XS.aload X_79.here hx rfl (hb hby at_111) rfl rfl kK) ?_
      show Goes pP eE bB _ (T_79.setTop (mkF mM 113 #[.val (.int p1), .val (.int p2), .val (.int p3), .val (.int p4), .val (.int p5), .val (.ref b_1), .val (.ref b_8), .val (.ref b_16), .val (.ref b_27), .val (.ref b_56), .val (.ref b_79), .val (.int (1 : Int32))] [(.ref b_79), (.ref b_56), (.ref b_27)]))
      refine Goes.step (fun _ kK => XS.iload X_79.here hx rfl (hb hby at_113) rfl kK) ?_
      show Goes pP eE bB _ (T_79.setTop (mkF mM 115 #[.val (.int p1), .val (.int p2), .val (.int p3), .val (.int p4), .val (.int p5), .val (.ref b_1), .val (.ref b_8), .val (.ref b_16), .val (.ref b_27), .val (.ref b_56), .val (.ref b_79), .val (.int (1 : Int32))] [(.int p5), (.ref b_79), (.ref b_56), (.ref b_27)]))
      refine Goes.step (fun _ kK => XS.iconst X_79.here hx rfl (hb hby at_115) kK) ?_
      show Goes pP eE bB _ (T_79.setTop (mkF mM 116 #[.val (.int p1), .val (.int p2), .val (.int p3), .val (.int p4), .val (.int p5), .val (.ref b_1), .val (.ref b_8), .val (.ref b_16), .val (.ref b_27), .val (.ref b_56), .val (.ref b_79), .val (.int (1 : Int32))] [(.int (1 : Int32)), (.int p5), (.ref b_79), (.ref b_56), (.ref b_27)]))
      refine Goes.step (fun _ kK => XS.iand X_79.here hx rfl (hb hby at_116) rfl kK) ?_
      show Goes pP eE bB _ (T_79.setTop (mkF mM 117 #[.val (.int p1), .val (.int p2), .val (.int p3), .val (.int p4), .val (.int p5), .val (.ref b_1), .val (.ref b_8), .val (.ref b_16), .val (.ref b_27), .val (.ref b_56), .val (.ref b_79), .val (.int (1 : Int32))] [(.int (p5 &&& (1 : Int32))), (.ref b_79), (.ref b_56), (.ref b_27)]))
      have u_97 := F_55.ext E_56
      have u_98 := u_97.keep K_78 (ninS (Nat.ne_of_lt u_67) nin0)
      have u_99 := u_98.ext E_79
      have u_100 := F_78.ext E_79
      have I0 : own_Inv Z h_79 b_27 b_56 b_79 (0 : Int32) (0 : Int32) 0 := ⟨u_99, u_100, ⟨_, u_96, rfl, rfl⟩, by decide, by decide, by decide, by decide⟩
      have u_101 := Nat.le_trans u_94 E_79.1
      have u_102 := A_27.keep K_55
      have u_103 := u_102.ext E_56
      have u_104 := u_103.keep K_78
      have u_105 := u_104.ext E_79
      have u_106 := A_56.keep K_78
      have u_107 := u_106.ext E_79
      refine Goes.callS X_79 hx hZ hown (hw _ (List.mem_of_getElem? (i := 43) rfl)) (hw _ (List.mem_of_getElem? (i := 44) rfl)) (hw _ (List.mem_of_getElem? (i := 24) rfl)) (hw _ (List.mem_of_getElem? (i := 45) rfl)) (by decide) e_79 (rmP l Z a0 hw b_27 b_56 b_79 (p5 &&& (1 : Int32)) (0 : Int32) (0 : Int32) h_79 n0 u_101 (own_bit _) (0 : Int) (by decide) u_105 u_107 u_40 u_69 u_95 (Nat.ne_of_lt u_67) (Nat.ne_of_lt u_91) (Nat.ne_of_lt u_93) I0) (W := 0) (by decide) (by decide) (by decide) (by decide) (g := (mkF mM 117 #[.val (.int p1), .val (.int p2), .val (.int p3), .val (.int p4), .val (.int p5), .val (.ref b_1), .val (.ref b_8), .val (.ref b_16), .val (.ref b_27), .val (.ref b_56), .val (.ref b_79), .val (.int (1 : Int32))] [(.int (p5 &&& (1 : Int32))), (.ref b_79), (.ref b_56), (.ref b_27)])) rfl (by rw [hml]; rfl) (rest := []) own_pd5 rfl rfl (by show 2 * 0 + _ ≤ _; exact Nat.le_of_eq rfl) (hb hby at_117) ?_
      intro v_108 T_108 L_108 X_108 hQ_108
      generalize e_108 : T_108.heap = h_108 at hQ_108
      obtain ⟨rfl, N_108q, K_108, x_108, y_108, I_108⟩ := hQ_108
      have N_108 := Fr.app N_78 N_108q
      show Goes pP eE bB _ (T_108.setTop (mkF mM 120 #[.val (.int p1), .val (.int p2), .val (.int p3), .val (.int p4), .val (.int p5), .val (.ref b_1), .val (.ref b_8), .val (.ref b_16), .val (.ref b_27), .val (.ref b_56), .val (.ref b_79), .val (.int (1 : Int32))] [(.int (1 : Int32))]))
      refine Goes.step (fun _ kK => XS.iload X_108.here hx rfl (hb hby at_120) rfl kK) ?_
      show Goes pP eE bB _ (T_108.setTop (mkF mM 122 #[.val (.int p1), .val (.int p2), .val (.int p3), .val (.int p4), .val (.int p5), .val (.ref b_1), .val (.ref b_8), .val (.ref b_16), .val (.ref b_27), .val (.ref b_56), .val (.ref b_79), .val (.int (1 : Int32))] [(.int (1 : Int32)), (.int (1 : Int32))]))
      refine Goes.step (fun _ kK => XS.iand X_108.here hx rfl (hb hby at_122) rfl kK) ?_
      show Goes pP eE bB _ (T_108.setTop (mkF mM 123 #[.val (.int p1), .val (.int p2), .val (.int p3), .val (.int p4), .val (.int p5), .val (.ref b_1), .val (.ref b_8), .val (.ref b_16), .val (.ref b_27), .val (.ref b_56), .val (.ref b_79), .val (.int (1 : Int32))] [(.int ((1 : Int32) &&& (1 : Int32)))]))
      refine Goes.step (fun _ kK => XS.istore X_108.here hx rfl (hb hby at_123) rfl (l' := #[.val (.int p1), .val (.int p2), .val (.int p3), .val (.int p4), .val (.int p5), .val (.ref b_1), .val (.ref b_8), .val (.ref b_16), .val (.ref b_27), .val (.ref b_56), .val (.ref b_79), .val (.int ((1 : Int32) &&& (1 : Int32)))]) rfl kK) ?_
      show Goes pP eE bB _ (T_108.setTop (mkF mM 125 #[.val (.int p1), .val (.int p2), .val (.int p3), .val (.int p4), .val (.int p5), .val (.ref b_1), .val (.ref b_8), .val (.ref b_16), .val (.ref b_27), .val (.ref b_56), .val (.ref b_79), .val (.int ((1 : Int32) &&& (1 : Int32)))] []))
      refine Goes.step (fun _ kK => XS.aload X_108.here hx rfl (hb hby at_125) rfl rfl kK) ?_
      show Goes pP eE bB _ (T_108.setTop (mkF mM 127 #[.val (.int p1), .val (.int p2), .val (.int p3), .val (.int p4), .val (.int p5), .val (.ref b_1), .val (.ref b_8), .val (.ref b_16), .val (.ref b_27), .val (.ref b_56), .val (.ref b_79), .val (.int ((1 : Int32) &&& (1 : Int32)))] [(.ref b_27)]))
      refine Goes.step (fun _ kK => XS.aload X_108.here hx rfl (hb hby at_127) rfl rfl kK) ?_
      show Goes pP eE bB _ (T_108.setTop (mkF mM 129 #[.val (.int p1), .val (.int p2), .val (.int p3), .val (.int p4), .val (.int p5), .val (.ref b_1), .val (.ref b_8), .val (.ref b_16), .val (.ref b_27), .val (.ref b_56), .val (.ref b_79), .val (.int ((1 : Int32) &&& (1 : Int32)))] [(.ref b_56), (.ref b_27)]))
      refine Goes.step (fun _ kK => XS.aload X_108.here hx rfl (hb hby at_129) rfl rfl kK) ?_
      show Goes pP eE bB _ (T_108.setTop (mkF mM 131 #[.val (.int p1), .val (.int p2), .val (.int p3), .val (.int p4), .val (.int p5), .val (.ref b_1), .val (.ref b_8), .val (.ref b_16), .val (.ref b_27), .val (.ref b_56), .val (.ref b_79), .val (.int ((1 : Int32) &&& (1 : Int32)))] [(.ref b_79), (.ref b_56), (.ref b_27)]))
      refine Goes.step (fun _ kK => XS.iload X_108.here hx rfl (hb hby at_131) rfl kK) ?_
      show Goes pP eE bB _ (T_108.setTop (mkF mM 133 #[.val (.int p1), .val (.int p2), .val (.int p3), .val (.int p4), .val (.int p5), .val (.ref b_1), .val (.ref b_8), .val (.ref b_16), .val (.ref b_27), .val (.ref b_56), .val (.ref b_79), .val (.int ((1 : Int32) &&& (1 : Int32)))] [(.int p5), (.ref b_79), (.ref b_56), (.ref b_27)]))
      refine Goes.step (fun _ kK => XS.iconst X_108.here hx rfl (hb hby at_133) kK) ?_
      show Goes pP eE bB _ (T_108.setTop (mkF mM 134 #[.val (.int p1), .val (.int p2), .val (.int p3), .val (.int p4), .val (.int p5), .val (.ref b_1), .val (.ref b_8), .val (.ref b_16), .val (.ref b_27), .val (.ref b_56), .val (.ref b_79), .val (.int ((1 : Int32) &&& (1 : Int32)))] [(.int (1 : Int32)), (.int p5), (.ref b_79), (.ref b_56), (.ref b_27)]))
      refine Goes.step (fun _ kK => XS.iushr X_108.here hx rfl (hb hby at_134) rfl kK) ?_
      show Goes pP eE bB _ (T_108.setTop (mkF mM 135 #[.val (.int p1), .val (.int p2), .val (.int p3), .val (.int p4), .val (.int p5), .val (.ref b_1), .val (.ref b_8), .val (.ref b_16), .val (.ref b_27), .val (.ref b_56), .val (.ref b_79), .val (.int ((1 : Int32) &&& (1 : Int32)))] [(.int ((p5.toUInt32 >>> ((1 : Int32) &&& 31).toUInt32).toInt32)), (.ref b_79), (.ref b_56), (.ref b_27)]))
      refine Goes.step (fun _ kK => XS.iconst X_108.here hx rfl (hb hby at_135) kK) ?_
      show Goes pP eE bB _ (T_108.setTop (mkF mM 136 #[.val (.int p1), .val (.int p2), .val (.int p3), .val (.int p4), .val (.int p5), .val (.ref b_1), .val (.ref b_8), .val (.ref b_16), .val (.ref b_27), .val (.ref b_56), .val (.ref b_79), .val (.int ((1 : Int32) &&& (1 : Int32)))] [(.int (1 : Int32)), (.int ((p5.toUInt32 >>> ((1 : Int32) &&& 31).toUInt32).toInt32)), (.ref b_79), (.ref b_56), (.ref b_27)]))
      refine Goes.step (fun _ kK => XS.iand X_108.here hx rfl (hb hby at_136) rfl kK) ?_
      show Goes pP eE bB _ (T_108.setTop (mkF mM 137 #[.val (.int p1), .val (.int p2), .val (.int p3), .val (.int p4), .val (.int p5), .val (.ref b_1), .val (.ref b_8), .val (.ref b_16), .val (.ref b_27), .val (.ref b_56), .val (.ref b_79), .val (.int ((1 : Int32) &&& (1 : Int32)))] [(.int (((p5.toUInt32 >>> ((1 : Int32) &&& 31).toUInt32).toInt32) &&& (1 : Int32))), (.ref b_79), (.ref b_56), (.ref b_27)]))
      have u_109 := Nat.le_trans u_101 K_108.1
      have u_110 := u_105.keep K_108
      have u_111 := u_107.keep K_108
      refine Goes.callS X_108 hx hZ hown (hw _ (List.mem_of_getElem? (i := 43) rfl)) (hw _ (List.mem_of_getElem? (i := 44) rfl)) (hw _ (List.mem_of_getElem? (i := 24) rfl)) (hw _ (List.mem_of_getElem? (i := 45) rfl)) (by decide) e_108 (rmP l Z a0 hw b_27 b_56 b_79 (((p5.toUInt32 >>> ((1 : Int32) &&& 31).toUInt32).toInt32) &&& (1 : Int32)) x_108 y_108 h_108 n0 u_109 (own_bit _) ((0 : Int) + 1) (by decide) u_110 u_111 u_40 u_69 u_95 (Nat.ne_of_lt u_67) (Nat.ne_of_lt u_91) (Nat.ne_of_lt u_93) I_108) (W := 0) (by decide) (by decide) (by decide) (by decide) (g := (mkF mM 137 #[.val (.int p1), .val (.int p2), .val (.int p3), .val (.int p4), .val (.int p5), .val (.ref b_1), .val (.ref b_8), .val (.ref b_16), .val (.ref b_27), .val (.ref b_56), .val (.ref b_79), .val (.int ((1 : Int32) &&& (1 : Int32)))] [(.int (((p5.toUInt32 >>> ((1 : Int32) &&& 31).toUInt32).toInt32) &&& (1 : Int32))), (.ref b_79), (.ref b_56), (.ref b_27)])) rfl (by rw [hml]; rfl) (rest := []) own_pd5 rfl rfl (by show 2 * 0 + _ ≤ _; exact Nat.le_of_eq rfl) (hb hby at_137) ?_
      intro v_112 T_112 L_112 X_112 hQ_112
      generalize e_112 : T_112.heap = h_112 at hQ_112
      obtain ⟨rfl, N_112q, K_112, x_112, y_112, I_112⟩ := hQ_112
      have N_112 := Fr.app N_108 N_112q
      show Goes pP eE bB _ (T_112.setTop (mkF mM 140 #[.val (.int p1), .val (.int p2), .val (.int p3), .val (.int p4), .val (.int p5), .val (.ref b_1), .val (.ref b_8), .val (.ref b_16), .val (.ref b_27), .val (.ref b_56), .val (.ref b_79), .val (.int ((1 : Int32) &&& (1 : Int32)))] [(.int (1 : Int32))]))
      refine Goes.step (fun _ kK => XS.iload X_112.here hx rfl (hb hby at_140) rfl kK) ?_
      show Goes pP eE bB _ (T_112.setTop (mkF mM 142 #[.val (.int p1), .val (.int p2), .val (.int p3), .val (.int p4), .val (.int p5), .val (.ref b_1), .val (.ref b_8), .val (.ref b_16), .val (.ref b_27), .val (.ref b_56), .val (.ref b_79), .val (.int ((1 : Int32) &&& (1 : Int32)))] [(.int ((1 : Int32) &&& (1 : Int32))), (.int (1 : Int32))]))
      refine Goes.step (fun _ kK => XS.iand X_112.here hx rfl (hb hby at_142) rfl kK) ?_
      show Goes pP eE bB _ (T_112.setTop (mkF mM 143 #[.val (.int p1), .val (.int p2), .val (.int p3), .val (.int p4), .val (.int p5), .val (.ref b_1), .val (.ref b_8), .val (.ref b_16), .val (.ref b_27), .val (.ref b_56), .val (.ref b_79), .val (.int ((1 : Int32) &&& (1 : Int32)))] [(.int ((1 : Int32) &&& ((1 : Int32) &&& (1 : Int32))))]))
      refine Goes.step (fun _ kK => XS.istore X_112.here hx rfl (hb hby at_143) rfl (l' := #[.val (.int p1), .val (.int p2), .val (.int p3), .val (.int p4), .val (.int p5), .val (.ref b_1), .val (.ref b_8), .val (.ref b_16), .val (.ref b_27), .val (.ref b_56), .val (.ref b_79), .val (.int ((1 : Int32) &&& ((1 : Int32) &&& (1 : Int32))))]) rfl kK) ?_
      show Goes pP eE bB _ (T_112.setTop (mkF mM 145 #[.val (.int p1), .val (.int p2), .val (.int p3), .val (.int p4), .val (.int p5), .val (.ref b_1), .val (.ref b_8), .val (.ref b_16), .val (.ref b_27), .val (.ref b_56), .val (.ref b_79), .val (.int ((1 : Int32) &&& ((1 : Int32) &&& (1 : Int32))))] []))
      refine Goes.step (fun _ kK => XS.aload X_112.here hx rfl (hb hby at_145) rfl rfl kK) ?_
      show Goes pP eE bB _ (T_112.setTop (mkF mM 147 #[.val (.int p1), .val (.int p2), .val (.int p3), .val (.int p4), .val (.int p5), .val (.ref b_1), .val (.ref b_8), .val (.ref b_16), .val (.ref b_27), .val (.ref b_56), .val (.ref b_79), .val (.int ((1 : Int32) &&& ((1 : Int32) &&& (1 : Int32))))] [(.ref b_27)]))
      refine Goes.step (fun _ kK => XS.aload X_112.here hx rfl (hb hby at_147) rfl rfl kK) ?_
      show Goes pP eE bB _ (T_112.setTop (mkF mM 149 #[.val (.int p1), .val (.int p2), .val (.int p3), .val (.int p4), .val (.int p5), .val (.ref b_1), .val (.ref b_8), .val (.ref b_16), .val (.ref b_27), .val (.ref b_56), .val (.ref b_79), .val (.int ((1 : Int32) &&& ((1 : Int32) &&& (1 : Int32))))] [(.ref b_56), (.ref b_27)]))
      refine Goes.step (fun _ kK => XS.aload X_112.here hx rfl (hb hby at_149) rfl rfl kK) ?_
      show Goes pP eE bB _ (T_112.setTop (mkF mM 151 #[.val (.int p1), .val (.int p2), .val (.int p3), .val (.int p4), .val (.int p5), .val (.ref b_1), .val (.ref b_8), .val (.ref b_16), .val (.ref b_27), .val (.ref b_56), .val (.ref b_79), .val (.int ((1 : Int32) &&& ((1 : Int32) &&& (1 : Int32))))] [(.ref b_79), (.ref b_56), (.ref b_27)]))
      refine Goes.step (fun _ kK => XS.iload X_112.here hx rfl (hb hby at_151) rfl kK) ?_
      show Goes pP eE bB _ (T_112.setTop (mkF mM 153 #[.val (.int p1), .val (.int p2), .val (.int p3), .val (.int p4), .val (.int p5), .val (.ref b_1), .val (.ref b_8), .val (.ref b_16), .val (.ref b_27), .val (.ref b_56), .val (.ref b_79), .val (.int ((1 : Int32) &&& ((1 : Int32) &&& (1 : Int32))))] [(.int p5), (.ref b_79), (.ref b_56), (.ref b_27)]))
      refine Goes.step (fun _ kK => XS.iconst X_112.here hx rfl (hb hby at_153) kK) ?_
      show Goes pP eE bB _ (T_112.setTop (mkF mM 154 #[.val (.int p1), .val (.int p2), .val (.int p3), .val (.int p4), .val (.int p5), .val (.ref b_1), .val (.ref b_8), .val (.ref b_16), .val (.ref b_27), .val (.ref b_56), .val (.ref b_79), .val (.int ((1 : Int32) &&& ((1 : Int32) &&& (1 : Int32))))] [(.int (2 : Int32)), (.int p5), (.ref b_79), (.ref b_56), (.ref b_27)]))
      refine Goes.step (fun _ kK => XS.iushr X_112.here hx rfl (hb hby at_154) rfl kK) ?_
      show Goes pP eE bB _ (T_112.setTop (mkF mM 155 #[.val (.int p1), .val (.int p2), .val (.int p3), .val (.int p4), .val (.int p5), .val (.ref b_1), .val (.ref b_8), .val (.ref b_16), .val (.ref b_27), .val (.ref b_56), .val (.ref b_79), .val (.int ((1 : Int32) &&& ((1 : Int32) &&& (1 : Int32))))] [(.int ((p5.toUInt32 >>> ((2 : Int32) &&& 31).toUInt32).toInt32)), (.ref b_79), (.ref b_56), (.ref b_27)]))
      refine Goes.step (fun _ kK => XS.iconst X_112.here hx rfl (hb hby at_155) kK) ?_
      show Goes pP eE bB _ (T_112.setTop (mkF mM 156 #[.val (.int p1), .val (.int p2), .val (.int p3), .val (.int p4), .val (.int p5), .val (.ref b_1), .val (.ref b_8), .val (.ref b_16), .val (.ref b_27), .val (.ref b_56), .val (.ref b_79), .val (.int ((1 : Int32) &&& ((1 : Int32) &&& (1 : Int32))))] [(.int (1 : Int32)), (.int ((p5.toUInt32 >>> ((2 : Int32) &&& 31).toUInt32).toInt32)), (.ref b_79), (.ref b_56), (.ref b_27)]))
      refine Goes.step (fun _ kK => XS.iand X_112.here hx rfl (hb hby at_156) rfl kK) ?_
      show Goes pP eE bB _ (T_112.setTop (mkF mM 157 #[.val (.int p1), .val (.int p2), .val (.int p3), .val (.int p4), .val (.int p5), .val (.ref b_1), .val (.ref b_8), .val (.ref b_16), .val (.ref b_27), .val (.ref b_56), .val (.ref b_79), .val (.int ((1 : Int32) &&& ((1 : Int32) &&& (1 : Int32))))] [(.int (((p5.toUInt32 >>> ((2 : Int32) &&& 31).toUInt32).toInt32) &&& (1 : Int32))), (.ref b_79), (.ref b_56), (.ref b_27)]))
      have u_113 := Nat.le_trans u_109 K_112.1
      have u_114 := u_110.keep K_112
      have u_115 := u_111.keep K_112
      refine Goes.callS X_112 hx hZ hown (hw _ (List.mem_of_getElem? (i := 43) rfl)) (hw _ (List.mem_of_getElem? (i := 44) rfl)) (hw _ (List.mem_of_getElem? (i := 24) rfl)) (hw _ (List.mem_of_getElem? (i := 45) rfl)) (by decide) e_112 (rmP l Z a0 hw b_27 b_56 b_79 (((p5.toUInt32 >>> ((2 : Int32) &&& 31).toUInt32).toInt32) &&& (1 : Int32)) x_112 y_112 h_112 n0 u_113 (own_bit _) ((0 : Int) + 1 + 1) (by decide) u_114 u_115 u_40 u_69 u_95 (Nat.ne_of_lt u_67) (Nat.ne_of_lt u_91) (Nat.ne_of_lt u_93) I_112) (W := 0) (by decide) (by decide) (by decide) (by decide) (g := (mkF mM 157 #[.val (.int p1), .val (.int p2), .val (.int p3), .val (.int p4), .val (.int p5), .val (.ref b_1), .val (.ref b_8), .val (.ref b_16), .val (.ref b_27), .val (.ref b_56), .val (.ref b_79), .val (.int ((1 : Int32) &&& ((1 : Int32) &&& (1 : Int32))))] [(.int (((p5.toUInt32 >>> ((2 : Int32) &&& 31).toUInt32).toInt32) &&& (1 : Int32))), (.ref b_79), (.ref b_56), (.ref b_27)])) rfl (by rw [hml]; rfl) (rest := []) own_pd5 rfl rfl (by show 2 * 0 + _ ≤ _; exact Nat.le_of_eq rfl) (hb hby at_157) ?_
      intro v_116 T_116 L_116 X_116 hQ_116
      generalize e_116 : T_116.heap = h_116 at hQ_116
      obtain ⟨rfl, N_116q, K_116, x_116, y_116, I_116⟩ := hQ_116
      have N_116 := Fr.app N_112 N_116q
      show Goes pP eE bB _ (T_116.setTop (mkF mM 160 #[.val (.int p1), .val (.int p2), .val (.int p3), .val (.int p4), .val (.int p5), .val (.ref b_1), .val (.ref b_8), .val (.ref b_16), .val (.ref b_27), .val (.ref b_56), .val (.ref b_79), .val (.int ((1 : Int32) &&& ((1 : Int32) &&& (1 : Int32))))] [(.int (1 : Int32))]))
      refine Goes.step (fun _ kK => XS.iload X_116.here hx rfl (hb hby at_160) rfl kK) ?_
      show Goes pP eE bB _ (T_116.setTop (mkF mM 162 #[.val (.int p1), .val (.int p2), .val (.int p3), .val (.int p4), .val (.int p5), .val (.ref b_1), .val (.ref b_8), .val (.ref b_16), .val (.ref b_27), .val (.ref b_56), .val (.ref b_79), .val (.int ((1 : Int32) &&& ((1 : Int32) &&& (1 : Int32))))] [(.int ((1 : Int32) &&& ((1 : Int32) &&& (1 : Int32)))), (.int (1 : Int32))]))
      refine Goes.step (fun _ kK => XS.iand X_116.here hx rfl (hb hby at_162) rfl kK) ?_
      show Goes pP eE bB _ (T_116.setTop (mkF mM 163 #[.val (.int p1), .val (.int p2), .val (.int p3), .val (.int p4), .val (.int p5), .val (.ref b_1), .val (.ref b_8), .val (.ref b_16), .val (.ref b_27), .val (.ref b_56), .val (.ref b_79), .val (.int ((1 : Int32) &&& ((1 : Int32) &&& (1 : Int32))))] [(.int ((1 : Int32) &&& ((1 : Int32) &&& ((1 : Int32) &&& (1 : Int32)))))]))
      refine Goes.step (fun _ kK => XS.istore X_116.here hx rfl (hb hby at_163) rfl (l' := #[.val (.int p1), .val (.int p2), .val (.int p3), .val (.int p4), .val (.int p5), .val (.ref b_1), .val (.ref b_8), .val (.ref b_16), .val (.ref b_27), .val (.ref b_56), .val (.ref b_79), .val (.int ((1 : Int32) &&& ((1 : Int32) &&& ((1 : Int32) &&& (1 : Int32)))))]) rfl kK) ?_
      show Goes pP eE bB _ (T_116.setTop (mkF mM 165 #[.val (.int p1), .val (.int p2), .val (.int p3), .val (.int p4), .val (.int p5), .val (.ref b_1), .val (.ref b_8), .val (.ref b_16), .val (.ref b_27), .val (.ref b_56), .val (.ref b_79), .val (.int ((1 : Int32) &&& ((1 : Int32) &&& ((1 : Int32) &&& (1 : Int32)))))] []))
      refine Goes.step (fun _ kK => XS.aload X_116.here hx rfl (hb hby at_165) rfl rfl kK) ?_
      show Goes pP eE bB _ (T_116.setTop (mkF mM 167 #[.val (.int p1), .val (.int p2), .val (.int p3), .val (.int p4), .val (.int p5), .val (.ref b_1), .val (.ref b_8), .val (.ref b_16), .val (.ref b_27), .val (.ref b_56), .val (.ref b_79), .val (.int ((1 : Int32) &&& ((1 : Int32) &&& ((1 : Int32) &&& (1 : Int32)))))] [(.ref b_27)]))
      refine Goes.step (fun _ kK => XS.aload X_116.here hx rfl (hb hby at_167) rfl rfl kK) ?_
      show Goes pP eE bB _ (T_116.setTop (mkF mM 169 #[.val (.int p1), .val (.int p2), .val (.int p3), .val (.int p4), .val (.int p5), .val (.ref b_1), .val (.ref b_8), .val (.ref b_16), .val (.ref b_27), .val (.ref b_56), .val (.ref b_79), .val (.int ((1 : Int32) &&& ((1 : Int32) &&& ((1 : Int32) &&& (1 : Int32)))))] [(.ref b_56), (.ref b_27)]))
      refine Goes.step (fun _ kK => XS.aload X_116.here hx rfl (hb hby at_169) rfl rfl kK) ?_
      show Goes pP eE bB _ (T_116.setTop (mkF mM 171 #[.val (.int p1), .val (.int p2), .val (.int p3), .val (.int p4), .val (.int p5), .val (.ref b_1), .val (.ref b_8), .val (.ref b_16), .val (.ref b_27), .val (.ref b_56), .val (.ref b_79), .val (.int ((1 : Int32) &&& ((1 : Int32) &&& ((1 : Int32) &&& (1 : Int32)))))] [(.ref b_79), (.ref b_56), (.ref b_27)]))
      refine Goes.step (fun _ kK => XS.iload X_116.here hx rfl (hb hby at_171) rfl kK) ?_
      show Goes pP eE bB _ (T_116.setTop (mkF mM 173 #[.val (.int p1), .val (.int p2), .val (.int p3), .val (.int p4), .val (.int p5), .val (.ref b_1), .val (.ref b_8), .val (.ref b_16), .val (.ref b_27), .val (.ref b_56), .val (.ref b_79), .val (.int ((1 : Int32) &&& ((1 : Int32) &&& ((1 : Int32) &&& (1 : Int32)))))] [(.int p5), (.ref b_79), (.ref b_56), (.ref b_27)]))
      refine Goes.step (fun _ kK => XS.iconst X_116.here hx rfl (hb hby at_173) kK) ?_
      show Goes pP eE bB _ (T_116.setTop (mkF mM 174 #[.val (.int p1), .val (.int p2), .val (.int p3), .val (.int p4), .val (.int p5), .val (.ref b_1), .val (.ref b_8), .val (.ref b_16), .val (.ref b_27), .val (.ref b_56), .val (.ref b_79), .val (.int ((1 : Int32) &&& ((1 : Int32) &&& ((1 : Int32) &&& (1 : Int32)))))] [(.int (3 : Int32)), (.int p5), (.ref b_79), (.ref b_56), (.ref b_27)]))
      refine Goes.step (fun _ kK => XS.iushr X_116.here hx rfl (hb hby at_174) rfl kK) ?_
      show Goes pP eE bB _ (T_116.setTop (mkF mM 175 #[.val (.int p1), .val (.int p2), .val (.int p3), .val (.int p4), .val (.int p5), .val (.ref b_1), .val (.ref b_8), .val (.ref b_16), .val (.ref b_27), .val (.ref b_56), .val (.ref b_79), .val (.int ((1 : Int32) &&& ((1 : Int32) &&& ((1 : Int32) &&& (1 : Int32)))))] [(.int ((p5.toUInt32 >>> ((3 : Int32) &&& 31).toUInt32).toInt32)), (.ref b_79), (.ref b_56), (.ref b_27)]))
      refine Goes.step (fun _ kK => XS.iconst X_116.here hx rfl (hb hby at_175) kK) ?_
      show Goes pP eE bB _ (T_116.setTop (mkF mM 176 #[.val (.int p1), .val (.int p2), .val (.int p3), .val (.int p4), .val (.int p5), .val (.ref b_1), .val (.ref b_8), .val (.ref b_16), .val (.ref b_27), .val (.ref b_56), .val (.ref b_79), .val (.int ((1 : Int32) &&& ((1 : Int32) &&& ((1 : Int32) &&& (1 : Int32)))))] [(.int (1 : Int32)), (.int ((p5.toUInt32 >>> ((3 : Int32) &&& 31).toUInt32).toInt32)), (.ref b_79), (.ref b_56), (.ref b_27)]))
      refine Goes.step (fun _ kK => XS.iand X_116.here hx rfl (hb hby at_176) rfl kK) ?_
      show Goes pP eE bB _ (T_116.setTop (mkF mM 177 #[.val (.int p1), .val (.int p2), .val (.int p3), .val (.int p4), .val (.int p5), .val (.ref b_1), .val (.ref b_8), .val (.ref b_16), .val (.ref b_27), .val (.ref b_56), .val (.ref b_79), .val (.int ((1 : Int32) &&& ((1 : Int32) &&& ((1 : Int32) &&& (1 : Int32)))))] [(.int (((p5.toUInt32 >>> ((3 : Int32) &&& 31).toUInt32).toInt32) &&& (1 : Int32))), (.ref b_79), (.ref b_56), (.ref b_27)]))
      have u_117 := Nat.le_trans u_113 K_116.1
      have u_118 := u_114.keep K_116
      have u_119 := u_115.keep K_116
      refine Goes.callS X_116 hx hZ hown (hw _ (List.mem_of_getElem? (i := 43) rfl)) (hw _ (List.mem_of_getElem? (i := 44) rfl)) (hw _ (List.mem_of_getElem? (i := 24) rfl)) (hw _ (List.mem_of_getElem? (i := 45) rfl)) (by decide) e_116 (rmP l Z a0 hw b_27 b_56 b_79 (((p5.toUInt32 >>> ((3 : Int32) &&& 31).toUInt32).toInt32) &&& (1 : Int32)) x_116 y_116 h_116 n0 u_117 (own_bit _) ((0 : Int) + 1 + 1 + 1) (by decide) u_118 u_119 u_40 u_69 u_95 (Nat.ne_of_lt u_67) (Nat.ne_of_lt u_91) (Nat.ne_of_lt u_93) I_116) (W := 0) (by decide) (by decide) (by decide) (by decide) (g := (mkF mM 177 #[.val (.int p1), .val (.int p2), .val (.int p3), .val (.int p4), .val (.int p5), .val (.ref b_1), .val (.ref b_8), .val (.ref b_16), .val (.ref b_27), .val (.ref b_56), .val (.ref b_79), .val (.int ((1 : Int32) &&& ((1 : Int32) &&& ((1 : Int32) &&& (1 : Int32)))))] [(.int (((p5.toUInt32 >>> ((3 : Int32) &&& 31).toUInt32).toInt32) &&& (1 : Int32))), (.ref b_79), (.ref b_56), (.ref b_27)])) rfl (by rw [hml]; rfl) (rest := []) own_pd5 rfl rfl (by show 2 * 0 + _ ≤ _; exact Nat.le_of_eq rfl) (hb hby at_177) ?_
      intro v_120 T_120 L_120 X_120 hQ_120
      generalize e_120 : T_120.heap = h_120 at hQ_120
      obtain ⟨rfl, N_120q, K_120, x_120, y_120, I_120⟩ := hQ_120
      have N_120 := Fr.app N_116 N_120q
      show Goes pP eE bB _ (T_120.setTop (mkF mM 180 #[.val (.int p1), .val (.int p2), .val (.int p3), .val (.int p4), .val (.int p5), .val (.ref b_1), .val (.ref b_8), .val (.ref b_16), .val (.ref b_27), .val (.ref b_56), .val (.ref b_79), .val (.int ((1 : Int32) &&& ((1 : Int32) &&& ((1 : Int32) &&& (1 : Int32)))))] [(.int (1 : Int32))]))
      refine Goes.step (fun _ kK => XS.iload X_120.here hx rfl (hb hby at_180) rfl kK) ?_
      show Goes pP eE bB _ (T_120.setTop (mkF mM 182 #[.val (.int p1), .val (.int p2), .val (.int p3), .val (.int p4), .val (.int p5), .val (.ref b_1), .val (.ref b_8), .val (.ref b_16), .val (.ref b_27), .val (.ref b_56), .val (.ref b_79), .val (.int ((1 : Int32) &&& ((1 : Int32) &&& ((1 : Int32) &&& (1 : Int32)))))] [(.int ((1 : Int32) &&& ((1 : Int32) &&& ((1 : Int32) &&& (1 : Int32))))), (.int (1 : Int32))]))
      refine Goes.step (fun _ kK => XS.iand X_120.here hx rfl (hb hby at_182) rfl kK) ?_
      show Goes pP eE bB _ (T_120.setTop (mkF mM 183 #[.val (.int p1), .val (.int p2), .val (.int p3), .val (.int p4), .val (.int p5), .val (.ref b_1), .val (.ref b_8), .val (.ref b_16), .val (.ref b_27), .val (.ref b_56), .val (.ref b_79), .val (.int ((1 : Int32) &&& ((1 : Int32) &&& ((1 : Int32) &&& (1 : Int32)))))] [(.int ((1 : Int32) &&& ((1 : Int32) &&& ((1 : Int32) &&& ((1 : Int32) &&& (1 : Int32))))))]))
      refine Goes.step (fun _ kK => XS.istore X_120.here hx rfl (hb hby at_183) rfl (l' := #[.val (.int p1), .val (.int p2), .val (.int p3), .val (.int p4), .val (.int p5), .val (.ref b_1), .val (.ref b_8), .val (.ref b_16), .val (.ref b_27), .val (.ref b_56), .val (.ref b_79), .val (.int ((1 : Int32) &&& ((1 : Int32) &&& ((1 : Int32) &&& ((1 : Int32) &&& (1 : Int32))))))]) rfl kK) ?_
      show Goes pP eE bB _ (T_120.setTop (mkF mM 185 #[.val (.int p1), .val (.int p2), .val (.int p3), .val (.int p4), .val (.int p5), .val (.ref b_1), .val (.ref b_8), .val (.ref b_16), .val (.ref b_27), .val (.ref b_56), .val (.ref b_79), .val (.int ((1 : Int32) &&& ((1 : Int32) &&& ((1 : Int32) &&& ((1 : Int32) &&& (1 : Int32))))))] []))
      refine Goes.step (fun _ kK => XS.aload X_120.here hx rfl (hb hby at_185) rfl rfl kK) ?_
      show Goes pP eE bB _ (T_120.setTop (mkF mM 187 #[.val (.int p1), .val (.int p2), .val (.int p3), .val (.int p4), .val (.int p5), .val (.ref b_1), .val (.ref b_8), .val (.ref b_16), .val (.ref b_27), .val (.ref b_56), .val (.ref b_79), .val (.int ((1 : Int32) &&& ((1 : Int32) &&& ((1 : Int32) &&& ((1 : Int32) &&& (1 : Int32))))))] [(.ref b_27)]))
      refine Goes.step (fun _ kK => XS.aload X_120.here hx rfl (hb hby at_187) rfl rfl kK) ?_
      show Goes pP eE bB _ (T_120.setTop (mkF mM 189 #[.val (.int p1), .val (.int p2), .val (.int p3), .val (.int p4), .val (.int p5), .val (.ref b_1), .val (.ref b_8), .val (.ref b_16), .val (.ref b_27), .val (.ref b_56), .val (.ref b_79), .val (.int ((1 : Int32) &&& ((1 : Int32) &&& ((1 : Int32) &&& ((1 : Int32) &&& (1 : Int32))))))] [(.ref b_56), (.ref b_27)]))
      refine Goes.step (fun _ kK => XS.aload X_120.here hx rfl (hb hby at_189) rfl rfl kK) ?_
      show Goes pP eE bB _ (T_120.setTop (mkF mM 191 #[.val (.int p1), .val (.int p2), .val (.int p3), .val (.int p4), .val (.int p5), .val (.ref b_1), .val (.ref b_8), .val (.ref b_16), .val (.ref b_27), .val (.ref b_56), .val (.ref b_79), .val (.int ((1 : Int32) &&& ((1 : Int32) &&& ((1 : Int32) &&& ((1 : Int32) &&& (1 : Int32))))))] [(.ref b_79), (.ref b_56), (.ref b_27)]))
      refine Goes.step (fun _ kK => XS.iload X_120.here hx rfl (hb hby at_191) rfl kK) ?_
      show Goes pP eE bB _ (T_120.setTop (mkF mM 193 #[.val (.int p1), .val (.int p2), .val (.int p3), .val (.int p4), .val (.int p5), .val (.ref b_1), .val (.ref b_8), .val (.ref b_16), .val (.ref b_27), .val (.ref b_56), .val (.ref b_79), .val (.int ((1 : Int32) &&& ((1 : Int32) &&& ((1 : Int32) &&& ((1 : Int32) &&& (1 : Int32))))))] [(.int p5), (.ref b_79), (.ref b_56), (.ref b_27)]))
      refine Goes.step (fun _ kK => XS.iconst X_120.here hx rfl (hb hby at_193) kK) ?_
      show Goes pP eE bB _ (T_120.setTop (mkF mM 194 #[.val (.int p1), .val (.int p2), .val (.int p3), .val (.int p4), .val (.int p5), .val (.ref b_1), .val (.ref b_8), .val (.ref b_16), .val (.ref b_27), .val (.ref b_56), .val (.ref b_79), .val (.int ((1 : Int32) &&& ((1 : Int32) &&& ((1 : Int32) &&& ((1 : Int32) &&& (1 : Int32))))))] [(.int (4 : Int32)), (.int p5), (.ref b_79), (.ref b_56), (.ref b_27)]))
      refine Goes.step (fun _ kK => XS.iushr X_120.here hx rfl (hb hby at_194) rfl kK) ?_
      show Goes pP eE bB _ (T_120.setTop (mkF mM 195 #[.val (.int p1), .val (.int p2), .val (.int p3), .val (.int p4), .val (.int p5), .val (.ref b_1), .val (.ref b_8), .val (.ref b_16), .val (.ref b_27), .val (.ref b_56), .val (.ref b_79), .val (.int ((1 : Int32) &&& ((1 : Int32) &&& ((1 : Int32) &&& ((1 : Int32) &&& (1 : Int32))))))] [(.int ((p5.toUInt32 >>> ((4 : Int32) &&& 31).toUInt32).toInt32)), (.ref b_79), (.ref b_56), (.ref b_27)]))
      refine Goes.step (fun _ kK => XS.iconst X_120.here hx rfl (hb hby at_195) kK) ?_
      show Goes pP eE bB _ (T_120.setTop (mkF mM 196 #[.val (.int p1), .val (.int p2), .val (.int p3), .val (.int p4), .val (.int p5), .val (.ref b_1), .val (.ref b_8), .val (.ref b_16), .val (.ref b_27), .val (.ref b_56), .val (.ref b_79), .val (.int ((1 : Int32) &&& ((1 : Int32) &&& ((1 : Int32) &&& ((1 : Int32) &&& (1 : Int32))))))] [(.int (1 : Int32)), (.int ((p5.toUInt32 >>> ((4 : Int32) &&& 31).toUInt32).toInt32)), (.ref b_79), (.ref b_56), (.ref b_27)]))
      refine Goes.step (fun _ kK => XS.iand X_120.here hx rfl (hb hby at_196) rfl kK) ?_
      show Goes pP eE bB _ (T_120.setTop (mkF mM 197 #[.val (.int p1), .val (.int p2), .val (.int p3), .val (.int p4), .val (.int p5), .val (.ref b_1), .val (.ref b_8), .val (.ref b_16), .val (.ref b_27), .val (.ref b_56), .val (.ref b_79), .val (.int ((1 : Int32) &&& ((1 : Int32) &&& ((1 : Int32) &&& ((1 : Int32) &&& (1 : Int32))))))] [(.int (((p5.toUInt32 >>> ((4 : Int32) &&& 31).toUInt32).toInt32) &&& (1 : Int32))), (.ref b_79), (.ref b_56), (.ref b_27)]))
      have u_121 := Nat.le_trans u_117 K_120.1
      have u_122 := u_118.keep K_120
      have u_123 := u_119.keep K_120
      refine Goes.callS X_120 hx hZ hown (hw _ (List.mem_of_getElem? (i := 43) rfl)) (hw _ (List.mem_of_getElem? (i := 44) rfl)) (hw _ (List.mem_of_getElem? (i := 24) rfl)) (hw _ (List.mem_of_getElem? (i := 45) rfl)) (by decide) e_120 (rmP l Z a0 hw b_27 b_56 b_79 (((p5.toUInt32 >>> ((4 : Int32) &&& 31).toUInt32).toInt32) &&& (1 : Int32)) x_120 y_120 h_120 n0 u_121 (own_bit _) ((0 : Int) + 1 + 1 + 1 + 1) (by decide) u_122 u_123 u_40 u_69 u_95 (Nat.ne_of_lt u_67) (Nat.ne_of_lt u_91) (Nat.ne_of_lt u_93) I_120) (W := 0) (by decide) (by decide) (by decide) (by decide) (g := (mkF mM 197 #[.val (.int p1), .val (.int p2), .val (.int p3), .val (.int p4), .val (.int p5), .val (.ref b_1), .val (.ref b_8), .val (.ref b_16), .val (.ref b_27), .val (.ref b_56), .val (.ref b_79), .val (.int ((1 : Int32) &&& ((1 : Int32) &&& ((1 : Int32) &&& ((1 : Int32) &&& (1 : Int32))))))] [(.int (((p5.toUInt32 >>> ((4 : Int32) &&& 31).toUInt32).toInt32) &&& (1 : Int32))), (.ref b_79), (.ref b_56), (.ref b_27)])) rfl (by rw [hml]; rfl) (rest := []) own_pd5 rfl rfl (by show 2 * 0 + _ ≤ _; exact Nat.le_of_eq rfl) (hb hby at_197) ?_
      intro v_124 T_124 L_124 X_124 hQ_124
      generalize e_124 : T_124.heap = h_124 at hQ_124
      obtain ⟨rfl, N_124q, K_124, x_124, y_124, I_124⟩ := hQ_124
      have N_124 := Fr.app N_120 N_124q
      show Goes pP eE bB _ (T_124.setTop (mkF mM 200 #[.val (.int p1), .val (.int p2), .val (.int p3), .val (.int p4), .val (.int p5), .val (.ref b_1), .val (.ref b_8), .val (.ref b_16), .val (.ref b_27), .val (.ref b_56), .val (.ref b_79), .val (.int ((1 : Int32) &&& ((1 : Int32) &&& ((1 : Int32) &&& ((1 : Int32) &&& (1 : Int32))))))] [(.int (1 : Int32))]))
      refine Goes.step (fun _ kK => XS.iload X_124.here hx rfl (hb hby at_200) rfl kK) ?_
      show Goes pP eE bB _ (T_124.setTop (mkF mM 202 #[.val (.int p1), .val (.int p2), .val (.int p3), .val (.int p4), .val (.int p5), .val (.ref b_1), .val (.ref b_8), .val (.ref b_16), .val (.ref b_27), .val (.ref b_56), .val (.ref b_79), .val (.int ((1 : Int32) &&& ((1 : Int32) &&& ((1 : Int32) &&& ((1 : Int32) &&& (1 : Int32))))))] [(.int ((1 : Int32) &&& ((1 : Int32) &&& ((1 : Int32) &&& ((1 : Int32) &&& (1 : Int32)))))), (.int (1 : Int32))]))
      refine Goes.step (fun _ kK => XS.iand X_124.here hx rfl (hb hby at_202) rfl kK) ?_
      show Goes pP eE bB _ (T_124.setTop (mkF mM 203 #[.val (.int p1), .val (.int p2), .val (.int p3), .val (.int p4), .val (.int p5), .val (.ref b_1), .val (.ref b_8), .val (.ref b_16), .val (.ref b_27), .val (.ref b_56), .val (.ref b_79), .val (.int ((1 : Int32) &&& ((1 : Int32) &&& ((1 : Int32) &&& ((1 : Int32) &&& (1 : Int32))))))] [(.int ((1 : Int32) &&& ((1 : Int32) &&& ((1 : Int32) &&& ((1 : Int32) &&& ((1 : Int32) &&& (1 : Int32)))))))]))
      refine Goes.step (fun _ kK => XS.istore X_124.here hx rfl (hb hby at_203) rfl (l' := #[.val (.int p1), .val (.int p2), .val (.int p3), .val (.int p4), .val (.int p5), .val (.ref b_1), .val (.ref b_8), .val (.ref b_16), .val (.ref b_27), .val (.ref b_56), .val (.ref b_79), .val (.int ((1 : Int32) &&& ((1 : Int32) &&& ((1 : Int32) &&& ((1 : Int32) &&& ((1 : Int32) &&& (1 : Int32)))))))]) rfl kK) ?_
      show Goes pP eE bB _ (T_124.setTop (mkF mM 205 #[.val (.int p1), .val (.int p2), .val (.int p3), .val (.int p4), .val (.int p5), .val (.ref b_1), .val (.ref b_8), .val (.ref b_16), .val (.ref b_27), .val (.ref b_56), .val (.ref b_79), .val (.int ((1 : Int32) &&& ((1 : Int32) &&& ((1 : Int32) &&& ((1 : Int32) &&& ((1 : Int32) &&& (1 : Int32)))))))] []))
      refine Goes.step (fun _ kK => XS.aload X_124.here hx rfl (hb hby at_205) rfl rfl kK) ?_
      show Goes pP eE bB _ (T_124.setTop (mkF mM 207 #[.val (.int p1), .val (.int p2), .val (.int p3), .val (.int p4), .val (.int p5), .val (.ref b_1), .val (.ref b_8), .val (.ref b_16), .val (.ref b_27), .val (.ref b_56), .val (.ref b_79), .val (.int ((1 : Int32) &&& ((1 : Int32) &&& ((1 : Int32) &&& ((1 : Int32) &&& ((1 : Int32) &&& (1 : Int32)))))))] [(.ref b_27)]))
      refine Goes.step (fun _ kK => XS.aload X_124.here hx rfl (hb hby at_207) rfl rfl kK) ?_
      show Goes pP eE bB _ (T_124.setTop (mkF mM 209 #[.val (.int p1), .val (.int p2), .val (.int p3), .val (.int p4), .val (.int p5), .val (.ref b_1), .val (.ref b_8), .val (.ref b_16), .val (.ref b_27), .val (.ref b_56), .val (.ref b_79), .val (.int ((1 : Int32) &&& ((1 : Int32) &&& ((1 : Int32) &&& ((1 : Int32) &&& ((1 : Int32) &&& (1 : Int32)))))))] [(.ref b_56), (.ref b_27)]))
      refine Goes.step (fun _ kK => XS.aload X_124.here hx rfl (hb hby at_209) rfl rfl kK) ?_
      show Goes pP eE bB _ (T_124.setTop (mkF mM 211 #[.val (.int p1), .val (.int p2), .val (.int p3), .val (.int p4), .val (.int p5), .val (.ref b_1), .val (.ref b_8), .val (.ref b_16), .val (.ref b_27), .val (.ref b_56), .val (.ref b_79), .val (.int ((1 : Int32) &&& ((1 : Int32) &&& ((1 : Int32) &&& ((1 : Int32) &&& ((1 : Int32) &&& (1 : Int32)))))))] [(.ref b_79), (.ref b_56), (.ref b_27)]))
      refine Goes.step (fun _ kK => XS.iload X_124.here hx rfl (hb hby at_211) rfl kK) ?_
      show Goes pP eE bB _ (T_124.setTop (mkF mM 213 #[.val (.int p1), .val (.int p2), .val (.int p3), .val (.int p4), .val (.int p5), .val (.ref b_1), .val (.ref b_8), .val (.ref b_16), .val (.ref b_27), .val (.ref b_56), .val (.ref b_79), .val (.int ((1 : Int32) &&& ((1 : Int32) &&& ((1 : Int32) &&& ((1 : Int32) &&& ((1 : Int32) &&& (1 : Int32)))))))] [(.int p5), (.ref b_79), (.ref b_56), (.ref b_27)]))
      refine Goes.step (fun _ kK => XS.iconst X_124.here hx rfl (hb hby at_213) kK) ?_
      show Goes pP eE bB _ (T_124.setTop (mkF mM 214 #[.val (.int p1), .val (.int p2), .val (.int p3), .val (.int p4), .val (.int p5), .val (.ref b_1), .val (.ref b_8), .val (.ref b_16), .val (.ref b_27), .val (.ref b_56), .val (.ref b_79), .val (.int ((1 : Int32) &&& ((1 : Int32) &&& ((1 : Int32) &&& ((1 : Int32) &&& ((1 : Int32) &&& (1 : Int32)))))))] [(.int (5 : Int32)), (.int p5), (.ref b_79), (.ref b_56), (.ref b_27)]))
      refine Goes.step (fun _ kK => XS.iushr X_124.here hx rfl (hb hby at_214) rfl kK) ?_
      show Goes pP eE bB _ (T_124.setTop (mkF mM 215 #[.val (.int p1), .val (.int p2), .val (.int p3), .val (.int p4), .val (.int p5), .val (.ref b_1), .val (.ref b_8), .val (.ref b_16), .val (.ref b_27), .val (.ref b_56), .val (.ref b_79), .val (.int ((1 : Int32) &&& ((1 : Int32) &&& ((1 : Int32) &&& ((1 : Int32) &&& ((1 : Int32) &&& (1 : Int32)))))))] [(.int ((p5.toUInt32 >>> ((5 : Int32) &&& 31).toUInt32).toInt32)), (.ref b_79), (.ref b_56), (.ref b_27)]))
      refine Goes.step (fun _ kK => XS.iconst X_124.here hx rfl (hb hby at_215) kK) ?_
      show Goes pP eE bB _ (T_124.setTop (mkF mM 216 #[.val (.int p1), .val (.int p2), .val (.int p3), .val (.int p4), .val (.int p5), .val (.ref b_1), .val (.ref b_8), .val (.ref b_16), .val (.ref b_27), .val (.ref b_56), .val (.ref b_79), .val (.int ((1 : Int32) &&& ((1 : Int32) &&& ((1 : Int32) &&& ((1 : Int32) &&& ((1 : Int32) &&& (1 : Int32)))))))] [(.int (1 : Int32)), (.int ((p5.toUInt32 >>> ((5 : Int32) &&& 31).toUInt32).toInt32)), (.ref b_79), (.ref b_56), (.ref b_27)]))
      refine Goes.step (fun _ kK => XS.iand X_124.here hx rfl (hb hby at_216) rfl kK) ?_
      show Goes pP eE bB _ (T_124.setTop (mkF mM 217 #[.val (.int p1), .val (.int p2), .val (.int p3), .val (.int p4), .val (.int p5), .val (.ref b_1), .val (.ref b_8), .val (.ref b_16), .val (.ref b_27), .val (.ref b_56), .val (.ref b_79), .val (.int ((1 : Int32) &&& ((1 : Int32) &&& ((1 : Int32) &&& ((1 : Int32) &&& ((1 : Int32) &&& (1 : Int32)))))))] [(.int (((p5.toUInt32 >>> ((5 : Int32) &&& 31).toUInt32).toInt32) &&& (1 : Int32))), (.ref b_79), (.ref b_56), (.ref b_27)]))
      have u_125 := Nat.le_trans u_121 K_124.1
      have u_126 := u_122.keep K_124
      have u_127 := u_123.keep K_124
      refine Goes.callS X_124 hx hZ hown (hw _ (List.mem_of_getElem? (i := 43) rfl)) (hw _ (List.mem_of_getElem? (i := 44) rfl)) (hw _ (List.mem_of_getElem? (i := 24) rfl)) (hw _ (List.mem_of_getElem? (i := 45) rfl)) (by decide) e_124 (rmP l Z a0 hw b_27 b_56 b_79 (((p5.toUInt32 >>> ((5 : Int32) &&& 31).toUInt32).toInt32) &&& (1 : Int32)) x_124 y_124 h_124 n0 u_125 (own_bit _) ((0 : Int) + 1 + 1 + 1 + 1 + 1) (by decide) u_126 u_127 u_40 u_69 u_95 (Nat.ne_of_lt u_67) (Nat.ne_of_lt u_91) (Nat.ne_of_lt u_93) I_124) (W := 0) (by decide) (by decide) (by decide) (by decide) (g := (mkF mM 217 #[.val (.int p1), .val (.int p2), .val (.int p3), .val (.int p4), .val (.int p5), .val (.ref b_1), .val (.ref b_8), .val (.ref b_16), .val (.ref b_27), .val (.ref b_56), .val (.ref b_79), .val (.int ((1 : Int32) &&& ((1 : Int32) &&& ((1 : Int32) &&& ((1 : Int32) &&& ((1 : Int32) &&& (1 : Int32)))))))] [(.int (((p5.toUInt32 >>> ((5 : Int32) &&& 31).toUInt32).toInt32) &&& (1 : Int32))), (.ref b_79), (.ref b_56), (.ref b_27)])) rfl (by rw [hml]; rfl) (rest := []) own_pd5 rfl rfl (by show 2 * 0 + _ ≤ _; exact Nat.le_of_eq rfl) (hb hby at_217) ?_
      intro v_128 T_128 L_128 X_128 hQ_128
      generalize e_128 : T_128.heap = h_128 at hQ_128
      obtain ⟨rfl, N_128q, K_128, x_128, y_128, I_128⟩ := hQ_128
      have N_128 := Fr.app N_124 N_128q
      show Goes pP eE bB _ (T_128.setTop (mkF mM 220 #[.val (.int p1), .val (.int p2), .val (.int p3), .val (.int p4), .val (.int p5), .val (.ref b_1), .val (.ref b_8), .val (.ref b_16), .val (.ref b_27), .val (.ref b_56), .val (.ref b_79), .val (.int ((1 : Int32) &&& ((1 : Int32) &&& ((1 : Int32) &&& ((1 : Int32) &&& ((1 : Int32) &&& (1 : Int32)))))))] [(.int (1 : Int32))]))
      refine Goes.step (fun _ kK => XS.iload X_128.here hx rfl (hb hby at_220) rfl kK) ?_
      show Goes pP eE bB _ (T_128.setTop (mkF mM 222 #[.val (.int p1), .val (.int p2), .val (.int p3), .val (.int p4), .val (.int p5), .val (.ref b_1), .val (.ref b_8), .val (.ref b_16), .val (.ref b_27), .val (.ref b_56), .val (.ref b_79), .val (.int ((1 : Int32) &&& ((1 : Int32) &&& ((1 : Int32) &&& ((1 : Int32) &&& ((1 : Int32) &&& (1 : Int32)))))))] [(.int ((1 : Int32) &&& ((1 : Int32) &&& ((1 : Int32) &&& ((1 : Int32) &&& ((1 : Int32) &&& (1 : Int32))))))), (.int (1 : Int32))]))
      refine Goes.step (fun _ kK => XS.iand X_128.here hx rfl (hb hby at_222) rfl kK) ?_
      show Goes pP eE bB _ (T_128.setTop (mkF mM 223 #[.val (.int p1), .val (.int p2), .val (.int p3), .val (.int p4), .val (.int p5), .val (.ref b_1), .val (.ref b_8), .val (.ref b_16), .val (.ref b_27), .val (.ref b_56), .val (.ref b_79), .val (.int ((1 : Int32) &&& ((1 : Int32) &&& ((1 : Int32) &&& ((1 : Int32) &&& ((1 : Int32) &&& (1 : Int32)))))))] [(.int ((1 : Int32) &&& ((1 : Int32) &&& ((1 : Int32) &&& ((1 : Int32) &&& ((1 : Int32) &&& ((1 : Int32) &&& (1 : Int32))))))))]))
      refine Goes.step (fun _ kK => XS.istore X_128.here hx rfl (hb hby at_223) rfl (l' := #[.val (.int p1), .val (.int p2), .val (.int p3), .val (.int p4), .val (.int p5), .val (.ref b_1), .val (.ref b_8), .val (.ref b_16), .val (.ref b_27), .val (.ref b_56), .val (.ref b_79), .val (.int ((1 : Int32) &&& ((1 : Int32) &&& ((1 : Int32) &&& ((1 : Int32) &&& ((1 : Int32) &&& ((1 : Int32) &&& (1 : Int32))))))))]) rfl kK) ?_
      show Goes pP eE bB _ (T_128.setTop (mkF mM 225 #[.val (.int p1), .val (.int p2), .val (.int p3), .val (.int p4), .val (.int p5), .val (.ref b_1), .val (.ref b_8), .val (.ref b_16), .val (.ref b_27), .val (.ref b_56), .val (.ref b_79), .val (.int ((1 : Int32) &&& ((1 : Int32) &&& ((1 : Int32) &&& ((1 : Int32) &&& ((1 : Int32) &&& ((1 : Int32) &&& (1 : Int32))))))))] []))
      refine Goes.step (fun _ kK => XS.aload X_128.here hx rfl (hb hby at_225) rfl rfl kK) ?_
      show Goes pP eE bB _ (T_128.setTop (mkF mM 227 #[.val (.int p1), .val (.int p2), .val (.int p3), .val (.int p4), .val (.int p5), .val (.ref b_1), .val (.ref b_8), .val (.ref b_16), .val (.ref b_27), .val (.ref b_56), .val (.ref b_79), .val (.int ((1 : Int32) &&& ((1 : Int32) &&& ((1 : Int32) &&& ((1 : Int32) &&& ((1 : Int32) &&& ((1 : Int32) &&& (1 : Int32))))))))] [(.ref b_27)]))
      refine Goes.step (fun _ kK => XS.aload X_128.here hx rfl (hb hby at_227) rfl rfl kK) ?_
      show Goes pP eE bB _ (T_128.setTop (mkF mM 229 #[.val (.int p1), .val (.int p2), .val (.int p3), .val (.int p4), .val (.int p5), .val (.ref b_1), .val (.ref b_8), .val (.ref b_16), .val (.ref b_27), .val (.ref b_56), .val (.ref b_79), .val (.int ((1 : Int32) &&& ((1 : Int32) &&& ((1 : Int32) &&& ((1 : Int32) &&& ((1 : Int32) &&& ((1 : Int32) &&& (1 : Int32))))))))] [(.ref b_56), (.ref b_27)]))
      refine Goes.step (fun _ kK => XS.aload X_128.here hx rfl (hb hby at_229) rfl rfl kK) ?_
      show Goes pP eE bB _ (T_128.setTop (mkF mM 231 #[.val (.int p1), .val (.int p2), .val (.int p3), .val (.int p4), .val (.int p5), .val (.ref b_1), .val (.ref b_8), .val (.ref b_16), .val (.ref b_27), .val (.ref b_56), .val (.ref b_79), .val (.int ((1 : Int32) &&& ((1 : Int32) &&& ((1 : Int32) &&& ((1 : Int32) &&& ((1 : Int32) &&& ((1 : Int32) &&& (1 : Int32))))))))] [(.ref b_79), (.ref b_56), (.ref b_27)]))
      refine Goes.step (fun _ kK => XS.iload X_128.here hx rfl (hb hby at_231) rfl kK) ?_
      show Goes pP eE bB _ (T_128.setTop (mkF mM 233 #[.val (.int p1), .val (.int p2), .val (.int p3), .val (.int p4), .val (.int p5), .val (.ref b_1), .val (.ref b_8), .val (.ref b_16), .val (.ref b_27), .val (.ref b_56), .val (.ref b_79), .val (.int ((1 : Int32) &&& ((1 : Int32) &&& ((1 : Int32) &&& ((1 : Int32) &&& ((1 : Int32) &&& ((1 : Int32) &&& (1 : Int32))))))))] [(.int p5), (.ref b_79), (.ref b_56), (.ref b_27)]))
      refine Goes.step (fun _ kK => XS.bipush X_128.here hx rfl (hb hby at_233) kK) ?_
      show Goes pP eE bB _ (T_128.setTop (mkF mM 235 #[.val (.int p1), .val (.int p2), .val (.int p3), .val (.int p4), .val (.int p5), .val (.ref b_1), .val (.ref b_8), .val (.ref b_16), .val (.ref b_27), .val (.ref b_56), .val (.ref b_79), .val (.int ((1 : Int32) &&& ((1 : Int32) &&& ((1 : Int32) &&& ((1 : Int32) &&& ((1 : Int32) &&& ((1 : Int32) &&& (1 : Int32))))))))] [(.int (6 : Int32)), (.int p5), (.ref b_79), (.ref b_56), (.ref b_27)]))
      refine Goes.step (fun _ kK => XS.iushr X_128.here hx rfl (hb hby at_235) rfl kK) ?_
      show Goes pP eE bB _ (T_128.setTop (mkF mM 236 #[.val (.int p1), .val (.int p2), .val (.int p3), .val (.int p4), .val (.int p5), .val (.ref b_1), .val (.ref b_8), .val (.ref b_16), .val (.ref b_27), .val (.ref b_56), .val (.ref b_79), .val (.int ((1 : Int32) &&& ((1 : Int32) &&& ((1 : Int32) &&& ((1 : Int32) &&& ((1 : Int32) &&& ((1 : Int32) &&& (1 : Int32))))))))] [(.int ((p5.toUInt32 >>> ((6 : Int32) &&& 31).toUInt32).toInt32)), (.ref b_79), (.ref b_56), (.ref b_27)]))
      refine Goes.step (fun _ kK => XS.iconst X_128.here hx rfl (hb hby at_236) kK) ?_
      show Goes pP eE bB _ (T_128.setTop (mkF mM 237 #[.val (.int p1), .val (.int p2), .val (.int p3), .val (.int p4), .val (.int p5), .val (.ref b_1), .val (.ref b_8), .val (.ref b_16), .val (.ref b_27), .val (.ref b_56), .val (.ref b_79), .val (.int ((1 : Int32) &&& ((1 : Int32) &&& ((1 : Int32) &&& ((1 : Int32) &&& ((1 : Int32) &&& ((1 : Int32) &&& (1 : Int32))))))))] [(.int (1 : Int32)), (.int ((p5.toUInt32 >>> ((6 : Int32) &&& 31).toUInt32).toInt32)), (.ref b_79), (.ref b_56), (.ref b_27)]))
      refine Goes.step (fun _ kK => XS.iand X_128.here hx rfl (hb hby at_237) rfl kK) ?_
      show Goes pP eE bB _ (T_128.setTop (mkF mM 238 #[.val (.int p1), .val (.int p2), .val (.int p3), .val (.int p4), .val (.int p5), .val (.ref b_1), .val (.ref b_8), .val (.ref b_16), .val (.ref b_27), .val (.ref b_56), .val (.ref b_79), .val (.int ((1 : Int32) &&& ((1 : Int32) &&& ((1 : Int32) &&& ((1 : Int32) &&& ((1 : Int32) &&& ((1 : Int32) &&& (1 : Int32))))))))] [(.int (((p5.toUInt32 >>> ((6 : Int32) &&& 31).toUInt32).toInt32) &&& (1 : Int32))), (.ref b_79), (.ref b_56), (.ref b_27)]))
      have u_129 := Nat.le_trans u_125 K_128.1
      have u_130 := u_126.keep K_128
      have u_131 := u_127.keep K_128
      refine Goes.callS X_128 hx hZ hown (hw _ (List.mem_of_getElem? (i := 43) rfl)) (hw _ (List.mem_of_getElem? (i := 44) rfl)) (hw _ (List.mem_of_getElem? (i := 24) rfl)) (hw _ (List.mem_of_getElem? (i := 45) rfl)) (by decide) e_128 (rmP l Z a0 hw b_27 b_56 b_79 (((p5.toUInt32 >>> ((6 : Int32) &&& 31).toUInt32).toInt32) &&& (1 : Int32)) x_128 y_128 h_128 n0 u_129 (own_bit _) ((0 : Int) + 1 + 1 + 1 + 1 + 1 + 1) (by decide) u_130 u_131 u_40 u_69 u_95 (Nat.ne_of_lt u_67) (Nat.ne_of_lt u_91) (Nat.ne_of_lt u_93) I_128) (W := 0) (by decide) (by decide) (by decide) (by decide) (g := (mkF mM 238 #[.val (.int p1), .val (.int p2), .val (.int p3), .val (.int p4), .val (.int p5), .val (.ref b_1), .val (.ref b_8), .val (.ref b_16), .val (.ref b_27), .val (.ref b_56), .val (.ref b_79), .val (.int ((1 : Int32) &&& ((1 : Int32) &&& ((1 : Int32) &&& ((1 : Int32) &&& ((1 : Int32) &&& ((1 : Int32) &&& (1 : Int32))))))))] [(.int (((p5.toUInt32 >>> ((6 : Int32) &&& 31).toUInt32).toInt32) &&& (1 : Int32))), (.ref b_79), (.ref b_56), (.ref b_27)])) rfl (by rw [hml]; rfl) (rest := []) own_pd5 rfl rfl (by show 2 * 0 + _ ≤ _; exact Nat.le_of_eq rfl) (hb hby at_238) ?_
      intro v_132 T_132 L_132 X_132 hQ_132
      generalize e_132 : T_132.heap = h_132 at hQ_132
      obtain ⟨rfl, N_132q, K_132, x_132, y_132, I_132⟩ := hQ_132
      have N_132 := Fr.app N_128 N_132q
      show Goes pP eE bB _ (T_132.setTop (mkF mM 241 #[.val (.int p1), .val (.int p2), .val (.int p3), .val (.int p4), .val (.int p5), .val (.ref b_1), .val (.ref b_8), .val (.ref b_16), .val (.ref b_27), .val (.ref b_56), .val (.ref b_79), .val (.int ((1 : Int32) &&& ((1 : Int32) &&& ((1 : Int32) &&& ((1 : Int32) &&& ((1 : Int32) &&& ((1 : Int32) &&& (1 : Int32))))))))] [(.int (1 : Int32))]))
      refine Goes.step (fun _ kK => XS.iload X_132.here hx rfl (hb hby at_241) rfl kK) ?_
      show Goes pP eE bB _ (T_132.setTop (mkF mM 243 #[.val (.int p1), .val (.int p2), .val (.int p3), .val (.int p4), .val (.int p5), .val (.ref b_1), .val (.ref b_8), .val (.ref b_16), .val (.ref b_27), .val (.ref b_56), .val (.ref b_79), .val (.int ((1 : Int32) &&& ((1 : Int32) &&& ((1 : Int32) &&& ((1 : Int32) &&& ((1 : Int32) &&& ((1 : Int32) &&& (1 : Int32))))))))] [(.int ((1 : Int32) &&& ((1 : Int32) &&& ((1 : Int32) &&& ((1 : Int32) &&& ((1 : Int32) &&& ((1 : Int32) &&& (1 : Int32)))))))), (.int (1 : Int32))]))
      refine Goes.step (fun _ kK => XS.iand X_132.here hx rfl (hb hby at_243) rfl kK) ?_
      show Goes pP eE bB _ (T_132.setTop (mkF mM 244 #[.val (.int p1), .val (.int p2), .val (.int p3), .val (.int p4), .val (.int p5), .val (.ref b_1), .val (.ref b_8), .val (.ref b_16), .val (.ref b_27), .val (.ref b_56), .val (.ref b_79), .val (.int ((1 : Int32) &&& ((1 : Int32) &&& ((1 : Int32) &&& ((1 : Int32) &&& ((1 : Int32) &&& ((1 : Int32) &&& (1 : Int32))))))))] [(.int ((1 : Int32) &&& ((1 : Int32) &&& ((1 : Int32) &&& ((1 : Int32) &&& ((1 : Int32) &&& ((1 : Int32) &&& ((1 : Int32) &&& (1 : Int32)))))))))]))
      refine Goes.step (fun _ kK => XS.istore X_132.here hx rfl (hb hby at_244) rfl (l' := #[.val (.int p1), .val (.int p2), .val (.int p3), .val (.int p4), .val (.int p5), .val (.ref b_1), .val (.ref b_8), .val (.ref b_16), .val (.ref b_27), .val (.ref b_56), .val (.ref b_79), .val (.int ((1 : Int32) &&& ((1 : Int32) &&& ((1 : Int32) &&& ((1 : Int32) &&& ((1 : Int32) &&& ((1 : Int32) &&& ((1 : Int32) &&& (1 : Int32)))))))))]) rfl kK) ?_
      show Goes pP eE bB _ (T_132.setTop (mkF mM 246 #[.val (.int p1), .val (.int p2), .val (.int p3), .val (.int p4), .val (.int p5), .val (.ref b_1), .val (.ref b_8), .val (.ref b_16), .val (.ref b_27), .val (.ref b_56), .val (.ref b_79), .val (.int ((1 : Int32) &&& ((1 : Int32) &&& ((1 : Int32) &&& ((1 : Int32) &&& ((1 : Int32) &&& ((1 : Int32) &&& ((1 : Int32) &&& (1 : Int32)))))))))] []))
      refine Goes.step (fun _ kK => XS.iload X_132.here hx rfl (hb hby at_246) rfl kK) ?_
      show Goes pP eE bB _ (T_132.setTop (mkF mM 248 #[.val (.int p1), .val (.int p2), .val (.int p3), .val (.int p4), .val (.int p5), .val (.ref b_1), .val (.ref b_8), .val (.ref b_16), .val (.ref b_27), .val (.ref b_56), .val (.ref b_79), .val (.int ((1 : Int32) &&& ((1 : Int32) &&& ((1 : Int32) &&& ((1 : Int32) &&& ((1 : Int32) &&& ((1 : Int32) &&& ((1 : Int32) &&& (1 : Int32)))))))))] [(.int ((1 : Int32) &&& ((1 : Int32) &&& ((1 : Int32) &&& ((1 : Int32) &&& ((1 : Int32) &&& ((1 : Int32) &&& ((1 : Int32) &&& (1 : Int32)))))))))]))
      refine Goes.retN X_132 hx hlk (t := .boolean) hret (by simp) (hb hby at_248) (by decide) (by decide) ?_
      exact ⟨rfl, N_132⟩
    · refine Goes.step (fun _ kK => XS.ifNo X_14.here hx rfl (hb hby at_36) rfl ((if0 _ _).trans (feq hc_15).1) kK) ?_
      show Goes pP eE bB _ (T_14.setTop (mkF mM 39 #[.val (.int p1), .val (.int p2), .val (.int p3), .val (.int p4), .val (.int p5), .val (.ref b_1), .val (.ref b_8), .unset, .unset, .unset, .unset, .unset] []))
      refine Goes.step (fun _ kK => XS.aconstNull X_14.here hx rfl (hb hby at_39) kK) ?_
      show Goes pP eE bB _ (T_14.setTop (mkF mM 40 #[.val (.int p1), .val (.int p2), .val (.int p3), .val (.int p4), .val (.int p5), .val (.ref b_1), .val (.ref b_8), .unset, .unset, .unset, .unset, .unset] [.null]))
      refine Goes.step (fun _ kK => XS.goto X_14.here hx rfl (pc0 := 40) (pc' := 61) rfl (hb hby at_40) (by decide) (by decide) kK) ?_
      show Goes pP eE bB _ (T_14.setTop (mkF mM 61 #[.val (.int p1), .val (.int p2), .val (.int p3), .val (.int p4), .val (.int p5), .val (.ref b_1), .val (.ref b_8), .unset, .unset, .unset, .unset, .unset] [.null]))
      refine Goes.step (fun _ kK => XS.astore X_14.here hx rfl (hb hby at_61) rfl rfl (l' := #[.val (.int p1), .val (.int p2), .val (.int p3), .val (.int p4), .val (.int p5), .val (.ref b_1), .val (.ref b_8), .val .null, .unset, .unset, .unset, .unset]) rfl kK) ?_
      show Goes pP eE bB _ (T_14.setTop (mkF mM 63 #[.val (.int p1), .val (.int p2), .val (.int p3), .val (.int p4), .val (.int p5), .val (.ref b_1), .val (.ref b_8), .val .null, .unset, .unset, .unset, .unset] []))
      obtain ⟨T_133, h_133, X_133, e_133, E_133, A_133, D_133, -, st_133⟩ := newO X_14 hx hZ hown (hw _ (List.mem_of_getElem? (i := 19) rfl)) (hw _ (List.mem_of_getElem? (i := 20) rfl)) (hw _ (List.mem_of_getElem? (i := 21) rfl)) e_14 (g := (mkF mM 63 #[.val (.int p1), .val (.int p2), .val (.int p3), .val (.int p4), .val (.int p5), .val (.ref b_1), .val (.ref b_8), .val .null, .unset, .unset, .unset, .unset] [])) rfl (hb hby at_63) (by decide) (by decide)
      obtain ⟨b_133, g_133⟩ : ∃ z, z = h_14.size := ⟨_, rfl⟩
      rw [← g_133] at A_133 D_133 st_133
      have u_134 := Nat.lt_of_lt_of_le u_9 E_8.1
      have u_135 := Nat.lt_of_lt_of_le u_134 (Keep.of_wr W_14).1
      have u_136 : b_1 < b_133 := Nat.lt_of_lt_of_le u_135 (Nat.le_of_eq g_133.symm)
      have u_137 : b_8 < b_133 := Nat.lt_of_lt_of_le (A_14).lt (Nat.le_of_eq g_133.symm)
      have u_138 := Nat.le_trans u_11 E_8.1
      have u_139 := Nat.le_trans u_138 (Keep.of_wr W_14).1
      have u_140 : n0 ≤ b_133 := Nat.le_trans u_139 (Nat.le_of_eq g_133.symm)
      have u_141 : Fld Z h_133 b_133 "com/example/anchorline/anchorline/tcap/Dialogue" "peer" "Lcom/example/anchorline/anchorline/sccp/SccpAddress;" .null := D_133 (Or.inr (hw _ (List.mem_of_getElem? (i := 35) rfl))) (ty := (.object "com/example/anchorline/anchorline/sccp/SccpAddress")) (by decide)
      have u_142 : Fld Z h_133 b_133 "com/example/anchorline/anchorline/tcap/Dialogue" "applicationContext" "[B" .null := D_133 (Or.inr (hw _ (List.mem_of_getElem? (i := 37) rfl))) (ty := (.array .byte)) (by decide)
      have u_143 : Fld Z h_133 b_133 "com/example/anchorline/anchorline/tcap/Dialogue" "state" "Lcom/example/anchorline/anchorline/tcap/Dialogue$State;" .null := D_133 (Or.inl (hw _ (List.mem_of_getElem? (i := 39) rfl))) (ty := (.object "com/example/anchorline/anchorline/tcap/Dialogue$State")) (by decide)
      have u_144 : Fld Z h_133 b_133 "com/example/anchorline/anchorline/tcap/Dialogue" "lastInvokeId" "I" (.int (0 : Int32)) := D_133 (Or.inl (hw _ (List.mem_of_getElem? (i := 52) rfl))) (ty := .int) (by decide)
      refine Goes.step st_133 ?_
      show Goes pP eE bB _ (T_133.setTop (mkF mM 66 #[.val (.int p1), .val (.int p2), .val (.int p3), .val (.int p4), .val (.int p5), .val (.ref b_1), .val (.ref b_8), .val .null, .unset, .unset, .unset, .unset] [(.ref b_133)]))
      refine Goes.step (fun _ kK => XS.dup X_133.here hx rfl (hb hby at_66) rfl rfl kK) ?_
      show Goes pP eE bB _ (T_133.setTop (mkF mM 67 #[.val (.int p1), .val (.int p2), .val (.int p3), .val (.int p4), .val (.int p5), .val (.ref b_1), .val (.ref b_8), .val .null, .unset, .unset, .unset, .unset] [(.ref b_133), (.ref b_133)]))
      refine Goes.step (fun _ kK => XS.aload X_133.here hx rfl (hb hby at_67) rfl rfl kK) ?_
      show Goes pP eE bB _ (T_133.setTop (mkF mM 69 #[.val (.int p1), .val (.int p2), .val (.int p3), .val (.int p4), .val (.int p5), .val (.ref b_1), .val (.ref b_8), .val .null, .unset, .unset, .unset, .unset] [(.ref b_1), (.ref b_133), (.ref b_133)]))
      refine Goes.step (fun _ kK => XS.aload X_133.here hx rfl (hb hby at_69) rfl rfl kK) ?_
      show Goes pP eE bB _ (T_133.setTop (mkF mM 71 #[.val (.int p1), .val (.int p2), .val (.int p3), .val (.int p4), .val (.int p5), .val (.ref b_1), .val (.ref b_8), .val .null, .unset, .unset, .unset, .unset] [(.ref b_8), (.ref b_1), (.ref b_133), (.ref b_133)]))
      refine Goes.step (fun _ kK => XS.iloadN X_133.here hx rfl (hb hby at_71) rfl kK) ?_
      show Goes pP eE bB _ (T_133.setTop (mkF mM 72 #[.val (.int p1), .val (.int p2), .val (.int p3), .val (.int p4), .val (.int p5), .val (.ref b_1), .val (.ref b_8), .val .null, .unset, .unset, .unset, .unset] [(.int p3), (.ref b_8), (.ref b_1), (.ref b_133), (.ref b_133)]))
      have u_145 := Nat.le_trans u_139 E_133.1
      have u_146 := O0.ext E_1
      have u_147 := u_146.keep K_6 (allS u_2 all0)
      have u_148 := u_147.ext E_8
      have u_149 := u_148.wr W_14 u_12
      have u_150 := u_149.ext E_133
      refine Goes.callS X_133 hx hZ hown (hw _ (List.mem_of_getElem? (i := 22) rfl)) (hw _ (List.mem_of_getElem? (i := 23) rfl)) (hw _ (List.mem_of_getElem? (i := 24) rfl)) (hw _ (List.mem_of_getElem? (i := 25) rfl)) (by decide) e_133 (rmT l Z a0 hw p3 w0 w1 w2 w3 w4 w5 h_133 n0 u_145 Sw0 Sw1 Sw2 Sw3 Sw4 Sw5 u_150) (W := 4) (by decide) (by decide) (by decide) (by decide) (g := (mkF mM 72 #[.val (.int p1), .val (.int p2), .val (.int p3), .val (.int p4), .val (.int p5), .val (.ref b_1), .val (.ref b_8), .val .null, .unset, .unset, .unset, .unset] [(.int p3), (.ref b_8), (.ref b_1), (.ref b_133), (.ref b_133)])) rfl (by rw [hml]; rfl) (rest := [(.ref b_8), (.ref b_1), (.ref b_133), (.ref b_133)]) own_pd3 rfl rfl (by show 2 * 0 + _ ≤ _; exact Nat.le_of_eq rfl) (hb hby at_72) ?_
      intro v_151 T_151 L_151 X_151 hQ_151
      obtain ⟨c_151, rfl, N_151q, e_151⟩ := hQ_151
      have N_151 := Fr.app N_14 N_151q
      show Goes pP eE bB _ (T_151.setTop (mkF mM 75 #[.val (.int p1), .val (.int p2), .val (.int p3), .val (.int p4), .val (.int p5), .val (.ref b_1), .val (.ref b_8), .val .null, .unset, .unset, .unset, .unset] [(.ref c_151), (.ref b_8), (.ref b_1), (.ref b_133), (.ref b_133)]))
      refine Goes.callI X_151 hx hZ rfl hown (hw _ (List.mem_of_getElem? (i := 30) rfl)) (hw _ (List.mem_of_getElem? (i := 31) rfl)) (hw _ (List.mem_of_getElem? (i := 32) rfl)) (hw _ (List.mem_of_getElem? (i := 21) rfl)) (by decide) e_151 (rmC l Z a0 hw b_133 b_1 b_8 c_151 h_133 n0 u_145 A_133 u_140 u_141 u_142 u_143 u_144) (W := 1) (by decide) (by decide) (by decide) (by decide) (g := (mkF mM 75 #[.val (.int p1), .val (.int p2), .val (.int p3), .val (.int p4), .val (.int p5), .val (.ref b_1), .val (.ref b_8), .val .null, .unset, .unset, .unset, .unset] [(.ref c_151), (.ref b_8), (.ref b_1), (.ref b_133), (.ref b_133)])) rfl (by rw [hml]; rfl) (rest := [(.ref b_133)]) own_pd4 rfl rfl (by show 2 * 0 + _ ≤ _; exact Nat.le_of_eq rfl) (hb hby at_75) ?_
      intro v_152 T_152 L_152 X_152 hQ_152
      generalize e_152 : T_152.heap = h_152 at hQ_152
      obtain ⟨rfl, N_152q, K_152, F_152⟩ := hQ_152
      have N_152 := Fr.app N_151 N_152q
      show Goes pP eE bB _ (T_152.setTop (mkF mM 78 #[.val (.int p1), .val (.int p2), .val (.int p3), .val (.int p4), .val (.int p5), .val (.ref b_1), .val (.ref b_8), .val .null, .unset, .unset, .unset, .unset] [(.ref b_133)]))
      refine Goes.step (fun _ kK => XS.astore X_152.here hx rfl (hb hby at_78) rfl rfl (l' := #[.val (.int p1), .val (.int p2), .val (.int p3), .val (.int p4), .val (.int p5), .val (.ref b_1), .val (.ref b_8), .val .null, .val (.ref b_133), .unset, .unset, .unset]) rfl kK) ?_
      show Goes pP eE bB _ (T_152.setTop (mkF mM 80 #[.val (.int p1), .val (.int p2), .val (.int p3), .val (.int p4), .val (.int p5), .val (.ref b_1), .val (.ref b_8), .val .null, .val (.ref b_133), .unset, .unset, .unset] []))
      obtain ⟨T_153, h_153, X_153, e_153, E_153, A_153, D_153, -, st_153⟩ := newO X_152 hx hZ hown (hw _ (List.mem_of_getElem? (i := 19) rfl)) (hw _ (List.mem_of_getElem? (i := 20) rfl)) (hw _ (List.mem_of_getElem? (i := 21) rfl)) e_152 (g := (mkF mM 80 #[.val (.int p1), .val (.int p2), .val (.int p3), .val (.int p4), .val (.int p5), .val (.ref b_1), .val (.ref b_8), .val .null, .val (.ref b_133), .unset, .unset, .unset] [])) rfl (hb hby at_80) (by decide) (by decide)
      obtain ⟨b_153, g_153⟩ : ∃ z, z = h_152.size := ⟨_, rfl⟩
      rw [← g_153] at A_153 D_153 st_153
      have u_154 := Nat.lt_of_lt_of_le u_135 E_133.1
      have u_155 := Nat.lt_of_lt_of_le u_154 K_152.1
      have u_156 : b_1 < b_153 := Nat.lt_of_lt_of_le u_155 (Nat.le_of_eq g_153.symm)
      have u_157 := Nat.lt_of_lt_of_le (A_14).lt E_133.1
      have u_158 := Nat.lt_of_lt_of_le u_157 K_152.1
      have u_159 : b_8 < b_153 := Nat.lt_of_lt_of_le u_158 (Nat.le_of_eq g_153.symm)
      have u_160 := Nat.lt_of_lt_of_le (A_133).lt K_152.1
      have u_161 : b_133 < b_153 := Nat.lt_of_lt_of_le u_160 (Nat.le_of_eq g_153.symm)
      have u_162 := Nat.le_trans u_145 K_152.1
      have u_163 : n0 ≤ b_153 := Nat.le_trans u_162 (Nat.le_of_eq g_153.symm)
      have u_164 : Fld Z h_153 b_153 "com/example/anchorline/anchorline/tcap/Dialogue" "peer" "Lcom/example/anchorline/anchorline/sccp/SccpAddress;" .null := D_153 (Or.inr (hw _ (List.mem_of_getElem? (i := 35) rfl))) (ty := (.object "com/example/anchorline/anchorline/sccp/SccpAddress")) (by decide)
      have u_165 : Fld Z h_153 b_153 "com/example/anchorline/anchorline/tcap/Dialogue" "applicationContext" "[B" .null := D_153 (Or.inr (hw _ (List.mem_of_getElem? (i := 37) rfl))) (ty := (.array .byte)) (by decide)
      have u_166 : Fld Z h_153 b_153 "com/example/anchorline/anchorline/tcap/Dialogue" "state" "Lcom/example/anchorline/anchorline/tcap/Dialogue$State;" .null := D_153 (Or.inl (hw _ (List.mem_of_getElem? (i := 39) rfl))) (ty := (.object "com/example/anchorline/anchorline/tcap/Dialogue$State")) (by decide)
      have u_167 : Fld Z h_153 b_153 "com/example/anchorline/anchorline/tcap/Dialogue" "lastInvokeId" "I" (.int (0 : Int32)) := D_153 (Or.inl (hw _ (List.mem_of_getElem? (i := 52) rfl))) (ty := .int) (by decide)
      refine Goes.step st_153 ?_
      show Goes pP eE bB _ (T_153.setTop (mkF mM 83 #[.val (.int p1), .val (.int p2), .val (.int p3), .val (.int p4), .val (.int p5), .val (.ref b_1), .val (.ref b_8), .val .null, .val (.ref b_133), .unset, .unset, .unset] [(.ref b_153)]))
      refine Goes.step (fun _ kK => XS.dup X_153.here hx rfl (hb hby at_83) rfl rfl kK) ?_
      show Goes pP eE bB _ (T_153.setTop (mkF mM 84 #[.val (.int p1), .val (.int p2), .val (.int p3), .val (.int p4), .val (.int p5), .val (.ref b_1), .val (.ref b_8), .val .null, .val (.ref b_133), .unset, .unset, .unset] [(.ref b_153), (.ref b_153)]))
      refine Goes.step (fun _ kK => XS.aload X_153.here hx rfl (hb hby at_84) rfl rfl kK) ?_
      show Goes pP eE bB _ (T_153.setTop (mkF mM 86 #[.val (.int p1), .val (.int p2), .val (.int p3), .val (.int p4), .val (.int p5), .val (.ref b_1), .val (.ref b_8), .val .null, .val (.ref b_133), .unset, .unset, .unset] [(.ref b_1), (.ref b_153), (.ref b_153)]))
      refine Goes.step (fun _ kK => XS.aload X_153.here hx rfl (hb hby at_86) rfl rfl kK) ?_
      show Goes pP eE bB _ (T_153.setTop (mkF mM 88 #[.val (.int p1), .val (.int p2), .val (.int p3), .val (.int p4), .val (.int p5), .val (.ref b_1), .val (.ref b_8), .val .null, .val (.ref b_133), .unset, .unset, .unset] [.null, (.ref b_1), (.ref b_153), (.ref b_153)]))
      refine Goes.step (fun _ kK => XS.iloadN X_153.here hx rfl (hb hby at_88) rfl kK) ?_
      show Goes pP eE bB _ (T_153.setTop (mkF mM 89 #[.val (.int p1), .val (.int p2), .val (.int p3), .val (.int p4), .val (.int p5), .val (.ref b_1), .val (.ref b_8), .val .null, .val (.ref b_133), .unset, .unset, .unset] [(.int p3), .null, (.ref b_1), (.ref b_153), (.ref b_153)]))
      refine Goes.step (fun _ kK => XS.iconst X_153.here hx rfl (hb hby at_89) kK) ?_
      show Goes pP eE bB _ (T_153.setTop (mkF mM 90 #[.val (.int p1), .val (.int p2), .val (.int p3), .val (.int p4), .val (.int p5), .val (.ref b_1), .val (.ref b_8), .val .null, .val (.ref b_133), .unset, .unset, .unset] [(.int (3 : Int32)), (.int p3), .null, (.ref b_1), (.ref b_153), (.ref b_153)]))
      refine Goes.step (fun _ kK => XS.iushr X_153.here hx rfl (hb hby at_90) rfl kK) ?_
      show Goes pP eE bB _ (T_153.setTop (mkF mM 91 #[.val (.int p1), .val (.int p2), .val (.int p3), .val (.int p4), .val (.int p5), .val (.ref b_1), .val (.ref b_8), .val .null, .val (.ref b_133), .unset, .unset, .unset] [(.int ((p3.toUInt32 >>> ((3 : Int32) &&& 31).toUInt32).toInt32)), .null, (.ref b_1), (.ref b_153), (.ref b_153)]))
      have u_168 := Nat.le_trans u_162 E_153.1
      have u_169 := u_150.keep K_152 (allS u_140 all0)
      have u_170 := u_169.ext E_153
      refine Goes.callS X_153 hx hZ hown (hw _ (List.mem_of_getElem? (i := 22) rfl)) (hw _ (List.mem_of_getElem? (i := 23) rfl)) (hw _ (List.mem_of_getElem? (i := 24) rfl)) (hw _ (List.mem_of_getElem? (i := 25) rfl)) (by decide) e_153 (rmT l Z a0 hw ((p3.toUInt32 >>> ((3 : Int32) &&& 31).toUInt32).toInt32) w0 w1 w2 w3 w4 w5 h_153 n0 u_168 Sw0 Sw1 Sw2 Sw3 Sw4 Sw5 u_170) (W := 4) (by decide) (by decide) (by decide) (by decide) (g := (mkF mM 91 #[.val (.int p1), .val (.int p2), .val (.int p3), .val (.int p4), .val (.int p5), .val (.ref b_1), .val (.ref b_8), .val .null, .val (.ref b_133), .unset, .unset, .unset] [(.int ((p3.toUInt32 >>> ((3 : Int32) &&& 31).toUInt32).toInt32)), .null, (.ref b_1), (.ref b_153), (.ref b_153)])) rfl (by rw [hml]; rfl) (rest := [.null, (.ref b_1), (.ref b_153), (.ref b_153)]) own_pd3 rfl rfl (by show 2 * 0 + _ ≤ _; exact Nat.le_of_eq rfl) (hb hby at_91) ?_
      intro v_171 T_171 L_171 X_171 hQ_171
      obtain ⟨c_171, rfl, N_171q, e_171⟩ := hQ_171
      have N_171 := Fr.app N_152 N_171q
      show Goes pP eE bB _ (T_171.setTop (mkF mM 94 #[.val (.int p1), .val (.int p2), .val (.int p3), .val (.int p4), .val (.int p5), .val (.ref b_1), .val (.ref b_8), .val .null, .val (.ref b_133), .unset, .unset, .unset] [(.ref c_171), .null, (.ref b_1), (.ref b_153), (.ref b_153)]))
      refine Goes.callI X_171 hx hZ rfl hown (hw _ (List.mem_of_getElem? (i := 30) rfl)) (hw _ (List.mem_of_getElem? (i := 31) rfl)) (hw _ (List.mem_of_getElem? (i := 32) rfl)) (hw _ (List.mem_of_getElem? (i := 21) rfl)) (by decide) e_171 (rmC0 l Z a0 hw b_153 b_1 c_171 h_153 n0 u_168 A_153 u_163 u_164 u_165 u_166 u_167) (W := 1) (by decide) (by decide) (by decide) (by decide) (g := (mkF mM 94 #[.val (.int p1), .val (.int p2), .val (.int p3), .val (.int p4), .val (.int p5), .val (.ref b_1), .val (.ref b_8), .val .null, .val (.ref b_133), .unset, .unset, .unset] [(.ref c_171), .null, (.ref b_1), (.ref b_153), (.ref b_153)])) rfl (by rw [hml]; rfl) (rest := [(.ref b_153)]) own_pd4 rfl rfl (by show 2 * 0 + _ ≤ _; exact Nat.le_of_eq rfl) (hb hby at_94) ?_
      intro v_172 T_172 L_172 X_172 hQ_172
      generalize e_172 : T_172.heap = h_172 at hQ_172
      obtain ⟨rfl, N_172q, K_172, F_172⟩ := hQ_172
      have N_172 := Fr.app N_171 N_172q
      show Goes pP eE bB _ (T_172.setTop (mkF mM 97 #[.val (.int p1), .val (.int p2), .val (.int p3), .val (.int p4), .val (.int p5), .val (.ref b_1), .val (.ref b_8), .val .null, .val (.ref b_133), .unset, .unset, .unset] [(.ref b_153)]))
      refine Goes.step (fun _ kK => XS.astore X_172.here hx rfl (hb hby at_97) rfl rfl (l' := #[.val (.int p1), .val (.int p2), .val (.int p3), .val (.int p4), .val (.int p5), .val (.ref b_1), .val (.ref b_8), .val .null, .val (.ref b_133), .val (.ref b_153), .unset, .unset]) rfl kK) ?_
      show Goes pP eE bB _ (T_172.setTop (mkF mM 99 #[.val (.int p1), .val (.int p2), .val (.int p3), .val (.int p4), .val (.int p5), .val (.ref b_1), .val (.ref b_8), .val .null, .val (.ref b_133), .val (.ref b_153), .unset, .unset] []))
      refine Goes.step (fun _ kK => XS.iconst X_172.here hx rfl (hb hby at_99) kK) ?_
      show Goes pP eE bB _ (T_172.setTop (mkF mM 100 #[.val (.int p1), .val (.int p2), .val (.int p3), .val (.int p4), .val (.int p5), .val (.ref b_1), .val (.ref b_8), .val .null, .val (.ref b_133), .val (.ref b_153), .unset, .unset] [(.int (2 : Int32))]))
      obtain ⟨T_173, h_173, k_173, X_173, e_173, E_173, A_173, M_173, st_173⟩ := newPE X_172 hx hZ (hw _ (List.mem_of_getElem? (i := 42) rfl)) e_172 (g := (mkF mM 100 #[.val (.int p1), .val (.int p2), .val (.int p3), .val (.int p4), .val (.int p5), .val (.ref b_1), .val (.ref b_8), .val .null, .val (.ref b_133), .val (.ref b_153), .unset, .unset] [(.int (2 : Int32))])) rfl (hb hby at_100) rfl (by decide) (cap := 2) (by decide) (by decide) (by decide) (by decide) (ad := "[I") rfl
      obtain ⟨b_173, g_173⟩ : ∃ z, z = h_172.size := ⟨_, rfl⟩
      rw [← g_173] at A_173 M_173 st_173
      have u_174 := Nat.lt_of_lt_of_le u_155 E_153.1
      have u_175 := Nat.lt_of_lt_of_le u_174 K_172.1
      have u_176 : b_1 < b_173 := Nat.lt_of_lt_of_le u_175 (Nat.le_of_eq g_173.symm)
      have u_177 := Nat.lt_of_lt_of_le u_158 E_153.1
      have u_178 := Nat.lt_of_lt_of_le u_177 K_172.1
      have u_179 : b_8 < b_173 := Nat.lt_of_lt_of_le u_178 (Nat.le_of_eq g_173.symm)
      have u_180 := Nat.lt_of_lt_of_le u_160 E_153.1
      have u_181 := Nat.lt_of_lt_of_le u_180 K_172.1
      have u_182 : b_133 < b_173 := Nat.lt_of_lt_of_le u_181 (Nat.le_of_eq g_173.symm)
      have u_183 := Nat.lt_of_lt_of_le (A_153).lt K_172.1
      have u_184 : b_153 < b_173 := Nat.lt_of_lt_of_le u_183 (Nat.le_of_eq g_173.symm)
      have u_185 := Nat.le_trans u_168 K_172.1
      have u_186 : n0 ≤ b_173 := Nat.le_trans u_185 (Nat.le_of_eq g_173.symm)
      have u_187 : Afn Z h_173 b_173 .int 2 (fun _ => (.int (0 : Int32))) := Afn.new (n := 2) A_173 (by decide)
      refine Goes.step st_173 ?_
      show Goes pP eE bB _ (T_173.setTop (mkF mM 102 #[.val (.int p1), .val (.int p2), .val (.int p3), .val (.int p4), .val (.int p5), .val (.ref b_1), .val (.ref b_8), .val .null, .val (.ref b_133), .val (.ref b_153), .unset, .unset] [(.ref b_173)]))
      refine Goes.step (fun _ kK => XS.astore X_173.here hx rfl (hb hby at_102) rfl rfl (l' := #[.val (.int p1), .val (.int p2), .val (.int p3), .val (.int p4), .val (.int p5), .val (.ref b_1), .val (.ref b_8), .val .null, .val (.ref b_133), .val (.ref b_153), .val (.ref b_173), .unset]) rfl kK) ?_
      show Goes pP eE bB _ (T_173.setTop (mkF mM 104 #[.val (.int p1), .val (.int p2), .val (.int p3), .val (.int p4), .val (.int p5), .val (.ref b_1), .val (.ref b_8), .val .null, .val (.ref b_133), .val (.ref b_153), .val (.ref b_173), .unset] []))
      refine Goes.step (fun _ kK => XS.iconst X_173.here hx rfl (hb hby at_104) kK) ?_
      show Goes pP eE bB _ (T_173.setTop (mkF mM 105 #[.val (.int p1), .val (.int p2), .val (.int p3), .val (.int p4), .val (.int p5), .val (.ref b_1), .val (.ref b_8), .val .null, .val (.ref b_133), .val (.ref b_153), .val (.ref b_173), .unset] [(.int (1 : Int32))]))
      refine Goes.step (fun _ kK => XS.istore X_173.here hx rfl (hb hby at_105) rfl (l' := #[.val (.int p1), .val (.int p2), .val (.int p3), .val (.int p4), .val (.int p5), .val (.ref b_1), .val (.ref b_8), .val .null, .val (.ref b_133), .val (.ref b_153), .val (.ref b_173), .val (.int (1 : Int32))]) rfl kK) ?_
      show Goes pP eE bB _ (T_173.setTop (mkF mM 107 #[.val (.int p1), .val (.int p2), .val (.int p3), .val (.int p4), .val (.int p5), .val (.ref b_1), .val (.ref b_8), .val .null, .val (.ref b_133), .val (.ref b_153), .val (.ref b_173), .val (.int (1 : Int32))] []))
      refine Goes.step (fun _ kK => XS.aload X_173.here hx rfl (hb hby at_107) rfl rfl kK) ?_
      show Goes pP eE bB _ (T_173.setTop (mkF mM 109 #[.val (.int p1), .val (.int p2), .val (.int p3), .val (.int p4), .val (.int p5), .val (.ref b_1), .val (.ref b_8), .val .null, .val (.ref b_133), .val (.ref b_153), .val (.ref b_173), .val (.int (1 : Int32))] [(.ref b_133)]))
      refine Goes.step (fun _ kK => XS.aload X_173.here hx rfl (hb hby at_109) rfl rfl kK) ?_
      show Goes pP eE bB _ (T_173.setTop (mkF mM 111 #[.val (.int p1), .val (.int p2), .val (.int p3), .val (.int p4), .val (.int p5), .val (.ref b_1), .val (.ref b_8), .val .null, .val (.ref b_133), .val (.ref b_153), .val (.ref b_173), .val (.int (1 : Int32))] [(.ref b_153), (.ref b_133)]))
      refine Goes.step (fun _ kK => XS.aload X_173.here hx rfl (hb hby at_111) rfl rfl kK) ?_
      show Goes pP eE bB _ (T_173.setTop (mkF mM 113 #[.val (.int p1), .val (.int p2), .val (.int p3), .val (.int p4), .val (.int p5), .val (.ref b_1), .val (.ref b_8), .val .null, .val (.ref b_133), .val (.ref b_153), .val (.ref b_173), .val (.int (1 : Int32))] [(.ref b_173), (.ref b_153), (.ref b_133)]))
      refine Goes.step (fun _ kK => XS.iload X_173.here hx rfl (hb hby at_113) rfl kK) ?_
      show Goes pP eE bB _ (T_173.setTop (mkF mM 115 #[.val (.int p1), .val (.int p2), .val (.int p3), .val (.int p4), .val (.int p5), .val (.ref b_1), .val (.ref b_8), .val .null, .val (.ref b_133), .val (.ref b_153), .val (.ref b_173), .val (.int (1 : Int32))] [(.int p5), (.ref b_173), (.ref b_153), (.ref b_133)]))
      refine Goes.step (fun _ kK => XS.iconst X_173.here hx rfl (hb hby at_115) kK) ?_
      show Goes pP eE bB _ (T_173.setTop (mkF mM 116 #[.val (.int p1), .val (.int p2), .val (.int p3), .val (.int p4), .val (.int p5), .val (.ref b_1), .val (.ref b_8), .val .null, .val (.ref b_133), .val (.ref b_153), .val (.ref b_173), .val (.int (1 : Int32))] [(.int (1 : Int32)), (.int p5), (.ref b_173), (.ref b_153), (.ref b_133)]))
      refine Goes.step (fun _ kK => XS.iand X_173.here hx rfl (hb hby at_116) rfl kK) ?_
      show Goes pP eE bB _ (T_173.setTop (mkF mM 117 #[.val (.int p1), .val (.int p2), .val (.int p3), .val (.int p4), .val (.int p5), .val (.ref b_1), .val (.ref b_8), .val .null, .val (.ref b_133), .val (.ref b_153), .val (.ref b_173), .val (.int (1 : Int32))] [(.int (p5 &&& (1 : Int32))), (.ref b_173), (.ref b_153), (.ref b_133)]))
      have u_188 := F_152.ext E_153
      have u_189 := u_188.keep K_172 (ninS (Nat.ne_of_lt u_161) nin0)
      have u_190 := u_189.ext E_173
      have u_191 := F_172.ext E_173
      have I0 : own_Inv Z h_173 b_133 b_153 b_173 (0 : Int32) (0 : Int32) 0 := ⟨u_190, u_191, ⟨_, u_187, rfl, rfl⟩, by decide, by decide, by decide, by decide⟩
      have u_192 := Nat.le_trans u_185 E_173.1
      have u_193 := A_133.keep K_152
      have u_194 := u_193.ext E_153
      have u_195 := u_194.keep K_172
      have u_196 := u_195.ext E_173
      have u_197 := A_153.keep K_172
      have u_198 := u_197.ext E_173
      refine Goes.callS X_173 hx hZ hown (hw _ (List.mem_of_getElem? (i := 43) rfl)) (hw _ (List.mem_of_getElem? (i := 44) rfl)) (hw _ (List.mem_of_getElem? (i := 24) rfl)) (hw _ (List.mem_of_getElem? (i := 45) rfl)) (by decide) e_173 (rmP l Z a0 hw b_133 b_153 b_173 (p5 &&& (1 : Int32)) (0 : Int32) (0 : Int32) h_173 n0 u_192 (own_bit _) (0 : Int) (by decide) u_196 u_198 u_140 u_163 u_186 (Nat.ne_of_lt u_161) (Nat.ne_of_lt u_182) (Nat.ne_of_lt u_184) I0) (W := 0) (by decide) (by decide) (by decide) (by decide) (g := (mkF mM 117 #[.val (.int p1), .val (.int p2), .val (.int p3), .val (.int p4), .val (.int p5), .val (.ref b_1), .val (.ref b_8), .val .null, .val (.ref b_133), .val (.ref b_153), .val (.ref b_173), .val (.int (1 : Int32))] [(.int (p5 &&& (1 : Int32))), (.ref b_173), (.ref b_153), (.ref b_133)])) rfl (by rw [hml]; rfl) (rest := []) own_pd5 rfl rfl (by show 2 * 0 + _ ≤ _; exact Nat.le_of_eq rfl) (hb hby at_117) ?_
      intro v_199 T_199 L_199 X_199 hQ_199
      generalize e_199 : T_199.heap = h_199 at hQ_199
      obtain ⟨rfl, N_199q, K_199, x_199, y_199, I_199⟩ := hQ_199
      have N_199 := Fr.app N_172 N_199q
      show Goes pP eE bB _ (T_199.setTop (mkF mM 120 #[.val (.int p1), .val (.int p2), .val (.int p3), .val (.int p4), .val (.int p5), .val (.ref b_1), .val (.ref b_8), .val .null, .val (.ref b_133), .val (.ref b_153), .val (.ref b_173), .val (.int (1 : Int32))] [(.int (1 : Int32))]))
      refine Goes.step (fun _ kK => XS.iload X_199.here hx rfl (hb hby at_120) rfl kK) ?_
      show Goes pP eE bB _ (T_199.setTop (mkF mM 122 #[.val (.int p1), .val (.int p2), .val (.int p3), .val (.int p4), .val (.int p5), .val (.ref b_1), .val (.ref b_8), .val .null, .val (.ref b_133), .val (.ref b_153), .val (.ref b_173), .val (.int (1 : Int32))] [(.int (1 : Int32)), (.int (1 : Int32))]))
      refine Goes.step (fun _ kK => XS.iand X_199.here hx rfl (hb hby at_122) rfl kK) ?_
      show Goes pP eE bB _ (T_199.setTop (mkF mM 123 #[.val (.int p1), .val (.int p2), .val (.int p3), .val (.int p4), .val (.int p5), .val (.ref b_1), .val (.ref b_8), .val .null, .val (.ref b_133), .val (.ref b_153), .val (.ref b_173), .val (.int (1 : Int32))] [(.int ((1 : Int32) &&& (1 : Int32)))]))
      refine Goes.step (fun _ kK => XS.istore X_199.here hx rfl (hb hby at_123) rfl (l' := #[.val (.int p1), .val (.int p2), .val (.int p3), .val (.int p4), .val (.int p5), .val (.ref b_1), .val (.ref b_8), .val .null, .val (.ref b_133), .val (.ref b_153), .val (.ref b_173), .val (.int ((1 : Int32) &&& (1 : Int32)))]) rfl kK) ?_
      show Goes pP eE bB _ (T_199.setTop (mkF mM 125 #[.val (.int p1), .val (.int p2), .val (.int p3), .val (.int p4), .val (.int p5), .val (.ref b_1), .val (.ref b_8), .val .null, .val (.ref b_133), .val (.ref b_153), .val (.ref b_173), .val (.int ((1 : Int32) &&& (1 : Int32)))] []))
      refine Goes.step (fun _ kK => XS.aload X_199.here hx rfl (hb hby at_125) rfl rfl kK) ?_
      show Goes pP eE bB _ (T_199.setTop (mkF mM 127 #[.val (.int p1), .val (.int p2), .val (.int p3), .val (.int p4), .val (.int p5), .val (.ref b_1), .val (.ref b_8), .val .null, .val (.ref b_133), .val (.ref b_153), .val (.ref b_173), .val (.int ((1 : Int32) &&& (1 : Int32)))] [(.ref b_133)]))
      refine Goes.step (fun _ kK => XS.aload X_199.here hx rfl (hb hby at_127) rfl rfl kK) ?_
      show Goes pP eE bB _ (T_199.setTop (mkF mM 129 #[.val (.int p1), .val (.int p2), .val (.int p3), .val (.int p4), .val (.int p5), .val (.ref b_1), .val (.ref b_8), .val .null, .val (.ref b_133), .val (.ref b_153), .val (.ref b_173), .val (.int ((1 : Int32) &&& (1 : Int32)))] [(.ref b_153), (.ref b_133)]))
      refine Goes.step (fun _ kK => XS.aload X_199.here hx rfl (hb hby at_129) rfl rfl kK) ?_
      show Goes pP eE bB _ (T_199.setTop (mkF mM 131 #[.val (.int p1), .val (.int p2), .val (.int p3), .val (.int p4), .val (.int p5), .val (.ref b_1), .val (.ref b_8), .val .null, .val (.ref b_133), .val (.ref b_153), .val (.ref b_173), .val (.int ((1 : Int32) &&& (1 : Int32)))] [(.ref b_173), (.ref b_153), (.ref b_133)]))
      refine Goes.step (fun _ kK => XS.iload X_199.here hx rfl (hb hby at_131) rfl kK) ?_
      show Goes pP eE bB _ (T_199.setTop (mkF mM 133 #[.val (.int p1), .val (.int p2), .val (.int p3), .val (.int p4), .val (.int p5), .val (.ref b_1), .val (.ref b_8), .val .null, .val (.ref b_133), .val (.ref b_153), .val (.ref b_173), .val (.int ((1 : Int32) &&& (1 : Int32)))] [(.int p5), (.ref b_173), (.ref b_153), (.ref b_133)]))
      refine Goes.step (fun _ kK => XS.iconst X_199.here hx rfl (hb hby at_133) kK) ?_
      show Goes pP eE bB _ (T_199.setTop (mkF mM 134 #[.val (.int p1), .val (.int p2), .val (.int p3), .val (.int p4), .val (.int p5), .val (.ref b_1), .val (.ref b_8), .val .null, .val (.ref b_133), .val (.ref b_153), .val (.ref b_173), .val (.int ((1 : Int32) &&& (1 : Int32)))] [(.int (1 : Int32)), (.int p5), (.ref b_173), (.ref b_153), (.ref b_133)]))
      refine Goes.step (fun _ kK => XS.iushr X_199.here hx rfl (hb hby at_134) rfl kK) ?_
      show Goes pP eE bB _ (T_199.setTop (mkF mM 135 #[.val (.int p1), .val (.int p2), .val (.int p3), .val (.int p4), .val (.int p5), .val (.ref b_1), .val (.ref b_8), .val .null, .val (.ref b_133), .val (.ref b_153), .val (.ref b_173), .val (.int ((1 : Int32) &&& (1 : Int32)))] [(.int ((p5.toUInt32 >>> ((1 : Int32) &&& 31).toUInt32).toInt32)), (.ref b_173), (.ref b_153), (.ref b_133)]))
      refine Goes.step (fun _ kK => XS.iconst X_199.here hx rfl (hb hby at_135) kK) ?_
      show Goes pP eE bB _ (T_199.setTop (mkF mM 136 #[.val (.int p1), .val (.int p2), .val (.int p3), .val (.int p4), .val (.int p5), .val (.ref b_1), .val (.ref b_8), .val .null, .val (.ref b_133), .val (.ref b_153), .val (.ref b_173), .val (.int ((1 : Int32) &&& (1 : Int32)))] [(.int (1 : Int32)), (.int ((p5.toUInt32 >>> ((1 : Int32) &&& 31).toUInt32).toInt32)), (.ref b_173), (.ref b_153), (.ref b_133)]))
      refine Goes.step (fun _ kK => XS.iand X_199.here hx rfl (hb hby at_136) rfl kK) ?_
      show Goes pP eE bB _ (T_199.setTop (mkF mM 137 #[.val (.int p1), .val (.int p2), .val (.int p3), .val (.int p4), .val (.int p5), .val (.ref b_1), .val (.ref b_8), .val .null, .val (.ref b_133), .val (.ref b_153), .val (.ref b_173), .val (.int ((1 : Int32) &&& (1 : Int32)))] [(.int (((p5.toUInt32 >>> ((1 : Int32) &&& 31).toUInt32).toInt32) &&& (1 : Int32))), (.ref b_173), (.ref b_153), (.ref b_133)]))
      have u_200 := Nat.le_trans u_192 K_199.1
      have u_201 := u_196.keep K_199
      have u_202 := u_198.keep K_199
      refine Goes.callS X_199 hx hZ hown (hw _ (List.mem_of_getElem? (i := 43) rfl)) (hw _ (List.mem_of_getElem? (i := 44) rfl)) (hw _ (List.mem_of_getElem? (i := 24) rfl)) (hw _ (List.mem_of_getElem? (i := 45) rfl)) (by decide) e_199 (rmP l Z a0 hw b_133 b_153 b_173 (((p5.toUInt32 >>> ((1 : Int32) &&& 31).toUInt32).toInt32) &&& (1 : Int32)) x_199 y_199 h_199 n0 u_200 (own_bit _) ((0 : Int) + 1) (by decide) u_201 u_202 u_140 u_163 u_186 (Nat.ne_of_lt u_161) (Nat.ne_of_lt u_182) (Nat.ne_of_lt u_184) I_199) (W := 0) (by decide) (by decide) (by decide) (by decide) (g := (mkF mM 137 #[.val (.int p1), .val (.int p2), .val (.int p3), .val (.int p4), .val (.int p5), .val (.ref b_1), .val (.ref b_8), .val .null, .val (.ref b_133), .val (.ref b_153), .val (.ref b_173), .val (.int ((1 : Int32) &&& (1 : Int32)))] [(.int (((p5.toUInt32 >>> ((1 : Int32) &&& 31).toUInt32).toInt32) &&& (1 : Int32))), (.ref b_173), (.ref b_153), (.ref b_133)])) rfl (by rw [hml]; rfl) (rest := []) own_pd5 rfl rfl (by show 2 * 0 + _ ≤ _; exact Nat.le_of_eq rfl) (hb hby at_137) ?_
      intro v_203 T_203 L_203 X_203 hQ_203
      generalize e_203 : T_203.heap = h_203 at hQ_203
      obtain ⟨rfl, N_203q, K_203, x_203, y_203, I_203⟩ := hQ_203
      have N_203 := Fr.app N_199 N_203q
      show Goes pP eE bB _ (T_203.setTop (mkF mM 140 #[.val (.int p1), .val (.int p2), .val (.int p3), .val (.int p4), .val (.int p5), .val (.ref b_1), .val (.ref b_8), .val .null, .val (.ref b_133), .val (.ref b_153), .val (.ref b_173), .val (.int ((1 : Int32) &&& (1 : Int32)))] [(.int (1 : Int32))]))
      refine Goes.step (fun _ kK => XS.iload X_203.here hx rfl (hb hby at_140) rfl kK) ?_
      show Goes pP eE bB _ (T_203.setTop (mkF mM 142 #[.val (.int p1), .val (.int p2), .val (.int p3), .val (.int p4), .val (.int p5), .val (.ref b_1), .val (.ref b_8), .val .null, .val (.ref b_133), .val (.ref b_153), .val (.ref b_173), .val (.int ((1 : Int32) &&& (1 : Int32)))] [(.int ((1 : Int32) &&& (1 : Int32))), (.int (1 : Int32))]))
      refine Goes.step (fun _ kK => XS.iand X_203.here hx rfl (hb hby at_142) rfl kK) ?_
      show Goes pP eE bB _ (T_203.setTop (mkF mM 143 #[.val (.int p1), .val (.int p2), .val (.int p3), .val (.int p4), .val (.int p5), .val (.ref b_1), .val (.ref b_8), .val .null, .val (.ref b_133), .val (.ref b_153), .val (.ref b_173), .val (.int ((1 : Int32) &&& (1 : Int32)))] [(.int ((1 : Int32) &&& ((1 : Int32) &&& (1 : Int32))))]))
      refine Goes.step (fun _ kK => XS.istore X_203.here hx rfl (hb hby at_143) rfl (l' := #[.val (.int p1), .val (.int p2), .val (.int p3), .val (.int p4), .val (.int p5), .val (.ref b_1), .val (.ref b_8), .val .null, .val (.ref b_133), .val (.ref b_153), .val (.ref b_173), .val (.int ((1 : Int32) &&& ((1 : Int32) &&& (1 : Int32))))]) rfl kK) ?_
      show Goes pP eE bB _ (T_203.setTop (mkF mM 145 #[.val (.int p1), .val (.int p2), .val (.int p3), .val (.int p4), .val (.int p5), .val (.ref b_1), .val (.ref b_8), .val .null, .val (.ref b_133), .val (.ref b_153), .val (.ref b_173), .val (.int ((1 : Int32) &&& ((1 : Int32) &&& (1 : Int32))))] []))
      refine Goes.step (fun _ kK => XS.aload X_203.here hx rfl (hb hby at_145) rfl rfl kK) ?_
      show Goes pP eE bB _ (T_203.setTop (mkF mM 147 #[.val (.int p1), .val (.int p2), .val (.int p3), .val (.int p4), .val (.int p5), .val (.ref b_1), .val (.ref b_8), .val .null, .val (.ref b_133), .val (.ref b_153), .val (.ref b_173), .val (.int ((1 : Int32) &&& ((1 : Int32) &&& (1 : Int32))))] [(.ref b_133)]))
      refine Goes.step (fun _ kK => XS.aload X_203.here hx rfl (hb hby at_147) rfl rfl kK) ?_
      show Goes pP eE bB _ (T_203.setTop (mkF mM 149 #[.val (.int p1), .val (.int p2), .val (.int p3), .val (.int p4), .val (.int p5), .val (.ref b_1), .val (.ref b_8), .val .null, .val (.ref b_133), .val (.ref b_153), .val (.ref b_173), .val (.int ((1 : Int32) &&& ((1 : Int32) &&& (1 : Int32))))] [(.ref b_153), (.ref b_133)]))
      refine Goes.step (fun _ kK => XS.aload X_203.here hx rfl (hb hby at_149) rfl rfl kK) ?_
      show Goes pP eE bB _ (T_203.setTop (mkF mM 151 #[.val (.int p1), .val (.int p2), .val (.int p3), .val (.int p4), .val (.int p5), .val (.ref b_1), .val (.ref b_8), .val .null, .val (.ref b_133), .val (.ref b_153), .val (.ref b_173), .val (.int ((1 : Int32) &&& ((1 : Int32) &&& (1 : Int32))))] [(.ref b_173), (.ref b_153), (.ref b_133)]))
      refine Goes.step (fun _ kK => XS.iload X_203.here hx rfl (hb hby at_151) rfl kK) ?_
      show Goes pP eE bB _ (T_203.setTop (mkF mM 153 #[.val (.int p1), .val (.int p2), .val (.int p3), .val (.int p4), .val (.int p5), .val (.ref b_1), .val (.ref b_8), .val .null, .val (.ref b_133), .val (.ref b_153), .val (.ref b_173), .val (.int ((1 : Int32) &&& ((1 : Int32) &&& (1 : Int32))))] [(.int p5), (.ref b_173), (.ref b_153), (.ref b_133)]))
      refine Goes.step (fun _ kK => XS.iconst X_203.here hx rfl (hb hby at_153) kK) ?_
      show Goes pP eE bB _ (T_203.setTop (mkF mM 154 #[.val (.int p1), .val (.int p2), .val (.int p3), .val (.int p4), .val (.int p5), .val (.ref b_1), .val (.ref b_8), .val .null, .val (.ref b_133), .val (.ref b_153), .val (.ref b_173), .val (.int ((1 : Int32) &&& ((1 : Int32) &&& (1 : Int32))))] [(.int (2 : Int32)), (.int p5), (.ref b_173), (.ref b_153), (.ref b_133)]))
      refine Goes.step (fun _ kK => XS.iushr X_203.here hx rfl (hb hby at_154) rfl kK) ?_
      show Goes pP eE bB _ (T_203.setTop (mkF mM 155 #[.val (.int p1), .val (.int p2), .val (.int p3), .val (.int p4), .val (.int p5), .val (.ref b_1), .val (.ref b_8), .val .null, .val (.ref b_133), .val (.ref b_153), .val (.ref b_173), .val (.int ((1 : Int32) &&& ((1 : Int32) &&& (1 : Int32))))] [(.int ((p5.toUInt32 >>> ((2 : Int32) &&& 31).toUInt32).toInt32)), (.ref b_173), (.ref b_153), (.ref b_133)]))
      refine Goes.step (fun _ kK => XS.iconst X_203.here hx rfl (hb hby at_155) kK) ?_
      show Goes pP eE bB _ (T_203.setTop (mkF mM 156 #[.val (.int p1), .val (.int p2), .val (.int p3), .val (.int p4), .val (.int p5), .val (.ref b_1), .val (.ref b_8), .val .null, .val (.ref b_133), .val (.ref b_153), .val (.ref b_173), .val (.int ((1 : Int32) &&& ((1 : Int32) &&& (1 : Int32))))] [(.int (1 : Int32)), (.int ((p5.toUInt32 >>> ((2 : Int32) &&& 31).toUInt32).toInt32)), (.ref b_173), (.ref b_153), (.ref b_133)]))
      refine Goes.step (fun _ kK => XS.iand X_203.here hx rfl (hb hby at_156) rfl kK) ?_
      show Goes pP eE bB _ (T_203.setTop (mkF mM 157 #[.val (.int p1), .val (.int p2), .val (.int p3), .val (.int p4), .val (.int p5), .val (.ref b_1), .val (.ref b_8), .val .null, .val (.ref b_133), .val (.ref b_153), .val (.ref b_173), .val (.int ((1 : Int32) &&& ((1 : Int32) &&& (1 : Int32))))] [(.int (((p5.toUInt32 >>> ((2 : Int32) &&& 31).toUInt32).toInt32) &&& (1 : Int32))), (.ref b_173), (.ref b_153), (.ref b_133)]))
      have u_204 := Nat.le_trans u_200 K_203.1
      have u_205 := u_201.keep K_203
      have u_206 := u_202.keep K_203
      refine Goes.callS X_203 hx hZ hown (hw _ (List.mem_of_getElem? (i := 43) rfl)) (hw _ (List.mem_of_getElem? (i := 44) rfl)) (hw _ (List.mem_of_getElem? (i := 24) rfl)) (hw _ (List.mem_of_getElem? (i := 45) rfl)) (by decide) e_203 (rmP l Z a0 hw b_133 b_153 b_173 (((p5.toUInt32 >>> ((2 : Int32) &&& 31).toUInt32).toInt32) &&& (1 : Int32)) x_203 y_203 h_203 n0 u_204 (own_bit _) ((0 : Int) + 1 + 1) (by decide) u_205 u_206 u_140 u_163 u_186 (Nat.ne_of_lt u_161) (Nat.ne_of_lt u_182) (Nat.ne_of_lt u_184) I_203) (W := 0) (by decide) (by decide) (by decide) (by decide) (g := (mkF mM 157 #[.val (.int p1), .val (.int p2), .val (.int p3), .val (.int p4), .val (.int p5), .val (.ref b_1), .val (.ref b_8), .val .null, .val (.ref b_133), .val (.ref b_153), .val (.ref b_173), .val (.int ((1 : Int32) &&& ((1 : Int32) &&& (1 : Int32))))] [(.int (((p5.toUInt32 >>> ((2 : Int32) &&& 31).toUInt32).toInt32) &&& (1 : Int32))), (.ref b_173), (.ref b_153), (.ref b_133)])) rfl (by rw [hml]; rfl) (rest := []) own_pd5 rfl rfl (by show 2 * 0 + _ ≤ _; exact Nat.le_of_eq rfl) (hb hby at_157) ?_
      intro v_207 T_207 L_207 X_207 hQ_207
      generalize e_207 : T_207.heap = h_207 at hQ_207
      obtain ⟨rfl, N_207q, K_207, x_207, y_207, I_207⟩ := hQ_207
      have N_207 := Fr.app N_203 N_207q
      show Goes pP eE bB _ (T_207.setTop (mkF mM 160 #[.val (.int p1), .val (.int p2), .val (.int p3), .val (.int p4), .val (.int p5), .val (.ref b_1), .val (.ref b_8), .val .null, .val (.ref b_133), .val (.ref b_153), .val (.ref b_173), .val (.int ((1 : Int32) &&& ((1 : Int32) &&& (1 : Int32))))] [(.int (1 : Int32))]))
      refine Goes.step (fun _ kK => XS.iload X_207.here hx rfl (hb hby at_160) rfl kK) ?_
      show Goes pP eE bB _ (T_207.setTop (mkF mM 162 #[.val (.int p1), .val (.int p2), .val (.int p3), .val (.int p4), .val (.int p5), .val (.ref b_1), .val (.ref b_8), .val .null, .val (.ref b_133), .val (.ref b_153), .val (.ref b_173), .val (.int ((1 : Int32) &&& ((1 : Int32) &&& (1 : Int32))))] [(.int ((1 : Int32) &&& ((1 : Int32) &&& (1 : Int32)))), (.int (1 : Int32))]))
      refine Goes.step (fun _ kK => XS.iand X_207.here hx rfl (hb hby at_162) rfl kK) ?_
      show Goes pP eE bB _ (T_207.setTop (mkF mM 163 #[.val (.int p1), .val (.int p2), .val (.int p3), .val (.int p4), .val (.int p5), .val (.ref b_1), .val (.ref b_8), .val .null, .val (.ref b_133), .val (.ref b_153), .val (.ref b_173), .val (.int ((1 : Int32) &&& ((1 : Int32) &&& (1 : Int32))))] [(.int ((1 : Int32) &&& ((1 : Int32) &&& ((1 : Int32) &&& (1 : Int32)))))]))
      refine Goes.step (fun _ kK => XS.istore X_207.here hx rfl (hb hby at_163) rfl (l' := #[.val (.int p1), .val (.int p2), .val (.int p3), .val (.int p4), .val (.int p5), .val (.ref b_1), .val (.ref b_8), .val .null, .val (.ref b_133), .val (.ref b_153), .val (.ref b_173), .val (.int ((1 : Int32) &&& ((1 : Int32) &&& ((1 : Int32) &&& (1 : Int32)))))]) rfl kK) ?_
      show Goes pP eE bB _ (T_207.setTop (mkF mM 165 #[.val (.int p1), .val (.int p2), .val (.int p3), .val (.int p4), .val (.int p5), .val (.ref b_1), .val (.ref b_8), .val .null, .val (.ref b_133), .val (.ref b_153), .val (.ref b_173), .val (.int ((1 : Int32) &&& ((1 : Int32) &&& ((1 : Int32) &&& (1 : Int32)))))] []))
      refine Goes.step (fun _ kK => XS.aload X_207.here hx rfl (hb hby at_165) rfl rfl kK) ?_
      show Goes pP eE bB _ (T_207.setTop (mkF mM 167 #[.val (.int p1), .val (.int p2), .val (.int p3), .val (.int p4), .val (.int p5), .val (.ref b_1), .val (.ref b_8), .val .null, .val (.ref b_133), .val (.ref b_153), .val (.ref b_173), .val (.int ((1 : Int32) &&& ((1 : Int32) &&& ((1 : Int32) &&& (1 : Int32)))))] [(.ref b_133)]))
      refine Goes.step (fun _ kK => XS.aload X_207.here hx rfl (hb hby at_167) rfl rfl kK) ?_
      show Goes pP eE bB _ (T_207.setTop (mkF mM 169 #[.val (.int p1), .val (.int p2), .val (.int p3), .val (.int p4), .val (.int p5), .val (.ref b_1), .val (.ref b_8), .val .null, .val (.ref b_133), .val (.ref b_153), .val (.ref b_173), .val (.int ((1 : Int32) &&& ((1 : Int32) &&& ((1 : Int32) &&& (1 : Int32)))))] [(.ref b_153), (.ref b_133)]))
      refine Goes.step (fun _ kK => XS.aload X_207.here hx rfl (hb hby at_169) rfl rfl kK) ?_
      show Goes pP eE bB _ (T_207.setTop (mkF mM 171 #[.val (.int p1), .val (.int p2), .val (.int p3), .val (.int p4), .val (.int p5), .val (.ref b_1), .val (.ref b_8), .val .null, .val (.ref b_133), .val (.ref b_153), .val (.ref b_173), .val (.int ((1 : Int32) &&& ((1 : Int32) &&& ((1 : Int32) &&& (1 : Int32)))))] [(.ref b_173), (.ref b_153), (.ref b_133)]))
      refine Goes.step (fun _ kK => XS.iload X_207.here hx rfl (hb hby at_171) rfl kK) ?_
      show Goes pP eE bB _ (T_207.setTop (mkF mM 173 #[.val (.int p1), .val (.int p2), .val (.int p3), .val (.int p4), .val (.int p5), .val (.ref b_1), .val (.ref b_8), .val .null, .val (.ref b_133), .val (.ref b_153), .val (.ref b_173), .val (.int ((1 : Int32) &&& ((1 : Int32) &&& ((1 : Int32) &&& (1 : Int32)))))] [(.int p5), (.ref b_173), (.ref b_153), (.ref b_133)]))
      refine Goes.step (fun _ kK => XS.iconst X_207.here hx rfl (hb hby at_173) kK) ?_
      show Goes pP eE bB _ (T_207.setTop (mkF mM 174 #[.val (.int p1), .val (.int p2), .val (.int p3), .val (.int p4), .val (.int p5), .val (.ref b_1), .val (.ref b_8), .val .null, .val (.ref b_133), .val (.ref b_153), .val (.ref b_173), .val (.int ((1 : Int32) &&& ((1 : Int32) &&& ((1 : Int32) &&& (1 : Int32)))))] [(.int (3 : Int32)), (.int p5), (.ref b_173), (.ref b_153), (.ref b_133)]))
      refine Goes.step (fun _ kK => XS.iushr X_207.here hx rfl (hb hby at_174) rfl kK) ?_
      show Goes pP eE bB _ (T_207.setTop (mkF mM 175 #[.val (.int p1), .val (.int p2), .val (.int p3), .val (.int p4), .val (.int p5), .val (.ref b_1), .val (.ref b_8), .val .null, .val (.ref b_133), .val (.ref b_153), .val (.ref b_173), .val (.int ((1 : Int32) &&& ((1 : Int32) &&& ((1 : Int32) &&& (1 : Int32)))))] [(.int ((p5.toUInt32 >>> ((3 : Int32) &&& 31).toUInt32).toInt32)), (.ref b_173), (.ref b_153), (.ref b_133)]))
      refine Goes.step (fun _ kK => XS.iconst X_207.here hx rfl (hb hby at_175) kK) ?_
      show Goes pP eE bB _ (T_207.setTop (mkF mM 176 #[.val (.int p1), .val (.int p2), .val (.int p3), .val (.int p4), .val (.int p5), .val (.ref b_1), .val (.ref b_8), .val .null, .val (.ref b_133), .val (.ref b_153), .val (.ref b_173), .val (.int ((1 : Int32) &&& ((1 : Int32) &&& ((1 : Int32) &&& (1 : Int32)))))] [(.int (1 : Int32)), (.int ((p5.toUInt32 >>> ((3 : Int32) &&& 31).toUInt32).toInt32)), (.ref b_173), (.ref b_153), (.ref b_133)]))
      refine Goes.step (fun _ kK => XS.iand X_207.here hx rfl (hb hby at_176) rfl kK) ?_
      show Goes pP eE bB _ (T_207.setTop (mkF mM 177 #[.val (.int p1), .val (.int p2), .val (.int p3), .val (.int p4), .val (.int p5), .val (.ref b_1), .val (.ref b_8), .val .null, .val (.ref b_133), .val (.ref b_153), .val (.ref b_173), .val (.int ((1 : Int32) &&& ((1 : Int32) &&& ((1 : Int32) &&& (1 : Int32)))))] [(.int (((p5.toUInt32 >>> ((3 : Int32) &&& 31).toUInt32).toInt32) &&& (1 : Int32))), (.ref b_173), (.ref b_153), (.ref b_133)]))
      have u_208 := Nat.le_trans u_204 K_207.1
      have u_209 := u_205.keep K_207
      have u_210 := u_206.keep K_207
      refine Goes.callS X_207 hx hZ hown (hw _ (List.mem_of_getElem? (i := 43) rfl)) (hw _ (List.mem_of_getElem? (i := 44) rfl)) (hw _ (List.mem_of_getElem? (i := 24) rfl)) (hw _ (List.mem_of_getElem? (i := 45) rfl)) (by decide) e_207 (rmP l Z a0 hw b_133 b_153 b_173 (((p5.toUInt32 >>> ((3 : Int32) &&& 31).toUInt32).toInt32) &&& (1 : Int32)) x_207 y_207 h_207 n0 u_208 (own_bit _) ((0 : Int) + 1 + 1 + 1) (by decide) u_209 u_210 u_140 u_163 u_186 (Nat.ne_of_lt u_161) (Nat.ne_of_lt u_182) (Nat.ne_of_lt u_184) I_207) (W := 0) (by decide) (by decide) (by decide) (by decide) (g := (mkF mM 177 #[.val (.int p1), .val (.int p2), .val (.int p3), .val (.int p4), .val (.int p5), .val (.ref b_1), .val (.ref b_8), .val .null, .val (.ref b_133), .val (.ref b_153), .val (.ref b_173), .val (.int ((1 : Int32) &&& ((1 : Int32) &&& ((1 : Int32) &&& (1 : Int32)))))] [(.int (((p5.toUInt32 >>> ((3 : Int32) &&& 31).toUInt32).toInt32) &&& (1 : Int32))), (.ref b_173), (.ref b_153), (.ref b_133)])) rfl (by rw [hml]; rfl) (rest := []) own_pd5 rfl rfl (by show 2 * 0 + _ ≤ _; exact Nat.le_of_eq rfl) (hb hby at_177) ?_
      intro v_211 T_211 L_211 X_211 hQ_211
      generalize e_211 : T_211.heap = h_211 at hQ_211
      obtain ⟨rfl, N_211q, K_211, x_211, y_211, I_211⟩ := hQ_211
      have N_211 := Fr.app N_207 N_211q
      show Goes pP eE bB _ (T_211.setTop (mkF mM 180 #[.val (.int p1), .val (.int p2), .val (.int p3), .val (.int p4), .val (.int p5), .val (.ref b_1), .val (.ref b_8), .val .null, .val (.ref b_133), .val (.ref b_153), .val (.ref b_173), .val (.int ((1 : Int32) &&& ((1 : Int32) &&& ((1 : Int32) &&& (1 : Int32)))))] [(.int (1 : Int32))]))
      refine Goes.step (fun _ kK => XS.iload X_211.here hx rfl (hb hby at_180) rfl kK) ?_
      show Goes pP eE bB _ (T_211.setTop (mkF mM 182 #[.val (.int p1), .val (.int p2), .val (.int p3), .val (.int p4), .val (.int p5), .val (.ref b_1), .val (.ref b_8), .val .null, .val (.ref b_133), .val (.ref b_153), .val (.ref b_173), .val (.int ((1 : Int32) &&& ((1 : Int32) &&& ((1 : Int32) &&& (1 : Int32)))))] [(.int ((1 : Int32) &&& ((1 : Int32) &&& ((1 : Int32) &&& (1 : Int32))))), (.int (1 : Int32))]))
      refine Goes.step (fun _ kK => XS.iand X_211.here hx rfl (hb hby at_182) rfl kK) ?_
      show Goes pP eE bB _ (T_211.setTop (mkF mM 183 #[.val (.int p1), .val (.int p2), .val (.int p3), .val (.int p4), .val (.int p5), .val (.ref b_1), .val (.ref b_8), .val .null, .val (.ref b_133), .val (.ref b_153), .val (.ref b_173), .val (.int ((1 : Int32) &&& ((1 : Int32) &&& ((1 : Int32) &&& (1 : Int32)))))] [(.int ((1 : Int32) &&& ((1 : Int32) &&& ((1 : Int32) &&& ((1 : Int32) &&& (1 : Int32))))))]))
      refine Goes.step (fun _ kK => XS.istore X_211.here hx rfl (hb hby at_183) rfl (l' := #[.val (.int p1), .val (.int p2), .val (.int p3), .val (.int p4), .val (.int p5), .val (.ref b_1), .val (.ref b_8), .val .null, .val (.ref b_133), .val (.ref b_153), .val (.ref b_173), .val (.int ((1 : Int32) &&& ((1 : Int32) &&& ((1 : Int32) &&& ((1 : Int32) &&& (1 : Int32))))))]) rfl kK) ?_
      show Goes pP eE bB _ (T_211.setTop (mkF mM 185 #[.val (.int p1), .val (.int p2), .val (.int p3), .val (.int p4), .val (.int p5), .val (.ref b_1), .val (.ref b_8), .val .null, .val (.ref b_133), .val (.ref b_153), .val (.ref b_173), .val (.int ((1 : Int32) &&& ((1 : Int32) &&& ((1 : Int32) &&& ((1 : Int32) &&& (1 : Int32))))))] []))
      refine Goes.step (fun _ kK => XS.aload X_211.here hx rfl (hb hby at_185) rfl rfl kK) ?_
      show Goes pP eE bB _ (T_211.setTop (mkF mM 187 #[.val (.int p1), .val (.int p2), .val (.int p3), .val (.int p4), .val (.int p5), .val (.ref b_1), .val (.ref b_8), .val .null, .val (.ref b_133), .val (.ref b_153), .val (.ref b_173), .val (.int ((1 : Int32) &&& ((1 : Int32) &&& ((1 : Int32) &&& ((1 : Int32) &&& (1 : Int32))))))] [(.ref b_133)]))
      refine Goes.step (fun _ kK => XS.aload X_211.here hx rfl (hb hby at_187) rfl rfl kK) ?_
      show Goes pP eE bB _ (T_211.setTop (mkF mM 189 #[.val (.int p1), .val (.int p2), .val (.int p3), .val (.int p4), .val (.int p5), .val (.ref b_1), .val (.ref b_8), .val .null, .val (.ref b_133), .val (.ref b_153), .val (.ref b_173), .val (.int ((1 : Int32) &&& ((1 : Int32) &&& ((1 : Int32) &&& ((1 : Int32) &&& (1 : Int32))))))] [(.ref b_153), (.ref b_133)]))
      refine Goes.step (fun _ kK => XS.aload X_211.here hx rfl (hb hby at_189) rfl rfl kK) ?_
      show Goes pP eE bB _ (T_211.setTop (mkF mM 191 #[.val (.int p1), .val (.int p2), .val (.int p3), .val (.int p4), .val (.int p5), .val (.ref b_1), .val (.ref b_8), .val .null, .val (.ref b_133), .val (.ref b_153), .val (.ref b_173), .val (.int ((1 : Int32) &&& ((1 : Int32) &&& ((1 : Int32) &&& ((1 : Int32) &&& (1 : Int32))))))] [(.ref b_173), (.ref b_153), (.ref b_133)]))
      refine Goes.step (fun _ kK => XS.iload X_211.here hx rfl (hb hby at_191) rfl kK) ?_
      show Goes pP eE bB _ (T_211.setTop (mkF mM 193 #[.val (.int p1), .val (.int p2), .val (.int p3), .val (.int p4), .val (.int p5), .val (.ref b_1), .val (.ref b_8), .val .null, .val (.ref b_133), .val (.ref b_153), .val (.ref b_173), .val (.int ((1 : Int32) &&& ((1 : Int32) &&& ((1 : Int32) &&& ((1 : Int32) &&& (1 : Int32))))))] [(.int p5), (.ref b_173), (.ref b_153), (.ref b_133)]))
      refine Goes.step (fun _ kK => XS.iconst X_211.here hx rfl (hb hby at_193) kK) ?_
      show Goes pP eE bB _ (T_211.setTop (mkF mM 194 #[.val (.int p1), .val (.int p2), .val (.int p3), .val (.int p4), .val (.int p5), .val (.ref b_1), .val (.ref b_8), .val .null, .val (.ref b_133), .val (.ref b_153), .val (.ref b_173), .val (.int ((1 : Int32) &&& ((1 : Int32) &&& ((1 : Int32) &&& ((1 : Int32) &&& (1 : Int32))))))] [(.int (4 : Int32)), (.int p5), (.ref b_173), (.ref b_153), (.ref b_133)]))
      refine Goes.step (fun _ kK => XS.iushr X_211.here hx rfl (hb hby at_194) rfl kK) ?_
      show Goes pP eE bB _ (T_211.setTop (mkF mM 195 #[.val (.int p1), .val (.int p2), .val (.int p3), .val (.int p4), .val (.int p5), .val (.ref b_1), .val (.ref b_8), .val .null, .val (.ref b_133), .val (.ref b_153), .val (.ref b_173), .val (.int ((1 : Int32) &&& ((1 : Int32) &&& ((1 : Int32) &&& ((1 : Int32) &&& (1 : Int32))))))] [(.int ((p5.toUInt32 >>> ((4 : Int32) &&& 31).toUInt32).toInt32)), (.ref b_173), (.ref b_153), (.ref b_133)]))
      refine Goes.step (fun _ kK => XS.iconst X_211.here hx rfl (hb hby at_195) kK) ?_
      show Goes pP eE bB _ (T_211.setTop (mkF mM 196 #[.val (.int p1), .val (.int p2), .val (.int p3), .val (.int p4), .val (.int p5), .val (.ref b_1), .val (.ref b_8), .val .null, .val (.ref b_133), .val (.ref b_153), .val (.ref b_173), .val (.int ((1 : Int32) &&& ((1 : Int32) &&& ((1 : Int32) &&& ((1 : Int32) &&& (1 : Int32))))))] [(.int (1 : Int32)), (.int ((p5.toUInt32 >>> ((4 : Int32) &&& 31).toUInt32).toInt32)), (.ref b_173), (.ref b_153), (.ref b_133)]))
      refine Goes.step (fun _ kK => XS.iand X_211.here hx rfl (hb hby at_196) rfl kK) ?_
      show Goes pP eE bB _ (T_211.setTop (mkF mM 197 #[.val (.int p1), .val (.int p2), .val (.int p3), .val (.int p4), .val (.int p5), .val (.ref b_1), .val (.ref b_8), .val .null, .val (.ref b_133), .val (.ref b_153), .val (.ref b_173), .val (.int ((1 : Int32) &&& ((1 : Int32) &&& ((1 : Int32) &&& ((1 : Int32) &&& (1 : Int32))))))] [(.int (((p5.toUInt32 >>> ((4 : Int32) &&& 31).toUInt32).toInt32) &&& (1 : Int32))), (.ref b_173), (.ref b_153), (.ref b_133)]))
      have u_212 := Nat.le_trans u_208 K_211.1
      have u_213 := u_209.keep K_211
      have u_214 := u_210.keep K_211
      refine Goes.callS X_211 hx hZ hown (hw _ (List.mem_of_getElem? (i := 43) rfl)) (hw _ (List.mem_of_getElem? (i := 44) rfl)) (hw _ (List.mem_of_getElem? (i := 24) rfl)) (hw _ (List.mem_of_getElem? (i := 45) rfl)) (by decide) e_211 (rmP l Z a0 hw b_133 b_153 b_173 (((p5.toUInt32 >>> ((4 : Int32) &&& 31).toUInt32).toInt32) &&& (1 : Int32)) x_211 y_211 h_211 n0 u_212 (own_bit _) ((0 : Int) + 1 + 1 + 1 + 1) (by decide) u_213 u_214 u_140 u_163 u_186 (Nat.ne_of_lt u_161) (Nat.ne_of_lt u_182) (Nat.ne_of_lt u_184) I_211) (W := 0) (by decide) (by decide) (by decide) (by decide) (g := (mkF mM 197 #[.val (.int p1), .val (.int p2), .val (.int p3), .val (.int p4), .val (.int p5), .val (.ref b_1), .val (.ref b_8), .val .null, .val (.ref b_133), .val (.ref b_153), .val (.ref b_173), .val (.int ((1 : Int32) &&& ((1 : Int32) &&& ((1 : Int32) &&& ((1 : Int32) &&& (1 : Int32))))))] [(.int (((p5.toUInt32 >>> ((4 : Int32) &&& 31).toUInt32).toInt32) &&& (1 : Int32))), (.ref b_173), (.ref b_153), (.ref b_133)])) rfl (by rw [hml]; rfl) (rest := []) own_pd5 rfl rfl (by show 2 * 0 + _ ≤ _; exact Nat.le_of_eq rfl) (hb hby at_197) ?_
      intro v_215 T_215 L_215 X_215 hQ_215
      generalize e_215 : T_215.heap = h_215 at hQ_215
      obtain ⟨rfl, N_215q, K_215, x_215, y_215, I_215⟩ := hQ_215
      have N_215 := Fr.app N_211 N_215q
      show Goes pP eE bB _ (T_215.setTop (mkF mM 200 #[.val (.int p1), .val (.int p2), .val (.int p3), .val (.int p4), .val (.int p5), .val (.ref b_1), .val (.ref b_8), .val .null, .val (.ref b_133), .val (.ref b_153), .val (.ref b_173), .val (.int ((1 : Int32) &&& ((1 : Int32) &&& ((1 : Int32) &&& ((1 : Int32) &&& (1 : Int32))))))] [(.int (1 : Int32))]))
      refine Goes.step (fun _ kK => XS.iload X_215.here hx rfl (hb hby at_200) rfl kK) ?_
      show Goes pP eE bB _ (T_215.setTop (mkF mM 202 #[.val (.int p1), .val (.int p2), .val (.int p3), .val (.int p4), .val (.int p5), .val (.ref b_1), .val (.ref b_8), .val .null, .val (.ref b_133), .val (.ref b_153), .val (.ref b_173), .val (.int ((1 : Int32) &&& ((1 : Int32) &&& ((1 : Int32) &&& ((1 : Int32) &&& (1 : Int32))))))] [(.int ((1 : Int32) &&& ((1 : Int32) &&& ((1 : Int32) &&& ((1 : Int32) &&& (1 : Int32)))))), (.int (1 : Int32))]))
      refine Goes.step (fun _ kK => XS.iand X_215.here hx rfl (hb hby at_202) rfl kK) ?_
      show Goes pP eE bB _ (T_215.setTop (mkF mM 203 #[.val (.int p1), .val (.int p2), .val (.int p3), .val (.int p4), .val (.int p5), .val (.ref b_1), .val (.ref b_8), .val .null, .val (.ref b_133), .val (.ref b_153), .val (.ref b_173), .val (.int ((1 : Int32) &&& ((1 : Int32) &&& ((1 : Int32) &&& ((1 : Int32) &&& (1 : Int32))))))] [(.int ((1 : Int32) &&& ((1 : Int32) &&& ((1 : Int32) &&& ((1 : Int32) &&& ((1 : Int32) &&& (1 : Int32)))))))]))
      refine Goes.step (fun _ kK => XS.istore X_215.here hx rfl (hb hby at_203) rfl (l' := #[.val (.int p1), .val (.int p2), .val (.int p3), .val (.int p4), .val (.int p5), .val (.ref b_1), .val (.ref b_8), .val .null, .val (.ref b_133), .val (.ref b_153), .val (.ref b_173), .val (.int ((1 : Int32) &&& ((1 : Int32) &&& ((1 : Int32) &&& ((1 : Int32) &&& ((1 : Int32) &&& (1 : Int32)))))))]) rfl kK) ?_
      show Goes pP eE bB _ (T_215.setTop (mkF mM 205 #[.val (.int p1), .val (.int p2), .val (.int p3), .val (.int p4), .val (.int p5), .val (.ref b_1), .val (.ref b_8), .val .null, .val (.ref b_133), .val (.ref b_153), .val (.ref b_173), .val (.int ((1 : Int32) &&& ((1 : Int32) &&& ((1 : Int32) &&& ((1 : Int32) &&& ((1 : Int32) &&& (1 : Int32)))))))] []))
      refine Goes.step (fun _ kK => XS.aload X_215.here hx rfl (hb hby at_205) rfl rfl kK) ?_
      show Goes pP eE bB _ (T_215.setTop (mkF mM 207 #[.val (.int p1), .val (.int p2), .val (.int p3), .val (.int p4), .val (.int p5), .val (.ref b_1), .val (.ref b_8), .val .null, .val (.ref b_133), .val (.ref b_153), .val (.ref b_173), .val (.int ((1 : Int32) &&& ((1 : Int32) &&& ((1 : Int32) &&& ((1 : Int32) &&& ((1 : Int32) &&& (1 : Int32)))))))] [(.ref b_133)]))
      refine Goes.step (fun _ kK => XS.aload X_215.here hx rfl (hb hby at_207) rfl rfl kK) ?_
      show Goes pP eE bB _ (T_215.setTop (mkF mM 209 #[.val (.int p1), .val (.int p2), .val (.int p3), .val (.int p4), .val (.int p5), .val (.ref b_1), .val (.ref b_8), .val .null, .val (.ref b_133), .val (.ref b_153), .val (.ref b_173), .val (.int ((1 : Int32) &&& ((1 : Int32) &&& ((1 : Int32) &&& ((1 : Int32) &&& ((1 : Int32) &&& (1 : Int32)))))))] [(.ref b_153), (.ref b_133)]))
      refine Goes.step (fun _ kK => XS.aload X_215.here hx rfl (hb hby at_209) rfl rfl kK) ?_
      show Goes pP eE bB _ (T_215.setTop (mkF mM 211 #[.val (.int p1), .val (.int p2), .val (.int p3), .val (.int p4), .val (.int p5), .val (.ref b_1), .val (.ref b_8), .val .null, .val (.ref b_133), .val (.ref b_153), .val (.ref b_173), .val (.int ((1 : Int32) &&& ((1 : Int32) &&& ((1 : Int32) &&& ((1 : Int32) &&& ((1 : Int32) &&& (1 : Int32)))))))] [(.ref b_173), (.ref b_153), (.ref b_133)]))
      refine Goes.step (fun _ kK => XS.iload X_215.here hx rfl (hb hby at_211) rfl kK) ?_
      show Goes pP eE bB _ (T_215.setTop (mkF mM 213 #[.val (.int p1), .val (.int p2), .val (.int p3), .val (.int p4), .val (.int p5), .val (.ref b_1), .val (.ref b_8), .val .null, .val (.ref b_133), .val (.ref b_153), .val (.ref b_173), .val (.int ((1 : Int32) &&& ((1 : Int32) &&& ((1 : Int32) &&& ((1 : Int32) &&& ((1 : Int32) &&& (1 : Int32)))))))] [(.int p5), (.ref b_173), (.ref b_153), (.ref b_133)]))
      refine Goes.step (fun _ kK => XS.iconst X_215.here hx rfl (hb hby at_213) kK) ?_
      show Goes pP eE bB _ (T_215.setTop (mkF mM 214 #[.val (.int p1), .val (.int p2), .val (.int p3), .val (.int p4), .val (.int p5), .val (.ref b_1), .val (.ref b_8), .val .null, .val (.ref b_133), .val (.ref b_153), .val (.ref b_173), .val (.int ((1 : Int32) &&& ((1 : Int32) &&& ((1 : Int32) &&& ((1 : Int32) &&& ((1 : Int32) &&& (1 : Int32)))))))] [(.int (5 : Int32)), (.int p5), (.ref b_173), (.ref b_153), (.ref b_133)]))
      refine Goes.step (fun _ kK => XS.iushr X_215.here hx rfl (hb hby at_214) rfl kK) ?_
      show Goes pP eE bB _ (T_215.setTop (mkF mM 215 #[.val (.int p1), .val (.int p2), .val (.int p3), .val (.int p4), .val (.int p5), .val (.ref b_1), .val (.ref b_8), .val .null, .val (.ref b_133), .val (.ref b_153), .val (.ref b_173), .val (.int ((1 : Int32) &&& ((1 : Int32) &&& ((1 : Int32) &&& ((1 : Int32) &&& ((1 : Int32) &&& (1 : Int32)))))))] [(.int ((p5.toUInt32 >>> ((5 : Int32) &&& 31).toUInt32).toInt32)), (.ref b_173), (.ref b_153), (.ref b_133)]))
      refine Goes.step (fun _ kK => XS.iconst X_215.here hx rfl (hb hby at_215) kK) ?_
      show Goes pP eE bB _ (T_215.setTop (mkF mM 216 #[.val (.int p1), .val (.int p2), .val (.int p3), .val (.int p4), .val (.int p5), .val (.ref b_1), .val (.ref b_8), .val .null, .val (.ref b_133), .val (.ref b_153), .val (.ref b_173), .val (.int ((1 : Int32) &&& ((1 : Int32) &&& ((1 : Int32) &&& ((1 : Int32) &&& ((1 : Int32) &&& (1 : Int32)))))))] [(.int (1 : Int32)), (.int ((p5.toUInt32 >>> ((5 : Int32) &&& 31).toUInt32).toInt32)), (.ref b_173), (.ref b_153), (.ref b_133)]))
      refine Goes.step (fun _ kK => XS.iand X_215.here hx rfl (hb hby at_216) rfl kK) ?_
      show Goes pP eE bB _ (T_215.setTop (mkF mM 217 #[.val (.int p1), .val (.int p2), .val (.int p3), .val (.int p4), .val (.int p5), .val (.ref b_1), .val (.ref b_8), .val .null, .val (.ref b_133), .val (.ref b_153), .val (.ref b_173), .val (.int ((1 : Int32) &&& ((1 : Int32) &&& ((1 : Int32) &&& ((1 : Int32) &&& ((1 : Int32) &&& (1 : Int32)))))))] [(.int (((p5.toUInt32 >>> ((5 : Int32) &&& 31).toUInt32).toInt32) &&& (1 : Int32))), (.ref b_173), (.ref b_153), (.ref b_133)]))
      have u_216 := Nat.le_trans u_212 K_215.1
      have u_217 := u_213.keep K_215
      have u_218 := u_214.keep K_215
      refine Goes.callS X_215 hx hZ hown (hw _ (List.mem_of_getElem? (i := 43) rfl)) (hw _ (List.mem_of_getElem? (i := 44) rfl)) (hw _ (List.mem_of_getElem? (i := 24) rfl)) (hw _ (List.mem_of_getElem? (i := 45) rfl)) (by decide) e_215 (rmP l Z a0 hw b_133 b_153 b_173 (((p5.toUInt32 >>> ((5 : Int32) &&& 31).toUInt32).toInt32) &&& (1 : Int32)) x_215 y_215 h_215 n0 u_216 (own_bit _) ((0 : Int) + 1 + 1 + 1 + 1 + 1) (by decide) u_217 u_218 u_140 u_163 u_186 (Nat.ne_of_lt u_161) (Nat.ne_of_lt u_182) (Nat.ne_of_lt u_184) I_215) (W := 0) (by decide) (by decide) (by decide) (by decide) (g := (mkF mM 217 #[.val (.int p1), .val (.int p2), .val (.int p3), .val (.int p4), .val (.int p5), .val (.ref b_1), .val (.ref b_8), .val .null, .val (.ref b_133), .val (.ref b_153), .val (.ref b_173), .val (.int ((1 : Int32) &&& ((1 : Int32) &&& ((1 : Int32) &&& ((1 : Int32) &&& ((1 : Int32) &&& (1 : Int32)))))))] [(.int (((p5.toUInt32 >>> ((5 : Int32) &&& 31).toUInt32).toInt32) &&& (1 : Int32))), (.ref b_173), (.ref b_153), (.ref b_133)])) rfl (by rw [hml]; rfl) (rest := []) own_pd5 rfl rfl (by show 2 * 0 + _ ≤ _; exact Nat.le_of_eq rfl) (hb hby at_217) ?_
      intro v_219 T_219 L_219 X_219 hQ_219
      generalize e_219 : T_219.heap = h_219 at hQ_219
      obtain ⟨rfl, N_219q, K_219, x_219, y_219, I_219⟩ := hQ_219
      have N_219 := Fr.app N_215 N_219q
      show Goes pP eE bB _ (T_219.setTop (mkF mM 220 #[.val (.int p1), .val (.int p2), .val (.int p3), .val (.int p4), .val (.int p5), .val (.ref b_1), .val (.ref b_8), .val .null, .val (.ref b_133), .val (.ref b_153), .val (.ref b_173), .val (.int ((1 : Int32) &&& ((1 : Int32) &&& ((1 : Int32) &&& ((1 : Int32) &&& ((1 : Int32) &&& (1 : Int32)))))))] [(.int (1 : Int32))]))
      refine Goes.step (fun _ kK => XS.iload X_219.here hx rfl (hb hby at_220) rfl kK) ?_
      show Goes pP eE bB _ (T_219.setTop (mkF mM 222 #[.val (.int p1), .val (.int p2), .val (.int p3), .val (.int p4), .val (.int p5), .val (.ref b_1), .val (.ref b_8), .val .null, .val (.ref b_133), .val (.ref b_153), .val (.ref b_173), .val (.int ((1 : Int32) &&& ((1 : Int32) &&& ((1 : Int32) &&& ((1 : Int32) &&& ((1 : Int32) &&& (1 : Int32)))))))] [(.int ((1 : Int32) &&& ((1 : Int32) &&& ((1 : Int32) &&& ((1 : Int32) &&& ((1 : Int32) &&& (1 : Int32))))))), (.int (1 : Int32))]))
      refine Goes.step (fun _ kK => XS.iand X_219.here hx rfl (hb hby at_222) rfl kK) ?_
      show Goes pP eE bB _ (T_219.setTop (mkF mM 223 #[.val (.int p1), .val (.int p2), .val (.int p3), .val (.int p4), .val (.int p5), .val (.ref b_1), .val (.ref b_8), .val .null, .val (.ref b_133), .val (.ref b_153), .val (.ref b_173), .val (.int ((1 : Int32) &&& ((1 : Int32) &&& ((1 : Int32) &&& ((1 : Int32) &&& ((1 : Int32) &&& (1 : Int32)))))))] [(.int ((1 : Int32) &&& ((1 : Int32) &&& ((1 : Int32) &&& ((1 : Int32) &&& ((1 : Int32) &&& ((1 : Int32) &&& (1 : Int32))))))))]))
      refine Goes.step (fun _ kK => XS.istore X_219.here hx rfl (hb hby at_223) rfl (l' := #[.val (.int p1), .val (.int p2), .val (.int p3), .val (.int p4), .val (.int p5), .val (.ref b_1), .val (.ref b_8), .val .null, .val (.ref b_133), .val (.ref b_153), .val (.ref b_173), .val (.int ((1 : Int32) &&& ((1 : Int32) &&& ((1 : Int32) &&& ((1 : Int32) &&& ((1 : Int32) &&& ((1 : Int32) &&& (1 : Int32))))))))]) rfl kK) ?_
      show Goes pP eE bB _ (T_219.setTop (mkF mM 225 #[.val (.int p1), .val (.int p2), .val (.int p3), .val (.int p4), .val (.int p5), .val (.ref b_1), .val (.ref b_8), .val .null, .val (.ref b_133), .val (.ref b_153), .val (.ref b_173), .val (.int ((1 : Int32) &&& ((1 : Int32) &&& ((1 : Int32) &&& ((1 : Int32) &&& ((1 : Int32) &&& ((1 : Int32) &&& (1 : Int32))))))))] []))
      refine Goes.step (fun _ kK => XS.aload X_219.here hx rfl (hb hby at_225) rfl rfl kK) ?_
      show Goes pP eE bB _ (T_219.setTop (mkF mM 227 #[.val (.int p1), .val (.int p2), .val (.int p3), .val (.int p4), .val (.int p5), .val (.ref b_1), .val (.ref b_8), .val .null, .val (.ref b_133), .val (.ref b_153), .val (.ref b_173), .val (.int ((1 : Int32) &&& ((1 : Int32) &&& ((1 : Int32) &&& ((1 : Int32) &&& ((1 : Int32) &&& ((1 : Int32) &&& (1 : Int32))))))))] [(.ref b_133)]))
      refine Goes.step (fun _ kK => XS.aload X_219.here hx rfl (hb hby at_227) rfl rfl kK) ?_
      show Goes pP eE bB _ (T_219.setTop (mkF mM 229 #[.val (.int p1), .val (.int p2), .val (.int p3), .val (.int p4), .val (.int p5), .val (.ref b_1), .val (.ref b_8), .val .null, .val (.ref b_133), .val (.ref b_153), .val (.ref b_173), .val (.int ((1 : Int32) &&& ((1 : Int32) &&& ((1 : Int32) &&& ((1 : Int32) &&& ((1 : Int32) &&& ((1 : Int32) &&& (1 : Int32))))))))] [(.ref b_153), (.ref b_133)]))
      refine Goes.step (fun _ kK => XS.aload X_219.here hx rfl (hb hby at_229) rfl rfl kK) ?_
      show Goes pP eE bB _ (T_219.setTop (mkF mM 231 #[.val (.int p1), .val (.int p2), .val (.int p3), .val (.int p4), .val (.int p5), .val (.ref b_1), .val (.ref b_8), .val .null, .val (.ref b_133), .val (.ref b_153), .val (.ref b_173), .val (.int ((1 : Int32) &&& ((1 : Int32) &&& ((1 : Int32) &&& ((1 : Int32) &&& ((1 : Int32) &&& ((1 : Int32) &&& (1 : Int32))))))))] [(.ref b_173), (.ref b_153), (.ref b_133)]))
      refine Goes.step (fun _ kK => XS.iload X_219.here hx rfl (hb hby at_231) rfl kK) ?_
      show Goes pP eE bB _ (T_219.setTop (mkF mM 233 #[.val (.int p1), .val (.int p2), .val (.int p3), .val (.int p4), .val (.int p5), .val (.ref b_1), .val (.ref b_8), .val .null, .val (.ref b_133), .val (.ref b_153), .val (.ref b_173), .val (.int ((1 : Int32) &&& ((1 : Int32) &&& ((1 : Int32) &&& ((1 : Int32) &&& ((1 : Int32) &&& ((1 : Int32) &&& (1 : Int32))))))))] [(.int p5), (.ref b_173), (.ref b_153), (.ref b_133)]))
      refine Goes.step (fun _ kK => XS.bipush X_219.here hx rfl (hb hby at_233) kK) ?_
      show Goes pP eE bB _ (T_219.setTop (mkF mM 235 #[.val (.int p1), .val (.int p2), .val (.int p3), .val (.int p4), .val (.int p5), .val (.ref b_1), .val (.ref b_8), .val .null, .val (.ref b_133), .val (.ref b_153), .val (.ref b_173), .val (.int ((1 : Int32) &&& ((1 : Int32) &&& ((1 : Int32) &&& ((1 : Int32) &&& ((1 : Int32) &&& ((1 : Int32) &&& (1 : Int32))))))))] [(.int (6 : Int32)), (.int p5), (.ref b_173), (.ref b_153), (.ref b_133)]))
      refine Goes.step (fun _ kK => XS.iushr X_219.here hx rfl (hb hby at_235) rfl kK) ?_
      show Goes pP eE bB _ (T_219.setTop (mkF mM 236 #[.val (.int p1), .val (.int p2), .val (.int p3), .val (.int p4), .val (.int p5), .val (.ref b_1), .val (.ref b_8), .val .null, .val (.ref b_133), .val (.ref b_153), .val (.ref b_173), .val (.int ((1 : Int32) &&& ((1 : Int32) &&& ((1 : Int32) &&& ((1 : Int32) &&& ((1 : Int32) &&& ((1 : Int32) &&& (1 : Int32))))))))] [(.int ((p5.toUInt32 >>> ((6 : Int32) &&& 31).toUInt32).toInt32)), (.ref b_173), (.ref b_153), (.ref b_133)]))
      refine Goes.step (fun _ kK => XS.iconst X_219.here hx rfl (hb hby at_236) kK) ?_
      show Goes pP eE bB _ (T_219.setTop (mkF mM 237 #[.val (.int p1), .val (.int p2), .val (.int p3), .val (.int p4), .val (.int p5), .val (.ref b_1), .val (.ref b_8), .val .null, .val (.ref b_133), .val (.ref b_153), .val (.ref b_173), .val (.int ((1 : Int32) &&& ((1 : Int32) &&& ((1 : Int32) &&& ((1 : Int32) &&& ((1 : Int32) &&& ((1 : Int32) &&& (1 : Int32))))))))] [(.int (1 : Int32)), (.int ((p5.toUInt32 >>> ((6 : Int32) &&& 31).toUInt32).toInt32)), (.ref b_173), (.ref b_153), (.ref b_133)]))
      refine Goes.step (fun _ kK => XS.iand X_219.here hx rfl (hb hby at_237) rfl kK) ?_
      show Goes pP eE bB _ (T_219.setTop (mkF mM 238 #[.val (.int p1), .val (.int p2), .val (.int p3), .val (.int p4), .val (.int p5), .val (.ref b_1), .val (.ref b_8), .val .null, .val (.ref b_133), .val (.ref b_153), .val (.ref b_173), .val (.int ((1 : Int32) &&& ((1 : Int32) &&& ((1 : Int32) &&& ((1 : Int32) &&& ((1 : Int32) &&& ((1 : Int32) &&& (1 : Int32))))))))] [(.int (((p5.toUInt32 >>> ((6 : Int32) &&& 31).toUInt32).toInt32) &&& (1 : Int32))), (.ref b_173), (.ref b_153), (.ref b_133)]))
      have u_220 := Nat.le_trans u_216 K_219.1
      have u_221 := u_217.keep K_219
      have u_222 := u_218.keep K_219
      refine Goes.callS X_219 hx hZ hown (hw _ (List.mem_of_getElem? (i := 43) rfl)) (hw _ (List.mem_of_getElem? (i := 44) rfl)) (hw _ (List.mem_of_getElem? (i := 24) rfl)) (hw _ (List.mem_of_getElem? (i := 45) rfl)) (by decide) e_219 (rmP l Z a0 hw b_133 b_153 b_173 (((p5.toUInt32 >>> ((6 : Int32) &&& 31).toUInt32).toInt32) &&& (1 : Int32)) x_219 y_219 h_219 n0 u_220 (own_bit _) ((0 : Int) + 1 + 1 + 1 + 1 + 1 + 1) (by decide) u_221 u_222 u_140 u_163 u_186 (Nat.ne_of_lt u_161) (Nat.ne_of_lt u_182) (Nat.ne_of_lt u_184) I_219) (W := 0) (by decide) (by decide) (by decide) (by decide) (g := (mkF mM 238 #[.val (.int p1), .val (.int p2), .val (.int p3), .val (.int p4), .val (.int p5), .val (.ref b_1), .val (.ref b_8), .val .null, .val (.ref b_133), .val (.ref b_153), .val (.ref b_173), .val (.int ((1 : Int32) &&& ((1 : Int32) &&& ((1 : Int32) &&& ((1 : Int32) &&& ((1 : Int32) &&& ((1 : Int32) &&& (1 : Int32))))))))] [(.int (((p5.toUInt32 >>> ((6 : Int32) &&& 31).toUInt32).toInt32) &&& (1 : Int32))), (.ref b_173), (.ref b_153), (.ref b_133)])) rfl (by rw [hml]; rfl) (rest := []) own_pd5 rfl rfl (by show 2 * 0 + _ ≤ _; exact Nat.le_of_eq rfl) (hb hby at_238) ?_
      intro v_223 T_223 L_223 X_223 hQ_223
      generalize e_223 : T_223.heap = h_223 at hQ_223
      obtain ⟨rfl, N_223q, K_223, x_223, y_223, I_223⟩ := hQ_223
      have N_223 := Fr.app N_219 N_223q
      show Goes pP eE bB _ (T_223.setTop (mkF mM 241 #[.val (.int p1), .val (.int p2), .val (.int p3), .val (.int p4), .val (.int p5), .val (.ref b_1), .val (.ref b_8), .val .null, .val (.ref b_133), .val (.ref b_153), .val (.ref b_173), .val (.int ((1 : Int32) &&& ((1 : Int32) &&& ((1 : Int32) &&& ((1 : Int32) &&& ((1 : Int32) &&& ((1 : Int32) &&& (1 : Int32))))))))] [(.int (1 : Int32))]))
      refine Goes.step (fun _ kK => XS.iload X_223.here hx rfl (hb hby at_241) rfl kK) ?_
      show Goes pP eE bB _ (T_223.setTop (mkF mM 243 #[.val (.int p1), .val (.int p2), .val (.int p3), .val (.int p4), .val (.int p5), .val (.ref b_1), .val (.ref b_8), .val .null, .val (.ref b_133), .val (.ref b_153), .val (.ref b_173), .val (.int ((1 : Int32) &&& ((1 : Int32) &&& ((1 : Int32) &&& ((1 : Int32) &&& ((1 : Int32) &&& ((1 : Int32) &&& (1 : Int32))))))))] [(.int ((1 : Int32) &&& ((1 : Int32) &&& ((1 : Int32) &&& ((1 : Int32) &&& ((1 : Int32) &&& ((1 : Int32) &&& (1 : Int32)))))))), (.int (1 : Int32))]))
      refine Goes.step (fun _ kK => XS.iand X_223.here hx rfl (hb hby at_243) rfl kK) ?_
      show Goes pP eE bB _ (T_223.setTop (mkF mM 244 #[.val (.int p1), .val (.int p2), .val (.int p3), .val (.int p4), .val (.int p5), .val (.ref b_1), .val (.ref b_8), .val .null, .val (.ref b_133), .val (.ref b_153), .val (.ref b_173), .val (.int ((1 : Int32) &&& ((1 : Int32) &&& ((1 : Int32) &&& ((1 : Int32) &&& ((1 : Int32) &&& ((1 : Int32) &&& (1 : Int32))))))))] [(.int ((1 : Int32) &&& ((1 : Int32) &&& ((1 : Int32) &&& ((1 : Int32) &&& ((1 : Int32) &&& ((1 : Int32) &&& ((1 : Int32) &&& (1 : Int32)))))))))]))
      refine Goes.step (fun _ kK => XS.istore X_223.here hx rfl (hb hby at_244) rfl (l' := #[.val (.int p1), .val (.int p2), .val (.int p3), .val (.int p4), .val (.int p5), .val (.ref b_1), .val (.ref b_8), .val .null, .val (.ref b_133), .val (.ref b_153), .val (.ref b_173), .val (.int ((1 : Int32) &&& ((1 : Int32) &&& ((1 : Int32) &&& ((1 : Int32) &&& ((1 : Int32) &&& ((1 : Int32) &&& ((1 : Int32) &&& (1 : Int32)))))))))]) rfl kK) ?_
      show Goes pP eE bB _ (T_223.setTop (mkF mM 246 #[.val (.int p1), .val (.int p2), .val (.int p3), .val (.int p4), .val (.int p5), .val (.ref b_1), .val (.ref b_8), .val .null, .val (.ref b_133), .val (.ref b_153), .val (.ref b_173), .val (.int ((1 : Int32) &&& ((1 : Int32) &&& ((1 : Int32) &&& ((1 : Int32) &&& ((1 : Int32) &&& ((1 : Int32) &&& ((1 : Int32) &&& (1 : Int32)))))))))] []))
      refine Goes.step (fun _ kK => XS.iload X_223.here hx rfl (hb hby at_246) rfl kK) ?_
      show Goes pP eE bB _ (T_223.setTop (mkF mM 248 #[.val (.int p1), .val (.int p2), .val (.int p3), .val (.int p4), .val (.int p5), .val (.ref b_1), .val (.ref b_8), .val .null, .val (.ref b_133), .val (.ref b_153), .val (.ref b_173), .val (.int ((1 : Int32) &&& ((1 : Int32) &&& ((1 : Int32) &&& ((1 : Int32) &&& ((1 : Int32) &&& ((1 : Int32) &&& ((1 : Int32) &&& (1 : Int32)))))))))] [(.int ((1 : Int32) &&& ((1 : Int32) &&& ((1 : Int32) &&& ((1 : Int32) &&& ((1 : Int32) &&& ((1 : Int32) &&& ((1 : Int32) &&& (1 : Int32)))))))))]))
      refine Goes.retN X_223 hx hlk (t := .boolean) hret (by simp) (hb hby at_248) (by decide) (by decide) ?_
      exact ⟨rfl, N_223⟩
  · refine Goes.step (fun _ kK => XS.ifNo X_6.here hx rfl (hb hby at_14) rfl ((if0 _ _).trans (feq hc_7).1) kK) ?_
    show Goes pP eE bB _ (T_6.setTop (mkF mM 17 #[.val (.int p1), .val (.int p2), .val (.int p3), .val (.int p4), .val (.int p5), .val (.ref b_1), .unset, .unset, .unset, .unset, .unset, .unset] []))
    refine Goes.step (fun _ kK => XS.aconstNull X_6.here hx rfl (hb hby at_17) kK) ?_
    show Goes pP eE bB _ (T_6.setTop (mkF mM 18 #[.val (.int p1), .val (.int p2), .val (.int p3), .val (.int p4), .val (.int p5), .val (.ref b_1), .unset, .unset, .unset, .unset, .unset, .unset] [.null]))
    refine Goes.step (fun _ kK => XS.goto X_6.here hx rfl (pc0 := 18) (pc' := 31) rfl (hb hby at_18) (by decide) (by decide) kK) ?_
    show Goes pP eE bB _ (T_6.setTop (mkF mM 31 #[.val (.int p1), .val (.int p2), .val (.int p3), .val (.int p4), .val (.int p5), .val (.ref b_1), .unset, .unset, .unset, .unset, .unset, .unset] [.null]))
    refine Goes.step (fun _ kK => XS.astore X_6.here hx rfl (hb hby at_31) rfl rfl (l' := #[.val (.int p1), .val (.int p2), .val (.int p3), .val (.int p4), .val (.int p5), .val (.ref b_1), .val .null, .unset, .unset, .unset, .unset, .unset]) rfl kK) ?_
    show Goes pP eE bB _ (T_6.setTop (mkF mM 33 #[.val (.int p1), .val (.int p2), .val (.int p3), .val (.int p4), .val (.int p5), .val (.ref b_1), .val .null, .unset, .unset, .unset, .unset, .unset] []))
    refine Goes.step (fun _ kK => XS.iloadN X_6.here hx rfl (hb hby at_33) rfl kK) ?_
    show Goes pP eE bB _ (T_6.setTop (mkF mM 34 #[.val (.int p1), .val (.int p2), .val (.int p3), .val (.int p4), .val (.int p5), .val (.ref b_1), .val .null, .unset, .unset, .unset, .unset, .unset] [(.int p4)]))
    refine Goes.step (fun _ kK => XS.iconst X_6.here hx rfl (hb hby at_34) kK) ?_
    show Goes pP eE bB _ (T_6.setTop (mkF mM 35 #[.val (.int p1), .val (.int p2), .val (.int p3), .val (.int p4), .val (.int p5), .val (.ref b_1), .val .null, .unset, .unset, .unset, .unset, .unset] [(.int (2 : Int32)), (.int p4)]))
    refine Goes.step (fun _ kK => XS.iand X_6.here hx rfl (hb hby at_35) rfl kK) ?_
    show Goes pP eE bB _ (T_6.setTop (mkF mM 36 #[.val (.int p1), .val (.int p2), .val (.int p3), .val (.int p4), .val (.int p5), .val (.ref b_1), .val .null, .unset, .unset, .unset, .unset, .unset] [(.int (p4 &&& (2 : Int32)))]))
    by_cases hc_224 : (p4 &&& (2 : Int32)) = (0 : Int32)
    · refine Goes.step (fun _ kK => XS.ifYes X_6.here hx rfl (pc0 := 36) (pc' := 43) rfl (hb hby at_36) rfl ((if0 _ _).trans (teq hc_224).1) (by decide) (by decide) kK) ?_
      show Goes pP eE bB _ (T_6.setTop (mkF mM 43 #[.val (.int p1), .val (.int p2), .val (.int p3), .val (.int p4), .val (.int p5), .val (.ref b_1), .val .null, .unset, .unset, .unset, .unset, .unset] []))
      refine Goes.step (fun _ kK => XS.iconst X_6.here hx rfl (hb hby at_43) kK) ?_
      show Goes pP eE bB _ (T_6.setTop (mkF mM 44 #[.val (.int p1), .val (.int p2), .val (.int p3), .val (.int p4), .val (.int p5), .val (.ref b_1), .val .null, .unset, .unset, .unset, .unset, .unset] [(.int (2 : Int32))]))
      obtain ⟨T_225, h_225, k_225, X_225, e_225, E_225, A_225, M_225, st_225⟩ := newPE X_6 hx hZ (hw _ (List.mem_of_getElem? (i := 18) rfl)) e_6 (g := (mkF mM 44 #[.val (.int p1), .val (.int p2), .val (.int p3), .val (.int p4), .val (.int p5), .val (.ref b_1), .val .null, .unset, .unset, .unset, .unset, .unset] [(.int (2 : Int32))])) rfl (hb hby at_44) rfl (by decide) (cap := 2) (by decide) (by decide) (by decide) (by decide) (ad := "[B") rfl
      obtain ⟨b_225, g_225⟩ : ∃ z, z = h_6.size := ⟨_, rfl⟩
      rw [← g_225] at A_225 M_225 st_225
      have u_226 := Nat.lt_of_lt_of_le (A_1).lt K_6.1
      have u_227 : b_1 < b_225 := Nat.lt_of_lt_of_le u_226 (Nat.le_of_eq g_225.symm)
      have u_228 := Nat.le_trans u_5 K_6.1
      have u_229 : n0 ≤ b_225 := Nat.le_trans u_228 (Nat.le_of_eq g_225.symm)
      have u_230 : Afn Z h_225 b_225 .byte 2 (fun _ => (.int (0 : Int32))) := Afn.new (n := 2) A_225 (by decide)
      refine Goes.step st_225 ?_
      show Goes pP eE bB _ (T_225.setTop (mkF mM 46 #[.val (.int p1), .val (.int p2), .val (.int p3), .val (.int p4), .val (.int p5), .val (.ref b_1), .val .null, .unset, .unset, .unset, .unset, .unset] [(.ref b_225)]))
      refine Goes.step (fun _ kK => XS.dup X_225.here hx rfl (hb hby at_46) rfl rfl kK) ?_
      show Goes pP eE bB _ (T_225.setTop (mkF mM 47 #[.val (.int p1), .val (.int p2), .val (.int p3), .val (.int p4), .val (.int p5), .val (.ref b_1), .val .null, .unset, .unset, .unset, .unset, .unset] [(.ref b_225), (.ref b_225)]))
      refine Goes.step (fun _ kK => XS.iconst X_225.here hx rfl (hb hby at_47) kK) ?_
      show Goes pP eE bB _ (T_225.setTop (mkF mM 48 #[.val (.int p1), .val (.int p2), .val (.int p3), .val (.int p4), .val (.int p5), .val (.ref b_1), .val .null, .unset, .unset, .unset, .unset, .unset] [(.int (0 : Int32)), (.ref b_225), (.ref b_225)]))
      refine Goes.step (fun _ kK => XS.iloadN X_225.here hx rfl (hb hby at_48) rfl kK) ?_
      show Goes pP eE bB _ (T_225.setTop (mkF mM 49 #[.val (.int p1), .val (.int p2), .val (.int p3), .val (.int p4), .val (.int p5), .val (.ref b_1), .val .null, .unset, .unset, .unset, .unset, .unset] [(.int p4), (.int (0 : Int32)), (.ref b_225), (.ref b_225)]))
      refine Goes.step (fun _ kK => XS.iconst X_225.here hx rfl (hb hby at_49) kK) ?_
      show Goes pP eE bB _ (T_225.setTop (mkF mM 50 #[.val (.int p1), .val (.int p2), .val (.int p3), .val (.int p4), .val (.int p5), .val (.ref b_1), .val .null, .unset, .unset, .unset, .unset, .unset] [(.int (2 : Int32)), (.int p4), (.int (0 : Int32)), (.ref b_225), (.ref b_225)]))
      refine Goes.step (fun _ kK => XS.ishr X_225.here hx rfl (hb hby at_50) rfl kK) ?_
      show Goes pP eE bB _ (T_225.setTop (mkF mM 51 #[.val (.int p1), .val (.int p2), .val (.int p3), .val (.int p4), .val (.int p5), .val (.ref b_1), .val .null, .unset, .unset, .unset, .unset, .unset] [(.int (p4 >>> ((2 : Int32) &&& 31))), (.int (0 : Int32)), (.ref b_225), (.ref b_225)]))
      refine Goes.step (fun _ kK => XS.i2b X_225.here hx rfl (hb hby at_51) rfl kK) ?_
      show Goes pP eE bB _ (T_225.setTop (mkF mM 52 #[.val (.int p1), .val (.int p2), .val (.int p3), .val (.int p4), .val (.int p5), .val (.ref b_1), .val .null, .unset, .unset, .unset, .unset, .unset] [(.int ((p4 >>> ((2 : Int32) &&& 31)).toInt8.toInt32)), (.int (0 : Int32)), (.ref b_225), (.ref b_225)]))
      refine Goes.bastore X_225 hx hZ e_225 u_230 (i := 0) (by decide) (by decide) (g := (mkF mM 52 #[.val (.int p1), .val (.int p2), .val (.int p3), .val (.int p4), .val (.int p5), .val (.ref b_1), .val .null, .unset, .unset, .unset, .unset, .unset] [(.int ((p4 >>> ((2 : Int32) &&& 31)).toInt8.toInt32)), (.int (0 : Int32)), (.ref b_225), (.ref b_225)])) rfl rfl (hb hby at_52) ?_
      intro T_231 h_231 X_231 e_231 W_231 A_231
      have N_231 := Fr.snoc X_231 N_6 u_229
      show Goes pP eE bB _ (T_231.setTop (mkF mM 53 #[.val (.int p1), .val (.int p2), .val (.int p3), .val (.int p4), .val (.int p5), .val (.ref b_1), .val .null, .unset, .unset, .unset, .unset, .unset] [(.ref b_225)]))
      refine Goes.step (fun _ kK => XS.dup X_231.here hx rfl (hb hby at_53) rfl rfl kK) ?_
      show Goes pP eE bB _ (T_231.setTop (mkF mM 54 #[.val (.int p1), .val (.int p2), .val (.int p3), .val (.int p4), .val (.int p5), .val (.ref b_1), .val .null, .unset, .unset, .unset, .unset, .unset] [(.ref b_225), (.ref b_225)]))
      refine Goes.step (fun _ kK => XS.iconst X_231.here hx rfl (hb hby at_54) kK) ?_
      show Goes pP eE bB _ (T_231.setTop (mkF mM 55 #[.val (.int p1), .val (.int p2), .val (.int p3), .val (.int p4), .val (.int p5), .val (.ref b_1), .val .null, .unset, .unset, .unset, .unset, .unset] [(.int (1 : Int32)), (.ref b_225), (.ref b_225)]))
      refine Goes.step (fun _ kK => XS.iloadN X_231.here hx rfl (hb hby at_55) rfl kK) ?_
      show Goes pP eE bB _ (T_231.setTop (mkF mM 56 #[.val (.int p1), .val (.int p2), .val (.int p3), .val (.int p4), .val (.int p5), .val (.ref b_1), .val .null, .unset, .unset, .unset, .unset, .unset] [(.int p4), (.int (1 : Int32)), (.ref b_225), (.ref b_225)]))
      refine Goes.step (fun _ kK => XS.bipush X_231.here hx rfl (hb hby at_56) kK) ?_
      show Goes pP eE bB _ (T_231.setTop (mkF mM 58 #[.val (.int p1), .val (.int p2), .val (.int p3), .val (.int p4), .val (.int p5), .val (.ref b_1), .val .null, .unset, .unset, .unset, .unset, .unset] [(.int (10 : Int32)), (.int p4), (.int (1 : Int32)), (.ref b_225), (.ref b_225)]))
      refine Goes.step (fun _ kK => XS.ishr X_231.here hx rfl (hb hby at_58) rfl kK) ?_
      show Goes pP eE bB _ (T_231.setTop (mkF mM 59 #[.val (.int p1), .val (.int p2), .val (.int p3), .val (.int p4), .val (.int p5), .val (.ref b_1), .val .null, .unset, .unset, .unset, .unset, .unset] [(.int (p4 >>> ((10 : Int32) &&& 31))), (.int (1 : Int32)), (.ref b_225), (.ref b_225)]))
      refine Goes.step (fun _ kK => XS.i2b X_231.here hx rfl (hb hby at_59) rfl kK) ?_
      show Goes pP eE bB _ (T_231.setTop (mkF mM 60 #[.val (.int p1), .val (.int p2), .val (.int p3), .val (.int p4), .val (.int p5), .val (.ref b_1), .val .null, .unset, .unset, .unset, .unset, .unset] [(.int ((p4 >>> ((10 : Int32) &&& 31)).toInt8.toInt32)), (.int (1 : Int32)), (.ref b_225), (.ref b_225)]))
      refine Goes.bastore X_231 hx hZ e_231 A_231 (i := 1) (by decide) (by decide) (g := (mkF mM 60 #[.val (.int p1), .val (.int p2), .val (.int p3), .val (.int p4), .val (.int p5), .val (.ref b_1), .val .null, .unset, .unset, .unset, .unset, .unset] [(.int ((p4 >>> ((10 : Int32) &&& 31)).toInt8.toInt32)), (.int (1 : Int32)), (.ref b_225), (.ref b_225)])) rfl rfl (hb hby at_60) ?_
      intro T_232 h_232 X_232 e_232 W_232 A_232
      have N_232 := Fr.snoc X_232 N_231 u_229
      show Goes pP eE bB _ (T_232.setTop (mkF mM 61 #[.val (.int p1), .val (.int p2), .val (.int p3), .val (.int p4), .val (.int p5), .val (.ref b_1), .val .null, .unset, .unset, .unset, .unset, .unset] [(.ref b_225)]))
      refine Goes.step (fun _ kK => XS.astore X_232.here hx rfl (hb hby at_61) rfl rfl (l' := #[.val (.int p1), .val (.int p2), .val (.int p3), .val (.int p4), .val (.int p5), .val (.ref b_1), .val .null, .val (.ref b_225), .unset, .unset, .unset, .unset]) rfl kK) ?_
      show Goes pP eE bB _ (T_232.setTop (mkF mM 63 #[.val (.int p1), .val (.int p2), .val (.int p3), .val (.int p4), .val (.int p5), .val (.ref b_1), .val .null, .val (.ref b_225), .unset, .unset, .unset, .unset] []))
      obtain ⟨T_233, h_233, X_233, e_233, E_233, A_233, D_233, -, st_233⟩ := newO X_232 hx hZ hown (hw _ (List.mem_of_getElem? (i := 19) rfl)) (hw _ (List.mem_of_getElem? (i := 20) rfl)) (hw _ (List.mem_of_getElem? (i := 21) rfl)) e_232 (g := (mkF mM 63 #[.val (.int p1), .val (.int p2), .val (.int p3), .val (.int p4), .val (.int p5), .val (.ref b_1), .val .null, .val (.ref b_225), .unset, .unset, .unset, .unset] [])) rfl (hb hby at_63) (by decide) (by decide)
      obtain ⟨b_233, g_233⟩ : ∃ z, z = h_232.size := ⟨_, rfl⟩
      rw [← g_233] at A_233 D_233 st_233
      have u_234 := Nat.lt_of_lt_of_le u_226 E_225.1
      have u_235 := Nat.lt_of_lt_of_le u_234 (Keep.of_wr W_231).1
      have u_236 := Nat.lt_of_lt_of_le u_235 (Keep.of_wr W_232).1
      have u_237 : b_1 < b_233 := Nat.lt_of_lt_of_le u_236 (Nat.le_of_eq g_233.symm)
      have u_238 : b_225 < b_233 := Nat.lt_of_lt_of_le (A_232).lt (Nat.le_of_eq g_233.symm)
      have u_239 := Nat.le_trans u_228 E_225.1
      have u_240 := Nat.le_trans u_239 (Keep.of_wr W_231).1
      have u_241 := Nat.le_trans u_240 (Keep.of_wr W_232).1
      have u_242 : n0 ≤ b_233 := Nat.le_trans u_241 (Nat.le_of_eq g_233.symm)
      have u_243 : Fld Z h_233 b_233 "com/example/anchorline/anchorline/tcap/Dialogue" "peer" "Lcom/example/anchorline/anchorline/sccp/SccpAddress;" .null := D_233 (Or.inr (hw _ (List.mem_of_getElem? (i := 35) rfl))) (ty := (.object "com/example/anchorline/anchorline/sccp/SccpAddress")) (by decide)
      have u_244 : Fld Z h_233 b_233 "com/example/anchorline/anchorline/tcap/Dialogue" "applicationContext" "[B" .null := D_233 (Or.inr (hw _ (List.mem_of_getElem? (i := 37) rfl))) (ty := (.array .byte)) (by decide)
      have u_245 : Fld Z h_233 b_233 "com/example/anchorline/anchorline/tcap/Dialogue" "state" "Lcom/example/anchorline/anchorline/tcap/Dialogue$State;" .null := D_233 (Or.inl (hw _ (List.mem_of_getElem? (i := 39) rfl))) (ty := (.object "com/example/anchorline/anchorline/tcap/Dialogue$State")) (by decide)
      have u_246 : Fld Z h_233 b_233 "com/example/anchorline/anchorline/tcap/Dialogue" "lastInvokeId" "I" (.int (0 : Int32)) := D_233 (Or.inl (hw _ (List.mem_of_getElem? (i := 52) rfl))) (ty := .int) (by decide)
      refine Goes.step st_233 ?_
      show Goes pP eE bB _ (T_233.setTop (mkF mM 66 #[.val (.int p1), .val (.int p2), .val (.int p3), .val (.int p4), .val (.int p5), .val (.ref b_1), .val .null, .val (.ref b_225), .unset, .unset, .unset, .unset] [(.ref b_233)]))
      refine Goes.step (fun _ kK => XS.dup X_233.here hx rfl (hb hby at_66) rfl rfl kK) ?_
      show Goes pP eE bB _ (T_233.setTop (mkF mM 67 #[.val (.int p1), .val (.int p2), .val (.int p3), .val (.int p4), .val (.int p5), .val (.ref b_1), .val .null, .val (.ref b_225), .unset, .unset, .unset, .unset] [(.ref b_233), (.ref b_233)]))
      refine Goes.step (fun _ kK => XS.aload X_233.here hx rfl (hb hby at_67) rfl rfl kK) ?_
      show Goes pP eE bB _ (T_233.setTop (mkF mM 69 #[.val (.int p1), .val (.int p2), .val (.int p3), .val (.int p4), .val (.int p5), .val (.ref b_1), .val .null, .val (.ref b_225), .unset, .unset, .unset, .unset] [(.ref b_1), (.ref b_233), (.ref b_233)]))
      refine Goes.step (fun _ kK => XS.aload X_233.here hx rfl (hb hby at_69) rfl rfl kK) ?_
      show Goes pP eE bB _ (T_233.setTop (mkF mM 71 #[.val (.int p1), .val (.int p2), .val (.int p3), .val (.int p4), .val (.int p5), .val (.ref b_1), .val .null, .val (.ref b_225), .unset, .unset, .unset, .unset] [.null, (.ref b_1), (.ref b_233), (.ref b_233)]))
      refine Goes.step (fun _ kK => XS.iloadN X_233.here hx rfl (hb hby at_71) rfl kK) ?_
      show Goes pP eE bB _ (T_233.setTop (mkF mM 72 #[.val (.int p1), .val (.int p2), .val (.int p3), .val (.int p4), .val (.int p5), .val (.ref b_1), .val .null, .val (.ref b_225), .unset, .unset, .unset, .unset] [(.int p3), .null, (.ref b_1), (.ref b_233), (.ref b_233)]))
      have u_247 := Nat.le_trans u_241 E_233.1
      have u_248 := O0.ext E_1
      have u_249 := u_248.keep K_6 (allS u_2 all0)
      have u_250 := u_249.ext E_225
      have u_251 := u_250.wr W_231 u_229
      have u_252 := u_251.wr W_232 u_229
      have u_253 := u_252.ext E_233
      refine Goes.callS X_233 hx hZ hown (hw _ (List.mem_of_getElem? (i := 22) rfl)) (hw _ (List.mem_of_getElem? (i := 23) rfl)) (hw _ (List.mem_of_getElem? (i := 24) rfl)) (hw _ (List.mem_of_getElem? (i := 25) rfl)) (by decide) e_233 (rmT l Z a0 hw p3 w0 w1 w2 w3 w4 w5 h_233 n0 u_247 Sw0 Sw1 Sw2 Sw3 Sw4 Sw5 u_253) (W := 4) (by decide) (by decide) (by decide) (by decide) (g := (mkF mM 72 #[.val (.int p1), .val (.int p2), .val (.int p3), .val (.int p4), .val (.int p5), .val (.ref b_1), .val .null, .val (.ref b_225), .unset, .unset, .unset, .unset] [(.int p3), .null, (.ref b_1), (.ref b_233), (.ref b_233)])) rfl (by rw [hml]; rfl) (rest := [.null, (.ref b_1), (.ref b_233), (.ref b_233)]) own_pd3 rfl rfl (by show 2 * 0 + _ ≤ _; exact Nat.le_of_eq rfl) (hb hby at_72) ?_
      intro v_254 T_254 L_254 X_254 hQ_254
      obtain ⟨c_254, rfl, N_254q, e_254⟩ := hQ_254
      have N_254 := Fr.app N_232 N_254q
      show Goes pP eE bB _ (T_254.setTop (mkF mM 75 #[.val (.int p1), .val (.int p2), .val (.int p3), .val (.int p4), .val (.int p5), .val (.ref b_1), .val .null, .val (.ref b_225), .unset, .unset, .unset, .unset] [(.ref c_254), .null, (.ref b_1), (.ref b_233), (.ref b_233)]))
      refine Goes.callI X_254 hx hZ rfl hown (hw _ (List.mem_of_getElem? (i := 30) rfl)) (hw _ (List.mem_of_getElem? (i := 31) rfl)) (hw _ (List.mem_of_getElem? (i := 32) rfl)) (hw _ (List.mem_of_getElem? (i := 21) rfl)) (by decide) e_254 (rmC0 l Z a0 hw b_233 b_1 c_254 h_233 n0 u_247 A_233 u_242 u_243 u_244 u_245 u_246) (W := 1) (by decide) (by decide) (by decide) (by decide) (g := (mkF mM 75 #[.val (.int p1), .val (.int p2), .val (.int p3), .val (.int p4), .val (.int p5), .val (.ref b_1), .val .null, .val (.ref b_225), .unset, .unset, .unset, .unset] [(.ref c_254), .null, (.ref b_1), (.ref b_233), (.ref b_233)])) rfl (by rw [hml]; rfl) (rest := [(.ref b_233)]) own_pd4 rfl rfl (by show 2 * 0 + _ ≤ _; exact Nat.le_of_eq rfl) (hb hby at_75) ?_
      intro v_255 T_255 L_255 X_255 hQ_255
      generalize e_255 : T_255.heap = h_255 at hQ_255
      obtain ⟨rfl, N_255q, K_255, F_255⟩ := hQ_255
      have N_255 := Fr.app N_254 N_255q
      show Goes pP eE bB _ (T_255.setTop (mkF mM 78 #[.val (.int p1), .val (.int p2), .val (.int p3), .val (.int p4), .val (.int p5), .val (.ref b_1), .val .null, .val (.ref b_225), .unset, .unset, .unset, .unset] [(.ref b_233)]))
      refine Goes.step (fun _ kK => XS.astore X_255.here hx rfl (hb hby at_78) rfl rfl (l' := #[.val (.int p1), .val (.int p2), .val (.int p3), .val (.int p4), .val (.int p5), .val (.ref b_1), .val .null, .val (.ref b_225), .val (.ref b_233), .unset, .unset, .unset]) rfl kK) ?_
      show Goes pP eE bB _ (T_255.setTop (mkF mM 80 #[.val (.int p1), .val (.int p2), .val (.int p3), .val (.int p4), .val (.int p5), .val (.ref b_1), .val .null, .val (.ref b_225), .val (.ref b_233), .unset, .unset, .unset] []))
      obtain ⟨T_256, h_256, X_256, e_256, E_256, A_256, D_256, -, st_256⟩ := newO X_255 hx hZ hown (hw _ (List.mem_of_getElem? (i := 19) rfl)) (hw _ (List.mem_of_getElem? (i := 20) rfl)) (hw _ (List.mem_of_getElem? (i := 21) rfl)) e_255 (g := (mkF mM 80 #[.val (.int p1), .val (.int p2), .val (.int p3), .val (.int p4), .val (.int p5), .val (.ref b_1), .val .null, .val (.ref b_225), .val (.ref b_233), .unset, .unset, .unset] [])) rfl (hb hby at_80) (by decide) (by decide)
      obtain ⟨b_256, g_256⟩ : ∃ z, z = h_255.size := ⟨_, rfl⟩
      rw [← g_256] at A_256 D_256 st_256
      have u_257 := Nat.lt_of_lt_of_le u_236 E_233.1
      have u_258 := Nat.lt_of_lt_of_le u_257 K_255.1
      have u_259 : b_1 < b_256 := Nat.lt_of_lt_of_le u_258 (Nat.le_of_eq g_256.symm)
      have u_260 := Nat.lt_of_lt_of_le (A_232).lt E_233.1
      have u_261 := Nat.lt_of_lt_of_le u_260 K_255.1
      have u_262 : b_225 < b_256 := Nat.lt_of_lt_of_le u_261 (Nat.le_of_eq g_256.symm)
      have u_263 := Nat.lt_of_lt_of_le (A_233).lt K_255.1
      have u_264 : b_233 < b_256 := Nat.lt_of_lt_of_le u_263 (Nat.le_of_eq g_256.symm)
      have u_265 := Nat.le_trans u_247 K_255.1
      have u_266 : n0 ≤ b_256 := Nat.le_trans u_265 (Nat.le_of_eq g_256.symm)
      have u_267 : Fld Z h_256 b_256 "com/example/anchorline/anchorline/tcap/Dialogue" "peer" "Lcom/example/anchorline/anchorline/sccp/SccpAddress;" .null := D_256 (Or.inr (hw _ (List.mem_of_getElem? (i := 35) rfl))) (ty := (.object "com/example/anchorline/anchorline/sccp/SccpAddress")) (by decide)
      have u_268 : Fld Z h_256 b_256 "com/example/anchorline/anchorline/tcap/Dialogue" "applicationContext" "[B" .null := D_256 (Or.inr (hw _ (List.mem_of_getElem? (i := 37) rfl))) (ty := (.array .byte)) (by decide)
      have u_269 : Fld Z h_256 b_256 "com/example/anchorline/anchorline/tcap/Dialogue" "state" "Lcom/example/anchorline/anchorline/tcap/Dialogue$State;" .null := D_256 (Or.inl (hw _ (List.mem_of_getElem? (i := 39) rfl))) (ty := (.object "com/example/anchorline/anchorline/tcap/Dialogue$State")) (by decide)
      have u_270 : Fld Z h_256 b_256 "com/example/anchorline/anchorline/tcap/Dialogue" "lastInvokeId" "I" (.int (0 : Int32)) := D_256 (Or.inl (hw _ (List.mem_of_getElem? (i := 52) rfl))) (ty := .int) (by decide)
      refine Goes.step st_256 ?_
      show Goes pP eE bB _ (T_256.setTop (mkF mM 83 #[.val (.int p1), .val (.int p2), .val (.int p3), .val (.int p4), .val (.int p5), .val (.ref b_1), .val .null, .val (.ref b_225), .val (.ref b_233), .unset, .unset, .unset] [(.ref b_256)]))
      refine Goes.step (fun _ kK => XS.dup X_256.here hx rfl (hb hby at_83) rfl rfl kK) ?_
      show Goes pP eE bB _ (T_256.setTop (mkF mM 84 #[.val (.int p1), .val (.int p2), .val (.int p3), .val (.int p4), .val (.int p5), .val (.ref b_1), .val .null, .val (.ref b_225), .val (.ref b_233), .unset, .unset, .unset] [(.ref b_256), (.ref b_256)]))
      refine Goes.step (fun _ kK => XS.aload X_256.here hx rfl (hb hby at_84) rfl rfl kK) ?_
      show Goes pP eE bB _ (T_256.setTop (mkF mM 86 #[.val (.int p1), .val (.int p2), .val (.int p3), .val (.int p4), .val (.int p5), .val (.ref b_1), .val .null, .val (.ref b_225), .val (.ref b_233), .unset, .unset, .unset] [(.ref b_1), (.ref b_256), (.ref b_256)]))
      refine Goes.step (fun _ kK => XS.aload X_256.here hx rfl (hb hby at_86) rfl rfl kK) ?_
      show Goes pP eE bB _ (T_256.setTop (mkF mM 88 #[.val (.int p1), .val (.int p2), .val (.int p3), .val (.int p4), .val (.int p5), .val (.ref b_1), .val .null, .val (.ref b_225), .val (.ref b_233), .unset, .unset, .unset] [(.ref b_225), (.ref b_1), (.ref b_256), (.ref b_256)]))
      refine Goes.step (fun _ kK => XS.iloadN X_256.here hx rfl (hb hby at_88) rfl kK) ?_
      show Goes pP eE bB _ (T_256.setTop (mkF mM 89 #[.val (.int p1), .val (.int p2), .val (.int p3), .val (.int p4), .val (.int p5), .val (.ref b_1), .val .null, .val (.ref b_225), .val (.ref b_233), .unset, .unset, .unset] [(.int p3), (.ref b_225), (.ref b_1), (.ref b_256), (.ref b_256)]))
      refine Goes.step (fun _ kK => XS.iconst X_256.here hx rfl (hb hby at_89) kK) ?_
      show Goes pP eE bB _ (T_256.setTop (mkF mM 90 #[.val (.int p1), .val (.int p2), .val (.int p3), .val (.int p4), .val (.int p5), .val (.ref b_1), .val .null, .val (.ref b_225), .val (.ref b_233), .unset, .unset, .unset] [(.int (3 : Int32)), (.int p3), (.ref b_225), (.ref b_1), (.ref b_256), (.ref b_256)]))
      refine Goes.step (fun _ kK => XS.iushr X_256.here hx rfl (hb hby at_90) rfl kK) ?_
      show Goes pP eE bB _ (T_256.setTop (mkF mM 91 #[.val (.int p1), .val (.int p2), .val (.int p3), .val (.int p4), .val (.int p5), .val (.ref b_1), .val .null, .val (.ref b_225), .val (.ref b_233), .unset, .unset, .unset] [(.int ((p3.toUInt32 >>> ((3 : Int32) &&& 31).toUInt32).toInt32)), (.ref b_225), (.ref b_1), (.ref b_256), (.ref b_256)]))
      have u_271 := Nat.le_trans u_265 E_256.1
      have u_272 := u_253.keep K_255 (allS u_242 all0)
      have u_273 := u_272.ext E_256
      refine Goes.callS X_256 hx hZ hown (hw _ (List.mem_of_getElem? (i := 22) rfl)) (hw _ (List.mem_of_getElem? (i := 23) rfl)) (hw _ (List.mem_of_getElem? (i := 24) rfl)) (hw _ (List.mem_of_getElem? (i := 25) rfl)) (by decide) e_256 (rmT l Z a0 hw ((p3.toUInt32 >>> ((3 : Int32) &&& 31).toUInt32).toInt32) w0 w1 w2 w3 w4 w5 h_256 n0 u_271 Sw0 Sw1 Sw2 Sw3 Sw4 Sw5 u_273) (W := 4) (by decide) (by decide) (by decide) (by decide) (g := (mkF mM 91 #[.val (.int p1), .val (.int p2), .val (.int p3), .val (.int p4), .val (.int p5), .val (.ref b_1), .val .null, .val (.ref b_225), .val (.ref b_233), .unset, .unset, .unset] [(.int ((p3.toUInt32 >>> ((3 : Int32) &&& 31).toUInt32).toInt32)), (.ref b_225), (.ref b_1), (.ref b_256), (.ref b_256)])) rfl (by rw [hml]; rfl) (rest := [(.ref b_225), (.ref b_1), (.ref b_256), (.ref b_256)]) own_pd3 rfl rfl (by show 2 * 0 + _ ≤ _; exact Nat.le_of_eq rfl) (hb hby at_91) ?_
      intro v_274 T_274 L_274 X_274 hQ_274
      obtain ⟨c_274, rfl, N_274q, e_274⟩ := hQ_274
      have N_274 := Fr.app N_255 N_274q
      show Goes pP eE bB _ (T_274.setTop (mkF mM 94 #[.val (.int p1), .val (.int p2), .val (.int p3), .val (.int p4), .val (.int p5), .val (.ref b_1), .val .null, .val (.ref b_225), .val (.ref b_233), .unset, .unset, .unset] [(.ref c_274), (.ref b_225), (.ref b_1), (.ref b_256), (.ref b_256)]))
      refine Goes.callI X_274 hx hZ rfl hown (hw _ (List.mem_of_getElem? (i := 30) rfl)) (hw _ (List.mem_of_getElem? (i := 31) rfl)) (hw _ (List.mem_of_getElem? (i := 32) rfl)) (hw _ (List.mem_of_getElem? (i := 21) rfl)) (by decide) e_274 (rmC l Z a0 hw b_256 b_1 b_225 c_274 h_256 n0 u_271 A_256 u_266 u_267 u_268 u_269 u_270) (W := 1) (by decide) (by decide) (by decide) (by decide) (g := (mkF mM 94 #[.val (.int p1), .val (.int p2), .val (.int p3), .val (.int p4), .val (.int p5), .val (.ref b_1), .val .null, .val (.ref b_225), .val (.ref b_233), .unset, .unset, .unset] [(.ref c_274), (.ref b_225), (.ref b_1), (.ref b_256), (.ref b_256)])) rfl (by rw [hml]; rfl) (rest := [(.ref b_256)]) own_pd4 rfl rfl (by show 2 * 0 + _ ≤ _; exact Nat.le_of_eq rfl) (hb hby at_94) ?_
      intro v_275 T_275 L_275 X_275 hQ_275
      generalize e_275 : T_275.heap = h_275 at hQ_275
      obtain ⟨rfl, N_275q, K_275, F_275⟩ := hQ_275
      have N_275 := Fr.app N_274 N_275q
      show Goes pP eE bB _ (T_275.setTop (mkF mM 97 #[.val (.int p1), .val (.int p2), .val (.int p3), .val (.int p4), .val (.int p5), .val (.ref b_1), .val .null, .val (.ref b_225), .val (.ref b_233), .unset, .unset, .unset] [(.ref b_256)]))
      refine Goes.step (fun _ kK => XS.astore X_275.here hx rfl (hb hby at_97) rfl rfl (l' := #[.val (.int p1), .val (.int p2), .val (.int p3), .val (.int p4), .val (.int p5), .val (.ref b_1), .val .null, .val (.ref b_225), .val (.ref b_233), .val (.ref b_256), .unset, .unset]) rfl kK) ?_
      show Goes pP eE bB _ (T_275.setTop (mkF mM 99 #[.val (.int p1), .val (.int p2), .val (.int p3), .val (.int p4), .val (.int p5), .val (.ref b_1), .val .null, .val (.ref b_225), .val (.ref b_233), .val (.ref b_256), .unset, .unset] []))
      refine Goes.step (fun _ kK => XS.iconst X_275.here hx rfl (hb hby at_99) kK) ?_
      show Goes pP eE bB _ (T_275.setTop (mkF mM 100 #[.val (.int p1), .val (.int p2), .val (.int p3), .val (.int p4), .val (.int p5), .val (.ref b_1), .val .null, .val (.ref b_225), .val (.ref b_233), .val (.ref b_256), .unset, .unset] [(.int (2 : Int32))]))
      obtain ⟨T_276, h_276, k_276, X_276, e_276, E_276, A_276, M_276, st_276⟩ := newPE X_275 hx hZ (hw _ (List.mem_of_getElem? (i := 42) rfl)) e_275 (g := (mkF mM 100 #[.val (.int p1), .val (.int p2), .val (.int p3), .val (.int p4), .val (.int p5), .val (.ref b_1), .val .null, .val (.ref b_225), .val (.ref b_233), .val (.ref b_256), .unset, .unset] [(.int (2 : Int32))])) rfl (hb hby at_100) rfl (by decide) (cap := 2) (by decide) (by decide) (by decide) (by decide) (ad := "[I") rfl
      obtain ⟨b_276, g_276⟩ : ∃ z, z = h_275.size := ⟨_, rfl⟩
      rw [← g_276] at A_276 M_276 st_276
      have u_277 := Nat.lt_of_lt_of_le u_258 E_256.1
      have u_278 := Nat.lt_of_lt_of_le u_277 K_275.1
      have u_279 : b_1 < b_276 := Nat.lt_of_lt_of_le u_278 (Nat.le_of_eq g_276.symm)
      have u_280 := Nat.lt_of_lt_of_le u_261 E_256.1
      have u_281 := Nat.lt_of_lt_of_le u_280 K_275.1
      have u_282 : b_225 < b_276 := Nat.lt_of_lt_of_le u_281 (Nat.le_of_eq g_276.symm)
      have u_283 := Nat.lt_of_lt_of_le u_263 E_256.1
      have u_284 := Nat.lt_of_lt_of_le u_283 K_275.1
      have u_285 : b_233 < b_276 := Nat.lt_of_lt_of_le u_284 (Nat.le_of_eq g_276.symm)
      have u_286 := Nat.lt_of_lt_of_le (A_256).lt K_275.1
      have u_287 : b_256 < b_276 := Nat.lt_of_lt_of_le u_286 (Nat.le_of_eq g_276.symm)
      have u_288 := Nat.le_trans u_271 K_275.1
      have u_289 : n0 ≤ b_276 := Nat.le_trans u_288 (Nat.le_of_eq g_276.symm)
      have u_290 : Afn Z h_276 b_276 .int 2 (fun _ => (.int (0 : Int32))) := Afn.new (n := 2) A_276 (by decide)
      refine Goes.step st_276 ?_
      show Goes pP eE bB _ (T_276.setTop (mkF mM 102 #[.val (.int p1), .val (.int p2), .val (.int p3), .val (.int p4), .val (.int p5), .val (.ref b_1), .val .null, .val (.ref b_225), .val (.ref b_233), .val (.ref b_256), .unset, .unset] [(.ref b_276)]))
      refine Goes.step (fun _ kK => XS.astore X_276.here hx rfl (hb hby at_102) rfl rfl (l' := #[.val (.int p1), .val (.int p2), .val (.int p3), .val (.int p4), .val (.int p5), .val (.ref b_1), .val .null, .val (.ref b_225), .val (.ref b_233), .val (.ref b_256), .val (.ref b_276), .unset]) rfl kK) ?_
      show Goes pP eE bB _ (T_276.setTop (mkF mM 104 #[.val (.int p1), .val (.int p2), .val (.int p3), .val (.int p4), .val (.int p5), .val (.ref b_1), .val .null, .val (.ref b_225), .val (.ref b_233), .val (.ref b_256), .val (.ref b_276), .unset] []))
      refine Goes.step (fun _ kK => XS.iconst X_276.here hx rfl (hb hby at_104) kK) ?_
      show Goes pP eE bB _ (T_276.setTop (mkF mM 105 #[.val (.int p1), .val (.int p2), .val (.int p3), .val (.int p4), .val (.int p5), .val (.ref b_1), .val .null, .val (.ref b_225), .val (.ref b_233), .val (.ref b_256), .val (.ref b_276), .unset] [(.int (1 : Int32))]))
      refine Goes.step (fun _ kK => XS.istore X_276.here hx rfl (hb hby at_105) rfl (l' := #[.val (.int p1), .val (.int p2), .val (.int p3), .val (.int p4), .val (.int p5), .val (.ref b_1), .val .null, .val (.ref b_225), .val (.ref b_233), .val (.ref b_256), .val (.ref b_276), .val (.int (1 : Int32))]) rfl kK) ?_
      show Goes pP eE bB _ (T_276.setTop (mkF mM 107 #[.val (.int p1), .val (.int p2), .val (.int p3), .val (.int p4), .val (.int p5), .val (.ref b_1), .val .null, .val (.ref b_225), .val (.ref b_233), .val (.ref b_256), .val (.ref b_276), .val (.int (1 : Int32))] []))
      refine Goes.step (fun _ kK => XS.aload X_276.here hx rfl (hb hby at_107) rfl rfl kK) ?_
      show Goes pP eE bB _ (T_276.setTop (mkF mM 109 #[.val (.int p1), .val (.int p2), .val (.int p3), .val (.int p4), .val (.int p5), .val (.ref b_1), .val .null, .val (.ref b_225), .val (.ref b_233), .val (.ref b_256), .val (.ref b_276), .val (.int (1 : Int32))] [(.ref b_233)]))
      refine Goes.step (fun _ kK => XS.aload X_276.here hx rfl (hb hby at_109) rfl rfl kK) ?_
      show Goes pP eE bB _ (T_276.setTop (mkF mM 111 #[.val (.int p1), .val (.int p2), .val (.int p3), .val (.int p4), .val (.int p5), .val (.ref b_1), .val .null, .val (.ref b_225), .val (.ref b_233), .val (.ref b_256), .val (.ref b_276), .val (.int (1 : Int32))] [(.ref b_256), (.ref b_233)]))
      refine Goes.step (fun _ kK => XS.aload X_276.here hx rfl (hb hby at_111) rfl rfl kK) ?_
      show Goes pP eE bB _ (T_276.setTop (mkF mM 113 #[.val (.int p1), .val (.int p2), .val (.int p3), .val (.int p4), .val (.int p5), .val (.ref b_1), .val .null, .val (.ref b_225), .val (.ref b_233), .val (.ref b_256), .val (.ref b_276), .val (.int (1 : Int32))] [(.ref b_276), (.ref b_256), (.ref b_233)]))
      refine Goes.step (fun _ kK => XS.iload X_276.here hx rfl (hb hby at_113) rfl kK) ?_
      show Goes pP eE bB _ (T_276.setTop (mkF mM 115 #[.val (.int p1), .val (.int p2), .val (.int p3), .val (.int p4), .val (.int p5), .val (.ref b_1), .val .null, .val (.ref b_225), .val (.ref b_233), .val (.ref b_256), .val (.ref b_276), .val (.int (1 : Int32))] [(.int p5), (.ref b_276), (.ref b_256), (.ref b_233)]))
      refine Goes.step (fun _ kK => XS.iconst X_276.here hx rfl (hb hby at_115) kK) ?_
      show Goes pP eE bB _ (T_276.setTop (mkF mM 116 #[.val (.int p1), .val (.int p2), .val (.int p3), .val (.int p4), .val (.int p5), .val (.ref b_1), .val .null, .val (.ref b_225), .val (.ref b_233), .val (.ref b_256), .val (.ref b_276), .val (.int (1 : Int32))] [(.int (1 : Int32)), (.int p5), (.ref b_276), (.ref b_256), (.ref b_233)]))
      refine Goes.step (fun _ kK => XS.iand X_276.here hx rfl (hb hby at_116) rfl kK) ?_
      show Goes pP eE bB _ (T_276.setTop (mkF mM 117 #[.val (.int p1), .val (.int p2), .val (.int p3), .val (.int p4), .val (.int p5), .val (.ref b_1), .val .null, .val (.ref b_225), .val (.ref b_233), .val (.ref b_256), .val (.ref b_276), .val (.int (1 : Int32))] [(.int (p5 &&& (1 : Int32))), (.ref b_276), (.ref b_256), (.ref b_233)]))
      have u_291 := F_255.ext E_256
      have u_292 := u_291.keep K_275 (ninS (Nat.ne_of_lt u_264) nin0)
      have u_293 := u_292.ext E_276
      have u_294 := F_275.ext E_276
      have I0 : own_Inv Z h_276 b_233 b_256 b_276 (0 : Int32) (0 : Int32) 0 := ⟨u_293, u_294, ⟨_, u_290, rfl, rfl⟩, by decide, by decide, by decide, by decide⟩
      have u_295 := Nat.le_trans u_288 E_276.1
      have u_296 := A_233.keep K_255
      have u_297 := u_296.ext E_256
      have u_298 := u_297.keep K_275
      have u_299 := u_298.ext E_276
      have u_300 := A_256.keep K_275
      have u_301 := u_300.ext E_276
      refine Goes.callS X_276 hx hZ hown (hw _ (List.mem_of_getElem? (i := 43) rfl)) (hw _ (List.mem_of_getElem? (i := 44) rfl)) (hw _ (List.mem_of_getElem? (i := 24) rfl)) (hw _ (List.mem_of_getElem? (i := 45) rfl)) (by decide) e_276 (rmP l Z a0 hw b_233 b_256 b_276 (p5 &&& (1 : Int32)) (0 : Int32) (0 : Int32) h_276 n0 u_295 (own_bit _) (0 : Int) (by decide) u_299 u_301 u_242 u_266 u_289 (Nat.ne_of_lt u_264) (Nat.ne_of_lt u_285) (Nat.ne_of_lt u_287) I0) (W := 0) (by decide) (by decide) (by decide) (by decide) (g := (mkF mM 117 #[.val (.int p1), .val (.int p2), .val (.int p3), .val (.int p4), .val (.int p5), .val (.ref b_1), .val .null, .val (.ref b_225), .val (.ref b_233), .val (.ref b_256), .val (.ref b_276), .val (.int (1 : Int32))] [(.int (p5 &&& (1 : Int32))), (.ref b_276), (.ref b_256), (.ref b_233)])) rfl (by rw [hml]; rfl) (rest := []) own_pd5 rfl rfl (by show 2 * 0 + _ ≤ _; exact Nat.le_of_eq rfl) (hb hby at_117) ?_
      intro v_302 T_302 L_302 X_302 hQ_302
      generalize e_302 : T_302.heap = h_302 at hQ_302
      obtain ⟨rfl, N_302q, K_302, x_302, y_302, I_302⟩ := hQ_302
      have N_302 := Fr.app N_275 N_302q
      show Goes pP eE bB _ (T_302.setTop (mkF mM 120 #[.val (.int p1), .val (.int p2), .val (.int p3), .val (.int p4), .val (.int p5), .val (.ref b_1), .val .null, .val (.ref b_225), .val (.ref b_233), .val (.ref b_256), .val (.ref b_276), .val (.int (1 : Int32))] [(.int (1 : Int32))]))
      refine Goes.step (fun _ kK => XS.iload X_302.here hx rfl (hb hby at_120) rfl kK) ?_
      show Goes pP eE bB _ (T_302.setTop (mkF mM 122 #[.val (.int p1), .val (.int p2), .val (.int p3), .val (.int p4), .val (.int p5), .val (.ref b_1), .val .null, .val (.ref b_225), .val (.ref b_233), .val (.ref b_256), .val (.ref b_276), .val (.int (1 : Int32))] [(.int (1 : Int32)), (.int (1 : Int32))]))
      refine Goes.step (fun _ kK => XS.iand X_302.here hx rfl (hb hby at_122) rfl kK) ?_
      show Goes pP eE bB _ (T_302.setTop (mkF mM 123 #[.val (.int p1), .val (.int p2), .val (.int p3), .val (.int p4), .val (.int p5), .val (.ref b_1), .val .null, .val (.ref b_225), .val (.ref b_233), .val (.ref b_256), .val (.ref b_276), .val (.int (1 : Int32))] [(.int ((1 : Int32) &&& (1 : Int32)))]))
      refine Goes.step (fun _ kK => XS.istore X_302.here hx rfl (hb hby at_123) rfl (l' := #[.val (.int p1), .val (.int p2), .val (.int p3), .val (.int p4), .val (.int p5), .val (.ref b_1), .val .null, .val (.ref b_225), .val (.ref b_233), .val (.ref b_256), .val (.ref b_276), .val (.int ((1 : Int32) &&& (1 : Int32)))]) rfl kK) ?_
      show Goes pP eE bB _ (T_302.setTop (mkF mM 125 #[.val (.int p1), .val (.int p2), .val (.int p3), .val (.int p4), .val (.int p5), .val (.ref b_1), .val .null, .val (.ref b_225), .val (.ref b_233), .val (.ref b_256), .val (.ref b_276), .val (.int ((1 : Int32) &&& (1 : Int32)))] []))
      refine Goes.step (fun _ kK => XS.aload X_302.here hx rfl (hb hby at_125) rfl rfl kK) ?_
      show Goes pP eE bB _ (T_302.setTop (mkF mM 127 #[.val (.int p1), .val (.int p2), .val (.int p3), .val (.int p4), .val (.int p5), .val (.ref b_1), .val .null, .val (.ref b_225), .val (.ref b_233), .val (.ref b_256), .val (.ref b_276), .val (.int ((1 : Int32) &&& (1 : Int32)))] [(.ref b_233)]))
      refine Goes.step (fun _ kK => XS.aload X_302.here hx rfl (hb hby at_127) rfl rfl kK) ?_
      show Goes pP eE bB _ (T_302.setTop (mkF mM 129 #[.val (.int p1), .val (.int p2), .val (.int p3), .val (.int p4), .val (.int p5), .val (.ref b_1), .val .null, .val (.ref b_225), .val (.ref b_233), .val (.ref b_256), .val (.ref b_276), .val (.int ((1 : Int32) &&& (1 : Int32)))] [(.ref b_256), (.ref b_233)]))
      refine Goes.step (fun _ kK => XS.aload X_302.here hx rfl (hb hby at_129) rfl rfl kK) ?_
      show Goes pP eE bB _ (T_302.setTop (mkF mM 131 #[.val (.int p1), .val (.int p2), .val (.int p3), .val (.int p4), .val (.int p5), .val (.ref b_1), .val .null, .val (.ref b_225), .val (.ref b_233), .val (.ref b_256), .val (.ref b_276), .val (.int ((1 : Int32) &&& (1 : Int32)))] [(.ref b_276), (.ref b_256), (.ref b_233)]))
      refine Goes.step (fun _ kK => XS.iload X_302.here hx rfl (hb hby at_131) rfl kK) ?_
      show Goes pP eE bB _ (T_302.setTop (mkF mM 133 #[.val (.int p1), .val (.int p2), .val (.int p3), .val (.int p4), .val (.int p5), .val (.ref b_1), .val .null, .val (.ref b_225), .val (.ref b_233), .val (.ref b_256), .val (.ref b_276), .val (.int ((1 : Int32) &&& (1 : Int32)))] [(.int p5), (.ref b_276), (.ref b_256), (.ref b_233)]))
      refine Goes.step (fun _ kK => XS.iconst X_302.here hx rfl (hb hby at_133) kK) ?_
      show Goes pP eE bB _ (T_302.setTop (mkF mM 134 #[.val (.int p1), .val (.int p2), .val (.int p3), .val (.int p4), .val (.int p5), .val (.ref b_1), .val .null, .val (.ref b_225), .val (.ref b_233), .val (.ref b_256), .val (.ref b_276), .val (.int ((1 : Int32) &&& (1 : Int32)))] [(.int (1 : Int32)), (.int p5), (.ref b_276), (.ref b_256), (.ref b_233)]))
      refine Goes.step (fun _ kK => XS.iushr X_302.here hx rfl (hb hby at_134) rfl kK) ?_
      show Goes pP eE bB _ (T_302.setTop (mkF mM 135 #[.val (.int p1), .val (.int p2), .val (.int p3), .val (.int p4), .val (.int p5), .val (.ref b_1), .val .null, .val (.ref b_225), .val (.ref b_233), .val (.ref b_256), .val (.ref b_276), .val (.int ((1 : Int32) &&& (1 : Int32)))] [(.int ((p5.toUInt32 >>> ((1 : Int32) &&& 31).toUInt32).toInt32)), (.ref b_276), (.ref b_256), (.ref b_233)]))
      refine Goes.step (fun _ kK => XS.iconst X_302.here hx rfl (hb hby at_135) kK) ?_
      show Goes pP eE bB _ (T_302.setTop (mkF mM 136 #[.val (.int p1), .val (.int p2), .val (.int p3), .val (.int p4), .val (.int p5), .val (.ref b_1), .val .null, .val (.ref b_225), .val (.ref b_233), .val (.ref b_256), .val (.ref b_276), .val (.int ((1 : Int32) &&& (1 : Int32)))] [(.int (1 : Int32)), (.int ((p5.toUInt32 >>> ((1 : Int32) &&& 31).toUInt32).toInt32)), (.ref b_276), (.ref b_256), (.ref b_233)]))
      refine Goes.step (fun _ kK => XS.iand X_302.here hx rfl (hb hby at_136) rfl kK) ?_
      show Goes pP eE bB _ (T_302.setTop (mkF mM 137 #[.val (.int p1), .val (.int p2), .val (.int p3), .val (.int p4), .val (.int p5), .val (.ref b_1), .val .null, .val (.ref b_225), .val (.ref b_233), .val (.ref b_256), .val (.ref b_276), .val (.int ((1 : Int32) &&& (1 : Int32)))] [(.int (((p5.toUInt32 >>> ((1 : Int32) &&& 31).toUInt32).toInt32) &&& (1 : Int32))), (.ref b_276), (.ref b_256), (.ref b_233)]))
      have u_303 := Nat.le_trans u_295 K_302.1
      have u_304 := u_299.keep K_302
      have u_305 := u_301.keep K_302
      refine Goes.callS X_302 hx hZ hown (hw _ (List.mem_of_getElem? (i := 43) rfl)) (hw _ (List.mem_of_getElem? (i := 44) rfl)) (hw _ (List.mem_of_getElem? (i := 24) rfl)) (hw _ (List.mem_of_getElem? (i := 45) rfl)) (by decide) e_302 (rmP l Z a0 hw b_233 b_256 b_276 (((p5.toUInt32 >>> ((1 : Int32) &&& 31).toUInt32).toInt32) &&& (1 : Int32)) x_302 y_302 h_302 n0 u_303 (own_bit _) ((0 : Int) + 1) (by decide) u_304 u_305 u_242 u_266 u_289 (Nat.ne_of_lt u_264) (Nat.ne_of_lt u_285) (Nat.ne_of_lt u_287) I_302) (W := 0) (by decide) (by decide) (by decide) (by decide) (g := (mkF mM 137 #[.val (.int p1), .val (.int p2), .val (.int p3), .val (.int p4), .val (.int p5), .val (.ref b_1), .val .null, .val (.ref b_225), .val (.ref b_233), .val (.ref b_256), .val (.ref b_276), .val (.int ((1 : Int32) &&& (1 : Int32)))] [(.int (((p5.toUInt32 >>> ((1 : Int32) &&& 31).toUInt32).toInt32) &&& (1 : Int32))), (.ref b_276), (.ref b_256), (.ref b_233)])) rfl (by rw [hml]; rfl) (rest := []) own_pd5 rfl rfl (by show 2 * 0 + _ ≤ _; exact Nat.le_of_eq rfl) (hb hby at_137) ?_
      intro v_306 T_306 L_306 X_306 hQ_306
      generalize e_306 : T_306.heap = h_306 at hQ_306
      obtain ⟨rfl, N_306q, K_306, x_306, y_306, I_306⟩ := hQ_306
      have N_306 := Fr.app N_302 N_306q
      show Goes pP eE bB _ (T_306.setTop (mkF mM 140 #[.val (.int p1), .val (.int p2), .val (.int p3), .val (.int p4), .val (.int p5), .val (.ref b_1), .val .null, .val (.ref b_225), .val (.ref b_233), .val (.ref b_256), .val (.ref b_276), .val (.int ((1 : Int32) &&& (1 : Int32)))] [(.int (1 : Int32))]))
      refine Goes.step (fun _ kK => XS.iload X_306.here hx rfl (hb hby at_140) rfl kK) ?_
      show Goes pP eE bB _ (T_306.setTop (mkF mM 142 #[.val (.int p1), .val (.int p2), .val (.int p3), .val (.int p4), .val (.int p5), .val (.ref b_1), .val .null, .val (.ref b_225), .val (.ref b_233), .val (.ref b_256), .val (.ref b_276), .val (.int ((1 : Int32) &&& (1 : Int32)))] [(.int ((1 : Int32) &&& (1 : Int32))), (.int (1 : Int32))]))
      refine Goes.step (fun _ kK => XS.iand X_306.here hx rfl (hb hby at_142) rfl kK) ?_
      show Goes pP eE bB _ (T_306.setTop (mkF mM 143 #[.val (.int p1), .val (.int p2), .val (.int p3), .val (.int p4), .val (.int p5), .val (.ref b_1), .val .null, .val (.ref b_225), .val (.ref b_233), .val (.ref b_256), .val (.ref b_276), .val (.int ((1 : Int32) &&& (1 : Int32)))] [(.int ((1 : Int32) &&& ((1 : Int32) &&& (1 : Int32))))]))
      refine Goes.step (fun _ kK => XS.istore X_306.here hx rfl (hb hby at_143) rfl (l' := #[.val (.int p1), .val (.int p2), .val (.int p3), .val (.int p4), .val (.int p5), .val (.ref b_1), .val .null, .val (.ref b_225), .val (.ref b_233), .val (.ref b_256), .val (.ref b_276), .val (.int ((1 : Int32) &&& ((1 : Int32) &&& (1 : Int32))))]) rfl kK) ?_
      show Goes pP eE bB _ (T_306.setTop (mkF mM 145 #[.val (.int p1), .val (.int p2), .val (.int p3), .val (.int p4), .val (.int p5), .val (.ref b_1), .val .null, .val (.ref b_225), .val (.ref b_233), .val (.ref b_256), .val (.ref b_276), .val (.int ((1 : Int32) &&& ((1 : Int32) &&& (1 : Int32))))] []))
      refine Goes.step (fun _ kK => XS.aload X_306.here hx rfl (hb hby at_145) rfl rfl kK) ?_
      show Goes pP eE bB _ (T_306.setTop (mkF mM 147 #[.val (.int p1), .val (.int p2), .val (.int p3), .val (.int p4), .val (.int p5), .val (.ref b_1), .val .null, .val (.ref b_225), .val (.ref b_233), .val (.ref b_256), .val (.ref b_276), .val (.int ((1 : Int32) &&& ((1 : Int32) &&& (1 : Int32))))] [(.ref b_233)]))
      refine Goes.step (fun _ kK => XS.aload X_306.here hx rfl (hb hby at_147) rfl rfl kK) ?_
      show Goes pP eE bB _ (T_306.setTop (mkF mM 149 #[.val (.int p1), .val (.int p2), .val (.int p3), .val (.int p4), .val (.int p5), .val (.ref b_1), .val .null, .val (.ref b_225), .val (.ref b_233), .val (.ref b_256), .val (.ref b_276), .val (.int ((1 : Int32) &&& ((1 : Int32) &&& (1 : Int32))))] [(.ref b_256), (.ref b_233)]))
      refine Goes.step (fun _ kK => XS.aload X_306.here hx rfl (hb hby at_149) rfl rfl kK) ?_
      show Goes pP eE bB _ (T_306.setTop (mkF mM 151 #[.val (.int p1), .val (.int p2), .val (.int p3), .val (.int p4), .val (.int p5), .val (.ref b_1), .val .null, .val (.ref b_225), .val (.ref b_233), .val (.ref b_256), .val (.ref b_276), .val (.int ((1 : Int32) &&& ((1 : Int32) &&& (1 : Int32))))] [(.ref b_276), (.ref b_256), (.ref b_233)]))
      refine Goes.step (fun _ kK => XS.iload X_306.here hx rfl (hb hby at_151) rfl kK) ?_
      show Goes pP eE bB _ (T_306.setTop (mkF mM 153 #[.val (.int p1), .val (.int p2), .val (.int p3), .val (.int p4), .val (.int p5), .val (.ref b_1), .val .null, .val (.ref b_225), .val (.ref b_233), .val (.ref b_256), .val (.ref b_276), .val (.int ((1 : Int32) &&& ((1 : Int32) &&& (1 : Int32))))] [(.int p5), (.ref b_276), (.ref b_256), (.ref b_233)]))
      refine Goes.step (fun _ kK => XS.iconst X_306.here hx rfl (hb hby at_153) kK) ?_
      show Goes pP eE bB _ (T_306.setTop (mkF mM 154 #[.val (.int p1), .val (.int p2), .val (.int p3), .val (.int p4), .val (.int p5), .val (.ref b_1), .val .null, .val (.ref b_225), .val (.ref b_233), .val (.ref b_256), .val (.ref b_276), .val (.int ((1 : Int32) &&& ((1 : Int32) &&& (1 : Int32))))] [(.int (2 : Int32)), (.int p5), (.ref b_276), (.ref b_256), (.ref b_233)]))
      refine Goes.step (fun _ kK => XS.iushr X_306.here hx rfl (hb hby at_154) rfl kK) ?_
      show Goes pP eE bB _ (T_306.setTop (mkF mM 155 #[.val (.int p1), .val (.int p2), .val (.int p3), .val (.int p4), .val (.int p5), .val (.ref b_1), .val .null, .val (.ref b_225), .val (.ref b_233), .val (.ref b_256), .val (.ref b_276), .val (.int ((1 : Int32) &&& ((1 : Int32) &&& (1 : Int32))))] [(.int ((p5.toUInt32 >>> ((2 : Int32) &&& 31).toUInt32).toInt32)), (.ref b_276), (.ref b_256), (.ref b_233)]))
      refine Goes.step (fun _ kK => XS.iconst X_306.here hx rfl (hb hby at_155) kK) ?_
      show Goes pP eE bB _ (T_306.setTop (mkF mM 156 #[.val (.int p1), .val (.int p2), .val (.int p3), .val (.int p4), .val (.int p5), .val (.ref b_1), .val .null, .val (.ref b_225), .val (.ref b_233), .val (.ref b_256), .val (.ref b_276), .val (.int ((1 : Int32) &&& ((1 : Int32) &&& (1 : Int32))))] [(.int (1 : Int32)), (.int ((p5.toUInt32 >>> ((2 : Int32) &&& 31).toUInt32).toInt32)), (.ref b_276), (.ref b_256), (.ref b_233)]))
      refine Goes.step (fun _ kK => XS.iand X_306.here hx rfl (hb hby at_156) rfl kK) ?_
      show Goes pP eE bB _ (T_306.setTop (mkF mM 157 #[.val (.int p1), .val (.int p2), .val (.int p3), .val (.int p4), .val (.int p5), .val (.ref b_1), .val .null, .val (.ref b_225), .val (.ref b_233), .val (.ref b_256), .val (.ref b_276), .val (.int ((1 : Int32) &&& ((1 : Int32) &&& (1 : Int32))))] [(.int (((p5.toUInt32 >>> ((2 : Int32) &&& 31).toUInt32).toInt32) &&& (1 : Int32))), (.ref b_276), (.ref b_256), (.ref b_233)]))
      have u_307 := Nat.le_trans u_303 K_306.1
      have u_308 := u_304.keep K_306
      have u_309 := u_305.keep K_306
      refine Goes.callS X_306 hx hZ hown (hw _ (List.mem_of_getElem? (i := 43) rfl)) (hw _ (List.mem_of_getElem? (i := 44) rfl)) (hw _ (List.mem_of_getElem? (i := 24) rfl)) (hw _ (List.mem_of_getElem? (i := 45) rfl)) (by decide) e_306 (rmP l Z a0 hw b_233 b_256 b_276 (((p5.toUInt32 >>> ((2 : Int32) &&& 31).toUInt32).toInt32) &&& (1 : Int32)) x_306 y_306 h_306 n0 u_307 (own_bit _) ((0 : Int) + 1 + 1) (by decide) u_308 u_309 u_242 u_266 u_289 (Nat.ne_of_lt u_264) (Nat.ne_of_lt u_285) (Nat.ne_of_lt u_287) I_306) (W := 0) (by decide) (by decide) (by decide) (by decide) (g := (mkF mM 157 #[.val (.int p1), .val (.int p2), .val (.int p3), .val (.int p4), .val (.int p5), .val (.ref b_1), .val .null, .val (.ref b_225), .val (.ref b_233), .val (.ref b_256), .val (.ref b_276), .val (.int ((1 : Int32) &&& ((1 : Int32) &&& (1 : Int32))))] [(.int (((p5.toUInt32 >>> ((2 : Int32) &&& 31).toUInt32).toInt32) &&& (1 : Int32))), (.ref b_276), (.ref b_256), (.ref b_233)])) rfl (by rw [hml]; rfl) (rest := []) own_pd5 rfl rfl (by show 2 * 0 + _ ≤ _; exact Nat.le_of_eq rfl) (hb hby at_157) ?_
      intro v_310 T_310 L_310 X_310 hQ_310
      generalize e_310 : T_310.heap = h_310 at hQ_310
      obtain ⟨rfl, N_310q, K_310, x_310, y_310, I_310⟩ := hQ_310
      have N_310 := Fr.app N_306 N_310q
      show Goes pP eE bB _ (T_310.setTop (mkF mM 160 #[.val (.int p1), .val (.int p2), .val (.int p3), .val (.int p4), .val (.int p5), .val (.ref b_1), .val .null, .val (.ref b_225), .val (.ref b_233), .val (.ref b_256), .val (.ref b_276), .val (.int ((1 : Int32) &&& ((1 : Int32) &&& (1 : Int32))))] [(.int (1 : Int32))]))
      refine Goes.step (fun _ kK => XS.iload X_310.here hx rfl (hb hby at_160) rfl kK) ?_
      show Goes pP eE bB _ (T_310.setTop (mkF mM 162 #[.val (.int p1), .val (.int p2), .val (.int p3), .val (.int p4), .val (.int p5), .val (.ref b_1), .val .null, .val (.ref b_225), .val (.ref b_233), .val (.ref b_256), .val (.ref b_276), .val (.int ((1 : Int32) &&& ((1 : Int32) &&& (1 : Int32))))] [(.int ((1 : Int32) &&& ((1 : Int32) &&& (1 : Int32)))), (.int (1 : Int32))]))
      refine Goes.step (fun _ kK => XS.iand X_310.here hx rfl (hb hby at_162) rfl kK) ?_
      show Goes pP eE bB _ (T_310.setTop (mkF mM 163 #[.val (.int p1), .val (.int p2), .val (.int p3), .val (.int p4), .val (.int p5), .val (.ref b_1), .val .null, .val (.ref b_225), .val (.ref b_233), .val (.ref b_256), .val (.ref b_276), .val (.int ((1 : Int32) &&& ((1 : Int32) &&& (1 : Int32))))] [(.int ((1 : Int32) &&& ((1 : Int32) &&& ((1 : Int32) &&& (1 : Int32)))))]))
      refine Goes.step (fun _ kK => XS.istore X_310.here hx rfl (hb hby at_163) rfl (l' := #[.val (.int p1), .val (.int p2), .val (.int p3), .val (.int p4), .val (.int p5), .val (.ref b_1), .val .null, .val (.ref b_225), .val (.ref b_233), .val (.ref b_256), .val (.ref b_276), .val (.int ((1 : Int32) &&& ((1 : Int32) &&& ((1 : Int32) &&& (1 : Int32)))))]) rfl kK) ?_
      show Goes pP eE bB _ (T_310.setTop (mkF mM 165 #[.val (.int p1), .val (.int p2), .val (.int p3), .val (.int p4), .val (.int p5), .val (.ref b_1), .val .null, .val (.ref b_225), .val (.ref b_233), .val (.ref b_256), .val (.ref b_276), .val (.int ((1 : Int32) &&& ((1 : Int32) &&& ((1 : Int32) &&& (1 : Int32)))))] []))
      refine Goes.step (fun _ kK => XS.aload X_310.here hx rfl (hb hby at_165) rfl rfl kK) ?_
      show Goes pP eE bB _ (T_310.setTop (mkF mM 167 #[.val (.int p1), .val (.int p2), .val (.int p3), .val (.int p4), .val (.int p5), .val (.ref b_1), .val .null, .val (.ref b_225), .val (.ref b_233), .val (.ref b_256), .val (.ref b_276), .val (.int ((1 : Int32) &&& ((1 : Int32) &&& ((1 : Int32) &&& (1 : Int32)))))] [(.ref b_233)]))
      refine Goes.step (fun _ kK => XS.aload X_310.here hx rfl (hb hby at_167) rfl rfl kK) ?_
      show Goes pP eE bB _ (T_310.setTop (mkF mM 169 #[.val (.int p1), .val (.int p2), .val (.int p3), .val (.int p4), .val (.int p5), .val (.ref b_1), .val .null, .val (.ref b_225), .val (.ref b_233), .val (.ref b_256), .val (.ref b_276), .val (.int ((1 : Int32) &&& ((1 : Int32) &&& ((1 : Int32) &&& (1 : Int32)))))] [(.ref b_256), (.ref b_233)]))
      refine Goes.step (fun _ kK => XS.aload X_310.here hx rfl (hb hby at_169) rfl rfl kK) ?_
      show Goes pP eE bB _ (T_310.setTop (mkF mM 171 #[.val (.int p1), .val (.int p2), .val (.int p3), .val (.int p4), .val (.int p5), .val (.ref b_1), .val .null, .val (.ref b_225), .val (.ref b_233), .val (.ref b_256), .val (.ref b_276), .val (.int ((1 : Int32) &&& ((1 : Int32) &&& ((1 : Int32) &&& (1 : Int32)))))] [(.ref b_276), (.ref b_256), (.ref b_233)]))
      refine Goes.step (fun _ kK => XS.iload X_310.here hx rfl (hb hby at_171) rfl kK) ?_
      show Goes pP eE bB _ (T_310.setTop (mkF mM 173 #[.val (.int p1), .val (.int p2), .val (.int p3), .val (.int p4), .val (.int p5), .val (.ref b_1), .val .null, .val (.ref b_225), .val (.ref b_233), .val (.ref b_256), .val (.ref b_276), .val (.int ((1 : Int32) &&& ((1 : Int32) &&& ((1 : Int32) &&& (1 : Int32)))))] [(.int p5), (.ref b_276), (.ref b_256), (.ref b_233)]))
      refine Goes.step (fun _ kK => XS.iconst X_310.here hx rfl (hb hby at_173) kK) ?_
      show Goes pP eE bB _ (T_310.setTop (mkF mM 174 #[.val (.int p1), .val (.int p2), .val (.int p3), .val (.int p4), .val (.int p5), .val (.ref b_1), .val .null, .val (.ref b_225), .val (.ref b_233), .val (.ref b_256), .val (.ref b_276), .val (.int ((1 : Int32) &&& ((1 : Int32) &&& ((1 : Int32) &&& (1 : Int32)))))] [(.int (3 : Int32)), (.int p5), (.ref b_276), (.ref b_256), (.ref b_233)]))
      refine Goes.step (fun _ kK => XS.iushr X_310.here hx rfl (hb hby at_174) rfl kK) ?_
      show Goes pP eE bB _ (T_310.setTop (mkF mM 175 #[.val (.int p1), .val (.int p2), .val (.int p3), .val (.int p4), .val (.int p5), .val (.ref b_1), .val .null, .val (.ref b_225), .val (.ref b_233), .val (.ref b_256), .val (.ref b_276), .val (.int ((1 : Int32) &&& ((1 : Int32) &&& ((1 : Int32) &&& (1 : Int32)))))] [(.int ((p5.toUInt32 >>> ((3 : Int32) &&& 31).toUInt32).toInt32)), (.ref b_276), (.ref b_256), (.ref b_233)]))
      refine Goes.step (fun _ kK => XS.iconst X_310.here hx rfl (hb hby at_175) kK) ?_
      show Goes pP eE bB _ (T_310.setTop (mkF mM 176 #[.val (.int p1), .val (.int p2), .val (.int p3), .val (.int p4), .val (.int p5), .val (.ref b_1), .val .null, .val (.ref b_225), .val (.ref b_233), .val (.ref b_256), .val (.ref b_276), .val (.int ((1 : Int32) &&& ((1 : Int32) &&& ((1 : Int32) &&& (1 : Int32)))))] [(.int (1 : Int32)), (.int ((p5.toUInt32 >>> ((3 : Int32) &&& 31).toUInt32).toInt32)), (.ref b_276), (.ref b_256), (.ref b_233)]))
      refine Goes.step (fun _ kK => XS.iand X_310.here hx rfl (hb hby at_176) rfl kK) ?_
      show Goes pP eE bB _ (T_310.setTop (mkF mM 177 #[.val (.int p1), .val (.int p2), .val (.int p3), .val (.int p4), .val (.int p5), .val (.ref b_1), .val .null, .val (.ref b_225), .val (.ref b_233), .val (.ref b_256), .val (.ref b_276), .val (.int ((1 : Int32) &&& ((1 : Int32) &&& ((1 : Int32) &&& (1 : Int32)))))] [(.int (((p5.toUInt32 >>> ((3 : Int32) &&& 31).toUInt32).toInt32) &&& (1 : Int32))), (.ref b_276), (.ref b_256), (.ref b_233)]))
      have u_311 := Nat.le_trans u_307 K_310.1
      have u_312 := u_308.keep K_310
      have u_313 := u_309.keep K_310
      refine Goes.callS X_310 hx hZ hown (hw _ (List.mem_of_getElem? (i := 43) rfl)) (hw _ (List.mem_of_getElem? (i := 44) rfl)) (hw _ (List.mem_of_getElem? (i := 24) rfl)) (hw _ (List.mem_of_getElem? (i := 45) rfl)) (by decide) e_310 (rmP l Z a0 hw b_233 b_256 b_276 (((p5.toUInt32 >>> ((3 : Int32) &&& 31).toUInt32).toInt32) &&& (1 : Int32)) x_310 y_310 h_310 n0 u_311 (own_bit _) ((0 : Int) + 1 + 1 + 1) (by decide) u_312 u_313 u_242 u_266 u_289 (Nat.ne_of_lt u_264) (Nat.ne_of_lt u_285) (Nat.ne_of_lt u_287) I_310) (W := 0) (by decide) (by decide) (by decide) (by decide) (g := (mkF mM 177 #[.val (.int p1), .val (.int p2), .val (.int p3), .val (.int p4), .val (.int p5), .val (.ref b_1), .val .null, .val (.ref b_225), .val (.ref b_233), .val (.ref b_256), .val (.ref b_276), .val (.int ((1 : Int32) &&& ((1 : Int32) &&& ((1 : Int32) &&& (1 : Int32)))))] [(.int (((p5.toUInt32 >>> ((3 : Int32) &&& 31).toUInt32).toInt32) &&& (1 : Int32))), (.ref b_276), (.ref b_256), (.ref b_233)])) rfl (by rw [hml]; rfl) (rest := []) own_pd5 rfl rfl (by show 2 * 0 + _ ≤ _; exact Nat.le_of_eq rfl) (hb hby at_177) ?_
      intro v_314 T_314 L_314 X_314 hQ_314
      generalize e_314 : T_314.heap = h_314 at hQ_314
      obtain ⟨rfl, N_314q, K_314, x_314, y_314, I_314⟩ := hQ_314
      have N_314 := Fr.app N_310 N_314q
      show Goes pP eE bB _ (T_314.setTop (mkF mM 180 #[.val (.int p1), .val (.int p2), .val (.int p3), .val (.int p4), .val (.int p5), .val (.ref b_1), .val .null, .val (.ref b_225), .val (.ref b_233), .val (.ref b_256), .val (.ref b_276), .val (.int ((1 : Int32) &&& ((1 : Int32) &&& ((1 : Int32) &&& (1 : Int32)))))] [(.int (1 : Int32))]))
      refine Goes.step (fun _ kK => XS.iload X_314.here hx rfl (hb hby at_180) rfl kK) ?_
      show Goes pP eE bB _ (T_314.setTop (mkF mM 182 #[.val (.int p1), .val (.int p2), .val (.int p3), .val (.int p4), .val (.int p5), .val (.ref b_1), .val .null, .val (.ref b_225), .val (.ref b_233), .val (.ref b_256), .val (.ref b_276), .val (.int ((1 : Int32) &&& ((1 : Int32) &&& ((1 : Int32) &&& (1 : Int32)))))] [(.int ((1 : Int32) &&& ((1 : Int32) &&& ((1 : Int32) &&& (1 : Int32))))), (.int (1 : Int32))]))
      refine Goes.step (fun _ kK => XS.iand X_314.here hx rfl (hb hby at_182) rfl kK) ?_
      show Goes pP eE bB _ (T_314.setTop (mkF mM 183 #[.val (.int p1), .val (.int p2), .val (.int p3), .val (.int p4), .val (.int p5), .val (.ref b_1), .val .null, .val (.ref b_225), .val (.ref b_233), .val (.ref b_256), .val (.ref b_276), .val (.int ((1 : Int32) &&& ((1 : Int32) &&& ((1 : Int32) &&& (1 : Int32)))))] [(.int ((1 : Int32) &&& ((1 : Int32) &&& ((1 : Int32) &&& ((1 : Int32) &&& (1 : Int32))))))]))
      refine Goes.step (fun _ kK => XS.istore X_314.here hx rfl (hb hby at_183) rfl (l' := #[.val (.int p1), .val (.int p2), .val (.int p3), .val (.int p4), .val (.int p5), .val (.ref b_1), .val .null, .val (.ref b_225), .val (.ref b_233), .val (.ref b_256), .val (.ref b_276), .val (.int ((1 : Int32) &&& ((1 : Int32) &&& ((1 : Int32) &&& ((1 : Int32) &&& (1 : Int32))))))]) rfl kK) ?_
      show Goes pP eE bB _ (T_314.setTop (mkF mM 185 #[.val (.int p1), .val (.int p2), .val (.int p3), .val (.int p4), .val (.int p5), .val (.ref b_1), .val .null, .val (.ref b_225), .val (.ref b_233), .val (.ref b_256), .val (.ref b_276), .val (.int ((1 : Int32) &&& ((1 : Int32) &&& ((1 : Int32) &&& ((1 : Int32) &&& (1 : Int32))))))] []))
      refine Goes.step (fun _ kK => XS.aload X_314.here hx rfl (hb hby at_185) rfl rfl kK) ?_
      show Goes pP eE bB _ (T_314.setTop (mkF mM 187 #[.val (.int p1), .val (.int p2), .val (.int p3), .val (.int p4), .val (.int p5), .val (.ref b_1), .val .null, .val (.ref b_225), .val (.ref b_233), .val (.ref b_256), .val (.ref b_276), .val (.int ((1 : Int32) &&& ((1 : Int32) &&& ((1 : Int32) &&& ((1 : Int32) &&& (1 : Int32))))))] [(.ref b_233)]))
      refine Goes.step (fun _ kK => XS.aload X_314.here hx rfl (hb hby at_187) rfl rfl kK) ?_
      show Goes pP eE bB _ (T_314.setTop (mkF mM 189 #[.val (.int p1), .val (.int p2), .val (.int p3), .val (.int p4), .val (.int p5), .val (.ref b_1), .val .null, .val (.ref b_225), .val (.ref b_233), .val (.ref b_256), .val (.ref b_276), .val (.int ((1 : Int32) &&& ((1 : Int32) &&& ((1 : Int32) &&& ((1 : Int32) &&& (1 : Int32))))))] [(.ref b_256), (.ref b_233)]))
      refine Goes.step (fun _ kK => XS.aload X_314.here hx rfl (hb hby at_189) rfl rfl kK) ?_
      show Goes pP eE bB _ (T_314.setTop (mkF mM 191 #[.val (.int p1), .val (.int p2), .val (.int p3), .val (.int p4), .val (.int p5), .val (.ref b_1), .val .null, .val (.ref b_225), .val (.ref b_233), .val (.ref b_256), .val (.ref b_276), .val (.int ((1 : Int32) &&& ((1 : Int32) &&& ((1 : Int32) &&& ((1 : Int32) &&& (1 : Int32))))))] [(.ref b_276), (.ref b_256), (.ref b_233)]))
      refine Goes.step (fun _ kK => XS.iload X_314.here hx rfl (hb hby at_191) rfl kK) ?_
      show Goes pP eE bB _ (T_314.setTop (mkF mM 193 #[.val (.int p1), .val (.int p2), .val (.int p3), .val (.int p4), .val (.int p5), .val (.ref b_1), .val .null, .val (.ref b_225), .val (.ref b_233), .val (.ref b_256), .val (.ref b_276), .val (.int ((1 : Int32) &&& ((1 : Int32) &&& ((1 : Int32) &&& ((1 : Int32) &&& (1 : Int32))))))] [(.int p5), (.ref b_276), (.ref b_256), (.ref b_233)]))
      refine Goes.step (fun _ kK => XS.iconst X_314.here hx rfl (hb hby at_193) kK) ?_
      show Goes pP eE bB _ (T_314.setTop (mkF mM 194 #[.val (.int p1), .val (.int p2), .val (.int p3), .val (.int p4), .val (.int p5), .val (.ref b_1), .val .null, .val (.ref b_225), .val (.ref b_233), .val (.ref b_256), .val (.ref b_276), .val (.int ((1 : Int32) &&& ((1 : Int32) &&& ((1 : Int32) &&& ((1 : Int32) &&& (1 : Int32))))))] [(.int (4 : Int32)), (.int p5), (.ref b_276), (.ref b_256), (.ref b_233)]))
      refine Goes.step (fun _ kK => XS.iushr X_314.here hx rfl (hb hby at_194) rfl kK) ?_
      show Goes pP eE bB _ (T_314.setTop (mkF mM 195 #[.val (.int p1), .val (.int p2), .val (.int p3), .val (.int p4), .val (.int p5), .val (.ref b_1), .val .null, .val (.ref b_225), .val (.ref b_233), .val (.ref b_256), .val (.ref b_276), .val (.int ((1 : Int32) &&& ((1 : Int32) &&& ((1 : Int32) &&& ((1 : Int32) &&& (1 : Int32))))))] [(.int ((p5.toUInt32 >>> ((4 : Int32) &&& 31).toUInt32).toInt32)), (.ref b_276), (.ref b_256), (.ref b_233)]))
      refine Goes.step (fun _ kK => XS.iconst X_314.here hx rfl (hb hby at_195) kK) ?_
      show Goes pP eE bB _ (T_314.setTop (mkF mM 196 #[.val (.int p1), .val (.int p2), .val (.int p3), .val (.int p4), .val (.int p5), .val (.ref b_1), .val .null, .val (.ref b_225), .val (.ref b_233), .val (.ref b_256), .val (.ref b_276), .val (.int ((1 : Int32) &&& ((1 : Int32) &&& ((1 : Int32) &&& ((1 : Int32) &&& (1 : Int32))))))] [(.int (1 : Int32)), (.int ((p5.toUInt32 >>> ((4 : Int32) &&& 31).toUInt32).toInt32)), (.ref b_276), (.ref b_256), (.ref b_233)]))
      refine Goes.step (fun _ kK => XS.iand X_314.here hx rfl (hb hby at_196) rfl kK) ?_
      show Goes pP eE bB _ (T_314.setTop (mkF mM 197 #[.val (.int p1), .val (.int p2), .val (.int p3), .val (.int p4), .val (.int p5), .val (.ref b_1), .val .null, .val (.ref b_225), .val (.ref b_233), .val (.ref b_256), .val (.ref b_276), .val (.int ((1 : Int32) &&& ((1 : Int32) &&& ((1 : Int32) &&& ((1 : Int32) &&& (1 : Int32))))))] [(.int (((p5.toUInt32 >>> ((4 : Int32) &&& 31).toUInt32).toInt32) &&& (1 : Int32))), (.ref b_276), (.ref b_256), (.ref b_233)]))
      have u_315 := Nat.le_trans u_311 K_314.1
      have u_316 := u_312.keep K_314
      have u_317 := u_313.keep K_314
      refine Goes.callS X_314 hx hZ hown (hw _ (List.mem_of_getElem? (i := 43) rfl)) (hw _ (List.mem_of_getElem? (i := 44) rfl)) (hw _ (List.mem_of_getElem? (i := 24) rfl)) (hw _ (List.mem_of_getElem? (i := 45) rfl)) (by decide) e_314 (rmP l Z a0 hw b_233 b_256 b_276 (((p5.toUInt32 >>> ((4 : Int32) &&& 31).toUInt32).toInt32) &&& (1 : Int32)) x_314 y_314 h_314 n0 u_315 (own_bit _) ((0 : Int) + 1 + 1 + 1 + 1) (by decide) u_316 u_317 u_242 u_266 u_289 (Nat.ne_of_lt u_264) (Nat.ne_of_lt u_285) (Nat.ne_of_lt u_287) I_314) (W := 0) (by decide) (by decide) (by decide) (by decide) (g := (mkF mM 197 #[.val (.int p1), .val (.int p2), .val (.int p3), .val (.int p4), .val (.int p5), .val (.ref b_1), .val .null, .val (.ref b_225), .val (.ref b_233), .val (.ref b_256), .val (.ref b_276), .val (.int ((1 : Int32) &&& ((1 : Int32) &&& ((1 : Int32) &&& ((1 : Int32) &&& (1 : Int32))))))] [(.int (((p5.toUInt32 >>> ((4 : Int32) &&& 31).toUInt32).toInt32) &&& (1 : Int32))), (.ref b_276), (.ref b_256), (.ref b_233)])) rfl (by rw [hml]; rfl) (rest := []) own_pd5 rfl rfl (by show 2 * 0 + _ ≤ _; exact Nat.le_of_eq rfl) (hb hby at_197) ?_
      intro v_318 T_318 L_318 X_318 hQ_318
      generalize e_318 : T_318.heap = h_318 at hQ_318
      obtain ⟨rfl, N_318q, K_318, x_318, y_318, I_318⟩ := hQ_318
      have N_318 := Fr.app N_314 N_318q
      show Goes pP eE bB _ (T_318.setTop (mkF mM 200 #[.val (.int p1), .val (.int p2), .val (.int p3), .val (.int p4), .val (.int p5), .val (.ref b_1), .val .null, .val (.ref b_225), .val (.ref b_233), .val (.ref b_256), .val (.ref b_276), .val (.int ((1 : Int32) &&& ((1 : Int32) &&& ((1 : Int32) &&& ((1 : Int32) &&& (1 : Int32))))))] [(.int (1 : Int32))]))
      refine Goes.step (fun _ kK => XS.iload X_318.here hx rfl (hb hby at_200) rfl kK) ?_
      show Goes pP eE bB _ (T_318.setTop (mkF mM 202 #[.val (.int p1), .val (.int p2), .val (.int p3), .val (.int p4), .val (.int p5), .val (.ref b_1), .val .null, .val (.ref b_225), .val (.ref b_233), .val (.ref b_256), .val (.ref b_276), .val (.int ((1 : Int32) &&& ((1 : Int32) &&& ((1 : Int32) &&& ((1 : Int32) &&& (1 : Int32))))))] [(.int ((1 : Int32) &&& ((1 : Int32) &&& ((1 : Int32) &&& ((1 : Int32) &&& (1 : Int32)))))), (.int (1 : Int32))]))
      refine Goes.step (fun _ kK => XS.iand X_318.here hx rfl (hb hby at_202) rfl kK) ?_
      show Goes pP eE bB _ (T_318.setTop (mkF mM 203 #[.val (.int p1), .val (.int p2), .val (.int p3), .val (.int p4), .val (.int p5), .val (.ref b_1), .val .null, .val (.ref b_225), .val (.ref b_233), .val (.ref b_256), .val (.ref b_276), .val (.int ((1 : Int32) &&& ((1 : Int32) &&& ((1 : Int32) &&& ((1 : Int32) &&& (1 : Int32))))))] [(.int ((1 : Int32) &&& ((1 : Int32) &&& ((1 : Int32) &&& ((1 : Int32) &&& ((1 : Int32) &&& (1 : Int32)))))))]))
      refine Goes.step (fun _ kK => XS.istore X_318.here hx rfl (hb hby at_203) rfl (l' := #[.val (.int p1), .val (.int p2), .val (.int p3), .val (.int p4), .val (.int p5), .val (.ref b_1), .val .null, .val (.ref b_225), .val (.ref b_233), .val (.ref b_256), .val (.ref b_276), .val (.int ((1 : Int32) &&& ((1 : Int32) &&& ((1 : Int32) &&& ((1 : Int32) &&& ((1 : Int32) &&& (1 : Int32)))))))]) rfl kK) ?_
      show Goes pP eE bB _ (T_318.setTop (mkF mM 205 #[.val (.int p1), .val (.int p2), .val (.int p3), .val (.int p4), .val (.int p5), .val (.ref b_1), .val .null, .val (.ref b_225), .val (.ref b_233), .val (.ref b_256), .val (.ref b_276), .val (.int ((1 : Int32) &&& ((1 : Int32) &&& ((1 : Int32) &&& ((1 : Int32) &&& ((1 : Int32) &&& (1 : Int32)))))))] []))
      refine Goes.step (fun _ kK => XS.aload X_318.here hx rfl (hb hby at_205) rfl rfl kK) ?_
      show Goes pP eE bB _ (T_318.setTop (mkF mM 207 #[.val (.int p1), .val (.int p2), .val (.int p3), .val (.int p4), .val (.int p5), .val (.ref b_1), .val .null, .val (.ref b_225), .val (.ref b_233), .val (.ref b_256), .val (.ref b_276), .val (.int ((1 : Int32) &&& ((1 : Int32) &&& ((1 : Int32) &&& ((1 : Int32) &&& ((1 : Int32) &&& (1 : Int32)))))))] [(.ref b_233)]))
      refine Goes.step (fun _ kK => XS.aload X_318.here hx rfl (hb hby at_207) rfl rfl kK) ?_
      show Goes pP eE bB _ (T_318.setTop (mkF mM 209 #[.val (.int p1), .val (.int p2), .val (.int p3), .val (.int p4), .val (.int p5), .val (.ref b_1), .val .null, .val (.ref b_225), .val (.ref b_233), .val (.ref b_256), .val (.ref b_276), .val (.int ((1 : Int32) &&& ((1 : Int32) &&& ((1 : Int32) &&& ((1 : Int32) &&& ((1 : Int32) &&& (1 : Int32)))))))] [(.ref b_256), (.ref b_233)]))
      refine Goes.step (fun _ kK => XS.aload X_318.here hx rfl (hb hby at_209) rfl rfl kK) ?_
      show Goes pP eE bB _ (T_318.setTop (mkF mM 211 #[.val (.int p1), .val (.int p2), .val (.int p3), .val (.int p4), .val (.int p5), .val (.ref b_1), .val .null, .val (.ref b_225), .val (.ref b_233), .val (.ref b_256), .val (.ref b_276), .val (.int ((1 : Int32) &&& ((1 : Int32) &&& ((1 : Int32) &&& ((1 : Int32) &&& ((1 : Int32) &&& (1 : Int32)))))))] [(.ref b_276), (.ref b_256), (.ref b_233)]))
      refine Goes.step (fun _ kK => XS.iload X_318.here hx rfl (hb hby at_211) rfl kK) ?_
      show Goes pP eE bB _ (T_318.setTop (mkF mM 213 #[.val (.int p1), .val (.int p2), .val (.int p3), .val (.int p4), .val (.int p5), .val (.ref b_1), .val .null, .val (.ref b_225), .val (.ref b_233), .val (.ref b_256), .val (.ref b_276), .val (.int ((1 : Int32) &&& ((1 : Int32) &&& ((1 : Int32) &&& ((1 : Int32) &&& ((1 : Int32) &&& (1 : Int32)))))))] [(.int p5), (.ref b_276), (.ref b_256), (.ref b_233)]))
      refine Goes.step (fun _ kK => XS.iconst X_318.here hx rfl (hb hby at_213) kK) ?_
      show Goes pP eE bB _ (T_318.setTop (mkF mM 214 #[.val (.int p1), .val (.int p2), .val (.int p3), .val (.int p4), .val (.int p5), .val (.ref b_1), .val .null, .val (.ref b_225), .val (.ref b_233), .val (.ref b_256), .val (.ref b_276), .val (.int ((1 : Int32) &&& ((1 : Int32) &&& ((1 : Int32) &&& ((1 : Int32) &&& ((1 : Int32) &&& (1 : Int32)))))))] [(.int (5 : Int32)), (.int p5), (.ref b_276), (.ref b_256), (.ref b_233)]))
      refine Goes.step (fun _ kK => XS.iushr X_318.here hx rfl (hb hby at_214) rfl kK) ?_
      show Goes pP eE bB _ (T_318.setTop (mkF mM 215 #[.val (.int p1), .val (.int p2), .val (.int p3), .val (.int p4), .val (.int p5), .val (.ref b_1), .val .null, .val (.ref b_225), .val (.ref b_233), .val (.ref b_256), .val (.ref b_276), .val (.int ((1 : Int32) &&& ((1 : Int32) &&& ((1 : Int32) &&& ((1 : Int32) &&& ((1 : Int32) &&& (1 : Int32)))))))] [(.int ((p5.toUInt32 >>> ((5 : Int32) &&& 31).toUInt32).toInt32)), (.ref b_276), (.ref b_256), (.ref b_233)]))
      refine Goes.step (fun _ kK => XS.iconst X_318.here hx rfl (hb hby at_215) kK) ?_
      show Goes pP eE bB _ (T_318.setTop (mkF mM 216 #[.val (.int p1), .val (.int p2), .val (.int p3), .val (.int p4), .val (.int p5), .val (.ref b_1), .val .null, .val (.ref b_225), .val (.ref b_233), .val (.ref b_256), .val (.ref b_276), .val (.int ((1 : Int32) &&& ((1 : Int32) &&& ((1 : Int32) &&& ((1 : Int32) &&& ((1 : Int32) &&& (1 : Int32)))))))] [(.int (1 : Int32)), (.int ((p5.toUInt32 >>> ((5 : Int32) &&& 31).toUInt32).toInt32)), (.ref b_276), (.ref b_256), (.ref b_233)]))
      refine Goes.step (fun _ kK => XS.iand X_318.here hx rfl (hb hby at_216) rfl kK) ?_
      show Goes pP eE bB _ (T_318.setTop (mkF mM 217 #[.val (.int p1), .val (.int p2), .val (.int p3), .val (.int p4), .val (.int p5), .val (.ref b_1), .val .null, .val (.ref b_225), .val (.ref b_233), .val (.ref b_256), .val (.ref b_276), .val (.int ((1 : Int32) &&& ((1 : Int32) &&& ((1 : Int32) &&& ((1 : Int32) &&& ((1 : Int32) &&& (1 : Int32)))))))] [(.int (((p5.toUInt32 >>> ((5 : Int32) &&& 31).toUInt32).toInt32) &&& (1 : Int32))), (.ref b_276), (.ref b_256), (.ref b_233)]))
      have u_319 := Nat.le_trans u_315 K_318.1
      have u_320 := u_316.keep K_318
      have u_321 := u_317.keep K_318
      refine Goes.callS X_318 hx hZ hown (hw _ (List.mem_of_getElem? (i := 43) rfl)) (hw _ (List.mem_of_getElem? (i := 44) rfl)) (hw _ (List.mem_of_getElem? (i := 24) rfl)) (hw _ (List.mem_of_getElem? (i := 45) rfl)) (by decide) e_318 (rmP l Z a0 hw b_233 b_256 b_276 (((p5.toUInt32 >>> ((5 : Int32) &&& 31).toUInt32).toInt32) &&& (1 : Int32)) x_318 y_318 h_318 n0 u_319 (own_bit _) ((0 : Int) + 1 + 1 + 1 + 1 + 1) (by decide) u_320 u_321 u_242 u_266 u_289 (Nat.ne_of_lt u_264) (Nat.ne_of_lt u_285) (Nat.ne_of_lt u_287) I_318) (W := 0) (by decide) (by decide) (by decide) (by decide) (g := (mkF mM 217 #[.val (.int p1), .val (.int p2), .val (.int p3), .val (.int p4), .val (.int p5), .val (.ref b_1), .val .null, .val (.ref b_225), .val (.ref b_233), .val (.ref b_256), .val (.ref b_276), .val (.int ((1 : Int32) &&& ((1 : Int32) &&& ((1 : Int32) &&& ((1 : Int32) &&& ((1 : Int32) &&& (1 : Int32)))))))] [(.int (((p5.toUInt32 >>> ((5 : Int32) &&& 31).toUInt32).toInt32) &&& (1 : Int32))), (.ref b_276), (.ref b_256), (.ref b_233)])) rfl (by rw [hml]; rfl) (rest := []) own_pd5 rfl rfl (by show 2 * 0 + _ ≤ _; exact Nat.le_of_eq rfl) (hb hby at_217) ?_
      intro v_322 T_322 L_322 X_322 hQ_322
      generalize e_322 : T_322.heap = h_322 at hQ_322
      obtain ⟨rfl, N_322q, K_322, x_322, y_322, I_322⟩ := hQ_322
      have N_322 := Fr.app N_318 N_322q
      show Goes pP eE bB _ (T_322.setTop (mkF mM 220 #[.val (.int p1), .val (.int p2), .val (.int p3), .val (.int p4), .val (.int p5), .val (.ref b_1), .val .null, .val (.ref b_225), .val (.ref b_233), .val (.ref b_256), .val (.ref b_276), .val (.int ((1 : Int32) &&& ((1 : Int32) &&& ((1 : Int32) &&& ((1 : Int32) &&& ((1 : Int32) &&& (1 : Int32)))))))] [(.int (1 : Int32))]))
      refine Goes.step (fun _ kK => XS.iload X_322.here hx rfl (hb hby at_220) rfl kK) ?_
      show Goes pP eE bB _ (T_322.setTop (mkF mM 222 #[.val (.int p1), .val (.int p2), .val (.int p3), .val (.int p4), .val (.int p5), .val (.ref b_1), .val .null, .val (.ref b_225), .val (.ref b_233), .val (.ref b_256), .val (.ref b_276), .val (.int ((1 : Int32) &&& ((1 : Int32) &&& ((1 : Int32) &&& ((1 : Int32) &&& ((1 : Int32) &&& (1 : Int32)))))))] [(.int ((1 : Int32) &&& ((1 : Int32) &&& ((1 : Int32) &&& ((1 : Int32) &&& ((1 : Int32) &&& (1 : Int32))))))), (.int (1 : Int32))]))
      refine Goes.step (fun _ kK => XS.iand X_322.here hx rfl (hb hby at_222) rfl kK) ?_
      show Goes pP eE bB _ (T_322.setTop (mkF mM 223 #[.val (.int p1), .val (.int p2), .val (.int p3), .val (.int p4), .val (.int p5), .val (.ref b_1), .val .null, .val (.ref b_225), .val (.ref b_233), .val (.ref b_256), .val (.ref b_276), .val (.int ((1 : Int32) &&& ((1 : Int32) &&& ((1 : Int32) &&& ((1 : Int32) &&& ((1 : Int32) &&& (1 : Int32)))))))] [(.int ((1 : Int32) &&& ((1 : Int32) &&& ((1 : Int32) &&& ((1 : Int32) &&& ((1 : Int32) &&& ((1 : Int32) &&& (1 : Int32))))))))]))
      refine Goes.step (fun _ kK => XS.istore X_322.here hx rfl (hb hby at_223) rfl (l' := #[.val (.int p1), .val (.int p2), .val (.int p3), .val (.int p4), .val (.int p5), .val (.ref b_1), .val .null, .val (.ref b_225), .val (.ref b_233), .val (.ref b_256), .val (.ref b_276), .val (.int ((1 : Int32) &&& ((1 : Int32) &&& ((1 : Int32) &&& ((1 : Int32) &&& ((1 : Int32) &&& ((1 : Int32) &&& (1 : Int32))))))))]) rfl kK) ?_
      show Goes pP eE bB _ (T_322.setTop (mkF mM 225 #[.val (.int p1), .val (.int p2), .val (.int p3), .val (.int p4), .val (.int p5), .val (.ref b_1), .val .null, .val (.ref b_225), .val (.ref b_233), .val (.ref b_256), .val (.ref b_276), .val (.int ((1 : Int32) &&& ((1 : Int32) &&& ((1 : Int32) &&& ((1 : Int32) &&& ((1 : Int32) &&& ((1 : Int32) &&& (1 : Int32))))))))] []))
      refine Goes.step (fun _ kK => XS.aload X_322.here hx rfl (hb hby at_225) rfl rfl kK) ?_
      show Goes pP eE bB _ (T_322.setTop (mkF mM 227 #[.val (.int p1), .val (.int p2), .val (.int p3), .val (.int p4), .val (.int p5), .val (.ref b_1), .val .null, .val (.ref b_225), .val (.ref b_233), .val (.ref b_256), .val (.ref b_276), .val (.int ((1 : Int32) &&& ((1 : Int32) &&& ((1 : Int32) &&& ((1 : Int32) &&& ((1 : Int32) &&& ((1 : Int32) &&& (1 : Int32))))))))] [(.ref b_233)]))
      refine Goes.step (fun _ kK => XS.aload X_322.here hx rfl (hb hby at_227) rfl rfl kK) ?_
      show Goes pP eE bB _ (T_322.setTop (mkF mM 229 #[.val (.int p1), .val (.int p2), .val (.int p3), .val (.int p4), .val (.int p5), .val (.ref b_1), .val .null, .val (.ref b_225), .val (.ref b_233), .val (.ref b_256), .val (.ref b_276), .val (.int ((1 : Int32) &&& ((1 : Int32) &&& ((1 : Int32) &&& ((1 : Int32) &&& ((1 : Int32) &&& ((1 : Int32) &&& (1 : Int32))))))))] [(.ref b_256), (.ref b_233)]))
      refine Goes.step (fun _ kK => XS.aload X_322.here hx rfl (hb hby at_229) rfl rfl kK) ?_
      show Goes pP eE bB _ (T_322.setTop (mkF mM 231 #[.val (.int p1), .val (.int p2), .val (.int p3), .val (.int p4), .val (.int p5), .val (.ref b_1), .val .null, .val (.ref b_225), .val (.ref b_233), .val (.ref b_256), .val (.ref b_276), .val (.int ((1 : Int32) &&& ((1 : Int32) &&& ((1 : Int32) &&& ((1 : Int32) &&& ((1 : Int32) &&& ((1 : Int32) &&& (1 : Int32))))))))] [(.ref b_276), (.ref b_256), (.ref b_233)]))
      refine Goes.step (fun _ kK => XS.iload X_322.here hx rfl (hb hby at_231) rfl kK) ?_
      show Goes pP eE bB _ (T_322.setTop (mkF mM 233 #[.val (.int p1), .val (.int p2), .val (.int p3), .val (.int p4), .val (.int p5), .val (.ref b_1), .val .null, .val (.ref b_225), .val (.ref b_233), .val (.ref b_256), .val (.ref b_276), .val (.int ((1 : Int32) &&& ((1 : Int32) &&& ((1 : Int32) &&& ((1 : Int32) &&& ((1 : Int32) &&& ((1 : Int32) &&& (1 : Int32))))))))] [(.int p5), (.ref b_276), (.ref b_256), (.ref b_233)]))
      refine Goes.step (fun _ kK => XS.bipush X_322.here hx rfl (hb hby at_233) kK) ?_
      show Goes pP eE bB _ (T_322.setTop (mkF mM 235 #[.val (.int p1), .val (.int p2), .val (.int p3), .val (.int p4), .val (.int p5), .val (.ref b_1), .val .null, .val (.ref b_225), .val (.ref b_233), .val (.ref b_256), .val (.ref b_276), .val (.int ((1 : Int32) &&& ((1 : Int32) &&& ((1 : Int32) &&& ((1 : Int32) &&& ((1 : Int32) &&& ((1 : Int32) &&& (1 : Int32))))))))] [(.int (6 : Int32)), (.int p5), (.ref b_276), (.ref b_256), (.ref b_233)]))
      refine Goes.step (fun _ kK => XS.iushr X_322.here hx rfl (hb hby at_235) rfl kK) ?_
      show Goes pP eE bB _ (T_322.setTop (mkF mM 236 #[.val (.int p1), .val (.int p2), .val (.int p3), .val (.int p4), .val (.int p5), .val (.ref b_1), .val .null, .val (.ref b_225), .val (.ref b_233), .val (.ref b_256), .val (.ref b_276), .val (.int ((1 : Int32) &&& ((1 : Int32) &&& ((1 : Int32) &&& ((1 : Int32) &&& ((1 : Int32) &&& ((1 : Int32) &&& (1 : Int32))))))))] [(.int ((p5.toUInt32 >>> ((6 : Int32) &&& 31).toUInt32).toInt32)), (.ref b_276), (.ref b_256), (.ref b_233)]))
      refine Goes.step (fun _ kK => XS.iconst X_322.here hx rfl (hb hby at_236) kK) ?_
      show Goes pP eE bB _ (T_322.setTop (mkF mM 237 #[.val (.int p1), .val (.int p2), .val (.int p3), .val (.int p4), .val (.int p5), .val (.ref b_1), .val .null, .val (.ref b_225), .val (.ref b_233), .val (.ref b_256), .val (.ref b_276), .val (.int ((1 : Int32) &&& ((1 : Int32) &&& ((1 : Int32) &&& ((1 : Int32) &&& ((1 : Int32) &&& ((1 : Int32) &&& (1 : Int32))))))))] [(.int (1 : Int32)), (.int ((p5.toUInt32 >>> ((6 : Int32) &&& 31).toUInt32).toInt32)), (.ref b_276), (.ref b_256), (.ref b_233)]))
      refine Goes.step (fun _ kK => XS.iand X_322.here hx rfl (hb hby at_237) rfl kK) ?_
      show Goes pP eE bB _ (T_322.setTop (mkF mM 238 #[.val (.int p1), .val (.int p2), .val (.int p3), .val (.int p4), .val (.int p5), .val (.ref b_1), .val .null, .val (.ref b_225), .val (.ref b_233), .val (.ref b_256), .val (.ref b_276), .val (.int ((1 : Int32) &&& ((1 : Int32) &&& ((1 : Int32) &&& ((1 : Int32) &&& ((1 : Int32) &&& ((1 : Int32) &&& (1 : Int32))))))))] [(.int (((p5.toUInt32 >>> ((6 : Int32) &&& 31).toUInt32).toInt32) &&& (1 : Int32))), (.ref b_276), (.ref b_256), (.ref b_233)]))
      have u_323 := Nat.le_trans u_319 K_322.1
      have u_324 := u_320.keep K_322
      have u_325 := u_321.keep K_322
      refine Goes.callS X_322 hx hZ hown (hw _ (List.mem_of_getElem? (i := 43) rfl)) (hw _ (List.mem_of_getElem? (i := 44) rfl)) (hw _ (List.mem_of_getElem? (i := 24) rfl)) (hw _ (List.mem_of_getElem? (i := 45) rfl)) (by decide) e_322 (rmP l Z a0 hw b_233 b_256 b_276 (((p5.toUInt32 >>> ((6 : Int32) &&& 31).toUInt32).toInt32) &&& (1 : Int32)) x_322 y_322 h_322 n0 u_323 (own_bit _) ((0 : Int) + 1 + 1 + 1 + 1 + 1 + 1) (by decide) u_324 u_325 u_242 u_266 u_289 (Nat.ne_of_lt u_264) (Nat.ne_of_lt u_285) (Nat.ne_of_lt u_287) I_322) (W := 0) (by decide) (by decide) (by decide) (by decide) (g := (mkF mM 238 #[.val (.int p1), .val (.int p2), .val (.int p3), .val (.int p4), .val (.int p5), .val (.ref b_1), .val .null, .val (.ref b_225), .val (.ref b_233), .val (.ref b_256), .val (.ref b_276), .val (.int ((1 : Int32) &&& ((1 : Int32) &&& ((1 : Int32) &&& ((1 : Int32) &&& ((1 : Int32) &&& ((1 : Int32) &&& (1 : Int32))))))))] [(.int (((p5.toUInt32 >>> ((6 : Int32) &&& 31).toUInt32).toInt32) &&& (1 : Int32))), (.ref b_276), (.ref b_256), (.ref b_233)])) rfl (by rw [hml]; rfl) (rest := []) own_pd5 rfl rfl (by show 2 * 0 + _ ≤ _; exact Nat.le_of_eq rfl) (hb hby at_238) ?_
      intro v_326 T_326 L_326 X_326 hQ_326
      generalize e_326 : T_326.heap = h_326 at hQ_326
      obtain ⟨rfl, N_326q, K_326, x_326, y_326, I_326⟩ := hQ_326
      have N_326 := Fr.app N_322 N_326q
      show Goes pP eE bB _ (T_326.setTop (mkF mM 241 #[.val (.int p1), .val (.int p2), .val (.int p3), .val (.int p4), .val (.int p5), .val (.ref b_1), .val .null, .val (.ref b_225), .val (.ref b_233), .val (.ref b_256), .val (.ref b_276), .val (.int ((1 : Int32) &&& ((1 : Int32) &&& ((1 : Int32) &&& ((1 : Int32) &&& ((1 : Int32) &&& ((1 : Int32) &&& (1 : Int32))))))))] [(.int (1 : Int32))]))
      refine Goes.step (fun _ kK => XS.iload X_326.here hx rfl (hb hby at_241) rfl kK) ?_
      show Goes pP eE bB _ (T_326.setTop (mkF mM 243 #[.val (.int p1), .val (.int p2), .val (.int p3), .val (.int p4), .val (.int p5), .val (.ref b_1), .val .null, .val (.ref b_225), .val (.ref b_233), .val (.ref b_256), .val (.ref b_276), .val (.int ((1 : Int32) &&& ((1 : Int32) &&& ((1 : Int32) &&& ((1 : Int32) &&& ((1 : Int32) &&& ((1 : Int32) &&& (1 : Int32))))))))] [(.int ((1 : Int32) &&& ((1 : Int32) &&& ((1 : Int32) &&& ((1 : Int32) &&& ((1 : Int32) &&& ((1 : Int32) &&& (1 : Int32)))))))), (.int (1 : Int32))]))
      refine Goes.step (fun _ kK => XS.iand X_326.here hx rfl (hb hby at_243) rfl kK) ?_
      show Goes pP eE bB _ (T_326.setTop (mkF mM 244 #[.val (.int p1), .val (.int p2), .val (.int p3), .val (.int p4), .val (.int p5), .val (.ref b_1), .val .null, .val (.ref b_225), .val (.ref b_233), .val (.ref b_256), .val (.ref b_276), .val (.int ((1 : Int32) &&& ((1 : Int32) &&& ((1 : Int32) &&& ((1 : Int32) &&& ((1 : Int32) &&& ((1 : Int32) &&& (1 : Int32))))))))] [(.int ((1 : Int32) &&& ((1 : Int32) &&& ((1 : Int32) &&& ((1 : Int32) &&& ((1 : Int32) &&& ((1 : Int32) &&& ((1 : Int32) &&& (1 : Int32)))))))))]))
      refine Goes.step (fun _ kK => XS.istore X_326.here hx rfl (hb hby at_244) rfl (l' := #[.val (.int p1), .val (.int p2), .val (.int p3), .val (.int p4), .val (.int p5), .val (.ref b_1), .val .null, .val (.ref b_225), .val (.ref b_233), .val (.ref b_256), .val (.ref b_276), .val (.int ((1 : Int32) &&& ((1 : Int32) &&& ((1 : Int32) &&& ((1 : Int32) &&& ((1 : Int32) &&& ((1 : Int32) &&& ((1 : Int32) &&& (1 : Int32)))))))))]) rfl kK) ?_
      show Goes pP eE bB _ (T_326.setTop (mkF mM 246 #[.val (.int p1), .val (.int p2), .val (.int p3), .val (.int p4), .val (.int p5), .val (.ref b_1), .val .null, .val (.ref b_225), .val (.ref b_233), .val (.ref b_256), .val (.ref b_276), .val (.int ((1 : Int32) &&& ((1 : Int32) &&& ((1 : Int32) &&& ((1 : Int32) &&& ((1 : Int32) &&& ((1 : Int32) &&& ((1 : Int32) &&& (1 : Int32)))))))))] []))
      refine Goes.step (fun _ kK => XS.iload X_326.here hx rfl (hb hby at_246) rfl kK) ?_
      show Goes pP eE bB _ (T_326.setTop (mkF mM 248 #[.val (.int p1), .val (.int p2), .val (.int p3), .val (.int p4), .val (.int p5), .val (.ref b_1), .val .null, .val (.ref b_225), .val (.ref b_233), .val (.ref b_256), .val (.ref b_276), .val (.int ((1 : Int32) &&& ((1 : Int32) &&& ((1 : Int32) &&& ((1 : Int32) &&& ((1 : Int32) &&& ((1 : Int32) &&& ((1 : Int32) &&& (1 : Int32)))))))))] [(.int ((1 : Int32) &&& ((1 : Int32) &&& ((1 : Int32) &&& ((1 : Int32) &&& ((1 : Int32) &&& ((1 : Int32) &&& ((1 : Int32) &&& (1 : Int32)))))))))]))
      refine Goes.retN X_326 hx hlk (t := .boolean) hret (by simp) (hb hby at_248) (by decide) (by decide) ?_
      exact ⟨rfl, N_326⟩
    · refine Goes.step (fun _ kK => XS.ifNo X_6.here hx rfl (hb hby at_36) rfl ((if0 _ _).trans (feq hc_224).1) kK) ?_
      show Goes pP eE bB _ (T_6.setTop (mkF mM 39 #[.val (.int p1), .val (.int p2), .val (.int p3), .val (.int p4), .val (.int p5), .val (.ref b_1), .val .null, .unset, .unset, .unset, .unset, .unset] []))
      refine Goes.step (fun _ kK => XS.aconstNull X_6.here hx rfl (hb hby at_39) kK) ?_
      show Goes pP eE bB _ (T_6.setTop (mkF mM 40 #[.val (.int p1), .val (.int p2), .val (.int p3), .val (.int p4), .val (.int p5), .val (.ref b_1), .val .null, .unset, .unset, .unset, .unset, .unset] [.null]))
      refine Goes.step (fun _ kK => XS.goto X_6.here hx rfl (pc0 := 40) (pc' := 61) rfl (hb hby at_40) (by decide) (by decide) kK) ?_
      show Goes pP eE bB _ (T_6.setTop (mkF mM 61 #[.val (.int p1), .val (.int p2), .val (.int p3), .val (.int p4), .val (.int p5), .val (.ref b_1), .val .null, .unset, .unset, .unset, .unset, .unset] [.null]))
      refine Goes.step (fun _ kK => XS.astore X_6.here hx rfl (hb hby at_61) rfl rfl (l' := #[.val (.int p1), .val (.int p2), .val (.int p3), .val (.int p4), .val (.int p5), .val (.ref b_1), .val .null, .val .null, .unset, .unset, .unset, .unset]) rfl kK) ?_
      show Goes pP eE bB _ (T_6.setTop (mkF mM 63 #[.val (.int p1), .val (.int p2), .val (.int p3), .val (.int p4), .val (.int p5), .val (.ref b_1), .val .null, .val .null, .unset, .unset, .unset, .unset] []))
      obtain ⟨T_327, h_327, X_327, e_327, E_327, A_327, D_327, -, st_327⟩ := newO X_6 hx hZ hown (hw _ (List.mem_of_getElem? (i := 19) rfl)) (hw _ (List.mem_of_getElem? (i := 20) rfl)) (hw _ (List.mem_of_getElem? (i := 21) rfl)) e_6 (g := (mkF mM 63 #[.val (.int p1), .val (.int p2), .val (.int p3), .val (.int p4), .val (.int p5), .val (.ref b_1), .val .null, .val .null, .unset, .unset, .unset, .unset] [])) rfl (hb hby at_63) (by decide) (by decide)
      obtain ⟨b_327, g_327⟩ : ∃ z, z = h_6.size := ⟨_, rfl⟩
      rw [← g_327] at A_327 D_327 st_327
      have u_328 := Nat.lt_of_lt_of_le (A_1).lt K_6.1
      have u_329 : b_1 < b_327 := Nat.lt_of_lt_of_le u_328 (Nat.le_of_eq g_327.symm)
      have u_330 := Nat.le_trans u_5 K_6.1
      have u_331 : n0 ≤ b_327 := Nat.le_trans u_330 (Nat.le_of_eq g_327.symm)
      have u_332 : Fld Z h_327 b_327 "com/example/anchorline/anchorline/tcap/Dialogue" "peer" "Lcom/example/anchorline/anchorline/sccp/SccpAddress;" .null := D_327 (Or.inr (hw _ (List.mem_of_getElem? (i := 35) rfl))) (ty := (.object "com/example/anchorline/anchorline/sccp/SccpAddress")) (by decide)
      have u_333 : Fld Z h_327 b_327 "com/example/anchorline/anchorline/tcap/Dialogue" "applicationContext" "[B" .null := D_327 (Or.inr (hw _ (List.mem_of_getElem? (i := 37) rfl))) (ty := (.array .byte)) (by decide)
      have u_334 : Fld Z h_327 b_327 "com/example/anchorline/anchorline/tcap/Dialogue" "state" "Lcom/example/anchorline/anchorline/tcap/Dialogue$State;" .null := D_327 (Or.inl (hw _ (List.mem_of_getElem? (i := 39) rfl))) (ty := (.object "com/example/anchorline/anchorline/tcap/Dialogue$State")) (by decide)
      have u_335 : Fld Z h_327 b_327 "com/example/anchorline/anchorline/tcap/Dialogue" "lastInvokeId" "I" (.int (0 : Int32)) := D_327 (Or.inl (hw _ (List.mem_of_getElem? (i := 52) rfl))) (ty := .int) (by decide)
      refine Goes.step st_327 ?_
      show Goes pP eE bB _ (T_327.setTop (mkF mM 66 #[.val (.int p1), .val (.int p2), .val (.int p3), .val (.int p4), .val (.int p5), .val (.ref b_1), .val .null, .val .null, .unset, .unset, .unset, .unset] [(.ref b_327)]))
      refine Goes.step (fun _ kK => XS.dup X_327.here hx rfl (hb hby at_66) rfl rfl kK) ?_
      show Goes pP eE bB _ (T_327.setTop (mkF mM 67 #[.val (.int p1), .val (.int p2), .val (.int p3), .val (.int p4), .val (.int p5), .val (.ref b_1), .val .null, .val .null, .unset, .unset, .unset, .unset] [(.ref b_327), (.ref b_327)]))
      refine Goes.step (fun _ kK => XS.aload X_327.here hx rfl (hb hby at_67) rfl rfl kK) ?_
      show Goes pP eE bB _ (T_327.setTop (mkF mM 69 #[.val (.int p1), .val (.int p2), .val (.int p3), .val (.int p4), .val (.int p5), .val (.ref b_1), .val .null, .val .null, .unset, .unset, .unset, .unset] [(.ref b_1), (.ref b_327), (.ref b_327)]))
      refine Goes.step (fun _ kK => XS.aload X_327.here hx rfl (hb hby at_69) rfl rfl kK) ?_
      show Goes pP eE bB _ (T_327.setTop (mkF mM 71 #[.val (.int p1), .val (.int p2), .val (.int p3), .val (.int p4), .val (.int p5), .val (.ref b_1), .val .null, .val .null, .unset, .unset, .unset, .unset] [.null, (.ref b_1), (.ref b_327), (.ref b_327)]))
      refine Goes.step (fun _ kK => XS.iloadN X_327.here hx rfl (hb hby at_71) rfl kK) ?_
      show Goes pP eE bB _ (T_327.setTop (mkF mM 72 #[.val (.int p1), .val (.int p2), .val (.int p3), .val (.int p4), .val (.int p5), .val (.ref b_1), .val .null, .val .null, .unset, .unset, .unset, .unset] [(.int p3), .null, (.ref b_1), (.ref b_327), (.ref b_327)]))
      have u_336 := Nat.le_trans u_330 E_327.1
      have u_337 := O0.ext E_1
      have u_338 := u_337.keep K_6 (allS u_2 all0)
      have u_339 := u_338.ext E_327
      refine Goes.callS X_327 hx hZ hown (hw _ (List.mem_of_getElem? (i := 22) rfl)) (hw _ (List.mem_of_getElem? (i := 23) rfl)) (hw _ (List.mem_of_getElem? (i := 24) rfl)) (hw _ (List.mem_of_getElem? (i := 25) rfl)) (by decide) e_327 (rmT l Z a0 hw p3 w0 w1 w2 w3 w4 w5 h_327 n0 u_336 Sw0 Sw1 Sw2 Sw3 Sw4 Sw5 u_339) (W := 4) (by decide) (by decide) (by decide) (by decide) (g := (mkF mM 72 #[.val (.int p1), .val (.int p2), .val (.int p3), .val (.int p4), .val (.int p5), .val (.ref b_1), .val .null, .val .null, .unset, .unset, .unset, .unset] [(.int p3), .null, (.ref b_1), (.ref b_327), (.ref b_327)])) rfl (by rw [hml]; rfl) (rest := [.null, (.ref b_1), (.ref b_327), (.ref b_327)]) own_pd3 rfl rfl (by show 2 * 0 + _ ≤ _; exact Nat.le_of_eq rfl) (hb hby at_72) ?_
      intro v_340 T_340 L_340 X_340 hQ_340
      obtain ⟨c_340, rfl, N_340q, e_340⟩ := hQ_340
      have N_340 := Fr.app N_6 N_340q
      show Goes pP eE bB _ (T_340.setTop (mkF mM 75 #[.val (.int p1), .val (.int p2), .val (.int p3), .val (.int p4), .val (.int p5), .val (.ref b_1), .val .null, .val .null, .unset, .unset, .unset, .unset] [(.ref c_340), .null, (.ref b_1), (.ref b_327), (.ref b_327)]))
      refine Goes.callI X_340 hx hZ rfl hown (hw _ (List.mem_of_getElem? (i := 30) rfl)) (hw _ (List.mem_of_getElem? (i := 31) rfl)) (hw _ (List.mem_of_getElem? (i := 32) rfl)) (hw _ (List.mem_of_getElem? (i := 21) rfl)) (by decide) e_340 (rmC0 l Z a0 hw b_327 b_1 c_340 h_327 n0 u_336 A_327 u_331 u_332 u_333 u_334 u_335) (W := 1) (by decide) (by decide) (by decide) (by decide) (g := (mkF mM 75 #[.val (.int p1), .val (.int p2), .val (.int p3), .val (.int p4), .val (.int p5), .val (.ref b_1), .val .null, .val .null, .unset, .unset, .unset, .unset] [(.ref c_340), .null, (.ref b_1), (.ref b_327), (.ref b_327)])) rfl (by rw [hml]; rfl) (rest := [(.ref b_327)]) own_pd4 rfl rfl (by show 2 * 0 + _ ≤ _; exact Nat.le_of_eq rfl) (hb hby at_75) ?_
      intro v_341 T_341 L_341 X_341 hQ_341
      generalize e_341 : T_341.heap = h_341 at hQ_341
      obtain ⟨rfl, N_341q, K_341, F_341⟩ := hQ_341
      have N_341 := Fr.app N_340 N_341q
      show Goes pP eE bB _ (T_341.setTop (mkF mM 78 #[.val (.int p1), .val (.int p2), .val (.int p3), .val (.int p4), .val (.int p5), .val (.ref b_1), .val .null, .val .null, .unset, .unset, .unset, .unset] [(.ref b_327)]))
      refine Goes.step (fun _ kK => XS.astore X_341.here hx rfl (hb hby at_78) rfl rfl (l' := #[.val (.int p1), .val (.int p2), .val (.int p3), .val (.int p4), .val (.int p5), .val (.ref b_1), .val .null, .val .null, .val (.ref b_327), .unset, .unset, .unset]) rfl kK) ?_
      show Goes pP eE bB _ (T_341.setTop (mkF mM 80 #[.val (.int p1), .val (.int p2), .val (.int p3), .val (.int p4), .val (.int p5), .val (.ref b_1), .val .null, .val .null, .val (.ref b_327), .unset, .unset, .unset] []))
      obtain ⟨T_342, h_342, X_342, e_342, E_342, A_342, D_342, -, st_342⟩ := newO X_341 hx hZ hown (hw _ (List.mem_of_getElem? (i := 19) rfl)) (hw _ (List.mem_of_getElem? (i := 20) rfl)) (hw _ (List.mem_of_getElem? (i := 21) rfl)) e_341 (g := (mkF mM 80 #[.val (.int p1), .val (.int p2), .val (.int p3), .val (.int p4), .val (.int p5), .val (.ref b_1), .val .null, .val .null, .val (.ref b_327), .unset, .unset, .unset] [])) rfl (hb hby at_80) (by decide) (by decide)
      obtain ⟨b_342, g_342⟩ : ∃ z, z = h_341.size := ⟨_, rfl⟩
      rw [← g_342] at A_342 D_342 st_342
      have u_343 := Nat.lt_of_lt_of_le u_328 E_327.1
      have u_344 := Nat.lt_of_lt_of_le u_343 K_341.1
      have u_345 : b_1 < b_342 := Nat.lt_of_lt_of_le u_344 (Nat.le_of_eq g_342.symm)
      have u_346 := Nat.lt_of_lt_of_le (A_327).lt K_341.1
      have u_347 : b_327 < b_342 := Nat.lt_of_lt_of_le u_346 (Nat.le_of_eq g_342.symm)
      have u_348 := Nat.le_trans u_336 K_341.1
      have u_349 : n0 ≤ b_342 := Nat.le_trans u_348 (Nat.le_of_eq g_342.symm)
      have u_350 : Fld Z h_342 b_342 "com/example/anchorline/anchorline/tcap/Dialogue" "peer" "Lcom/example/anchorline/anchorline/sccp/SccpAddress;" .null := D_342 (Or.inr (hw _ (List.mem_of_getElem? (i := 35) rfl))) (ty := (.object "com/example/anchorline/anchorline/sccp/SccpAddress")) (by decide)
      have u_351 : Fld Z h_342 b_342 "com/example/anchorline/anchorline/tcap/Dialogue" "applicationContext" "[B" .null := D_342 (Or.inr (hw _ (List.mem_of_getElem? (i := 37) rfl))) (ty := (.array .byte)) (by decide)
      have u_352 : Fld Z h_342 b_342 "com/example/anchorline/anchorline/tcap/Dialogue" "state" "Lcom/example/anchorline/anchorline/tcap/Dialogue$State;" .null := D_342 (Or.inl (hw _ (List.mem_of_getElem? (i := 39) rfl))) (ty := (.object "com/example/anchorline/anchorline/tcap/Dialogue$State")) (by decide)
      have u_353 : Fld Z h_342 b_342 "com/example/anchorline/anchorline/tcap/Dialogue" "lastInvokeId" "I" (.int (0 : Int32)) := D_342 (Or.inl (hw _ (List.mem_of_getElem? (i := 52) rfl))) (ty := .int) (by decide)
      refine Goes.step st_342 ?_
      show Goes pP eE bB _ (T_342.setTop (mkF mM 83 #[.val (.int p1), .val (.int p2), .val (.int p3), .val (.int p4), .val (.int p5), .val (.ref b_1), .val .null, .val .null, .val (.ref b_327), .unset, .unset, .unset] [(.ref b_342)]))
      refine Goes.step (fun _ kK => XS.dup X_342.here hx rfl (hb hby at_83) rfl rfl kK) ?_
      show Goes pP eE bB _ (T_342.setTop (mkF mM 84 #[.val (.int p1), .val (.int p2), .val (.int p3), .val (.int p4), .val (.int p5), .val (.ref b_1), .val .null, .val .null, .val (.ref b_327), .unset, .unset, .unset] [(.ref b_342), (.ref b_342)]))
      refine Goes.step (fun _ kK => XS.aload X_342.here hx rfl (hb hby at_84) rfl rfl kK) ?_
      show Goes pP eE bB _ (T_342.setTop (mkF mM 86 #[.val (.int p1), .val (.int p2), .val (.int p3), .val (.int p4), .val (.int p5), .val (.ref b_1), .val .null, .val .null, .val (.ref b_327), .unset, .unset, .unset] [(.ref b_1), (.ref b_342), (.ref b_342)]))
      refine Goes.step (fun _ kK => XS.aload X_342.here hx rfl (hb hby at_86) rfl rfl kK) ?_
      show Goes pP eE bB _ (T_342.setTop (mkF mM 88 #[.val (.int p1), .val (.int p2), .val (.int p3), .val (.int p4), .val (.int p5), .val (.ref b_1), .val .null, .val .null, .val (.ref b_327), .unset, .unset, .unset] [.null, (.ref b_1), (.ref b_342), (.ref b_342)]))
      refine Goes.step (fun _ kK => XS.iloadN X_342.here hx rfl (hb hby at_88) rfl kK) ?_
      show Goes pP eE bB _ (T_342.setTop (mkF mM 89 #[.val (.int p1), .val (.int p2), .val (.int p3), .val (.int p4), .val (.int p5), .val (.ref b_1), .val .null, .val .null, .val (.ref b_327), .unset, .unset, .unset] [(.int p3), .null, (.ref b_1), (.ref b_342), (.ref b_342)]))
      refine Goes.step (fun _ kK => XS.iconst X_342.here hx rfl (hb hby at_89) kK) ?_
      show Goes pP eE bB _ (T_342.setTop (mkF mM 90 #[.val (.int p1), .val (.int p2), .val (.int p3), .val (.int p4), .val (.int p5), .val (.ref b_1), .val .null, .val .null, .val (.ref b_327), .unset, .unset, .unset] [(.int (3 : Int32)), (.int p3), .null, (.ref b_1), (.ref b_342), (.ref b_342)]))
      refine Goes.step (fun _ kK => XS.iushr X_342.here hx rfl (hb hby at_90) rfl kK) ?_
      show Goes pP eE bB _ (T_342.setTop (mkF mM 91 #[.val (.int p1), .val (.int p2), .val (.int p3), .val (.int p4), .val (.int p5), .val (.ref b_1), .val .null, .val .null, .val (.ref b_327), .unset, .unset, .unset] [(.int ((p3.toUInt32 >>> ((3 : Int32) &&& 31).toUInt32).toInt32)), .null, (.ref b_1), (.ref b_342), (.ref b_342)]))
      have u_354 := Nat.le_trans u_348 E_342.1
      have u_355 := u_339.keep K_341 (allS u_331 all0)
      have u_356 := u_355.ext E_342
      refine Goes.callS X_342 hx hZ hown (hw _ (List.mem_of_getElem? (i := 22) rfl)) (hw _ (List.mem_of_getElem? (i := 23) rfl)) (hw _ (List.mem_of_getElem? (i := 24) rfl)) (hw _ (List.mem_of_getElem? (i := 25) rfl)) (by decide) e_342 (rmT l Z a0 hw ((p3.toUInt32 >>> ((3 : Int32) &&& 31).toUInt32).toInt32) w0 w1 w2 w3 w4 w5 h_342 n0 u_354 Sw0 Sw1 Sw2 Sw3 Sw4 Sw5 u_356) (W := 4) (by decide) (by decide) (by decide) (by decide) (g := (mkF mM 91 #[.val (.int p1), .val (.int p2), .val (.int p3), .val (.int p4), .val (.int p5), .val (.ref b_1), .val .null, .val .null, .val (.ref b_327), .unset, .unset, .unset] [(.int ((p3.toUInt32 >>> ((3 : Int32) &&& 31).toUInt32).toInt32)), .null, (.ref b_1), (.ref b_342), (.ref b_342)])) rfl (by rw [hml]; rfl) (rest := [.null, (.ref b_1), (.ref b_342), (.ref b_342)]) own_pd3 rfl rfl (by show 2 * 0 + _ ≤ _; exact Nat.le_of_eq rfl) (hb hby at_91) ?_
      intro v_357 T_357 L_357 X_357 hQ_357
      obtain ⟨c_357, rfl, N_357q, e_357⟩ := hQ_357
      have N_357 := Fr.app N_341 N_357q
      show Goes pP eE bB _ (T_357.setTop (mkF mM 94 #[.val (.int p1), .val (.int p2), .val (.int p3), .val (.int p4), .val (.int p5), .val (.ref b_1), .val .null, .val .null, .val (.ref b_327), .unset, .unset, .unset] [(.ref c_357), .null, (.ref b_1), (.ref b_342), (.ref b_342)]))
      refine Goes.callI X_357 hx hZ rfl hown (hw _ (List.mem_of_getElem? (i := 30) rfl)) (hw _ (List.mem_of_getElem? (i := 31) rfl)) (hw _ (List.mem_of_getElem? (i := 32) rfl)) (hw _ (List.mem_of_getElem? (i := 21) rfl)) (by decide) e_357 (rmC0 l Z a0 hw b_342 b_1 c_357 h_342 n0 u_354 A_342 u_349 u_350 u_351 u_352 u_353) (W := 1) (by decide) (by decide) (by decide) (by decide) (g := (mkF mM 94 #[.val (.int p1), .val (.int p2), .val (.int p3), .val (.int p4), .val (.int p5), .val (.ref b_1), .val .null, .val .null, .val (.ref b_327), .unset, .unset, .unset] [(.ref c_357), .null, (.ref b_1), (.ref b_342), (.ref b_342)])) rfl (by rw [hml]; rfl) (rest := [(.ref b_342)]) own_pd4 rfl rfl (by show 2 * 0 + _ ≤ _; exact Nat.le_of_eq rfl) (hb hby at_94) ?_
      intro v_358 T_358 L_358 X_358 hQ_358
      generalize e_358 : T_358.heap = h_358 at hQ_358
      obtain ⟨rfl, N_358q, K_358, F_358⟩ := hQ_358
      have N_358 := Fr.app N_357 N_358q
      show Goes pP eE bB _ (T_358.setTop (mkF mM 97 #[.val (.int p1), .val (.int p2), .val (.int p3), .val (.int p4), .val (.int p5), .val (.ref b_1), .val .null, .val .null, .val (.ref b_327), .unset, .unset, .unset] [(.ref b_342)]))
      refine Goes.step (fun _ kK => XS.astore X_358.here hx rfl (hb hby at_97) rfl rfl (l' := #[.val (.int p1), .val (.int p2), .val (.int p3), .val (.int p4), .val (.int p5), .val (.ref b_1), .val .null, .val .null, .val (.ref b_327), .val (.ref b_342), .unset, .unset]) rfl kK) ?_
      show Goes pP eE bB _ (T_358.setTop (mkF mM 99 #[.val (.int p1), .val (.int p2), .val (.int p3), .val (.int p4), .val (.int p5), .val (.ref b_1), .val .null, .val .null, .val (.ref b_327), .val (.ref b_342), .unset, .unset] []))
      refine Goes.step (fun _ kK => XS.iconst X_358.here hx rfl (hb hby at_99) kK) ?_
      show Goes pP eE bB _ (T_358.setTop (mkF mM 100 #[.val (.int p1), .val (.int p2), .val (.int p3), .val (.int p4), .val (.int p5), .val (.ref b_1), .val .null, .val .null, .val (.ref b_327), .val (.ref b_342), .unset, .unset] [(.int (2 : Int32))]))
      obtain ⟨T_359, h_359, k_359, X_359, e_359, E_359, A_359, M_359, st_359⟩ := newPE X_358 hx hZ (hw _ (List.mem_of_getElem? (i := 42) rfl)) e_358 (g := (mkF mM 100 #[.val (.int p1), .val (.int p2), .val (.int p3), .val (.int p4), .val (.int p5), .val (.ref b_1), .val .null, .val .null, .val (.ref b_327), .val (.ref b_342), .unset, .unset] [(.int (2 : Int32))])) rfl (hb hby at_100) rfl (by decide) (cap := 2) (by decide) (by decide) (by decide) (by decide) (ad := "[I") rfl
      obtain ⟨b_359, g_359⟩ : ∃ z, z = h_358.size := ⟨_, rfl⟩
      rw [← g_359] at A_359 M_359 st_359
      have u_360 := Nat.lt_of_lt_of_le u_344 E_342.1
      have u_361 := Nat.lt_of_lt_of_le u_360 K_358.1
      have u_362 : b_1 < b_359 := Nat.lt_of_lt_of_le u_361 (Nat.le_of_eq g_359.symm)
      have u_363 := Nat.lt_of_lt_of_le u_346 E_342.1
      have u_364 := Nat.lt_of_lt_of_le u_363 K_358.1
      have u_365 : b_327 < b_359 := Nat.lt_of_lt_of_le u_364 (Nat.le_of_eq g_359.symm)
      have u_366 := Nat.lt_of_lt_of_le (A_342).lt K_358.1
      have u_367 : b_342 < b_359 := Nat.lt_of_lt_of_le u_366 (Nat.le_of_eq g_359.symm)
      have u_368 := Nat.le_trans u_354 K_358.1
      have u_369 : n0 ≤ b_359 := Nat.le_trans u_368 (Nat.le_of_eq g_359.symm)
      have u_370 : Afn Z h_359 b_359 .int 2 (fun _ => (.int (0 : Int32))) := Afn.new (n := 2) A_359 (by decide)
      refine Goes.step st_359 ?_
      show Goes pP eE bB _ (T_359.setTop (mkF mM 102 #[.val (.int p1), .val (.int p2), .val (.int p3), .val (.int p4), .val (.int p5), .val (.ref b_1), .val .null, .val .null, .val (.ref b_327), .val (.ref b_342), .unset, .unset] [(.ref b_359)]))
      refine Goes.step (fun _ kK => XS.astore X_359.here hx rfl (hb hby at_102) rfl rfl (l' := #[.val (.int p1), .val (.int p2), .val (.int p3), .val (.int p4), .val (.int p5), .val (.ref b_1), .val .null, .val .null, .val (.ref b_327), .val (.ref b_342), .val (.ref b_359), .unset]) rfl kK) ?_
      show Goes pP eE bB _ (T_359.setTop (mkF mM 104 #[.val (.int p1), .val (.int p2), .val (.int p3), .val (.int p4), .val (.int p5), .val (.ref b_1), .val .null, .val .null, .val (.ref b_327), .val (.ref b_342), .val (.ref b_359), .unset] []))
      refine Goes.step (fun _ kK => XS.iconst X_359.here hx rfl (hb hby at_104) kK) ?_
      show Goes pP eE bB _ (T_359.setTop (mkF mM 105 #[.val (.int p1), .val (.int p2), .val (.int p3), .val (.int p4), .val (.int p5), .val (.ref b_1), .val .null, .val .null, .val (.ref b_327), .val (.ref b_342), .val (.ref b_359), .unset] [(.int (1 : Int32))]))
      refine Goes.step (fun _ kK => XS.istore X_359.here hx rfl (hb hby at_105) rfl (l' := #[.val (.int p1), .val (.int p2), .val (.int p3), .val (.int p4), .val (.int p5), .val (.ref b_1), .val .null, .val .null, .val (.ref b_327), .val (.ref b_342), .val (.ref b_359), .val (.int (1 : Int32))]) rfl kK) ?_
      show Goes pP eE bB _ (T_359.setTop (mkF mM 107 #[.val (.int p1), .val (.int p2), .val (.int p3), .val (.int p4), .val (.int p5), .val (.ref b_1), .val .null, .val .null, .val (.ref b_327), .val (.ref b_342), .val (.ref b_359), .val (.int (1 : Int32))] []))
      refine Goes.step (fun _ kK => XS.aload X_359.here hx rfl (hb hby at_107) rfl rfl kK) ?_
      show Goes pP eE bB _ (T_359.setTop (mkF mM 109 #[.val (.int p1), .val (.int p2), .val (.int p3), .val (.int p4), .val (.int p5), .val (.ref b_1), .val .null, .val .null, .val (.ref b_327), .val (.ref b_342), .val (.ref b_359), .val (.int (1 : Int32))] [(.ref b_327)]))
      refine Goes.step (fun _ kK => XS.aload X_359.here hx rfl (hb hby at_109) rfl rfl kK) ?_
      show Goes pP eE bB _ (T_359.setTop (mkF mM 111 #[.val (.int p1), .val (.int p2), .val (.int p3), .val (.int p4), .val (.int p5), .val (.ref b_1), .val .null, .val .null, .val (.ref b_327), .val (.ref b_342), .val (.ref b_359), .val (.int (1 : Int32))] [(.ref b_342), (.ref b_327)]))
      refine Goes.step (fun _ kK => XS.aload X_359.here hx rfl (hb hby at_111) rfl rfl kK) ?_
      show Goes pP eE bB _ (T_359.setTop (mkF mM 113 #[.val (.int p1), .val (.int p2), .val (.int p3), .val (.int p4), .val (.int p5), .val (.ref b_1), .val .null, .val .null, .val (.ref b_327), .val (.ref b_342), .val (.ref b_359), .val (.int (1 : Int32))] [(.ref b_359), (.ref b_342), (.ref b_327)]))
      refine Goes.step (fun _ kK => XS.iload X_359.here hx rfl (hb hby at_113) rfl kK) ?_
      show Goes pP eE bB _ (T_359.setTop (mkF mM 115 #[.val (.int p1), .val (.int p2), .val (.int p3), .val (.int p4), .val (.int p5), .val (.ref b_1), .val .null, .val .null, .val (.ref b_327), .val (.ref b_342), .val (.ref b_359), .val (.int (1 : Int32))] [(.int p5), (.ref b_359), (.ref b_342), (.ref b_327)]))
      refine Goes.step (fun _ kK => XS.iconst X_359.here hx rfl (hb hby at_115) kK) ?_
      show Goes pP eE bB _ (T_359.setTop (mkF mM 116 #[.val (.int p1), .val (.int p2), .val (.int p3), .val (.int p4), .val (.int p5), .val (.ref b_1), .val .null, .val .null, .val (.ref b_327), .val (.ref b_342), .val (.ref b_359), .val (.int (1 : Int32))] [(.int (1 : Int32)), (.int p5), (.ref b_359), (.ref b_342), (.ref b_327)]))
      refine Goes.step (fun _ kK => XS.iand X_359.here hx rfl (hb hby at_116) rfl kK) ?_
      show Goes pP eE bB _ (T_359.setTop (mkF mM 117 #[.val (.int p1), .val (.int p2), .val (.int p3), .val (.int p4), .val (.int p5), .val (.ref b_1), .val .null, .val .null, .val (.ref b_327), .val (.ref b_342), .val (.ref b_359), .val (.int (1 : Int32))] [(.int (p5 &&& (1 : Int32))), (.ref b_359), (.ref b_342), (.ref b_327)]))
      have u_371 := F_341.ext E_342
      have u_372 := u_371.keep K_358 (ninS (Nat.ne_of_lt u_347) nin0)
      have u_373 := u_372.ext E_359
      have u_374 := F_358.ext E_359
      have I0 : own_Inv Z h_359 b_327 b_342 b_359 (0 : Int32) (0 : Int32) 0 := ⟨u_373, u_374, ⟨_, u_370, rfl, rfl⟩, by decide, by decide, by decide, by decide⟩
      have u_375 := Nat.le_trans u_368 E_359.1
      have u_376 := A_327.keep K_341
      have u_377 := u_376.ext E_342
      have u_378 := u_377.keep K_358
      have u_379 := u_378.ext E_359
      have u_380 := A_342.keep K_358
      have u_381 := u_380.ext E_359
      refine Goes.callS X_359 hx hZ hown (hw _ (List.mem_of_getElem? (i := 43) rfl)) (hw _ (List.mem_of_getElem? (i := 44) rfl)) (hw _ (List.mem_of_getElem? (i := 24) rfl)) (hw _ (List.mem_of_getElem? (i := 45) rfl)) (by decide) e_359 (rmP l Z a0 hw b_327 b_342 b_359 (p5 &&& (1 : Int32)) (0 : Int32) (0 : Int32) h_359 n0 u_375 (own_bit _) (0 : Int) (by decide) u_379 u_381 u_331 u_349 u_369 (Nat.ne_of_lt u_347) (Nat.ne_of_lt u_365) (Nat.ne_of_lt u_367) I0) (W := 0) (by decide) (by decide) (by decide) (by decide) (g := (mkF mM 117 #[.val (.int p1), .val (.int p2), .val (.int p3), .val (.int p4), .val (.int p5), .val (.ref b_1), .val .null, .val .null, .val (.ref b_327), .val (.ref b_342), .val (.ref b_359), .val (.int (1 : Int32))] [(.int (p5 &&& (1 : Int32))), (.ref b_359), (.ref b_342), (.ref b_327)])) rfl (by rw [hml]; rfl) (rest := []) own_pd5 rfl rfl (by show 2 * 0 + _ ≤ _; exact Nat.le_of_eq rfl) (hb hby at_117) ?_
      intro v_382 T_382 L_382 X_382 hQ_382
      generalize e_382 : T_382.heap = h_382 at hQ_382
      obtain ⟨rfl, N_382q, K_382, x_382, y_382, I_382⟩ := hQ_382
      have N_382 := Fr.app N_358 N_382q
      show Goes pP eE bB _ (T_382.setTop (mkF mM 120 #[.val (.int p1), .val (.int p2), .val (.int p3), .val (.int p4), .val (.int p5), .val (.ref b_1), .val .null, .val .null, .val (.ref b_327), .val (.ref b_342), .val (.ref b_359), .val (.int (1 : Int32))] [(.int (1 : Int32))]))
      refine Goes.step (fun _ kK => XS.iload X_382.here hx rfl (hb hby at_120) rfl kK) ?_
      show Goes pP eE bB _ (T_382.setTop (mkF mM 122 #[.val (.int p1), .val (.int p2), .val (.int p3), .val (.int p4), .val (.int p5), .val (.ref b_1), .val .null, .val .null, .val (.ref b_327), .val (.ref b_342), .val (.ref b_359), .val (.int (1 : Int32))] [(.int (1 : Int32)), (.int (1 : Int32))]))
      refine Goes.step (fun _ kK => XS.iand X_382.here hx rfl (hb hby at_122) rfl kK) ?_
      show Goes pP eE bB _ (T_382.setTop (mkF mM 123 #[.val (.int p1), .val (.int p2), .val (.int p3), .val (.int p4), .val (.int p5), .val (.ref b_1), .val .null, .val .null, .val (.ref b_327), .val (.ref b_342), .val (.ref b_359), .val (.int (1 : Int32))] [(.int ((1 : Int32) &&& (1 : Int32)))]))
      refine Goes.step (fun _ kK => XS.istore X_382.here hx rfl (hb hby at_123) rfl (l' := #[.val (.int p1), .val (.int p2), .val (.int p3), .val (.int p4), .val (.int p5), .val (.ref b_1), .val .null, .val .null, .val (.ref b_327), .val (.ref b_342), .val (.ref b_359), .val (.int ((1 : Int32) &&& (1 : Int32)))]) rfl kK) ?_
      show Goes pP eE bB _ (T_382.setTop (mkF mM 125 #[.val (.int p1), .val (.int p2), .val (.int p3), .val (.int p4), .val (.int p5), .val (.ref b_1), .val .null, .val .null, .val (.ref b_327), .val (.ref b_342), .val (.ref b_359), .val (.int ((1 : Int32) &&& (1 : Int32)))] []))
      refine Goes.step (fun _ kK => XS.aload X_382.here hx rfl (hb hby at_125) rfl rfl kK) ?_
      show Goes pP eE bB _ (T_382.setTop (mkF mM 127 #[.val (.int p1), .val (.int p2), .val (.int p3), .val (.int p4), .val (.int p5), .val (.ref b_1), .val .null, .val .null, .val (.ref b_327), .val (.ref b_342), .val (.ref b_359), .val (.int ((1 : Int32) &&& (1 : Int32)))] [(.ref b_327)]))
      refine Goes.step (fun _ kK => XS.aload X_382.here hx rfl (hb hby at_127) rfl rfl kK) ?_
      show Goes pP eE bB _ (T_382.setTop (mkF mM 129 #[.val (.int p1), .val (.int p2), .val (.int p3), .val (.int p4), .val (.int p5), .val (.ref b_1), .val .null, .val .null, .val (.ref b_327), .val (.ref b_342), .val (.ref b_359), .val (.int ((1 : Int32) &&& (1 : Int32)))] [(.ref b_342), (.ref b_327)]))
      refine Goes.step (fun _ kK => XS.aload X_382.here hx rfl (hb hby at_129) rfl rfl kK) ?_
      show Goes pP eE bB _ (T_382.setTop (mkF mM 131 #[.val (.int p1), .val (.int p2), .val (.int p3), .val (.int p4), .val (.int p5), .val (.ref b_1), .val .null, .val .null, .val (.ref b_327), .val (.ref b_342), .val (.ref b_359), .val (.int ((1 : Int32) &&& (1 : Int32)))] [(.ref b_359), (.ref b_342), (.ref b_327)]))
      refine Goes.step (fun _ kK => XS.iload X_382.here hx rfl (hb hby at_131) rfl kK) ?_
      show Goes pP eE bB _ (T_382.setTop (mkF mM 133 #[.val (.int p1), .val (.int p2), .val (.int p3), .val (.int p4), .val (.int p5), .val (.ref b_1), .val .null, .val .null, .val (.ref b_327), .val (.ref b_342), .val (.ref b_359), .val (.int ((1 : Int32) &&& (1 : Int32)))] [(.int p5), (.ref b_359), (.ref b_342), (.ref b_327)]))
      refine Goes.step (fun _ kK => XS.iconst X_382.here hx rfl (hb hby at_133) kK) ?_
      show Goes pP eE bB _ (T_382.setTop (mkF mM 134 #[.val (.int p1), .val (.int p2), .val (.int p3), .val (.int p4), .val (.int p5), .val (.ref b_1), .val .null, .val .null, .val (.ref b_327), .val (.ref b_342), .val (.ref b_359), .val (.int ((1 : Int32) &&& (1 : Int32)))] [(.int (1 : Int32)), (.int p5), (.ref b_359), (.ref b_342), (.ref b_327)]))
      refine Goes.step (fun _ kK => XS.iushr X_382.here hx rfl (hb hby at_134) rfl kK) ?_
      show Goes pP eE bB _ (T_382.setTop (mkF mM 135 #[.val (.int p1), .val (.int p2), .val (.int p3), .val (.int p4), .val (.int p5), .val (.ref b_1), .val .null, .val .null, .val (.ref b_327), .val (.ref b_342), .val (.ref b_359), .val (.int ((1 : Int32) &&& (1 : Int32)))] [(.int ((p5.toUInt32 >>> ((1 : Int32) &&& 31).toUInt32).toInt32)), (.ref b_359), (.ref b_342), (.ref b_327)]))
      refine Goes.step (fun _ kK => XS.iconst X_382.here hx rfl (hb hby at_135) kK) ?_
      show Goes pP eE bB _ (T_382.setTop (mkF mM 136 #[.val (.int p1), .val (.int p2), .val (.int p3), .val (.int p4), .val (.int p5), .val (.ref b_1), .val .null, .val .null, .val (.ref b_327), .val (.ref b_342), .val (.ref b_359), .val (.int ((1 : Int32) &&& (1 : Int32)))] [(.int (1 : Int32)), (.int ((p5.toUInt32 >>> ((1 : Int32) &&& 31).toUInt32).toInt32)), (.ref b_359), (.ref b_342), (.ref b_327)]))
      refine Goes.step (fun _ kK => XS.iand X_382.here hx rfl (hb hby at_136) rfl kK) ?_
      show Goes pP eE bB _ (T_382.setTop (mkF mM 137 #[.val (.int p1), .val (.int p2), .val (.int p3), .val (.int p4), .val (.int p5), .val (.ref b_1), .val .null, .val .null, .val (.ref b_327), .val (.ref b_342), .val (.ref b_359), .val (.int ((1 : Int32) &&& (1 : Int32)))] [(.int (((p5.toUInt32 >>> ((1 : Int32) &&& 31).toUInt32).toInt32) &&& (1 : Int32))), (.ref b_359), (.ref b_342), (.ref b_327)]))
      have u_383 := Nat.le_trans u_375 K_382.1
      have u_384 := u_379.keep K_382
      have u_385 := u_381.keep K_382
      refine Goes.callS X_382 hx hZ hown (hw _ (List.mem_of_getElem? (i := 43) rfl)) (hw _ (List.mem_of_getElem? (i := 44) rfl)) (hw _ (List.mem_of_getElem? (i := 24) rfl)) (hw _ (List.mem_of_getElem? (i := 45) rfl)) (by decide) e_382 (rmP l Z a0 hw b_327 b_342 b_359 (((p5.toUInt32 >>> ((1 : Int32) &&& 31).toUInt32).toInt32) &&& (1 : Int32)) x_382 y_382 h_382 n0 u_383 (own_bit _) ((0 : Int) + 1) (by decide) u_384 u_385 u_331 u_349 u_369 (Nat.ne_of_lt u_347) (Nat.ne_of_lt u_365) (Nat.ne_of_lt u_367) I_382) (W := 0) (by decide) (by decide) (by decide) (by decide) (g := (mkF mM 137 #[.val (.int p1), .val (.int p2), .val (.int p3), .val (.int p4), .val (.int p5), .val (.ref b_1), .val .null, .val .null, .val (.ref b_327), .val (.ref b_342), .val (.ref b_359), .val (.int ((1 : Int32) &&& (1 : Int32)))] [(.int (((p5.toUInt32 >>> ((1 : Int32) &&& 31).toUInt32).toInt32) &&& (1 : Int32))), (.ref b_359), (.ref b_342), (.ref b_327)])) rfl (by rw [hml]; rfl) (rest := []) own_pd5 rfl rfl (by show 2 * 0 + _ ≤ _; exact Nat.le_of_eq rfl) (hb hby at_137) ?_
      intro v_386 T_386 L_386 X_386 hQ_386
      generalize e_386 : T_386.heap = h_386 at hQ_386
      obtain ⟨rfl, N_386q, K_386, x_386, y_386, I_386⟩ := hQ_386
      have N_386 := Fr.app N_382 N_386q
      show Goes pP eE bB _ (T_386.setTop (mkF mM 140 #[.val (.int p1), .val (.int p2), .val (.int p3), .val (.int p4), .val (.int p5), .val (.ref b_1), .val .null, .val .null, .val (.ref b_327), .val (.ref b_342), .val (.ref b_359), .val (.int ((1 : Int32) &&& (1 : Int32)))] [(.int (1 : Int32))]))
      refine Goes.step (fun _ kK => XS.iload X_386.here hx rfl (hb hby at_140) rfl kK) ?_
      show Goes pP eE bB _ (T_386.setTop (mkF mM 142 #[.val (.int p1), .val (.int p2), .val (.int p3), .val (.int p4), .val (.int p5), .val (.ref b_1), .val .null, .val .null, .val (.ref b_327), .val (.ref b_342), .val (.ref b_359), .val (.int ((1 : Int32) &&& (1 : Int32)))] [(.int ((1 : Int32) &&& (1 : Int32))), (.int (1 : Int32))]))
      refine Goes.step (fun _ kK => XS.iand X_386.here hx rfl (hb hby at_142) rfl kK) ?_
      show Goes pP eE bB _ (T_386.setTop (mkF mM 143 #[.val (.int p1), .val (.int p2), .val (.int p3), .val (.int p4), .val (.int p5), .val (.ref b_1), .val .null, .val .null, .val (.ref b_327), .val (.ref b_342), .val (.ref b_359), .val (.int ((1 : Int32) &&& (1 : Int32)))] [(.int ((1 : Int32) &&& ((1 : Int32) &&& (1 : Int32))))]))
      refine Goes.step (fun _ kK => XS.istore X_386.here hx rfl (hb hby at_143) rfl (l' := #[.val (.int p1), .val (.int p2), .val (.int p3), .val (.int p4), .val (.int p5), .val (.ref b_1), .val .null, .val .null, .val (.ref b_327), .val (.ref b_342), .val (.ref b_359), .val (.int ((1 : Int32) &&& ((1 : Int32) &&& (1 : Int32))))]) rfl kK) ?_
      show Goes pP eE bB _ (T_386.setTop (mkF mM 145 #[.val (.int p1), .val (.int p2), .val (.int p3), .val (.int p4), .val (.int p5), .val (.ref b_1), .val .null, .val .null, .val (.ref b_327), .val (.ref b_342), .val (.ref b_359), .val (.int ((1 : Int32) &&& ((1 : Int32) &&& (1 : Int32))))] []))
      refine Goes.step (fun _ kK => XS.aload X_386.here hx rfl (hb hby at_145) rfl rfl kK) ?_
      show Goes pP eE bB _ (T_386.setTop (mkF mM 147 #[.val (.int p1), .val (.int p2), .val (.int p3), .val (.int p4), .val (.int p5), .val (.ref b_1), .val .null, .val .null, .val (.ref b_327), .val (.ref b_342), .val (.ref b_359), .val (.int ((1 : Int32) &&& ((1 : Int32) &&& (1 : Int32))))] [(.ref b_327)]))
      refine Goes.step (fun _ kK => XS.aload X_386.here hx rfl (hb hby at_147) rfl rfl kK) ?_
      show Goes pP eE bB _ (T_386.setTop (mkF mM 149 #[.val (.int p1), .val (.int p2), .val (.int p3), .val (.int p4), .val (.int p5), .val (.ref b_1), .val .null, .val .null, .val (.ref b_327), .val (.ref b_342), .val (.ref b_359), .val (.int ((1 : Int32) &&& ((1 : Int32) &&& (1 : Int32))))] [(.ref b_342), (.ref b_327)]))
      refine Goes.step (fun _ kK => XS.aload X_386.here hx rfl (hb hby at_149) rfl rfl kK) ?_
      show Goes pP eE bB _ (T_386.setTop (mkF mM 151 #[.val (.int p1), .val (.int p2), .val (.int p3), .val (.int p4), .val (.int p5), .val (.ref b_1), .val .null, .val .null, .val (.ref b_327), .val (.ref b_342), .val (.ref b_359), .val (.int ((1 : Int32) &&& ((1 : Int32) &&& (1 : Int32))))] [(.ref b_359), (.ref b_342), (.ref b_327)]))
      refine Goes.step (fun _ kK => XS.iload X_386.here hx rfl (hb hby at_151) rfl kK) ?_
      show Goes pP eE bB _ (T_386.setTop (mkF mM 153 #[.val (.int p1), .val (.int p2), .val (.int p3), .val (.int p4), .val (.int p5), .val (.ref b_1), .val .null, .val .null, .val (.ref b_327), .val (.ref b_342), .val (.ref b_359), .val (.int ((1 : Int32) &&& ((1 : Int32) &&& (1 : Int32))))] [(.int p5), (.ref b_359), (.ref b_342), (.ref b_327)]))
      refine Goes.step (fun _ kK => XS.iconst X_386.here hx rfl (hb hby at_153) kK) ?_
      show Goes pP eE bB _ (T_386.setTop (mkF mM 154 #[.val (.int p1), .val (.int p2), .val (.int p3), .val (.int p4), .val (.int p5), .val (.ref b_1), .val .null, .val .null, .val (.ref b_327), .val (.ref b_342), .val (.ref b_359), .val (.int ((1 : Int32) &&& ((1 : Int32) &&& (1 : Int32))))] [(.int (2 : Int32)), (.int p5), (.ref b_359), (.ref b_342), (.ref b_327)]))
      refine Goes.step (fun _ kK => XS.iushr X_386.here hx rfl (hb hby at_154) rfl kK) ?_
      show Goes pP eE bB _ (T_386.setTop (mkF mM 155 #[.val (.int p1), .val (.int p2), .val (.int p3), .val (.int p4), .val (.int p5), .val (.ref b_1), .val .null, .val .null, .val (.ref b_327), .val (.ref b_342), .val (.ref b_359), .val (.int ((1 : Int32) &&& ((1 : Int32) &&& (1 : Int32))))] [(.int ((p5.toUInt32 >>> ((2 : Int32) &&& 31).toUInt32).toInt32)), (.ref b_359), (.ref b_342), (.ref b_327)]))
      refine Goes.step (fun _ kK => XS.iconst X_386.here hx rfl (hb hby at_155) kK) ?_
      show Goes pP eE bB _ (T_386.setTop (mkF mM 156 #[.val (.int p1), .val (.int p2), .val (.int p3), .val (.int p4), .val (.int p5), .val (.ref b_1), .val .null, .val .null, .val (.ref b_327), .val (.ref b_342), .val (.ref b_359), .val (.int ((1 : Int32) &&& ((1 : Int32) &&& (1 : Int32))))] [(.int (1 : Int32)), (.int ((p5.toUInt32 >>> ((2 : Int32) &&& 31).toUInt32).toInt32)), (.ref b_359), (.ref b_342), (.ref b_327)]))
      refine Goes.step (fun _ kK => XS.iand X_386.here hx rfl (hb hby at_156) rfl kK) ?_
      show Goes pP eE bB _ (T_386.setTop (mkF mM 157 #[.val (.int p1), .val (.int p2), .val (.int p3), .val (.int p4), .val (.int p5), .val (.ref b_1), .val .null, .val .null, .val (.ref b_327), .val (.ref b_342), .val (.ref b_359), .val (.int ((1 : Int32) &&& ((1 : Int32) &&& (1 : Int32))))] [(.int (((p5.toUInt32 >>> ((2 : Int32) &&& 31).toUInt32).toInt32) &&& (1 : Int32))), (.ref b_359), (.ref b_342), (.ref b_327)]))
      have u_387 := Nat.le_trans u_383 K_386.1
      have u_388 := u_384.keep K_386
      have u_389 := u_385.keep K_386
      refine Goes.callS X_386 hx hZ hown (hw _ (List.mem_of_getElem? (i := 43) rfl)) (hw _ (List.mem_of_getElem? (i := 44) rfl)) (hw _ (List.mem_of_getElem? (i := 24) rfl)) (hw _ (List.mem_of_getElem? (i := 45) rfl)) (by decide) e_386 (rmP l Z a0 hw b_327 b_342 b_359 (((p5.toUInt32 >>> ((2 : Int32) &&& 31).toUInt32).toInt32) &&& (1 : Int32)) x_386 y_386 h_386 n0 u_387 (own_bit _) ((0 : Int) + 1 + 1) (by decide) u_388 u_389 u_331 u_349 u_369 (Nat.ne_of_lt u_347) (Nat.ne_of_lt u_365) (Nat.ne_of_lt u_367) I_386) (W := 0) (by decide) (by decide) (by decide) (by decide) (g := (mkF mM 157 #[.val (.int p1), .val (.int p2), .val (.int p3), .val (.int p4), .val (.int p5), .val (.ref b_1), .val .null, .val .null, .val (.ref b_327), .val (.ref b_342), .val (.ref b_359), .val (.int ((1 : Int32) &&& ((1 : Int32) &&& (1 : Int32))))] [(.int (((p5.toUInt32 >>> ((2 : Int32) &&& 31).toUInt32).toInt32) &&& (1 : Int32))), (.ref b_359), (.ref b_342), (.ref b_327)])) rfl (by rw [hml]; rfl) (rest := []) own_pd5 rfl rfl (by show 2 * 0 + _ ≤ _; exact Nat.le_of_eq rfl) (hb hby at_157) ?_
      intro v_390 T_390 L_390 X_390 hQ_390
      generalize e_390 : T_390.heap = h_390 at hQ_390
      obtain ⟨rfl, N_390q, K_390, x_390, y_390, I_390⟩ := hQ_390
      have N_390 := Fr.app N_386 N_390q
      show Goes pP eE bB _ (T_390.setTop (mkF mM 160 #[.val (.int p1), .val (.int p2), .val (.int p3), .val (.int p4), .val (.int p5), .val (.ref b_1), .val .null, .val .null, .val (.ref b_327), .val (.ref b_342), .val (.ref b_359), .val (.int ((1 : Int32) &&& ((1 : Int32) &&& (1 : Int32))))] [(.int (1 : Int32))]))
      refine Goes.step (fun _ kK => XS.iload X_390.here hx rfl (hb hby at_160) rfl kK) ?_
      show Goes pP eE bB _ (T_390.setTop (mkF mM 162 #[.val (.int p1), .val (.int p2), .val (.int p3), .val (.int p4), .val (.int p5), .val (.ref b_1), .val .null, .val .null, .val (.ref b_327), .val (.ref b_342), .val (.ref b_359), .val (.int ((1 : Int32) &&& ((1 : Int32) &&& (1 : Int32))))] [(.int ((1 : Int32) &&& ((1 : Int32) &&& (1 : Int32)))), (.int (1 : Int32))]))
      refine Goes.step (fun _ kK => XS.iand X_390.here hx rfl (hb hby at_162) rfl kK) ?_
      show Goes pP eE bB _ (T_390.setTop (mkF mM 163 #[.val (.int p1), .val (.int p2), .val (.int p3), .val (.int p4), .val (.int p5), .val (.ref b_1), .val .null, .val .null, .val (.ref b_327), .val (.ref b_342), .val (.ref b_359), .val (.int ((1 : Int32) &&& ((1 : Int32) &&& (1 : Int32))))] [(.int ((1 : Int32) &&& ((1 : Int32) &&& ((1 : Int32) &&& (1 : Int32)))))]))
      refine Goes.step (fun _ kK => XS.istore X_390.here hx rfl (hb hby at_163) rfl (l' := #[.val (.int p1), .val (.int p2), .val (.int p3), .val (.int p4), .val (.int p5), .val (.ref b_1), .val .null, .val .null, .val (.ref b_327), .val (.ref b_342), .val (.ref b_359), .val (.int ((1 : Int32) &&& ((1 : Int32) &&& ((1 : Int32) &&& (1 : Int32)))))]) rfl kK) ?_
      show Goes pP eE bB _ (T_390.setTop (mkF mM 165 #[.val (.int p1), .val (.int p2), .val (.int p3), .val (.int p4), .val (.int p5), .val (.ref b_1), .val .null, .val .null, .val (.ref b_327), .val (.ref b_342), .val (.ref b_359), .val (.int ((1 : Int32) &&& ((1 : Int32) &&& ((1 : Int32) &&& (1 : Int32)))))] []))
      refine Goes.step (fun _ kK => XS.aload X_390.here hx rfl (hb hby at_165) rfl rfl kK) ?_
      show Goes pP eE bB _ (T_390.setTop (mkF mM 167 #[.val (.int p1), .val (.int p2), .val (.int p3), .val (.int p4), .val (.int p5), .val (.ref b_1), .val .null, .val .null, .val (.ref b_327), .val (.ref b_342), .val (.ref b_359), .val (.int ((1 : Int32) &&& ((1 : Int32) &&& ((1 : Int32) &&& (1 : Int32)))))] [(.ref b_327)]))
      refine Goes.step (fun _ kK => XS.aload X_390.here hx rfl (hb hby at_167) rfl rfl kK) ?_
      show Goes pP eE bB _ (T_390.setTop (mkF mM 169 #[.val (.int p1), .val (.int p2), .val (.int p3), .val (.int p4), .val (.int p5), .val (.ref b_1), .val .null, .val .null, .val (.ref b_327), .val (.ref b_342), .val (.ref b_359), .val (.int ((1 : Int32) &&& ((1 : Int32) &&& ((1 : Int32) &&& (1 : Int32)))))] [(.ref b_342), (.ref b_327)]))
      refine Goes.step (fun _ kK => XS.aload X_390.here hx rfl (hb hby at_169) rfl rfl kK) ?_
      show Goes pP eE bB _ (T_390.setTop (mkF mM 171 #[.val (.int p1), .val (.int p2), .val (.int p3), .val (.int p4), .val (.int p5), .val (.ref b_1), .val .null, .val .null, .val (.ref b_327), .val (.ref b_342), .val (.ref b_359), .val (.int ((1 : Int32) &&& ((1 : Int32) &&& ((1 : Int32) &&& (1 : Int32)))))] [(.ref b_359), (.ref b_342), (.ref b_327)]))
      refine Goes.step (fun _ kK => XS.iload X_390.here hx rfl (hb hby at_171) rfl kK) ?_
      show Goes pP eE bB _ (T_390.setTop (mkF mM 173 #[.val (.int p1), .val (.int p2), .val (.int p3), .val (.int p4), .val (.int p5), .val (.ref b_1), .val .null, .val .null, .val (.ref b_327), .val (.ref b_342), .val (.ref b_359), .val (.int ((1 : Int32) &&& ((1 : Int32) &&& ((1 : Int32) &&& (1 : Int32)))))] [(.int p5), (.ref b_359), (.ref b_342), (.ref b_327)]))
      refine Goes.step (fun _ kK => XS.iconst X_390.here hx rfl (hb hby at_173) kK) ?_
      show Goes pP eE bB _ (T_390.setTop (mkF mM 174 #[.val (.int p1), .val (.int p2), .val (.int p3), .val (.int p4), .val (.int p5), .val (.ref b_1), .val .null, .val .null, .val (.ref b_327), .val (.ref b_342), .val (.ref b_359), .val (.int ((1 : Int32) &&& ((1 : Int32) &&& ((1 : Int32) &&& (1 : Int32)))))] [(.int (3 : Int32)), (.int p5), (.ref b_359), (.ref b_342), (.ref b_327)]))
      refine Goes.step (fun _ kK => XS.iushr X_390.here hx rfl (hb hby at_174) rfl kK) ?_
      show Goes pP eE bB _ (T_390.setTop (mkF mM 175 #[.val (.int p1), .val (.int p2), .val (.int p3), .val (.int p4), .val (.int p5), .val (.ref b_1), .val .null, .val .null, .val (.ref b_327), .val (.ref b_342), .val (.ref b_359), .val (.int ((1 : Int32) &&& ((1 : Int32) &&& ((1 : Int32) &&& (1 : Int32)))))] [(.int ((p5.toUInt32 >>> ((3 : Int32) &&& 31).toUInt32).toInt32)), (.ref b_359), (.ref b_342), (.ref b_327)]))
      refine Goes.step (fun _ kK => XS.iconst X_390.here hx rfl (hb hby at_175) kK) ?_
      show Goes pP eE bB _ (T_390.setTop (mkF mM 176 #[.val (.int p1), .val (.int p2), .val (.int p3), .val (.int p4), .val (.int p5), .val (.ref b_1), .val .null, .val .null, .val (.ref b_327), .val (.ref b_342), .val (.ref b_359), .val (.int ((1 : Int32) &&& ((1 : Int32) &&& ((1 : Int32) &&& (1 : Int32)))))] [(.int (1 : Int32)), (.int ((p5.toUInt32 >>> ((3 : Int32) &&& 31).toUInt32).toInt32)), (.ref b_359), (.ref b_342), (.ref b_327)]))
      refine Goes.step (fun _ kK => XS.iand X_390.here hx rfl (hb hby at_176) rfl kK) ?_
      show Goes pP eE bB _ (T_390.setTop (mkF mM 177 #[.val (.int p1), .val (.int p2), .val (.int p3), .val (.int p4), .val (.int p5), .val (.ref b_1), .val .null, .val .null, .val (.ref b_327), .val (.ref b_342), .val (.ref b_359), .val (.int ((1 : Int32) &&& ((1 : Int32) &&& ((1 : Int32) &&& (1 : Int32)))))] [(.int (((p5.toUInt32 >>> ((3 : Int32) &&& 31).toUInt32).toInt32) &&& (1 : Int32))), (.ref b_359), (.ref b_342), (.ref b_327)]))
      have u_391 := Nat.le_trans u_387 K_390.1
      have u_392 := u_388.keep K_390
      have u_393 := u_389.keep K_390
      refine Goes.callS X_390 hx hZ hown (hw _ (List.mem_of_getElem? (i := 43) rfl)) (hw _ (List.mem_of_getElem? (i := 44) rfl)) (hw _ (List.mem_of_getElem? (i := 24) rfl)) (hw _ (List.mem_of_getElem? (i := 45) rfl)) (by decide) e_390 (rmP l Z a0 hw b_327 b_342 b_359 (((p5.toUInt32 >>> ((3 : Int32) &&& 31).toUInt32).toInt32) &&& (1 : Int32)) x_390 y_390 h_390 n0 u_391 (own_bit _) ((0 : Int) + 1 + 1 + 1) (by decide) u_392 u_393 u_331 u_349 u_369 (Nat.ne_of_lt u_347) (Nat.ne_of_lt u_365) (Nat.ne_of_lt u_367) I_390) (W := 0) (by decide) (by decide) (by decide) (by decide) (g := (mkF mM 177 #[.val (.int p1), .val (.int p2), .val (.int p3), .val (.int p4), .val (.int p5), .val (.ref b_1), .val .null, .val .null, .val (.ref b_327), .val (.ref b_342), .val (.ref b_359), .val (.int ((1 : Int32) &&& ((1 : Int32) &&& ((1 : Int32) &&& (1 : Int32)))))] [(.int (((p5.toUInt32 >>> ((3 : Int32) &&& 31).toUInt32).toInt32) &&& (1 : Int32))), (.ref b_359), (.ref b_342), (.ref b_327)])) rfl (by rw [hml]; rfl) (rest := []) own_pd5 rfl rfl (by show 2 * 0 + _ ≤ _; exact Nat.le_of_eq rfl) (hb hby at_177) ?_
      intro v_394 T_394 L_394 X_394 hQ_394
      generalize e_394 : T_394.heap = h_394 at hQ_394
      obtain ⟨rfl, N_394q, K_394, x_394, y_394, I_394⟩ := hQ_394
      have N_394 := Fr.app N_390 N_394q
      show Goes pP eE bB _ (T_394.setTop (mkF mM 180 #[.val (.int p1), .val (.int p2), .val (.int p3), .val (.int p4), .val (.int p5), .val (.ref b_1), .val .null, .val .null, .val (.ref b_327), .val (.ref b_342), .val (.ref b_359), .val (.int ((1 : Int32) &&& ((1 : Int32) &&& ((1 : Int32) &&& (1 : Int32)))))] [(.int (1 : Int32))]))
      refine Goes.step (fun _ kK => XS.iload X_394.here hx rfl (hb hby at_180) rfl kK) ?_
      show Goes pP eE bB _ (T_394.setTop (mkF mM 182 #[.val (.int p1), .val (.int p2), .val (.int p3), .val (.int p4), .val (.int p5), .val (.ref b_1), .val .null, .val .null, .val (.ref b_327), .val (.ref b_342), .val (.ref b_359), .val (.int ((1 : Int32) &&& ((1 : Int32) &&& ((1 : Int32) &&& (1 : Int32)))))] [(.int ((1 : Int32) &&& ((1 : Int32) &&& ((1 : Int32) &&& (1 : Int32))))), (.int (1 : Int32))]))
      refine Goes.step (fun _ kK => XS.iand X_394.here hx rfl (hb hby at_182) rfl kK) ?_
      show Goes pP eE bB _ (T_394.setTop (mkF mM 183 #[.val (.int p1), .val (.int p2), .val (.int p3), .val (.int p4), .val (.int p5), .val (.ref b_1), .val .null, .val .null, .val (.ref b_327), .val (.ref b_342), .val (.ref b_359), .val (.int ((1 : Int32) &&& ((1 : Int32) &&& ((1 : Int32) &&& (1 : Int32)))))] [(.int ((1 : Int32) &&& ((1 : Int32) &&& ((1 : Int32) &&& ((1 : Int32) &&& (1 : Int32))))))]))
      refine Goes.step (fun _ kK => XS.istore X_394.here hx rfl (hb hby at_183) rfl (l' := #[.val (.int p1), .val (.int p2), .val (.int p3), .val (.int p4), .val (.int p5), .val (.ref b_1), .val .null, .val .null, .val (.ref b_327), .val (.ref b_342), .val (.ref b_359), .val (.int ((1 : Int32) &&& ((1 : Int32) &&& ((1 : Int32) &&& ((1 : Int32) &&& (1 : Int32))))))]) rfl kK) ?_
      show Goes pP eE bB _ (T_394.setTop (mkF mM 185 #[.val (.int p1), .val (.int p2), .val (.int p3), .val (.int p4), .val (.int p5), .val (.ref b_1), .val .null, .val .null, .val (.ref b_327), .val (.ref b_342), .val (.ref b_359), .val (.int ((1 : Int32) &&& ((1 : Int32) &&& ((1 : Int32) &&& ((1 : Int32) &&& (1 : Int32))))))] []))
      refine Goes.step (fun _ kK => XS.aload X_394.here hx rfl (hb hby at_185) rfl rfl kK) ?_
      show Goes pP eE bB _ (T_394.setTop (mkF mM 187 #[.val (.int p1), .val (.int p2), .val (.int p3), .val (.int p4), .val (.int p5), .val (.ref b_1), .val .null, .val .null, .val (.ref b_327), .val (.ref b_342), .val (.ref b_359), .val (.int ((1 : Int32) &&& ((1 : Int32) &&& ((1 : Int32) &&& ((1 : Int32) &&& (1 : Int32))))))] [(.ref b_327)]))
      refine Goes.step (fun _ kK => XS.aload X_394.here hx rfl (hb hby at_187) rfl rfl kK) ?_
      show Goes pP eE bB _ (T_394.setTop (mkF mM 189 #[.val (.int p1), .val (.int p2), .val (.int p3), .val (.int p4), .val (.int p5), .val (.ref b_1), .val .null, .val .null, .val (.ref b_327), .val (.ref b_342), .val (.ref b_359), .val (.int ((1 : Int32) &&& ((1 : Int32) &&& ((1 : Int32) &&& ((1 : Int32) &&& (1 : Int32))))))] [(.ref b_342), (.ref b_327)]))
      refine Goes.step (fun _ kK => XS.aload X_394.here hx rfl (hb hby at_189) rfl rfl kK) ?_
      show Goes pP eE bB _ (T_394.setTop (mkF mM 191 #[.val (.int p1), .val (.int p2), .val (.int p3), .val (.int p4), .val (.int p5), .val (.ref b_1), .val .null, .val .null, .val (.ref b_327), .val (.ref b_342), .val (.ref b_359), .val (.int ((1 : Int32) &&& ((1 : Int32) &&& ((1 : Int32) &&& ((1 : Int32) &&& (1 : Int32))))))] [(.ref b_359), (.ref b_342), (.ref b_327)]))
      refine Goes.step (fun _ kK => XS.iload X_394.here hx rfl (hb hby at_191) rfl kK) ?_
      show Goes pP eE bB _ (T_394.setTop (mkF mM 193 #[.val (.int p1), .val (.int p2), .val (.int p3), .val (.int p4), .val (.int p5), .val (.ref b_1), .val .null, .val .null, .val (.ref b_327), .val (.ref b_342), .val (.ref b_359), .val (.int ((1 : Int32) &&& ((1 : Int32) &&& ((1 : Int32) &&& ((1 : Int32) &&& (1 : Int32))))))] [(.int p5), (.ref b_359), (.ref b_342), (.ref b_327)]))
      refine Goes.step (fun _ kK => XS.iconst X_394.here hx rfl (hb hby at_193) kK) ?_
      show Goes pP eE bB _ (T_394.setTop (mkF mM 194 #[.val (.int p1), .val (.int p2), .val (.int p3), .val (.int p4), .val (.int p5), .val (.ref b_1), .val .null, .val .null, .val (.ref b_327), .val (.ref b_342), .val (.ref b_359), .val (.int ((1 : Int32) &&& ((1 : Int32) &&& ((1 : Int32) &&& ((1 : Int32) &&& (1 : Int32))))))] [(.int (4 : Int32)), (.int p5), (.ref b_359), (.ref b_342), (.ref b_327)]))
      refine Goes.step (fun _ kK => XS.iushr X_394.here hx rfl (hb hby at_194) rfl kK) ?_
      show Goes pP eE bB _ (T_394.setTop (mkF mM 195 #[.val (.int p1), .val (.int p2), .val (.int p3), .val (.int p4), .val (.int p5), .val (.ref b_1), .val .null, .val .null, .val (.ref b_327), .val (.ref b_342), .val (.ref b_359), .val (.int ((1 : Int32) &&& ((1 : Int32) &&& ((1 : Int32) &&& ((1 : Int32) &&& (1 : Int32))))))] [(.int ((p5.toUInt32 >>> ((4 : Int32) &&& 31).toUInt32).toInt32)), (.ref b_359), (.ref b_342), (.ref b_327)]))
      refine Goes.step (fun _ kK => XS.iconst X_394.here hx rfl (hb hby at_195) kK) ?_
      show Goes pP eE bB _ (T_394.setTop (mkF mM 196 #[.val (.int p1), .val (.int p2), .val (.int p3), .val (.int p4), .val (.int p5), .val (.ref b_1), .val .null, .val .null, .val (.ref b_327), .val (.ref b_342), .val (.ref b_359), .val (.int ((1 : Int32) &&& ((1 : Int32) &&& ((1 : Int32) &&& ((1 : Int32) &&& (1 : Int32))))))] [(.int (1 : Int32)), (.int ((p5.toUInt32 >>> ((4 : Int32) &&& 31).toUInt32).toInt32)), (.ref b_359), (.ref b_342), (.ref b_327)]))
      refine Goes.step (fun _ kK => XS.iand X_394.here hx rfl (hb hby at_196) rfl kK) ?_
      show Goes pP eE bB _ (T_394.setTop (mkF mM 197 #[.val (.int p1), .val (.int p2), .val (.int p3), .val (.int p4), .val (.int p5), .val (.ref b_1), .val .null, .val .null, .val (.ref b_327), .val (.ref b_342), .val (.ref b_359), .val (.int ((1 : Int32) &&& ((1 : Int32) &&& ((1 : Int32) &&& ((1 : Int32) &&& (1 : Int32))))))] [(.int (((p5.toUInt32 >>> ((4 : Int32) &&& 31).toUInt32).toInt32) &&& (1 : Int32))), (.ref b_359), (.ref b_342), (.ref b_327)]))
      have u_395 := Nat.le_trans u_391 K_394.1
      have u_396 := u_392.keep K_394
      have u_397 := u_393.keep K_394
      refine Goes.callS X_394 hx hZ hown (hw _ (List.mem_of_getElem? (i := 43) rfl)) (hw _ (List.mem_of_getElem? (i := 44) rfl)) (hw _ (List.mem_of_getElem? (i := 24) rfl)) (hw _ (List.mem_of_getElem? (i := 45) rfl)) (by decide) e_394 (rmP l Z a0 hw b_327 b_342 b_359 (((p5.toUInt32 >>> ((4 : Int32) &&& 31).toUInt32).toInt32) &&& (1 : Int32)) x_394 y_394 h_394 n0 u_395 (own_bit _) ((0 : Int) + 1 + 1 + 1 + 1) (by decide) u_396 u_397 u_331 u_349 u_369 (Nat.ne_of_lt u_347) (Nat.ne_of_lt u_365) (Nat.ne_of_lt u_367) I_394) (W := 0) (by decide) (by decide) (by decide) (by decide) (g := (mkF mM 197 #[.val (.int p1), .val (.int p2), .val (.int p3), .val (.int p4), .val (.int p5), .val (.ref b_1), .val .null, .val .null, .val (.ref b_327), .val (.ref b_342), .val (.ref b_359), .val (.int ((1 : Int32) &&& ((1 : Int32) &&& ((1 : Int32) &&& ((1 : Int32) &&& (1 : Int32))))))] [(.int (((p5.toUInt32 >>> ((4 : Int32) &&& 31).toUInt32).toInt32) &&& (1 : Int32))), (.ref b_359), (.ref b_342), (.ref b_327)])) rfl (by rw [hml]; rfl) (rest := []) own_pd5 rfl rfl (by show 2 * 0 + _ ≤ _; exact Nat.le_of_eq rfl) (hb hby at_197) ?_
      intro v_398 T_398 L_398 X_398 hQ_398
      generalize e_398 : T_398.heap = h_398 at hQ_398
      obtain ⟨rfl, N_398q, K_398, x_398, y_398, I_398⟩ := hQ_398
      have N_398 := Fr.app N_394 N_398q
      show Goes pP eE bB _ (T_398.setTop (mkF mM 200 #[.val (.int p1), .val (.int p2), .val (.int p3), .val (.int p4), .val (.int p5), .val (.ref b_1), .val .null, .val .null, .val (.ref b_327), .val (.ref b_342), .val (.ref b_359), .val (.int ((1 : Int32) &&& ((1 : Int32) &&& ((1 : Int32) &&& ((1 : Int32) &&& (1 : Int32))))))] [(.int (1 : Int32))]))
      refine Goes.step (fun _ kK => XS.iload X_398.here hx rfl (hb hby at_200) rfl kK) ?_
      show Goes pP eE bB _ (T_398.setTop (mkF mM 202 #[.val (.int p1), .val (.int p2), .val (.int p3), .val (.int p4), .val (.int p5), .val (.ref b_1), .val .null, .val .null, .val (.ref b_327), .val (.ref b_342), .val (.ref b_359), .val (.int ((1 : Int32) &&& ((1 : Int32) &&& ((1 : Int32) &&& ((1 : Int32) &&& (1 : Int32))))))] [(.int ((1 : Int32) &&& ((1 : Int32) &&& ((1 : Int32) &&& ((1 : Int32) &&& (1 : Int32)))))), (.int (1 : Int32))]))
      refine Goes.step (fun _ kK => XS.iand X_398.here hx rfl (hb hby at_202) rfl kK) ?_
      show Goes pP eE bB _ (T_398.setTop (mkF mM 203 #[.val (.int p1), .val (.int p2), .val (.int p3), .val (.int p4), .val (.int p5), .val (.ref b_1), .val .null, .val .null, .val (.ref b_327), .val (.ref b_342), .val (.ref b_359), .val (.int ((1 : Int32) &&& ((1 : Int32) &&& ((1 : Int32) &&& ((1 : Int32) &&& (1 : Int32))))))] [(.int ((1 : Int32) &&& ((1 : Int32) &&& ((1 : Int32) &&& ((1 : Int32) &&& ((1 : Int32) &&& (1 : Int32)))))))]))
      refine Goes.step (fun _ kK => XS.istore X_398.here hx rfl (hb hby at_203) rfl (l' := #[.val (.int p1), .val (.int p2), .val (.int p3), .val (.int p4), .val (.int p5), .val (.ref b_1), .val .null, .val .null, .val (.ref b_327), .val (.ref b_342), .val (.ref b_359), .val (.int ((1 : Int32) &&& ((1 : Int32) &&& ((1 : Int32) &&& ((1 : Int32) &&& ((1 : Int32) &&& (1 : Int32)))))))]) rfl kK) ?_
      show Goes pP eE bB _ (T_398.setTop (mkF mM 205 #[.val (.int p1), .val (.int p2), .val (.int p3), .val (.int p4), .val (.int p5), .val (.ref b_1), .val .null, .val .null, .val (.ref b_327), .val (.ref b_342), .val (.ref b_359), .val (.int ((1 : Int32) &&& ((1 : Int32) &&& ((1 : Int32) &&& ((1 : Int32) &&& ((1 : Int32) &&& (1 : Int32)))))))] []))
      refine Goes.step (fun _ kK => XS.aload X_398.here hx rfl (hb hby at_205) rfl rfl kK) ?_
      show Goes pP eE bB _ (T_398.setTop (mkF mM 207 #[.val (.int p1), .val (.int p2), .val (.int p3), .val (.int p4), .val (.int p5), .val (.ref b_1), .val .null, .val .null, .val (.ref b_327), .val (.ref b_342), .val (.ref b_359), .val (.int ((1 : Int32) &&& ((1 : Int32) &&& ((1 : Int32) &&& ((1 : Int32) &&& ((1 : Int32) &&& (1 : Int32)))))))] [(.ref b_327)]))
      refine Goes.step (fun _ kK => XS.aload X_398.here hx rfl (hb hby at_207) rfl rfl kK) ?_
      show Goes pP eE bB _ (T_398.setTop (mkF mM 209 #[.val (.int p1), .val (.int p2), .val (.int p3), .val (.int p4), .val (.int p5), .val (.ref b_1), .val .null, .val .null, .val (.ref b_327), .val (.ref b_342), .val (.ref b_359), .val (.int ((1 : Int32) &&& ((1 : Int32) &&& ((1 : Int32) &&& ((1 : Int32) &&& ((1 : Int32) &&& (1 : Int32)))))))] [(.ref b_342), (.ref b_327)]))
      refine Goes.step (fun _ kK => XS.aload X_398.here hx rfl (hb hby at_209) rfl rfl kK) ?_
      show Goes pP eE bB _ (T_398.setTop (mkF mM 211 #[.val (.int p1), .val (.int p2), .val (.int p3), .val (.int p4), .val (.int p5), .val (.ref b_1), .val .null, .val .null, .val (.ref b_327), .val (.ref b_342), .val (.ref b_359), .val (.int ((1 : Int32) &&& ((1 : Int32) &&& ((1 : Int32) &&& ((1 : Int32) &&& ((1 : Int32) &&& (1 : Int32)))))))] [(.ref b_359), (.ref b_342), (.ref b_327)]))
      refine Goes.step (fun _ kK => XS.iload X_398.here hx rfl (hb hby at_211) rfl kK) ?_
      show Goes pP eE bB _ (T_398.setTop (mkF mM 213 #[.val (.int p1), .val (.int p2), .val (.int p3), .val (.int p4), .val (.int p5), .val (.ref b_1), .val .null, .val .null, .val (.ref b_327), .val (.ref b_342), .val (.ref b_359), .val (.int ((1 : Int32) &&& ((1 : Int32) &&& ((1 : Int32) &&& ((1 : Int32) &&& ((1 : Int32) &&& (1 : Int32)))))))] [(.int p5), (.ref b_359), (.ref b_342), (.ref b_327)]))
      refine Goes.step (fun _ kK => XS.iconst X_398.here hx rfl (hb hby at_213) kK) ?_
      show Goes pP eE bB _ (T_398.setTop (mkF mM 214 #[.val (.int p1), .val (.int p2), .val (.int p3), .val (.int p4), .val (.int p5), .val (.ref b_1), .val .null, .val .null, .val (.ref b_327), .val (.ref b_342), .val (.ref b_359), .val (.int ((1 : Int32) &&& ((1 : Int32) &&& ((1 : Int32) &&& ((1 : Int32) &&& ((1 : Int32) &&& (1 : Int32)))))))] [(.int (5 : Int32)), (.int p5), (.ref b_359), (.ref b_342), (.ref b_327)]))
      refine Goes.step (fun _ kK => XS.iushr X_398.here hx rfl (hb hby at_214) rfl kK) ?_
      show Goes pP eE bB _ (T_398.setTop (mkF mM 215 #[.val (.int p1), .val (.int p2), .val (.int p3), .val (.int p4), .val (.int p5), .val (.ref b_1), .val .null, .val .null, .val (.ref b_327), .val (.ref b_342), .val (.ref b_359), .val (.int ((1 : Int32) &&& ((1 : Int32) &&& ((1 : Int32) &&& ((1 : Int32) &&& ((1 : Int32) &&& (1 : Int32)))))))] [(.int ((p5.toUInt32 >>> ((5 : Int32) &&& 31).toUInt32).toInt32)), (.ref b_359), (.ref b_342), (.ref b_327)]))
      refine Goes.step (fun _ kK => XS.iconst X_398.here hx rfl (hb hby at_215) kK) ?_
      show Goes pP eE bB _ (T_398.setTop (mkF mM 216 #[.val (.int p1), .val (.int p2), .val (.int p3), .val (.int p4), .val (.int p5), .val (.ref b_1), .val .null, .val .null, .val (.ref b_327), .val (.ref b_342), .val (.ref b_359), .val (.int ((1 : Int32) &&& ((1 : Int32) &&& ((1 : Int32) &&& ((1 : Int32) &&& ((1 : Int32) &&& (1 : Int32)))))))] [(.int (1 : Int32)), (.int ((p5.toUInt32 >>> ((5 : Int32) &&& 31).toUInt32).toInt32)), (.ref b_359), (.ref b_342), (.ref b_327)]))
      refine Goes.step (fun _ kK => XS.iand X_398.here hx rfl (hb hby at_216) rfl kK) ?_
      show Goes pP eE bB _ (T_398.setTop (mkF mM 217 #[.val (.int p1), .val (.int p2), .val (.int p3), .val (.int p4), .val (.int p5), .val (.ref b_1), .val .null, .val .null, .val (.ref b_327), .val (.ref b_342), .val (.ref b_359), .val (.int ((1 : Int32) &&& ((1 : Int32) &&& ((1 : Int32) &&& ((1 : Int32) &&& ((1 : Int32) &&& (1 : Int32)))))))] [(.int (((p5.toUInt32 >>> ((5 : Int32) &&& 31).toUInt32).toInt32) &&& (1 : Int32))), (.ref b_359), (.ref b_342), (.ref b_327)]))
      have u_399 := Nat.le_trans u_395 K_398.1
      have u_400 := u_396.keep K_398
      have u_401 := u_397.keep K_398
      refine Goes.callS X_398 hx hZ hown (hw _ (List.mem_of_getElem? (i := 43) rfl)) (hw _ (List.mem_of_getElem? (i := 44) rfl)) (hw _ (List.mem_of_getElem? (i := 24) rfl)) (hw _ (List.mem_of_getElem? (i := 45) rfl)) (by decide) e_398 (rmP l Z a0 hw b_327 b_342 b_359 (((p5.toUInt32 >>> ((5 : Int32) &&& 31).toUInt32).toInt32) &&& (1 : Int32)) x_398 y_398 h_398 n0 u_399 (own_bit _) ((0 : Int) + 1 + 1 + 1 + 1 + 1) (by decide) u_400 u_401 u_331 u_349 u_369 (Nat.ne_of_lt u_347) (Nat.ne_of_lt u_365) (Nat.ne_of_lt u_367) I_398) (W := 0) (by decide) (by decide) (by decide) (by decide) (g := (mkF mM 217 #[.val (.int p1), .val (.int p2), .val (.int p3), .val (.int p4), .val (.int p5), .val (.ref b_1), .val .null, .val .null, .val (.ref b_327), .val (.ref b_342), .val (.ref b_359), .val (.int ((1 : Int32) &&& ((1 : Int32) &&& ((1 : Int32) &&& ((1 : Int32) &&& ((1 : Int32) &&& (1 : Int32)))))))] [(.int (((p5.toUInt32 >>> ((5 : Int32) &&& 31).toUInt32).toInt32) &&& (1 : Int32))), (.ref b_359), (.ref b_342), (.ref b_327)])) rfl (by rw [hml]; rfl) (rest := []) own_pd5 rfl rfl (by show 2 * 0 + _ ≤ _; exact Nat.le_of_eq rfl) (hb hby at_217) ?_
      intro v_402 T_402 L_402 X_402 hQ_402
      generalize e_402 : T_402.heap = h_402 at hQ_402
      obtain ⟨rfl, N_402q, K_402, x_402, y_402, I_402⟩ := hQ_402
      have N_402 := Fr.app N_398 N_402q
      show Goes pP eE bB _ (T_402.setTop (mkF mM 220 #[.val (.int p1), .val (.int p2), .val (.int p3), .val (.int p4), .val (.int p5), .val (.ref b_1), .val .null, .val .null, .val (.ref b_327), .val (.ref b_342), .val (.ref b_359), .val (.int ((1 : Int32) &&& ((1 : Int32) &&& ((1 : Int32) &&& ((1 : Int32) &&& ((1 : Int32) &&& (1 : Int32)))))))] [(.int (1 : Int32))]))
      refine Goes.step (fun _ kK => XS.iload X_402.here hx rfl (hb hby at_220) rfl kK) ?_
      show Goes pP eE bB _ (T_402.setTop (mkF mM 222 #[.val (.int p1), .val (.int p2), .val (.int p3), .val (.int p4), .val (.int p5), .val (.ref b_1), .val .null, .val .null, .val (.ref b_327), .val (.ref b_342), .val (.ref b_359), .val (.int ((1 : Int32) &&& ((1 : Int32) &&& ((1 : Int32) &&& ((1 : Int32) &&& ((1 : Int32) &&& (1 : Int32)))))))] [(.int ((1 : Int32) &&& ((1 : Int32) &&& ((1 : Int32) &&& ((1 : Int32) &&& ((1 : Int32) &&& (1 : Int32))))))), (.int (1 : Int32))]))
      refine Goes.step (fun _ kK => XS.iand X_402.here hx rfl (hb hby at_222) rfl kK) ?_
      show Goes pP eE bB _ (T_402.setTop (mkF mM 223 #[.val (.int p1), .val (.int p2), .val (.int p3), .val (.int p4), .val (.int p5), .val (.ref b_1), .val .null, .val .null, .val (.ref b_327), .val (.ref b_342), .val (.ref b_359), .val (.int ((1 : Int32) &&& ((1 : Int32) &&& ((1 : Int32) &&& ((1 : Int32) &&& ((1 : Int32) &&& (1 : Int32)))))))] [(.int ((1 : Int32) &&& ((1 : Int32) &&& ((1 : Int32) &&& ((1 : Int32) &&& ((1 : Int32) &&& ((1 : Int32) &&& (1 : Int32))))))))]))
      refine Goes.step (fun _ kK => XS.istore X_402.here hx rfl (hb hby at_223) rfl (l' := #[.val (.int p1), .val (.int p2), .val (.int p3), .val (.int p4), .val (.int p5), .val (.ref b_1), .val .null, .val .null, .val (.ref b_327), .val (.ref b_342), .val (.ref b_359), .val (.int ((1 : Int32) &&& ((1 : Int32) &&& ((1 : Int32) &&& ((1 : Int32) &&& ((1 : Int32) &&& ((1 : Int32) &&& (1 : Int32))))))))]) rfl kK) ?_
      show Goes pP eE bB _ (T_402.setTop (mkF mM 225 #[.val (.int p1), .val (.int p2), .val (.int p3), .val (.int p4), .val (.int p5), .val (.ref b_1), .val .null, .val .null, .val (.ref b_327), .val (.ref b_342), .val (.ref b_359), .val (.int ((1 : Int32) &&& ((1 : Int32) &&& ((1 : Int32) &&& ((1 : Int32) &&& ((1 : Int32) &&& ((1 : Int32) &&& (1 : Int32))))))))] []))
      refine Goes.step (fun _ kK => XS.aload X_402.here hx rfl (hb hby at_225) rfl rfl kK) ?_
      show Goes pP eE bB _ (T_402.setTop (mkF mM 227 #[.val (.int p1), .val (.int p2), .val (.int p3), .val (.int p4), .val (.int p5), .val (.ref b_1), .val .null, .val .null, .val (.ref b_327), .val (.ref b_342), .val (.ref b_359), .val (.int ((1 : Int32) &&& ((1 : Int32) &&& ((1 : Int32) &&& ((1 : Int32) &&& ((1 : Int32) &&& ((1 : Int32) &&& (1 : Int32))))))))] [(.ref b_327)]))
      refine Goes.step (fun _ kK => XS.aload X_402.here hx rfl (hb hby at_227) rfl rfl kK) ?_
      show Goes pP eE bB _ (T_402.setTop (mkF mM 229 #[.val (.int p1), .val (.int p2), .val (.int p3), .val (.int p4), .val (.int p5), .val (.ref b_1), .val .null, .val .null, .val (.ref b_327), .val (.ref b_342), .val (.ref b_359), .val (.int ((1 : Int32) &&& ((1 : Int32) &&& ((1 : Int32) &&& ((1 : Int32) &&& ((1 : Int32) &&& ((1 : Int32) &&& (1 : Int32))))))))] [(.ref b_342), (.ref b_327)]))
      refine Goes.step (fun _ kK => XS.aload X_402.here hx rfl (hb hby at_229) rfl rfl kK) ?_
      show Goes pP eE bB _ (T_402.setTop (mkF mM 231 #[.val (.int p1), .val (.int p2), .val (.int p3), .val (.int p4), .val (.int p5), .val (.ref b_1), .val .null, .val .null, .val (.ref b_327), .val (.ref b_342), .val (.ref b_359), .val (.int ((1 : Int32) &&& ((1 : Int32) &&& ((1 : Int32) &&& ((1 : Int32) &&& ((1 : Int32) &&& ((1 : Int32) &&& (1 : Int32))))))))] [(.ref b_359), (.ref b_342), (.ref b_327)]))
      refine Goes.step (fun _ kK => XS.iload X_402.here hx rfl (hb hby at_231) rfl kK) ?_
      show Goes pP eE bB _ (T_402.setTop (mkF mM 233 #[.val (.int p1), .val (.int p2), .val (.int p3), .val (.int p4), .val (.int p5), .val (.ref b_1), .val .null, .val .null, .val (.ref b_327), .val (.ref b_342), .val (.ref b_359), .val (.int ((1 : Int32) &&& ((1 : Int32) &&& ((1 : Int32) &&& ((1 : Int32) &&& ((1 : Int32) &&& ((1 : Int32) &&& (1 : Int32))))))))] [(.int p5), (.ref b_359), (.ref b_342), (.ref b_327)]))
      refine Goes.step (fun _ kK => XS.bipush X_402.here hx rfl (hb hby at_233) kK) ?_
      show Goes pP eE bB _ (T_402.setTop (mkF mM 235 #[.val (.int p1), .val (.int p2), .val (.int p3), .val (.int p4), .val (.int p5), .val (.ref b_1), .val .null, .val .null, .val (.ref b_327), .val (.ref b_342), .val (.ref b_359), .val (.int ((1 : Int32) &&& ((1 : Int32) &&& ((1 : Int32) &&& ((1 : Int32) &&& ((1 : Int32) &&& ((1 : Int32) &&& (1 : Int32))))))))] [(.int (6 : Int32)), (.int p5), (.ref b_359), (.ref b_342), (.ref b_327)]))
      refine Goes.step (fun _ kK => XS.iushr X_402.here hx rfl (hb hby at_235) rfl kK) ?_
      show Goes pP eE bB _ (T_402.setTop (mkF mM 236 #[.val (.int p1), .val (.int p2), .val (.int p3), .val (.int p4), .val (.int p5), .val (.ref b_1), .val .null, .val .null, .val (.ref b_327), .val (.ref b_342), .val (.ref b_359), .val (.int ((1 : Int32) &&& ((1 : Int32) &&& ((1 : Int32) &&& ((1 : Int32) &&& ((1 : Int32) &&& ((1 : Int32) &&& (1 : Int32))))))))] [(.int ((p5.toUInt32 >>> ((6 : Int32) &&& 31).toUInt32).toInt32)), (.ref b_359), (.ref b_342), (.ref b_327)]))
      refine Goes.step (fun _ kK => XS.iconst X_402.here hx rfl (hb hby at_236) kK) ?_
      show Goes pP eE bB _ (T_402.setTop (mkF mM 237 #[.val (.int p1), .val (.int p2), .val (.int p3), .val (.int p4), .val (.int p5), .val (.ref b_1), .val .null, .val .null, .val (.ref b_327), .val (.ref b_342), .val (.ref b_359), .val (.int ((1 : Int32) &&& ((1 : Int32) &&& ((1 : Int32) &&& ((1 : Int32) &&& ((1 : Int32) &&& ((1 : Int32) &&& (1 : Int32))))))))] [(.int (1 : Int32)), (.int ((p5.toUInt32 >>> ((6 : Int32) &&& 31).toUInt32).toInt32)), (.ref b_359), (.ref b_342), (.ref b_327)]))
      refine Goes.step (fun _ kK => XS.iand X_402.here hx rfl (hb hby at_237) rfl kK) ?_
      show Goes pP eE bB _ (T_402.setTop (mkF mM 238 #[.val (.int p1), .val (.int p2), .val (.int p3), .val (.int p4), .val (.int p5), .val (.ref b_1), .val .null, .val .null, .val (.ref b_327), .val (.ref b_342), .val (.ref b_359), .val (.int ((1 : Int32) &&& ((1 : Int32) &&& ((1 : Int32) &&& ((1 : Int32) &&& ((1 : Int32) &&& ((1 : Int32) &&& (1 : Int32))))))))] [(.int (((p5.toUInt32 >>> ((6 : Int32) &&& 31).toUInt32).toInt32) &&& (1 : Int32))), (.ref b_359), (.ref b_342), (.ref b_327)]))
      have u_403 := Nat.le_trans u_399 K_402.1
      have u_404 := u_400.keep K_402
      have u_405 := u_401.keep K_402
      refine Goes.callS X_402 hx hZ hown (hw _ (List.mem_of_getElem? (i := 43) rfl)) (hw _ (List.mem_of_getElem? (i := 44) rfl)) (hw _ (List.mem_of_getElem? (i := 24) rfl)) (hw _ (List.mem_of_getElem? (i := 45) rfl)) (by decide) e_402 (rmP l Z a0 hw b_327 b_342 b_359 (((p5.toUInt32 >>> ((6 : Int32) &&& 31).toUInt32).toInt32) &&& (1 : Int32)) x_402 y_402 h_402 n0 u_403 (own_bit _) ((0 : Int) + 1 + 1 + 1 + 1 + 1 + 1) (by decide) u_404 u_405 u_331 u_349 u_369 (Nat.ne_of_lt u_347) (Nat.ne_of_lt u_365) (Nat.ne_of_lt u_367) I_402) (W := 0) (by decide) (by decide) (by decide) (by decide) (g := (mkF mM 238 #[.val (.int p1), .val (.int p2), .val (.int p3), .val (.int p4), .val (.int p5), .val (.ref b_1), .val .null, .val .null, .val (.ref b_327), .val (.ref b_342), .val (.ref b_359), .val (.int ((1 : Int32) &&& ((1 : Int32) &&& ((1 : Int32) &&& ((1 : Int32) &&& ((1 : Int32) &&& ((1 : Int32) &&& (1 : Int32))))))))] [(.int (((p5.toUInt32 >>> ((6 : Int32) &&& 31).toUInt32).toInt32) &&& (1 : Int32))), (.ref b_359), (.ref b_342), (.ref b_327)])) rfl (by rw [hml]; rfl) (rest := []) own_pd5 rfl rfl (by show 2 * 0 + _ ≤ _; exact Nat.le_of_eq rfl) (hb hby at_238) ?_
      intro v_406 T_406 L_406 X_406 hQ_406
      generalize e_406 : T_406.heap = h_406 at hQ_406
      obtain ⟨rfl, N_406q, K_406, x_406, y_406, I_406⟩ := hQ_406
      have N_406 := Fr.app N_402 N_406q
      show Goes pP eE bB _ (T_406.setTop (mkF mM 241 #[.val (.int p1), .val (.int p2), .val (.int p3), .val (.int p4), .val (.int p5), .val (.ref b_1), .val .null, .val .null, .val (.ref b_327), .val (.ref b_342), .val (.ref b_359), .val (.int ((1 : Int32) &&& ((1 : Int32) &&& ((1 : Int32) &&& ((1 : Int32) &&& ((1 : Int32) &&& ((1 : Int32) &&& (1 : Int32))))))))] [(.int (1 : Int32))]))
      refine Goes.step (fun _ kK => XS.iload X_406.here hx rfl (hb hby at_241) rfl kK) ?_
      show Goes pP eE bB _ (T_406.setTop (mkF mM 243 #[.val (.int p1), .val (.int p2), .val (.int p3), .val (.int p4), .val (.int p5), .val (.ref b_1), .val .null, .val .null, .val (.ref b_327), .val (.ref b_342), .val (.ref b_359), .val (.int ((1 : Int32) &&& ((1 : Int32) &&& ((1 : Int32) &&& ((1 : Int32) &&& ((1 : Int32) &&& ((1 : Int32) &&& (1 : Int32))))))))] [(.int ((1 : Int32) &&& ((1 : Int32) &&& ((1 : Int32) &&& ((1 : Int32) &&& ((1 : Int32) &&& ((1 : Int32) &&& (1 : Int32)))))))), (.int (1 : Int32))]))
      refine Goes.step (fun _ kK => XS.iand X_406.here hx rfl (hb hby at_243) rfl kK) ?_
      show Goes pP eE bB _ (T_406.setTop (mkF mM 244 #[.val (.int p1), .val (.int p2), .val (.int p3), .val (.int p4), .val (.int p5), .val (.ref b_1), .val .null, .val .null, .val (.ref b_327), .val (.ref b_342), .val (.ref b_359), .val (.int ((1 : Int32) &&& ((1 : Int32) &&& ((1 : Int32) &&& ((1 : Int32) &&& ((1 : Int32) &&& ((1 : Int32) &&& (1 : Int32))))))))] [(.int ((1 : Int32) &&& ((1 : Int32) &&& ((1 : Int32) &&& ((1 : Int32) &&& ((1 : Int32) &&& ((1 : Int32) &&& ((1 : Int32) &&& (1 : Int32)))))))))]))
      refine Goes.step (fun _ kK => XS.istore X_406.here hx rfl (hb hby at_244) rfl (l' := #[.val (.int p1), .val (.int p2), .val (.int p3), .val (.int p4), .val (.int p5), .val (.ref b_1), .val .null, .val .null, .val (.ref b_327), .val (.ref b_342), .val (.ref b_359), .val (.int ((1 : Int32) &&& ((1 : Int32) &&& ((1 : Int32) &&& ((1 : Int32) &&& ((1 : Int32) &&& ((1 : Int32) &&& ((1 : Int32) &&& (1 : Int32)))))))))]) rfl kK) ?_
      show Goes pP eE bB _ (T_406.setTop (mkF mM 246 #[.val (.int p1), .val (.int p2), .val (.int p3), .val (.int p4), .val (.int p5), .val (.ref b_1), .val .null, .val .null, .val (.ref b_327), .val (.ref b_342), .val (.ref b_359), .val (.int ((1 : Int32) &&& ((1 : Int32) &&& ((1 : Int32) &&& ((1 : Int32) &&& ((1 : Int32) &&& ((1 : Int32) &&& ((1 : Int32) &&& (1 : Int32)))))))))] []))
      refine Goes.step (fun _ kK => XS.iload X_406.here hx rfl (hb hby at_246) rfl kK) ?_
      show Goes pP eE bB _ (T_406.setTop (mkF mM 248 #[.val (.int p1), .val (.int p2), .val (.int p3), .val (.int p4), .val (.int p5), .val (.ref b_1), .val .null, .val .null, .val (.ref b_327), .val (.ref b_342), .val (.ref b_359), .val (.int ((1 : Int32) &&& ((1 : Int32) &&& ((1 : Int32) &&& ((1 : Int32) &&& ((1 : Int32) &&& ((1 : Int32) &&& ((1 : Int32) &&& (1 : Int32)))))))))] [(.int ((1 : Int32) &&& ((1 : Int32) &&& ((1 : Int32) &&& ((1 : Int32) &&& ((1 : Int32) &&& ((1 : Int32) &&& ((1 : Int32) &&& (1 : Int32)))))))))]))
      refine Goes.retN X_406 hx hlk (t := .boolean) hret (by simp) (hb hby at_248) (by decide) (by decide) ?_
      exact ⟨rfl, N_406⟩
set_option maxRecDepth 65536 in
set_option maxHeartbeats 40000000 in
theorem comes_1 {Post : Tables → Env → Array Value → State → Outcome → State → Prop} (hpost : ∀ tb e args s v u, (limb_1_1.after args s (.returned v) u = true ∧ limb_1_2.after args s (.returned v) u = true ∧ True) → FrameEnd s (.returned v) u (Jvm.fieldLocs frame_1_writes args s ++ Jvm.arrayLocs frame_1_arrays args s ++ Jvm.staticLocs frame_1_statics s) 24 128 → Post tb e args s (.returned v) u) :
    ArmFor flags0 classFile x code maxLocals ret World_1 tables_1 room_1 Calls_1 rest_1 Pre_1 Post := by
  intro l hfl _ _ p e ha hc hk s m args below hf hA hF happ hP
  obtain ⟨hcalls, hrest, hpre⟩ := hP
  obtain ⟨-, -, -, hnamed, -, -, -, hat⟩ := (Spec.applies_iff hf).mp happ
  obtain ⟨hg, hn⟩ := and_e (Cond.before_iff.mp (show (Jvm.Cond.and given_1 narrow_1).before args s = true from hpre))
  obtain ⟨hcnt, g0⟩ := and_e hg
  obtain ⟨q0, g1⟩ := and_e g0
  obtain ⟨q1, g2⟩ := and_e g1
  obtain ⟨q2, g3⟩ := and_e g2
  obtain ⟨q3, g4⟩ := and_e g3
  have q4 := g4
  obtain ⟨w0, w1, w2, w3, w4, rfl⟩ : ∃ w0 w1 w2 w3 w4 : Value, args = #[w0, w1, w2, w3, w4] := by
    have hs : args.size = 5 := by simpa [Cond.value, given_1] using hcnt
    obtain ⟨L⟩ := args
    match L, hs with
    | [w0, w1, w2, w3, w4], _ => exact ⟨w0, w1, w2, w3, w4, rfl⟩
  have hw := fun d (hd : d ∈ tables_1) => atoms_spec (ws := Jvm.Cond.code x code maxLocals ret :: tables_1) hat d (List.mem_cons_of_mem _ hd)
  obtain ⟨i0, e0⟩ := is_v q0
  obtain rfl : w0 = (.int i0) := Option.some.inj e0
  obtain ⟨i1, e1⟩ := is_v q1
  obtain rfl : w1 = (.int i1) := Option.some.inj e1
  obtain ⟨i2, e2⟩ := is_v q2
  obtain rfl : w2 = (.int i2) := Option.some.inj e2
  obtain ⟨i3, e3⟩ := is_v q3
  obtain rfl : w3 = (.int i3) := Option.some.inj e3
  obtain ⟨i4, e4⟩ := is_v q4
  obtain rfl : w4 = (.int i4) := Option.some.inj e4
  obtain ⟨c0, n0⟩ := and_e hn
  obtain ⟨c1, n1⟩ := and_e n0
  obtain ⟨c2, n2⟩ := and_e n1
  obtain ⟨c3, n3⟩ := and_e n2
  obtain ⟨c4, n4⟩ := and_e n3
  have c5 := n4
  obtain ⟨w2, vw2⟩ := exa_v c0
  have Sw2 := Sta.start vw2 (Or.inr ⟨hw _ (List.mem_of_getElem? (i := 28) rfl), hw _ (List.mem_of_getElem? (i := 29) rfl)⟩)
  obtain ⟨w0, vw0⟩ := exa_v c1
  have Sw0 := Sta.start vw0 (Or.inr ⟨hw _ (List.mem_of_getElem? (i := 28) rfl), hw _ (List.mem_of_getElem? (i := 41) rfl)⟩)
  obtain ⟨w4, vw4⟩ := exa_v c2
  have Sw4 := Sta.start vw4 (Or.inr ⟨hw _ (List.mem_of_getElem? (i := 28) rfl), hw _ (List.mem_of_getElem? (i := 54) rfl)⟩)
  obtain ⟨w1, vw1⟩ := exa_v c3
  have Sw1 := Sta.start vw1 (Or.inr ⟨hw _ (List.mem_of_getElem? (i := 28) rfl), hw _ (List.mem_of_getElem? (i := 56) rfl)⟩)
  obtain ⟨w3, vw3⟩ := exa_v c4
  have Sw3 := Sta.start vw3 (Or.inr ⟨hw _ (List.mem_of_getElem? (i := 28) rfl), hw _ (List.mem_of_getElem? (i := 58) rfl)⟩)
  obtain ⟨w5, vw5⟩ := exa_v c5
  have Sw5 := Sta.start vw5 (Or.inr ⟨hw _ (List.mem_of_getElem? (i := 28) rfl), hw _ (List.mem_of_getElem? (i := 60) rfl)⟩)
  obtain ⟨n, o, h1, h2, h3, _, L, rfl, ⟨rfl, N⟩, hq⟩ := rm0 l s _ hw i0 i1 i2 i3 i4 w0 w1 w2 w3 w4 w5 s.heap s.heap.size (Nat.le_refl _) Sw0 Sw1 Sw2 Sw3 Sw4 Sw5 (Old.start s) tables_1 p e ha hc hk s m _ below hf ((Spec.applies_iff_loose hf).mp happ).1 ⟨rfl, State.Warmed39.refl s, rfl⟩ trivial
  refine ⟨n, _, h1, h2, h3, hpost _ _ _ _ _ _ ⟨Cond.after_iff.mpr rfl, Cond.after_iff.mpr (eq_i res_at (Term.int_eval (1)) rfl), trivial⟩ ⟨hq.1, hq.2.1, (hq.2.2.sift fun y hy => Or.inr (N y hy)).mono (by decide) (by decide)⟩⟩
theorem main_1_1 : Claimed_1_1 := comes_1 fun _ _ _ _ _ _ h hF => ⟨h.1, hF⟩
theorem main_1_2 : Claimed_1_2 := comes_1 fun _ _ _ _ _ _ h hF => ⟨h.2.1, hF⟩
end Jvm.Pilot.@@N@@
namespace Jvm.Pilot.@@N@@
open Jvm Jvm.ClassFile Sem Op Lib Jvm.Free Jvm.Stand Jvm.Pilot.@@N@@.Jvm.D
/-! MADE BY PROGRAM (witnessworld.py) out of the Statement's table words and the real class files: 15 classes; the members and pool entries that the words name. The judged class is class 1, her method 1. -/
namespace start1
open Jvm.ClassFile
def u (s : String) : CpInfo := .utf8 (stringToUtf16 s)
/-- a pool by its gaps: so many unusable entries, then the entry; so many at the end -/
def gap : Nat → List CpInfo → List CpInfo
  | 0, r => r
  | n + 1, r => .unusable :: gap n r
def poolList (es : List (Nat × CpInfo)) (last : Nat) : List CpInfo := es.foldr (fun e r => gap e.1 (e.2 :: r)) (gap last [])
def pool (es : List (Nat × CpInfo)) (last : Nat) : Array CpInfo := ⟨poolList es last⟩
def fileOf (pool : Array CpInfo) (this : Nat) (attrs : Array Attribute := #[]) (ms : Array MethodInfo := #[]) (fl : Nat := 33) (sup : Nat := 0) (ifs : Array Nat := #[]) (fds : Array FieldInfo := #[]) : ClassFile where
  minorVersion := 0
  majorVersion := 65
  constantPool := pool
  accessFlags := fl
  thisClass := this
  superClass := sup
  interfaces := ifs
  fields := fds
  methods := ms
  attributes := attrs
def plain (name : String) (sup : Option ClassId) : Class where
  name := name
  kind := .ordinary
  loader := none
  accessFlags := 33
  super := sup
  interfaces := #[]
  cf := none
  fields := #[]
  methods := #[]
  instanceTypes := #[]
  staticTypes := #[]
  resolved := #[]
  callSites := []
  init := .initialized
  statics := none
  mirror := none

def pool0 : Array CpInfo := pool [(5, u "<init>"), (0, u "()V"), (1, .class_ 10), (1, u "java/lang/Object")] 113

def k0c0 : Code := { maxStack := 0, maxLocals := 1, code := object_method_1_code, exceptionTable := #[], attributes := #[] }
def k0m0 : Method := { name := "<init>", desc := "()V", sig := { parameters := [], returnType := none }, accessFlags := 1, code := some k0c0 }
/-- java/lang/Object -/
def k0 : Class := { plain "java/lang/Object" none with
  accessFlags := 33
  interfaces := #[]
  cf := some (fileOf pool0 8 #[] #[{ accessFlags := 1, nameIndex := 5, descriptorIndex := 6, attributes := #[] }] 33 0 #[] #[])
  fields := #[]
  methods := #[k0m0]
  instanceTypes := #[]
  staticTypes := #[]
  resolved := Array.replicate 124 none
  statics := none }

def pool1 : Array CpInfo := pool [(2, .class_ 4), (1, u "java/lang/Object"), (0, u "<init>"), (0, u "()V"), (0, .class_ 8), (0, u "com/example/anchorline/anchorline/sccp/SccpAddress"), (0, .methodref 7 10), (0, .nameAndType 5 11), (0, u "(II)V"), (0, .class_ 13), (0, u "com/example/anchorline/anchorline/tcap/Dialogue"), (0, .methodref 15 16), (0, .class_ 17), (0, .nameAndType 18 19), (0, u "com/example/anchorline/anchorline/tcap/DialogueNewInvokeIdPinLaw"), (0, u "state"), (0, u "(I)Lcom/example/anchorline/anchorline/tcap/Dialogue$State;"), (0, .methodref 12 21), (0, .nameAndType 5 22), (0, u "(Lcom/example/anchorline/anchorline/sccp/SccpAddress;[BLcom/example/anchorline/anchorline/tcap/Dialogue$State;)V"), (0, .methodref 15 24), (0, .nameAndType 25 26), (0, u "step"), (0, u "(Lcom/example/anchorline/anchorline/tcap/Dialogue;Lcom/example/anchorline/anchorline/tcap/Dialogue;[II)Z"), (0, .methodref 12 28), (0, .nameAndType 29 30), (0, u "newInvokeId"), (0, u "()I"), (0, .integer 2147483647), (0, .fieldref 33 34), (0, .class_ 35), (0, .nameAndType 36 37), (0, u "com/example/anchorline/anchorline/tcap/Dialogue$State"), (0, u "IDLE"), (0, u "Lcom/example/anchorline/anchorline/tcap/Dialogue$State;"), (0, .fieldref 33 39), (0, .nameAndType 40 37), (0, u "INITIATION_SENT"), (0, .fieldref 33 42), (0, .nameAndType 43 37), (0, u "ABORT_WHEN_ANSWERED"), (0, .fieldref 33 45), (0, .nameAndType 46 37), (0, u "INITIATION_RECEIVED"), (0, .fieldref 33 48), (0, .nameAndType 49 37), (0, u "ACTIVE"), (0, .fieldref 33 51), (0, .nameAndType 52 37), (0, u "CLOSED"), (2, u "law"), (0, u "(IIIII)Z")] 7

def k1m0 : Method := { name := "<init>", desc := "()V", sig := { parameters := [], returnType := none }, accessFlags := 1, code := none }
def k1c1 : Code := { maxStack := 6, maxLocals := 12, code := code, exceptionTable := #[], attributes := #[] }
def k1m1 : Method := { name := "law", desc := "(IIIII)Z", sig := { parameters := [.int, .int, .int, .int, .int], returnType := some .boolean }, accessFlags := 9, code := some k1c1 }
def k1c2 : Code := { maxStack := 4, maxLocals := 5, code := method_3_code, exceptionTable := #[], attributes := #[] }
def k1m2 : Method := { name := "step", desc := "(Lcom/example/anchorline/anchorline/tcap/Dialogue;Lcom/example/anchorline/anchorline/tcap/Dialogue;[II)Z", sig := { parameters := [(.object "com/example/anchorline/anchorline/tcap/Dialogue"), (.object "com/example/anchorline/anchorline/tcap/Dialogue"), (.array .int), .int], returnType := some .boolean }, accessFlags := 10, code := some k1c2 }
def k1c3 : Code := { maxStack := 2, maxLocals := 2, code := method_4_code, exceptionTable := #[], attributes := #[] }
def k1m3 : Method := { name := "state", desc := "(I)Lcom/example/anchorline/anchorline/tcap/Dialogue$State;", sig := { parameters := [.int], returnType := some (.object "com/example/anchorline/anchorline/tcap/Dialogue$State") }, accessFlags := 10, code := some k1c3 }
/-- com/example/anchorline/anchorline/tcap/DialogueNewInvokeIdPinLaw -/
def k1 : Class := { plain "com/example/anchorline/anchorline/tcap/DialogueNewInvokeIdPinLaw" (some 0) with
  accessFlags := 49
  interfaces := #[]
  cf := some (fileOf pool1 15 #[] #[{ accessFlags := 1, nameIndex := 5, descriptorIndex := 6, attributes := #[] }, { accessFlags := 9, nameIndex := 55, descriptorIndex := 56, attributes := #[] }, { accessFlags := 10, nameIndex := 25, descriptorIndex := 26, attributes := #[] }, { accessFlags := 10, nameIndex := 18, descriptorIndex := 19, attributes := #[] }] 49 2 #[] #[])
  fields := #[]
  methods := #[k1m0, k1m1, k1m2, k1m3]
  instanceTypes := #[]
  staticTypes := #[]
  resolved := Array.replicate 64 none
  statics := none }

def pool2 : Array CpInfo := pool [(1, .methodref 2 3), (0, .class_ 4), (0, .nameAndType 5 6), (0, u "java/lang/Object"), (0, u "<init>"), (0, u "()V"), (0, .class_ 8), (0, u "java/lang/Record")] 13

def k2c0 : Code := { maxStack := 1, maxLocals := 1, code := jdk_30_method_1_code, exceptionTable := #[], attributes := #[] }
def k2m0 : Method := { name := "<init>", desc := "()V", sig := { parameters := [], returnType := none }, accessFlags := 4, code := some k2c0 }
/-- java/lang/Record -/
def k2 : Class := { plain "java/lang/Record" (some 0) with
  accessFlags := 1057
  interfaces := #[]
  cf := some (fileOf pool2 7 #[] #[{ accessFlags := 4, nameIndex := 5, descriptorIndex := 6, attributes := #[] }] 1057 2 #[] #[])
  fields := #[]
  methods := #[k2m0]
  instanceTypes := #[]
  staticTypes := #[]
  resolved := Array.replicate 22 none
  statics := none }

def pool3 : Array CpInfo := pool [(1, .methodref 2 3), (0, .class_ 4), (0, .nameAndType 5 6), (0, u "java/lang/Record"), (0, u "<init>"), (0, u "()V"), (0, .fieldref 8 9), (0, .class_ 10), (0, .nameAndType 11 12), (0, u "com/example/anchorline/anchorline/sccp/SccpAddress"), (0, u "pointCode"), (0, u "I"), (0, .fieldref 8 14), (0, .nameAndType 15 12), (0, u "subsystem"), (12, u "NO_POINT_CODE"), (2, u "SSN_BSSAP"), (1, u "SSN_MSC"), (1, u "(II)V")] 27

def k3c0 : Code := { maxStack := 2, maxLocals := 3, code := prog_86_method_1_code, exceptionTable := #[], attributes := #[] }
def k3m0 : Method := { name := "<init>", desc := "(II)V", sig := { parameters := [.int, .int], returnType := none }, accessFlags := 1, code := some k3c0 }
/-- com/example/anchorline/anchorline/sccp/SccpAddress -/
def k3 : Class := { plain "com/example/anchorline/anchorline/sccp/SccpAddress" (some 2) with
  accessFlags := 49
  interfaces := #[]
  cf := some (fileOf pool3 8 #[] #[{ accessFlags := 1, nameIndex := 5, descriptorIndex := 35, attributes := #[] }] 49 2 #[] #[{ accessFlags := 18, nameIndex := 11, descriptorIndex := 12, attributes := #[] }, { accessFlags := 18, nameIndex := 15, descriptorIndex := 12, attributes := #[] }, { accessFlags := 25, nameIndex := 28, descriptorIndex := 12, attributes := #[] }, { accessFlags := 25, nameIndex := 31, descriptorIndex := 12, attributes := #[] }, { accessFlags := 25, nameIndex := 33, descriptorIndex := 12, attributes := #[] }])
  fields := #[{ name := "pointCode", type := .int, accessFlags := 18, slot := 0, constantValue := 0 }, { name := "subsystem", type := .int, accessFlags := 18, slot := 1, constantValue := 0 }, { name := "NO_POINT_CODE", type := .int, accessFlags := 25, slot := 0, constantValue := 0 }, { name := "SSN_BSSAP", type := .int, accessFlags := 25, slot := 1, constantValue := 0 }, { name := "SSN_MSC", type := .int, accessFlags := 25, slot := 2, constantValue := 0 }]
  methods := #[k3m0]
  instanceTypes := #[.int, .int]
  staticTypes := #[.int, .int, .int]
  resolved := Array.replicate 63 none
  statics := none }

def pool4 : Array CpInfo := pool [(1, .methodref 2 3), (0, .class_ 4), (0, .nameAndType 5 6), (0, u "java/lang/Object"), (0, u "<init>"), (0, u "()V"), (0, .fieldref 8 9), (0, .class_ 10), (0, .nameAndType 11 12), (0, u "com/example/anchorline/anchorline/tcap/Dialogue"), (0, u "peer"), (0, u "Lcom/example/anchorline/anchorline/sccp/SccpAddress;"), (0, .fieldref 8 14), (0, .nameAndType 15 16), (0, u "applicationContext"), (0, u "[B"), (0, .fieldref 8 18), (0, .nameAndType 19 20), (0, u "state"), (0, u "Lcom/example/anchorline/anchorline/tcap/Dialogue$State;"), (5, .fieldref 8 27), (0, .nameAndType 28 29), (0, u "lastInvokeId"), (0, u "I"), (2, u "localId"), (10, u "MAX_INVOKE_ID"), (2, u "remoteId"), (0, u "user"), (0, u "Lcom/example/anchorline/anchorline/tcap/Tcap$DialogueUser;"), (0, u "abortInformation"), (0, u "(Lcom/example/anchorline/anchorline/sccp/SccpAddress;[BLcom/example/anchorline/anchorline/tcap/Dialogue$State;)V"), (5, u "newInvokeId"), (0, u "()I"), (5, .class_ 64), (0, u "com/example/anchorline/anchorline/tcap/Dialogue$State")] 21

def k4c0 : Code := { maxStack := 2, maxLocals := 4, code := prog_133_method_1_code, exceptionTable := #[], attributes := #[] }
def k4m0 : Method := { name := "<init>", desc := "(Lcom/example/anchorline/anchorline/sccp/SccpAddress;[BLcom/example/anchorline/anchorline/tcap/Dialogue$State;)V", sig := { parameters := [(.object "com/example/anchorline/anchorline/sccp/SccpAddress"), (.array .byte), (.object "com/example/anchorline/anchorline/tcap/Dialogue$State")], returnType := none }, accessFlags := 0, code := some k4c0 }
def k4c1 : Code := { maxStack := 3, maxLocals := 1, code := prog_133_method_4_code, exceptionTable := #[], attributes := #[] }
def k4m1 : Method := { name := "newInvokeId", desc := "()I", sig := { parameters := [], returnType := some .int }, accessFlags := 1, code := some k4c1 }
/-- com/example/anchorline/anchorline/tcap/Dialogue -/
def k4 : Class := { plain "com/example/anchorline/anchorline/tcap/Dialogue" (some 0) with
  accessFlags := 49
  interfaces := #[]
  cf := some (fileOf pool4 8 #[.nestMembers #[63]] #[{ accessFlags := 0, nameIndex := 5, descriptorIndex := 50, attributes := #[] }, { accessFlags := 1, nameIndex := 56, descriptorIndex := 57, attributes := #[] }] 49 2 #[] #[{ accessFlags := 26, nameIndex := 43, descriptorIndex := 29, attributes := #[] }, { accessFlags := 18, nameIndex := 11, descriptorIndex := 12, attributes := #[] }, { accessFlags := 18, nameIndex := 15, descriptorIndex := 16, attributes := #[] }, { accessFlags := 0, nameIndex := 32, descriptorIndex := 29, attributes := #[] }, { accessFlags := 0, nameIndex := 46, descriptorIndex := 16, attributes := #[] }, { accessFlags := 0, nameIndex := 19, descriptorIndex := 20, attributes := #[] }, { accessFlags := 0, nameIndex := 47, descriptorIndex := 48, attributes := #[] }, { accessFlags := 0, nameIndex := 49, descriptorIndex := 16, attributes := #[] }, { accessFlags := 2, nameIndex := 28, descriptorIndex := 29, attributes := #[] }])
  fields := #[{ name := "MAX_INVOKE_ID", type := .int, accessFlags := 26, slot := 0, constantValue := 0 }, { name := "peer", type := (.object "com/example/anchorline/anchorline/sccp/SccpAddress"), accessFlags := 18, slot := 0, constantValue := 0 }, { name := "applicationContext", type := (.array .byte), accessFlags := 18, slot := 1, constantValue := 0 }, { name := "localId", type := .int, accessFlags := 0, slot := 2, constantValue := 0 }, { name := "remoteId", type := (.array .byte), accessFlags := 0, slot := 3, constantValue := 0 }, { name := "state", type := (.object "com/example/anchorline/anchorline/tcap/Dialogue$State"), accessFlags := 0, slot := 4, constantValue := 0 }, { name := "user", type := (.object "com/example/anchorline/anchorline/tcap/Tcap$DialogueUser"), accessFlags := 0, slot := 5, constantValue := 0 }, { name := "abortInformation", type := (.array .byte), accessFlags := 0, slot := 6, constantValue := 0 }, { name := "lastInvokeId", type := .int, accessFlags := 2, slot := 7, constantValue := 0 }]
  methods := #[k4m0, k4m1]
  instanceTypes := #[(.object "com/example/anchorline/anchorline/sccp/SccpAddress"), (.array .byte), .int, (.array .byte), (.object "com/example/anchorline/anchorline/tcap/Dialogue$State"), (.object "com/example/anchorline/anchorline/tcap/Tcap$DialogueUser"), (.array .byte), .int]
  staticTypes := #[.int]
  resolved := Array.replicate 86 none
  statics := none }

def pool5 : Array CpInfo := pool [(1, .class_ 2), (0, u "java/lang/constant/Constable"), (0, .class_ 4), (0, u "java/lang/Object")] 6

/-- java/lang/constant/Constable -/
def k5 : Class := { plain "java/lang/constant/Constable" (some 0) with
  accessFlags := 1537
  interfaces := #[]
  cf := some (fileOf pool5 1 #[] #[] 1537 3 #[] #[])
  fields := #[]
  methods := #[]
  instanceTypes := #[]
  staticTypes := #[]
  resolved := Array.replicate 11 none
  statics := none }

def pool6 : Array CpInfo := pool [(1, .class_ 2), (0, u "java/lang/Comparable"), (0, .class_ 4), (0, u "java/lang/Object")] 7

/-- java/lang/Comparable -/
def k6 : Class := { plain "java/lang/Comparable" (some 0) with
  accessFlags := 1537
  interfaces := #[]
  cf := some (fileOf pool6 1 #[] #[] 1537 3 #[] #[])
  fields := #[]
  methods := #[]
  instanceTypes := #[]
  staticTypes := #[]
  resolved := Array.replicate 12 none
  statics := none }

def pool7 : Array CpInfo := pool [(1, .class_ 2), (0, u "java/io/Serializable"), (0, .class_ 4), (0, u "java/lang/Object")] 2

/-- java/io/Serializable -/
def k7 : Class := { plain "java/io/Serializable" (some 0) with
  accessFlags := 1537
  interfaces := #[]
  cf := some (fileOf pool7 1 #[] #[] 1537 3 #[] #[])
  fields := #[]
  methods := #[]
  instanceTypes := #[]
  staticTypes := #[]
  resolved := Array.replicate 7 none
  statics := none }

def pool8 : Array CpInfo := pool [(2, .class_ 4), (1, u "java/lang/Enum"), (0, u "name"), (0, u "Ljava/lang/String;"), (2, u "ordinal"), (0, u "I"), (1, .class_ 14), (1, u "java/lang/Object"), (4, u "hash"), (86, .class_ 108), (1, u "java/lang/Enum$EnumDesc"), (2, .class_ 112), (0, u "java/lang/constant/Constable"), (0, .class_ 114), (0, u "java/lang/Comparable"), (0, .class_ 116), (0, u "java/io/Serializable")] 87

/-- java/lang/Enum -/
def k8 : Class := { plain "java/lang/Enum" (some 0) with
  accessFlags := 1057
  interfaces := #[5, 6, 7]
  cf := some (fileOf pool8 2 #[.nestMembers #[106]] #[] 1057 12 #[111, 113, 115] #[{ accessFlags := 18, nameIndex := 5, descriptorIndex := 6, attributes := #[] }, { accessFlags := 18, nameIndex := 9, descriptorIndex := 10, attributes := #[] }, { accessFlags := 2, nameIndex := 19, descriptorIndex := 10, attributes := #[] }])
  fields := #[{ name := "name", type := (.object "java/lang/String"), accessFlags := 18, slot := 0, constantValue := 0 }, { name := "ordinal", type := .int, accessFlags := 18, slot := 1, constantValue := 0 }, { name := "hash", type := .int, accessFlags := 2, slot := 2, constantValue := 0 }]
  methods := #[]
  instanceTypes := #[(.object "java/lang/String"), .int, .int]
  staticTypes := #[]
  resolved := Array.replicate 204 none
  statics := none }

def pool9 : Array CpInfo := pool [(1, .class_ 2), (0, u "com/example/anchorline/anchorline/tcap/Dialogue$State"), (2, u "IDLE"), (0, u "Lcom/example/anchorline/anchorline/tcap/Dialogue$State;"), (2, u "INITIATION_SENT"), (2, u "ABORT_WHEN_ANSWERED"), (2, u "INITIATION_RECEIVED"), (2, u "ACTIVE"), (2, u "CLOSED"), (2, u "$VALUES"), (0, u "[Lcom/example/anchorline/anchorline/tcap/Dialogue$State;"), (6, .class_ 34), (1, u "java/lang/Enum"), (29, .class_ 65), (0, u "com/example/anchorline/anchorline/tcap/Dialogue")] 2

/-- com/example/anchorline/anchorline/tcap/Dialogue$State -/
def k9 : Class := { plain "com/example/anchorline/anchorline/tcap/Dialogue$State" (some 8) with
  accessFlags := 16432
  interfaces := #[]
  cf := some (fileOf pool9 1 #[.nestHost 64] #[] 16432 32 #[] #[{ accessFlags := 16409, nameIndex := 5, descriptorIndex := 6, attributes := #[] }, { accessFlags := 16409, nameIndex := 9, descriptorIndex := 6, attributes := #[] }, { accessFlags := 16409, nameIndex := 12, descriptorIndex := 6, attributes := #[] }, { accessFlags := 16409, nameIndex := 15, descriptorIndex := 6, attributes := #[] }, { accessFlags := 16409, nameIndex := 18, descriptorIndex := 6, attributes := #[] }, { accessFlags := 16409, nameIndex := 21, descriptorIndex := 6, attributes := #[] }, { accessFlags := 4122, nameIndex := 24, descriptorIndex := 25, attributes := #[] }])
  fields := #[{ name := "IDLE", type := (.object "com/example/anchorline/anchorline/tcap/Dialogue$State"), accessFlags := 16409, slot := 0, constantValue := 0 }, { name := "INITIATION_SENT", type := (.object "com/example/anchorline/anchorline/tcap/Dialogue$State"), accessFlags := 16409, slot := 1, constantValue := 0 }, { name := "ABORT_WHEN_ANSWERED", type := (.object "com/example/anchorline/anchorline/tcap/Dialogue$State"), accessFlags := 16409, slot := 2, constantValue := 0 }, { name := "INITIATION_RECEIVED", type := (.object "com/example/anchorline/anchorline/tcap/Dialogue$State"), accessFlags := 16409, slot := 3, constantValue := 0 }, { name := "ACTIVE", type := (.object "com/example/anchorline/anchorline/tcap/Dialogue$State"), accessFlags := 16409, slot := 4, constantValue := 0 }, { name := "CLOSED", type := (.object "com/example/anchorline/anchorline/tcap/Dialogue$State"), accessFlags := 16409, slot := 5, constantValue := 0 }, { name := "$VALUES", type := (.array (.object "com/example/anchorline/anchorline/tcap/Dialogue$State")), accessFlags := 4122, slot := 6, constantValue := 0 }]
  methods := #[]
  instanceTypes := #[(.object "java/lang/String"), .int, .int]
  staticTypes := #[(.object "com/example/anchorline/anchorline/tcap/Dialogue$State"), (.object "com/example/anchorline/anchorline/tcap/Dialogue$State"), (.object "com/example/anchorline/anchorline/tcap/Dialogue$State"), (.object "com/example/anchorline/anchorline/tcap/Dialogue$State"), (.object "com/example/anchorline/anchorline/tcap/Dialogue$State"), (.object "com/example/anchorline/anchorline/tcap/Dialogue$State"), (.array (.object "com/example/anchorline/anchorline/tcap/Dialogue$State"))]
  resolved := Array.replicate 68 none
  statics := some 0 }

def pool10 : Array CpInfo := pool [(1, u "java/lang/Cloneable"), (0, .class_ 1), (0, u "java/lang/Object"), (0, .class_ 3)] 3

/-- java/lang/Cloneable -/
def k10 : Class := { plain "java/lang/Cloneable" (some 0) with
  accessFlags := 1537
  interfaces := #[]
  cf := some (fileOf pool10 2 #[] #[] 1537 4 #[] #[])
  fields := #[]
  methods := #[]
  instanceTypes := #[]
  staticTypes := #[]
  resolved := Array.replicate 8 none
  statics := none }

/-- the primitive byte -/
def k11 : Class := { plain "byte" none with kind := .primitive 'B', accessFlags := 0x411 }
/-- [B -/
def k12 : Class := { plain "[B" (some 0) with kind := .array 11 .byte, interfaces := #[10, 7], accessFlags := 1041 }

/-- the primitive int -/
def k13 : Class := { plain "int" none with kind := .primitive 'I', accessFlags := 0x411 }
/-- [I -/
def k14 : Class := { plain "[I" (some 0) with kind := .array 13 .int, interfaces := #[10, 7], accessFlags := 1041 }

def heap : Heap := #[{ cls := 9, slots := #[.ref 1, .ref 2, .ref 3, .ref 4, .ref 5, .ref 6, .null], vm := .statics 9 },
  { cls := 9, slots := #[.null, .int 0, .int 0], vm := .none },
  { cls := 9, slots := #[.null, .int 1, .int 0], vm := .none },
  { cls := 9, slots := #[.null, .int 2, .int 0], vm := .none },
  { cls := 9, slots := #[.null, .int 3, .int 0], vm := .none },
  { cls := 9, slots := #[.null, .int 4, .int 0], vm := .none },
  { cls := 9, slots := #[.null, .int 5, .int 0], vm := .none }]
def classes : Array Class := #[k0, k1, k2, k3, k4, k5, k6, k7, k8, k9, k10, k11, k12, k13, k14]
def interned : List (Array UInt16 × Addr) := []
def slotsUsed : Nat := 25
def theMethod : MethodId := ⟨1, 1⟩
def args0 : Array Value := #[.int 2, .int 7, .int 8, .int 9, .int 10]
def aboutOver (below : List Frame) : State where
  vm := { classes := classes, interned := interned.toArray }
  heap := heap
  slotsUsed := slotsUsed
  threads := #[{ frames := .invoking theMethod args0 :: below }]
def below0 : List Frame := [.native { method := ⟨0, 0⟩, args := #[] }]
def about1 : State := aboutOver below0
def p0 : Program := .bare "" "" ""
def e0 : Env := launch0.env 0 0 0
theorem w_frames : about1.frames = Frame.invoking theMethod args0 :: below0 := rfl
set_option maxRecDepth 65536 in
theorem w_args : argsFit about1.vm theMethod args0 = true := by decide +kernel
set_option maxRecDepth 65536 in
theorem w_heap : heapFits about1 = true := by decide +kernel
set_option maxRecDepth 65536 in
theorem w_runnable : about1.curStatus? = some .runnable := by decide +kernel
set_option maxRecDepth 65536 in
theorem w_alone : about1.alone = true := by decide +kernel
set_option maxRecDepth 65536 in
theorem w_named : about1.methodNamed? x = some theMethod := by decide +kernel
set_option maxRecDepth 65536 in
theorem w_hears : about1.hears theMethod below0 = true := by decide +kernel
set_option maxRecDepth 65536 in
theorem w_ripe : about1.ripe theMethod args0 below0 = true := by decide +kernel
theorem w_running : about1.status = .running := rfl
set_option maxRecDepth 65536 in
theorem w_room : about1.hasRoom e0.platform room_1 = true :=
  launch0.hasRoom_least _ room_1 (by decide +kernel) (by decide +kernel) (by decide +kernel) (by decide +kernel) (by decide +kernel) (by decide +kernel)
theorem allAtoms_all (ts : List Jvm.Cond) (a : Array Jvm.Value) (st : Jvm.State) : (allAtoms ts).before a st = ts.all (fun c => c.before a st) := by
  induction ts with
  | nil => rfl
  | cons c t ih =>
    show (Jvm.Cond.and c (allAtoms t)).before a st = _
    rw [Jvm.Cond.before_and, ih, List.all_cons]
def words1 : List Jvm.Cond := Jvm.Cond.code x code maxLocals ret :: tables_1
/-- a 'code' word, met by the world's own term for the bytes: nothing is compared byte by byte -/
theorem code_word {y : MethodName} {bytes : ByteArray} {mx : Nat} {rt : Option FieldType} {a : Array Value} {s : State} {m : MethodId} {meth : Method} {c : Code} (h1 : s.methodNamed? y = some m) (h2 : s.vm.method? m = some meth) (h3 : meth.code = some c) (h4 : c.code = bytes)
    (h5 : (c.maxLocals == mx && c.exceptionTable.isEmpty && decide (c.maxStack ≤ mostOperands) && decide (meth.sig.returnType = rt) && !meth.locks && decide (parseMethodDescriptor y.desc = some meth.sig)) = true) : (Jvm.Cond.code y bytes mx rt).before a s = true := by
  simp only [Bool.and_eq_true, beq_iff_eq, Bool.not_eq_true', decide_eq_true_eq] at h5
  obtain ⟨⟨⟨⟨⟨g1, g2⟩, g3⟩, g4⟩, g5⟩, g6⟩ := h5
  simp [Cond.before, Cond.holds, Cond.value, h1, h2, h3, h4, g1, g2, g3, g4, g5, g6]
def isCode : Jvm.Cond → Bool
  | .code _ _ _ _ => true
  | _ => false
theorem all_split {L : List Jvm.Cond} {P : Jvm.Cond → Bool} (h1 : L.all (fun c => isCode c || P c) = true) (h2 : ∀ c ∈ L.filter isCode, P c = true) : L.all P = true := by
  refine List.all_eq_true.mpr fun c hc => ?_
  have h := List.all_eq_true.mp h1 c hc
  rcases Bool.eq_false_or_eq_true (isCode c) with hi | hi
  · exact h2 c (List.mem_filter.mpr ⟨hc, hi⟩)
  · simpa [hi] using h
set_option maxRecDepth 65536 in
theorem w_c0 : (Jvm.Cond.code x code maxLocals ret).before args0 about1 = true := code_word (m := ⟨1, 1⟩) (meth := k1m1) (c := k1c1) (by decide +kernel) rfl rfl rfl (by decide +kernel)
set_option maxRecDepth 65536 in
theorem w_c1 : (Jvm.Cond.code ({ cls := "com/example/anchorline/anchorline/sccp/SccpAddress", name := "<init>", desc := "(II)V" } : Jvm.MethodName) prog_86_method_1_code (3 : Nat) (Option.none : Option Jvm.ClassFile.FieldType)).before args0 about1 = true := code_word (m := ⟨3, 0⟩) (meth := k3m0) (c := k3c0) (by decide +kernel) rfl rfl rfl (by decide +kernel)
set_option maxRecDepth 65536 in
theorem w_c2 : (Jvm.Cond.code ({ cls := "java/lang/Record", name := "<init>", desc := "()V" } : Jvm.MethodName) jdk_30_method_1_code (1 : Nat) (Option.none : Option Jvm.ClassFile.FieldType)).before args0 about1 = true := code_word (m := ⟨2, 0⟩) (meth := k2m0) (c := k2c0) (by decide +kernel) rfl rfl rfl (by decide +kernel)
set_option maxRecDepth 65536 in
theorem w_c3 : (Jvm.Cond.code ({ cls := "java/lang/Object", name := "<init>", desc := "()V" } : Jvm.MethodName) object_method_1_code (1 : Nat) (Option.none : Option Jvm.ClassFile.FieldType)).before args0 about1 = true := code_word (m := ⟨0, 0⟩) (meth := k0m0) (c := k0c0) (by decide +kernel) rfl rfl rfl (by decide +kernel)
set_option maxRecDepth 65536 in
theorem w_c4 : (Jvm.Cond.code ({ cls := "com/example/anchorline/anchorline/tcap/DialogueNewInvokeIdPinLaw", name := "state", desc := "(I)Lcom/example/anchorline/anchorline/tcap/Dialogue$State;" } : Jvm.MethodName) method_4_code (2 : Nat) (Option.some (Jvm.ClassFile.FieldType.object "com/example/anchorline/anchorline/tcap/Dialogue$State"))).before args0 about1 = true := code_word (m := ⟨1, 3⟩) (meth := k1m3) (c := k1c3) (by decide +kernel) rfl rfl rfl (by decide +kernel)
set_option maxRecDepth 65536 in
theorem w_c5 : (Jvm.Cond.code ({ cls := "com/example/anchorline/anchorline/tcap/Dialogue", name := "<init>", desc := "(Lcom/example/anchorline/anchorline/sccp/SccpAddress;[BLcom/example/anchorline/anchorline/tcap/Dialogue$State;)V" } : Jvm.MethodName) prog_133_method_1_code (4 : Nat) (Option.none : Option Jvm.ClassFile.FieldType)).before args0 about1 = true := code_word (m := ⟨4, 0⟩) (meth := k4m0) (c := k4c0) (by decide +kernel) rfl rfl rfl (by decide +kernel)
set_option maxRecDepth 65536 in
theorem w_c6 : (Jvm.Cond.code ({ cls := "com/example/anchorline/anchorline/tcap/DialogueNewInvokeIdPinLaw", name := "step", desc := "(Lcom/example/anchorline/anchorline/tcap/Dialogue;Lcom/example/anchorline/anchorline/tcap/Dialogue;[II)Z" } : Jvm.MethodName) method_3_code (5 : Nat) (Option.some Jvm.ClassFile.FieldType.boolean)).before args0 about1 = true := code_word (m := ⟨1, 2⟩) (meth := k1m2) (c := k1c2) (by decide +kernel) rfl rfl rfl (by decide +kernel)
set_option maxRecDepth 65536 in
theorem w_c7 : (Jvm.Cond.code ({ cls := "com/example/anchorline/anchorline/tcap/Dialogue", name := "newInvokeId", desc := "()I" } : Jvm.MethodName) prog_133_method_4_code (1 : Nat) (Option.some Jvm.ClassFile.FieldType.int)).before args0 about1 = true := code_word (m := ⟨4, 1⟩) (meth := k4m1) (c := k4c1) (by decide +kernel) rfl rfl rfl (by decide +kernel)
def codes1 : List Jvm.Cond := [Jvm.Cond.code x code maxLocals ret, Jvm.Cond.code ({ cls := "com/example/anchorline/anchorline/sccp/SccpAddress", name := "<init>", desc := "(II)V" } : Jvm.MethodName) prog_86_method_1_code (3 : Nat) (Option.none : Option Jvm.ClassFile.FieldType), Jvm.Cond.code ({ cls := "java/lang/Record", name := "<init>", desc := "()V" } : Jvm.MethodName) jdk_30_method_1_code (1 : Nat) (Option.none : Option Jvm.ClassFile.FieldType), Jvm.Cond.code ({ cls := "java/lang/Object", name := "<init>", desc := "()V" } : Jvm.MethodName) object_method_1_code (1 : Nat) (Option.none : Option Jvm.ClassFile.FieldType), Jvm.Cond.code ({ cls := "com/example/anchorline/anchorline/tcap/DialogueNewInvokeIdPinLaw", name := "state", desc := "(I)Lcom/example/anchorline/anchorline/tcap/Dialogue$State;" } : Jvm.MethodName) method_4_code (2 : Nat) (Option.some (Jvm.ClassFile.FieldType.object "com/example/anchorline/anchorline/tcap/Dialogue$State")), Jvm.Cond.code ({ cls := "com/example/anchorline/anchorline/tcap/Dialogue", name := "<init>", desc := "(Lcom/example/anchorline/anchorline/sccp/SccpAddress;[BLcom/example/anchorline/anchorline/tcap/Dialogue$State;)V" } : Jvm.MethodName) prog_133_method_1_code (4 : Nat) (Option.none : Option Jvm.ClassFile.FieldType), Jvm.Cond.code ({ cls := "com/example/anchorline/anchorline/tcap/DialogueNewInvokeIdPinLaw", name := "step", desc := "(Lcom/example/anchorline/anchorline/tcap/Dialogue;Lcom/example/anchorline/anchorline/tcap/Dialogue;[II)Z" } : Jvm.MethodName) method_3_code (5 : Nat) (Option.some Jvm.ClassFile.FieldType.boolean), Jvm.Cond.code ({ cls := "com/example/anchorline/anchorline/tcap/Dialogue", name := "newInvokeId", desc := "()I" } : Jvm.MethodName) prog_133_method_4_code (1 : Nat) (Option.some Jvm.ClassFile.FieldType.int)]
set_option maxRecDepth 65536 in
theorem codes_eq : words1.filter isCode = codes1 := rfl
theorem w_codes : ∀ c ∈ words1.filter isCode, c.before args0 about1 = true := by
  rw [codes_eq]
  intro c hc
  simp only [codes1, List.mem_cons, List.not_mem_nil, or_false] at hc
  rcases hc with rfl | rfl | rfl | rfl | rfl | rfl | rfl | rfl
  · exact w_c0
  · exact w_c1
  · exact w_c2
  · exact w_c3
  · exact w_c4
  · exact w_c5
  · exact w_c6
  · exact w_c7
set_option maxRecDepth 65536 in
theorem w_t1 : (words1.take 24).all (fun c => isCode c || c.before args0 about1) = true := by decide +kernel
set_option maxRecDepth 65536 in
theorem w_t2 : ((words1.drop 24).take 24).all (fun c => isCode c || c.before args0 about1) = true := by decide +kernel
set_option maxRecDepth 65536 in
theorem w_t3 : ((words1.drop 24).drop 24).all (fun c => isCode c || c.before args0 about1) = true := by decide +kernel
theorem w_tables : (allAtoms (Jvm.Cond.code x code maxLocals ret :: tables_1)).before args0 about1 = true := by
  rw [allAtoms_all]
  show words1.all (fun c => c.before args0 about1) = true
  refine all_split ?_ w_codes
  rw [← List.take_append_drop 24 words1, List.all_append, w_t1, ← List.take_append_drop 24 (words1.drop 24), List.all_append, w_t2, w_t3]
  rfl
set_option maxRecDepth 65536 in
theorem w_case : (Jvm.Cond.and given_1 narrow_1).before args0 about1 = true := by decide +kernel
theorem w_applies : (headSpec (Jvm.Cond.code x code maxLocals ret :: tables_1) room_1).applies x e0.platform about1 = true :=
  (Spec.applies_iff w_frames).mpr ⟨w_running, w_runnable, w_alone, w_named, w_hears, w_ripe, w_room, w_tables⟩
theorem atStart : AtStart classFile x code maxLocals ret World_1 tables_1 room_1 Calls_1 rest_1 Pre_1 launch0 p0 e0 about1 theMethod args0 below0 :=
  ⟨lists_1, trivial, launch0.admits_env _ _ _, launch0.least_env, fairChoices_fair.cas, fairChoices_fair.clock, w_frames, w_args, w_heap, w_applies, trivial, trivial, w_case⟩
end start1
theorem witness_1 : WitnessClaimed_1 := ⟨start1.p0, start1.e0, start1.about1, start1.theMethod, start1.args0, start1.below0, start1.atStart⟩
end Jvm.Pilot.@@N@@
