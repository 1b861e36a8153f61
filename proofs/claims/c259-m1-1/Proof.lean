import JvmDerived
import JvmDerived.Pilot.@@N@@Statement
import JvmDerived.Pilot.@@N@@Code
set_option linter.unusedVariables false
set_option linter.unusedSimpArgs false
@@BLOCK:NumsL.lean.txt@@
namespace Jvm.Pilot.@@N@@
open Jvm Jvm.ClassFile Sem Op Lib Jvm.Free Jvm.Stand Jvm.LawKit Jvm.RoadKit Bundle Jvm.Pilot.@@N@@.Jvm.D
section Own
variable {p : Program} {l : Launch} {e : Env} {R : Room} {s : State} {m : MethodId} {args : Array Value} {below : List Frame} {meth : Method} {c : Code} {T : State} {locs : List Loc} {cells slots : Nat} {Z : State} {a0 : Array Value} {h : Heap}
/-- from t the run comes to an end that P speaks of -/
def Goes (p : Program) (e : Env) (below : List Frame) (P : State → Outcome → Prop) (t : State) : Prop :=
  ∃ s₂ o, Steps p.tables e below t s₂ ∧ s₂.status = .running ∧ Ended s₂ below o ∧ P s₂ o
/-- it returned, what Q says, and the frame -/
def Aim (s : State) (Q : Option Value → Heap → List Loc → Prop) (k n : Nat) (s₂ : State) (o : Outcome) : Prop :=
  ∃ v L, o = .returned v ∧ Q v s₂.heap L ∧ FrameEnd s o s₂ L k n
theorem Goes.step {P : State → Outcome → Prop} {t t' : State} (st : ∀ tgt, Steps p.tables e below t' tgt → Steps p.tables e below t tgt) (q : Goes p e below P t') : Goes p e below P t := by
  obtain ⟨s₂, o, k, r⟩ := q
  exact ⟨s₂, o, st _ k, r⟩
theorem Goes.tr {P : State → Outcome → Prop} {t t' : State} (st : Steps p.tables e below t t') (q : Goes p e below P t') : Goes p e below P t := by
  obtain ⟨s₂, o, k, r⟩ := q
  exact ⟨s₂, o, st.trans k, r⟩
theorem Goes.retN (X : Stand p l e R s m args below meth c T locs cells slots) (hx : p.tables.exec = Jvm.exec) (hlk : meth.locks = false) {t : FieldType} (hret : meth.sig.returnType = some t) (ht : t = .boolean ∨ t = .byte ∨ t = .char ∨ t = .short) {pc : Nat} {Ls : Array Slot} {z : Int32} {rest : List Value}
    (hd : decode c.code pc = .ok (.ireturn, 1)) {Q : Option Value → Heap → List Loc → Prop} {k n : Nat} (hk : cells ≤ k) (hn : slots ≤ n) (hQ : Q (some (.int (nar t z))) T.heap locs) :
    Goes p e below (Aim s Q k n) (T.setTop (mkF m pc Ls (.int z :: rest))) := by
  obtain ⟨fs, hr, hrun, hended, hW, hsame⟩ := X.leave (v := some (.int (nar t z))) (fun h => by rw [hret] at h; cases h) hlk
  exact ⟨_, _, Jvm.RoadKit.retN X hx hret ht hd hr, hrun, hended, _, _, rfl, hQ, ⟨_, rfl⟩, hW, hsame.mono hk hn⟩
theorem Goes.ret (X : Stand p l e R s m args below meth c T locs cells slots) (hx : p.tables.exec = Jvm.exec) (hlk : meth.locks = false) {t : FieldType} (hret : meth.sig.returnType = some t) {w : Value} (hnr : narrow t w = w) {i : Instr} {pc : Nat} {Ls : Array Slot} {rest : List Value}
    (hi : (i = .ireturn ∧ (t = .int ∨ t = .boolean ∨ t = .byte ∨ t = .char ∨ t = .short) ∧ ∃ z, w = .int z) ∨ (i = .lreturn ∧ t = .long ∧ ∃ z, w = .long z) ∨ (i = .dreturn ∧ t = .double ∧ ∃ z, w = .double z) ∨ (i = .freturn ∧ t = .float ∧ ∃ z, w = .float z) ∨ (i = .areturn ∧ t.isReference = true ∧ w.isRef = true))
    (hd : decode c.code pc = .ok (i, 1)) {Q : Option Value → Heap → List Loc → Prop} {k n : Nat} (hk : cells ≤ k) (hn : slots ≤ n) (hQ : Q (some w) T.heap locs) :
    Goes p e below (Aim s Q k n) (T.setTop (mkF m pc Ls (w :: rest))) := by
  obtain ⟨fs, hr, hrun, hended, hW, hsame⟩ := X.leave (v := some w) (fun h => by rw [hret] at h; cases h) hlk
  exact ⟨_, _, Jvm.RoadKit.retOut X hx hret hnr hi hd hr, hrun, hended, _, _, rfl, hQ, ⟨_, rfl⟩, hW, hsame.mono hk hn⟩
theorem Goes.ret0 (X : Stand p l e R s m args below meth c T locs cells slots) (hx : p.tables.exec = Jvm.exec) (hlk : meth.locks = false) (hret : meth.sig.returnType = none) {pc : Nat} {Ls : Array Slot}
    (hd : decode c.code pc = .ok (.return_, 1)) {Q : Option Value → Heap → List Loc → Prop} {k n : Nat} (hk : cells ≤ k) (hn : slots ≤ n) (hQ : Q none T.heap locs) :
    Goes p e below (Aim s Q k n) (T.setTop (mkF m pc Ls [])) := by
  obtain ⟨fs, hr, hrun, hended, hW, hsame⟩ := X.leave (v := none) (fun _ => rfl) hlk
  exact ⟨_, _, X.returnOut hx hret hd hr, hrun, hended, _, _, rfl, hQ, ⟨_, rfl⟩, hW, hsame.mono hk hn⟩
/-- a body's contract: called with these arguments over the heap h0 it returns, and Q says what it leaves -/
def Con (l : Launch) (Z : State) (y : MethodName) (bytes : ByteArray) (maxL : Nat) (ret : Option FieldType) (rm : Room) (as : Array Value) (h0 : Heap) (Q : Option Value → Heap → List Loc → Prop) : Prop :=
  ∀ ws : List Jvm.Cond, MetFree l y (head1 (Jvm.Cond.code y bytes maxL ret :: ws) rm) (fun a U => a = as ∧ Z.Warmed39 U.vm ∧ U.heap = h0) (fun _ _ _ _ _ => True) (fun _ U o U' => ∃ v L, o = .returned v ∧ Q v U'.heap L ∧ FrameEnd U o U' L rm.cells rm.slots)
theorem Con.body {y : MethodName} {bytes : ByteArray} {maxL : Nat} {ret : Option FieldType} {rm : Room} {as : Array Value} {h0 : Heap} {Q : Option Value → Heap → List Loc → Prop} (hp : plainFor y = true)
    (H : ∀ (p : Program) (e : Env) (s : State) (m : MethodId) (below : List Frame) (meth : Method) (c : Code) (s₁ : State), p.tables.exec = Jvm.exec → c.code = bytes → c.maxLocals = maxL → Z.Warmed39 s.vm → s.vm.findClass y.cls = some m.cls → meth.name = y.name → meth.sig.returnType = ret → meth.locks = false →
      Stand p l e rm s m as below meth c s₁ [] 0 0 → s₁.heap = h0 → Goes p e below (Aim s Q rm.cells rm.slots) (s₁.setTop (entryFrame m as maxL))) :
    Con l Z y bytes maxL ret rm as h0 Q := by
  intro ws
  refine MetFree.of_bodySF hp hisR ?_
  intro p e s m args below meth c s₁ Bd hml0 hP hK
  obtain ⟨rfl, hZ, hh⟩ := hP
  exact H p e s m below meth c s₁ Bd.exec Bd.bytes hml0 hZ (findClass_of_methodNamed Bd.named) (name_of_methodNamed Bd.named Bd.method).1 Bd.returns Bd.notSynchronized (Stand.of_body Bd) (by rw [← hh, Bd.state]; rfl)
theorem Goes.callS (X : Stand p l e R s m args below meth c T locs cells slots) (hx : p.tables.exec = Jvm.exec) (hZ : Z.Warmed39 s.vm) {own : String} {index : Nat} {y : MethodName} {bytes : ByteArray} {maxL : Nat} {ret : Option FieldType} {rm : Room} {as : List Value} {Q : Option Value → Heap → List Loc → Prop} (hown : s.vm.findClass own = some m.cls)
    (w1 : (Jvm.Cond.methodLink own index y).before a0 Z = true) (w2 : (Jvm.Cond.static y).before a0 Z = true) (w3 : (Jvm.Cond.initialized y.cls).before a0 Z = true) (w4 : (Jvm.Cond.code y bytes maxL ret).before a0 Z = true) (hy : y.cls ≠ "java/lang/invoke/MethodHandle" ∧ y.cls ≠ "java/lang/invoke/VarHandle")
    (eT : T.heap = h) (hM : Con l Z y bytes maxL ret rm as.toArray h Q) {W : Nat} (hf : rm.frames + 1 ≤ R.frames) (hl : W + (maxL + 11) + rm.locals ≤ R.locals) (hc : cells + rm.cells ≤ R.cells) (hs : slots + rm.slots ≤ R.slots)
    {g : JFrame} (hg : g.method = m) (hsize : g.locals.size = c.maxLocals) {rest : List Value} {ps : List FieldType} {r : Option FieldType} (hd : parseMethodDescriptor y.desc = some ⟨ps, r⟩) (hlen : as.length = ps.length) (hstack : g.stack = as.reverse ++ rest) (hW : 2 * g.monitorRoom + (rest.map fun v => v.category).sum ≤ W) (hdg : decode c.code g.pc = .ok (.invokestatic index, 3))
    {P : State → Outcome → Prop} (k : ∀ v T' L, Stand p l e R s m args below meth c T' (locs ++ L) (cells + rm.cells) (slots + rm.slots) → Q v T'.heap L → Goes p e below P (T'.setTop { g with pc := g.pc + 3, stack := v.toList ++ rest })) :
    Goes p e below P (T.setTop g) := by
  obtain ⟨v, vm₁, ⟨T', L', k', n'⟩, -, X', ⟨L, hQ, l', y', z'⟩, st⟩ := Jvm.LawKit.callS X hx hown (mvT hZ w1) (mvT hZ w2) (mvT hZ w3) (mvT hZ w4) hy (backOf (W := W) (hM []) hZ w4 w3 hf hl) (g := g) hg hsize (argsL := as) (rest := rest) (lenOf hd hlen) hstack hW hdg (fun _ _ => ⟨rfl, eT, hc, hs⟩)
  try dsimp only at X' hQ l' y' z' st
  subst l' y' z'
  exact Goes.step st (k v T' L X' hQ)
theorem Goes.callV (X : Stand p l e R s m args below meth c T locs cells slots) (hx : p.tables.exec = Jvm.exec) (hZ : Z.Warmed39 s.vm) {own C : String} {index : Nat} {y z : MethodName} {bytes : ByteArray} {maxL : Nat} {ret : Option FieldType} {rm : Room} {as : List Value} {Q : Option Value → Heap → List Loc → Prop} (hown : s.vm.findClass own = some m.cls)
    (w1 : (Jvm.Cond.methodLink own index y).before a0 Z = true) (w2 : (Jvm.Cond.declares y).before a0 Z = true) (hnf : NotFace s y) (w3 : (Jvm.Cond.selects C y z).before a0 Z = true) (w4 : (Jvm.Cond.instanceMethod z).before a0 Z = true) (w5 : (Jvm.Cond.code z bytes maxL ret).before a0 Z = true) (w6 : (Jvm.Cond.initialized z.cls).before a0 Z = true) (hy : y.cls ≠ "java/lang/invoke/MethodHandle" ∧ y.cls ≠ "java/lang/invoke/VarHandle")
    (eT : T.heap = h) {b : Addr} (E : Exa Z h b C) (hM : Con l Z z bytes maxL ret rm (.ref b :: as).toArray h Q) {W : Nat} (hf : rm.frames + 1 ≤ R.frames) (hl : W + (maxL + 11) + rm.locals ≤ R.locals) (hc : cells + rm.cells ≤ R.cells) (hs : slots + rm.slots ≤ R.slots)
    {g : JFrame} (hg : g.method = m) (hsize : g.locals.size = c.maxLocals) {rest : List Value} {ps : List FieldType} {r : Option FieldType} (hd : parseMethodDescriptor y.desc = some ⟨ps, r⟩) (hlen : as.length = ps.length) (hstack : g.stack = as.reverse ++ .ref b :: rest) (hW : 2 * g.monitorRoom + (rest.map fun v => v.category).sum ≤ W) (hdg : decode c.code g.pc = .ok (.invokevirtual index, 3))
    {P : State → Outcome → Prop} (k : ∀ v T' L, Stand p l e R s m args below meth c T' (locs ++ L) (cells + rm.cells) (slots + rm.slots) → Q v T'.heap L → Goes p e below P (T'.setTop { g with pc := g.pc + 3, stack := v.toList ++ rest })) :
    Goes p e below P (T.setTop g) := by
  obtain ⟨cB, kB, q1, -, q3⟩ := isOf hZ eT E
  obtain ⟨v, vm₁, ⟨T', L', k', n'⟩, -, X', ⟨L, hQ, l', y', z'⟩, st⟩ := X.virtualBack hx (y := y) (z := z) hown (mvT hZ w1) (mvT hZ w2) hnf (mvT hZ w3) (mvT hZ w4) hy (backOf (W := W) (hM []) hZ w5 w6 hf hl) q1 q3 (g := g) hg hsize (Steps.refl _) (argsL := as) (rest := rest) (lenOf hd hlen) hstack hW hdg (fun _ _ => ⟨rfl, eT, hc, hs⟩)
  try dsimp only at X' hQ l' y' z' st
  subst l' y' z'
  exact Goes.tr st (k v T' L X' hQ)
theorem Goes.callI (X : Stand p l e R s m args below meth c T locs cells slots) (hx : p.tables.exec = Jvm.exec) (hZ : Z.Warmed39 s.vm) {own : String} {index : Nat} {y : MethodName} {bytes : ByteArray} {maxL : Nat} {rm : Room} {as : List Value} {Q : Option Value → Heap → List Loc → Prop} (hy1 : y.name = "<init>") (hown : s.vm.findClass own = some m.cls)
    (w1 : (Jvm.Cond.methodLink own index y).before a0 Z = true) (w2 : (Jvm.Cond.instanceMethod y).before a0 Z = true) (w3 : (Jvm.Cond.code y bytes maxL none).before a0 Z = true) (w4 : (Jvm.Cond.initialized y.cls).before a0 Z = true) (hy : y.cls ≠ "java/lang/invoke/MethodHandle" ∧ y.cls ≠ "java/lang/invoke/VarHandle")
    (eT : T.heap = h) {b : Addr} (hM : Con l Z y bytes maxL none rm (.ref b :: as).toArray h Q) {W : Nat} (hf : rm.frames + 1 ≤ R.frames) (hl : W + (maxL + 11) + rm.locals ≤ R.locals) (hc : cells + rm.cells ≤ R.cells) (hs : slots + rm.slots ≤ R.slots)
    {g : JFrame} (hg : g.method = m) (hsize : g.locals.size = c.maxLocals) {rest : List Value} {ps : List FieldType} {r : Option FieldType} (hd : parseMethodDescriptor y.desc = some ⟨ps, r⟩) (hlen : as.length = ps.length) (hstack : g.stack = as.reverse ++ .ref b :: rest) (hW : 2 * g.monitorRoom + (rest.map fun v => v.category).sum ≤ W) (hdg : decode c.code g.pc = .ok (.invokespecial index, 3))
    {P : State → Outcome → Prop} (k : ∀ v T' L, Stand p l e R s m args below meth c T' (locs ++ L) (cells + rm.cells) (slots + rm.slots) → Q v T'.heap L → Goes p e below P (T'.setTop { g with pc := g.pc + 3, stack := v.toList ++ rest })) :
    Goes p e below P (T.setTop g) := by
  obtain ⟨v, vm₁, ⟨T', L', k', n'⟩, -, X', ⟨L, hQ, l', y', z'⟩, st⟩ := X.specialBack hx (y := y) hy1 hown (mvT hZ w1) (mvT hZ w2) (mvT hZ w3) hy (backOf (W := W) (hM []) hZ w3 w4 hf hl) (g := g) hg hsize (Steps.refl _) (a := b) (argsL := as) (rest := rest) (lenOf hd hlen) hstack hW hdg (fun _ _ => ⟨rfl, eT, hc, hs⟩)
  try dsimp only at X' hQ l' y' z' st
  subst l' y' z'
  exact Goes.tr st (k v T' L X' hQ)
theorem jlt {a b : Int64} : lcmpW a b < 0 ↔ a < b := by rw [lcW]; exact lc_lt a b
theorem jgt {a b : Int64} : 0 < lcmpW a b ↔ b < a := by rw [lcW]; exact lc_gt a b
theorem jeq {a b : Int64} : lcmpW a b = 0 ↔ a = b := by rw [lcW]; exact lc_eq a b
end Own
section OwnHeap
variable {p : Program} {l : Launch} {e : Env} {R : Room} {s : State} {m : MethodId} {args : Array Value} {below : List Frame} {meth : Method} {c : Code} {T : State} {locs : List Loc} {cells slots : Nat} {Z : State} {a0 : Array Value} {h h' : Heap} {a b : Addr} {ty : FieldType} {n : Nat} {f f' : Nat → Value} {sl : Nat} {v : Value} {ws : List Addr}
theorem own_ix {j : Int32} {i n : Nat} (hj : j.toInt = (i : Int)) (hi : i < n) : ¬ (j < 0 ∨ n ≤ j.toNatClampNeg) := by
  simp only [Int32.lt_iff_toInt_lt, Int32.toNatClampNeg, hj, Int32.reduceToInt]; omega
theorem own_ixn {j : Int32} {i : Nat} (hj : j.toInt = (i : Int)) : j.toNatClampNeg = i := by
  simp only [Int32.toNatClampNeg, hj]; omega
/-- the array at a holds n places, the i-th f i -/
def Afn (Z : State) (h : Heap) (a : Addr) (ty : FieldType) (n : Nat) (f : Nat → Value) : Prop :=
  ∃ c : Cell, Arr Z h a c ty ∧ c.slots.size = n ∧ n < 2 ^ 31 ∧ (∀ i, i < n → c.slots[i]? = some (f i)) ∧ ∀ i, i < n → fits ty (f i) = true
theorem Afn.lt (F : Afn Z h a ty n f) : a < h.size := by obtain ⟨c, A, -⟩ := F; exact A.lt
theorem Afn.ext (F : Afn Z h a ty n f) (E : Ext h h') : Afn Z h' a ty n f := by obtain ⟨c, A, r⟩ := F; exact ⟨c, A.ext E, r⟩
theorem Afn.other (F : Afn Z h b ty n f) (W : Wr h h' a sl v) (q : b ≠ a) : Afn Z h' b ty n f := by obtain ⟨c, A, r⟩ := F; exact ⟨c, A.other W q, r⟩
theorem Afn.keep (F : Afn Z h a ty n f) (K : Keep h h' ws) (q : a ∉ ws) : Afn Z h' a ty n f := by obtain ⟨c, A, r⟩ := F; exact ⟨c, ⟨K.2.1 a c A.1 q, A.2⟩, r⟩
theorem Afn.congr (F : Afn Z h a ty n f) (q : ∀ i, i < n → f i = f' i) : Afn Z h a ty n f' := by
  obtain ⟨c, A, S, B, H, G⟩ := F
  exact ⟨c, A, S, B, fun i hi => by rw [← q i hi]; exact H i hi, fun i hi => by rw [← q i hi]; exact G i hi⟩
theorem Afn.new {k : ClassId} {z : Int32} (A : Arr Z h a (newA k ty z) ty) (q : z.toInt = (n : Int)) : Afn Z h a ty n (fun _ => defaultValue ty) := by
  obtain ⟨c, A', -, S, q3, H, G⟩ := Arv.new A (by rw [Int32.lt_iff_toInt_lt, q]; simp only [Int32.reduceToInt]; omega)
  rw [own_ixn q] at S
  refine ⟨c, A', S, ?_, fun i hi => H i (by rw [S]; exact hi), fun i hi => G i (by rw [S]; exact hi)⟩
  have := z.toInt_lt
  omega
theorem Afn.set {i : Nat} (F : Afn Z h a ty n f) (W : Wr h h' a i v) (hv : fits ty v = true) : Afn Z h' a ty n (fun x => if x = i then v else f x) := by
  obtain ⟨c, A, S, B, H, G⟩ := F
  refine ⟨_, A.same W, by rw [sz_set]; exact S, B, fun x hx => ?_, fun x hx => ?_⟩
  · show _ = some (if x = i then v else f x)
    by_cases q : x = i
    · subst q
      rw [if_pos rfl]
      have hx' : x < c.slots.size := by rw [S]; exact hx
      simp [Cell.setSlot, hx']
    · rw [if_neg q, ← H x hx]
      exact Array.getElem?_setIfInBounds_ne (Ne.symm q)
  · by_cases q : x = i
    · simp only [q, if_true]; exact hv
    · simp only [if_neg q]; exact G x hx
theorem Goes.iastore (X : Stand p l e R s m args below meth c T locs cells slots) (hx : p.tables.exec = Jvm.exec) (hZ : Z.Warmed39 s.vm) (eT : T.heap = h) (A : Afn Z h a .int n f) {j : Int32} {i : Nat} (hj : j.toInt = (i : Int)) (hi : i < n) {x : Int32} {g : JFrame} (hg : g.method = m) {rest : List Value} (hs : g.stack = .int x :: .int j :: .ref a :: rest) (hd : decode c.code g.pc = .ok (.iastore, 1)) {P : State → Outcome → Prop}
    (k : ∀ T' h', Stand p l e R s m args below meth c T' (locs ++ [⟨a, i⟩]) cells slots → T'.heap = h' → Wr h h' a i (.int x) → Afn Z h' a .int n (fun z => if z = i then .int x else f z) → Goes p e below P (T'.setTop { g with pc := g.pc + 1, stack := rest })) : Goes p e below P (T.setTop g) := by
  obtain ⟨cl, A1, S, -⟩ := id A
  obtain ⟨T', h', X', e', W, st⟩ := stI X hx hZ eT A1 (j := j) (by rw [S]; exact own_ix hj hi) hg hs hd
  rw [own_ixn hj] at X' W
  exact Goes.step st (k T' h' X' e' W (A.set W rfl))
theorem Goes.lastore (X : Stand p l e R s m args below meth c T locs cells slots) (hx : p.tables.exec = Jvm.exec) (hZ : Z.Warmed39 s.vm) (eT : T.heap = h) (A : Afn Z h a .long n f) {j : Int32} {i : Nat} (hj : j.toInt = (i : Int)) (hi : i < n) {x : Int64} {g : JFrame} (hg : g.method = m) {rest : List Value} (hs : g.stack = .long x :: .int j :: .ref a :: rest) (hd : decode c.code g.pc = .ok (.lastore, 1)) {P : State → Outcome → Prop}
    (k : ∀ T' h', Stand p l e R s m args below meth c T' (locs ++ [⟨a, i⟩]) cells slots → T'.heap = h' → Wr h h' a i (.long x) → Afn Z h' a .long n (fun z => if z = i then .long x else f z) → Goes p e below P (T'.setTop { g with pc := g.pc + 1, stack := rest })) : Goes p e below P (T.setTop g) := by
  obtain ⟨cl, A1, S, -⟩ := id A
  obtain ⟨T', h', X', e', W, st⟩ := stJ X hx hZ eT A1 (j := j) (by rw [S]; exact own_ix hj hi) hg hs hd
  rw [own_ixn hj] at X' W
  exact Goes.step st (k T' h' X' e' W (A.set W rfl))
theorem Goes.bastore (X : Stand p l e R s m args below meth c T locs cells slots) (hx : p.tables.exec = Jvm.exec) (hZ : Z.Warmed39 s.vm) (eT : T.heap = h) (A : Afn Z h a .byte n f) {j : Int32} {i : Nat} (hj : j.toInt = (i : Int)) (hi : i < n) {x : Int32} {g : JFrame} (hg : g.method = m) {rest : List Value} (hs : g.stack = .int x :: .int j :: .ref a :: rest) (hd : decode c.code g.pc = .ok (.bastore, 1)) {P : State → Outcome → Prop}
    (k : ∀ T' h', Stand p l e R s m args below meth c T' (locs ++ [⟨a, i⟩]) cells slots → T'.heap = h' → Wr h h' a i (.int x.toInt8.toInt32) → Afn Z h' a .byte n (fun z => if z = i then .int x.toInt8.toInt32 else f z) → Goes p e below P (T'.setTop { g with pc := g.pc + 1, stack := rest })) : Goes p e below P (T.setTop g) := by
  obtain ⟨cl, A1, S, -⟩ := id A
  obtain ⟨T', h', X', e', W, st⟩ := stB X hx hZ eT A1 (j := j) (by rw [S]; exact own_ix hj hi) hg hs hd
  rw [own_ixn hj] at X' W
  exact Goes.step st (k T' h' X' e' W (A.set W (fits_nar_byte x)))
theorem Goes.castore (X : Stand p l e R s m args below meth c T locs cells slots) (hx : p.tables.exec = Jvm.exec) (hZ : Z.Warmed39 s.vm) (eT : T.heap = h) (A : Afn Z h a .char n f) {j : Int32} {i : Nat} (hj : j.toInt = (i : Int)) (hi : i < n) {x : Int32} {g : JFrame} (hg : g.method = m) {rest : List Value} (hs : g.stack = .int x :: .int j :: .ref a :: rest) (hd : decode c.code g.pc = .ok (.castore, 1)) {P : State → Outcome → Prop}
    (k : ∀ T' h', Stand p l e R s m args below meth c T' (locs ++ [⟨a, i⟩]) cells slots → T'.heap = h' → Wr h h' a i (.int (nar .char x)) → Afn Z h' a .char n (fun z => if z = i then .int (nar .char x) else f z) → Goes p e below P (T'.setTop { g with pc := g.pc + 1, stack := rest })) : Goes p e below P (T.setTop g) := by
  obtain ⟨cl, A1, S, -⟩ := id A
  obtain ⟨T', h', X', e', W, st⟩ := stC X hx hZ eT A1 (j := j) (by rw [S]; exact own_ix hj hi) hg hs hd
  rw [own_ixn hj] at X' W
  exact Goes.step st (k T' h' X' e' W (A.set W (fits_nar_char x)))
theorem Goes.iaload (X : Stand p l e R s m args below meth c T locs cells slots) (hx : p.tables.exec = Jvm.exec) (hZ : Z.Warmed39 s.vm) (eT : T.heap = h) (A : Afn Z h a .int n f) {j : Int32} {i : Nat} (hj : j.toInt = (i : Int)) (hi : i < n) (hv : f i = v) {g : JFrame} (hg : g.method = m) {rest : List Value} (hs : g.stack = .int j :: .ref a :: rest) (hd : decode c.code g.pc = .ok (.iaload, 1)) {P : State → Outcome → Prop}
    (k : Goes p e below P (T.setTop { g with pc := g.pc + 1, stack := v :: rest })) : Goes p e below P (T.setTop g) := by
  obtain ⟨cl, A1, S, B, H, G⟩ := A
  exact Goes.step (fun tgt q => X.iaload hx (j := j) (v := v) (by rw [eT]; exact A1.1) (State.isArrayOf_alike hZ.alike A1.2.1) A1.2.2 (by rw [S]; exact own_ix hj hi) (by rw [own_ixn hj, ← hv]; exact H i hi) hg hs hd tgt q) k
theorem Goes.laload (X : Stand p l e R s m args below meth c T locs cells slots) (hx : p.tables.exec = Jvm.exec) (hZ : Z.Warmed39 s.vm) (eT : T.heap = h) (A : Afn Z h a .long n f) {j : Int32} {i : Nat} (hj : j.toInt = (i : Int)) (hi : i < n) (hv : f i = v) {g : JFrame} (hg : g.method = m) {rest : List Value} (hs : g.stack = .int j :: .ref a :: rest) (hd : decode c.code g.pc = .ok (.laload, 1)) {P : State → Outcome → Prop}
    (k : Goes p e below P (T.setTop { g with pc := g.pc + 1, stack := v :: rest })) : Goes p e below P (T.setTop g) := by
  obtain ⟨cl, A1, S, B, H, G⟩ := A
  exact Goes.step (fun tgt q => X.laload hx (j := j) (v := v) (by rw [eT]; exact A1.1) (State.isArrayOf_alike hZ.alike A1.2.1) A1.2.2 (by rw [S]; exact own_ix hj hi) (by rw [own_ixn hj, ← hv]; exact H i hi) hg hs hd tgt q) k
theorem Goes.baload (X : Stand p l e R s m args below meth c T locs cells slots) (hx : p.tables.exec = Jvm.exec) (hZ : Z.Warmed39 s.vm) (eT : T.heap = h) (A : Afn Z h a .byte n f) {j : Int32} {i : Nat} (hj : j.toInt = (i : Int)) (hi : i < n) (hv : f i = v) {g : JFrame} (hg : g.method = m) {rest : List Value} (hs : g.stack = .int j :: .ref a :: rest) (hd : decode c.code g.pc = .ok (.baload, 1)) {P : State → Outcome → Prop}
    (k : Goes p e below P (T.setTop { g with pc := g.pc + 1, stack := v :: rest })) : Goes p e below P (T.setTop g) := by
  obtain ⟨cl, A1, S, B, H, G⟩ := A
  exact Goes.step (fun tgt q => X.baloadBytes hx (j := j) (v := v) (by rw [eT]; exact A1.1) (State.isArrayOf_alike hZ.alike A1.2.1) A1.2.2 (by rw [S]; exact own_ix hj hi) (by rw [own_ixn hj, ← hv]; exact H i hi) hg hs hd tgt q) k
theorem Goes.caload (X : Stand p l e R s m args below meth c T locs cells slots) (hx : p.tables.exec = Jvm.exec) (hZ : Z.Warmed39 s.vm) (eT : T.heap = h) (A : Afn Z h a .char n f) {j : Int32} {i : Nat} (hj : j.toInt = (i : Int)) (hi : i < n) (hv : f i = v) {g : JFrame} (hg : g.method = m) {rest : List Value} (hs : g.stack = .int j :: .ref a :: rest) (hd : decode c.code g.pc = .ok (.caload, 1)) {P : State → Outcome → Prop}
    (k : Goes p e below P (T.setTop { g with pc := g.pc + 1, stack := v :: rest })) : Goes p e below P (T.setTop g) := by
  obtain ⟨cl, A1, S, B, H, G⟩ := A
  exact Goes.step (fun tgt q => X.caload hx (j := j) (v := v) (by rw [eT]; exact A1.1) (State.isArrayOf_alike hZ.alike A1.2.1) A1.2.2 (by rw [S]; exact own_ix hj hi) (by rw [own_ixn hj, ← hv]; exact H i hi) hg hs hd tgt q) k
theorem Goes.aaload {C : FieldType} (X : Stand p l e R s m args below meth c T locs cells slots) (hx : p.tables.exec = Jvm.exec) (hZ : Z.Warmed39 s.vm) (eT : T.heap = h) (A : Afn Z h a C n f) (hC : C.isReference = true) {j : Int32} {i : Nat} (hj : j.toInt = (i : Int)) (hi : i < n) (hv : f i = v) {g : JFrame} (hg : g.method = m) {rest : List Value} (hs : g.stack = .int j :: .ref a :: rest) (hd : decode c.code g.pc = .ok (.aaload, 1)) {P : State → Outcome → Prop}
    (k : Goes p e below P (T.setTop { g with pc := g.pc + 1, stack := v :: rest })) : Goes p e below P (T.setTop g) := by
  obtain ⟨cl, A1, S, B, H, G⟩ := A
  exact Goes.step (fun tgt q => X.aaload hx (j := j) (v := v) (by rw [eT]; exact A1.1) (State.isArrayOf_alike hZ.alike A1.2.1) hC A1.2.2 (by rw [S]; exact own_ix hj hi) (by rw [own_ixn hj, ← hv]; exact H i hi) hg hs hd tgt q) k
theorem Goes.alen (X : Stand p l e R s m args below meth c T locs cells slots) (hx : p.tables.exec = Jvm.exec) (hZ : Z.Warmed39 s.vm) (eT : T.heap = h) (A : Afn Z h a ty n f) {z : Int32} (hz : z.toInt = (n : Int)) {g : JFrame} (hg : g.method = m) {rest : List Value} (hs : g.stack = .ref a :: rest) (hd : decode c.code g.pc = .ok (.arraylength, 1)) {P : State → Outcome → Prop}
    (k : Goes p e below P (T.setTop { g with pc := g.pc + 1, stack := .int z :: rest })) : Goes p e below P (T.setTop g) := by
  obtain ⟨cl, A1, S, B, H, G⟩ := A
  have q : cl.slots.size.toInt32 = z := by rw [S, ← Int32.toInt_inj, hz]; exact len_toInt B
  exact Goes.step (fun tgt r => X.arraylength hx (by rw [eT]; exact A1.1) (State.isArrayOf_alike hZ.alike A1.2.1) hg hs hd tgt (by rw [q]; exact r)) k
theorem Goes.clone (X : Stand p l e R s m args below meth c T locs cells slots) (hx : p.tables.exec = Jvm.exec) (hZ : Z.Warmed39 s.vm) {own ad : String} {index : Nat} (hown : s.vm.findClass own = some m.cls)
    (w1 : (Jvm.Cond.methodLink own index ⟨ad, "clone", "()Ljava/lang/Object;"⟩).before a0 Z = true) (w2 : (Jvm.Cond.sameMethod ad "java/lang/Object" "clone" "()Ljava/lang/Object;").before a0 Z = true) (w3 : (Jvm.Cond.native ⟨"java/lang/Object", "clone", "()Ljava/lang/Object;"⟩).before a0 Z = true)
    (w4 : (Jvm.Cond.instanceMethod ⟨"java/lang/Object", "clone", "()Ljava/lang/Object;"⟩).before a0 Z = true) (w5 : (Jvm.Cond.selects ad ⟨ad, "clone", "()Ljava/lang/Object;"⟩ ⟨"java/lang/Object", "clone", "()Ljava/lang/Object;"⟩).before a0 Z = true) (w6 : (Jvm.Cond.castable ad "java/lang/Cloneable").before a0 Z = true)
    (eT : T.heap = h) (A : Afn Z h a ty n f) (E : Exa Z h a ad) {g : JFrame} (hg : g.method = m) (hsize : g.locals.size = c.maxLocals) {rest : List Value} (hs : g.stack = .ref a :: rest) (hd : decode c.code g.pc = .ok (.invokevirtual index, 3))
    (hf : 1 ≤ R.frames) {W cap : Nat} (hW : 2 * g.monitorRoom + (rest.map fun v => v.category).sum ≤ W) (hl : W + 14 ≤ R.locals) (hcap : n ≤ cap) (hc : cells + 1 ≤ R.cells) (hsl : slots + cap ≤ R.slots) {P : State → Outcome → Prop}
    (k : ∀ T' h' b, b = h.size → Stand p l e R s m args below meth c T' locs (cells + 1) (slots + cap) → T'.heap = h' → Ext h h' → Afn Z h' b ty n f → Exa Z h' b ad → Goes p e below P (T'.setTop { g with pc := g.pc + 3, stack := .ref b :: rest })) : Goes p e below P (T.setTop g) := by
  obtain ⟨cl, A1, S, B, H, G⟩ := id A
  have FC : FitC Z cl := fitC_of A1 fun i hi v hv => by
    rw [S] at hi
    rw [H i hi] at hv
    cases hv
    exact G i hi
  obtain ⟨T', h', X', e', ex, A', E', st⟩ := cloneA X hx hZ hown w1 w2 w3 w4 w5 w6 eT A1 E FC hg hsize hs hd hf hW hl (by rw [S]; exact hcap) hc hsl
  exact Goes.step st (k T' h' _ rfl X' e' ex ⟨cloneOf cl, A', S, B, H, G⟩ E')
theorem Goes.callP (X : Stand p l e R s m args below meth c T locs cells slots) (hx : p.tables.exec = Jvm.exec) (hZ : Z.Warmed39 s.vm) {own C0 C1 : String} {index : Nat} {y z : MethodName} {bytes : ByteArray} {maxL : Nat} {ret : Option FieldType} {rm : Room} {as : List Value} {Q : Option Value → Heap → List Loc → Prop} (hown : s.vm.findClass own = some m.cls)
    (w1 : (Jvm.Cond.methodLink own index y).before a0 Z = true) (w2 : (Jvm.Cond.instanceMethod y).before a0 Z = true) (w3 : (Jvm.Cond.privateMethod y).before a0 Z = true) (w4 : (Jvm.Cond.selects C0 z z).before a0 Z = true) (hz : z.cls = y.cls) (w5 : (Jvm.Cond.code y bytes maxL ret).before a0 Z = true) (w6 : (Jvm.Cond.initialized y.cls).before a0 Z = true) (hy : y.cls ≠ "java/lang/invoke/MethodHandle" ∧ y.cls ≠ "java/lang/invoke/VarHandle")
    (eT : T.heap = h) {b : Addr} (E : Exa Z h b C1) (hM : Con l Z y bytes maxL ret rm (.ref b :: as).toArray h Q) {W : Nat} (hf : rm.frames + 1 ≤ R.frames) (hl : W + (maxL + 11) + rm.locals ≤ R.locals) (hc : cells + rm.cells ≤ R.cells) (hs : slots + rm.slots ≤ R.slots)
    {g : JFrame} (hg : g.method = m) (hsize : g.locals.size = c.maxLocals) {rest : List Value} {ps : List FieldType} {r : Option FieldType} (hd : parseMethodDescriptor y.desc = some ⟨ps, r⟩) (hlen : as.length = ps.length) (hstack : g.stack = as.reverse ++ .ref b :: rest) (hW : 2 * g.monitorRoom + (rest.map fun v => v.category).sum ≤ W) (hdg : decode c.code g.pc = .ok (.invokevirtual index, 3))
    {P : State → Outcome → Prop} (k : ∀ v T' L, Stand p l e R s m args below meth c T' (locs ++ L) (cells + rm.cells) (slots + rm.slots) → Q v T'.heap L → Goes p e below P (T'.setTop { g with pc := g.pc + 3, stack := v.toList ++ rest })) :
    Goes p e below P (T.setTop g) := by
  have hpr := Cond.privateMethod_at (mvP hZ w3 (args := args))
  have hsel : (Jvm.Cond.selects y.cls y y).before args s = true := by
    obtain ⟨c2, r2, m2, -, -, q3, -, kP, hkP, hkPi⟩ := Cond.selects_spec (mvT (args := args) hZ w4)
    exact selects_self_of_private (hz ▸ findClass_of_methodNamed q3) hkP hkPi hpr (mvT hZ w2) hy
  obtain ⟨cell, hcell, hobj⟩ := E.cell
  obtain ⟨v, vm₁, ⟨T', L', k', n'⟩, -, X', ⟨L, hQ, l', y', z'⟩, st⟩ := X.privateBack hx (y := y) hown (mvT hZ w1) (mvT hZ w2) hsel hpr (mvT hZ w5) hy (backOf (W := W) (hM []) hZ w5 w6 hf hl) (g := g) hg hsize (Steps.refl _) (a := b) (by rw [eT]; exact hcell) hobj (argsL := as) (rest := rest) (lenOf hd hlen) hstack hW hdg (fun _ _ => ⟨rfl, eT, hc, hs⟩)
  try dsimp only at X' hQ l' y' z' st
  subst l' y' z'
  exact Goes.tr st (k v T' L X' hQ)
theorem Afn.of_arv {k : ClassId} {z : Int32} {vs : List Value} {d : Value} (F : Arv Z h a k ty z vs d) (q : z.toInt = (n : Int)) : Afn Z h a ty n (fun i => vs.getD i d) := by
  obtain ⟨c, A', -, S, q3, H, G⟩ := F
  rw [own_ixn q] at S
  refine ⟨c, A', S, ?_, fun i hi => H i (by rw [S]; exact hi), fun i hi => G i (by rw [S]; exact hi)⟩
  have := z.toInt_lt
  omega
theorem Afn.to_arv {z : Int32} {d : Value} (F : Afn Z h a ty n f) (q : z.toInt = (n : Int)) : ∃ k, Arv Z h a k ty z ((List.range n).map f) d := by
  obtain ⟨c, A, S, B, H, G⟩ := F
  have e : ∀ i, i < n → ((List.range n).map f).getD i d = f i := fun i hi => by simp [List.getD_eq_getElem?_getD, hi]
  refine ⟨c.cls, c, A, rfl, by rw [S, own_ixn q], by rw [Int32.lt_iff_toInt_lt, q]; simp only [Int32.reduceToInt]; omega, fun i hi => ?_, fun i hi => ?_⟩
  · rw [e i (S ▸ hi)]; exact H i (S ▸ hi)
  · rw [e i (S ▸ hi)]; exact G i (S ▸ hi)
theorem own_cp {n n' sp dp nn : Nat} {f g : Nat → Value} {d d' : Value} (h1 : sp + nn ≤ n) (h2 : dp + nn ≤ n') : ∀ i, i < n' →
    (((List.range n').map g).take dp ++ (List.range nn).map (fun i => ((List.range n).map f).getD (sp + i) d) ++ ((List.range n').map g).drop (dp + nn)).getD i d' = if dp ≤ i ∧ i < dp + nn then f (sp + (i - dp)) else g i := fun i hi => by
  have e : ∀ j, j < nn → ((List.range n).map f).getD (sp + j) d = f (sp + j) := fun j hj => by
    have hh : sp + j < n := by omega
    simp [List.getD_eq_getElem?_getD, hh]
  rw [List.getD_eq_getElem?_getD]
  by_cases q1 : i < dp
  · have q2 : ¬ (dp ≤ i ∧ i < dp + nn) := by omega
    rw [if_neg q2, List.append_assoc, List.getElem?_append_left (by simp; omega)]
    simp [List.getElem?_take, q1, hi]
  · by_cases q2 : i < dp + nn
    · rw [if_pos ⟨by omega, q2⟩, List.getElem?_append_left (by simp; omega), List.getElem?_append_right (by simp; omega)]
      have hl : (((List.range n').map g).take dp).length = dp := by simp; omega
      rw [hl, List.getElem?_map, List.getElem?_range (by omega : i - dp < nn)]
      simp only [Option.map_some, Option.getD_some]
      exact e _ (by omega)
    · rw [if_neg (by omega), List.getElem?_append_right (by simp; omega)]
      have hl : (((List.range n').map g).take dp ++ (List.range nn).map (fun i => ((List.range n).map f).getD (sp + i) d)).length = dp + nn := by simp; omega
      rw [hl, List.getElem?_drop, show dp + nn + (i - (dp + nn)) = i from by omega]
      simp [hi]
/-- System.arraycopy between two arrays of one primitive kind -/
theorem Goes.acopy {n' sp dp nn : Nat} {g' : Nat → Value} {z z' zs zd zn : Int32} (X : Stand p l e R s m args below meth c T locs cells slots) (hx : p.tables.exec = Jvm.exec) (hZ : Z.Warmed39 s.vm) {own : String} {index : Nat} (hown : s.vm.findClass own = some m.cls)
    (w1 : (Jvm.Cond.methodLink own index Jvm.Stand.acN).before a0 Z = true) (w2 : (Jvm.Cond.native Jvm.Stand.acN).before a0 Z = true) (w3 : (Jvm.Cond.static Jvm.Stand.acN).before a0 Z = true) (w4 : (Jvm.Cond.initialized "java/lang/System").before a0 Z = true) (eT : T.heap = h)
    (A : Afn Z h a ty n f) (B : Afn Z h b ty n' g') (hty : refKind ty = false) (hz : z.toInt = (n : Int)) (hz' : z'.toInt = (n' : Int)) (hzs : zs.toInt = (sp : Int)) (hzd : zd.toInt = (dp : Int)) (hzn : zn.toInt = (nn : Int)) (h4 : sp + nn ≤ n) (h5 : dp + nn ≤ n') {n0 : Nat} (N : Fr n0 locs) (ge : n0 ≤ b)
    {g : JFrame} (hg : g.method = m) (hsize : g.locals.size = c.maxLocals) {rest : List Value} (hs : g.stack = .int zn :: .int zd :: .ref b :: .int zs :: .ref a :: rest) (hd : decode c.code g.pc = .ok (.invokestatic index, 3))
    (hf : 1 ≤ R.frames) {W : Nat} (hW : 2 * g.monitorRoom + (rest.map fun v => v.category).sum ≤ W) (hlo : W + (nativeFrameWords "java/lang/System" "arraycopy" 5 + 11) ≤ R.locals) {P : State → Outcome → Prop}
    (k : ∀ T' h' L, Stand p l e R s m args below meth c T' L cells slots → T'.heap = h' → Fr n0 L → Keep h h' [b] → Afn Z h' b ty n' (fun i => if dp ≤ i ∧ i < dp + nn then f (sp + (i - dp)) else g' i) → Goes p e below P (T'.setTop { g with pc := g.pc + 3, stack := rest })) : Goes p e below P (T.setTop g) := by
  have ng : ∀ {x : Int32} {i : Nat}, x.toInt = (i : Int) → ¬ x < 0 := fun {x i} q => by rw [Int32.lt_iff_toInt_lt, q]; simp only [Int32.reduceToInt]; omega
  obtain ⟨k1, A'⟩ := A.to_arv (d := .null) hz
  obtain ⟨k2, B'⟩ := B.to_arv (d := .null) hz'
  obtain ⟨T', h', L, X', e', N', K, C, st⟩ := cpA X hx hZ hown w1 w2 w3 w4 eT A' B' (Or.inl ⟨rfl, hty⟩) (sp := zs) (dp := zd) (nn := zn) (ng hzs) (ng hzd) (ng hzn) (by rw [own_ixn hz, own_ixn hzs, own_ixn hzn]; exact h4) (by rw [own_ixn hz', own_ixn hzd, own_ixn hzn]; exact h5) rfl (by simp [own_ixn hzd, own_ixn hzn]; exact h5) N ge hg hsize hs hd hf hW hlo
  rw [own_ixn hzd, own_ixn hzn, own_ixn hzs] at C
  exact Goes.step st (k T' h' L X' e' N' K ((Afn.of_arv C hz').congr (own_cp h4 h5)))
theorem own_len {t : Term} {cl : Cell} {z : Int32} (ev : t.eval args Z none [] Z = some (.ref a)) (ha : Z.arrayAt? a = some cl) (q : (Term.length t).eval args Z none [] Z = some (.int z)) : cl.slots.size < 2 ^ 31 ∧ cl.slots.size.toInt32 = z := by
  by_cases hl : cl.slots.size < 2 ^ 31
  · rw [len_f ev ha hl] at q
    exact ⟨hl, Value.int.inj (Option.some.inj q)⟩
  · simp [Term.eval, ev, ha, hl] at q
theorem own_eqR {t u : Term} (hb : u.eval args Z none [] Z = some (.ref a)) (q : (Jvm.Cond.eq t u).value args Z none Z [] = some true) : t.eval args Z none [] Z = some (.ref a) := by
  obtain ⟨x, y, e1, e2, k1, k2⟩ := cmp_v (Or.inl q)
  cases hb.symm.trans e2
  have hx : x.isRef = true := k2.2
  have hh := gotT (eq_R e1 e2 hx rfl) q
  rw [e1, hh]
end OwnHeap
theorem own_d1_0 : decode method_2_code 0 = .ok (.iload_n 1, 1) := by decide +kernel
theorem own_d1_1 : decode method_2_code 1 = .ok (.aload_n 0, 1) := by decide +kernel
theorem own_d1_2 : decode method_2_code 2 = .ok (.arraylength, 1) := by decide +kernel
theorem own_d1_3 : decode method_2_code 3 = .ok (.if_icmp .ge 10, 3) := by decide +kernel
theorem own_d1_6 : decode method_2_code 6 = .ok (.aload_n 0, 1) := by decide +kernel
theorem own_d1_7 : decode method_2_code 7 = .ok (.iload_n 1, 1) := by decide +kernel
theorem own_d1_8 : decode method_2_code 8 = .ok (.lload_n 2, 1) := by decide +kernel
theorem own_d1_9 : decode method_2_code 9 = .ok (.iload_n 1, 1) := by decide +kernel
theorem own_d1_10 : decode method_2_code 10 = .ok (.i2l, 1) := by decide +kernel
theorem own_d1_11 : decode method_2_code 11 = .ok (.ladd, 1) := by decide +kernel
theorem own_d1_12 : decode method_2_code 12 = .ok (.lastore, 1) := by decide +kernel
theorem own_d1_13 : decode method_2_code 13 = .ok (.return_, 1) := by decide +kernel
theorem own_d2_0 : decode prog_42_method_8_code 0 = .ok (.iload_n 1, 1) := by decide +kernel
theorem own_d2_1 : decode prog_42_method_8_code 1 = .ok (.i2l, 1) := by decide +kernel
theorem own_d2_2 : decode prog_42_method_8_code 2 = .ok (.aload_n 0, 1) := by decide +kernel
theorem own_d2_3 : decode prog_42_method_8_code 3 = .ok (.arraylength, 1) := by decide +kernel
theorem own_d2_4 : decode prog_42_method_8_code 4 = .ok (.i2l, 1) := by decide +kernel
theorem own_d2_5 : decode prog_42_method_8_code 5 = .ok (.lmul, 1) := by decide +kernel
theorem own_d2_6 : decode prog_42_method_8_code 6 = .ok (.ldc2_w 51, 3) := by decide +kernel
theorem own_d2_9 : decode prog_42_method_8_code 9 = .ok (.ladd, 1) := by decide +kernel
theorem own_d2_10 : decode prog_42_method_8_code 10 = .ok (.ldc2_w 53, 3) := by decide +kernel
theorem own_d2_13 : decode prog_42_method_8_code 13 = .ok (.ldiv, 1) := by decide +kernel
theorem own_d2_14 : decode prog_42_method_8_code 14 = .ok (.lstore_n 2, 1) := by decide +kernel
theorem own_d2_15 : decode prog_42_method_8_code 15 = .ok (.aload_n 0, 1) := by decide +kernel
theorem own_d2_16 : decode prog_42_method_8_code 16 = .ok (.lload_n 2, 1) := by decide +kernel
theorem own_d2_17 : decode prog_42_method_8_code 17 = .ok (.l2i, 1) := by decide +kernel
theorem own_d2_18 : decode prog_42_method_8_code 18 = .ok (.iconst 1, 1) := by decide +kernel
theorem own_d2_19 : decode prog_42_method_8_code 19 = .ok (.isub, 1) := by decide +kernel
theorem own_d2_20 : decode prog_42_method_8_code 20 = .ok (.laload, 1) := by decide +kernel
theorem own_d2_21 : decode prog_42_method_8_code 21 = .ok (.lreturn, 1) := by decide +kernel
theorem own_pd0 : parseMethodDescriptor "([JIJ)V" = some ⟨[(.array .long), .int, .long], none⟩ := by decide +kernel
theorem own_pd1 : parseMethodDescriptor "([JI)J" = some ⟨[(.array .long), .int], some .long⟩ := by decide +kernel
theorem own_pn0 : plainName "com/example/anchorline/anchorline/load/HopClockNearestRankPinLaw" = true := by first | (simp [plainName, overriddenIn]; done) | decide +kernel
theorem own_pn1 : plainName "com/example/anchorline/anchorline/load/HopClock" = true := by first | (simp [plainName, overriddenIn]; done) | decide +kernel
/-- what stands at the place x: base + x -/
def own_F (b : Int64) (x : Nat) : Value := .long (b + Int64.ofNat x)
theorem own_i64 {j : Int32} {k : Nat} (hk : j.toInt = (k : Int)) : j.toInt64 = Int64.ofNat k := by
  have := j.toInt_lt
  rw [← Int64.toInt_inj, Int32.toInt_toInt64, hk, Int64.toInt_ofNat_of_lt (by omega)]
set_option maxRecDepth 65536 in
set_option maxHeartbeats 40000000 in
theorem rm1 (l : Launch) (Z : State) (a0 : Array Value) (hw : ∀ d ∈ tables_1, d.before a0 Z = true) (a1 : Addr) (p2 : Int32) (q3 : Int64) (h0 : Heap) (n0 : Nat) (Z0 : n0 ≤ h0.size) (n : Nat) (z : Int32) (hz : z.toInt = (n : Int)) (f : Nat → Value) (A0 : Afn Z h0 a1 .long n f) (ga : n0 ≤ a1) (k : Nat) (hk : p2.toInt = (k : Int)) (hf : ∀ x, x < k → x < n → f x = own_F q3 x) :
    Con l Z (⟨"com/example/anchorline/anchorline/load/HopClockNearestRankPinLaw", "put", "([JIJ)V"⟩ : MethodName) method_2_code 4 none ({ frames := 0, cells := 0, slots := 0, locals := 0 } : Room) #[(.ref a1), (.int p2), (.long q3)] h0 (fun v h L => v = none ∧ Fr n0 L ∧ Keep h0 h [a1] ∧ ∃ f', Afn Z h a1 .long n f' ∧ ∀ x, x < k + 1 → x < n → f' x = own_F q3 x) := by
  refine Con.body (plainFor_of_name own_pn0) ?_
  intro p e s m below meth c s₁ hx hby hml hZ hown hnm hret hlk X0 e0
  have hown : s.vm.findClass "com/example/anchorline/anchorline/load/HopClockNearestRankPinLaw" = some m.cls := hown
  have hml : c.maxLocals = 4 := hml
  have N0 := Fr.nil n0
  have ef : entryFrame m #[(.ref a1), (.int p2), (.long q3)] 4 = mkF m 0 #[.val (.ref a1), .val (.int p2), .val (.long q3), .second] [] := by first | (simp [entryFrame, mkF, argsToLocals, Value.category]; done) | rfl
  rw [ef]
  show Goes p e below _ (s₁.setTop (mkF m 0 #[.val (.ref a1), .val (.int p2), .val (.long q3), .second] []))
  refine Goes.step (fun _ k => XS.iloadN X0.here hx rfl (hb hby own_d1_0) rfl k) ?_
  show Goes p e below _ (s₁.setTop (mkF m 1 #[.val (.ref a1), .val (.int p2), .val (.long q3), .second] [(.int p2)]))
  refine Goes.step (fun _ k => XS.aloadN X0.here hx rfl (hb hby own_d1_1) rfl rfl k) ?_
  show Goes p e below _ (s₁.setTop (mkF m 2 #[.val (.ref a1), .val (.int p2), .val (.long q3), .second] [(.ref a1), (.int p2)]))
  refine Goes.alen X0 hx hZ e0 A0 (z := z) hz (g := (mkF m 2 #[.val (.ref a1), .val (.int p2), .val (.long q3), .second] [(.ref a1), (.int p2)])) rfl rfl (hb hby own_d1_2) ?_
  show Goes p e below _ (s₁.setTop (mkF m 3 #[.val (.ref a1), .val (.int p2), .val (.long q3), .second] [(.int z), (.int p2)]))
  by_cases hc1 : p2 < z
  · refine Goes.step (fun _ k => XS.icmpNo X0.here hx rfl (hb hby own_d1_3) rfl (tlt hc1).2.1 k) ?_
    show Goes p e below _ (s₁.setTop (mkF m 6 #[.val (.ref a1), .val (.int p2), .val (.long q3), .second] []))
    refine Goes.step (fun _ k => XS.aloadN X0.here hx rfl (hb hby own_d1_6) rfl rfl k) ?_
    show Goes p e below _ (s₁.setTop (mkF m 7 #[.val (.ref a1), .val (.int p2), .val (.long q3), .second] [(.ref a1)]))
    refine Goes.step (fun _ k => XS.iloadN X0.here hx rfl (hb hby own_d1_7) rfl k) ?_
    show Goes p e below _ (s₁.setTop (mkF m 8 #[.val (.ref a1), .val (.int p2), .val (.long q3), .second] [(.int p2), (.ref a1)]))
    refine Goes.step (fun _ k => XS.lloadN X0.here hx rfl (hb hby own_d1_8) rfl k) ?_
    show Goes p e below _ (s₁.setTop (mkF m 9 #[.val (.ref a1), .val (.int p2), .val (.long q3), .second] [(.long q3), (.int p2), (.ref a1)]))
    refine Goes.step (fun _ k => XS.iloadN X0.here hx rfl (hb hby own_d1_9) rfl k) ?_
    show Goes p e below _ (s₁.setTop (mkF m 10 #[.val (.ref a1), .val (.int p2), .val (.long q3), .second] [(.int p2), (.long q3), (.int p2), (.ref a1)]))
    refine Goes.step (fun _ k => XS.i2l X0.here hx rfl (hb hby own_d1_10) rfl k) ?_
    show Goes p e below _ (s₁.setTop (mkF m 11 #[.val (.ref a1), .val (.int p2), .val (.long q3), .second] [(.long (p2.toInt64)), (.long q3), (.int p2), (.ref a1)]))
    refine Goes.step (fun _ k => XS.ladd X0.here hx rfl (hb hby own_d1_11) rfl k) ?_
    show Goes p e below _ (s₁.setTop (mkF m 12 #[.val (.ref a1), .val (.int p2), .val (.long q3), .second] [(.long (q3 + (p2.toInt64))), (.int p2), (.ref a1)]))
    refine Goes.lastore X0 hx hZ e0 A0 (i := k) hk (by have q := hc1; rw [Int32.lt_iff_toInt_lt, hk, hz] at q; omega) (g := (mkF m 12 #[.val (.ref a1), .val (.int p2), .val (.long q3), .second] [(.long (q3 + (p2.toInt64))), (.int p2), (.ref a1)])) rfl rfl (hb hby own_d1_12) ?_
    intro T2 h2 X2 e2 W2 A2
    have N2 := Fr.snoc X2 N0 ga
    show Goes p e below _ (T2.setTop (mkF m 13 #[.val (.ref a1), .val (.int p2), .val (.long q3), .second] []))
    refine Goes.ret0 X2 hx hlk hret (hb hby own_d1_13) (by decide) (by decide) ?_
    have u3 := (Keep.refl h0 [a1]).wr W2 (Or.inl (List.mem_of_getElem? (i := 0) rfl))
    refine ⟨rfl, N2, by rw [e2]; exact u3, _, by rw [e2]; exact A2, fun x h1 h2 => ?_⟩
    by_cases q : x = k
    · simp only [q, if_true, own_F, own_i64 hk]
    · simp only [if_neg q]; exact hf x (by omega) h2
  · refine Goes.step (fun _ k => XS.icmpYes X0.here hx rfl (pc0 := 3) (pc' := 13) rfl (hb hby own_d1_3) rfl (flt hc1).2.1 (by decide) (by decide) k) ?_
    show Goes p e below _ (s₁.setTop (mkF m 13 #[.val (.ref a1), .val (.int p2), .val (.long q3), .second] []))
    refine Goes.ret0 X0 hx hlk hret (hb hby own_d1_13) (by decide) (by decide) ?_
    refine ⟨rfl, N0, by rw [e0]; exact (Keep.refl h0 [a1]), f, by rw [e0]; exact A0, fun x h1 h2 => hf x ?_ h2⟩
    rw [Int32.lt_iff_toInt_lt, hk, hz] at hc1; omega
set_option maxRecDepth 65536 in
set_option maxHeartbeats 40000000 in
theorem rm2 (l : Launch) (Z : State) (a0 : Array Value) (hw : ∀ d ∈ tables_1, d.before a0 Z = true) (a1 : Addr) (p2 : Int32) (h0 : Heap) (n0 : Nat) (Z0 : n0 ≤ h0.size) (n : Nat) (z : Int32) (hz : z.toInt = (n : Int)) (f : Nat → Value) (A0 : Afn Z h0 a1 .long n f) (i : Nat) (hi : i < n) (hj : (((((p2.toInt64) * (z.toInt64)) + (99 : Int64)) / (100 : Int64)).toInt32 - (1 : Int32)).toInt = (i : Int)) (w : Int64) (hv : f i = .long w) :
    Con l Z (⟨"com/example/anchorline/anchorline/load/HopClock", "nearestRank", "([JI)J"⟩ : MethodName) prog_42_method_8_code 4 (some .long) ({ frames := 0, cells := 0, slots := 0, locals := 0 } : Room) #[(.ref a1), (.int p2)] h0 (fun v h L => v = some (.long w) ∧ Fr n0 L ∧ h = h0) := by
  refine Con.body (plainFor_of_name own_pn1) ?_
  intro p e s m below meth c s₁ hx hby hml hZ hown hnm hret hlk X0 e0
  have hown : s.vm.findClass "com/example/anchorline/anchorline/load/HopClock" = some m.cls := hown
  have hml : c.maxLocals = 4 := hml
  have N0 := Fr.nil n0
  have ef : entryFrame m #[(.ref a1), (.int p2)] 4 = mkF m 0 #[.val (.ref a1), .val (.int p2), .unset, .unset] [] := by first | (simp [entryFrame, mkF, argsToLocals, Value.category]; done) | rfl
  rw [ef]
  show Goes p e below _ (s₁.setTop (mkF m 0 #[.val (.ref a1), .val (.int p2), .unset, .unset] []))
  refine Goes.step (fun _ k => XS.iloadN X0.here hx rfl (hb hby own_d2_0) rfl k) ?_
  show Goes p e below _ (s₁.setTop (mkF m 1 #[.val (.ref a1), .val (.int p2), .unset, .unset] [(.int p2)]))
  refine Goes.step (fun _ k => XS.i2l X0.here hx rfl (hb hby own_d2_1) rfl k) ?_
  show Goes p e below _ (s₁.setTop (mkF m 2 #[.val (.ref a1), .val (.int p2), .unset, .unset] [(.long (p2.toInt64))]))
  refine Goes.step (fun _ k => XS.aloadN X0.here hx rfl (hb hby own_d2_2) rfl rfl k) ?_
  show Goes p e below _ (s₁.setTop (mkF m 3 #[.val (.ref a1), .val (.int p2), .unset, .unset] [(.ref a1), (.long (p2.toInt64))]))
  refine Goes.alen X0 hx hZ e0 A0 (z := z) hz (g := (mkF m 3 #[.val (.ref a1), .val (.int p2), .unset, .unset] [(.ref a1), (.long (p2.toInt64))])) rfl rfl (hb hby own_d2_3) ?_
  show Goes p e below _ (s₁.setTop (mkF m 4 #[.val (.ref a1), .val (.int p2), .unset, .unset] [(.int z), (.long (p2.toInt64))]))
  refine Goes.step (fun _ k => XS.i2l X0.here hx rfl (hb hby own_d2_4) rfl k) ?_
  show Goes p e below _ (s₁.setTop (mkF m 5 #[.val (.ref a1), .val (.int p2), .unset, .unset] [(.long (z.toInt64)), (.long (p2.toInt64))]))
  refine Goes.step (fun _ k => XS.lmul X0.here hx rfl (hb hby own_d2_5) rfl k) ?_
  show Goes p e below _ (s₁.setTop (mkF m 6 #[.val (.ref a1), .val (.int p2), .unset, .unset] [(.long ((p2.toInt64) * (z.toInt64)))]))
  refine Goes.step (fun _ k => X0.ldc2J hx hown (mvT hZ (hw _ (List.mem_of_getElem? (i := 10) rfl))) rfl (hb hby own_d2_6) k) ?_
  show Goes p e below _ (s₁.setTop (mkF m 9 #[.val (.ref a1), .val (.int p2), .unset, .unset] [(.long (99 : Int64)), (.long ((p2.toInt64) * (z.toInt64)))]))
  refine Goes.step (fun _ k => XS.ladd X0.here hx rfl (hb hby own_d2_9) rfl k) ?_
  show Goes p e below _ (s₁.setTop (mkF m 10 #[.val (.ref a1), .val (.int p2), .unset, .unset] [(.long (((p2.toInt64) * (z.toInt64)) + (99 : Int64)))]))
  refine Goes.step (fun _ k => X0.ldc2J hx hown (mvT hZ (hw _ (List.mem_of_getElem? (i := 11) rfl))) rfl (hb hby own_d2_10) k) ?_
  show Goes p e below _ (s₁.setTop (mkF m 13 #[.val (.ref a1), .val (.int p2), .unset, .unset] [(.long (100 : Int64)), (.long (((p2.toInt64) * (z.toInt64)) + (99 : Int64)))]))
  refine Goes.step (fun _ k => XS.ldiv X0.here hx rfl (hb hby own_d2_13) rfl (by decide) k) ?_
  show Goes p e below _ (s₁.setTop (mkF m 14 #[.val (.ref a1), .val (.int p2), .unset, .unset] [(.long ((((p2.toInt64) * (z.toInt64)) + (99 : Int64)) / (100 : Int64)))]))
  refine Goes.step (fun _ k => XS.lstoreN X0.here hx rfl (hb hby own_d2_14) rfl (l' := #[.val (.ref a1), .val (.int p2), .val (.long ((((p2.toInt64) * (z.toInt64)) + (99 : Int64)) / (100 : Int64))), .second]) rfl k) ?_
  show Goes p e below _ (s₁.setTop (mkF m 15 #[.val (.ref a1), .val (.int p2), .val (.long ((((p2.toInt64) * (z.toInt64)) + (99 : Int64)) / (100 : Int64))), .second] []))
  refine Goes.step (fun _ k => XS.aloadN X0.here hx rfl (hb hby own_d2_15) rfl rfl k) ?_
  show Goes p e below _ (s₁.setTop (mkF m 16 #[.val (.ref a1), .val (.int p2), .val (.long ((((p2.toInt64) * (z.toInt64)) + (99 : Int64)) / (100 : Int64))), .second] [(.ref a1)]))
  refine Goes.step (fun _ k => XS.lloadN X0.here hx rfl (hb hby own_d2_16) rfl k) ?_
  show Goes p e below _ (s₁.setTop (mkF m 17 #[.val (.ref a1), .val (.int p2), .val (.long ((((p2.toInt64) * (z.toInt64)) + (99 : Int64)) / (100 : Int64))), .second] [(.long ((((p2.toInt64) * (z.toInt64)) + (99 : Int64)) / (100 : Int64))), (.ref a1)]))
  refine Goes.step (fun _ k => XS.l2i X0.here hx rfl (hb hby own_d2_17) rfl k) ?_
  show Goes p e below _ (s₁.setTop (mkF m 18 #[.val (.ref a1), .val (.int p2), .val (.long ((((p2.toInt64) * (z.toInt64)) + (99 : Int64)) / (100 : Int64))), .second] [(.int (((((p2.toInt64) * (z.toInt64)) + (99 : Int64)) / (100 : Int64)).toInt32)), (.ref a1)]))
  refine Goes.step (fun _ k => XS.iconst X0.here hx rfl (hb hby own_d2_18) k) ?_
  show Goes p e below _ (s₁.setTop (mkF m 19 #[.val (.ref a1), .val (.int p2), .val (.long ((((p2.toInt64) * (z.toInt64)) + (99 : Int64)) / (100 : Int64))), .second] [(.int (1 : Int32)), (.int (((((p2.toInt64) * (z.toInt64)) + (99 : Int64)) / (100 : Int64)).toInt32)), (.ref a1)]))
  refine Goes.step (fun _ k => XS.isub X0.here hx rfl (hb hby own_d2_19) rfl k) ?_
  show Goes p e below _ (s₁.setTop (mkF m 20 #[.val (.ref a1), .val (.int p2), .val (.long ((((p2.toInt64) * (z.toInt64)) + (99 : Int64)) / (100 : Int64))), .second] [(.int ((((((p2.toInt64) * (z.toInt64)) + (99 : Int64)) / (100 : Int64)).toInt32) - (1 : Int32))), (.ref a1)]))
  refine Goes.laload X0 hx hZ e0 A0 (i := i) hj hi hv (g := (mkF m 20 #[.val (.ref a1), .val (.int p2), .val (.long ((((p2.toInt64) * (z.toInt64)) + (99 : Int64)) / (100 : Int64))), .second] [(.int ((((((p2.toInt64) * (z.toInt64)) + (99 : Int64)) / (100 : Int64)).toInt32) - (1 : Int32))), (.ref a1)])) rfl rfl (hb hby own_d2_20) ?_
  show Goes p e below _ (s₁.setTop (mkF m 21 #[.val (.ref a1), .val (.int p2), .val (.long ((((p2.toInt64) * (z.toInt64)) + (99 : Int64)) / (100 : Int64))), .second] [(.long w)]))
  refine Goes.ret X0 hx hlk hret rfl (Or.inr (Or.inl ⟨rfl, rfl, _, rfl⟩)) (hb hby own_d2_21) (by decide) (by decide) ?_
  exact ⟨rfl, N0, e0⟩
theorem own_rank {p z : Int32} {n : Nat} (hz : z.toInt = (n : Int)) (h1 : 1 ≤ p.toInt) (h2 : p.toInt ≤ 100) (h3 : 1 ≤ n) (h4 : n ≤ 16) :
    ∃ i : Nat, i < n ∧ (((((p.toInt64) * (z.toInt64)) + (99 : Int64)) / (100 : Int64)).toInt32 - (1 : Int32)).toInt = (i : Int) ∧ 100 * (i : Int) < p.toInt * n ∧ p.toInt * n ≤ 100 * ((i : Int) + 1) ∧ (p.toInt64 * z.toInt64).toInt = p.toInt * n := by
  have m : (p.toInt64 * z.toInt64).toInt = p.toInt * n := by
    rw [Jvm.Kit.i64_mul] <;> rw [Int32.toInt_toInt64, Int32.toInt_toInt64, hz]
    · have : 0 ≤ p.toInt * (n : Int) := Int.mul_nonneg (by omega) (by omega)
      omega
    · have : p.toInt * (n : Int) ≤ 100 * 16 := Int.mul_le_mul h2 (by omega) (by omega) (by omega)
      omega
  have b1 : 1 * 1 ≤ p.toInt * (n : Int) := Int.mul_le_mul h1 (by omega) (by omega) (by omega)
  have b2 : p.toInt * (n : Int) ≤ 100 * n := Int.mul_le_mul_of_nonneg_right h2 (by omega)
  generalize hq : p.toInt * (n : Int) = q at *
  have s1 : (p.toInt64 * z.toInt64 + (99 : Int64)).toInt = q + 99 := by
    rw [Jvm.Kit.i64_add] <;> rw [m, show (99 : Int64).toInt = 99 from by decide] <;> omega
  have s2 : ((p.toInt64 * z.toInt64 + (99 : Int64)) / (100 : Int64)).toInt = (q + 99) / 100 := by
    rw [Jvm.Kit.i64_div (fun r => absurd r.2 (by decide)), s1, show (100 : Int64).toInt = 100 from by decide, Int.tdiv_eq_ediv_of_nonneg (by omega)]
  have s3 : (((p.toInt64 * z.toInt64 + (99 : Int64)) / (100 : Int64)).toInt32).toInt = (q + 99) / 100 := by
    rw [Jvm.Kit.i32_of_i64 (by rw [s2]; omega) (by rw [s2]; omega), s2]
  refine ⟨((q + 99) / 100 - 1).toNat, by omega, ?_, by omega, by omega, m⟩
  rw [Jvm.Kit.i32_sub] <;> rw [s3, show (1 : Int32).toInt = 1 from by decide] <;> omega
theorem own_last {b : Int64} {i : Nat} (hb1 : -2 ^ 58 ≤ b.toInt) (hb2 : b.toInt < 2 ^ 58) (hi : i < 16) : (b + Int64.ofNat i - b).toInt = (i : Int) := by
  have e : (Int64.ofNat i).toInt = (i : Int) := Int64.toInt_ofNat_of_lt (by omega)
  have s : (b + Int64.ofNat i).toInt = b.toInt + i := by rw [Jvm.Kit.i64_add] <;> rw [e] <;> omega
  rw [Jvm.Kit.i64_sub] <;> rw [s] <;> omega
set_option maxRecDepth 65536 in
set_option maxHeartbeats 40000000 in
theorem rm0 (l : Launch) (Z : State) (a0 : Array Value) (hw : ∀ d ∈ tables_1, d.before a0 Z = true) (p1 p2 : Int32) (q3 : Int64) (h0 : Heap) (n0 : Nat) (Z0 : n0 ≤ h0.size) :
    Con l Z x code maxLocals ret room_1 #[(.int p1), (.int p2), (.long q3)] h0 (fun v h L => v = some (.int 1) ∧ Fr n0 L) := by
  refine Con.body (plainFor_of_name own_pn0) ?_
  intro p e s m below meth c s₁ hx hby hml hZ hown hnm hret hlk X0 e0
  have hown : s.vm.findClass "com/example/anchorline/anchorline/load/HopClockNearestRankPinLaw" = some m.cls := hown
  have hml : c.maxLocals = 15 := hml
  have N0 := Fr.nil n0
  have ef : entryFrame m #[(.int p1), (.int p2), (.long q3)] maxLocals = mkF m 0 #[.val (.int p1), .val (.int p2), .val (.long q3), .second, .unset, .unset, .unset, .unset, .unset, .unset, .unset, .unset, .unset, .unset, .unset] [] := by first | (simp [entryFrame, mkF, argsToLocals, Value.category, maxLocals]; done) | rfl
  rw [ef]
  show Goes p e below _ (s₁.setTop (mkF m 0 #[.val (.int p1), .val (.int p2), .val (.long q3), .second, .unset, .unset, .unset, .unset, .unset, .unset, .unset, .unset, .unset, .unset, .unset] []))
  refine Goes.step (fun _ k => XS.iconst X0.here hx rfl (hb hby at_0) k) ?_
  show Goes p e below _ (s₁.setTop (mkF m 1 #[.val (.int p1), .val (.int p2), .val (.long q3), .second, .unset, .unset, .unset, .unset, .unset, .unset, .unset, .unset, .unset, .unset, .unset] [(.int (1 : Int32))]))
  refine Goes.step (fun _ k => XS.iloadN X0.here hx rfl (hb hby at_1) rfl k) ?_
  show Goes p e below _ (s₁.setTop (mkF m 2 #[.val (.int p1), .val (.int p2), .val (.long q3), .second, .unset, .unset, .unset, .unset, .unset, .unset, .unset, .unset, .unset, .unset, .unset] [(.int p1), (.int (1 : Int32))]))
  refine Goes.step (fun _ k => X0.ldcI hx hown (mvT hZ (hw _ (List.mem_of_getElem? (i := 0) rfl))) rfl (hb hby at_2) k) ?_
  show Goes p e below _ (s₁.setTop (mkF m 4 #[.val (.int p1), .val (.int p2), .val (.long q3), .second, .unset, .unset, .unset, .unset, .unset, .unset, .unset, .unset, .unset, .unset, .unset] [(.int (2147483647 : Int32)), (.int p1), (.int (1 : Int32))]))
  refine Goes.step (fun _ k => XS.iand X0.here hx rfl (hb hby at_4) rfl k) ?_
  show Goes p e below _ (s₁.setTop (mkF m 5 #[.val (.int p1), .val (.int p2), .val (.long q3), .second, .unset, .unset, .unset, .unset, .unset, .unset, .unset, .unset, .unset, .unset, .unset] [(.int (p1 &&& (2147483647 : Int32))), (.int (1 : Int32))]))
  refine Goes.step (fun _ k => XS.bipush X0.here hx rfl (hb hby at_5) k) ?_
  show Goes p e below _ (s₁.setTop (mkF m 7 #[.val (.int p1), .val (.int p2), .val (.long q3), .second, .unset, .unset, .unset, .unset, .unset, .unset, .unset, .unset, .unset, .unset, .unset] [(.int (100 : Int32)), (.int (p1 &&& (2147483647 : Int32))), (.int (1 : Int32))]))
  refine Goes.step (fun _ k => Jvm.RoadKit.iremM X0 hx rfl (hb hby at_7) rfl (by decide) k) ?_
  show Goes p e below _ (s₁.setTop (mkF m 8 #[.val (.int p1), .val (.int p2), .val (.long q3), .second, .unset, .unset, .unset, .unset, .unset, .unset, .unset, .unset, .unset, .unset, .unset] [(.int ((p1 &&& (2147483647 : Int32)) % (100 : Int32))), (.int (1 : Int32))]))
  refine Goes.step (fun _ k => XS.iadd X0.here hx rfl (hb hby at_8) rfl k) ?_
  show Goes p e below _ (s₁.setTop (mkF m 9 #[.val (.int p1), .val (.int p2), .val (.long q3), .second, .unset, .unset, .unset, .unset, .unset, .unset, .unset, .unset, .unset, .unset, .unset] [(.int ((1 : Int32) + ((p1 &&& (2147483647 : Int32)) % (100 : Int32))))]))
  refine Goes.step (fun _ k => XS.istore X0.here hx rfl (hb hby at_9) rfl (l' := #[.val (.int p1), .val (.int p2), .val (.long q3), .second, .val (.int ((1 : Int32) + ((p1 &&& (2147483647 : Int32)) % (100 : Int32)))), .unset, .unset, .unset, .unset, .unset, .unset, .unset, .unset, .unset, .unset]) rfl k) ?_
  show Goes p e below _ (s₁.setTop (mkF m 11 #[.val (.int p1), .val (.int p2), .val (.long q3), .second, .val (.int ((1 : Int32) + ((p1 &&& (2147483647 : Int32)) % (100 : Int32)))), .unset, .unset, .unset, .unset, .unset, .unset, .unset, .unset, .unset, .unset] []))
  obtain ⟨per, h_per⟩ : ∃ z : Int32, z = ((1 : Int32) + ((p1 &&& (2147483647 : Int32)) % (100 : Int32))) := ⟨_, rfl⟩
  rw [← h_per]
  have hm : (p1 &&& (2147483647 : Int32)).toInt = p1.toInt % 2 ^ 31 := Jvm.Kit.i32_mask p1 2147483647 (k := 31) (by decide) (by decide)
  have hr : ((p1 &&& (2147483647 : Int32)) % (100 : Int32)).toInt = (p1.toInt % 2 ^ 31) % 100 := by rw [Jvm.Kit.i32_rem_nonneg (by rw [hm]; omega), hm]; rfl
  have hp : per.toInt = 1 + (p1.toInt % 2 ^ 31) % 100 := by rw [h_per, Jvm.Kit.i32_add] <;> rw [hr, show (1 : Int32).toInt = 1 from by decide] <;> omega
  have hp1 : 1 ≤ per.toInt := by omega
  have hp2 : per.toInt ≤ 100 := by omega
  show Goes p e below _ (s₁.setTop (mkF m 11 #[.val (.int p1), .val (.int p2), .val (.long q3), .second, .val (.int per), .unset, .unset, .unset, .unset, .unset, .unset, .unset, .unset, .unset, .unset] []))
  refine Goes.step (fun _ k => XS.iconst X0.here hx rfl (hb hby at_11) k) ?_
  show Goes p e below _ (s₁.setTop (mkF m 12 #[.val (.int p1), .val (.int p2), .val (.long q3), .second, .val (.int per), .unset, .unset, .unset, .unset, .unset, .unset, .unset, .unset, .unset, .unset] [(.int (1 : Int32))]))
  refine Goes.step (fun _ k => XS.iloadN X0.here hx rfl (hb hby at_12) rfl k) ?_
  show Goes p e below _ (s₁.setTop (mkF m 13 #[.val (.int p1), .val (.int p2), .val (.long q3), .second, .val (.int per), .unset, .unset, .unset, .unset, .unset, .unset, .unset, .unset, .unset, .unset] [(.int p2), (.int (1 : Int32))]))
  refine Goes.step (fun _ k => XS.bipush X0.here hx rfl (hb hby at_13) k) ?_
  show Goes p e below _ (s₁.setTop (mkF m 15 #[.val (.int p1), .val (.int p2), .val (.long q3), .second, .val (.int per), .unset, .unset, .unset, .unset, .unset, .unset, .unset, .unset, .unset, .unset] [(.int (15 : Int32)), (.int p2), (.int (1 : Int32))]))
  refine Goes.step (fun _ k => XS.iand X0.here hx rfl (hb hby at_15) rfl k) ?_
  show Goes p e below _ (s₁.setTop (mkF m 16 #[.val (.int p1), .val (.int p2), .val (.long q3), .second, .val (.int per), .unset, .unset, .unset, .unset, .unset, .unset, .unset, .unset, .unset, .unset] [(.int (p2 &&& (15 : Int32))), (.int (1 : Int32))]))
  refine Goes.step (fun _ k => XS.iadd X0.here hx rfl (hb hby at_16) rfl k) ?_
  show Goes p e below _ (s₁.setTop (mkF m 17 #[.val (.int p1), .val (.int p2), .val (.long q3), .second, .val (.int per), .unset, .unset, .unset, .unset, .unset, .unset, .unset, .unset, .unset, .unset] [(.int ((1 : Int32) + (p2 &&& (15 : Int32))))]))
  refine Goes.step (fun _ k => XS.istore X0.here hx rfl (hb hby at_17) rfl (l' := #[.val (.int p1), .val (.int p2), .val (.long q3), .second, .val (.int per), .val (.int ((1 : Int32) + (p2 &&& (15 : Int32)))), .unset, .unset, .unset, .unset, .unset, .unset, .unset, .unset, .unset]) rfl k) ?_
  show Goes p e below _ (s₁.setTop (mkF m 19 #[.val (.int p1), .val (.int p2), .val (.long q3), .second, .val (.int per), .val (.int ((1 : Int32) + (p2 &&& (15 : Int32)))), .unset, .unset, .unset, .unset, .unset, .unset, .unset, .unset, .unset] []))
  obtain ⟨zn, h_zn⟩ : ∃ z : Int32, z = ((1 : Int32) + (p2 &&& (15 : Int32))) := ⟨_, rfl⟩
  rw [← h_zn]
  have hm2 : (p2 &&& (15 : Int32)).toInt = p2.toInt % 2 ^ 4 := Jvm.Kit.i32_mask p2 15 (k := 4) (by decide) (by decide)
  have hz0 : zn.toInt = 1 + p2.toInt % 2 ^ 4 := by rw [h_zn, Jvm.Kit.i32_add] <;> rw [hm2, show (1 : Int32).toInt = 1 from by decide] <;> omega
  obtain ⟨n, hn⟩ : ∃ n : Nat, n = zn.toInt.toNat := ⟨_, rfl⟩
  have hzn : zn.toInt = (n : Int) := by omega
  have hn1 : 1 ≤ n := by omega
  have hn2 : n ≤ 16 := by omega
  show Goes p e below _ (s₁.setTop (mkF m 19 #[.val (.int p1), .val (.int p2), .val (.long q3), .second, .val (.int per), .val (.int zn), .unset, .unset, .unset, .unset, .unset, .unset, .unset, .unset, .unset] []))
  refine Goes.step (fun _ k => XS.lloadN X0.here hx rfl (hb hby at_19) rfl k) ?_
  show Goes p e below _ (s₁.setTop (mkF m 20 #[.val (.int p1), .val (.int p2), .val (.long q3), .second, .val (.int per), .val (.int zn), .unset, .unset, .unset, .unset, .unset, .unset, .unset, .unset, .unset] [(.long q3)]))
  refine Goes.step (fun _ k => XS.iconst X0.here hx rfl (hb hby at_20) k) ?_
  show Goes p e below _ (s₁.setTop (mkF m 21 #[.val (.int p1), .val (.int p2), .val (.long q3), .second, .val (.int per), .val (.int zn), .unset, .unset, .unset, .unset, .unset, .unset, .unset, .unset, .unset] [(.int (5 : Int32)), (.long q3)]))
  refine Goes.step (fun _ k => XS.lshr X0.here hx rfl (hb hby at_21) rfl k) ?_
  show Goes p e below _ (s₁.setTop (mkF m 22 #[.val (.int p1), .val (.int p2), .val (.long q3), .second, .val (.int per), .val (.int zn), .unset, .unset, .unset, .unset, .unset, .unset, .unset, .unset, .unset] [(.long (q3 >>> ((5 : Int32) &&& 0x3f).toInt64))]))
  refine Goes.step (fun _ k => XS.lstore X0.here hx rfl (hb hby at_22) rfl (l' := #[.val (.int p1), .val (.int p2), .val (.long q3), .second, .val (.int per), .val (.int zn), .val (.long (q3 >>> ((5 : Int32) &&& 0x3f).toInt64)), .second, .unset, .unset, .unset, .unset, .unset, .unset, .unset]) rfl k) ?_
  show Goes p e below _ (s₁.setTop (mkF m 24 #[.val (.int p1), .val (.int p2), .val (.long q3), .second, .val (.int per), .val (.int zn), .val (.long (q3 >>> ((5 : Int32) &&& 0x3f).toInt64)), .second, .unset, .unset, .unset, .unset, .unset, .unset, .unset] []))
  obtain ⟨base, h_base⟩ : ∃ z : Int64, z = (q3 >>> ((5 : Int32) &&& 0x3f).toInt64) := ⟨_, rfl⟩
  rw [← h_base]
  have hbs : base.toInt = q3.toInt / 2 ^ 5 := by rw [h_base]; exact Jvm.Kit.i64_shr _ _ (by decide)
  have hb1 : -2 ^ 58 ≤ base.toInt := by have := q3.le_toInt; omega
  have hb2 : base.toInt < 2 ^ 58 := by have := q3.toInt_lt; omega
  show Goes p e below _ (s₁.setTop (mkF m 24 #[.val (.int p1), .val (.int p2), .val (.long q3), .second, .val (.int per), .val (.int zn), .val (.long base), .second, .unset, .unset, .unset, .unset, .unset, .unset, .unset] []))
  refine Goes.step (fun _ k => XS.iload X0.here hx rfl (hb hby at_24) rfl k) ?_
  show Goes p e below _ (s₁.setTop (mkF m 26 #[.val (.int p1), .val (.int p2), .val (.long q3), .second, .val (.int per), .val (.int zn), .val (.long base), .second, .unset, .unset, .unset, .unset, .unset, .unset, .unset] [(.int zn)]))
  obtain ⟨T1, h1, k1, X1, e1, E1, A1, M1, st1⟩ := newPE X0 hx hZ (hw _ (List.mem_of_getElem? (i := 1) rfl)) e0 (g := (mkF m 26 #[.val (.int p1), .val (.int p2), .val (.long q3), .second, .val (.int per), .val (.int zn), .val (.long base), .second, .unset, .unset, .unset, .unset, .unset, .unset, .unset] [(.int zn)])) rfl (hb hby at_26) rfl (by rw [Int32.lt_iff_toInt_lt, show (0 : Int32).toInt = 0 from by decide]; omega) (cap := 16) (by simp only [Int32.toNatClampNeg]; omega) (by decide) (by decide) (by decide) (ad := "[J") rfl
  obtain ⟨b1, g1⟩ : ∃ z, z = h0.size := ⟨_, rfl⟩
  rw [← g1] at A1 M1 st1
  have u2 : n0 ≤ b1 := Nat.le_trans Z0 (Nat.le_of_eq g1.symm)
  have u3 : Afn Z h1 b1 .long n (fun _ => (.long (0 : Int64))) := Afn.new (n := n) A1 hzn
  refine Goes.step st1 ?_
  show Goes p e below _ (T1.setTop (mkF m 28 #[.val (.int p1), .val (.int p2), .val (.long q3), .second, .val (.int per), .val (.int zn), .val (.long base), .second, .unset, .unset, .unset, .unset, .unset, .unset, .unset] [(.ref b1)]))
  refine Goes.step (fun _ k => XS.astore X1.here hx rfl (hb hby at_28) rfl rfl (l' := #[.val (.int p1), .val (.int p2), .val (.long q3), .second, .val (.int per), .val (.int zn), .val (.long base), .second, .val (.ref b1), .unset, .unset, .unset, .unset, .unset, .unset]) rfl k) ?_
  show Goes p e below _ (T1.setTop (mkF m 30 #[.val (.int p1), .val (.int p2), .val (.long q3), .second, .val (.int per), .val (.int zn), .val (.long base), .second, .val (.ref b1), .unset, .unset, .unset, .unset, .unset, .unset] []))
  have hf0 : ∀ x, x < 0 → x < n → (fun _ : Nat => (.long (0 : Int64) : Value)) x = own_F base x := fun x q _ => absurd q (Nat.not_lt_zero x)
  show Goes p e below _ (T1.setTop (mkF m 30 #[.val (.int p1), .val (.int p2), .val (.long q3), .second, .val (.int per), .val (.int zn), .val (.long base), .second, .val (.ref b1), .unset, .unset, .unset, .unset, .unset, .unset] []))
  refine Goes.step (fun _ k => XS.aload X1.here hx rfl (hb hby at_30) rfl rfl k) ?_
  show Goes p e below _ (T1.setTop (mkF m 32 #[.val (.int p1), .val (.int p2), .val (.long q3), .second, .val (.int per), .val (.int zn), .val (.long base), .second, .val (.ref b1), .unset, .unset, .unset, .unset, .unset, .unset] [(.ref b1)]))
  refine Goes.step (fun _ k => XS.iconst X1.here hx rfl (hb hby at_32) k) ?_
  show Goes p e below _ (T1.setTop (mkF m 33 #[.val (.int p1), .val (.int p2), .val (.long q3), .second, .val (.int per), .val (.int zn), .val (.long base), .second, .val (.ref b1), .unset, .unset, .unset, .unset, .unset, .unset] [(.int (0 : Int32)), (.ref b1)]))
  refine Goes.step (fun _ k => XS.lload X1.here hx rfl (hb hby at_33) rfl k) ?_
  show Goes p e below _ (T1.setTop (mkF m 35 #[.val (.int p1), .val (.int p2), .val (.long q3), .second, .val (.int per), .val (.int zn), .val (.long base), .second, .val (.ref b1), .unset, .unset, .unset, .unset, .unset, .unset] [(.long base), (.int (0 : Int32)), (.ref b1)]))
  have u4 := Nat.le_trans Z0 E1.1
  refine Goes.callS X1 hx hZ hown (hw _ (List.mem_of_getElem? (i := 2) rfl)) (hw _ (List.mem_of_getElem? (i := 3) rfl)) (hw _ (List.mem_of_getElem? (i := 4) rfl)) (hw _ (List.mem_of_getElem? (i := 5) rfl)) (by decide) e1 (rm1 l Z a0 hw b1 (0 : Int32) base h1 n0 u4 _ _ hzn _ u3 u2 0 (by decide) hf0) (W := 0) (by decide) (by decide) (by decide) (by decide) (g := (mkF m 35 #[.val (.int p1), .val (.int p2), .val (.long q3), .second, .val (.int per), .val (.int zn), .val (.long base), .second, .val (.ref b1), .unset, .unset, .unset, .unset, .unset, .unset] [(.long base), (.int (0 : Int32)), (.ref b1)])) rfl (by rw [hml]; rfl) (rest := []) own_pd0 rfl rfl (by show 2 * 0 + _ ≤ _; exact Nat.le_of_eq rfl) (hb hby at_35) ?_
  intro v5 T5 L5 X5 hQ5
  generalize e5 : T5.heap = h5 at hQ5
  obtain ⟨rfl, N5q, K5, f5, A5, F5⟩ := hQ5
  have N5 := Fr.app N0 N5q
  show Goes p e below _ (T5.setTop (mkF m 38 #[.val (.int p1), .val (.int p2), .val (.long q3), .second, .val (.int per), .val (.int zn), .val (.long base), .second, .val (.ref b1), .unset, .unset, .unset, .unset, .unset, .unset] []))
  refine Goes.step (fun _ k => XS.aload X5.here hx rfl (hb hby at_38) rfl rfl k) ?_
  show Goes p e below _ (T5.setTop (mkF m 40 #[.val (.int p1), .val (.int p2), .val (.long q3), .second, .val (.int per), .val (.int zn), .val (.long base), .second, .val (.ref b1), .unset, .unset, .unset, .unset, .unset, .unset] [(.ref b1)]))
  refine Goes.step (fun _ k => XS.iconst X5.here hx rfl (hb hby at_40) k) ?_
  show Goes p e below _ (T5.setTop (mkF m 41 #[.val (.int p1), .val (.int p2), .val (.long q3), .second, .val (.int per), .val (.int zn), .val (.long base), .second, .val (.ref b1), .unset, .unset, .unset, .unset, .unset, .unset] [(.int (1 : Int32)), (.ref b1)]))
  refine Goes.step (fun _ k => XS.lload X5.here hx rfl (hb hby at_41) rfl k) ?_
  show Goes p e below _ (T5.setTop (mkF m 43 #[.val (.int p1), .val (.int p2), .val (.long q3), .second, .val (.int per), .val (.int zn), .val (.long base), .second, .val (.ref b1), .unset, .unset, .unset, .unset, .unset, .unset] [(.long base), (.int (1 : Int32)), (.ref b1)]))
  have u6 := Nat.le_trans u4 K5.1
  refine Goes.callS X5 hx hZ hown (hw _ (List.mem_of_getElem? (i := 2) rfl)) (hw _ (List.mem_of_getElem? (i := 3) rfl)) (hw _ (List.mem_of_getElem? (i := 4) rfl)) (hw _ (List.mem_of_getElem? (i := 5) rfl)) (by decide) e5 (rm1 l Z a0 hw b1 (1 : Int32) base h5 n0 u6 _ _ hzn _ A5 u2 1 (by decide) F5) (W := 0) (by decide) (by decide) (by decide) (by decide) (g := (mkF m 43 #[.val (.int p1), .val (.int p2), .val (.long q3), .second, .val (.int per), .val (.int zn), .val (.long base), .second, .val (.ref b1), .unset, .unset, .unset, .unset, .unset, .unset] [(.long base), (.int (1 : Int32)), (.ref b1)])) rfl (by rw [hml]; rfl) (rest := []) own_pd0 rfl rfl (by show 2 * 0 + _ ≤ _; exact Nat.le_of_eq rfl) (hb hby at_43) ?_
  intro v7 T7 L7 X7 hQ7
  generalize e7 : T7.heap = h7 at hQ7
  obtain ⟨rfl, N7q, K7, f7, A7, F7⟩ := hQ7
  have N7 := Fr.app N5 N7q
  show Goes p e below _ (T7.setTop (mkF m 46 #[.val (.int p1), .val (.int p2), .val (.long q3), .second, .val (.int per), .val (.int zn), .val (.long base), .second, .val (.ref b1), .unset, .unset, .unset, .unset, .unset, .unset] []))
  refine Goes.step (fun _ k => XS.aload X7.here hx rfl (hb hby at_46) rfl rfl k) ?_
  show Goes p e below _ (T7.setTop (mkF m 48 #[.val (.int p1), .val (.int p2), .val (.long q3), .second, .val (.int per), .val (.int zn), .val (.long base), .second, .val (.ref b1), .unset, .unset, .unset, .unset, .unset, .unset] [(.ref b1)]))
  refine Goes.step (fun _ k => XS.iconst X7.here hx rfl (hb hby at_48) k) ?_
  show Goes p e below _ (T7.setTop (mkF m 49 #[.val (.int p1), .val (.int p2), .val (.long q3), .second, .val (.int per), .val (.int zn), .val (.long base), .second, .val (.ref b1), .unset, .unset, .unset, .unset, .unset, .unset] [(.int (2 : Int32)), (.ref b1)]))
  refine Goes.step (fun _ k => XS.lload X7.here hx rfl (hb hby at_49) rfl k) ?_
  show Goes p e below _ (T7.setTop (mkF m 51 #[.val (.int p1), .val (.int p2), .val (.long q3), .second, .val (.int per), .val (.int zn), .val (.long base), .second, .val (.ref b1), .unset, .unset, .unset, .unset, .unset, .unset] [(.long base), (.int (2 : Int32)), (.ref b1)]))
  have u8 := Nat.le_trans u6 K7.1
  refine Goes.callS X7 hx hZ hown (hw _ (List.mem_of_getElem? (i := 2) rfl)) (hw _ (List.mem_of_getElem? (i := 3) rfl)) (hw _ (List.mem_of_getElem? (i := 4) rfl)) (hw _ (List.mem_of_getElem? (i := 5) rfl)) (by decide) e7 (rm1 l Z a0 hw b1 (2 : Int32) base h7 n0 u8 _ _ hzn _ A7 u2 2 (by decide) F7) (W := 0) (by decide) (by decide) (by decide) (by decide) (g := (mkF m 51 #[.val (.int p1), .val (.int p2), .val (.long q3), .second, .val (.int per), .val (.int zn), .val (.long base), .second, .val (.ref b1), .unset, .unset, .unset, .unset, .unset, .unset] [(.long base), (.int (2 : Int32)), (.ref b1)])) rfl (by rw [hml]; rfl) (rest := []) own_pd0 rfl rfl (by show 2 * 0 + _ ≤ _; exact Nat.le_of_eq rfl) (hb hby at_51) ?_
  intro v9 T9 L9 X9 hQ9
  generalize e9 : T9.heap = h9 at hQ9
  obtain ⟨rfl, N9q, K9, f9, A9, F9⟩ := hQ9
  have N9 := Fr.app N7 N9q
  show Goes p e below _ (T9.setTop (mkF m 54 #[.val (.int p1), .val (.int p2), .val (.long q3), .second, .val (.int per), .val (.int zn), .val (.long base), .second, .val (.ref b1), .unset, .unset, .unset, .unset, .unset, .unset] []))
  refine Goes.step (fun _ k => XS.aload X9.here hx rfl (hb hby at_54) rfl rfl k) ?_
  show Goes p e below _ (T9.setTop (mkF m 56 #[.val (.int p1), .val (.int p2), .val (.long q3), .second, .val (.int per), .val (.int zn), .val (.long base), .second, .val (.ref b1), .unset, .unset, .unset, .unset, .unset, .unset] [(.ref b1)]))
  refine Goes.step (fun _ k => XS.iconst X9.here hx rfl (hb hby at_56) k) ?_
  show Goes p e below _ (T9.setTop (mkF m 57 #[.val (.int p1), .val (.int p2), .val (.long q3), .second, .val (.int per), .val (.int zn), .val (.long base), .second, .val (.ref b1), .unset, .unset, .unset, .unset, .unset, .unset] [(.int (3 : Int32)), (.ref b1)]))
  refine Goes.step (fun _ k => XS.lload X9.here hx rfl (hb hby at_57) rfl k) ?_
  show Goes p e below _ (T9.setTop (mkF m 59 #[.val (.int p1), .val (.int p2), .val (.long q3), .second, .val (.int per), .val (.int zn), .val (.long base), .second, .val (.ref b1), .unset, .unset, .unset, .unset, .unset, .unset] [(.long base), (.int (3 : Int32)), (.ref b1)]))
  have u10 := Nat.le_trans u8 K9.1
  refine Goes.callS X9 hx hZ hown (hw _ (List.mem_of_getElem? (i := 2) rfl)) (hw _ (List.mem_of_getElem? (i := 3) rfl)) (hw _ (List.mem_of_getElem? (i := 4) rfl)) (hw _ (List.mem_of_getElem? (i := 5) rfl)) (by decide) e9 (rm1 l Z a0 hw b1 (3 : Int32) base h9 n0 u10 _ _ hzn _ A9 u2 3 (by decide) F9) (W := 0) (by decide) (by decide) (by decide) (by decide) (g := (mkF m 59 #[.val (.int p1), .val (.int p2), .val (.long q3), .second, .val (.int per), .val (.int zn), .val (.long base), .second, .val (.ref b1), .unset, .unset, .unset, .unset, .unset, .unset] [(.long base), (.int (3 : Int32)), (.ref b1)])) rfl (by rw [hml]; rfl) (rest := []) own_pd0 rfl rfl (by show 2 * 0 + _ ≤ _; exact Nat.le_of_eq rfl) (hb hby at_59) ?_
  intro v11 T11 L11 X11 hQ11
  generalize e11 : T11.heap = h11 at hQ11
  obtain ⟨rfl, N11q, K11, f11, A11, F11⟩ := hQ11
  have N11 := Fr.app N9 N11q
  show Goes p e below _ (T11.setTop (mkF m 62 #[.val (.int p1), .val (.int p2), .val (.long q3), .second, .val (.int per), .val (.int zn), .val (.long base), .second, .val (.ref b1), .unset, .unset, .unset, .unset, .unset, .unset] []))
  refine Goes.step (fun _ k => XS.aload X11.here hx rfl (hb hby at_62) rfl rfl k) ?_
  show Goes p e below _ (T11.setTop (mkF m 64 #[.val (.int p1), .val (.int p2), .val (.long q3), .second, .val (.int per), .val (.int zn), .val (.long base), .second, .val (.ref b1), .unset, .unset, .unset, .unset, .unset, .unset] [(.ref b1)]))
  refine Goes.step (fun _ k => XS.iconst X11.here hx rfl (hb hby at_64) k) ?_
  show Goes p e below _ (T11.setTop (mkF m 65 #[.val (.int p1), .val (.int p2), .val (.long q3), .second, .val (.int per), .val (.int zn), .val (.long base), .second, .val (.ref b1), .unset, .unset, .unset, .unset, .unset, .unset] [(.int (4 : Int32)), (.ref b1)]))
  refine Goes.step (fun _ k => XS.lload X11.here hx rfl (hb hby at_65) rfl k) ?_
  show Goes p e below _ (T11.setTop (mkF m 67 #[.val (.int p1), .val (.int p2), .val (.long q3), .second, .val (.int per), .val (.int zn), .val (.long base), .second, .val (.ref b1), .unset, .unset, .unset, .unset, .unset, .unset] [(.long base), (.int (4 : Int32)), (.ref b1)]))
  have u12 := Nat.le_trans u10 K11.1
  refine Goes.callS X11 hx hZ hown (hw _ (List.mem_of_getElem? (i := 2) rfl)) (hw _ (List.mem_of_getElem? (i := 3) rfl)) (hw _ (List.mem_of_getElem? (i := 4) rfl)) (hw _ (List.mem_of_getElem? (i := 5) rfl)) (by decide) e11 (rm1 l Z a0 hw b1 (4 : Int32) base h11 n0 u12 _ _ hzn _ A11 u2 4 (by decide) F11) (W := 0) (by decide) (by decide) (by decide) (by decide) (g := (mkF m 67 #[.val (.int p1), .val (.int p2), .val (.long q3), .second, .val (.int per), .val (.int zn), .val (.long base), .second, .val (.ref b1), .unset, .unset, .unset, .unset, .unset, .unset] [(.long base), (.int (4 : Int32)), (.ref b1)])) rfl (by rw [hml]; rfl) (rest := []) own_pd0 rfl rfl (by show 2 * 0 + _ ≤ _; exact Nat.le_of_eq rfl) (hb hby at_67) ?_
  intro v13 T13 L13 X13 hQ13
  generalize e13 : T13.heap = h13 at hQ13
  obtain ⟨rfl, N13q, K13, f13, A13, F13⟩ := hQ13
  have N13 := Fr.app N11 N13q
  show Goes p e below _ (T13.setTop (mkF m 70 #[.val (.int p1), .val (.int p2), .val (.long q3), .second, .val (.int per), .val (.int zn), .val (.long base), .second, .val (.ref b1), .unset, .unset, .unset, .unset, .unset, .unset] []))
  refine Goes.step (fun _ k => XS.aload X13.here hx rfl (hb hby at_70) rfl rfl k) ?_
  show Goes p e below _ (T13.setTop (mkF m 72 #[.val (.int p1), .val (.int p2), .val (.long q3), .second, .val (.int per), .val (.int zn), .val (.long base), .second, .val (.ref b1), .unset, .unset, .unset, .unset, .unset, .unset] [(.ref b1)]))
  refine Goes.step (fun _ k => XS.iconst X13.here hx rfl (hb hby at_72) k) ?_
  show Goes p e below _ (T13.setTop (mkF m 73 #[.val (.int p1), .val (.int p2), .val (.long q3), .second, .val (.int per), .val (.int zn), .val (.long base), .second, .val (.ref b1), .unset, .unset, .unset, .unset, .unset, .unset] [(.int (5 : Int32)), (.ref b1)]))
  refine Goes.step (fun _ k => XS.lload X13.here hx rfl (hb hby at_73) rfl k) ?_
  show Goes p e below _ (T13.setTop (mkF m 75 #[.val (.int p1), .val (.int p2), .val (.long q3), .second, .val (.int per), .val (.int zn), .val (.long base), .second, .val (.ref b1), .unset, .unset, .unset, .unset, .unset, .unset] [(.long base), (.int (5 : Int32)), (.ref b1)]))
  have u14 := Nat.le_trans u12 K13.1
  refine Goes.callS X13 hx hZ hown (hw _ (List.mem_of_getElem? (i := 2) rfl)) (hw _ (List.mem_of_getElem? (i := 3) rfl)) (hw _ (List.mem_of_getElem? (i := 4) rfl)) (hw _ (List.mem_of_getElem? (i := 5) rfl)) (by decide) e13 (rm1 l Z a0 hw b1 (5 : Int32) base h13 n0 u14 _ _ hzn _ A13 u2 5 (by decide) F13) (W := 0) (by decide) (by decide) (by decide) (by decide) (g := (mkF m 75 #[.val (.int p1), .val (.int p2), .val (.long q3), .second, .val (.int per), .val (.int zn), .val (.long base), .second, .val (.ref b1), .unset, .unset, .unset, .unset, .unset, .unset] [(.long base), (.int (5 : Int32)), (.ref b1)])) rfl (by rw [hml]; rfl) (rest := []) own_pd0 rfl rfl (by show 2 * 0 + _ ≤ _; exact Nat.le_of_eq rfl) (hb hby at_75) ?_
  intro v15 T15 L15 X15 hQ15
  generalize e15 : T15.heap = h15 at hQ15
  obtain ⟨rfl, N15q, K15, f15, A15, F15⟩ := hQ15
  have N15 := Fr.app N13 N15q
  show Goes p e below _ (T15.setTop (mkF m 78 #[.val (.int p1), .val (.int p2), .val (.long q3), .second, .val (.int per), .val (.int zn), .val (.long base), .second, .val (.ref b1), .unset, .unset, .unset, .unset, .unset, .unset] []))
  refine Goes.step (fun _ k => XS.aload X15.here hx rfl (hb hby at_78) rfl rfl k) ?_
  show Goes p e below _ (T15.setTop (mkF m 80 #[.val (.int p1), .val (.int p2), .val (.long q3), .second, .val (.int per), .val (.int zn), .val (.long base), .second, .val (.ref b1), .unset, .unset, .unset, .unset, .unset, .unset] [(.ref b1)]))
  refine Goes.step (fun _ k => XS.bipush X15.here hx rfl (hb hby at_80) k) ?_
  show Goes p e below _ (T15.setTop (mkF m 82 #[.val (.int p1), .val (.int p2), .val (.long q3), .second, .val (.int per), .val (.int zn), .val (.long base), .second, .val (.ref b1), .unset, .unset, .unset, .unset, .unset, .unset] [(.int (6 : Int32)), (.ref b1)]))
  refine Goes.step (fun _ k => XS.lload X15.here hx rfl (hb hby at_82) rfl k) ?_
  show Goes p e below _ (T15.setTop (mkF m 84 #[.val (.int p1), .val (.int p2), .val (.long q3), .second, .val (.int per), .val (.int zn), .val (.long base), .second, .val (.ref b1), .unset, .unset, .unset, .unset, .unset, .unset] [(.long base), (.int (6 : Int32)), (.ref b1)]))
  have u16 := Nat.le_trans u14 K15.1
  refine Goes.callS X15 hx hZ hown (hw _ (List.mem_of_getElem? (i := 2) rfl)) (hw _ (List.mem_of_getElem? (i := 3) rfl)) (hw _ (List.mem_of_getElem? (i := 4) rfl)) (hw _ (List.mem_of_getElem? (i := 5) rfl)) (by decide) e15 (rm1 l Z a0 hw b1 (6 : Int32) base h15 n0 u16 _ _ hzn _ A15 u2 6 (by decide) F15) (W := 0) (by decide) (by decide) (by decide) (by decide) (g := (mkF m 84 #[.val (.int p1), .val (.int p2), .val (.long q3), .second, .val (.int per), .val (.int zn), .val (.long base), .second, .val (.ref b1), .unset, .unset, .unset, .unset, .unset, .unset] [(.long base), (.int (6 : Int32)), (.ref b1)])) rfl (by rw [hml]; rfl) (rest := []) own_pd0 rfl rfl (by show 2 * 0 + _ ≤ _; exact Nat.le_of_eq rfl) (hb hby at_84) ?_
  intro v17 T17 L17 X17 hQ17
  generalize e17 : T17.heap = h17 at hQ17
  obtain ⟨rfl, N17q, K17, f17, A17, F17⟩ := hQ17
  have N17 := Fr.app N15 N17q
  show Goes p e below _ (T17.setTop (mkF m 87 #[.val (.int p1), .val (.int p2), .val (.long q3), .second, .val (.int per), .val (.int zn), .val (.long base), .second, .val (.ref b1), .unset, .unset, .unset, .unset, .unset, .unset] []))
  refine Goes.step (fun _ k => XS.aload X17.here hx rfl (hb hby at_87) rfl rfl k) ?_
  show Goes p e below _ (T17.setTop (mkF m 89 #[.val (.int p1), .val (.int p2), .val (.long q3), .second, .val (.int per), .val (.int zn), .val (.long base), .second, .val (.ref b1), .unset, .unset, .unset, .unset, .unset, .unset] [(.ref b1)]))
  refine Goes.step (fun _ k => XS.bipush X17.here hx rfl (hb hby at_89) k) ?_
  show Goes p e below _ (T17.setTop (mkF m 91 #[.val (.int p1), .val (.int p2), .val (.long q3), .second, .val (.int per), .val (.int zn), .val (.long base), .second, .val (.ref b1), .unset, .unset, .unset, .unset, .unset, .unset] [(.int (7 : Int32)), (.ref b1)]))
  refine Goes.step (fun _ k => XS.lload X17.here hx rfl (hb hby at_91) rfl k) ?_
  show Goes p e below _ (T17.setTop (mkF m 93 #[.val (.int p1), .val (.int p2), .val (.long q3), .second, .val (.int per), .val (.int zn), .val (.long base), .second, .val (.ref b1), .unset, .unset, .unset, .unset, .unset, .unset] [(.long base), (.int (7 : Int32)), (.ref b1)]))
  have u18 := Nat.le_trans u16 K17.1
  refine Goes.callS X17 hx hZ hown (hw _ (List.mem_of_getElem? (i := 2) rfl)) (hw _ (List.mem_of_getElem? (i := 3) rfl)) (hw _ (List.mem_of_getElem? (i := 4) rfl)) (hw _ (List.mem_of_getElem? (i := 5) rfl)) (by decide) e17 (rm1 l Z a0 hw b1 (7 : Int32) base h17 n0 u18 _ _ hzn _ A17 u2 7 (by decide) F17) (W := 0) (by decide) (by decide) (by decide) (by decide) (g := (mkF m 93 #[.val (.int p1), .val (.int p2), .val (.long q3), .second, .val (.int per), .val (.int zn), .val (.long base), .second, .val (.ref b1), .unset, .unset, .unset, .unset, .unset, .unset] [(.long base), (.int (7 : Int32)), (.ref b1)])) rfl (by rw [hml]; rfl) (rest := []) own_pd0 rfl rfl (by show 2 * 0 + _ ≤ _; exact Nat.le_of_eq rfl) (hb hby at_93) ?_
  intro v19 T19 L19 X19 hQ19
  generalize e19 : T19.heap = h19 at hQ19
  obtain ⟨rfl, N19q, K19, f19, A19, F19⟩ := hQ19
  have N19 := Fr.app N17 N19q
  show Goes p e below _ (T19.setTop (mkF m 96 #[.val (.int p1), .val (.int p2), .val (.long q3), .second, .val (.int per), .val (.int zn), .val (.long base), .second, .val (.ref b1), .unset, .unset, .unset, .unset, .unset, .unset] []))
  refine Goes.step (fun _ k => XS.aload X19.here hx rfl (hb hby at_96) rfl rfl k) ?_
  show Goes p e below _ (T19.setTop (mkF m 98 #[.val (.int p1), .val (.int p2), .val (.long q3), .second, .val (.int per), .val (.int zn), .val (.long base), .second, .val (.ref b1), .unset, .unset, .unset, .unset, .unset, .unset] [(.ref b1)]))
  refine Goes.step (fun _ k => XS.bipush X19.here hx rfl (hb hby at_98) k) ?_
  show Goes p e below _ (T19.setTop (mkF m 100 #[.val (.int p1), .val (.int p2), .val (.long q3), .second, .val (.int per), .val (.int zn), .val (.long base), .second, .val (.ref b1), .unset, .unset, .unset, .unset, .unset, .unset] [(.int (8 : Int32)), (.ref b1)]))
  refine Goes.step (fun _ k => XS.lload X19.here hx rfl (hb hby at_100) rfl k) ?_
  show Goes p e below _ (T19.setTop (mkF m 102 #[.val (.int p1), .val (.int p2), .val (.long q3), .second, .val (.int per), .val (.int zn), .val (.long base), .second, .val (.ref b1), .unset, .unset, .unset, .unset, .unset, .unset] [(.long base), (.int (8 : Int32)), (.ref b1)]))
  have u20 := Nat.le_trans u18 K19.1
  refine Goes.callS X19 hx hZ hown (hw _ (List.mem_of_getElem? (i := 2) rfl)) (hw _ (List.mem_of_getElem? (i := 3) rfl)) (hw _ (List.mem_of_getElem? (i := 4) rfl)) (hw _ (List.mem_of_getElem? (i := 5) rfl)) (by decide) e19 (rm1 l Z a0 hw b1 (8 : Int32) base h19 n0 u20 _ _ hzn _ A19 u2 8 (by decide) F19) (W := 0) (by decide) (by decide) (by decide) (by decide) (g := (mkF m 102 #[.val (.int p1), .val (.int p2), .val (.long q3), .second, .val (.int per), .val (.int zn), .val (.long base), .second, .val (.ref b1), .unset, .unset, .unset, .unset, .unset, .unset] [(.long base), (.int (8 : Int32)), (.ref b1)])) rfl (by rw [hml]; rfl) (rest := []) own_pd0 rfl rfl (by show 2 * 0 + _ ≤ _; exact Nat.le_of_eq rfl) (hb hby at_102) ?_
  intro v21 T21 L21 X21 hQ21
  generalize e21 : T21.heap = h21 at hQ21
  obtain ⟨rfl, N21q, K21, f21, A21, F21⟩ := hQ21
  have N21 := Fr.app N19 N21q
  show Goes p e below _ (T21.setTop (mkF m 105 #[.val (.int p1), .val (.int p2), .val (.long q3), .second, .val (.int per), .val (.int zn), .val (.long base), .second, .val (.ref b1), .unset, .unset, .unset, .unset, .unset, .unset] []))
  refine Goes.step (fun _ k => XS.aload X21.here hx rfl (hb hby at_105) rfl rfl k) ?_
  show Goes p e below _ (T21.setTop (mkF m 107 #[.val (.int p1), .val (.int p2), .val (.long q3), .second, .val (.int per), .val (.int zn), .val (.long base), .second, .val (.ref b1), .unset, .unset, .unset, .unset, .unset, .unset] [(.ref b1)]))
  refine Goes.step (fun _ k => XS.bipush X21.here hx rfl (hb hby at_107) k) ?_
  show Goes p e below _ (T21.setTop (mkF m 109 #[.val (.int p1), .val (.int p2), .val (.long q3), .second, .val (.int per), .val (.int zn), .val (.long base), .second, .val (.ref b1), .unset, .unset, .unset, .unset, .unset, .unset] [(.int (9 : Int32)), (.ref b1)]))
  refine Goes.step (fun _ k => XS.lload X21.here hx rfl (hb hby at_109) rfl k) ?_
  show Goes p e below _ (T21.setTop (mkF m 111 #[.val (.int p1), .val (.int p2), .val (.long q3), .second, .val (.int per), .val (.int zn), .val (.long base), .second, .val (.ref b1), .unset, .unset, .unset, .unset, .unset, .unset] [(.long base), (.int (9 : Int32)), (.ref b1)]))
  have u22 := Nat.le_trans u20 K21.1
  refine Goes.callS X21 hx hZ hown (hw _ (List.mem_of_getElem? (i := 2) rfl)) (hw _ (List.mem_of_getElem? (i := 3) rfl)) (hw _ (List.mem_of_getElem? (i := 4) rfl)) (hw _ (List.mem_of_getElem? (i := 5) rfl)) (by decide) e21 (rm1 l Z a0 hw b1 (9 : Int32) base h21 n0 u22 _ _ hzn _ A21 u2 9 (by decide) F21) (W := 0) (by decide) (by decide) (by decide) (by decide) (g := (mkF m 111 #[.val (.int p1), .val (.int p2), .val (.long q3), .second, .val (.int per), .val (.int zn), .val (.long base), .second, .val (.ref b1), .unset, .unset, .unset, .unset, .unset, .unset] [(.long base), (.int (9 : Int32)), (.ref b1)])) rfl (by rw [hml]; rfl) (rest := []) own_pd0 rfl rfl (by show 2 * 0 + _ ≤ _; exact Nat.le_of_eq rfl) (hb hby at_111) ?_
  intro v23 T23 L23 X23 hQ23
  generalize e23 : T23.heap = h23 at hQ23
  obtain ⟨rfl, N23q, K23, f23, A23, F23⟩ := hQ23
  have N23 := Fr.app N21 N23q
  show Goes p e below _ (T23.setTop (mkF m 114 #[.val (.int p1), .val (.int p2), .val (.long q3), .second, .val (.int per), .val (.int zn), .val (.long base), .second, .val (.ref b1), .unset, .unset, .unset, .unset, .unset, .unset] []))
  refine Goes.step (fun _ k => XS.aload X23.here hx rfl (hb hby at_114) rfl rfl k) ?_
  show Goes p e below _ (T23.setTop (mkF m 116 #[.val (.int p1), .val (.int p2), .val (.long q3), .second, .val (.int per), .val (.int zn), .val (.long base), .second, .val (.ref b1), .unset, .unset, .unset, .unset, .unset, .unset] [(.ref b1)]))
  refine Goes.step (fun _ k => XS.bipush X23.here hx rfl (hb hby at_116) k) ?_
  show Goes p e below _ (T23.setTop (mkF m 118 #[.val (.int p1), .val (.int p2), .val (.long q3), .second, .val (.int per), .val (.int zn), .val (.long base), .second, .val (.ref b1), .unset, .unset, .unset, .unset, .unset, .unset] [(.int (10 : Int32)), (.ref b1)]))
  refine Goes.step (fun _ k => XS.lload X23.here hx rfl (hb hby at_118) rfl k) ?_
  show Goes p e below _ (T23.setTop (mkF m 120 #[.val (.int p1), .val (.int p2), .val (.long q3), .second, .val (.int per), .val (.int zn), .val (.long base), .second, .val (.ref b1), .unset, .unset, .unset, .unset, .unset, .unset] [(.long base), (.int (10 : Int32)), (.ref b1)]))
  have u24 := Nat.le_trans u22 K23.1
  refine Goes.callS X23 hx hZ hown (hw _ (List.mem_of_getElem? (i := 2) rfl)) (hw _ (List.mem_of_getElem? (i := 3) rfl)) (hw _ (List.mem_of_getElem? (i := 4) rfl)) (hw _ (List.mem_of_getElem? (i := 5) rfl)) (by decide) e23 (rm1 l Z a0 hw b1 (10 : Int32) base h23 n0 u24 _ _ hzn _ A23 u2 10 (by decide) F23) (W := 0) (by decide) (by decide) (by decide) (by decide) (g := (mkF m 120 #[.val (.int p1), .val (.int p2), .val (.long q3), .second, .val (.int per), .val (.int zn), .val (.long base), .second, .val (.ref b1), .unset, .unset, .unset, .unset, .unset, .unset] [(.long base), (.int (10 : Int32)), (.ref b1)])) rfl (by rw [hml]; rfl) (rest := []) own_pd0 rfl rfl (by show 2 * 0 + _ ≤ _; exact Nat.le_of_eq rfl) (hb hby at_120) ?_
  intro v25 T25 L25 X25 hQ25
  generalize e25 : T25.heap = h25 at hQ25
  obtain ⟨rfl, N25q, K25, f25, A25, F25⟩ := hQ25
  have N25 := Fr.app N23 N25q
  show Goes p e below _ (T25.setTop (mkF m 123 #[.val (.int p1), .val (.int p2), .val (.long q3), .second, .val (.int per), .val (.int zn), .val (.long base), .second, .val (.ref b1), .unset, .unset, .unset, .unset, .unset, .unset] []))
  refine Goes.step (fun _ k => XS.aload X25.here hx rfl (hb hby at_123) rfl rfl k) ?_
  show Goes p e below _ (T25.setTop (mkF m 125 #[.val (.int p1), .val (.int p2), .val (.long q3), .second, .val (.int per), .val (.int zn), .val (.long base), .second, .val (.ref b1), .unset, .unset, .unset, .unset, .unset, .unset] [(.ref b1)]))
  refine Goes.step (fun _ k => XS.bipush X25.here hx rfl (hb hby at_125) k) ?_
  show Goes p e below _ (T25.setTop (mkF m 127 #[.val (.int p1), .val (.int p2), .val (.long q3), .second, .val (.int per), .val (.int zn), .val (.long base), .second, .val (.ref b1), .unset, .unset, .unset, .unset, .unset, .unset] [(.int (11 : Int32)), (.ref b1)]))
  refine Goes.step (fun _ k => XS.lload X25.here hx rfl (hb hby at_127) rfl k) ?_
  show Goes p e below _ (T25.setTop (mkF m 129 #[.val (.int p1), .val (.int p2), .val (.long q3), .second, .val (.int per), .val (.int zn), .val (.long base), .second, .val (.ref b1), .unset, .unset, .unset, .unset, .unset, .unset] [(.long base), (.int (11 : Int32)), (.ref b1)]))
  have u26 := Nat.le_trans u24 K25.1
  refine Goes.callS X25 hx hZ hown (hw _ (List.mem_of_getElem? (i := 2) rfl)) (hw _ (List.mem_of_getElem? (i := 3) rfl)) (hw _ (List.mem_of_getElem? (i := 4) rfl)) (hw _ (List.mem_of_getElem? (i := 5) rfl)) (by decide) e25 (rm1 l Z a0 hw b1 (11 : Int32) base h25 n0 u26 _ _ hzn _ A25 u2 11 (by decide) F25) (W := 0) (by decide) (by decide) (by decide) (by decide) (g := (mkF m 129 #[.val (.int p1), .val (.int p2), .val (.long q3), .second, .val (.int per), .val (.int zn), .val (.long base), .second, .val (.ref b1), .unset, .unset, .unset, .unset, .unset, .unset] [(.long base), (.int (11 : Int32)), (.ref b1)])) rfl (by rw [hml]; rfl) (rest := []) own_pd0 rfl rfl (by show 2 * 0 + _ ≤ _; exact Nat.le_of_eq rfl) (hb hby at_129) ?_
  intro v27 T27 L27 X27 hQ27
  generalize e27 : T27.heap = h27 at hQ27
  obtain ⟨rfl, N27q, K27, f27, A27, F27⟩ := hQ27
  have N27 := Fr.app N25 N27q
  show Goes p e below _ (T27.setTop (mkF m 132 #[.val (.int p1), .val (.int p2), .val (.long q3), .second, .val (.int per), .val (.int zn), .val (.long base), .second, .val (.ref b1), .unset, .unset, .unset, .unset, .unset, .unset] []))
  refine Goes.step (fun _ k => XS.aload X27.here hx rfl (hb hby at_132) rfl rfl k) ?_
  show Goes p e below _ (T27.setTop (mkF m 134 #[.val (.int p1), .val (.int p2), .val (.long q3), .second, .val (.int per), .val (.int zn), .val (.long base), .second, .val (.ref b1), .unset, .unset, .unset, .unset, .unset, .unset] [(.ref b1)]))
  refine Goes.step (fun _ k => XS.bipush X27.here hx rfl (hb hby at_134) k) ?_
  show Goes p e below _ (T27.setTop (mkF m 136 #[.val (.int p1), .val (.int p2), .val (.long q3), .second, .val (.int per), .val (.int zn), .val (.long base), .second, .val (.ref b1), .unset, .unset, .unset, .unset, .unset, .unset] [(.int (12 : Int32)), (.ref b1)]))
  refine Goes.step (fun _ k => XS.lload X27.here hx rfl (hb hby at_136) rfl k) ?_
  show Goes p e below _ (T27.setTop (mkF m 138 #[.val (.int p1), .val (.int p2), .val (.long q3), .second, .val (.int per), .val (.int zn), .val (.long base), .second, .val (.ref b1), .unset, .unset, .unset, .unset, .unset, .unset] [(.long base), (.int (12 : Int32)), (.ref b1)]))
  have u28 := Nat.le_trans u26 K27.1
  refine Goes.callS X27 hx hZ hown (hw _ (List.mem_of_getElem? (i := 2) rfl)) (hw _ (List.mem_of_getElem? (i := 3) rfl)) (hw _ (List.mem_of_getElem? (i := 4) rfl)) (hw _ (List.mem_of_getElem? (i := 5) rfl)) (by decide) e27 (rm1 l Z a0 hw b1 (12 : Int32) base h27 n0 u28 _ _ hzn _ A27 u2 12 (by decide) F27) (W := 0) (by decide) (by decide) (by decide) (by decide) (g := (mkF m 138 #[.val (.int p1), .val (.int p2), .val (.long q3), .second, .val (.int per), .val (.int zn), .val (.long base), .second, .val (.ref b1), .unset, .unset, .unset, .unset, .unset, .unset] [(.long base), (.int (12 : Int32)), (.ref b1)])) rfl (by rw [hml]; rfl) (rest := []) own_pd0 rfl rfl (by show 2 * 0 + _ ≤ _; exact Nat.le_of_eq rfl) (hb hby at_138) ?_
  intro v29 T29 L29 X29 hQ29
  generalize e29 : T29.heap = h29 at hQ29
  obtain ⟨rfl, N29q, K29, f29, A29, F29⟩ := hQ29
  have N29 := Fr.app N27 N29q
  show Goes p e below _ (T29.setTop (mkF m 141 #[.val (.int p1), .val (.int p2), .val (.long q3), .second, .val (.int per), .val (.int zn), .val (.long base), .second, .val (.ref b1), .unset, .unset, .unset, .unset, .unset, .unset] []))
  refine Goes.step (fun _ k => XS.aload X29.here hx rfl (hb hby at_141) rfl rfl k) ?_
  show Goes p e below _ (T29.setTop (mkF m 143 #[.val (.int p1), .val (.int p2), .val (.long q3), .second, .val (.int per), .val (.int zn), .val (.long base), .second, .val (.ref b1), .unset, .unset, .unset, .unset, .unset, .unset] [(.ref b1)]))
  refine Goes.step (fun _ k => XS.bipush X29.here hx rfl (hb hby at_143) k) ?_
  show Goes p e below _ (T29.setTop (mkF m 145 #[.val (.int p1), .val (.int p2), .val (.long q3), .second, .val (.int per), .val (.int zn), .val (.long base), .second, .val (.ref b1), .unset, .unset, .unset, .unset, .unset, .unset] [(.int (13 : Int32)), (.ref b1)]))
  refine Goes.step (fun _ k => XS.lload X29.here hx rfl (hb hby at_145) rfl k) ?_
  show Goes p e below _ (T29.setTop (mkF m 147 #[.val (.int p1), .val (.int p2), .val (.long q3), .second, .val (.int per), .val (.int zn), .val (.long base), .second, .val (.ref b1), .unset, .unset, .unset, .unset, .unset, .unset] [(.long base), (.int (13 : Int32)), (.ref b1)]))
  have u30 := Nat.le_trans u28 K29.1
  refine Goes.callS X29 hx hZ hown (hw _ (List.mem_of_getElem? (i := 2) rfl)) (hw _ (List.mem_of_getElem? (i := 3) rfl)) (hw _ (List.mem_of_getElem? (i := 4) rfl)) (hw _ (List.mem_of_getElem? (i := 5) rfl)) (by decide) e29 (rm1 l Z a0 hw b1 (13 : Int32) base h29 n0 u30 _ _ hzn _ A29 u2 13 (by decide) F29) (W := 0) (by decide) (by decide) (by decide) (by decide) (g := (mkF m 147 #[.val (.int p1), .val (.int p2), .val (.long q3), .second, .val (.int per), .val (.int zn), .val (.long base), .second, .val (.ref b1), .unset, .unset, .unset, .unset, .unset, .unset] [(.long base), (.int (13 : Int32)), (.ref b1)])) rfl (by rw [hml]; rfl) (rest := []) own_pd0 rfl rfl (by show 2 * 0 + _ ≤ _; exact Nat.le_of_eq rfl) (hb hby at_147) ?_
  intro v31 T31 L31 X31 hQ31
  generalize e31 : T31.heap = h31 at hQ31
  obtain ⟨rfl, N31q, K31, f31, A31, F31⟩ := hQ31
  have N31 := Fr.app N29 N31q
  show Goes p e below _ (T31.setTop (mkF m 150 #[.val (.int p1), .val (.int p2), .val (.long q3), .second, .val (.int per), .val (.int zn), .val (.long base), .second, .val (.ref b1), .unset, .unset, .unset, .unset, .unset, .unset] []))
  refine Goes.step (fun _ k => XS.aload X31.here hx rfl (hb hby at_150) rfl rfl k) ?_
  show Goes p e below _ (T31.setTop (mkF m 152 #[.val (.int p1), .val (.int p2), .val (.long q3), .second, .val (.int per), .val (.int zn), .val (.long base), .second, .val (.ref b1), .unset, .unset, .unset, .unset, .unset, .unset] [(.ref b1)]))
  refine Goes.step (fun _ k => XS.bipush X31.here hx rfl (hb hby at_152) k) ?_
  show Goes p e below _ (T31.setTop (mkF m 154 #[.val (.int p1), .val (.int p2), .val (.long q3), .second, .val (.int per), .val (.int zn), .val (.long base), .second, .val (.ref b1), .unset, .unset, .unset, .unset, .unset, .unset] [(.int (14 : Int32)), (.ref b1)]))
  refine Goes.step (fun _ k => XS.lload X31.here hx rfl (hb hby at_154) rfl k) ?_
  show Goes p e below _ (T31.setTop (mkF m 156 #[.val (.int p1), .val (.int p2), .val (.long q3), .second, .val (.int per), .val (.int zn), .val (.long base), .second, .val (.ref b1), .unset, .unset, .unset, .unset, .unset, .unset] [(.long base), (.int (14 : Int32)), (.ref b1)]))
  have u32 := Nat.le_trans u30 K31.1
  refine Goes.callS X31 hx hZ hown (hw _ (List.mem_of_getElem? (i := 2) rfl)) (hw _ (List.mem_of_getElem? (i := 3) rfl)) (hw _ (List.mem_of_getElem? (i := 4) rfl)) (hw _ (List.mem_of_getElem? (i := 5) rfl)) (by decide) e31 (rm1 l Z a0 hw b1 (14 : Int32) base h31 n0 u32 _ _ hzn _ A31 u2 14 (by decide) F31) (W := 0) (by decide) (by decide) (by decide) (by decide) (g := (mkF m 156 #[.val (.int p1), .val (.int p2), .val (.long q3), .second, .val (.int per), .val (.int zn), .val (.long base), .second, .val (.ref b1), .unset, .unset, .unset, .unset, .unset, .unset] [(.long base), (.int (14 : Int32)), (.ref b1)])) rfl (by rw [hml]; rfl) (rest := []) own_pd0 rfl rfl (by show 2 * 0 + _ ≤ _; exact Nat.le_of_eq rfl) (hb hby at_156) ?_
  intro v33 T33 L33 X33 hQ33
  generalize e33 : T33.heap = h33 at hQ33
  obtain ⟨rfl, N33q, K33, f33, A33, F33⟩ := hQ33
  have N33 := Fr.app N31 N33q
  show Goes p e below _ (T33.setTop (mkF m 159 #[.val (.int p1), .val (.int p2), .val (.long q3), .second, .val (.int per), .val (.int zn), .val (.long base), .second, .val (.ref b1), .unset, .unset, .unset, .unset, .unset, .unset] []))
  refine Goes.step (fun _ k => XS.aload X33.here hx rfl (hb hby at_159) rfl rfl k) ?_
  show Goes p e below _ (T33.setTop (mkF m 161 #[.val (.int p1), .val (.int p2), .val (.long q3), .second, .val (.int per), .val (.int zn), .val (.long base), .second, .val (.ref b1), .unset, .unset, .unset, .unset, .unset, .unset] [(.ref b1)]))
  refine Goes.step (fun _ k => XS.bipush X33.here hx rfl (hb hby at_161) k) ?_
  show Goes p e below _ (T33.setTop (mkF m 163 #[.val (.int p1), .val (.int p2), .val (.long q3), .second, .val (.int per), .val (.int zn), .val (.long base), .second, .val (.ref b1), .unset, .unset, .unset, .unset, .unset, .unset] [(.int (15 : Int32)), (.ref b1)]))
  refine Goes.step (fun _ k => XS.lload X33.here hx rfl (hb hby at_163) rfl k) ?_
  show Goes p e below _ (T33.setTop (mkF m 165 #[.val (.int p1), .val (.int p2), .val (.long q3), .second, .val (.int per), .val (.int zn), .val (.long base), .second, .val (.ref b1), .unset, .unset, .unset, .unset, .unset, .unset] [(.long base), (.int (15 : Int32)), (.ref b1)]))
  have u34 := Nat.le_trans u32 K33.1
  refine Goes.callS X33 hx hZ hown (hw _ (List.mem_of_getElem? (i := 2) rfl)) (hw _ (List.mem_of_getElem? (i := 3) rfl)) (hw _ (List.mem_of_getElem? (i := 4) rfl)) (hw _ (List.mem_of_getElem? (i := 5) rfl)) (by decide) e33 (rm1 l Z a0 hw b1 (15 : Int32) base h33 n0 u34 _ _ hzn _ A33 u2 15 (by decide) F33) (W := 0) (by decide) (by decide) (by decide) (by decide) (g := (mkF m 165 #[.val (.int p1), .val (.int p2), .val (.long q3), .second, .val (.int per), .val (.int zn), .val (.long base), .second, .val (.ref b1), .unset, .unset, .unset, .unset, .unset, .unset] [(.long base), (.int (15 : Int32)), (.ref b1)])) rfl (by rw [hml]; rfl) (rest := []) own_pd0 rfl rfl (by show 2 * 0 + _ ≤ _; exact Nat.le_of_eq rfl) (hb hby at_165) ?_
  intro v35 T35 L35 X35 hQ35
  generalize e35 : T35.heap = h35 at hQ35
  obtain ⟨rfl, N35q, K35, f35, A35, F35⟩ := hQ35
  have N35 := Fr.app N33 N35q
  show Goes p e below _ (T35.setTop (mkF m 168 #[.val (.int p1), .val (.int p2), .val (.long q3), .second, .val (.int per), .val (.int zn), .val (.long base), .second, .val (.ref b1), .unset, .unset, .unset, .unset, .unset, .unset] []))
  refine Goes.step (fun _ k => XS.aload X35.here hx rfl (hb hby at_168) rfl rfl k) ?_
  show Goes p e below _ (T35.setTop (mkF m 170 #[.val (.int p1), .val (.int p2), .val (.long q3), .second, .val (.int per), .val (.int zn), .val (.long base), .second, .val (.ref b1), .unset, .unset, .unset, .unset, .unset, .unset] [(.ref b1)]))
  refine Goes.step (fun _ k => XS.iload X35.here hx rfl (hb hby at_170) rfl k) ?_
  show Goes p e below _ (T35.setTop (mkF m 172 #[.val (.int p1), .val (.int p2), .val (.long q3), .second, .val (.int per), .val (.int zn), .val (.long base), .second, .val (.ref b1), .unset, .unset, .unset, .unset, .unset, .unset] [(.int per), (.ref b1)]))
  obtain ⟨i, hi, hj, hlo, hhi, hneed⟩ := own_rank hzn hp1 hp2 hn1 hn2
  have u36 := Nat.le_trans u34 K35.1
  refine Goes.callS X35 hx hZ hown (hw _ (List.mem_of_getElem? (i := 6) rfl)) (hw _ (List.mem_of_getElem? (i := 7) rfl)) (hw _ (List.mem_of_getElem? (i := 8) rfl)) (hw _ (List.mem_of_getElem? (i := 9) rfl)) (by decide) e35 (rm2 l Z a0 hw b1 per h35 n0 u36 n zn hzn _ A35 i hi hj _ (F35 i (by omega) hi)) (W := 0) (by decide) (by decide) (by decide) (by decide) (g := (mkF m 172 #[.val (.int p1), .val (.int p2), .val (.long q3), .second, .val (.int per), .val (.int zn), .val (.long base), .second, .val (.ref b1), .unset, .unset, .unset, .unset, .unset, .unset] [(.int per), (.ref b1)])) rfl (by rw [hml]; rfl) (rest := []) own_pd1 rfl rfl (by show 2 * 0 + _ ≤ _; exact Nat.le_of_eq rfl) (hb hby at_172) ?_
  intro v37 T37 L37 X37 hQ37
  obtain ⟨rfl, N37q, e37⟩ := hQ37
  have N37 := Fr.app N35 N37q
  show Goes p e below _ (T37.setTop (mkF m 175 #[.val (.int p1), .val (.int p2), .val (.long q3), .second, .val (.int per), .val (.int zn), .val (.long base), .second, .val (.ref b1), .unset, .unset, .unset, .unset, .unset, .unset] [(.long (base + Int64.ofNat i))]))
  refine Goes.step (fun _ k => XS.lstore X37.here hx rfl (hb hby at_175) rfl (l' := #[.val (.int p1), .val (.int p2), .val (.long q3), .second, .val (.int per), .val (.int zn), .val (.long base), .second, .val (.ref b1), .val (.long (base + Int64.ofNat i)), .second, .unset, .unset, .unset, .unset]) rfl k) ?_
  show Goes p e below _ (T37.setTop (mkF m 177 #[.val (.int p1), .val (.int p2), .val (.long q3), .second, .val (.int per), .val (.int zn), .val (.long base), .second, .val (.ref b1), .val (.long (base + Int64.ofNat i)), .second, .unset, .unset, .unset, .unset] []))
  refine Goes.step (fun _ k => XS.lload X37.here hx rfl (hb hby at_177) rfl k) ?_
  show Goes p e below _ (T37.setTop (mkF m 179 #[.val (.int p1), .val (.int p2), .val (.long q3), .second, .val (.int per), .val (.int zn), .val (.long base), .second, .val (.ref b1), .val (.long (base + Int64.ofNat i)), .second, .unset, .unset, .unset, .unset] [(.long (base + Int64.ofNat i))]))
  refine Goes.step (fun _ k => XS.lload X37.here hx rfl (hb hby at_179) rfl k) ?_
  show Goes p e below _ (T37.setTop (mkF m 181 #[.val (.int p1), .val (.int p2), .val (.long q3), .second, .val (.int per), .val (.int zn), .val (.long base), .second, .val (.ref b1), .val (.long (base + Int64.ofNat i)), .second, .unset, .unset, .unset, .unset] [(.long base), (.long (base + Int64.ofNat i))]))
  refine Goes.step (fun _ k => XS.lsub X37.here hx rfl (hb hby at_181) rfl k) ?_
  show Goes p e below _ (T37.setTop (mkF m 182 #[.val (.int p1), .val (.int p2), .val (.long q3), .second, .val (.int per), .val (.int zn), .val (.long base), .second, .val (.ref b1), .val (.long (base + Int64.ofNat i)), .second, .unset, .unset, .unset, .unset] [(.long ((base + Int64.ofNat i) - base))]))
  refine Goes.step (fun _ k => XS.lstore X37.here hx rfl (hb hby at_182) rfl (l' := #[.val (.int p1), .val (.int p2), .val (.long q3), .second, .val (.int per), .val (.int zn), .val (.long base), .second, .val (.ref b1), .val (.long (base + Int64.ofNat i)), .second, .val (.long ((base + Int64.ofNat i) - base)), .second, .unset, .unset]) rfl k) ?_
  show Goes p e below _ (T37.setTop (mkF m 184 #[.val (.int p1), .val (.int p2), .val (.long q3), .second, .val (.int per), .val (.int zn), .val (.long base), .second, .val (.ref b1), .val (.long (base + Int64.ofNat i)), .second, .val (.long ((base + Int64.ofNat i) - base)), .second, .unset, .unset] []))
  obtain ⟨dj, h_dj⟩ : ∃ z : Int64, z = ((base + Int64.ofNat i) - base) := ⟨_, rfl⟩
  rw [← h_dj]
  have hd : dj.toInt = (i : Int) := by rw [h_dj]; exact own_last hb1 hb2 (by omega)
  show Goes p e below _ (T37.setTop (mkF m 184 #[.val (.int p1), .val (.int p2), .val (.long q3), .second, .val (.int per), .val (.int zn), .val (.long base), .second, .val (.ref b1), .val (.long (base + Int64.ofNat i)), .second, .val (.long dj), .second, .unset, .unset] []))
  refine Goes.step (fun _ k => XS.lload X37.here hx rfl (hb hby at_184) rfl k) ?_
  show Goes p e below _ (T37.setTop (mkF m 186 #[.val (.int p1), .val (.int p2), .val (.long q3), .second, .val (.int per), .val (.int zn), .val (.long base), .second, .val (.ref b1), .val (.long (base + Int64.ofNat i)), .second, .val (.long dj), .second, .unset, .unset] [(.long dj)]))
  refine Goes.step (fun _ k => XS.lconst X37.here hx rfl (hb hby at_186) k) ?_
  show Goes p e below _ (T37.setTop (mkF m 187 #[.val (.int p1), .val (.int p2), .val (.long q3), .second, .val (.int per), .val (.int zn), .val (.long base), .second, .val (.ref b1), .val (.long (base + Int64.ofNat i)), .second, .val (.long dj), .second, .unset, .unset] [(.long (0 : Int64)), (.long dj)]))
  refine Goes.step (fun _ k => XS.lcmp X37.here hx rfl (hb hby at_187) rfl k) ?_
  show Goes p e below _ (T37.setTop (mkF m 188 #[.val (.int p1), .val (.int p2), .val (.long q3), .second, .val (.int per), .val (.int zn), .val (.long base), .second, .val (.ref b1), .val (.long (base + Int64.ofNat i)), .second, .val (.long dj), .second, .unset, .unset] [(.int (lcmpW dj (0 : Int64)))]))
  have hb38 : ¬ (dj < (0 : Int64)) := (by rw [Int64.lt_iff_toInt_lt, hd, show (0 : Int64).toInt = 0 from by decide]; omega)
  refine Goes.step (fun _ k => XS.ifNo X37.here hx rfl (hb hby at_188) rfl ((if0 _ _).trans (flt (fun q => hb38 (jlt.mp q))).1) k) ?_
  show Goes p e below _ (T37.setTop (mkF m 191 #[.val (.int p1), .val (.int p2), .val (.long q3), .second, .val (.int per), .val (.int zn), .val (.long base), .second, .val (.ref b1), .val (.long (base + Int64.ofNat i)), .second, .val (.long dj), .second, .unset, .unset] []))
  refine Goes.step (fun _ k => XS.lload X37.here hx rfl (hb hby at_191) rfl k) ?_
  show Goes p e below _ (T37.setTop (mkF m 193 #[.val (.int p1), .val (.int p2), .val (.long q3), .second, .val (.int per), .val (.int zn), .val (.long base), .second, .val (.ref b1), .val (.long (base + Int64.ofNat i)), .second, .val (.long dj), .second, .unset, .unset] [(.long dj)]))
  refine Goes.step (fun _ k => XS.iload X37.here hx rfl (hb hby at_193) rfl k) ?_
  show Goes p e below _ (T37.setTop (mkF m 195 #[.val (.int p1), .val (.int p2), .val (.long q3), .second, .val (.int per), .val (.int zn), .val (.long base), .second, .val (.ref b1), .val (.long (base + Int64.ofNat i)), .second, .val (.long dj), .second, .unset, .unset] [(.int zn), (.long dj)]))
  refine Goes.step (fun _ k => XS.i2l X37.here hx rfl (hb hby at_195) rfl k) ?_
  show Goes p e below _ (T37.setTop (mkF m 196 #[.val (.int p1), .val (.int p2), .val (.long q3), .second, .val (.int per), .val (.int zn), .val (.long base), .second, .val (.ref b1), .val (.long (base + Int64.ofNat i)), .second, .val (.long dj), .second, .unset, .unset] [(.long (zn.toInt64)), (.long dj)]))
  refine Goes.step (fun _ k => XS.lcmp X37.here hx rfl (hb hby at_196) rfl k) ?_
  show Goes p e below _ (T37.setTop (mkF m 197 #[.val (.int p1), .val (.int p2), .val (.long q3), .second, .val (.int per), .val (.int zn), .val (.long base), .second, .val (.ref b1), .val (.long (base + Int64.ofNat i)), .second, .val (.long dj), .second, .unset, .unset] [(.int (lcmpW dj (zn.toInt64)))]))
  have hb39 : dj < (zn.toInt64) := (by rw [Int64.lt_iff_toInt_lt, hd, Int32.toInt_toInt64, hzn]; omega)
  refine Goes.step (fun _ k => XS.ifYes X37.here hx rfl (pc0 := 197) (pc' := 202) rfl (hb hby at_197) rfl ((if0 _ _).trans (tlt (jlt.mpr hb39)).1) (by decide) (by decide) k) ?_
  show Goes p e below _ (T37.setTop (mkF m 202 #[.val (.int p1), .val (.int p2), .val (.long q3), .second, .val (.int per), .val (.int zn), .val (.long base), .second, .val (.ref b1), .val (.long (base + Int64.ofNat i)), .second, .val (.long dj), .second, .unset, .unset] []))
  refine Goes.step (fun _ k => XS.iload X37.here hx rfl (hb hby at_202) rfl k) ?_
  show Goes p e below _ (T37.setTop (mkF m 204 #[.val (.int p1), .val (.int p2), .val (.long q3), .second, .val (.int per), .val (.int zn), .val (.long base), .second, .val (.ref b1), .val (.long (base + Int64.ofNat i)), .second, .val (.long dj), .second, .unset, .unset] [(.int per)]))
  refine Goes.step (fun _ k => XS.i2l X37.here hx rfl (hb hby at_204) rfl k) ?_
  show Goes p e below _ (T37.setTop (mkF m 205 #[.val (.int p1), .val (.int p2), .val (.long q3), .second, .val (.int per), .val (.int zn), .val (.long base), .second, .val (.ref b1), .val (.long (base + Int64.ofNat i)), .second, .val (.long dj), .second, .unset, .unset] [(.long (per.toInt64))]))
  refine Goes.step (fun _ k => XS.iload X37.here hx rfl (hb hby at_205) rfl k) ?_
  show Goes p e below _ (T37.setTop (mkF m 207 #[.val (.int p1), .val (.int p2), .val (.long q3), .second, .val (.int per), .val (.int zn), .val (.long base), .second, .val (.ref b1), .val (.long (base + Int64.ofNat i)), .second, .val (.long dj), .second, .unset, .unset] [(.int zn), (.long (per.toInt64))]))
  refine Goes.step (fun _ k => XS.i2l X37.here hx rfl (hb hby at_207) rfl k) ?_
  show Goes p e below _ (T37.setTop (mkF m 208 #[.val (.int p1), .val (.int p2), .val (.long q3), .second, .val (.int per), .val (.int zn), .val (.long base), .second, .val (.ref b1), .val (.long (base + Int64.ofNat i)), .second, .val (.long dj), .second, .unset, .unset] [(.long (zn.toInt64)), (.long (per.toInt64))]))
  refine Goes.step (fun _ k => XS.lmul X37.here hx rfl (hb hby at_208) rfl k) ?_
  show Goes p e below _ (T37.setTop (mkF m 209 #[.val (.int p1), .val (.int p2), .val (.long q3), .second, .val (.int per), .val (.int zn), .val (.long base), .second, .val (.ref b1), .val (.long (base + Int64.ofNat i)), .second, .val (.long dj), .second, .unset, .unset] [(.long ((per.toInt64) * (zn.toInt64)))]))
  refine Goes.step (fun _ k => XS.lstore X37.here hx rfl (hb hby at_209) rfl (l' := #[.val (.int p1), .val (.int p2), .val (.long q3), .second, .val (.int per), .val (.int zn), .val (.long base), .second, .val (.ref b1), .val (.long (base + Int64.ofNat i)), .second, .val (.long dj), .second, .val (.long ((per.toInt64) * (zn.toInt64))), .second]) rfl k) ?_
  show Goes p e below _ (T37.setTop (mkF m 211 #[.val (.int p1), .val (.int p2), .val (.long q3), .second, .val (.int per), .val (.int zn), .val (.long base), .second, .val (.ref b1), .val (.long (base + Int64.ofNat i)), .second, .val (.long dj), .second, .val (.long ((per.toInt64) * (zn.toInt64))), .second] []))
  obtain ⟨need, h_need⟩ : ∃ z : Int64, z = ((per.toInt64) * (zn.toInt64)) := ⟨_, rfl⟩
  rw [← h_need]
  have hq : need.toInt = per.toInt * n := by rw [h_need]; exact hneed
  have hlo' : 100 * (i : Int) < need.toInt := by rw [hq]; exact hlo
  have hhi' : need.toInt ≤ 100 * ((i : Int) + 1) := by rw [hq]; exact hhi
  have g1 : (dj + (1 : Int64)).toInt = (i : Int) + 1 := by rw [Jvm.Kit.i64_add] <;> rw [hd, show (1 : Int64).toInt = 1 from by decide] <;> omega
  have g2 : ((100 : Int64) * (dj + (1 : Int64))).toInt = 100 * ((i : Int) + 1) := by rw [Jvm.Kit.i64_mul] <;> rw [g1, show (100 : Int64).toInt = 100 from by decide] <;> omega
  have g3 : ((100 : Int64) * dj).toInt = 100 * (i : Int) := by rw [Jvm.Kit.i64_mul] <;> rw [hd, show (100 : Int64).toInt = 100 from by decide] <;> omega
  show Goes p e below _ (T37.setTop (mkF m 211 #[.val (.int p1), .val (.int p2), .val (.long q3), .second, .val (.int per), .val (.int zn), .val (.long base), .second, .val (.ref b1), .val (.long (base + Int64.ofNat i)), .second, .val (.long dj), .second, .val (.long need), .second] []))
  refine Goes.step (fun _ k => X37.ldc2J hx hown (mvT hZ (hw _ (List.mem_of_getElem? (i := 12) rfl))) rfl (hb hby at_211) k) ?_
  show Goes p e below _ (T37.setTop (mkF m 214 #[.val (.int p1), .val (.int p2), .val (.long q3), .second, .val (.int per), .val (.int zn), .val (.long base), .second, .val (.ref b1), .val (.long (base + Int64.ofNat i)), .second, .val (.long dj), .second, .val (.long need), .second] [(.long (100 : Int64))]))
  refine Goes.step (fun _ k => XS.lload X37.here hx rfl (hb hby at_214) rfl k) ?_
  show Goes p e below _ (T37.setTop (mkF m 216 #[.val (.int p1), .val (.int p2), .val (.long q3), .second, .val (.int per), .val (.int zn), .val (.long base), .second, .val (.ref b1), .val (.long (base + Int64.ofNat i)), .second, .val (.long dj), .second, .val (.long need), .second] [(.long dj), (.long (100 : Int64))]))
  refine Goes.step (fun _ k => XS.lconst X37.here hx rfl (hb hby at_216) k) ?_
  show Goes p e below _ (T37.setTop (mkF m 217 #[.val (.int p1), .val (.int p2), .val (.long q3), .second, .val (.int per), .val (.int zn), .val (.long base), .second, .val (.ref b1), .val (.long (base + Int64.ofNat i)), .second, .val (.long dj), .second, .val (.long need), .second] [(.long (1 : Int64)), (.long dj), (.long (100 : Int64))]))
  refine Goes.step (fun _ k => XS.ladd X37.here hx rfl (hb hby at_217) rfl k) ?_
  show Goes p e below _ (T37.setTop (mkF m 218 #[.val (.int p1), .val (.int p2), .val (.long q3), .second, .val (.int per), .val (.int zn), .val (.long base), .second, .val (.ref b1), .val (.long (base + Int64.ofNat i)), .second, .val (.long dj), .second, .val (.long need), .second] [(.long (dj + (1 : Int64))), (.long (100 : Int64))]))
  refine Goes.step (fun _ k => XS.lmul X37.here hx rfl (hb hby at_218) rfl k) ?_
  show Goes p e below _ (T37.setTop (mkF m 219 #[.val (.int p1), .val (.int p2), .val (.long q3), .second, .val (.int per), .val (.int zn), .val (.long base), .second, .val (.ref b1), .val (.long (base + Int64.ofNat i)), .second, .val (.long dj), .second, .val (.long need), .second] [(.long ((100 : Int64) * (dj + (1 : Int64))))]))
  refine Goes.step (fun _ k => XS.lload X37.here hx rfl (hb hby at_219) rfl k) ?_
  show Goes p e below _ (T37.setTop (mkF m 221 #[.val (.int p1), .val (.int p2), .val (.long q3), .second, .val (.int per), .val (.int zn), .val (.long base), .second, .val (.ref b1), .val (.long (base + Int64.ofNat i)), .second, .val (.long dj), .second, .val (.long need), .second] [(.long need), (.long ((100 : Int64) * (dj + (1 : Int64))))]))
  refine Goes.step (fun _ k => XS.lcmp X37.here hx rfl (hb hby at_221) rfl k) ?_
  show Goes p e below _ (T37.setTop (mkF m 222 #[.val (.int p1), .val (.int p2), .val (.long q3), .second, .val (.int per), .val (.int zn), .val (.long base), .second, .val (.ref b1), .val (.long (base + Int64.ofNat i)), .second, .val (.long dj), .second, .val (.long need), .second] [(.int (lcmpW ((100 : Int64) * (dj + (1 : Int64))) need))]))
  have hb40 : ¬ (((100 : Int64) * (dj + (1 : Int64))) < need) := (by rw [Int64.lt_iff_toInt_lt, g2]; omega)
  refine Goes.step (fun _ k => XS.ifNo X37.here hx rfl (hb hby at_222) rfl ((if0 _ _).trans (flt (fun q => hb40 (jlt.mp q))).1) k) ?_
  show Goes p e below _ (T37.setTop (mkF m 225 #[.val (.int p1), .val (.int p2), .val (.long q3), .second, .val (.int per), .val (.int zn), .val (.long base), .second, .val (.ref b1), .val (.long (base + Int64.ofNat i)), .second, .val (.long dj), .second, .val (.long need), .second] []))
  refine Goes.step (fun _ k => X37.ldc2J hx hown (mvT hZ (hw _ (List.mem_of_getElem? (i := 12) rfl))) rfl (hb hby at_225) k) ?_
  show Goes p e below _ (T37.setTop (mkF m 228 #[.val (.int p1), .val (.int p2), .val (.long q3), .second, .val (.int per), .val (.int zn), .val (.long base), .second, .val (.ref b1), .val (.long (base + Int64.ofNat i)), .second, .val (.long dj), .second, .val (.long need), .second] [(.long (100 : Int64))]))
  refine Goes.step (fun _ k => XS.lload X37.here hx rfl (hb hby at_228) rfl k) ?_
  show Goes p e below _ (T37.setTop (mkF m 230 #[.val (.int p1), .val (.int p2), .val (.long q3), .second, .val (.int per), .val (.int zn), .val (.long base), .second, .val (.ref b1), .val (.long (base + Int64.ofNat i)), .second, .val (.long dj), .second, .val (.long need), .second] [(.long dj), (.long (100 : Int64))]))
  refine Goes.step (fun _ k => XS.lmul X37.here hx rfl (hb hby at_230) rfl k) ?_
  show Goes p e below _ (T37.setTop (mkF m 231 #[.val (.int p1), .val (.int p2), .val (.long q3), .second, .val (.int per), .val (.int zn), .val (.long base), .second, .val (.ref b1), .val (.long (base + Int64.ofNat i)), .second, .val (.long dj), .second, .val (.long need), .second] [(.long ((100 : Int64) * dj))]))
  refine Goes.step (fun _ k => XS.lload X37.here hx rfl (hb hby at_231) rfl k) ?_
  show Goes p e below _ (T37.setTop (mkF m 233 #[.val (.int p1), .val (.int p2), .val (.long q3), .second, .val (.int per), .val (.int zn), .val (.long base), .second, .val (.ref b1), .val (.long (base + Int64.ofNat i)), .second, .val (.long dj), .second, .val (.long need), .second] [(.long need), (.long ((100 : Int64) * dj))]))
  refine Goes.step (fun _ k => XS.lcmp X37.here hx rfl (hb hby at_233) rfl k) ?_
  show Goes p e below _ (T37.setTop (mkF m 234 #[.val (.int p1), .val (.int p2), .val (.long q3), .second, .val (.int per), .val (.int zn), .val (.long base), .second, .val (.ref b1), .val (.long (base + Int64.ofNat i)), .second, .val (.long dj), .second, .val (.long need), .second] [(.int (lcmpW ((100 : Int64) * dj) need))]))
  have hb41 : ((100 : Int64) * dj) < need := (by rw [Int64.lt_iff_toInt_lt, g3]; omega)
  refine Goes.step (fun _ k => XS.ifNo X37.here hx rfl (hb hby at_234) rfl ((if0 _ _).trans (tlt (jlt.mpr hb41)).2.1) k) ?_
  show Goes p e below _ (T37.setTop (mkF m 237 #[.val (.int p1), .val (.int p2), .val (.long q3), .second, .val (.int per), .val (.int zn), .val (.long base), .second, .val (.ref b1), .val (.long (base + Int64.ofNat i)), .second, .val (.long dj), .second, .val (.long need), .second] []))
  refine Goes.step (fun _ k => XS.iconst X37.here hx rfl (hb hby at_237) k) ?_
  show Goes p e below _ (T37.setTop (mkF m 238 #[.val (.int p1), .val (.int p2), .val (.long q3), .second, .val (.int per), .val (.int zn), .val (.long base), .second, .val (.ref b1), .val (.long (base + Int64.ofNat i)), .second, .val (.long dj), .second, .val (.long need), .second] [(.int (1 : Int32))]))
  refine Goes.step (fun _ k => XS.goto X37.here hx rfl (pc0 := 238) (pc' := 242) rfl (hb hby at_238) (by decide) (by decide) k) ?_
  show Goes p e below _ (T37.setTop (mkF m 242 #[.val (.int p1), .val (.int p2), .val (.long q3), .second, .val (.int per), .val (.int zn), .val (.long base), .second, .val (.ref b1), .val (.long (base + Int64.ofNat i)), .second, .val (.long dj), .second, .val (.long need), .second] [(.int (1 : Int32))]))
  refine Goes.retN X37 hx hlk (t := .boolean) hret (by simp) (hb hby at_242) (by decide) (by decide) ?_
  exact ⟨rfl, N37⟩
set_option maxRecDepth 65536 in
set_option maxHeartbeats 40000000 in
theorem comes_1 {Post : Tables → Env → Array Value → State → Outcome → State → Prop} (hpost : ∀ tb e args s v u, (limb_1_1.after args s (.returned v) u = true ∧ limb_1_2.after args s (.returned v) u = true ∧ True) → FrameEnd s (.returned v) u (Jvm.fieldLocs frame_1_writes args s ++ Jvm.arrayLocs frame_1_arrays args s ++ Jvm.staticLocs frame_1_statics s) 16 128 → Post tb e args s (.returned v) u) :
    ArmFor flags0 classFile x code maxLocals ret World_1 tables_1 room_1 Calls_1 rest_1 Pre_1 Post := by
  intro l hfl _ _ p e ha hc hk s m args below hf hA hF happ hP
  obtain ⟨hcalls, hrest, hpre⟩ := hP
  obtain ⟨-, -, -, hnamed, -, -, -, hat⟩ := (Spec.applies_iff hf).mp happ
  obtain ⟨hg, hn⟩ := and_e (Cond.before_iff.mp (show (Jvm.Cond.and given_1 narrow_1).before args s = true from hpre))
  obtain ⟨hcnt, g0⟩ := and_e hg
  obtain ⟨q0, g1⟩ := and_e g0
  obtain ⟨q1, g2⟩ := and_e g1
  have q2 := g2
  obtain ⟨w0, w1, w2, rfl⟩ : ∃ w0 w1 w2 : Value, args = #[w0, w1, w2] := by
    have hs : args.size = 3 := by simpa [Cond.value, given_1] using hcnt
    obtain ⟨L⟩ := args
    match L, hs with
    | [w0, w1, w2], _ => exact ⟨w0, w1, w2, rfl⟩
  have hw := fun d (hd : d ∈ tables_1) => atoms_spec (ws := Jvm.Cond.code x code maxLocals ret :: tables_1) hat d (List.mem_cons_of_mem _ hd)
  obtain ⟨i0, e0⟩ := is_v q0
  obtain rfl : w0 = (.int i0) := Option.some.inj e0
  obtain ⟨i1, e1⟩ := is_v q1
  obtain rfl : w1 = (.int i1) := Option.some.inj e1
  obtain ⟨i2, e2⟩ := isL_v q2
  obtain rfl : w2 = (.long i2) := Option.some.inj e2
  obtain ⟨n, o, h1, h2, h3, _, L, rfl, ⟨rfl, N⟩, hq⟩ := rm0 l s _ hw i0 i1 i2 s.heap s.heap.size (Nat.le_refl _) tables_1 p e ha hc hk s m _ below hf ((Spec.applies_iff_loose hf).mp happ).1 ⟨rfl, State.Warmed39.refl s, rfl⟩ trivial
  refine ⟨n, _, h1, h2, h3, hpost _ _ _ _ _ _ ⟨Cond.after_iff.mpr rfl, Cond.after_iff.mpr (eq_i res_at (Term.int_eval (1)) rfl), trivial⟩ ⟨hq.1, hq.2.1, (hq.2.2.sift fun y hy => Or.inr (N y hy)).mono (by decide) (by decide)⟩⟩
theorem main_1_1 : Claimed_1_1 := comes_1 fun _ _ _ _ _ _ h hF => ⟨h.1, hF⟩
theorem main_1_2 : Claimed_1_2 := comes_1 fun _ _ _ _ _ _ h hF => ⟨h.2.1, hF⟩
end Jvm.Pilot.@@N@@
namespace Jvm.Pilot.@@N@@
open Jvm Jvm.ClassFile Sem Op Lib Jvm.Free Jvm.Stand Jvm.Pilot.@@N@@.Jvm.D
/-! MADE BY PROGRAM (witnessworld.py) out of the Statement's table words and the real class files: 11 classes; the members and pool entries that the words name. The judged class is class 1, her method 2. -/
namespace start1
open Jvm.ClassFile
def u (s : String) : CpInfo := .utf8 (stringToUtf16 s)
/-- a pool by its gaps: so many unusable entries, then the entry; so many at the end -/
def gap : Nat → List CpInfo → List CpInfo
  | 0, r => r
  | n + 1, r => .unusable :: gap n r
def poolList (es : List (Nat × CpInfo)) (last : Nat) : List CpInfo := es.foldr (fun e r => gap e.1 (e.2 :: r)) (gap last [])
def pool (es : List (Nat × CpInfo)) (last : Nat) : Array CpInfo := ⟨poolList es last⟩
def fileOf (pool : Array CpInfo) (this : Nat) (attrs : Array Attribute := #[]) (ms : Array MethodInfo := #[]) (fl : Nat := 33) (sup : Nat := 0) (ifs : Array Nat := #[]) (fds : Array FieldInfo := #[]) : ClassFile where
  minorVersion := 0
  majorVersion := 65
  constantPool := pool
  accessFlags := fl
  thisClass := this
  superClass := sup
  interfaces := ifs
  fields := fds
  methods := ms
  attributes := attrs
def plain (name : String) (sup : Option ClassId) : Class where
  name := name
  kind := .ordinary
  loader := none
  accessFlags := 33
  super := sup
  interfaces := #[]
  cf := none
  fields := #[]
  methods := #[]
  instanceTypes := #[]
  staticTypes := #[]
  resolved := #[]
  callSites := []
  init := .initialized
  statics := none
  mirror := none

def pool0 : Array CpInfo := pool [(5, u "<init>"), (0, u "()V"), (1, .class_ 10), (1, u "java/lang/Object")] 113

def k0m0 : Method := { name := "<init>", desc := "()V", sig := { parameters := [], returnType := none }, accessFlags := 1, code := none }
/-- java/lang/Object -/
def k0 : Class := { plain "java/lang/Object" none with
  accessFlags := 33
  interfaces := #[]
  cf := some (fileOf pool0 8 #[] #[{ accessFlags := 1, nameIndex := 5, descriptorIndex := 6, attributes := #[] }] 33 0 #[] #[])
  fields := #[]
  methods := #[k0m0]
  instanceTypes := #[]
  staticTypes := #[]
  resolved := Array.replicate 124 none
  statics := none }

def pool1 : Array CpInfo := pool [(2, .class_ 4), (1, u "java/lang/Object"), (0, u "<init>"), (0, u "()V"), (0, .integer 2147483647), (0, .methodref 9 10), (0, .class_ 11), (0, .nameAndType 12 13), (0, u "com/example/anchorline/anchorline/load/HopClockNearestRankPinLaw"), (0, u "put"), (0, u "([JIJ)V"), (0, .methodref 15 16), (0, .class_ 17), (0, .nameAndType 18 19), (0, u "com/example/anchorline/anchorline/load/HopClock"), (0, u "nearestRank"), (0, u "([JI)J"), (0, .long 100), (4, u "law"), (0, u "(IIJ)Z")] 4

def k1m0 : Method := { name := "<init>", desc := "()V", sig := { parameters := [], returnType := none }, accessFlags := 2, code := none }
def k1c1 : Code := { maxStack := 6, maxLocals := 4, code := method_2_code, exceptionTable := #[], attributes := #[] }
def k1m1 : Method := { name := "put", desc := "([JIJ)V", sig := { parameters := [(.array .long), .int, .long], returnType := none }, accessFlags := 10, code := some k1c1 }
def k1c2 : Code := { maxStack := 6, maxLocals := 15, code := code, exceptionTable := #[], attributes := #[] }
def k1m2 : Method := { name := "law", desc := "(IIJ)Z", sig := { parameters := [.int, .int, .long], returnType := some .boolean }, accessFlags := 9, code := some k1c2 }
/-- com/example/anchorline/anchorline/load/HopClockNearestRankPinLaw -/
def k1 : Class := { plain "com/example/anchorline/anchorline/load/HopClockNearestRankPinLaw" (some 0) with
  accessFlags := 49
  interfaces := #[]
  cf := some (fileOf pool1 9 #[] #[{ accessFlags := 2, nameIndex := 5, descriptorIndex := 6, attributes := #[] }, { accessFlags := 10, nameIndex := 12, descriptorIndex := 13, attributes := #[] }, { accessFlags := 9, nameIndex := 25, descriptorIndex := 26, attributes := #[] }] 49 2 #[] #[])
  fields := #[]
  methods := #[k1m0, k1m1, k1m2]
  instanceTypes := #[]
  staticTypes := #[]
  resolved := Array.replicate 31 none
  statics := none }

def pool2 : Array CpInfo := pool [(2, .class_ 4), (1, u "java/lang/Object"), (0, u "<init>"), (0, u "()V"), (1, .class_ 10), (1, u "com/example/anchorline/anchorline/load/HopClock"), (0, u "delays"), (0, u "[J"), (10, u "running"), (0, u "Z"), (2, u "count"), (0, u "I"), (12, u "nearestRank"), (0, u "([JI)J"), (8, .long 99), (1, .long 100), (9, u "handedAt"), (0, u "J"), (7, u "takenAt"), (9, u "NANOS_PER_MICRO")] 43

def k2m0 : Method := { name := "<init>", desc := "()V", sig := { parameters := [], returnType := none }, accessFlags := 0, code := none }
def k2c1 : Code := { maxStack := 4, maxLocals := 4, code := prog_42_method_8_code, exceptionTable := #[], attributes := #[] }
def k2m1 : Method := { name := "nearestRank", desc := "([JI)J", sig := { parameters := [(.array .long), .int], returnType := some .long }, accessFlags := 8, code := some k2c1 }
/-- com/example/anchorline/anchorline/load/HopClock -/
def k2 : Class := { plain "com/example/anchorline/anchorline/load/HopClock" (some 0) with
  accessFlags := 48
  interfaces := #[]
  cf := some (fileOf pool2 8 #[] #[{ accessFlags := 0, nameIndex := 5, descriptorIndex := 6, attributes := #[] }, { accessFlags := 8, nameIndex := 41, descriptorIndex := 42, attributes := #[] }] 48 2 #[] #[{ accessFlags := 26, nameIndex := 82, descriptorIndex := 28, attributes := #[] }, { accessFlags := 2, nameIndex := 11, descriptorIndex := 12, attributes := #[] }, { accessFlags := 2, nameIndex := 27, descriptorIndex := 28, attributes := #[] }, { accessFlags := 2, nameIndex := 23, descriptorIndex := 24, attributes := #[] }, { accessFlags := 2, nameIndex := 72, descriptorIndex := 64, attributes := #[] }, { accessFlags := 2, nameIndex := 63, descriptorIndex := 64, attributes := #[] }])
  fields := #[{ name := "NANOS_PER_MICRO", type := .int, accessFlags := 26, slot := 0, constantValue := 0 }, { name := "delays", type := (.array .long), accessFlags := 2, slot := 0, constantValue := 0 }, { name := "count", type := .int, accessFlags := 2, slot := 1, constantValue := 0 }, { name := "running", type := .boolean, accessFlags := 2, slot := 2, constantValue := 0 }, { name := "takenAt", type := .long, accessFlags := 2, slot := 3, constantValue := 0 }, { name := "handedAt", type := .long, accessFlags := 2, slot := 4, constantValue := 0 }]
  methods := #[k2m0, k2m1]
  instanceTypes := #[(.array .long), .int, .boolean, .long, .long]
  staticTypes := #[.int]
  resolved := Array.replicate 126 none
  statics := none }

def pool3 : Array CpInfo := pool [(1, u "java/lang/Cloneable"), (0, .class_ 1), (0, u "java/lang/Object"), (0, .class_ 3)] 3

/-- java/lang/Cloneable -/
def k3 : Class := { plain "java/lang/Cloneable" (some 0) with
  accessFlags := 1537
  interfaces := #[]
  cf := some (fileOf pool3 2 #[] #[] 1537 4 #[] #[])
  fields := #[]
  methods := #[]
  instanceTypes := #[]
  staticTypes := #[]
  resolved := Array.replicate 8 none
  statics := none }

def pool4 : Array CpInfo := pool [(1, u "java/io/Serializable"), (0, .class_ 1), (0, u "java/lang/Object"), (0, .class_ 3)] 3

/-- java/io/Serializable -/
def k4 : Class := { plain "java/io/Serializable" (some 0) with
  accessFlags := 1537
  interfaces := #[]
  cf := some (fileOf pool4 2 #[] #[] 1537 4 #[] #[])
  fields := #[]
  methods := #[]
  instanceTypes := #[]
  staticTypes := #[]
  resolved := Array.replicate 8 none
  statics := none }

/-- the primitive byte -/
def k5 : Class := { plain "byte" none with kind := .primitive 'B', accessFlags := 0x411 }
/-- [B -/
def k6 : Class := { plain "[B" (some 0) with kind := .array 5 .byte, interfaces := #[3, 4], accessFlags := 1041 }

/-- the primitive int -/
def k7 : Class := { plain "int" none with kind := .primitive 'I', accessFlags := 0x411 }
/-- [I -/
def k8 : Class := { plain "[I" (some 0) with kind := .array 7 .int, interfaces := #[3, 4], accessFlags := 1041 }

/-- the primitive long -/
def k9 : Class := { plain "long" none with kind := .primitive 'J', accessFlags := 0x411 }
/-- [J -/
def k10 : Class := { plain "[J" (some 0) with kind := .array 9 .long, interfaces := #[3, 4], accessFlags := 1041 }

def heap : Heap := #[]
def classes : Array Class := #[k0, k1, k2, k3, k4, k5, k6, k7, k8, k9, k10]
def interned : List (Array UInt16 × Addr) := []
def slotsUsed : Nat := 0
def theMethod : MethodId := ⟨1, 2⟩
def args0 : Array Value := #[.int 250, .int 7, .long 77]
def aboutOver (below : List Frame) : State where
  vm := { classes := classes, interned := interned.toArray }
  heap := heap
  slotsUsed := slotsUsed
  threads := #[{ frames := .invoking theMethod args0 :: below }]
def below0 : List Frame := [.native { method := ⟨0, 0⟩, args := #[] }]
def about1 : State := aboutOver below0
def p0 : Program := .bare "" "" ""
def e0 : Env := launch0.env 0 0 0
theorem w_frames : about1.frames = Frame.invoking theMethod args0 :: below0 := rfl
set_option maxRecDepth 65536 in
theorem w_args : argsFit about1.vm theMethod args0 = true := by decide +kernel
set_option maxRecDepth 65536 in
theorem w_heap : heapFits about1 = true := by decide +kernel
set_option maxRecDepth 65536 in
theorem w_runnable : about1.curStatus? = some .runnable := by decide +kernel
set_option maxRecDepth 65536 in
theorem w_alone : about1.alone = true := by decide +kernel
set_option maxRecDepth 65536 in
theorem w_named : about1.methodNamed? x = some theMethod := by decide +kernel
set_option maxRecDepth 65536 in
theorem w_hears : about1.hears theMethod below0 = true := by decide +kernel
set_option maxRecDepth 65536 in
theorem w_ripe : about1.ripe theMethod args0 below0 = true := by decide +kernel
theorem w_running : about1.status = .running := rfl
set_option maxRecDepth 65536 in
theorem w_room : about1.hasRoom e0.platform room_1 = true :=
  launch0.hasRoom_least _ room_1 (by decide +kernel) (by decide +kernel) (by decide +kernel) (by decide +kernel) (by decide +kernel) (by decide +kernel)
theorem allAtoms_all (ts : List Jvm.Cond) (a : Array Jvm.Value) (st : Jvm.State) : (allAtoms ts).before a st = ts.all (fun c => c.before a st) := by
  induction ts with
  | nil => rfl
  | cons c t ih =>
    show (Jvm.Cond.and c (allAtoms t)).before a st = _
    rw [Jvm.Cond.before_and, ih, List.all_cons]
def words1 : List Jvm.Cond := Jvm.Cond.code x code maxLocals ret :: tables_1
/-- a 'code' word, met by the world's own term for the bytes: nothing is compared byte by byte -/
theorem code_word {y : MethodName} {bytes : ByteArray} {mx : Nat} {rt : Option FieldType} {a : Array Value} {s : State} {m : MethodId} {meth : Method} {c : Code} (h1 : s.methodNamed? y = some m) (h2 : s.vm.method? m = some meth) (h3 : meth.code = some c) (h4 : c.code = bytes)
    (h5 : (c.maxLocals == mx && c.exceptionTable.isEmpty && decide (c.maxStack ≤ mostOperands) && decide (meth.sig.returnType = rt) && !meth.locks && decide (parseMethodDescriptor y.desc = some meth.sig)) = true) : (Jvm.Cond.code y bytes mx rt).before a s = true := by
  simp only [Bool.and_eq_true, beq_iff_eq, Bool.not_eq_true', decide_eq_true_eq] at h5
  obtain ⟨⟨⟨⟨⟨g1, g2⟩, g3⟩, g4⟩, g5⟩, g6⟩ := h5
  simp [Cond.before, Cond.holds, Cond.value, h1, h2, h3, h4, g1, g2, g3, g4, g5, g6]
def isCode : Jvm.Cond → Bool
  | .code _ _ _ _ => true
  | _ => false
theorem all_split {L : List Jvm.Cond} {P : Jvm.Cond → Bool} (h1 : L.all (fun c => isCode c || P c) = true) (h2 : ∀ c ∈ L.filter isCode, P c = true) : L.all P = true := by
  refine List.all_eq_true.mpr fun c hc => ?_
  have h := List.all_eq_true.mp h1 c hc
  rcases Bool.eq_false_or_eq_true (isCode c) with hi | hi
  · exact h2 c (List.mem_filter.mpr ⟨hc, hi⟩)
  · simpa [hi] using h
set_option maxRecDepth 65536 in
theorem w_c0 : (Jvm.Cond.code x code maxLocals ret).before args0 about1 = true := code_word (m := ⟨1, 2⟩) (meth := k1m2) (c := k1c2) (by decide +kernel) rfl rfl rfl (by decide +kernel)
set_option maxRecDepth 65536 in
theorem w_c1 : (Jvm.Cond.code ({ cls := "com/example/anchorline/anchorline/load/HopClockNearestRankPinLaw", name := "put", desc := "([JIJ)V" } : Jvm.MethodName) method_2_code (4 : Nat) (Option.none : Option Jvm.ClassFile.FieldType)).before args0 about1 = true := code_word (m := ⟨1, 1⟩) (meth := k1m1) (c := k1c1) (by decide +kernel) rfl rfl rfl (by decide +kernel)
set_option maxRecDepth 65536 in
theorem w_c2 : (Jvm.Cond.code ({ cls := "com/example/anchorline/anchorline/load/HopClock", name := "nearestRank", desc := "([JI)J" } : Jvm.MethodName) prog_42_method_8_code (4 : Nat) (Option.some Jvm.ClassFile.FieldType.long)).before args0 about1 = true := code_word (m := ⟨2, 1⟩) (meth := k2m1) (c := k2c1) (by decide +kernel) rfl rfl rfl (by decide +kernel)
def codes1 : List Jvm.Cond := [Jvm.Cond.code x code maxLocals ret, Jvm.Cond.code ({ cls := "com/example/anchorline/anchorline/load/HopClockNearestRankPinLaw", name := "put", desc := "([JIJ)V" } : Jvm.MethodName) method_2_code (4 : Nat) (Option.none : Option Jvm.ClassFile.FieldType), Jvm.Cond.code ({ cls := "com/example/anchorline/anchorline/load/HopClock", name := "nearestRank", desc := "([JI)J" } : Jvm.MethodName) prog_42_method_8_code (4 : Nat) (Option.some Jvm.ClassFile.FieldType.long)]
set_option maxRecDepth 65536 in
theorem codes_eq : words1.filter isCode = codes1 := rfl
theorem w_codes : ∀ c ∈ words1.filter isCode, c.before args0 about1 = true := by
  rw [codes_eq]
  intro c hc
  simp only [codes1, List.mem_cons, List.not_mem_nil, or_false] at hc
  rcases hc with rfl | rfl | rfl
  · exact w_c0
  · exact w_c1
  · exact w_c2
set_option maxRecDepth 65536 in
theorem w_t1 : words1.all (fun c => isCode c || c.before args0 about1) = true := by decide +kernel
theorem w_tables : (allAtoms (Jvm.Cond.code x code maxLocals ret :: tables_1)).before args0 about1 = true := by
  rw [allAtoms_all]
  show words1.all (fun c => c.before args0 about1) = true
  refine all_split ?_ w_codes
  rw [w_t1]
set_option maxRecDepth 65536 in
theorem w_case : (Jvm.Cond.and given_1 narrow_1).before args0 about1 = true := by decide +kernel
theorem w_applies : (headSpec (Jvm.Cond.code x code maxLocals ret :: tables_1) room_1).applies x e0.platform about1 = true :=
  (Spec.applies_iff w_frames).mpr ⟨w_running, w_runnable, w_alone, w_named, w_hears, w_ripe, w_room, w_tables⟩
theorem atStart : AtStart classFile x code maxLocals ret World_1 tables_1 room_1 Calls_1 rest_1 Pre_1 launch0 p0 e0 about1 theMethod args0 below0 :=
  ⟨lists_1, trivial, launch0.admits_env _ _ _, launch0.least_env, fairChoices_fair.cas, fairChoices_fair.clock, w_frames, w_args, w_heap, w_applies, trivial, trivial, w_case⟩
end start1
theorem witness_1 : WitnessClaimed_1 := ⟨start1.p0, start1.e0, start1.about1, start1.theMethod, start1.args0, start1.below0, start1.atStart⟩
end Jvm.Pilot.@@N@@
