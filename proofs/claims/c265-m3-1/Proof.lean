import JvmDerived
import JvmDerived.Pilot.@@N@@Statement
import JvmDerived.Pilot.@@N@@Code
set_option linter.unusedVariables false
set_option linter.unusedSimpArgs false
namespace Jvm.Pilot.@@N@@
open Jvm Jvm.ClassFile Sem Op Lib Jvm.Free Jvm.Stand Jvm.LawKit Jvm.RoadKit Bundle Jvm.Pilot.@@N@@.Jvm.D
section Own
variable {p : Program} {l : Launch} {e : Env} {R : Room} {s : State} {m : MethodId} {args : Array Value} {below : List Frame} {meth : Method} {c : Code} {T : State} {locs : List Loc} {cells slots : Nat} {Z : State} {a0 : Array Value} {h : Heap}
/-- from t the run comes to an end that P speaks of -/
def Goes (p : Program) (e : Env) (below : List Frame) (P : State → Outcome → Prop) (t : State) : Prop :=
  ∃ s₂ o, Steps p.tables e below t s₂ ∧ s₂.status = .running ∧ Ended s₂ below o ∧ P s₂ o
/-- it returned, what Q says, and the frame -/
def Aim (s : State) (Q : Option Value → Heap → List Loc → Prop) (k n : Nat) (s₂ : State) (o : Outcome) : Prop :=
  ∃ v L, o = .returned v ∧ Q v s₂.heap L ∧ FrameEnd s o s₂ L k n
theorem Goes.step {P : State → Outcome → Prop} {t t' : State} (st : ∀ tgt, Steps p.tables e below t' tgt → Steps p.tables e below t tgt) (q : Goes p e below P t') : Goes p e below P t := by
  obtain ⟨s₂, o, k, r⟩ := q
  exact ⟨s₂, o, st _ k, r⟩
theorem Goes.tr {P : State → Outcome → Prop} {t t' : State} (st : Steps p.tables e below t t') (q : Goes p e below P t') : Goes p e below P t := by
  obtain ⟨s₂, o, k, r⟩ := q
  exact ⟨s₂, o, st.trans k, r⟩
theorem Goes.retN (X : Stand p l e R s m args below meth c T locs cells slots) (hx : p.tables.exec = Jvm.exec) (hlk : meth.locks = false) {t : FieldType} (hret : meth.sig.returnType = some t) (ht : t = .boolean ∨ t = .byte ∨ t = .char ∨ t = .short) {pc : Nat} {Ls : Array Slot} {z : Int32} {rest : List Value}
    (hd : decode c.code pc = .ok (.ireturn, 1)) {Q : Option Value → Heap → List Loc → Prop} {k n : Nat} (hk : cells ≤ k) (hn : slots ≤ n) (hQ : Q (some (.int (nar t z))) T.heap locs) :
    Goes p e below (Aim s Q k n) (T.setTop (mkF m pc Ls (.int z :: rest))) := by
  obtain ⟨fs, hr, hrun, hended, hW, hsame⟩ := X.leave (v := some (.int (nar t z))) (fun h => by rw [hret] at h; cases h) hlk
  exact ⟨_, _, Jvm.RoadKit.retN X hx hret ht hd hr, hrun, hended, _, _, rfl, hQ, ⟨_, rfl⟩, hW, hsame.mono hk hn⟩
theorem Goes.ret (X : Stand p l e R s m args below meth c T locs cells slots) (hx : p.tables.exec = Jvm.exec) (hlk : meth.locks = false) {t : FieldType} (hret : meth.sig.returnType = some t) {w : Value} (hnr : narrow t w = w) {i : Instr} {pc : Nat} {Ls : Array Slot} {rest : List Value}
    (hi : (i = .ireturn ∧ (t = .int ∨ t = .boolean ∨ t = .byte ∨ t = .char ∨ t = .short) ∧ ∃ z, w = .int z) ∨ (i = .lreturn ∧ t = .long ∧ ∃ z, w = .long z) ∨ (i = .dreturn ∧ t = .double ∧ ∃ z, w = .double z) ∨ (i = .freturn ∧ t = .float ∧ ∃ z, w = .float z) ∨ (i = .areturn ∧ t.isReference = true ∧ w.isRef = true))
    (hd : decode c.code pc = .ok (i, 1)) {Q : Option Value → Heap → List Loc → Prop} {k n : Nat} (hk : cells ≤ k) (hn : slots ≤ n) (hQ : Q (some w) T.heap locs) :
    Goes p e below (Aim s Q k n) (T.setTop (mkF m pc Ls (w :: rest))) := by
  obtain ⟨fs, hr, hrun, hended, hW, hsame⟩ := X.leave (v := some w) (fun h => by rw [hret] at h; cases h) hlk
  exact ⟨_, _, Jvm.RoadKit.retOut X hx hret hnr hi hd hr, hrun, hended, _, _, rfl, hQ, ⟨_, rfl⟩, hW, hsame.mono hk hn⟩
theorem Goes.ret0 (X : Stand p l e R s m args below meth c T locs cells slots) (hx : p.tables.exec = Jvm.exec) (hlk : meth.locks = false) (hret : meth.sig.returnType = none) {pc : Nat} {Ls : Array Slot}
    (hd : decode c.code pc = .ok (.return_, 1)) {Q : Option Value → Heap → List Loc → Prop} {k n : Nat} (hk : cells ≤ k) (hn : slots ≤ n) (hQ : Q none T.heap locs) :
    Goes p e below (Aim s Q k n) (T.setTop (mkF m pc Ls [])) := by
  obtain ⟨fs, hr, hrun, hended, hW, hsame⟩ := X.leave (v := none) (fun _ => rfl) hlk
  exact ⟨_, _, X.returnOut hx hret hd hr, hrun, hended, _, _, rfl, hQ, ⟨_, rfl⟩, hW, hsame.mono hk hn⟩
/-- a body's contract: called with these arguments over the heap h0 it returns, and Q says what it leaves -/
def Con (l : Launch) (Z : State) (y : MethodName) (bytes : ByteArray) (maxL : Nat) (ret : Option FieldType) (rm : Room) (as : Array Value) (h0 : Heap) (Q : Option Value → Heap → List Loc → Prop) : Prop :=
  ∀ ws : List Jvm.Cond, MetFree l y (head1 (Jvm.Cond.code y bytes maxL ret :: ws) rm) (fun a U => a = as ∧ Z.Warmed39 U.vm ∧ U.heap = h0) (fun _ _ _ _ _ => True) (fun _ U o U' => ∃ v L, o = .returned v ∧ Q v U'.heap L ∧ FrameEnd U o U' L rm.cells rm.slots)
theorem Con.body {y : MethodName} {bytes : ByteArray} {maxL : Nat} {ret : Option FieldType} {rm : Room} {as : Array Value} {h0 : Heap} {Q : Option Value → Heap → List Loc → Prop} (hp : plainFor y = true)
    (H : ∀ (p : Program) (e : Env) (s : State) (m : MethodId) (below : List Frame) (meth : Method) (c : Code) (s₁ : State), p.tables.exec = Jvm.exec → c.code = bytes → c.maxLocals = maxL → Z.Warmed39 s.vm → s.vm.findClass y.cls = some m.cls → meth.name = y.name → meth.sig.returnType = ret → meth.locks = false →
      Stand p l e rm s m as below meth c s₁ [] 0 0 → s₁.heap = h0 → Goes p e below (Aim s Q rm.cells rm.slots) (s₁.setTop (entryFrame m as maxL))) :
    Con l Z y bytes maxL ret rm as h0 Q := by
  intro ws
  refine MetFree.of_bodySF hp hisR ?_
  intro p e s m args below meth c s₁ Bd hml0 hP hK
  obtain ⟨rfl, hZ, hh⟩ := hP
  exact H p e s m below meth c s₁ Bd.exec Bd.bytes hml0 hZ (findClass_of_methodNamed Bd.named) (name_of_methodNamed Bd.named Bd.method).1 Bd.returns Bd.notSynchronized (Stand.of_body Bd) (by rw [← hh, Bd.state]; rfl)
theorem Goes.callS (X : Stand p l e R s m args below meth c T locs cells slots) (hx : p.tables.exec = Jvm.exec) (hZ : Z.Warmed39 s.vm) {own : String} {index : Nat} {y : MethodName} {bytes : ByteArray} {maxL : Nat} {ret : Option FieldType} {rm : Room} {as : List Value} {Q : Option Value → Heap → List Loc → Prop} (hown : s.vm.findClass own = some m.cls)
    (w1 : (Jvm.Cond.methodLink own index y).before a0 Z = true) (w2 : (Jvm.Cond.static y).before a0 Z = true) (w3 : (Jvm.Cond.initialized y.cls).before a0 Z = true) (w4 : (Jvm.Cond.code y bytes maxL ret).before a0 Z = true) (hy : y.cls ≠ "java/lang/invoke/MethodHandle" ∧ y.cls ≠ "java/lang/invoke/VarHandle")
    (eT : T.heap = h) (hM : Con l Z y bytes maxL ret rm as.toArray h Q) {W : Nat} (hf : rm.frames + 1 ≤ R.frames) (hl : W + (maxL + 11) + rm.locals ≤ R.locals) (hc : cells + rm.cells ≤ R.cells) (hs : slots + rm.slots ≤ R.slots)
    {g : JFrame} (hg : g.method = m) (hsize : g.locals.size = c.maxLocals) {rest : List Value} {ps : List FieldType} {r : Option FieldType} (hd : parseMethodDescriptor y.desc = some ⟨ps, r⟩) (hlen : as.length = ps.length) (hstack : g.stack = as.reverse ++ rest) (hW : 2 * g.monitorRoom + (rest.map fun v => v.category).sum ≤ W) (hdg : decode c.code g.pc = .ok (.invokestatic index, 3))
    {P : State → Outcome → Prop} (k : ∀ v T' L, Stand p l e R s m args below meth c T' (locs ++ L) (cells + rm.cells) (slots + rm.slots) → Q v T'.heap L → Goes p e below P (T'.setTop { g with pc := g.pc + 3, stack := v.toList ++ rest })) :
    Goes p e below P (T.setTop g) := by
  obtain ⟨v, vm₁, ⟨T', L', k', n'⟩, -, X', ⟨L, hQ, l', y', z'⟩, st⟩ := Jvm.LawKit.callS X hx hown (mvT hZ w1) (mvT hZ w2) (mvT hZ w3) (mvT hZ w4) hy (backOf (W := W) (hM []) hZ w4 w3 hf hl) (g := g) hg hsize (argsL := as) (rest := rest) (lenOf hd hlen) hstack hW hdg (fun _ _ => ⟨rfl, eT, hc, hs⟩)
  try dsimp only at X' hQ l' y' z' st
  subst l' y' z'
  exact Goes.step st (k v T' L X' hQ)
theorem Goes.callV (X : Stand p l e R s m args below meth c T locs cells slots) (hx : p.tables.exec = Jvm.exec) (hZ : Z.Warmed39 s.vm) {own C : String} {index : Nat} {y z : MethodName} {bytes : ByteArray} {maxL : Nat} {ret : Option FieldType} {rm : Room} {as : List Value} {Q : Option Value → Heap → List Loc → Prop} (hown : s.vm.findClass own = some m.cls)
    (w1 : (Jvm.Cond.methodLink own index y).before a0 Z = true) (w2 : (Jvm.Cond.declares y).before a0 Z = true) (hnf : NotFace s y) (w3 : (Jvm.Cond.selects C y z).before a0 Z = true) (w4 : (Jvm.Cond.instanceMethod z).before a0 Z = true) (w5 : (Jvm.Cond.code z bytes maxL ret).before a0 Z = true) (w6 : (Jvm.Cond.initialized z.cls).before a0 Z = true) (hy : y.cls ≠ "java/lang/invoke/MethodHandle" ∧ y.cls ≠ "java/lang/invoke/VarHandle")
    (eT : T.heap = h) {b : Addr} (E : Exa Z h b C) (hM : Con l Z z bytes maxL ret rm (.ref b :: as).toArray h Q) {W : Nat} (hf : rm.frames + 1 ≤ R.frames) (hl : W + (maxL + 11) + rm.locals ≤ R.locals) (hc : cells + rm.cells ≤ R.cells) (hs : slots + rm.slots ≤ R.slots)
    {g : JFrame} (hg : g.method = m) (hsize : g.locals.size = c.maxLocals) {rest : List Value} {ps : List FieldType} {r : Option FieldType} (hd : parseMethodDescriptor y.desc = some ⟨ps, r⟩) (hlen : as.length = ps.length) (hstack : g.stack = as.reverse ++ .ref b :: rest) (hW : 2 * g.monitorRoom + (rest.map fun v => v.category).sum ≤ W) (hdg : decode c.code g.pc = .ok (.invokevirtual index, 3))
    {P : State → Outcome → Prop} (k : ∀ v T' L, Stand p l e R s m args below meth c T' (locs ++ L) (cells + rm.cells) (slots + rm.slots) → Q v T'.heap L → Goes p e below P (T'.setTop { g with pc := g.pc + 3, stack := v.toList ++ rest })) :
    Goes p e below P (T.setTop g) := by
  obtain ⟨cB, kB, q1, -, q3⟩ := isOf hZ eT E
  obtain ⟨v, vm₁, ⟨T', L', k', n'⟩, -, X', ⟨L, hQ, l', y', z'⟩, st⟩ := X.virtualBack hx (y := y) (z := z) hown (mvT hZ w1) (mvT hZ w2) hnf (mvT hZ w3) (mvT hZ w4) hy (backOf (W := W) (hM []) hZ w5 w6 hf hl) q1 q3 (g := g) hg hsize (Steps.refl _) (argsL := as) (rest := rest) (lenOf hd hlen) hstack hW hdg (fun _ _ => ⟨rfl, eT, hc, hs⟩)
  try dsimp only at X' hQ l' y' z' st
  subst l' y' z'
  exact Goes.tr st (k v T' L X' hQ)
theorem Goes.callI (X : Stand p l e R s m args below meth c T locs cells slots) (hx : p.tables.exec = Jvm.exec) (hZ : Z.Warmed39 s.vm) {own : String} {index : Nat} {y : MethodName} {bytes : ByteArray} {maxL : Nat} {rm : Room} {as : List Value} {Q : Option Value → Heap → List Loc → Prop} (hy1 : y.name = "<init>") (hown : s.vm.findClass own = some m.cls)
    (w1 : (Jvm.Cond.methodLink own index y).before a0 Z = true) (w2 : (Jvm.Cond.instanceMethod y).before a0 Z = true) (w3 : (Jvm.Cond.code y bytes maxL none).before a0 Z = true) (w4 : (Jvm.Cond.initialized y.cls).before a0 Z = true) (hy : y.cls ≠ "java/lang/invoke/MethodHandle" ∧ y.cls ≠ "java/lang/invoke/VarHandle")
    (eT : T.heap = h) {b : Addr} (hM : Con l Z y bytes maxL none rm (.ref b :: as).toArray h Q) {W : Nat} (hf : rm.frames + 1 ≤ R.frames) (hl : W + (maxL + 11) + rm.locals ≤ R.locals) (hc : cells + rm.cells ≤ R.cells) (hs : slots + rm.slots ≤ R.slots)
    {g : JFrame} (hg : g.method = m) (hsize : g.locals.size = c.maxLocals) {rest : List Value} {ps : List FieldType} {r : Option FieldType} (hd : parseMethodDescriptor y.desc = some ⟨ps, r⟩) (hlen : as.length = ps.length) (hstack : g.stack = as.reverse ++ .ref b :: rest) (hW : 2 * g.monitorRoom + (rest.map fun v => v.category).sum ≤ W) (hdg : decode c.code g.pc = .ok (.invokespecial index, 3))
    {P : State → Outcome → Prop} (k : ∀ v T' L, Stand p l e R s m args below meth c T' (locs ++ L) (cells + rm.cells) (slots + rm.slots) → Q v T'.heap L → Goes p e below P (T'.setTop { g with pc := g.pc + 3, stack := v.toList ++ rest })) :
    Goes p e below P (T.setTop g) := by
  obtain ⟨v, vm₁, ⟨T', L', k', n'⟩, -, X', ⟨L, hQ, l', y', z'⟩, st⟩ := X.specialBack hx (y := y) hy1 hown (mvT hZ w1) (mvT hZ w2) (mvT hZ w3) hy (backOf (W := W) (hM []) hZ w3 w4 hf hl) (g := g) hg hsize (Steps.refl _) (a := b) (argsL := as) (rest := rest) (lenOf hd hlen) hstack hW hdg (fun _ _ => ⟨rfl, eT, hc, hs⟩)
  try dsimp only at X' hQ l' y' z' st
  subst l' y' z'
  exact Goes.tr st (k v T' L X' hQ)
theorem own_catR {v : Value} (h : v.isRef = true) : v.category = 1 := by
  cases v <;> first | rfl | cases h
theorem jlt {a b : Int64} : lcmpW a b < 0 ↔ a < b := by rw [lcW]; exact lc_lt a b
theorem jgt {a b : Int64} : 0 < lcmpW a b ↔ b < a := by rw [lcW]; exact lc_gt a b
theorem jeq {a b : Int64} : lcmpW a b = 0 ↔ a = b := by rw [lcW]; exact lc_eq a b
end Own
section OwnHeap
variable {p : Program} {l : Launch} {e : Env} {R : Room} {s : State} {m : MethodId} {args : Array Value} {below : List Frame} {meth : Method} {c : Code} {T : State} {locs : List Loc} {cells slots : Nat} {Z : State} {a0 : Array Value} {h h' : Heap} {a b : Addr} {ty : FieldType} {n : Nat} {f f' : Nat → Value} {sl : Nat} {v : Value} {ws : List Addr}
theorem own_ix {j : Int32} {i n : Nat} (hj : j.toInt = (i : Int)) (hi : i < n) : ¬ (j < 0 ∨ n ≤ j.toNatClampNeg) := by
  simp only [Int32.lt_iff_toInt_lt, Int32.toNatClampNeg, hj, Int32.reduceToInt]; omega
theorem own_ixn {j : Int32} {i : Nat} (hj : j.toInt = (i : Int)) : j.toNatClampNeg = i := by
  simp only [Int32.toNatClampNeg, hj]; omega
/-- the array at a holds n places, the i-th f i -/
def Afn (Z : State) (h : Heap) (a : Addr) (ty : FieldType) (n : Nat) (f : Nat → Value) : Prop :=
  ∃ c : Cell, Arr Z h a c ty ∧ c.slots.size = n ∧ n < 2 ^ 31 ∧ (∀ i, i < n → c.slots[i]? = some (f i)) ∧ ∀ i, i < n → fits ty (f i) = true
theorem Afn.lt (F : Afn Z h a ty n f) : a < h.size := by obtain ⟨c, A, -⟩ := F; exact A.lt
theorem Afn.ext (F : Afn Z h a ty n f) (E : Ext h h') : Afn Z h' a ty n f := by obtain ⟨c, A, r⟩ := F; exact ⟨c, A.ext E, r⟩
theorem Afn.other (F : Afn Z h b ty n f) (W : Wr h h' a sl v) (q : b ≠ a) : Afn Z h' b ty n f := by obtain ⟨c, A, r⟩ := F; exact ⟨c, A.other W q, r⟩
theorem Afn.keep (F : Afn Z h a ty n f) (K : Keep h h' ws) (q : a ∉ ws) : Afn Z h' a ty n f := by obtain ⟨c, A, r⟩ := F; exact ⟨c, ⟨K.2.1 a c A.1 q, A.2⟩, r⟩
theorem Afn.congr (F : Afn Z h a ty n f) (q : ∀ i, i < n → f i = f' i) : Afn Z h a ty n f' := by
  obtain ⟨c, A, S, B, H, G⟩ := F
  exact ⟨c, A, S, B, fun i hi => by rw [← q i hi]; exact H i hi, fun i hi => by rw [← q i hi]; exact G i hi⟩
theorem Afn.new {k : ClassId} {z : Int32} (A : Arr Z h a (newA k ty z) ty) (q : z.toInt = (n : Int)) : Afn Z h a ty n (fun _ => defaultValue ty) := by
  obtain ⟨c, A', -, S, q3, H, G⟩ := Arv.new A (by rw [Int32.lt_iff_toInt_lt, q]; simp only [Int32.reduceToInt]; omega)
  rw [own_ixn q] at S
  refine ⟨c, A', S, ?_, fun i hi => H i (by rw [S]; exact hi), fun i hi => G i (by rw [S]; exact hi)⟩
  have := z.toInt_lt
  omega
theorem Afn.set {i : Nat} (F : Afn Z h a ty n f) (W : Wr h h' a i v) (hv : fits ty v = true) : Afn Z h' a ty n (fun x => if x = i then v else f x) := by
  obtain ⟨c, A, S, B, H, G⟩ := F
  refine ⟨_, A.same W, by rw [sz_set]; exact S, B, fun x hx => ?_, fun x hx => ?_⟩
  · show _ = some (if x = i then v else f x)
    by_cases q : x = i
    · subst q
      rw [if_pos rfl]
      have hx' : x < c.slots.size := by rw [S]; exact hx
      simp [Cell.setSlot, hx']
    · rw [if_neg q, ← H x hx]
      exact Array.getElem?_setIfInBounds_ne (Ne.symm q)
  · by_cases q : x = i
    · simp only [q, if_true]; exact hv
    · simp only [if_neg q]; exact G x hx
theorem Goes.iastore (X : Stand p l e R s m args below meth c T locs cells slots) (hx : p.tables.exec = Jvm.exec) (hZ : Z.Warmed39 s.vm) (eT : T.heap = h) (A : Afn Z h a .int n f) {j : Int32} {i : Nat} (hj : j.toInt = (i : Int)) (hi : i < n) {x : Int32} {g : JFrame} (hg : g.method = m) {rest : List Value} (hs : g.stack = .int x :: .int j :: .ref a :: rest) (hd : decode c.code g.pc = .ok (.iastore, 1)) {P : State → Outcome → Prop}
    (k : ∀ T' h', Stand p l e R s m args below meth c T' (locs ++ [⟨a, i⟩]) cells slots → T'.heap = h' → Wr h h' a i (.int x) → Afn Z h' a .int n (fun z => if z = i then .int x else f z) → Goes p e below P (T'.setTop { g with pc := g.pc + 1, stack := rest })) : Goes p e below P (T.setTop g) := by
  obtain ⟨cl, A1, S, -⟩ := id A
  obtain ⟨T', h', X', e', W, st⟩ := stI X hx hZ eT A1 (j := j) (by rw [S]; exact own_ix hj hi) hg hs hd
  rw [own_ixn hj] at X' W
  exact Goes.step st (k T' h' X' e' W (A.set W rfl))
theorem Goes.lastore (X : Stand p l e R s m args below meth c T locs cells slots) (hx : p.tables.exec = Jvm.exec) (hZ : Z.Warmed39 s.vm) (eT : T.heap = h) (A : Afn Z h a .long n f) {j : Int32} {i : Nat} (hj : j.toInt = (i : Int)) (hi : i < n) {x : Int64} {g : JFrame} (hg : g.method = m) {rest : List Value} (hs : g.stack = .long x :: .int j :: .ref a :: rest) (hd : decode c.code g.pc = .ok (.lastore, 1)) {P : State → Outcome → Prop}
    (k : ∀ T' h', Stand p l e R s m args below meth c T' (locs ++ [⟨a, i⟩]) cells slots → T'.heap = h' → Wr h h' a i (.long x) → Afn Z h' a .long n (fun z => if z = i then .long x else f z) → Goes p e below P (T'.setTop { g with pc := g.pc + 1, stack := rest })) : Goes p e below P (T.setTop g) := by
  obtain ⟨cl, A1, S, -⟩ := id A
  obtain ⟨T', h', X', e', W, st⟩ := stJ X hx hZ eT A1 (j := j) (by rw [S]; exact own_ix hj hi) hg hs hd
  rw [own_ixn hj] at X' W
  exact Goes.step st (k T' h' X' e' W (A.set W rfl))
theorem Goes.bastore (X : Stand p l e R s m args below meth c T locs cells slots) (hx : p.tables.exec = Jvm.exec) (hZ : Z.Warmed39 s.vm) (eT : T.heap = h) (A : Afn Z h a .byte n f) {j : Int32} {i : Nat} (hj : j.toInt = (i : Int)) (hi : i < n) {x : Int32} {g : JFrame} (hg : g.method = m) {rest : List Value} (hs : g.stack = .int x :: .int j :: .ref a :: rest) (hd : decode c.code g.pc = .ok (.bastore, 1)) {P : State → Outcome → Prop}
    (k : ∀ T' h', Stand p l e R s m args below meth c T' (locs ++ [⟨a, i⟩]) cells slots → T'.heap = h' → Wr h h' a i (.int x.toInt8.toInt32) → Afn Z h' a .byte n (fun z => if z = i then .int x.toInt8.toInt32 else f z) → Goes p e below P (T'.setTop { g with pc := g.pc + 1, stack := rest })) : Goes p e below P (T.setTop g) := by
  obtain ⟨cl, A1, S, -⟩ := id A
  obtain ⟨T', h', X', e', W, st⟩ := stB X hx hZ eT A1 (j := j) (by rw [S]; exact own_ix hj hi) hg hs hd
  rw [own_ixn hj] at X' W
  exact Goes.step st (k T' h' X' e' W (A.set W (fits_nar_byte x)))
theorem Goes.castore (X : Stand p l e R s m args below meth c T locs cells slots) (hx : p.tables.exec = Jvm.exec) (hZ : Z.Warmed39 s.vm) (eT : T.heap = h) (A : Afn Z h a .char n f) {j : Int32} {i : Nat} (hj : j.toInt = (i : Int)) (hi : i < n) {x : Int32} {g : JFrame} (hg : g.method = m) {rest : List Value} (hs : g.stack = .int x :: .int j :: .ref a :: rest) (hd : decode c.code g.pc = .ok (.castore, 1)) {P : State → Outcome → Prop}
    (k : ∀ T' h', Stand p l e R s m args below meth c T' (locs ++ [⟨a, i⟩]) cells slots → T'.heap = h' → Wr h h' a i (.int (nar .char x)) → Afn Z h' a .char n (fun z => if z = i then .int (nar .char x) else f z) → Goes p e below P (T'.setTop { g with pc := g.pc + 1, stack := rest })) : Goes p e below P (T.setTop g) := by
  obtain ⟨cl, A1, S, -⟩ := id A
  obtain ⟨T', h', X', e', W, st⟩ := stC X hx hZ eT A1 (j := j) (by rw [S]; exact own_ix hj hi) hg hs hd
  rw [own_ixn hj] at X' W
  exact Goes.step st (k T' h' X' e' W (A.set W (fits_nar_char x)))
theorem Goes.iaload (X : Stand p l e R s m args below meth c T locs cells slots) (hx : p.tables.exec = Jvm.exec) (hZ : Z.Warmed39 s.vm) (eT : T.heap = h) (A : Afn Z h a .int n f) {j : Int32} {i : Nat} (hj : j.toInt = (i : Int)) (hi : i < n) (hv : f i = v) {g : JFrame} (hg : g.method = m) {rest : List Value} (hs : g.stack = .int j :: .ref a :: rest) (hd : decode c.code g.pc = .ok (.iaload, 1)) {P : State → Outcome → Prop}
    (k : Goes p e below P (T.setTop { g with pc := g.pc + 1, stack := v :: rest })) : Goes p e below P (T.setTop g) := by
  obtain ⟨cl, A1, S, B, H, G⟩ := A
  exact Goes.step (fun tgt q => X.iaload hx (j := j) (v := v) (by rw [eT]; exact A1.1) (State.isArrayOf_alike hZ.alike A1.2.1) A1.2.2 (by rw [S]; exact own_ix hj hi) (by rw [own_ixn hj, ← hv]; exact H i hi) hg hs hd tgt q) k
theorem Goes.laload (X : Stand p l e R s m args below meth c T locs cells slots) (hx : p.tables.exec = Jvm.exec) (hZ : Z.Warmed39 s.vm) (eT : T.heap = h) (A : Afn Z h a .long n f) {j : Int32} {i : Nat} (hj : j.toInt = (i : Int)) (hi : i < n) (hv : f i = v) {g : JFrame} (hg : g.method = m) {rest : List Value} (hs : g.stack = .int j :: .ref a :: rest) (hd : decode c.code g.pc = .ok (.laload, 1)) {P : State → Outcome → Prop}
    (k : Goes p e below P (T.setTop { g with pc := g.pc + 1, stack := v :: rest })) : Goes p e below P (T.setTop g) := by
  obtain ⟨cl, A1, S, B, H, G⟩ := A
  exact Goes.step (fun tgt q => X.laload hx (j := j) (v := v) (by rw [eT]; exact A1.1) (State.isArrayOf_alike hZ.alike A1.2.1) A1.2.2 (by rw [S]; exact own_ix hj hi) (by rw [own_ixn hj, ← hv]; exact H i hi) hg hs hd tgt q) k
theorem Goes.baload (X : Stand p l e R s m args below meth c T locs cells slots) (hx : p.tables.exec = Jvm.exec) (hZ : Z.Warmed39 s.vm) (eT : T.heap = h) (A : Afn Z h a .byte n f) {j : Int32} {i : Nat} (hj : j.toInt = (i : Int)) (hi : i < n) (hv : f i = v) {g : JFrame} (hg : g.method = m) {rest : List Value} (hs : g.stack = .int j :: .ref a :: rest) (hd : decode c.code g.pc = .ok (.baload, 1)) {P : State → Outcome → Prop}
    (k : Goes p e below P (T.setTop { g with pc := g.pc + 1, stack := v :: rest })) : Goes p e below P (T.setTop g) := by
  obtain ⟨cl, A1, S, B, H, G⟩ := A
  exact Goes.step (fun tgt q => X.baloadBytes hx (j := j) (v := v) (by rw [eT]; exact A1.1) (State.isArrayOf_alike hZ.alike A1.2.1) A1.2.2 (by rw [S]; exact own_ix hj hi) (by rw [own_ixn hj, ← hv]; exact H i hi) hg hs hd tgt q) k
theorem Goes.caload (X : Stand p l e R s m args below meth c T locs cells slots) (hx : p.tables.exec = Jvm.exec) (hZ : Z.Warmed39 s.vm) (eT : T.heap = h) (A : Afn Z h a .char n f) {j : Int32} {i : Nat} (hj : j.toInt = (i : Int)) (hi : i < n) (hv : f i = v) {g : JFrame} (hg : g.method = m) {rest : List Value} (hs : g.stack = .int j :: .ref a :: rest) (hd : decode c.code g.pc = .ok (.caload, 1)) {P : State → Outcome → Prop}
    (k : Goes p e below P (T.setTop { g with pc := g.pc + 1, stack := v :: rest })) : Goes p e below P (T.setTop g) := by
  obtain ⟨cl, A1, S, B, H, G⟩ := A
  exact Goes.step (fun tgt q => X.caload hx (j := j) (v := v) (by rw [eT]; exact A1.1) (State.isArrayOf_alike hZ.alike A1.2.1) A1.2.2 (by rw [S]; exact own_ix hj hi) (by rw [own_ixn hj, ← hv]; exact H i hi) hg hs hd tgt q) k
theorem Goes.aaload {C : FieldType} (X : Stand p l e R s m args below meth c T locs cells slots) (hx : p.tables.exec = Jvm.exec) (hZ : Z.Warmed39 s.vm) (eT : T.heap = h) (A : Afn Z h a C n f) (hC : C.isReference = true) {j : Int32} {i : Nat} (hj : j.toInt = (i : Int)) (hi : i < n) (hv : f i = v) {g : JFrame} (hg : g.method = m) {rest : List Value} (hs : g.stack = .int j :: .ref a :: rest) (hd : decode c.code g.pc = .ok (.aaload, 1)) {P : State → Outcome → Prop}
    (k : Goes p e below P (T.setTop { g with pc := g.pc + 1, stack := v :: rest })) : Goes p e below P (T.setTop g) := by
  obtain ⟨cl, A1, S, B, H, G⟩ := A
  exact Goes.step (fun tgt q => X.aaload hx (j := j) (v := v) (by rw [eT]; exact A1.1) (State.isArrayOf_alike hZ.alike A1.2.1) hC A1.2.2 (by rw [S]; exact own_ix hj hi) (by rw [own_ixn hj, ← hv]; exact H i hi) hg hs hd tgt q) k
theorem Goes.alen (X : Stand p l e R s m args below meth c T locs cells slots) (hx : p.tables.exec = Jvm.exec) (hZ : Z.Warmed39 s.vm) (eT : T.heap = h) (A : Afn Z h a ty n f) {z : Int32} (hz : z.toInt = (n : Int)) {g : JFrame} (hg : g.method = m) {rest : List Value} (hs : g.stack = .ref a :: rest) (hd : decode c.code g.pc = .ok (.arraylength, 1)) {P : State → Outcome → Prop}
    (k : Goes p e below P (T.setTop { g with pc := g.pc + 1, stack := .int z :: rest })) : Goes p e below P (T.setTop g) := by
  obtain ⟨cl, A1, S, B, H, G⟩ := A
  have q : cl.slots.size.toInt32 = z := by rw [S, ← Int32.toInt_inj, hz]; exact len_toInt B
  exact Goes.step (fun tgt r => X.arraylength hx (by rw [eT]; exact A1.1) (State.isArrayOf_alike hZ.alike A1.2.1) hg hs hd tgt (by rw [q]; exact r)) k
theorem Goes.clone (X : Stand p l e R s m args below meth c T locs cells slots) (hx : p.tables.exec = Jvm.exec) (hZ : Z.Warmed39 s.vm) {own ad : String} {index : Nat} (hown : s.vm.findClass own = some m.cls)
    (w1 : (Jvm.Cond.methodLink own index ⟨ad, "clone", "()Ljava/lang/Object;"⟩).before a0 Z = true) (w2 : (Jvm.Cond.sameMethod ad "java/lang/Object" "clone" "()Ljava/lang/Object;").before a0 Z = true) (w3 : (Jvm.Cond.native ⟨"java/lang/Object", "clone", "()Ljava/lang/Object;"⟩).before a0 Z = true)
    (w4 : (Jvm.Cond.instanceMethod ⟨"java/lang/Object", "clone", "()Ljava/lang/Object;"⟩).before a0 Z = true) (w5 : (Jvm.Cond.selects ad ⟨ad, "clone", "()Ljava/lang/Object;"⟩ ⟨"java/lang/Object", "clone", "()Ljava/lang/Object;"⟩).before a0 Z = true) (w6 : (Jvm.Cond.castable ad "java/lang/Cloneable").before a0 Z = true)
    (eT : T.heap = h) (A : Afn Z h a ty n f) (E : Exa Z h a ad) {g : JFrame} (hg : g.method = m) (hsize : g.locals.size = c.maxLocals) {rest : List Value} (hs : g.stack = .ref a :: rest) (hd : decode c.code g.pc = .ok (.invokevirtual index, 3))
    (hf : 1 ≤ R.frames) {W cap : Nat} (hW : 2 * g.monitorRoom + (rest.map fun v => v.category).sum ≤ W) (hl : W + 14 ≤ R.locals) (hcap : n ≤ cap) (hc : cells + 1 ≤ R.cells) (hsl : slots + cap ≤ R.slots) {P : State → Outcome → Prop}
    (k : ∀ T' h' b, b = h.size → Stand p l e R s m args below meth c T' locs (cells + 1) (slots + cap) → T'.heap = h' → Ext h h' → Afn Z h' b ty n f → Exa Z h' b ad → Goes p e below P (T'.setTop { g with pc := g.pc + 3, stack := .ref b :: rest })) : Goes p e below P (T.setTop g) := by
  obtain ⟨cl, A1, S, B, H, G⟩ := id A
  have FC : FitC Z cl := fitC_of A1 fun i hi v hv => by
    rw [S] at hi
    rw [H i hi] at hv
    cases hv
    exact G i hi
  obtain ⟨T', h', X', e', ex, A', E', st⟩ := cloneA X hx hZ hown w1 w2 w3 w4 w5 w6 eT A1 E FC hg hsize hs hd hf hW hl (by rw [S]; exact hcap) hc hsl
  exact Goes.step st (k T' h' _ rfl X' e' ex ⟨cloneOf cl, A', S, B, H, G⟩ E')
theorem Goes.callP (X : Stand p l e R s m args below meth c T locs cells slots) (hx : p.tables.exec = Jvm.exec) (hZ : Z.Warmed39 s.vm) {own C0 C1 : String} {index : Nat} {y z : MethodName} {bytes : ByteArray} {maxL : Nat} {ret : Option FieldType} {rm : Room} {as : List Value} {Q : Option Value → Heap → List Loc → Prop} (hown : s.vm.findClass own = some m.cls)
    (w1 : (Jvm.Cond.methodLink own index y).before a0 Z = true) (w2 : (Jvm.Cond.instanceMethod y).before a0 Z = true) (w3 : (Jvm.Cond.privateMethod y).before a0 Z = true) (w4 : (Jvm.Cond.selects C0 z z).before a0 Z = true) (hz : z.cls = y.cls) (w5 : (Jvm.Cond.code y bytes maxL ret).before a0 Z = true) (w6 : (Jvm.Cond.initialized y.cls).before a0 Z = true) (hy : y.cls ≠ "java/lang/invoke/MethodHandle" ∧ y.cls ≠ "java/lang/invoke/VarHandle")
    (eT : T.heap = h) {b : Addr} (E : Exa Z h b C1) (hM : Con l Z y bytes maxL ret rm (.ref b :: as).toArray h Q) {W : Nat} (hf : rm.frames + 1 ≤ R.frames) (hl : W + (maxL + 11) + rm.locals ≤ R.locals) (hc : cells + rm.cells ≤ R.cells) (hs : slots + rm.slots ≤ R.slots)
    {g : JFrame} (hg : g.method = m) (hsize : g.locals.size = c.maxLocals) {rest : List Value} {ps : List FieldType} {r : Option FieldType} (hd : parseMethodDescriptor y.desc = some ⟨ps, r⟩) (hlen : as.length = ps.length) (hstack : g.stack = as.reverse ++ .ref b :: rest) (hW : 2 * g.monitorRoom + (rest.map fun v => v.category).sum ≤ W) (hdg : decode c.code g.pc = .ok (.invokevirtual index, 3))
    {P : State → Outcome → Prop} (k : ∀ v T' L, Stand p l e R s m args below meth c T' (locs ++ L) (cells + rm.cells) (slots + rm.slots) → Q v T'.heap L → Goes p e below P (T'.setTop { g with pc := g.pc + 3, stack := v.toList ++ rest })) :
    Goes p e below P (T.setTop g) := by
  have hpr := Cond.privateMethod_at (mvP hZ w3 (args := args))
  have hsel : (Jvm.Cond.selects y.cls y y).before args s = true := by
    obtain ⟨c2, r2, m2, -, -, q3, -, kP, hkP, hkPi⟩ := Cond.selects_spec (mvT (args := args) hZ w4)
    exact selects_self_of_private (hz ▸ findClass_of_methodNamed q3) hkP hkPi hpr (mvT hZ w2) hy
  obtain ⟨cell, hcell, hobj⟩ := E.cell
  obtain ⟨v, vm₁, ⟨T', L', k', n'⟩, -, X', ⟨L, hQ, l', y', z'⟩, st⟩ := X.privateBack hx (y := y) hown (mvT hZ w1) (mvT hZ w2) hsel hpr (mvT hZ w5) hy (backOf (W := W) (hM []) hZ w5 w6 hf hl) (g := g) hg hsize (Steps.refl _) (a := b) (by rw [eT]; exact hcell) hobj (argsL := as) (rest := rest) (lenOf hd hlen) hstack hW hdg (fun _ _ => ⟨rfl, eT, hc, hs⟩)
  try dsimp only at X' hQ l' y' z' st
  subst l' y' z'
  exact Goes.tr st (k v T' L X' hQ)
theorem Afn.of_arv {k : ClassId} {z : Int32} {vs : List Value} {d : Value} (F : Arv Z h a k ty z vs d) (q : z.toInt = (n : Int)) : Afn Z h a ty n (fun i => vs.getD i d) := by
  obtain ⟨c, A', -, S, q3, H, G⟩ := F
  rw [own_ixn q] at S
  refine ⟨c, A', S, ?_, fun i hi => H i (by rw [S]; exact hi), fun i hi => G i (by rw [S]; exact hi)⟩
  have := z.toInt_lt
  omega
theorem Afn.to_arv {z : Int32} {d : Value} (F : Afn Z h a ty n f) (q : z.toInt = (n : Int)) : ∃ k, Arv Z h a k ty z ((List.range n).map f) d := by
  obtain ⟨c, A, S, B, H, G⟩ := F
  have e : ∀ i, i < n → ((List.range n).map f).getD i d = f i := fun i hi => by simp [List.getD_eq_getElem?_getD, hi]
  refine ⟨c.cls, c, A, rfl, by rw [S, own_ixn q], by rw [Int32.lt_iff_toInt_lt, q]; simp only [Int32.reduceToInt]; omega, fun i hi => ?_, fun i hi => ?_⟩
  · rw [e i (S ▸ hi)]; exact H i (S ▸ hi)
  · rw [e i (S ▸ hi)]; exact G i (S ▸ hi)
theorem own_cp {n n' sp dp nn : Nat} {f g : Nat → Value} {d d' : Value} (h1 : sp + nn ≤ n) (h2 : dp + nn ≤ n') : ∀ i, i < n' →
    (((List.range n').map g).take dp ++ (List.range nn).map (fun i => ((List.range n).map f).getD (sp + i) d) ++ ((List.range n').map g).drop (dp + nn)).getD i d' = if dp ≤ i ∧ i < dp + nn then f (sp + (i - dp)) else g i := fun i hi => by
  have e : ∀ j, j < nn → ((List.range n).map f).getD (sp + j) d = f (sp + j) := fun j hj => by
    have hh : sp + j < n := by omega
    simp [List.getD_eq_getElem?_getD, hh]
  rw [List.getD_eq_getElem?_getD]
  by_cases q1 : i < dp
  · have q2 : ¬ (dp ≤ i ∧ i < dp + nn) := by omega
    rw [if_neg q2, List.append_assoc, List.getElem?_append_left (by simp; omega)]
    simp [List.getElem?_take, q1, hi]
  · by_cases q2 : i < dp + nn
    · rw [if_pos ⟨by omega, q2⟩, List.getElem?_append_left (by simp; omega), List.getElem?_append_right (by simp; omega)]
      have hl : (((List.range n').map g).take dp).length = dp := by simp; omega
      rw [hl, List.getElem?_map, List.getElem?_range (by omega : i - dp < nn)]
      simp only [Option.map_some, Option.getD_some]
      exact e _ (by omega)
    · rw [if_neg (by omega), List.getElem?_append_right (by simp; omega)]
      have hl : (((List.range n').map g).take dp ++ (List.range nn).map (fun i => ((List.range n).map f).getD (sp + i) d)).length = dp + nn := by simp; omega
      rw [hl, List.getElem?_drop, show dp + nn + (i - (dp + nn)) = i from by omega]
      simp [hi]
/-- System.arraycopy between two arrays of one primitive kind -/
theorem Goes.acopy {n' sp dp nn : Nat} {g' : Nat → Value} {z z' zs zd zn : Int32} (X : Stand p l e R s m args below meth c T locs cells slots) (hx : p.tables.exec = Jvm.exec) (hZ : Z.Warmed39 s.vm) {own : String} {index : Nat} (hown : s.vm.findClass own = some m.cls)
    (w1 : (Jvm.Cond.methodLink own index Jvm.Stand.acN).before a0 Z = true) (w2 : (Jvm.Cond.native Jvm.Stand.acN).before a0 Z = true) (w3 : (Jvm.Cond.static Jvm.Stand.acN).before a0 Z = true) (w4 : (Jvm.Cond.initialized "java/lang/System").before a0 Z = true) (eT : T.heap = h)
    (A : Afn Z h a ty n f) (B : Afn Z h b ty n' g') (hty : refKind ty = false) (hz : z.toInt = (n : Int)) (hz' : z'.toInt = (n' : Int)) (hzs : zs.toInt = (sp : Int)) (hzd : zd.toInt = (dp : Int)) (hzn : zn.toInt = (nn : Int)) (h4 : sp + nn ≤ n) (h5 : dp + nn ≤ n') {n0 : Nat} (N : Fr n0 locs) (ge : n0 ≤ b)
    {g : JFrame} (hg : g.method = m) (hsize : g.locals.size = c.maxLocals) {rest : List Value} (hs : g.stack = .int zn :: .int zd :: .ref b :: .int zs :: .ref a :: rest) (hd : decode c.code g.pc = .ok (.invokestatic index, 3))
    (hf : 1 ≤ R.frames) {W : Nat} (hW : 2 * g.monitorRoom + (rest.map fun v => v.category).sum ≤ W) (hlo : W + (nativeFrameWords "java/lang/System" "arraycopy" 5 + 11) ≤ R.locals) {P : State → Outcome → Prop}
    (k : ∀ T' h' L, Stand p l e R s m args below meth c T' L cells slots → T'.heap = h' → Fr n0 L → Keep h h' [b] → Afn Z h' b ty n' (fun i => if dp ≤ i ∧ i < dp + nn then f (sp + (i - dp)) else g' i) → Goes p e below P (T'.setTop { g with pc := g.pc + 3, stack := rest })) : Goes p e below P (T.setTop g) := by
  have ng : ∀ {x : Int32} {i : Nat}, x.toInt = (i : Int) → ¬ x < 0 := fun {x i} q => by rw [Int32.lt_iff_toInt_lt, q]; simp only [Int32.reduceToInt]; omega
  obtain ⟨k1, A'⟩ := A.to_arv (d := .null) hz
  obtain ⟨k2, B'⟩ := B.to_arv (d := .null) hz'
  obtain ⟨T', h', L, X', e', N', K, C, st⟩ := cpA X hx hZ hown w1 w2 w3 w4 eT A' B' (Or.inl ⟨rfl, hty⟩) (sp := zs) (dp := zd) (nn := zn) (ng hzs) (ng hzd) (ng hzn) (by rw [own_ixn hz, own_ixn hzs, own_ixn hzn]; exact h4) (by rw [own_ixn hz', own_ixn hzd, own_ixn hzn]; exact h5) rfl (by simp [own_ixn hzd, own_ixn hzn]; exact h5) N ge hg hsize hs hd hf hW hlo
  rw [own_ixn hzd, own_ixn hzn, own_ixn hzs] at C
  exact Goes.step st (k T' h' L X' e' N' K ((Afn.of_arv C hz').congr (own_cp h4 h5)))
theorem own_len {t : Term} {cl : Cell} {z : Int32} (ev : t.eval args Z none [] Z = some (.ref a)) (ha : Z.arrayAt? a = some cl) (q : (Term.length t).eval args Z none [] Z = some (.int z)) : cl.slots.size < 2 ^ 31 ∧ cl.slots.size.toInt32 = z := by
  by_cases hl : cl.slots.size < 2 ^ 31
  · rw [len_f ev ha hl] at q
    exact ⟨hl, Value.int.inj (Option.some.inj q)⟩
  · simp [Term.eval, ev, ha, hl] at q
theorem own_eqR {t u : Term} (hb : u.eval args Z none [] Z = some (.ref a)) (q : (Jvm.Cond.eq t u).value args Z none Z [] = some true) : t.eval args Z none [] Z = some (.ref a) := by
  obtain ⟨x, y, e1, e2, k1, k2⟩ := cmp_v (Or.inl q)
  cases hb.symm.trans e2
  have hx : x.isRef = true := k2.2
  have hh := gotT (eq_R e1 e2 hx rfl) q
  rw [e1, hh]
end OwnHeap
theorem own_d3_0 : decode prog_28_method_1_code 0 = .ok (.getstatic 10, 3) := by decide +kernel
theorem own_d3_3 : decode prog_28_method_1_code 3 = .ok (.invokevirtual 14, 3) := by decide +kernel
theorem own_d3_6 : decode prog_28_method_1_code 6 = .ok (.checkcast 15, 3) := by decide +kernel
theorem own_d3_9 : decode prog_28_method_1_code 9 = .ok (.areturn, 1) := by decide +kernel
theorem own_d2_0 : decode prog_28_method_5_code 0 = .ok (.invokestatic 43, 3) := by decide +kernel
theorem own_d2_3 : decode prog_28_method_5_code 3 = .ok (.astore_n 1, 1) := by decide +kernel
theorem own_d2_4 : decode prog_28_method_5_code 4 = .ok (.aload_n 1, 1) := by decide +kernel
theorem own_d2_5 : decode prog_28_method_5_code 5 = .ok (.arraylength, 1) := by decide +kernel
theorem own_d2_6 : decode prog_28_method_5_code 6 = .ok (.istore_n 2, 1) := by decide +kernel
theorem own_d2_7 : decode prog_28_method_5_code 7 = .ok (.iconst 0, 1) := by decide +kernel
theorem own_d2_8 : decode prog_28_method_5_code 8 = .ok (.istore_n 3, 1) := by decide +kernel
theorem own_d2_9 : decode prog_28_method_5_code 9 = .ok (.iload_n 3, 1) := by decide +kernel
theorem own_d2_10 : decode prog_28_method_5_code 10 = .ok (.iload_n 2, 1) := by decide +kernel
theorem own_d2_11 : decode prog_28_method_5_code 11 = .ok (.if_icmp .ge 26, 3) := by decide +kernel
theorem own_d2_14 : decode prog_28_method_5_code 14 = .ok (.aload_n 1, 1) := by decide +kernel
theorem own_d2_15 : decode prog_28_method_5_code 15 = .ok (.iload_n 3, 1) := by decide +kernel
theorem own_d2_16 : decode prog_28_method_5_code 16 = .ok (.aaload, 1) := by decide +kernel
theorem own_d2_17 : decode prog_28_method_5_code 17 = .ok (.astore 4, 2) := by decide +kernel
theorem own_d2_19 : decode prog_28_method_5_code 19 = .ok (.aload 4, 2) := by decide +kernel
theorem own_d2_21 : decode prog_28_method_5_code 21 = .ok (.getfield 29, 3) := by decide +kernel
theorem own_d2_24 : decode prog_28_method_5_code 24 = .ok (.iload_n 0, 1) := by decide +kernel
theorem own_d2_25 : decode prog_28_method_5_code 25 = .ok (.if_icmp .ne 6, 3) := by decide +kernel
theorem own_d2_28 : decode prog_28_method_5_code 28 = .ok (.aload 4, 2) := by decide +kernel
theorem own_d2_30 : decode prog_28_method_5_code 30 = .ok (.areturn, 1) := by decide +kernel
theorem own_d2_31 : decode prog_28_method_5_code 31 = .ok (.iinc 3 1, 3) := by decide +kernel
theorem own_d2_34 : decode prog_28_method_5_code 34 = .ok (.goto (-25), 3) := by decide +kernel
theorem own_d2_37 : decode prog_28_method_5_code 37 = .ok (.aconst_null, 1) := by decide +kernel
theorem own_d2_38 : decode prog_28_method_5_code 38 = .ok (.areturn, 1) := by decide +kernel
theorem own_d4_0 : decode method_2_code 0 = .ok (.iload_n 0, 1) := by decide +kernel
theorem own_d4_1 : decode method_2_code 1 = .ok (.iconst 1, 1) := by decide +kernel
theorem own_d4_2 : decode method_2_code 2 = .ok (.if_icmp .ne 7, 3) := by decide +kernel
theorem own_d4_5 : decode method_2_code 5 = .ok (.getstatic 7, 3) := by decide +kernel
theorem own_d4_8 : decode method_2_code 8 = .ok (.areturn, 1) := by decide +kernel
theorem own_d4_9 : decode method_2_code 9 = .ok (.iload_n 0, 1) := by decide +kernel
theorem own_d4_10 : decode method_2_code 10 = .ok (.iconst 2, 1) := by decide +kernel
theorem own_d4_11 : decode method_2_code 11 = .ok (.if_icmp .ne 7, 3) := by decide +kernel
theorem own_d4_14 : decode method_2_code 14 = .ok (.getstatic 13, 3) := by decide +kernel
theorem own_d4_17 : decode method_2_code 17 = .ok (.areturn, 1) := by decide +kernel
theorem own_d4_18 : decode method_2_code 18 = .ok (.aconst_null, 1) := by decide +kernel
theorem own_d4_19 : decode method_2_code 19 = .ok (.areturn, 1) := by decide +kernel
theorem own_d5_0 : decode prog_28_method_4_code 0 = .ok (.aload_n 0, 1) := by decide +kernel
theorem own_d5_1 : decode prog_28_method_4_code 1 = .ok (.getfield 29, 3) := by decide +kernel
theorem own_d5_4 : decode prog_28_method_4_code 4 = .ok (.ireturn, 1) := by decide +kernel
theorem own_d1_0 : decode method_3_code 0 = .ok (.iload_n 0, 1) := by decide +kernel
theorem own_d1_1 : decode method_3_code 1 = .ok (.invokestatic 16, 3) := by decide +kernel
theorem own_d1_4 : decode method_3_code 4 = .ok (.astore_n 1, 1) := by decide +kernel
theorem own_d1_5 : decode method_3_code 5 = .ok (.aload_n 1, 1) := by decide +kernel
theorem own_d1_6 : decode method_3_code 6 = .ok (.iload_n 0, 1) := by decide +kernel
theorem own_d1_7 : decode method_3_code 7 = .ok (.invokestatic 20, 3) := by decide +kernel
theorem own_d1_10 : decode method_3_code 10 = .ok (.if_acmp .eq 5, 3) := by decide +kernel
theorem own_d1_15 : decode method_3_code 15 = .ok (.aload_n 1, 1) := by decide +kernel
theorem own_d1_16 : decode method_3_code 16 = .ok (.ifnull 13, 3) := by decide +kernel
theorem own_d1_19 : decode method_3_code 19 = .ok (.aload_n 1, 1) := by decide +kernel
theorem own_d1_20 : decode method_3_code 20 = .ok (.invokevirtual 25, 3) := by decide +kernel
theorem own_d1_23 : decode method_3_code 23 = .ok (.iload_n 0, 1) := by decide +kernel
theorem own_d1_24 : decode method_3_code 24 = .ok (.if_icmp .eq 5, 3) := by decide +kernel
theorem own_d1_29 : decode method_3_code 29 = .ok (.iconst 1, 1) := by decide +kernel
theorem own_d1_30 : decode method_3_code 30 = .ok (.ireturn, 1) := by decide +kernel
theorem own_pd0 : parseMethodDescriptor "()[Lcom/example/bellbird/bellbird/events/BodyCipher;" = some ⟨[], some (.array (.object "com/example/bellbird/bellbird/events/BodyCipher"))⟩ := by decide +kernel
theorem own_pd1 : parseMethodDescriptor "(I)Lcom/example/bellbird/bellbird/events/BodyCipher;" = some ⟨[.int], some (.object "com/example/bellbird/bellbird/events/BodyCipher")⟩ := by decide +kernel
theorem own_pd2 : parseMethodDescriptor "()I" = some ⟨[], some .int⟩ := by decide +kernel
theorem own_pd3 : parseMethodDescriptor "(I)Z" = some ⟨[.int], some .boolean⟩ := by decide +kernel
theorem own_pn0 : plainName "com/example/bellbird/bellbird/events/BodyCipher" = true := by first | (simp [plainName, overriddenIn]; done) | decide +kernel
theorem own_pn1 : plainName "com/example/bellbird/bellbird/events/BodyCipherOfPinLaw" = true := by first | (simp [plainName, overriddenIn]; done) | decide +kernel
def own_of (p : Int32) (w1 w2 : Addr) : Value := if (1 : Int32) = p then .ref w1 else if (2 : Int32) = p then .ref w2 else .null
def own_ex (p : Int32) (w1 w2 : Addr) : Value := if p = (1 : Int32) then .ref w1 else if p = (2 : Int32) then .ref w2 else .null
set_option maxRecDepth 65536 in
set_option maxHeartbeats 40000000 in
theorem rmV (l : Launch) (Z : State) (a0 : Array Value) (hw : ∀ d ∈ tables_1, d.before a0 Z = true) (wv : Addr) (h0 : Heap) (n0 : Nat) (Z0 : n0 ≤ h0.size) (Sv : Sta Z Z.heap "com/example/bellbird/bellbird/events/BodyCipher" "$VALUES" "[Lcom/example/bellbird/bellbird/events/BodyCipher;" (.ref wv)) (f : Nat → Value) (Av : Afn Z h0 wv (.object "com/example/bellbird/bellbird/events/BodyCipher") 2 f) (Ev : Exa Z h0 wv "[Lcom/example/bellbird/bellbird/events/BodyCipher;") (O0 : Old Z n0 h0) :
    Con l Z (⟨"com/example/bellbird/bellbird/events/BodyCipher", "values", "()[Lcom/example/bellbird/bellbird/events/BodyCipher;"⟩ : MethodName) prog_28_method_1_code 0 (some (.array (.object "com/example/bellbird/bellbird/events/BodyCipher"))) ({ frames := 1, cells := 1, slots := 2, locals := 14 } : Room) #[] h0 (fun v h L => ∃ x, v = some (.ref x) ∧ Fr n0 L ∧ Ext h0 h ∧ h0.size ≤ x ∧ Afn Z h x (.object "com/example/bellbird/bellbird/events/BodyCipher") 2 f) := by
  refine Con.body (plainFor_of_name own_pn0) ?_
  intro pP eE sS mM bB mT cC s₁ hx hby hml hZ hown hnm hret hlk X0 e0
  have hown : sS.vm.findClass "com/example/bellbird/bellbird/events/BodyCipher" = some mM.cls := hown
  have hml : cC.maxLocals = 0 := hml
  have N0 := Fr.nil n0
  have ef : entryFrame mM #[] 0 = mkF mM 0 #[] [] := by first | (simp [entryFrame, mkF, argsToLocals, Value.category]; done) | rfl
  rw [ef]
  show Goes pP eE bB _ (s₁.setTop (mkF mM 0 #[] []))
  obtain ⟨T_1, X_1, e_1, st_1⟩ := getS2 X0 hx hZ hown (host := "") (Or.inl (hw _ (List.mem_of_getElem? (i := 11) rfl))) Via.refl e0 (Sv.ext O0.2) (g := (mkF mM 0 #[] [])) rfl (hb hby own_d3_0)
  refine Goes.step st_1 ?_
  show Goes pP eE bB _ (T_1.setTop (mkF mM 3 #[] [(.ref wv)]))
  refine Goes.clone X_1 hx hZ hown (hw _ (List.mem_of_getElem? (i := 13) rfl)) (hw _ (List.mem_of_getElem? (i := 14) rfl)) (hw _ (List.mem_of_getElem? (i := 18) rfl)) (hw _ (List.mem_of_getElem? (i := 16) rfl)) (hw _ (List.mem_of_getElem? (i := 17) rfl)) (hw _ (List.mem_of_getElem? (i := 19) rfl)) e_1 Av Ev (g := (mkF mM 3 #[] [(.ref wv)])) rfl (by rw [hml]; rfl) rfl (hb hby own_d3_3) (by decide) (W := 0) (cap := 2) (by show 2 * 0 + _ ≤ _; exact Nat.le_of_eq rfl) (by decide) (by decide) (by decide) (by decide) ?_
  intro T_2 h_2 b_2 g_2 X_2 e_2 E_2 A_2 M_2
  have u_3 : wv < b_2 := Nat.lt_of_lt_of_le (Av).lt (Nat.le_of_eq g_2.symm)
  have u_4 : n0 ≤ b_2 := Nat.le_trans Z0 (Nat.le_of_eq g_2.symm)
  show Goes pP eE bB _ (T_2.setTop (mkF mM 6 #[] [(.ref b_2)]))
  obtain ⟨T_5, X_5, e_5, st_5⟩ := castY X_2 hx hZ hown (hw _ (List.mem_of_getElem? (i := 23) rfl)) e_2 (Ins.self M_2) (g := (mkF mM 6 #[] [(.ref b_2)])) rfl rfl (hb hby own_d3_6)
  refine Goes.step st_5 ?_
  show Goes pP eE bB _ (T_5.setTop (mkF mM 9 #[] [(.ref b_2)]))
  refine Goes.ret X_5 hx hlk hret rfl (Or.inr (Or.inr (Or.inr (Or.inr ⟨rfl, rfl, rfl⟩)))) (hb hby own_d3_9) (by decide) (by decide) ?_
  exact ⟨_, rfl, N0, by rw [e_5]; exact E_2, Nat.le_of_eq g_2.symm, by rw [e_5]; exact A_2⟩
set_option maxRecDepth 65536 in
set_option maxHeartbeats 40000000 in
theorem rmO (l : Launch) (Z : State) (a0 : Array Value) (hw : ∀ d ∈ tables_1, d.before a0 Z = true) (p1 : Int32) (wv w1 w2 : Addr) (h0 : Heap) (n0 : Nat) (Z0 : n0 ≤ h0.size) (Sv : Sta Z Z.heap "com/example/bellbird/bellbird/events/BodyCipher" "$VALUES" "[Lcom/example/bellbird/bellbird/events/BodyCipher;" (.ref wv)) (f : Nat → Value) (Av : Afn Z h0 wv (.object "com/example/bellbird/bellbird/events/BodyCipher") 2 f) (Ev : Exa Z h0 wv "[Lcom/example/bellbird/bellbird/events/BodyCipher;") (O0 : Old Z n0 h0) (hf0 : f 0 = .ref w1) (hf1 : f 1 = .ref w2) (F1 : Fld Z h0 w1 "com/example/bellbird/bellbird/events/BodyCipher" "code" "I" (.int (1 : Int32))) (F2 : Fld Z h0 w2 "com/example/bellbird/bellbird/events/BodyCipher" "code" "I" (.int (2 : Int32))) :
    Con l Z (⟨"com/example/bellbird/bellbird/events/BodyCipher", "of", "(I)Lcom/example/bellbird/bellbird/events/BodyCipher;"⟩ : MethodName) prog_28_method_5_code 5 (some (.object "com/example/bellbird/bellbird/events/BodyCipher")) ({ frames := 2, cells := 1, slots := 2, locals := 25 } : Room) #[(.int p1)] h0 (fun v h L => v = some (own_of p1 w1 w2) ∧ Fr n0 L ∧ Ext h0 h) := by
  refine Con.body (plainFor_of_name own_pn0) ?_
  intro pP eE sS mM bB mT cC s₁ hx hby hml hZ hown hnm hret hlk X0 e0
  have hown : sS.vm.findClass "com/example/bellbird/bellbird/events/BodyCipher" = some mM.cls := hown
  have hml : cC.maxLocals = 5 := hml
  have N0 := Fr.nil n0
  have ef : entryFrame mM #[(.int p1)] 5 = mkF mM 0 #[.val (.int p1), .unset, .unset, .unset, .unset] [] := by first | (simp [entryFrame, mkF, argsToLocals, Value.category]; done) | rfl
  rw [ef]
  show Goes pP eE bB _ (s₁.setTop (mkF mM 0 #[.val (.int p1), .unset, .unset, .unset, .unset] []))
  refine Goes.callS X0 hx hZ hown (hw _ (List.mem_of_getElem? (i := 8) rfl)) (hw _ (List.mem_of_getElem? (i := 9) rfl)) (hw _ (List.mem_of_getElem? (i := 6) rfl)) (hw _ (List.mem_of_getElem? (i := 10) rfl)) (by decide) e0 (rmV l Z a0 hw wv h0 n0 Z0 Sv f Av Ev O0) (W := 0) (by decide) (by decide) (by decide) (by decide) (g := (mkF mM 0 #[.val (.int p1), .unset, .unset, .unset, .unset] [])) rfl (by rw [hml]; rfl) (rest := []) own_pd0 rfl rfl (by show 2 * 0 + _ ≤ _; exact Nat.le_of_eq rfl) (hb hby own_d2_0) ?_
  intro v_1 T_1 L_1 X_1 hQ_1
  generalize e_1 : T_1.heap = h_1 at hQ_1
  obtain ⟨c_1, rfl, N_1q, E_1, s_1, A_1⟩ := hQ_1
  have N_1 := Fr.app N0 N_1q
  show Goes pP eE bB _ (T_1.setTop (mkF mM 3 #[.val (.int p1), .unset, .unset, .unset, .unset] [(.ref c_1)]))
  refine Goes.step (fun _ k => XS.astoreN X_1.here hx rfl (hb hby own_d2_3) rfl rfl (l' := #[.val (.int p1), .val (.ref c_1), .unset, .unset, .unset]) rfl k) ?_
  show Goes pP eE bB _ (T_1.setTop (mkF mM 4 #[.val (.int p1), .val (.ref c_1), .unset, .unset, .unset] []))
  refine Goes.step (fun _ k => XS.aloadN X_1.here hx rfl (hb hby own_d2_4) rfl rfl k) ?_
  show Goes pP eE bB _ (T_1.setTop (mkF mM 5 #[.val (.int p1), .val (.ref c_1), .unset, .unset, .unset] [(.ref c_1)]))
  refine Goes.alen X_1 hx hZ e_1 A_1 (z := (2 : Int32)) (by decide) (g := (mkF mM 5 #[.val (.int p1), .val (.ref c_1), .unset, .unset, .unset] [(.ref c_1)])) rfl rfl (hb hby own_d2_5) ?_
  show Goes pP eE bB _ (T_1.setTop (mkF mM 6 #[.val (.int p1), .val (.ref c_1), .unset, .unset, .unset] [(.int (2 : Int32))]))
  refine Goes.step (fun _ k => XS.istoreN X_1.here hx rfl (hb hby own_d2_6) rfl (l' := #[.val (.int p1), .val (.ref c_1), .val (.int (2 : Int32)), .unset, .unset]) rfl k) ?_
  show Goes pP eE bB _ (T_1.setTop (mkF mM 7 #[.val (.int p1), .val (.ref c_1), .val (.int (2 : Int32)), .unset, .unset] []))
  refine Goes.step (fun _ k => XS.iconst X_1.here hx rfl (hb hby own_d2_7) k) ?_
  show Goes pP eE bB _ (T_1.setTop (mkF mM 8 #[.val (.int p1), .val (.ref c_1), .val (.int (2 : Int32)), .unset, .unset] [(.int (0 : Int32))]))
  refine Goes.step (fun _ k => XS.istoreN X_1.here hx rfl (hb hby own_d2_8) rfl (l' := #[.val (.int p1), .val (.ref c_1), .val (.int (2 : Int32)), .val (.int (0 : Int32)), .unset]) rfl k) ?_
  show Goes pP eE bB _ (T_1.setTop (mkF mM 9 #[.val (.int p1), .val (.ref c_1), .val (.int (2 : Int32)), .val (.int (0 : Int32)), .unset] []))
  refine Goes.step (fun _ k => XS.iloadN X_1.here hx rfl (hb hby own_d2_9) rfl k) ?_
  show Goes pP eE bB _ (T_1.setTop (mkF mM 10 #[.val (.int p1), .val (.ref c_1), .val (.int (2 : Int32)), .val (.int (0 : Int32)), .unset] [(.int (0 : Int32))]))
  refine Goes.step (fun _ k => XS.iloadN X_1.here hx rfl (hb hby own_d2_10) rfl k) ?_
  show Goes pP eE bB _ (T_1.setTop (mkF mM 11 #[.val (.int p1), .val (.ref c_1), .val (.int (2 : Int32)), .val (.int (0 : Int32)), .unset] [(.int (2 : Int32)), (.int (0 : Int32))]))
  refine Goes.step (fun _ k => XS.icmpNo X_1.here hx rfl (hb hby own_d2_11) rfl (tlt (by decide)).2.1 k) ?_
  show Goes pP eE bB _ (T_1.setTop (mkF mM 14 #[.val (.int p1), .val (.ref c_1), .val (.int (2 : Int32)), .val (.int (0 : Int32)), .unset] []))
  refine Goes.step (fun _ k => XS.aloadN X_1.here hx rfl (hb hby own_d2_14) rfl rfl k) ?_
  show Goes pP eE bB _ (T_1.setTop (mkF mM 15 #[.val (.int p1), .val (.ref c_1), .val (.int (2 : Int32)), .val (.int (0 : Int32)), .unset] [(.ref c_1)]))
  refine Goes.step (fun _ k => XS.iloadN X_1.here hx rfl (hb hby own_d2_15) rfl k) ?_
  show Goes pP eE bB _ (T_1.setTop (mkF mM 16 #[.val (.int p1), .val (.ref c_1), .val (.int (2 : Int32)), .val (.int (0 : Int32)), .unset] [(.int (0 : Int32)), (.ref c_1)]))
  refine Goes.aaload X_1 hx hZ e_1 A_1 rfl (i := 0) (by decide) (by decide) hf0 (g := (mkF mM 16 #[.val (.int p1), .val (.ref c_1), .val (.int (2 : Int32)), .val (.int (0 : Int32)), .unset] [(.int (0 : Int32)), (.ref c_1)])) rfl rfl (hb hby own_d2_16) ?_
  show Goes pP eE bB _ (T_1.setTop (mkF mM 17 #[.val (.int p1), .val (.ref c_1), .val (.int (2 : Int32)), .val (.int (0 : Int32)), .unset] [(.ref w1)]))
  refine Goes.step (fun _ k => XS.astore X_1.here hx rfl (hb hby own_d2_17) rfl rfl (l' := #[.val (.int p1), .val (.ref c_1), .val (.int (2 : Int32)), .val (.int (0 : Int32)), .val (.ref w1)]) rfl k) ?_
  show Goes pP eE bB _ (T_1.setTop (mkF mM 19 #[.val (.int p1), .val (.ref c_1), .val (.int (2 : Int32)), .val (.int (0 : Int32)), .val (.ref w1)] []))
  refine Goes.step (fun _ k => XS.aload X_1.here hx rfl (hb hby own_d2_19) rfl rfl k) ?_
  show Goes pP eE bB _ (T_1.setTop (mkF mM 21 #[.val (.int p1), .val (.ref c_1), .val (.int (2 : Int32)), .val (.int (0 : Int32)), .val (.ref w1)] [(.ref w1)]))
  have u_2 := F1.ext E_1
  obtain ⟨T_3, X_3, e_3, st_3⟩ := getF X_1 hx hZ hown (host := "") (Or.inl (hw _ (List.mem_of_getElem? (i := 25) rfl))) Via.refl e_1 u_2 (g := (mkF mM 21 #[.val (.int p1), .val (.ref c_1), .val (.int (2 : Int32)), .val (.int (0 : Int32)), .val (.ref w1)] [(.ref w1)])) rfl rfl (hb hby own_d2_21)
  refine Goes.step st_3 ?_
  show Goes pP eE bB _ (T_3.setTop (mkF mM 24 #[.val (.int p1), .val (.ref c_1), .val (.int (2 : Int32)), .val (.int (0 : Int32)), .val (.ref w1)] [(.int (1 : Int32))]))
  refine Goes.step (fun _ k => XS.iloadN X_3.here hx rfl (hb hby own_d2_24) rfl k) ?_
  show Goes pP eE bB _ (T_3.setTop (mkF mM 25 #[.val (.int p1), .val (.ref c_1), .val (.int (2 : Int32)), .val (.int (0 : Int32)), .val (.ref w1)] [(.int p1), (.int (1 : Int32))]))
  by_cases hc_4 : (1 : Int32) = p1
  · refine Goes.step (fun _ k => XS.icmpNo X_3.here hx rfl (hb hby own_d2_25) rfl (teq hc_4).2 k) ?_
    show Goes pP eE bB _ (T_3.setTop (mkF mM 28 #[.val (.int p1), .val (.ref c_1), .val (.int (2 : Int32)), .val (.int (0 : Int32)), .val (.ref w1)] []))
    refine Goes.step (fun _ k => XS.aload X_3.here hx rfl (hb hby own_d2_28) rfl rfl k) ?_
    show Goes pP eE bB _ (T_3.setTop (mkF mM 30 #[.val (.int p1), .val (.ref c_1), .val (.int (2 : Int32)), .val (.int (0 : Int32)), .val (.ref w1)] [(.ref w1)]))
    refine Goes.ret X_3 hx hlk hret rfl (Or.inr (Or.inr (Or.inr (Or.inr ⟨rfl, rfl, rfl⟩)))) (hb hby own_d2_30) (by decide) (by decide) ?_
    exact ⟨by rw [own_of, if_pos hc_4], N_1, by rw [e_3]; exact E_1⟩
  · refine Goes.step (fun _ k => XS.icmpYes X_3.here hx rfl (pc0 := 25) (pc' := 31) rfl (hb hby own_d2_25) rfl (feq hc_4).2 (by decide) (by decide) k) ?_
    show Goes pP eE bB _ (T_3.setTop (mkF mM 31 #[.val (.int p1), .val (.ref c_1), .val (.int (2 : Int32)), .val (.int (0 : Int32)), .val (.ref w1)] []))
    refine Goes.step (fun _ k => XS.iinc X_3.here hx rfl (hb hby own_d2_31) rfl (l' := #[.val (.int p1), .val (.ref c_1), .val (.int (2 : Int32)), .val (.int ((0 : Int32) + (1 : Int32))), .val (.ref w1)]) rfl k) ?_
    show Goes pP eE bB _ (T_3.setTop (mkF mM 34 #[.val (.int p1), .val (.ref c_1), .val (.int (2 : Int32)), .val (.int ((0 : Int32) + (1 : Int32))), .val (.ref w1)] []))
    refine Goes.step (fun _ k => XS.goto X_3.here hx rfl (pc0 := 34) (pc' := 9) rfl (hb hby own_d2_34) (by decide) (by decide) k) ?_
    show Goes pP eE bB _ (T_3.setTop (mkF mM 9 #[.val (.int p1), .val (.ref c_1), .val (.int (2 : Int32)), .val (.int ((0 : Int32) + (1 : Int32))), .val (.ref w1)] []))
    refine Goes.step (fun _ k => XS.iloadN X_3.here hx rfl (hb hby own_d2_9) rfl k) ?_
    show Goes pP eE bB _ (T_3.setTop (mkF mM 10 #[.val (.int p1), .val (.ref c_1), .val (.int (2 : Int32)), .val (.int ((0 : Int32) + (1 : Int32))), .val (.ref w1)] [(.int ((0 : Int32) + (1 : Int32)))]))
    refine Goes.step (fun _ k => XS.iloadN X_3.here hx rfl (hb hby own_d2_10) rfl k) ?_
    show Goes pP eE bB _ (T_3.setTop (mkF mM 11 #[.val (.int p1), .val (.ref c_1), .val (.int (2 : Int32)), .val (.int ((0 : Int32) + (1 : Int32))), .val (.ref w1)] [(.int (2 : Int32)), (.int ((0 : Int32) + (1 : Int32)))]))
    refine Goes.step (fun _ k => XS.icmpNo X_3.here hx rfl (hb hby own_d2_11) rfl (tlt (by decide)).2.1 k) ?_
    show Goes pP eE bB _ (T_3.setTop (mkF mM 14 #[.val (.int p1), .val (.ref c_1), .val (.int (2 : Int32)), .val (.int ((0 : Int32) + (1 : Int32))), .val (.ref w1)] []))
    refine Goes.step (fun _ k => XS.aloadN X_3.here hx rfl (hb hby own_d2_14) rfl rfl k) ?_
    show Goes pP eE bB _ (T_3.setTop (mkF mM 15 #[.val (.int p1), .val (.ref c_1), .val (.int (2 : Int32)), .val (.int ((0 : Int32) + (1 : Int32))), .val (.ref w1)] [(.ref c_1)]))
    refine Goes.step (fun _ k => XS.iloadN X_3.here hx rfl (hb hby own_d2_15) rfl k) ?_
    show Goes pP eE bB _ (T_3.setTop (mkF mM 16 #[.val (.int p1), .val (.ref c_1), .val (.int (2 : Int32)), .val (.int ((0 : Int32) + (1 : Int32))), .val (.ref w1)] [(.int ((0 : Int32) + (1 : Int32))), (.ref c_1)]))
    refine Goes.aaload X_3 hx hZ e_3 A_1 rfl (i := 1) (by decide) (by decide) hf1 (g := (mkF mM 16 #[.val (.int p1), .val (.ref c_1), .val (.int (2 : Int32)), .val (.int ((0 : Int32) + (1 : Int32))), .val (.ref w1)] [(.int ((0 : Int32) + (1 : Int32))), (.ref c_1)])) rfl rfl (hb hby own_d2_16) ?_
    show Goes pP eE bB _ (T_3.setTop (mkF mM 17 #[.val (.int p1), .val (.ref c_1), .val (.int (2 : Int32)), .val (.int ((0 : Int32) + (1 : Int32))), .val (.ref w1)] [(.ref w2)]))
    refine Goes.step (fun _ k => XS.astore X_3.here hx rfl (hb hby own_d2_17) rfl rfl (l' := #[.val (.int p1), .val (.ref c_1), .val (.int (2 : Int32)), .val (.int ((0 : Int32) + (1 : Int32))), .val (.ref w2)]) rfl k) ?_
    show Goes pP eE bB _ (T_3.setTop (mkF mM 19 #[.val (.int p1), .val (.ref c_1), .val (.int (2 : Int32)), .val (.int ((0 : Int32) + (1 : Int32))), .val (.ref w2)] []))
    refine Goes.step (fun _ k => XS.aload X_3.here hx rfl (hb hby own_d2_19) rfl rfl k) ?_
    show Goes pP eE bB _ (T_3.setTop (mkF mM 21 #[.val (.int p1), .val (.ref c_1), .val (.int (2 : Int32)), .val (.int ((0 : Int32) + (1 : Int32))), .val (.ref w2)] [(.ref w2)]))
    have u_5 := F2.ext E_1
    obtain ⟨T_6, X_6, e_6, st_6⟩ := getF X_3 hx hZ hown (host := "") (Or.inl (hw _ (List.mem_of_getElem? (i := 25) rfl))) Via.refl e_3 u_5 (g := (mkF mM 21 #[.val (.int p1), .val (.ref c_1), .val (.int (2 : Int32)), .val (.int ((0 : Int32) + (1 : Int32))), .val (.ref w2)] [(.ref w2)])) rfl rfl (hb hby own_d2_21)
    refine Goes.step st_6 ?_
    show Goes pP eE bB _ (T_6.setTop (mkF mM 24 #[.val (.int p1), .val (.ref c_1), .val (.int (2 : Int32)), .val (.int ((0 : Int32) + (1 : Int32))), .val (.ref w2)] [(.int (2 : Int32))]))
    refine Goes.step (fun _ k => XS.iloadN X_6.here hx rfl (hb hby own_d2_24) rfl k) ?_
    show Goes pP eE bB _ (T_6.setTop (mkF mM 25 #[.val (.int p1), .val (.ref c_1), .val (.int (2 : Int32)), .val (.int ((0 : Int32) + (1 : Int32))), .val (.ref w2)] [(.int p1), (.int (2 : Int32))]))
    by_cases hc_7 : (2 : Int32) = p1
    · refine Goes.step (fun _ k => XS.icmpNo X_6.here hx rfl (hb hby own_d2_25) rfl (teq hc_7).2 k) ?_
      show Goes pP eE bB _ (T_6.setTop (mkF mM 28 #[.val (.int p1), .val (.ref c_1), .val (.int (2 : Int32)), .val (.int ((0 : Int32) + (1 : Int32))), .val (.ref w2)] []))
      refine Goes.step (fun _ k => XS.aload X_6.here hx rfl (hb hby own_d2_28) rfl rfl k) ?_
      show Goes pP eE bB _ (T_6.setTop (mkF mM 30 #[.val (.int p1), .val (.ref c_1), .val (.int (2 : Int32)), .val (.int ((0 : Int32) + (1 : Int32))), .val (.ref w2)] [(.ref w2)]))
      refine Goes.ret X_6 hx hlk hret rfl (Or.inr (Or.inr (Or.inr (Or.inr ⟨rfl, rfl, rfl⟩)))) (hb hby own_d2_30) (by decide) (by decide) ?_
      exact ⟨by rw [own_of, if_neg hc_4, if_pos hc_7], N_1, by rw [e_6]; exact E_1⟩
    · refine Goes.step (fun _ k => XS.icmpYes X_6.here hx rfl (pc0 := 25) (pc' := 31) rfl (hb hby own_d2_25) rfl (feq hc_7).2 (by decide) (by decide) k) ?_
      show Goes pP eE bB _ (T_6.setTop (mkF mM 31 #[.val (.int p1), .val (.ref c_1), .val (.int (2 : Int32)), .val (.int ((0 : Int32) + (1 : Int32))), .val (.ref w2)] []))
      refine Goes.step (fun _ k => XS.iinc X_6.here hx rfl (hb hby own_d2_31) rfl (l' := #[.val (.int p1), .val (.ref c_1), .val (.int (2 : Int32)), .val (.int (((0 : Int32) + (1 : Int32)) + (1 : Int32))), .val (.ref w2)]) rfl k) ?_
      show Goes pP eE bB _ (T_6.setTop (mkF mM 34 #[.val (.int p1), .val (.ref c_1), .val (.int (2 : Int32)), .val (.int (((0 : Int32) + (1 : Int32)) + (1 : Int32))), .val (.ref w2)] []))
      refine Goes.step (fun _ k => XS.goto X_6.here hx rfl (pc0 := 34) (pc' := 9) rfl (hb hby own_d2_34) (by decide) (by decide) k) ?_
      show Goes pP eE bB _ (T_6.setTop (mkF mM 9 #[.val (.int p1), .val (.ref c_1), .val (.int (2 : Int32)), .val (.int (((0 : Int32) + (1 : Int32)) + (1 : Int32))), .val (.ref w2)] []))
      refine Goes.step (fun _ k => XS.iloadN X_6.here hx rfl (hb hby own_d2_9) rfl k) ?_
      show Goes pP eE bB _ (T_6.setTop (mkF mM 10 #[.val (.int p1), .val (.ref c_1), .val (.int (2 : Int32)), .val (.int (((0 : Int32) + (1 : Int32)) + (1 : Int32))), .val (.ref w2)] [(.int (((0 : Int32) + (1 : Int32)) + (1 : Int32)))]))
      refine Goes.step (fun _ k => XS.iloadN X_6.here hx rfl (hb hby own_d2_10) rfl k) ?_
      show Goes pP eE bB _ (T_6.setTop (mkF mM 11 #[.val (.int p1), .val (.ref c_1), .val (.int (2 : Int32)), .val (.int (((0 : Int32) + (1 : Int32)) + (1 : Int32))), .val (.ref w2)] [(.int (2 : Int32)), (.int (((0 : Int32) + (1 : Int32)) + (1 : Int32)))]))
      refine Goes.step (fun _ k => XS.icmpYes X_6.here hx rfl (pc0 := 11) (pc' := 37) rfl (hb hby own_d2_11) rfl (flt (by decide)).2.1 (by decide) (by decide) k) ?_
      show Goes pP eE bB _ (T_6.setTop (mkF mM 37 #[.val (.int p1), .val (.ref c_1), .val (.int (2 : Int32)), .val (.int (((0 : Int32) + (1 : Int32)) + (1 : Int32))), .val (.ref w2)] []))
      refine Goes.step (fun _ k => XS.aconstNull X_6.here hx rfl (hb hby own_d2_37) k) ?_
      show Goes pP eE bB _ (T_6.setTop (mkF mM 38 #[.val (.int p1), .val (.ref c_1), .val (.int (2 : Int32)), .val (.int (((0 : Int32) + (1 : Int32)) + (1 : Int32))), .val (.ref w2)] [.null]))
      refine Goes.ret X_6 hx hlk hret rfl (Or.inr (Or.inr (Or.inr (Or.inr ⟨rfl, rfl, rfl⟩)))) (hb hby own_d2_38) (by decide) (by decide) ?_
      exact ⟨by rw [own_of, if_neg hc_4, if_neg hc_7], N_1, by rw [e_6]; exact E_1⟩
set_option maxRecDepth 65536 in
set_option maxHeartbeats 40000000 in
theorem rmX (l : Launch) (Z : State) (a0 : Array Value) (hw : ∀ d ∈ tables_1, d.before a0 Z = true) (p1 : Int32) (w1 w2 : Addr) (h0 : Heap) (n0 : Nat) (Z0 : n0 ≤ h0.size) (S1 : Sta Z Z.heap "com/example/bellbird/bellbird/events/BodyCipher" "AES_256_GCM" "Lcom/example/bellbird/bellbird/events/BodyCipher;" (.ref w1)) (S2 : Sta Z Z.heap "com/example/bellbird/bellbird/events/BodyCipher" "CHACHA20_POLY1305" "Lcom/example/bellbird/bellbird/events/BodyCipher;" (.ref w2)) (O0 : Old Z n0 h0) :
    Con l Z (⟨"com/example/bellbird/bellbird/events/BodyCipherOfPinLaw", "expected", "(I)Lcom/example/bellbird/bellbird/events/BodyCipher;"⟩ : MethodName) method_2_code 1 (some (.object "com/example/bellbird/bellbird/events/BodyCipher")) ({ frames := 0, cells := 0, slots := 0, locals := 0 } : Room) #[(.int p1)] h0 (fun v h L => v = some (own_ex p1 w1 w2) ∧ Fr n0 L ∧ h = h0) := by
  refine Con.body (plainFor_of_name own_pn1) ?_
  intro pP eE sS mM bB mT cC s₁ hx hby hml hZ hown hnm hret hlk X0 e0
  have hown : sS.vm.findClass "com/example/bellbird/bellbird/events/BodyCipherOfPinLaw" = some mM.cls := hown
  have hml : cC.maxLocals = 1 := hml
  have N0 := Fr.nil n0
  have ef : entryFrame mM #[(.int p1)] 1 = mkF mM 0 #[.val (.int p1)] [] := by first | (simp [entryFrame, mkF, argsToLocals, Value.category]; done) | rfl
  rw [ef]
  show Goes pP eE bB _ (s₁.setTop (mkF mM 0 #[.val (.int p1)] []))
  refine Goes.step (fun _ k => XS.iloadN X0.here hx rfl (hb hby own_d4_0) rfl k) ?_
  show Goes pP eE bB _ (s₁.setTop (mkF mM 1 #[.val (.int p1)] [(.int p1)]))
  refine Goes.step (fun _ k => XS.iconst X0.here hx rfl (hb hby own_d4_1) k) ?_
  show Goes pP eE bB _ (s₁.setTop (mkF mM 2 #[.val (.int p1)] [(.int (1 : Int32)), (.int p1)]))
  by_cases hc_1 : p1 = (1 : Int32)
  · refine Goes.step (fun _ k => XS.icmpNo X0.here hx rfl (hb hby own_d4_2) rfl (teq hc_1).2 k) ?_
    show Goes pP eE bB _ (s₁.setTop (mkF mM 5 #[.val (.int p1)] []))
    obtain ⟨T_2, X_2, e_2, st_2⟩ := getS2 X0 hx hZ hown (host := "") (Or.inl (hw _ (List.mem_of_getElem? (i := 30) rfl))) Via.refl e0 (S1.ext O0.2) (g := (mkF mM 5 #[.val (.int p1)] [])) rfl (hb hby own_d4_5)
    refine Goes.step st_2 ?_
    show Goes pP eE bB _ (T_2.setTop (mkF mM 8 #[.val (.int p1)] [(.ref w1)]))
    refine Goes.ret X_2 hx hlk hret rfl (Or.inr (Or.inr (Or.inr (Or.inr ⟨rfl, rfl, rfl⟩)))) (hb hby own_d4_8) (by decide) (by decide) ?_
    exact ⟨by rw [own_ex, if_pos hc_1], N0, e_2⟩
  · refine Goes.step (fun _ k => XS.icmpYes X0.here hx rfl (pc0 := 2) (pc' := 9) rfl (hb hby own_d4_2) rfl (feq hc_1).2 (by decide) (by decide) k) ?_
    show Goes pP eE bB _ (s₁.setTop (mkF mM 9 #[.val (.int p1)] []))
    refine Goes.step (fun _ k => XS.iloadN X0.here hx rfl (hb hby own_d4_9) rfl k) ?_
    show Goes pP eE bB _ (s₁.setTop (mkF mM 10 #[.val (.int p1)] [(.int p1)]))
    refine Goes.step (fun _ k => XS.iconst X0.here hx rfl (hb hby own_d4_10) k) ?_
    show Goes pP eE bB _ (s₁.setTop (mkF mM 11 #[.val (.int p1)] [(.int (2 : Int32)), (.int p1)]))
    by_cases hc_3 : p1 = (2 : Int32)
    · refine Goes.step (fun _ k => XS.icmpNo X0.here hx rfl (hb hby own_d4_11) rfl (teq hc_3).2 k) ?_
      show Goes pP eE bB _ (s₁.setTop (mkF mM 14 #[.val (.int p1)] []))
      obtain ⟨T_4, X_4, e_4, st_4⟩ := getS2 X0 hx hZ hown (host := "") (Or.inl (hw _ (List.mem_of_getElem? (i := 36) rfl))) Via.refl e0 (S2.ext O0.2) (g := (mkF mM 14 #[.val (.int p1)] [])) rfl (hb hby own_d4_14)
      refine Goes.step st_4 ?_
      show Goes pP eE bB _ (T_4.setTop (mkF mM 17 #[.val (.int p1)] [(.ref w2)]))
      refine Goes.ret X_4 hx hlk hret rfl (Or.inr (Or.inr (Or.inr (Or.inr ⟨rfl, rfl, rfl⟩)))) (hb hby own_d4_17) (by decide) (by decide) ?_
      exact ⟨by rw [own_ex, if_neg hc_1, if_pos hc_3], N0, e_4⟩
    · refine Goes.step (fun _ k => XS.icmpYes X0.here hx rfl (pc0 := 11) (pc' := 18) rfl (hb hby own_d4_11) rfl (feq hc_3).2 (by decide) (by decide) k) ?_
      show Goes pP eE bB _ (s₁.setTop (mkF mM 18 #[.val (.int p1)] []))
      refine Goes.step (fun _ k => XS.aconstNull X0.here hx rfl (hb hby own_d4_18) k) ?_
      show Goes pP eE bB _ (s₁.setTop (mkF mM 19 #[.val (.int p1)] [.null]))
      refine Goes.ret X0 hx hlk hret rfl (Or.inr (Or.inr (Or.inr (Or.inr ⟨rfl, rfl, rfl⟩)))) (hb hby own_d4_19) (by decide) (by decide) ?_
      exact ⟨by rw [own_ex, if_neg hc_1, if_neg hc_3], N0, e0⟩
set_option maxRecDepth 65536 in
set_option maxHeartbeats 40000000 in
theorem rmD (l : Launch) (Z : State) (a0 : Array Value) (hw : ∀ d ∈ tables_1, d.before a0 Z = true) (a1 : Addr) (c : Int32) (h0 : Heap) (n0 : Nat) (Z0 : n0 ≤ h0.size) (F0 : Fld Z h0 a1 "com/example/bellbird/bellbird/events/BodyCipher" "code" "I" (.int c)) :
    Con l Z (⟨"com/example/bellbird/bellbird/events/BodyCipher", "code", "()I"⟩ : MethodName) prog_28_method_4_code 1 (some .int) ({ frames := 0, cells := 0, slots := 0, locals := 0 } : Room) #[(.ref a1)] h0 (fun v h L => v = some (.int c) ∧ Fr n0 L ∧ h = h0) := by
  refine Con.body (plainFor_of_name own_pn0) ?_
  intro pP eE sS mM bB mT cC s₁ hx hby hml hZ hown hnm hret hlk X0 e0
  have hown : sS.vm.findClass "com/example/bellbird/bellbird/events/BodyCipher" = some mM.cls := hown
  have hml : cC.maxLocals = 1 := hml
  have N0 := Fr.nil n0
  have ef : entryFrame mM #[(.ref a1)] 1 = mkF mM 0 #[.val (.ref a1)] [] := by first | (simp [entryFrame, mkF, argsToLocals, Value.category]; done) | rfl
  rw [ef]
  show Goes pP eE bB _ (s₁.setTop (mkF mM 0 #[.val (.ref a1)] []))
  refine Goes.step (fun _ k => XS.aloadN X0.here hx rfl (hb hby own_d5_0) rfl rfl k) ?_
  show Goes pP eE bB _ (s₁.setTop (mkF mM 1 #[.val (.ref a1)] [(.ref a1)]))
  obtain ⟨T_1, X_1, e_1, st_1⟩ := getF X0 hx hZ hown (host := "") (Or.inl (hw _ (List.mem_of_getElem? (i := 25) rfl))) Via.refl e0 F0 (g := (mkF mM 1 #[.val (.ref a1)] [(.ref a1)])) rfl rfl (hb hby own_d5_1)
  refine Goes.step st_1 ?_
  show Goes pP eE bB _ (T_1.setTop (mkF mM 4 #[.val (.ref a1)] [(.int c)]))
  refine Goes.ret X_1 hx hlk hret rfl (Or.inl ⟨rfl, Or.inl rfl, _, rfl⟩) (hb hby own_d5_4) (by decide) (by decide) ?_
  exact ⟨rfl, N0, e_1⟩
set_option maxRecDepth 65536 in
set_option maxHeartbeats 40000000 in
theorem rmK (l : Launch) (Z : State) (a0 : Array Value) (hw : ∀ d ∈ tables_1, d.before a0 Z = true) (p1 : Int32) (wv w1 w2 : Addr) (h0 : Heap) (n0 : Nat) (Z0 : n0 ≤ h0.size) (Sv : Sta Z Z.heap "com/example/bellbird/bellbird/events/BodyCipher" "$VALUES" "[Lcom/example/bellbird/bellbird/events/BodyCipher;" (.ref wv)) (S1 : Sta Z Z.heap "com/example/bellbird/bellbird/events/BodyCipher" "AES_256_GCM" "Lcom/example/bellbird/bellbird/events/BodyCipher;" (.ref w1)) (S2 : Sta Z Z.heap "com/example/bellbird/bellbird/events/BodyCipher" "CHACHA20_POLY1305" "Lcom/example/bellbird/bellbird/events/BodyCipher;" (.ref w2)) (f : Nat → Value) (Av : Afn Z h0 wv (.object "com/example/bellbird/bellbird/events/BodyCipher") 2 f) (Ev : Exa Z h0 wv "[Lcom/example/bellbird/bellbird/events/BodyCipher;") (O0 : Old Z n0 h0) (hf0 : f 0 = .ref w1) (hf1 : f 1 = .ref w2) (F1 : Fld Z h0 w1 "com/example/bellbird/bellbird/events/BodyCipher" "code" "I" (.int (1 : Int32))) (F2 : Fld Z h0 w2 "com/example/bellbird/bellbird/events/BodyCipher" "code" "I" (.int (2 : Int32))) (E1 : Exa Z h0 w1 "com/example/bellbird/bellbird/events/BodyCipher") (E2 : Exa Z h0 w2 "com/example/bellbird/bellbird/events/BodyCipher") :
    Con l Z (⟨"com/example/bellbird/bellbird/events/BodyCipherOfPinLaw", "check", "(I)Z"⟩ : MethodName) method_3_code 2 (some .boolean) ({ frames := 3, cells := 1, slots := 2, locals := 41 } : Room) #[(.int p1)] h0 (fun v h L => v = some (.int 1) ∧ Fr n0 L ∧ Ext h0 h) := by
  refine Con.body (plainFor_of_name own_pn1) ?_
  intro pP eE sS mM bB mT cC s₁ hx hby hml hZ hown hnm hret hlk X0 e0
  have hown : sS.vm.findClass "com/example/bellbird/bellbird/events/BodyCipherOfPinLaw" = some mM.cls := hown
  have hml : cC.maxLocals = 2 := hml
  have N0 := Fr.nil n0
  have ef : entryFrame mM #[(.int p1)] 2 = mkF mM 0 #[.val (.int p1), .unset] [] := by first | (simp [entryFrame, mkF, argsToLocals, Value.category]; done) | rfl
  rw [ef]
  show Goes pP eE bB _ (s₁.setTop (mkF mM 0 #[.val (.int p1), .unset] []))
  by_cases q1 : p1 = (1 : Int32)
  · skip
    show Goes pP eE bB _ (s₁.setTop (mkF mM 0 #[.val (.int p1), .unset] []))
    show Goes pP eE bB _ (s₁.setTop (mkF mM 0 #[.val (.int p1), .unset] []))
    refine Goes.step (fun _ k => XS.iloadN X0.here hx rfl (hb hby own_d1_0) rfl k) ?_
    show Goes pP eE bB _ (s₁.setTop (mkF mM 1 #[.val (.int p1), .unset] [(.int p1)]))
    refine Goes.callS X0 hx hZ hown (hw _ (List.mem_of_getElem? (i := 4) rfl)) (hw _ (List.mem_of_getElem? (i := 5) rfl)) (hw _ (List.mem_of_getElem? (i := 6) rfl)) (hw _ (List.mem_of_getElem? (i := 7) rfl)) (by decide) e0 (rmO l Z a0 hw p1 wv w1 w2 h0 n0 Z0 Sv f Av Ev O0 hf0 hf1 F1 F2) (W := 0) (by decide) (by decide) (by decide) (by decide) (g := (mkF mM 1 #[.val (.int p1), .unset] [(.int p1)])) rfl (by rw [hml]; rfl) (rest := []) own_pd1 rfl rfl (by show 2 * 0 + _ ≤ _; exact Nat.le_of_eq rfl) (hb hby own_d1_1) ?_
    intro v_1 T_1 L_1 X_1 hQ_1
    generalize e_1 : T_1.heap = h_1 at hQ_1
    obtain ⟨hv_1, N_1q, E_1⟩ := hQ_1
    rw [show own_of p1 w1 w2 = (.ref w1) from by simp [own_of, q1]] at hv_1
    subst hv_1
    have N_1 := Fr.app N0 N_1q
    show Goes pP eE bB _ (T_1.setTop (mkF mM 4 #[.val (.int p1), .unset] [(.ref w1)]))
    refine Goes.step (fun _ k => XS.astoreN X_1.here hx rfl (hb hby own_d1_4) rfl rfl (l' := #[.val (.int p1), .val (.ref w1)]) rfl k) ?_
    show Goes pP eE bB _ (T_1.setTop (mkF mM 5 #[.val (.int p1), .val (.ref w1)] []))
    refine Goes.step (fun _ k => XS.aloadN X_1.here hx rfl (hb hby own_d1_5) rfl rfl k) ?_
    show Goes pP eE bB _ (T_1.setTop (mkF mM 6 #[.val (.int p1), .val (.ref w1)] [(.ref w1)]))
    refine Goes.step (fun _ k => XS.iloadN X_1.here hx rfl (hb hby own_d1_6) rfl k) ?_
    show Goes pP eE bB _ (T_1.setTop (mkF mM 7 #[.val (.int p1), .val (.ref w1)] [(.int p1), (.ref w1)]))
    have u_2 := Nat.le_trans Z0 E_1.1
    have u_3 := O0.ext E_1
    refine Goes.callS X_1 hx hZ hown (hw _ (List.mem_of_getElem? (i := 27) rfl)) (hw _ (List.mem_of_getElem? (i := 28) rfl)) (hw _ (List.mem_of_getElem? (i := 2) rfl)) (hw _ (List.mem_of_getElem? (i := 29) rfl)) (by decide) e_1 (rmX l Z a0 hw p1 w1 w2 h_1 n0 u_2 S1 S2 u_3) (W := 1) (by decide) (by decide) (by decide) (by decide) (g := (mkF mM 7 #[.val (.int p1), .val (.ref w1)] [(.int p1), (.ref w1)])) rfl (by rw [hml]; rfl) (rest := [(.ref w1)]) own_pd1 rfl rfl (by show 2 * 0 + _ ≤ _; exact Nat.le_of_eq rfl) (hb hby own_d1_7) ?_
    intro v_4 T_4 L_4 X_4 hQ_4
    obtain ⟨hv_4, N_4q, e_4⟩ := hQ_4
    rw [show own_ex p1 w1 w2 = (.ref w1) from by simp [own_ex, q1]] at hv_4
    subst hv_4
    have N_4 := Fr.app N_1 N_4q
    show Goes pP eE bB _ (T_4.setTop (mkF mM 10 #[.val (.int p1), .val (.ref w1)] [(.ref w1), (.ref w1)]))
    refine Goes.step (fun _ k => Jvm.RoadKit.acmp (g := (mkF mM 10 #[.val (.int p1), .val (.ref w1)] [(.ref w1), (.ref w1)])) X_4 hx rfl rfl rfl (pc0 := 10) (pc' := 15) (same := true) rfl (hb hby own_d1_10) rfl (decide_eq_true rfl) (by decide) (by decide) k) ?_
    show Goes pP eE bB _ (T_4.setTop (mkF mM 15 #[.val (.int p1), .val (.ref w1)] []))
    refine Goes.step (fun _ k => XS.aloadN X_4.here hx rfl (hb hby own_d1_15) rfl rfl k) ?_
    show Goes pP eE bB _ (T_4.setTop (mkF mM 16 #[.val (.int p1), .val (.ref w1)] [(.ref w1)]))
    refine Goes.step (fun _ k => XS.ifnullNo X_4.here hx rfl (hb hby own_d1_16) rfl k) ?_
    show Goes pP eE bB _ (T_4.setTop (mkF mM 19 #[.val (.int p1), .val (.ref w1)] []))
    refine Goes.step (fun _ k => XS.aloadN X_4.here hx rfl (hb hby own_d1_19) rfl rfl k) ?_
    show Goes pP eE bB _ (T_4.setTop (mkF mM 20 #[.val (.int p1), .val (.ref w1)] [(.ref w1)]))
    have u_5 := F1.ext E_1
    have u_7 := E1.ext E_1
    refine Goes.callV X_4 hx hZ hown (hw _ (List.mem_of_getElem? (i := 31) rfl)) (hw _ (List.mem_of_getElem? (i := 32) rfl)) (notFace_of_selects (args := #[]) (mvT hZ (hw _ (List.mem_of_getElem? (i := 34) rfl)))) (hw _ (List.mem_of_getElem? (i := 34) rfl)) (hw _ (List.mem_of_getElem? (i := 33) rfl)) (hw _ (List.mem_of_getElem? (i := 35) rfl)) (hw _ (List.mem_of_getElem? (i := 6) rfl)) (by decide) e_4 u_7 (rmD l Z a0 hw w1 (1 : Int32) h_1 n0 u_2 u_5) (W := 0) (by decide) (by decide) (by decide) (by decide) (g := (mkF mM 20 #[.val (.int p1), .val (.ref w1)] [(.ref w1)])) rfl (by rw [hml]; rfl) (rest := []) own_pd2 rfl rfl (by show 2 * 0 + _ ≤ _; exact Nat.le_of_eq rfl) (hb hby own_d1_20) ?_
    intro v_6 T_6 L_6 X_6 hQ_6
    obtain ⟨rfl, N_6q, e_6⟩ := hQ_6
    have N_6 := Fr.app N_4 N_6q
    show Goes pP eE bB _ (T_6.setTop (mkF mM 23 #[.val (.int p1), .val (.ref w1)] [(.int (1 : Int32))]))
    refine Goes.step (fun _ k => XS.iloadN X_6.here hx rfl (hb hby own_d1_23) rfl k) ?_
    show Goes pP eE bB _ (T_6.setTop (mkF mM 24 #[.val (.int p1), .val (.ref w1)] [(.int p1), (.int (1 : Int32))]))
    have hb_8 : (1 : Int32) = p1 := q1.symm
    refine Goes.step (fun _ k => XS.icmpYes X_6.here hx rfl (pc0 := 24) (pc' := 29) rfl (hb hby own_d1_24) rfl (teq hb_8).1 (by decide) (by decide) k) ?_
    show Goes pP eE bB _ (T_6.setTop (mkF mM 29 #[.val (.int p1), .val (.ref w1)] []))
    refine Goes.step (fun _ k => XS.iconst X_6.here hx rfl (hb hby own_d1_29) k) ?_
    show Goes pP eE bB _ (T_6.setTop (mkF mM 30 #[.val (.int p1), .val (.ref w1)] [(.int (1 : Int32))]))
    refine Goes.retN X_6 hx hlk (t := .boolean) hret (by simp) (hb hby own_d1_30) (by decide) (by decide) ?_
    exact ⟨rfl, N_6, by rw [e_6]; exact E_1⟩
  by_cases q2 : p1 = (2 : Int32)
  · skip
    show Goes pP eE bB _ (s₁.setTop (mkF mM 0 #[.val (.int p1), .unset] []))
    show Goes pP eE bB _ (s₁.setTop (mkF mM 0 #[.val (.int p1), .unset] []))
    refine Goes.step (fun _ k => XS.iloadN X0.here hx rfl (hb hby own_d1_0) rfl k) ?_
    show Goes pP eE bB _ (s₁.setTop (mkF mM 1 #[.val (.int p1), .unset] [(.int p1)]))
    refine Goes.callS X0 hx hZ hown (hw _ (List.mem_of_getElem? (i := 4) rfl)) (hw _ (List.mem_of_getElem? (i := 5) rfl)) (hw _ (List.mem_of_getElem? (i := 6) rfl)) (hw _ (List.mem_of_getElem? (i := 7) rfl)) (by decide) e0 (rmO l Z a0 hw p1 wv w1 w2 h0 n0 Z0 Sv f Av Ev O0 hf0 hf1 F1 F2) (W := 0) (by decide) (by decide) (by decide) (by decide) (g := (mkF mM 1 #[.val (.int p1), .unset] [(.int p1)])) rfl (by rw [hml]; rfl) (rest := []) own_pd1 rfl rfl (by show 2 * 0 + _ ≤ _; exact Nat.le_of_eq rfl) (hb hby own_d1_1) ?_
    intro v_9 T_9 L_9 X_9 hQ_9
    generalize e_9 : T_9.heap = h_9 at hQ_9
    obtain ⟨hv_9, N_9q, E_9⟩ := hQ_9
    rw [show own_of p1 w1 w2 = (.ref w2) from by simp [own_of, q2]] at hv_9
    subst hv_9
    have N_9 := Fr.app N0 N_9q
    show Goes pP eE bB _ (T_9.setTop (mkF mM 4 #[.val (.int p1), .unset] [(.ref w2)]))
    refine Goes.step (fun _ k => XS.astoreN X_9.here hx rfl (hb hby own_d1_4) rfl rfl (l' := #[.val (.int p1), .val (.ref w2)]) rfl k) ?_
    show Goes pP eE bB _ (T_9.setTop (mkF mM 5 #[.val (.int p1), .val (.ref w2)] []))
    refine Goes.step (fun _ k => XS.aloadN X_9.here hx rfl (hb hby own_d1_5) rfl rfl k) ?_
    show Goes pP eE bB _ (T_9.setTop (mkF mM 6 #[.val (.int p1), .val (.ref w2)] [(.ref w2)]))
    refine Goes.step (fun _ k => XS.iloadN X_9.here hx rfl (hb hby own_d1_6) rfl k) ?_
    show Goes pP eE bB _ (T_9.setTop (mkF mM 7 #[.val (.int p1), .val (.ref w2)] [(.int p1), (.ref w2)]))
    have u_10 := Nat.le_trans Z0 E_9.1
    have u_11 := O0.ext E_9
    refine Goes.callS X_9 hx hZ hown (hw _ (List.mem_of_getElem? (i := 27) rfl)) (hw _ (List.mem_of_getElem? (i := 28) rfl)) (hw _ (List.mem_of_getElem? (i := 2) rfl)) (hw _ (List.mem_of_getElem? (i := 29) rfl)) (by decide) e_9 (rmX l Z a0 hw p1 w1 w2 h_9 n0 u_10 S1 S2 u_11) (W := 1) (by decide) (by decide) (by decide) (by decide) (g := (mkF mM 7 #[.val (.int p1), .val (.ref w2)] [(.int p1), (.ref w2)])) rfl (by rw [hml]; rfl) (rest := [(.ref w2)]) own_pd1 rfl rfl (by show 2 * 0 + _ ≤ _; exact Nat.le_of_eq rfl) (hb hby own_d1_7) ?_
    intro v_12 T_12 L_12 X_12 hQ_12
    obtain ⟨hv_12, N_12q, e_12⟩ := hQ_12
    rw [show own_ex p1 w1 w2 = (.ref w2) from by simp [own_ex, q2]] at hv_12
    subst hv_12
    have N_12 := Fr.app N_9 N_12q
    show Goes pP eE bB _ (T_12.setTop (mkF mM 10 #[.val (.int p1), .val (.ref w2)] [(.ref w2), (.ref w2)]))
    refine Goes.step (fun _ k => Jvm.RoadKit.acmp (g := (mkF mM 10 #[.val (.int p1), .val (.ref w2)] [(.ref w2), (.ref w2)])) X_12 hx rfl rfl rfl (pc0 := 10) (pc' := 15) (same := true) rfl (hb hby own_d1_10) rfl (decide_eq_true rfl) (by decide) (by decide) k) ?_
    show Goes pP eE bB _ (T_12.setTop (mkF mM 15 #[.val (.int p1), .val (.ref w2)] []))
    refine Goes.step (fun _ k => XS.aloadN X_12.here hx rfl (hb hby own_d1_15) rfl rfl k) ?_
    show Goes pP eE bB _ (T_12.setTop (mkF mM 16 #[.val (.int p1), .val (.ref w2)] [(.ref w2)]))
    refine Goes.step (fun _ k => XS.ifnullNo X_12.here hx rfl (hb hby own_d1_16) rfl k) ?_
    show Goes pP eE bB _ (T_12.setTop (mkF mM 19 #[.val (.int p1), .val (.ref w2)] []))
    refine Goes.step (fun _ k => XS.aloadN X_12.here hx rfl (hb hby own_d1_19) rfl rfl k) ?_
    show Goes pP eE bB _ (T_12.setTop (mkF mM 20 #[.val (.int p1), .val (.ref w2)] [(.ref w2)]))
    have u_13 := F2.ext E_9
    have u_15 := E2.ext E_9
    refine Goes.callV X_12 hx hZ hown (hw _ (List.mem_of_getElem? (i := 31) rfl)) (hw _ (List.mem_of_getElem? (i := 32) rfl)) (notFace_of_selects (args := #[]) (mvT hZ (hw _ (List.mem_of_getElem? (i := 34) rfl)))) (hw _ (List.mem_of_getElem? (i := 34) rfl)) (hw _ (List.mem_of_getElem? (i := 33) rfl)) (hw _ (List.mem_of_getElem? (i := 35) rfl)) (hw _ (List.mem_of_getElem? (i := 6) rfl)) (by decide) e_12 u_15 (rmD l Z a0 hw w2 (2 : Int32) h_9 n0 u_10 u_13) (W := 0) (by decide) (by decide) (by decide) (by decide) (g := (mkF mM 20 #[.val (.int p1), .val (.ref w2)] [(.ref w2)])) rfl (by rw [hml]; rfl) (rest := []) own_pd2 rfl rfl (by show 2 * 0 + _ ≤ _; exact Nat.le_of_eq rfl) (hb hby own_d1_20) ?_
    intro v_14 T_14 L_14 X_14 hQ_14
    obtain ⟨rfl, N_14q, e_14⟩ := hQ_14
    have N_14 := Fr.app N_12 N_14q
    show Goes pP eE bB _ (T_14.setTop (mkF mM 23 #[.val (.int p1), .val (.ref w2)] [(.int (2 : Int32))]))
    refine Goes.step (fun _ k => XS.iloadN X_14.here hx rfl (hb hby own_d1_23) rfl k) ?_
    show Goes pP eE bB _ (T_14.setTop (mkF mM 24 #[.val (.int p1), .val (.ref w2)] [(.int p1), (.int (2 : Int32))]))
    have hb_16 : (2 : Int32) = p1 := q2.symm
    refine Goes.step (fun _ k => XS.icmpYes X_14.here hx rfl (pc0 := 24) (pc' := 29) rfl (hb hby own_d1_24) rfl (teq hb_16).1 (by decide) (by decide) k) ?_
    show Goes pP eE bB _ (T_14.setTop (mkF mM 29 #[.val (.int p1), .val (.ref w2)] []))
    refine Goes.step (fun _ k => XS.iconst X_14.here hx rfl (hb hby own_d1_29) k) ?_
    show Goes pP eE bB _ (T_14.setTop (mkF mM 30 #[.val (.int p1), .val (.ref w2)] [(.int (1 : Int32))]))
    refine Goes.retN X_14 hx hlk (t := .boolean) hret (by simp) (hb hby own_d1_30) (by decide) (by decide) ?_
    exact ⟨rfl, N_14, by rw [e_14]; exact E_9⟩
  · skip
    show Goes pP eE bB _ (s₁.setTop (mkF mM 0 #[.val (.int p1), .unset] []))
    show Goes pP eE bB _ (s₁.setTop (mkF mM 0 #[.val (.int p1), .unset] []))
    refine Goes.step (fun _ k => XS.iloadN X0.here hx rfl (hb hby own_d1_0) rfl k) ?_
    show Goes pP eE bB _ (s₁.setTop (mkF mM 1 #[.val (.int p1), .unset] [(.int p1)]))
    refine Goes.callS X0 hx hZ hown (hw _ (List.mem_of_getElem? (i := 4) rfl)) (hw _ (List.mem_of_getElem? (i := 5) rfl)) (hw _ (List.mem_of_getElem? (i := 6) rfl)) (hw _ (List.mem_of_getElem? (i := 7) rfl)) (by decide) e0 (rmO l Z a0 hw p1 wv w1 w2 h0 n0 Z0 Sv f Av Ev O0 hf0 hf1 F1 F2) (W := 0) (by decide) (by decide) (by decide) (by decide) (g := (mkF mM 1 #[.val (.int p1), .unset] [(.int p1)])) rfl (by rw [hml]; rfl) (rest := []) own_pd1 rfl rfl (by show 2 * 0 + _ ≤ _; exact Nat.le_of_eq rfl) (hb hby own_d1_1) ?_
    intro v_17 T_17 L_17 X_17 hQ_17
    generalize e_17 : T_17.heap = h_17 at hQ_17
    obtain ⟨hv_17, N_17q, E_17⟩ := hQ_17
    rw [show own_of p1 w1 w2 = .null from by simp [own_of, Ne.symm q1, Ne.symm q2]] at hv_17
    subst hv_17
    have N_17 := Fr.app N0 N_17q
    show Goes pP eE bB _ (T_17.setTop (mkF mM 4 #[.val (.int p1), .unset] [.null]))
    refine Goes.step (fun _ k => XS.astoreN X_17.here hx rfl (hb hby own_d1_4) rfl rfl (l' := #[.val (.int p1), .val .null]) rfl k) ?_
    show Goes pP eE bB _ (T_17.setTop (mkF mM 5 #[.val (.int p1), .val .null] []))
    refine Goes.step (fun _ k => XS.aloadN X_17.here hx rfl (hb hby own_d1_5) rfl rfl k) ?_
    show Goes pP eE bB _ (T_17.setTop (mkF mM 6 #[.val (.int p1), .val .null] [.null]))
    refine Goes.step (fun _ k => XS.iloadN X_17.here hx rfl (hb hby own_d1_6) rfl k) ?_
    show Goes pP eE bB _ (T_17.setTop (mkF mM 7 #[.val (.int p1), .val .null] [(.int p1), .null]))
    have u_18 := Nat.le_trans Z0 E_17.1
    have u_19 := O0.ext E_17
    refine Goes.callS X_17 hx hZ hown (hw _ (List.mem_of_getElem? (i := 27) rfl)) (hw _ (List.mem_of_getElem? (i := 28) rfl)) (hw _ (List.mem_of_getElem? (i := 2) rfl)) (hw _ (List.mem_of_getElem? (i := 29) rfl)) (by decide) e_17 (rmX l Z a0 hw p1 w1 w2 h_17 n0 u_18 S1 S2 u_19) (W := 1) (by decide) (by decide) (by decide) (by decide) (g := (mkF mM 7 #[.val (.int p1), .val .null] [(.int p1), .null])) rfl (by rw [hml]; rfl) (rest := [.null]) own_pd1 rfl rfl (by show 2 * 0 + _ ≤ _; exact Nat.le_of_eq rfl) (hb hby own_d1_7) ?_
    intro v_20 T_20 L_20 X_20 hQ_20
    obtain ⟨hv_20, N_20q, e_20⟩ := hQ_20
    rw [show own_ex p1 w1 w2 = .null from by simp [own_ex, q1, q2]] at hv_20
    subst hv_20
    have N_20 := Fr.app N_17 N_20q
    show Goes pP eE bB _ (T_20.setTop (mkF mM 10 #[.val (.int p1), .val .null] [.null, .null]))
    refine Goes.step (fun _ k => Jvm.RoadKit.acmp (g := (mkF mM 10 #[.val (.int p1), .val .null] [.null, .null])) X_20 hx rfl rfl rfl (pc0 := 10) (pc' := 15) (same := true) rfl (hb hby own_d1_10) rfl (decide_eq_true rfl) (by decide) (by decide) k) ?_
    show Goes pP eE bB _ (T_20.setTop (mkF mM 15 #[.val (.int p1), .val .null] []))
    refine Goes.step (fun _ k => XS.aloadN X_20.here hx rfl (hb hby own_d1_15) rfl rfl k) ?_
    show Goes pP eE bB _ (T_20.setTop (mkF mM 16 #[.val (.int p1), .val .null] [.null]))
    refine Goes.step (fun _ k => XS.ifnullYes X_20.here hx rfl (pc0 := 16) (pc' := 29) rfl (hb hby own_d1_16) rfl (by decide) (by decide) k) ?_
    show Goes pP eE bB _ (T_20.setTop (mkF mM 29 #[.val (.int p1), .val .null] []))
    refine Goes.step (fun _ k => XS.iconst X_20.here hx rfl (hb hby own_d1_29) k) ?_
    show Goes pP eE bB _ (T_20.setTop (mkF mM 30 #[.val (.int p1), .val .null] [(.int (1 : Int32))]))
    refine Goes.retN X_20 hx hlk (t := .boolean) hret (by simp) (hb hby own_d1_30) (by decide) (by decide) ?_
    exact ⟨rfl, N_20, by rw [e_20]; exact E_17⟩
set_option maxRecDepth 65536 in
set_option maxHeartbeats 40000000 in
theorem rm0 (l : Launch) (Z : State) (a0 : Array Value) (hw : ∀ d ∈ tables_1, d.before a0 Z = true) (p1 p2 : Int32) (wv w1 w2 : Addr) (h0 : Heap) (n0 : Nat) (Z0 : n0 ≤ h0.size) (Sv : Sta Z Z.heap "com/example/bellbird/bellbird/events/BodyCipher" "$VALUES" "[Lcom/example/bellbird/bellbird/events/BodyCipher;" (.ref wv)) (S1 : Sta Z Z.heap "com/example/bellbird/bellbird/events/BodyCipher" "AES_256_GCM" "Lcom/example/bellbird/bellbird/events/BodyCipher;" (.ref w1)) (S2 : Sta Z Z.heap "com/example/bellbird/bellbird/events/BodyCipher" "CHACHA20_POLY1305" "Lcom/example/bellbird/bellbird/events/BodyCipher;" (.ref w2)) (f : Nat → Value) (Av : Afn Z h0 wv (.object "com/example/bellbird/bellbird/events/BodyCipher") 2 f) (Ev : Exa Z h0 wv "[Lcom/example/bellbird/bellbird/events/BodyCipher;") (O0 : Old Z n0 h0) (hf0 : f 0 = .ref w1) (hf1 : f 1 = .ref w2) (F1 : Fld Z h0 w1 "com/example/bellbird/bellbird/events/BodyCipher" "code" "I" (.int (1 : Int32))) (F2 : Fld Z h0 w2 "com/example/bellbird/bellbird/events/BodyCipher" "code" "I" (.int (2 : Int32))) (E1 : Exa Z h0 w1 "com/example/bellbird/bellbird/events/BodyCipher") (E2 : Exa Z h0 w2 "com/example/bellbird/bellbird/events/BodyCipher") :
    Con l Z x code maxLocals ret room_1 #[(.int p1), (.int p2)] h0 (fun v h L => v = some (.int 1) ∧ Fr n0 L) := by
  refine Con.body (plainFor_of_name own_pn1) ?_
  intro pP eE sS mM bB mT cC s₁ hx hby hml hZ hown hnm hret hlk X0 e0
  have hown : sS.vm.findClass "com/example/bellbird/bellbird/events/BodyCipherOfPinLaw" = some mM.cls := hown
  have hml : cC.maxLocals = 3 := hml
  have N0 := Fr.nil n0
  have ef : entryFrame mM #[(.int p1), (.int p2)] maxLocals = mkF mM 0 #[.val (.int p1), .val (.int p2), .unset] [] := by first | (simp [entryFrame, mkF, argsToLocals, Value.category, maxLocals]; done) | rfl
  rw [ef]
  show Goes pP eE bB _ (s₁.setTop (mkF mM 0 #[.val (.int p1), .val (.int p2), .unset] []))
  refine Goes.step (fun _ k => XS.iloadN X0.here hx rfl (hb hby at_0) rfl k) ?_
  show Goes pP eE bB _ (s₁.setTop (mkF mM 1 #[.val (.int p1), .val (.int p2), .unset] [(.int p2)]))
  refine Goes.step (fun _ k => XS.iconst X0.here hx rfl (hb hby at_1) k) ?_
  show Goes pP eE bB _ (s₁.setTop (mkF mM 2 #[.val (.int p1), .val (.int p2), .unset] [(.int (3 : Int32)), (.int p2)]))
  refine Goes.step (fun _ k => XS.iand X0.here hx rfl (hb hby at_2) rfl k) ?_
  show Goes pP eE bB _ (s₁.setTop (mkF mM 3 #[.val (.int p1), .val (.int p2), .unset] [(.int (p2 &&& (3 : Int32)))]))
  refine Goes.step (fun _ k => XS.istoreN X0.here hx rfl (hb hby at_3) rfl (l' := #[.val (.int p1), .val (.int p2), .val (.int (p2 &&& (3 : Int32)))]) rfl k) ?_
  show Goes pP eE bB _ (s₁.setTop (mkF mM 4 #[.val (.int p1), .val (.int p2), .val (.int (p2 &&& (3 : Int32)))] []))
  refine Goes.step (fun _ k => XS.iloadN X0.here hx rfl (hb hby at_4) rfl k) ?_
  show Goes pP eE bB _ (s₁.setTop (mkF mM 5 #[.val (.int p1), .val (.int p2), .val (.int (p2 &&& (3 : Int32)))] [(.int p1)]))
  refine Goes.callS X0 hx hZ hown (hw _ (List.mem_of_getElem? (i := 0) rfl)) (hw _ (List.mem_of_getElem? (i := 1) rfl)) (hw _ (List.mem_of_getElem? (i := 2) rfl)) (hw _ (List.mem_of_getElem? (i := 3) rfl)) (by decide) e0 (rmK l Z a0 hw p1 wv w1 w2 h0 n0 Z0 Sv S1 S2 f Av Ev O0 hf0 hf1 F1 F2 E1 E2) (W := 0) (by decide) (by decide) (by decide) (by decide) (g := (mkF mM 5 #[.val (.int p1), .val (.int p2), .val (.int (p2 &&& (3 : Int32)))] [(.int p1)])) rfl (by rw [hml]; rfl) (rest := []) own_pd3 rfl rfl (by show 2 * 0 + _ ≤ _; exact Nat.le_of_eq rfl) (hb hby at_5) ?_
  intro v_1 T_1 L_1 X_1 hQ_1
  generalize e_1 : T_1.heap = h_1 at hQ_1
  obtain ⟨rfl, N_1q, E_1⟩ := hQ_1
  have N_1 := Fr.app N0 N_1q
  show Goes pP eE bB _ (T_1.setTop (mkF mM 8 #[.val (.int p1), .val (.int p2), .val (.int (p2 &&& (3 : Int32)))] [(.int (1 : Int32))]))
  refine Goes.step (fun _ k => XS.ifNo X_1.here hx rfl (hb hby at_8) rfl ((if0 _ _).trans (feq (by decide)).1) k) ?_
  show Goes pP eE bB _ (T_1.setTop (mkF mM 11 #[.val (.int p1), .val (.int p2), .val (.int (p2 &&& (3 : Int32)))] []))
  refine Goes.step (fun _ k => XS.iloadN X_1.here hx rfl (hb hby at_11) rfl k) ?_
  show Goes pP eE bB _ (T_1.setTop (mkF mM 12 #[.val (.int p1), .val (.int p2), .val (.int (p2 &&& (3 : Int32)))] [(.int (p2 &&& (3 : Int32)))]))
  have u_2 := Nat.le_trans Z0 E_1.1
  have u_3 := Av.ext E_1
  have u_4 := Ev.ext E_1
  have u_5 := O0.ext E_1
  have u_6 := F1.ext E_1
  have u_7 := F2.ext E_1
  have u_8 := E1.ext E_1
  have u_9 := E2.ext E_1
  refine Goes.callS X_1 hx hZ hown (hw _ (List.mem_of_getElem? (i := 0) rfl)) (hw _ (List.mem_of_getElem? (i := 1) rfl)) (hw _ (List.mem_of_getElem? (i := 2) rfl)) (hw _ (List.mem_of_getElem? (i := 3) rfl)) (by decide) e_1 (rmK l Z a0 hw (p2 &&& (3 : Int32)) wv w1 w2 h_1 n0 u_2 Sv S1 S2 f u_3 u_4 u_5 hf0 hf1 u_6 u_7 u_8 u_9) (W := 0) (by decide) (by decide) (by decide) (by decide) (g := (mkF mM 12 #[.val (.int p1), .val (.int p2), .val (.int (p2 &&& (3 : Int32)))] [(.int (p2 &&& (3 : Int32)))])) rfl (by rw [hml]; rfl) (rest := []) own_pd3 rfl rfl (by show 2 * 0 + _ ≤ _; exact Nat.le_of_eq rfl) (hb hby at_12) ?_
  intro v_10 T_10 L_10 X_10 hQ_10
  generalize e_10 : T_10.heap = h_10 at hQ_10
  obtain ⟨rfl, N_10q, E_10⟩ := hQ_10
  have N_10 := Fr.app N_1 N_10q
  show Goes pP eE bB _ (T_10.setTop (mkF mM 15 #[.val (.int p1), .val (.int p2), .val (.int (p2 &&& (3 : Int32)))] [(.int (1 : Int32))]))
  refine Goes.step (fun _ k => XS.ifNo X_10.here hx rfl (hb hby at_15) rfl ((if0 _ _).trans (feq (by decide)).1) k) ?_
  show Goes pP eE bB _ (T_10.setTop (mkF mM 18 #[.val (.int p1), .val (.int p2), .val (.int (p2 &&& (3 : Int32)))] []))
  refine Goes.step (fun _ k => XS.iconst X_10.here hx rfl (hb hby at_18) k) ?_
  show Goes pP eE bB _ (T_10.setTop (mkF mM 19 #[.val (.int p1), .val (.int p2), .val (.int (p2 &&& (3 : Int32)))] [(.int (1 : Int32))]))
  refine Goes.step (fun _ k => XS.goto X_10.here hx rfl (pc0 := 19) (pc' := 23) rfl (hb hby at_19) (by decide) (by decide) k) ?_
  show Goes pP eE bB _ (T_10.setTop (mkF mM 23 #[.val (.int p1), .val (.int p2), .val (.int (p2 &&& (3 : Int32)))] [(.int (1 : Int32))]))
  refine Goes.retN X_10 hx hlk (t := .boolean) hret (by simp) (hb hby at_23) (by decide) (by decide) ?_
  exact ⟨rfl, N_10⟩
set_option maxRecDepth 65536 in
set_option maxHeartbeats 40000000 in
theorem comes_1 {Post : Tables → Env → Array Value → State → Outcome → State → Prop} (hpost : ∀ tb e args s v u, (limb_1_1.after args s (.returned v) u = true ∧ limb_1_2.after args s (.returned v) u = true ∧ True) → FrameEnd s (.returned v) u (Jvm.fieldLocs frame_1_writes args s ++ Jvm.arrayLocs frame_1_arrays args s ++ Jvm.staticLocs frame_1_statics s) 16 128 → Post tb e args s (.returned v) u) :
    ArmFor flags0 classFile x code maxLocals ret World_1 tables_1 room_1 Calls_1 rest_1 Pre_1 Post := by
  intro l hfl _ _ p e ha hc hk s m args below hf hA hF happ hP
  obtain ⟨hcalls, hrest, hpre⟩ := hP
  obtain ⟨-, -, -, hnamed, -, -, -, hat⟩ := (Spec.applies_iff hf).mp happ
  obtain ⟨hg, hn⟩ := and_e (Cond.before_iff.mp (show (Jvm.Cond.and given_1 narrow_1).before args s = true from hpre))
  obtain ⟨hcnt, g0⟩ := and_e hg
  obtain ⟨q0, g1⟩ := and_e g0
  have q1 := g1
  obtain ⟨w0, w1, rfl⟩ : ∃ w0 w1 : Value, args = #[w0, w1] := by
    have hs : args.size = 2 := by simpa [Cond.value, given_1] using hcnt
    obtain ⟨L⟩ := args
    match L, hs with
    | [w0, w1], _ => exact ⟨w0, w1, rfl⟩
  have hw := fun d (hd : d ∈ tables_1) => atoms_spec (ws := Jvm.Cond.code x code maxLocals ret :: tables_1) hat d (List.mem_cons_of_mem _ hd)
  obtain ⟨i0, e0⟩ := is_v q0
  obtain rfl : w0 = (.int i0) := Option.some.inj e0
  obtain ⟨i1, e1⟩ := is_v q1
  obtain rfl : w1 = (.int i1) := Option.some.inj e1
  obtain ⟨c0, n0⟩ := and_e hn
  obtain ⟨c1, n1⟩ := and_e n0
  obtain ⟨c2, n2⟩ := and_e n1
  obtain ⟨c3, n3⟩ := and_e n2
  obtain ⟨c4, n4⟩ := and_e n3
  obtain ⟨c5, n5⟩ := and_e n4
  obtain ⟨c6, n6⟩ := and_e n5
  obtain ⟨c7, n7⟩ := and_e n6
  have c8 := n7
  obtain ⟨wv, vwv⟩ := exa_v c1
  have Sv := Sta.start vwv (Or.inr ⟨hw _ (List.mem_of_getElem? (i := 6) rfl), hw _ (List.mem_of_getElem? (i := 12) rfl)⟩)
  have Ev := Exa.start vwv c1
  obtain ⟨w1, vw1⟩ := exa_v c3
  have S1 := Sta.start vw1 (Or.inr ⟨hw _ (List.mem_of_getElem? (i := 6) rfl), hw _ (List.mem_of_getElem? (i := 20) rfl)⟩)
  have E1 := Exa.start vw1 c3
  obtain ⟨w2, vw2⟩ := exa_v c5
  have S2 := Sta.start vw2 (Or.inr ⟨hw _ (List.mem_of_getElem? (i := 6) rfl), hw _ (List.mem_of_getElem? (i := 21) rfl)⟩)
  have E2 := Exa.start vw2 c5
  obtain ⟨cl, Ar⟩ := Arr.start vwv c0
  have hal := Ar.fin (Vm.Alike.refl _)
  obtain ⟨l1, l2⟩ := own_len vwv hal (eqv_i (Term.int_eval (2 : Int32)) c2)
  have x0 := (elem_in (own_eqR vw1 c4) vwv (Term.int_eval (0 : Int32)) Ar.1).2
  have x1 := (elem_in (own_eqR vw2 c6) vwv (Term.int_eval (1 : Int32)) Ar.1).2
  have F1 := Fld.start ((fld_at vw1).symm.trans (eqv_i (Term.int_eval (1 : Int32)) c7))
  have F2 := Fld.start ((fld_at vw2).symm.trans (eqv_i (Term.int_eval (2 : Int32)) c8))
  have hfit : Fit s := fun {y c} hc i hi => by
    obtain ⟨ha, rfl⟩ := Array.getElem?_eq_some_iff.mp hc
    have q := List.all_eq_true.mp ((Array.all_eq_true_iff_forall_mem.mp hF) _ (Array.getElem_mem ha)) i (List.mem_range.mpr hi)
    simpa [Array.getElem?_eq_getElem hi] using q
  have Av : Afn s s.heap wv (.object "com/example/bellbird/bellbird/events/BodyCipher") 2 (fun i => [Value.ref w1, Value.ref w2].getD i .null) := Afn.of_arv (Arv.start (vs := [.ref w1, .ref w2]) (dv := .null) hfit Ar l1 l2 (by decide) (show (2 : Int32).toNatClampNeg = 2 from by decide) ⟨x0, x1, trivial⟩) (by decide)
  obtain ⟨n, o, h1, h2, h3, _, L, rfl, ⟨rfl, N⟩, hq⟩ := rm0 l s _ hw i0 i1 wv w1 w2 s.heap s.heap.size (Nat.le_refl _) Sv S1 S2 _ Av Ev (Old.start s) rfl rfl F1 F2 E1 E2 tables_1 p e ha hc hk s m _ below hf ((Spec.applies_iff_loose hf).mp happ).1 ⟨rfl, State.Warmed39.refl s, rfl⟩ trivial
  refine ⟨n, _, h1, h2, h3, hpost _ _ _ _ _ _ ⟨Cond.after_iff.mpr rfl, Cond.after_iff.mpr (eq_i res_at (Term.int_eval (1)) rfl), trivial⟩ ⟨hq.1, hq.2.1, (hq.2.2.sift fun y hy => Or.inr (N y hy)).mono (by decide) (by decide)⟩⟩
theorem main_1_1 : Claimed_1_1 := comes_1 fun _ _ _ _ _ _ h hF => ⟨h.1, hF⟩
theorem main_1_2 : Claimed_1_2 := comes_1 fun _ _ _ _ _ _ h hF => ⟨h.2.1, hF⟩
end Jvm.Pilot.@@N@@
namespace Jvm.Pilot.@@N@@
open Jvm Jvm.ClassFile Sem Op Lib Jvm.Free Jvm.Stand Jvm.Pilot.@@N@@.Jvm.D
/-! MADE BY PROGRAM (witnessworld.py) out of the Statement's table words and the real class files: 13 classes; the members and pool entries that the words name. The judged class is class 1, her method 3. -/
namespace start1
open Jvm.ClassFile
def u (s : String) : CpInfo := .utf8 (stringToUtf16 s)
/-- a pool by its gaps: so many unusable entries, then the entry; so many at the end -/
def gap : Nat → List CpInfo → List CpInfo
  | 0, r => r
  | n + 1, r => .unusable :: gap n r
def poolList (es : List (Nat × CpInfo)) (last : Nat) : List CpInfo := es.foldr (fun e r => gap e.1 (e.2 :: r)) (gap last [])
def pool (es : List (Nat × CpInfo)) (last : Nat) : Array CpInfo := ⟨poolList es last⟩
def fileOf (pool : Array CpInfo) (this : Nat) (attrs : Array Attribute := #[]) (ms : Array MethodInfo := #[]) (fl : Nat := 33) (sup : Nat := 0) (ifs : Array Nat := #[]) (fds : Array FieldInfo := #[]) : ClassFile where
  minorVersion := 0
  majorVersion := 65
  constantPool := pool
  accessFlags := fl
  thisClass := this
  superClass := sup
  interfaces := ifs
  fields := fds
  methods := ms
  attributes := attrs
def plain (name : String) (sup : Option ClassId) : Class where
  name := name
  kind := .ordinary
  loader := none
  accessFlags := 33
  super := sup
  interfaces := #[]
  cf := none
  fields := #[]
  methods := #[]
  instanceTypes := #[]
  staticTypes := #[]
  resolved := #[]
  callSites := []
  init := .initialized
  statics := none
  mirror := none

def pool0 : Array CpInfo := pool [(5, u "<init>"), (0, u "()V"), (1, .class_ 10), (1, u "java/lang/Object"), (85, u "clone"), (0, u "()Ljava/lang/Object;")] 26

def k0m0 : Method := { name := "<init>", desc := "()V", sig := { parameters := [], returnType := none }, accessFlags := 1, code := none }
def k0m1 : Method := { name := "clone", desc := "()Ljava/lang/Object;", sig := { parameters := [], returnType := some (.object "java/lang/Object") }, accessFlags := 260, code := none }
/-- java/lang/Object -/
def k0 : Class := { plain "java/lang/Object" none with
  accessFlags := 33
  interfaces := #[]
  cf := some (fileOf pool0 8 #[] #[{ accessFlags := 1, nameIndex := 5, descriptorIndex := 6, attributes := #[] }, { accessFlags := 260, nameIndex := 96, descriptorIndex := 97, attributes := #[] }] 33 0 #[] #[])
  fields := #[]
  methods := #[k0m0, k0m1]
  instanceTypes := #[]
  staticTypes := #[]
  resolved := Array.replicate 124 none
  statics := none }

def pool1 : Array CpInfo := pool [(2, .class_ 4), (1, u "java/lang/Object"), (0, u "<init>"), (0, u "()V"), (0, .fieldref 8 9), (0, .class_ 10), (0, .nameAndType 11 12), (0, u "com/example/bellbird/bellbird/events/BodyCipher"), (0, u "AES_256_GCM"), (0, u "Lcom/example/bellbird/bellbird/events/BodyCipher;"), (0, .fieldref 8 14), (0, .nameAndType 15 12), (0, u "CHACHA20_POLY1305"), (0, .methodref 8 17), (0, .nameAndType 18 19), (0, u "of"), (0, u "(I)Lcom/example/bellbird/bellbird/events/BodyCipher;"), (0, .methodref 21 22), (0, .class_ 23), (0, .nameAndType 24 19), (0, u "com/example/bellbird/bellbird/events/BodyCipherOfPinLaw"), (0, u "expected"), (0, .methodref 8 26), (0, .nameAndType 27 28), (0, u "code"), (0, u "()I"), (0, .methodref 21 30), (0, .nameAndType 31 32), (0, u "check"), (0, u "(I)Z"), (3, u "law"), (0, u "(II)Z")] 2

def k1m0 : Method := { name := "<init>", desc := "()V", sig := { parameters := [], returnType := none }, accessFlags := 2, code := none }
def k1c1 : Code := { maxStack := 2, maxLocals := 1, code := method_2_code, exceptionTable := #[], attributes := #[] }
def k1m1 : Method := { name := "expected", desc := "(I)Lcom/example/bellbird/bellbird/events/BodyCipher;", sig := { parameters := [.int], returnType := some (.object "com/example/bellbird/bellbird/events/BodyCipher") }, accessFlags := 10, code := some k1c1 }
def k1c2 : Code := { maxStack := 2, maxLocals := 2, code := method_3_code, exceptionTable := #[], attributes := #[] }
def k1m2 : Method := { name := "check", desc := "(I)Z", sig := { parameters := [.int], returnType := some .boolean }, accessFlags := 10, code := some k1c2 }
def k1c3 : Code := { maxStack := 2, maxLocals := 3, code := code, exceptionTable := #[], attributes := #[] }
def k1m3 : Method := { name := "law", desc := "(II)Z", sig := { parameters := [.int, .int], returnType := some .boolean }, accessFlags := 9, code := some k1c3 }
/-- com/example/bellbird/bellbird/events/BodyCipherOfPinLaw -/
def k1 : Class := { plain "com/example/bellbird/bellbird/events/BodyCipherOfPinLaw" (some 0) with
  accessFlags := 49
  interfaces := #[]
  cf := some (fileOf pool1 21 #[] #[{ accessFlags := 2, nameIndex := 5, descriptorIndex := 6, attributes := #[] }, { accessFlags := 10, nameIndex := 24, descriptorIndex := 19, attributes := #[] }, { accessFlags := 10, nameIndex := 31, descriptorIndex := 32, attributes := #[] }, { accessFlags := 9, nameIndex := 36, descriptorIndex := 37, attributes := #[] }] 49 2 #[] #[])
  fields := #[]
  methods := #[k1m0, k1m1, k1m2, k1m3]
  instanceTypes := #[]
  staticTypes := #[]
  resolved := Array.replicate 40 none
  statics := none }

def pool2 : Array CpInfo := pool [(1, .class_ 2), (0, u "java/lang/constant/Constable"), (0, .class_ 4), (0, u "java/lang/Object")] 6

/-- java/lang/constant/Constable -/
def k2 : Class := { plain "java/lang/constant/Constable" (some 0) with
  accessFlags := 1537
  interfaces := #[]
  cf := some (fileOf pool2 1 #[] #[] 1537 3 #[] #[])
  fields := #[]
  methods := #[]
  instanceTypes := #[]
  staticTypes := #[]
  resolved := Array.replicate 11 none
  statics := none }

def pool3 : Array CpInfo := pool [(1, .class_ 2), (0, u "java/lang/Comparable"), (0, .class_ 4), (0, u "java/lang/Object")] 7

/-- java/lang/Comparable -/
def k3 : Class := { plain "java/lang/Comparable" (some 0) with
  accessFlags := 1537
  interfaces := #[]
  cf := some (fileOf pool3 1 #[] #[] 1537 3 #[] #[])
  fields := #[]
  methods := #[]
  instanceTypes := #[]
  staticTypes := #[]
  resolved := Array.replicate 12 none
  statics := none }

def pool4 : Array CpInfo := pool [(1, .class_ 2), (0, u "java/io/Serializable"), (0, .class_ 4), (0, u "java/lang/Object")] 2

/-- java/io/Serializable -/
def k4 : Class := { plain "java/io/Serializable" (some 0) with
  accessFlags := 1537
  interfaces := #[]
  cf := some (fileOf pool4 1 #[] #[] 1537 3 #[] #[])
  fields := #[]
  methods := #[]
  instanceTypes := #[]
  staticTypes := #[]
  resolved := Array.replicate 7 none
  statics := none }

def pool5 : Array CpInfo := pool [(2, .class_ 4), (1, u "java/lang/Enum"), (0, u "name"), (0, u "Ljava/lang/String;"), (2, u "ordinal"), (0, u "I"), (1, .class_ 14), (1, u "java/lang/Object"), (4, u "hash"), (86, .class_ 108), (1, u "java/lang/Enum$EnumDesc"), (2, .class_ 112), (0, u "java/lang/constant/Constable"), (0, .class_ 114), (0, u "java/lang/Comparable"), (0, .class_ 116), (0, u "java/io/Serializable")] 87

/-- java/lang/Enum -/
def k5 : Class := { plain "java/lang/Enum" (some 0) with
  accessFlags := 1057
  interfaces := #[2, 3, 4]
  cf := some (fileOf pool5 2 #[.nestMembers #[106]] #[] 1057 12 #[111, 113, 115] #[{ accessFlags := 18, nameIndex := 5, descriptorIndex := 6, attributes := #[] }, { accessFlags := 18, nameIndex := 9, descriptorIndex := 10, attributes := #[] }, { accessFlags := 2, nameIndex := 19, descriptorIndex := 10, attributes := #[] }])
  fields := #[{ name := "name", type := (.object "java/lang/String"), accessFlags := 18, slot := 0, constantValue := 0 }, { name := "ordinal", type := .int, accessFlags := 18, slot := 1, constantValue := 0 }, { name := "hash", type := .int, accessFlags := 2, slot := 2, constantValue := 0 }]
  methods := #[]
  instanceTypes := #[(.object "java/lang/String"), .int, .int]
  staticTypes := #[]
  resolved := Array.replicate 204 none
  statics := none }

def pool6 : Array CpInfo := pool [(1, .class_ 2), (0, u "com/example/bellbird/bellbird/events/BodyCipher"), (2, u "AES_256_GCM"), (0, u "Lcom/example/bellbird/bellbird/events/BodyCipher;"), (2, u "CHACHA20_POLY1305"), (0, .fieldref 1 11), (0, .nameAndType 12 13), (0, u "$VALUES"), (0, u "[Lcom/example/bellbird/bellbird/events/BodyCipher;"), (0, .methodref 15 16), (0, .class_ 13), (0, .nameAndType 17 18), (0, u "clone"), (0, u "()Ljava/lang/Object;"), (1, .class_ 22), (1, u "java/lang/Enum"), (6, .fieldref 1 30), (0, .nameAndType 31 32), (0, u "code"), (0, u "I"), (2, u "words"), (0, u "Ljava/lang/String;"), (2, u "transformation"), (2, u "keyAlgorithm"), (0, .methodref 1 44), (0, .nameAndType 45 46), (0, u "values"), (0, u "()[Lcom/example/bellbird/bellbird/events/BodyCipher;"), (3, u "()I"), (50, u "TAG_LENGTH"), (8, u "of"), (0, u "(I)Lcom/example/bellbird/bellbird/events/BodyCipher;")] 15

def k6c0 : Code := { maxStack := 1, maxLocals := 0, code := prog_28_method_1_code, exceptionTable := #[], attributes := #[] }
def k6m0 : Method := { name := "values", desc := "()[Lcom/example/bellbird/bellbird/events/BodyCipher;", sig := { parameters := [], returnType := some (.array (.object "com/example/bellbird/bellbird/events/BodyCipher")) }, accessFlags := 9, code := some k6c0 }
def k6c1 : Code := { maxStack := 1, maxLocals := 1, code := prog_28_method_4_code, exceptionTable := #[], attributes := #[] }
def k6m1 : Method := { name := "code", desc := "()I", sig := { parameters := [], returnType := some .int }, accessFlags := 1, code := some k6c1 }
def k6c2 : Code := { maxStack := 2, maxLocals := 5, code := prog_28_method_5_code, exceptionTable := #[], attributes := #[] }
def k6m2 : Method := { name := "of", desc := "(I)Lcom/example/bellbird/bellbird/events/BodyCipher;", sig := { parameters := [.int], returnType := some (.object "com/example/bellbird/bellbird/events/BodyCipher") }, accessFlags := 9, code := some k6c2 }
/-- com/example/bellbird/bellbird/events/BodyCipher -/
def k6 : Class := { plain "com/example/bellbird/bellbird/events/BodyCipher" (some 5) with
  accessFlags := 16433
  interfaces := #[]
  cf := some (fileOf pool6 1 #[] #[{ accessFlags := 9, nameIndex := 45, descriptorIndex := 46, attributes := #[] }, { accessFlags := 1, nameIndex := 31, descriptorIndex := 50, attributes := #[] }, { accessFlags := 9, nameIndex := 110, descriptorIndex := 111, attributes := #[] }] 16433 20 #[] #[{ accessFlags := 16409, nameIndex := 5, descriptorIndex := 6, attributes := #[] }, { accessFlags := 16409, nameIndex := 9, descriptorIndex := 6, attributes := #[] }, { accessFlags := 24, nameIndex := 101, descriptorIndex := 32, attributes := #[] }, { accessFlags := 18, nameIndex := 31, descriptorIndex := 32, attributes := #[] }, { accessFlags := 18, nameIndex := 35, descriptorIndex := 36, attributes := #[] }, { accessFlags := 18, nameIndex := 39, descriptorIndex := 36, attributes := #[] }, { accessFlags := 18, nameIndex := 42, descriptorIndex := 36, attributes := #[] }, { accessFlags := 4122, nameIndex := 12, descriptorIndex := 13, attributes := #[] }])
  fields := #[{ name := "AES_256_GCM", type := (.object "com/example/bellbird/bellbird/events/BodyCipher"), accessFlags := 16409, slot := 0, constantValue := 0 }, { name := "CHACHA20_POLY1305", type := (.object "com/example/bellbird/bellbird/events/BodyCipher"), accessFlags := 16409, slot := 1, constantValue := 0 }, { name := "TAG_LENGTH", type := .int, accessFlags := 24, slot := 2, constantValue := 0 }, { name := "code", type := .int, accessFlags := 18, slot := 3, constantValue := 0 }, { name := "words", type := (.object "java/lang/String"), accessFlags := 18, slot := 4, constantValue := 0 }, { name := "transformation", type := (.object "java/lang/String"), accessFlags := 18, slot := 5, constantValue := 0 }, { name := "keyAlgorithm", type := (.object "java/lang/String"), accessFlags := 18, slot := 6, constantValue := 0 }, { name := "$VALUES", type := (.array (.object "com/example/bellbird/bellbird/events/BodyCipher")), accessFlags := 4122, slot := 3, constantValue := 0 }]
  methods := #[k6m0, k6m1, k6m2]
  instanceTypes := #[(.object "java/lang/String"), .int, .int, .int, (.object "java/lang/String"), (.object "java/lang/String"), (.object "java/lang/String")]
  staticTypes := #[(.object "com/example/bellbird/bellbird/events/BodyCipher"), (.object "com/example/bellbird/bellbird/events/BodyCipher"), .int, (.array (.object "com/example/bellbird/bellbird/events/BodyCipher"))]
  resolved := Array.replicate 127 none
  statics := some 0 }

def pool7 : Array CpInfo := pool [(1, .class_ 2), (0, u "java/lang/Cloneable"), (0, .class_ 4), (0, u "java/lang/Object")] 2

/-- java/lang/Cloneable -/
def k7 : Class := { plain "java/lang/Cloneable" (some 0) with
  accessFlags := 1537
  interfaces := #[]
  cf := some (fileOf pool7 1 #[] #[] 1537 3 #[] #[])
  fields := #[]
  methods := #[]
  instanceTypes := #[]
  staticTypes := #[]
  resolved := Array.replicate 7 none
  statics := none }

/-- the primitive byte -/
def k8 : Class := { plain "byte" none with kind := .primitive 'B', accessFlags := 0x411 }
/-- [B -/
def k9 : Class := { plain "[B" (some 0) with kind := .array 8 .byte, interfaces := #[7, 4], accessFlags := 1041 }

/-- the primitive int -/
def k10 : Class := { plain "int" none with kind := .primitive 'I', accessFlags := 0x411 }
/-- [I -/
def k11 : Class := { plain "[I" (some 0) with kind := .array 10 .int, interfaces := #[7, 4], accessFlags := 1041 }

/-- [Lcom/example/bellbird/bellbird/events/BodyCipher; -/
def k12 : Class := { plain "[Lcom/example/bellbird/bellbird/events/BodyCipher;" (some 0) with kind := .array 6 (.object "com/example/bellbird/bellbird/events/BodyCipher"), interfaces := #[7, 4], accessFlags := 1041 }

def heap : Heap := #[{ cls := 6, slots := #[.ref 2, .ref 3, .int 0, .ref 1], vm := .statics 6 },
  { cls := 12, slots := #[.ref 2, .ref 3], vm := .none },
  { cls := 6, slots := #[.null, .int 0, .int 0, .int 1, .null, .null, .null], vm := .none },
  { cls := 6, slots := #[.null, .int 1, .int 0, .int 2, .null, .null, .null], vm := .none }]
def classes : Array Class := #[k0, k1, k2, k3, k4, k5, k6, k7, k8, k9, k10, k11, k12]
def interned : List (Array UInt16 × Addr) := []
def slotsUsed : Nat := 20
def theMethod : MethodId := ⟨1, 3⟩
def args0 : Array Value := #[.int 2, .int 7]
def aboutOver (below : List Frame) : State where
  vm := { classes := classes, interned := interned.toArray }
  heap := heap
  slotsUsed := slotsUsed
  threads := #[{ frames := .invoking theMethod args0 :: below }]
def below0 : List Frame := [.native { method := ⟨0, 0⟩, args := #[] }]
def about1 : State := aboutOver below0
def p0 : Program := .bare "" "" ""
def e0 : Env := launch0.env 0 0 0
theorem w_frames : about1.frames = Frame.invoking theMethod args0 :: below0 := rfl
set_option maxRecDepth 65536 in
theorem w_args : argsFit about1.vm theMethod args0 = true := by decide +kernel
set_option maxRecDepth 65536 in
theorem w_heap : heapFits about1 = true := by decide +kernel
set_option maxRecDepth 65536 in
theorem w_runnable : about1.curStatus? = some .runnable := by decide +kernel
set_option maxRecDepth 65536 in
theorem w_alone : about1.alone = true := by decide +kernel
set_option maxRecDepth 65536 in
theorem w_named : about1.methodNamed? x = some theMethod := by decide +kernel
set_option maxRecDepth 65536 in
theorem w_hears : about1.hears theMethod below0 = true := by decide +kernel
set_option maxRecDepth 65536 in
theorem w_ripe : about1.ripe theMethod args0 below0 = true := by decide +kernel
theorem w_running : about1.status = .running := rfl
set_option maxRecDepth 65536 in
theorem w_room : about1.hasRoom e0.platform room_1 = true :=
  launch0.hasRoom_least _ room_1 (by decide +kernel) (by decide +kernel) (by decide +kernel) (by decide +kernel) (by decide +kernel) (by decide +kernel)
theorem allAtoms_all (ts : List Jvm.Cond) (a : Array Jvm.Value) (st : Jvm.State) : (allAtoms ts).before a st = ts.all (fun c => c.before a st) := by
  induction ts with
  | nil => rfl
  | cons c t ih =>
    show (Jvm.Cond.and c (allAtoms t)).before a st = _
    rw [Jvm.Cond.before_and, ih, List.all_cons]
def words1 : List Jvm.Cond := Jvm.Cond.code x code maxLocals ret :: tables_1
/-- a 'code' word, met by the world's own term for the bytes: nothing is compared byte by byte -/
theorem code_word {y : MethodName} {bytes : ByteArray} {mx : Nat} {rt : Option FieldType} {a : Array Value} {s : State} {m : MethodId} {meth : Method} {c : Code} (h1 : s.methodNamed? y = some m) (h2 : s.vm.method? m = some meth) (h3 : meth.code = some c) (h4 : c.code = bytes)
    (h5 : (c.maxLocals == mx && c.exceptionTable.isEmpty && decide (c.maxStack ≤ mostOperands) && decide (meth.sig.returnType = rt) && !meth.locks && decide (parseMethodDescriptor y.desc = some meth.sig)) = true) : (Jvm.Cond.code y bytes mx rt).before a s = true := by
  simp only [Bool.and_eq_true, beq_iff_eq, Bool.not_eq_true', decide_eq_true_eq] at h5
  obtain ⟨⟨⟨⟨⟨g1, g2⟩, g3⟩, g4⟩, g5⟩, g6⟩ := h5
  simp [Cond.before, Cond.holds, Cond.value, h1, h2, h3, h4, g1, g2, g3, g4, g5, g6]
def isCode : Jvm.Cond → Bool
  | .code _ _ _ _ => true
  | _ => false
theorem all_split {L : List Jvm.Cond} {P : Jvm.Cond → Bool} (h1 : L.all (fun c => isCode c || P c) = true) (h2 : ∀ c ∈ L.filter isCode, P c = true) : L.all P = true := by
  refine List.all_eq_true.mpr fun c hc => ?_
  have h := List.all_eq_true.mp h1 c hc
  rcases Bool.eq_false_or_eq_true (isCode c) with hi | hi
  · exact h2 c (List.mem_filter.mpr ⟨hc, hi⟩)
  · simpa [hi] using h
set_option maxRecDepth 65536 in
theorem w_c0 : (Jvm.Cond.code x code maxLocals ret).before args0 about1 = true := code_word (m := ⟨1, 3⟩) (meth := k1m3) (c := k1c3) (by decide +kernel) rfl rfl rfl (by decide +kernel)
set_option maxRecDepth 65536 in
theorem w_c1 : (Jvm.Cond.code ({ cls := "com/example/bellbird/bellbird/events/BodyCipherOfPinLaw", name := "check", desc := "(I)Z" } : Jvm.MethodName) method_3_code (2 : Nat) (Option.some Jvm.ClassFile.FieldType.boolean)).before args0 about1 = true := code_word (m := ⟨1, 2⟩) (meth := k1m2) (c := k1c2) (by decide +kernel) rfl rfl rfl (by decide +kernel)
set_option maxRecDepth 65536 in
theorem w_c2 : (Jvm.Cond.code ({ cls := "com/example/bellbird/bellbird/events/BodyCipher", name := "of", desc := "(I)Lcom/example/bellbird/bellbird/events/BodyCipher;" } : Jvm.MethodName) prog_28_method_5_code (5 : Nat) (Option.some (Jvm.ClassFile.FieldType.object "com/example/bellbird/bellbird/events/BodyCipher"))).before args0 about1 = true := code_word (m := ⟨6, 2⟩) (meth := k6m2) (c := k6c2) (by decide +kernel) rfl rfl rfl (by decide +kernel)
set_option maxRecDepth 65536 in
theorem w_c3 : (Jvm.Cond.code ({ cls := "com/example/bellbird/bellbird/events/BodyCipher", name := "values", desc := "()[Lcom/example/bellbird/bellbird/events/BodyCipher;" } : Jvm.MethodName) prog_28_method_1_code (0 : Nat) (Option.some (Jvm.ClassFile.FieldType.array (Jvm.ClassFile.FieldType.object "com/example/bellbird/bellbird/events/BodyCipher")))).before args0 about1 = true := code_word (m := ⟨6, 0⟩) (meth := k6m0) (c := k6c0) (by decide +kernel) rfl rfl rfl (by decide +kernel)
set_option maxRecDepth 65536 in
theorem w_c4 : (Jvm.Cond.code ({ cls := "com/example/bellbird/bellbird/events/BodyCipherOfPinLaw", name := "expected", desc := "(I)Lcom/example/bellbird/bellbird/events/BodyCipher;" } : Jvm.MethodName) method_2_code (1 : Nat) (Option.some (Jvm.ClassFile.FieldType.object "com/example/bellbird/bellbird/events/BodyCipher"))).before args0 about1 = true := code_word (m := ⟨1, 1⟩) (meth := k1m1) (c := k1c1) (by decide +kernel) rfl rfl rfl (by decide +kernel)
set_option maxRecDepth 65536 in
theorem w_c5 : (Jvm.Cond.code ({ cls := "com/example/bellbird/bellbird/events/BodyCipher", name := "code", desc := "()I" } : Jvm.MethodName) prog_28_method_4_code (1 : Nat) (Option.some Jvm.ClassFile.FieldType.int)).before args0 about1 = true := code_word (m := ⟨6, 1⟩) (meth := k6m1) (c := k6c1) (by decide +kernel) rfl rfl rfl (by decide +kernel)
def codes1 : List Jvm.Cond := [Jvm.Cond.code x code maxLocals ret, Jvm.Cond.code ({ cls := "com/example/bellbird/bellbird/events/BodyCipherOfPinLaw", name := "check", desc := "(I)Z" } : Jvm.MethodName) method_3_code (2 : Nat) (Option.some Jvm.ClassFile.FieldType.boolean), Jvm.Cond.code ({ cls := "com/example/bellbird/bellbird/events/BodyCipher", name := "of", desc := "(I)Lcom/example/bellbird/bellbird/events/BodyCipher;" } : Jvm.MethodName) prog_28_method_5_code (5 : Nat) (Option.some (Jvm.ClassFile.FieldType.object "com/example/bellbird/bellbird/events/BodyCipher")), Jvm.Cond.code ({ cls := "com/example/bellbird/bellbird/events/BodyCipher", name := "values", desc := "()[Lcom/example/bellbird/bellbird/events/BodyCipher;" } : Jvm.MethodName) prog_28_method_1_code (0 : Nat) (Option.some (Jvm.ClassFile.FieldType.array (Jvm.ClassFile.FieldType.object "com/example/bellbird/bellbird/events/BodyCipher"))), Jvm.Cond.code ({ cls := "com/example/bellbird/bellbird/events/BodyCipherOfPinLaw", name := "expected", desc := "(I)Lcom/example/bellbird/bellbird/events/BodyCipher;" } : Jvm.MethodName) method_2_code (1 : Nat) (Option.some (Jvm.ClassFile.FieldType.object "com/example/bellbird/bellbird/events/BodyCipher")), Jvm.Cond.code ({ cls := "com/example/bellbird/bellbird/events/BodyCipher", name := "code", desc := "()I" } : Jvm.MethodName) prog_28_method_4_code (1 : Nat) (Option.some Jvm.ClassFile.FieldType.int)]
set_option maxRecDepth 65536 in
theorem codes_eq : words1.filter isCode = codes1 := rfl
theorem w_codes : ∀ c ∈ words1.filter isCode, c.before args0 about1 = true := by
  rw [codes_eq]
  intro c hc
  simp only [codes1, List.mem_cons, List.not_mem_nil, or_false] at hc
  rcases hc with rfl | rfl | rfl | rfl | rfl | rfl
  · exact w_c0
  · exact w_c1
  · exact w_c2
  · exact w_c3
  · exact w_c4
  · exact w_c5
set_option maxRecDepth 65536 in
theorem w_t1 : (words1.take 24).all (fun c => isCode c || c.before args0 about1) = true := by decide +kernel
set_option maxRecDepth 65536 in
theorem w_t2 : (words1.drop 24).all (fun c => isCode c || c.before args0 about1) = true := by decide +kernel
theorem w_tables : (allAtoms (Jvm.Cond.code x code maxLocals ret :: tables_1)).before args0 about1 = true := by
  rw [allAtoms_all]
  show words1.all (fun c => c.before args0 about1) = true
  refine all_split ?_ w_codes
  rw [← List.take_append_drop 24 words1, List.all_append, w_t1, w_t2]
  rfl
set_option maxRecDepth 65536 in
theorem w_case : (Jvm.Cond.and given_1 narrow_1).before args0 about1 = true := by decide +kernel
theorem w_applies : (headSpec (Jvm.Cond.code x code maxLocals ret :: tables_1) room_1).applies x e0.platform about1 = true :=
  (Spec.applies_iff w_frames).mpr ⟨w_running, w_runnable, w_alone, w_named, w_hears, w_ripe, w_room, w_tables⟩
theorem atStart : AtStart classFile x code maxLocals ret World_1 tables_1 room_1 Calls_1 rest_1 Pre_1 launch0 p0 e0 about1 theMethod args0 below0 :=
  ⟨lists_1, trivial, launch0.admits_env _ _ _, launch0.least_env, fairChoices_fair.cas, fairChoices_fair.clock, w_frames, w_args, w_heap, w_applies, trivial, trivial, w_case⟩
end start1
theorem witness_1 : WitnessClaimed_1 := ⟨start1.p0, start1.e0, start1.about1, start1.theMethod, start1.args0, start1.below0, start1.atStart⟩
end Jvm.Pilot.@@N@@
