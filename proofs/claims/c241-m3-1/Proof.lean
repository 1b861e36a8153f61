import JvmDerived
import JvmDerived.Pilot.@@N@@Statement
import JvmDerived.Pilot.@@N@@Code
set_option linter.unusedVariables false
set_option linter.unusedSimpArgs false
namespace Jvm.Pilot.@@N@@
open Jvm Jvm.ClassFile Sem Op Lib Jvm.Free Jvm.Stand Jvm.LawKit Jvm.RoadKit Bundle Jvm.Pilot.@@N@@.Jvm.D
section Own
variable {p : Program} {l : Launch} {e : Env} {R : Room} {s : State} {m : MethodId} {args : Array Value} {below : List Frame} {meth : Method} {c : Code} {T : State} {locs : List Loc} {cells slots : Nat} {Z : State} {a0 : Array Value} {h : Heap}
/-- from t the run comes to an end that P speaks of -/
def Goes (p : Program) (e : Env) (below : List Frame) (P : State → Outcome → Prop) (t : State) : Prop :=
  ∃ s₂ o, Steps p.tables e below t s₂ ∧ s₂.status = .running ∧ Ended s₂ below o ∧ P s₂ o
/-- it returned, what Q says, and the frame -/
def Aim (s : State) (Q : Option Value → Heap → List Loc → Prop) (k n : Nat) (s₂ : State) (o : Outcome) : Prop :=
  ∃ v L, o = .returned v ∧ Q v s₂.heap L ∧ FrameEnd s o s₂ L k n
theorem Goes.step {P : State → Outcome → Prop} {t t' : State} (st : ∀ tgt, Steps p.tables e below t' tgt → Steps p.tables e below t tgt) (q : Goes p e below P t') : Goes p e below P t := by
  obtain ⟨s₂, o, k, r⟩ := q
  exact ⟨s₂, o, st _ k, r⟩
theorem Goes.tr {P : State → Outcome → Prop} {t t' : State} (st : Steps p.tables e below t t') (q : Goes p e below P t') : Goes p e below P t := by
  obtain ⟨s₂, o, k, r⟩ := q
  exact ⟨s₂, o, st.trans k, r⟩
theorem Goes.retN (X : Stand p l e R s m args below meth c T locs cells slots) (hx : p.tables.exec = Jvm.exec) (hlk : meth.locks = false) {t : FieldType} (hret : meth.sig.returnType = some t) (ht : t = .boolean ∨ t = .byte ∨ t = .char ∨ t = .short) {pc : Nat} {Ls : Array Slot} {z : Int32} {rest : List Value}
    (hd : decode c.code pc = .ok (.ireturn, 1)) {Q : Option Value → Heap → List Loc → Prop} {k n : Nat} (hk : cells ≤ k) (hn : slots ≤ n) (hQ : Q (some (.int (nar t z))) T.heap locs) :
    Goes p e below (Aim s Q k n) (T.setTop (mkF m pc Ls (.int z :: rest))) := by
  obtain ⟨fs, hr, hrun, hended, hW, hsame⟩ := X.leave (v := some (.int (nar t z))) (fun h => by rw [hret] at h; cases h) hlk
  exact ⟨_, _, Jvm.RoadKit.retN X hx hret ht hd hr, hrun, hended, _, _, rfl, hQ, ⟨_, rfl⟩, hW, hsame.mono hk hn⟩
theorem Goes.ret (X : Stand p l e R s m args below meth c T locs cells slots) (hx : p.tables.exec = Jvm.exec) (hlk : meth.locks = false) {t : FieldType} (hret : meth.sig.returnType = some t) {w : Value} (hnr : narrow t w = w) {i : Instr} {pc : Nat} {Ls : Array Slot} {rest : List Value}
    (hi : (i = .ireturn ∧ (t = .int ∨ t = .boolean ∨ t = .byte ∨ t = .char ∨ t = .short) ∧ ∃ z, w = .int z) ∨ (i = .lreturn ∧ t = .long ∧ ∃ z, w = .long z) ∨ (i = .dreturn ∧ t = .double ∧ ∃ z, w = .double z) ∨ (i = .freturn ∧ t = .float ∧ ∃ z, w = .float z) ∨ (i = .areturn ∧ t.isReference = true ∧ w.isRef = true))
    (hd : decode c.code pc = .ok (i, 1)) {Q : Option Value → Heap → List Loc → Prop} {k n : Nat} (hk : cells ≤ k) (hn : slots ≤ n) (hQ : Q (some w) T.heap locs) :
    Goes p e below (Aim s Q k n) (T.setTop (mkF m pc Ls (w :: rest))) := by
  obtain ⟨fs, hr, hrun, hended, hW, hsame⟩ := X.leave (v := some w) (fun h => by rw [hret] at h; cases h) hlk
  exact ⟨_, _, Jvm.RoadKit.retOut X hx hret hnr hi hd hr, hrun, hended, _, _, rfl, hQ, ⟨_, rfl⟩, hW, hsame.mono hk hn⟩
theorem Goes.ret0 (X : Stand p l e R s m args below meth c T locs cells slots) (hx : p.tables.exec = Jvm.exec) (hlk : meth.locks = false) (hret : meth.sig.returnType = none) {pc : Nat} {Ls : Array Slot}
    (hd : decode c.code pc = .ok (.return_, 1)) {Q : Option Value → Heap → List Loc → Prop} {k n : Nat} (hk : cells ≤ k) (hn : slots ≤ n) (hQ : Q none T.heap locs) :
    Goes p e below (Aim s Q k n) (T.setTop (mkF m pc Ls [])) := by
  obtain ⟨fs, hr, hrun, hended, hW, hsame⟩ := X.leave (v := none) (fun _ => rfl) hlk
  exact ⟨_, _, X.returnOut hx hret hd hr, hrun, hended, _, _, rfl, hQ, ⟨_, rfl⟩, hW, hsame.mono hk hn⟩
/-- a body's contract: called with these arguments over the heap h0 it returns, and Q says what it leaves -/
def Con (l : Launch) (Z : State) (y : MethodName) (bytes : ByteArray) (maxL : Nat) (ret : Option FieldType) (rm : Room) (as : Array Value) (h0 : Heap) (Q : Option Value → Heap → List Loc → Prop) : Prop :=
  ∀ ws : List Jvm.Cond, MetFree l y (head1 (Jvm.Cond.code y bytes maxL ret :: ws) rm) (fun a U => a = as ∧ Z.Warmed39 U.vm ∧ U.heap = h0) (fun _ _ _ _ _ => True) (fun _ U o U' => ∃ v L, o = .returned v ∧ Q v U'.heap L ∧ FrameEnd U o U' L rm.cells rm.slots)
theorem Con.body {y : MethodName} {bytes : ByteArray} {maxL : Nat} {ret : Option FieldType} {rm : Room} {as : Array Value} {h0 : Heap} {Q : Option Value → Heap → List Loc → Prop} (hp : plainFor y = true)
    (H : ∀ (p : Program) (e : Env) (s : State) (m : MethodId) (below : List Frame) (meth : Method) (c : Code) (s₁ : State), p.tables.exec = Jvm.exec → c.code = bytes → c.maxLocals = maxL → Z.Warmed39 s.vm → s.vm.findClass y.cls = some m.cls → meth.name = y.name → meth.sig.returnType = ret → meth.locks = false →
      Stand p l e rm s m as below meth c s₁ [] 0 0 → s₁.heap = h0 → Goes p e below (Aim s Q rm.cells rm.slots) (s₁.setTop (entryFrame m as maxL))) :
    Con l Z y bytes maxL ret rm as h0 Q := by
  intro ws
  refine MetFree.of_bodySF hp hisR ?_
  intro p e s m args below meth c s₁ Bd hml0 hP hK
  obtain ⟨rfl, hZ, hh⟩ := hP
  exact H p e s m below meth c s₁ Bd.exec Bd.bytes hml0 hZ (findClass_of_methodNamed Bd.named) (name_of_methodNamed Bd.named Bd.method).1 Bd.returns Bd.notSynchronized (Stand.of_body Bd) (by rw [← hh, Bd.state]; rfl)
theorem Goes.callS (X : Stand p l e R s m args below meth c T locs cells slots) (hx : p.tables.exec = Jvm.exec) (hZ : Z.Warmed39 s.vm) {own : String} {index : Nat} {y : MethodName} {bytes : ByteArray} {maxL : Nat} {ret : Option FieldType} {rm : Room} {as : List Value} {Q : Option Value → Heap → List Loc → Prop} (hown : s.vm.findClass own = some m.cls)
    (w1 : (Jvm.Cond.methodLink own index y).before a0 Z = true) (w2 : (Jvm.Cond.static y).before a0 Z = true) (w3 : (Jvm.Cond.initialized y.cls).before a0 Z = true) (w4 : (Jvm.Cond.code y bytes maxL ret).before a0 Z = true) (hy : y.cls ≠ "java/lang/invoke/MethodHandle" ∧ y.cls ≠ "java/lang/invoke/VarHandle")
    (eT : T.heap = h) (hM : Con l Z y bytes maxL ret rm as.toArray h Q) {W : Nat} (hf : rm.frames + 1 ≤ R.frames) (hl : W + (maxL + 11) + rm.locals ≤ R.locals) (hc : cells + rm.cells ≤ R.cells) (hs : slots + rm.slots ≤ R.slots)
    {g : JFrame} (hg : g.method = m) (hsize : g.locals.size = c.maxLocals) {rest : List Value} {ps : List FieldType} {r : Option FieldType} (hd : parseMethodDescriptor y.desc = some ⟨ps, r⟩) (hlen : as.length = ps.length) (hstack : g.stack = as.reverse ++ rest) (hW : 2 * g.monitorRoom + (rest.map fun v => v.category).sum ≤ W) (hdg : decode c.code g.pc = .ok (.invokestatic index, 3))
    {P : State → Outcome → Prop} (k : ∀ v T' L, Stand p l e R s m args below meth c T' (locs ++ L) (cells + rm.cells) (slots + rm.slots) → Q v T'.heap L → Goes p e below P (T'.setTop { g with pc := g.pc + 3, stack := v.toList ++ rest })) :
    Goes p e below P (T.setTop g) := by
  obtain ⟨v, vm₁, ⟨T', L', k', n'⟩, -, X', ⟨L, hQ, l', y', z'⟩, st⟩ := Jvm.LawKit.callS X hx hown (mvT hZ w1) (mvT hZ w2) (mvT hZ w3) (mvT hZ w4) hy (backOf (W := W) (hM []) hZ w4 w3 hf hl) (g := g) hg hsize (argsL := as) (rest := rest) (lenOf hd hlen) hstack hW hdg (fun _ _ => ⟨rfl, eT, hc, hs⟩)
  try dsimp only at X' hQ l' y' z' st
  subst l' y' z'
  exact Goes.step st (k v T' L X' hQ)
theorem Goes.callV (X : Stand p l e R s m args below meth c T locs cells slots) (hx : p.tables.exec = Jvm.exec) (hZ : Z.Warmed39 s.vm) {own C : String} {index : Nat} {y z : MethodName} {bytes : ByteArray} {maxL : Nat} {ret : Option FieldType} {rm : Room} {as : List Value} {Q : Option Value → Heap → List Loc → Prop} (hown : s.vm.findClass own = some m.cls)
    (w1 : (Jvm.Cond.methodLink own index y).before a0 Z = true) (w2 : (Jvm.Cond.declares y).before a0 Z = true) (hnf : NotFace s y) (w3 : (Jvm.Cond.selects C y z).before a0 Z = true) (w4 : (Jvm.Cond.instanceMethod z).before a0 Z = true) (w5 : (Jvm.Cond.code z bytes maxL ret).before a0 Z = true) (w6 : (Jvm.Cond.initialized z.cls).before a0 Z = true) (hy : y.cls ≠ "java/lang/invoke/MethodHandle" ∧ y.cls ≠ "java/lang/invoke/VarHandle")
    (eT : T.heap = h) {b : Addr} (E : Exa Z h b C) (hM : Con l Z z bytes maxL ret rm (.ref b :: as).toArray h Q) {W : Nat} (hf : rm.frames + 1 ≤ R.frames) (hl : W + (maxL + 11) + rm.locals ≤ R.locals) (hc : cells + rm.cells ≤ R.cells) (hs : slots + rm.slots ≤ R.slots)
    {g : JFrame} (hg : g.method = m) (hsize : g.locals.size = c.maxLocals) {rest : List Value} {ps : List FieldType} {r : Option FieldType} (hd : parseMethodDescriptor y.desc = some ⟨ps, r⟩) (hlen : as.length = ps.length) (hstack : g.stack = as.reverse ++ .ref b :: rest) (hW : 2 * g.monitorRoom + (rest.map fun v => v.category).sum ≤ W) (hdg : decode c.code g.pc = .ok (.invokevirtual index, 3))
    {P : State → Outcome → Prop} (k : ∀ v T' L, Stand p l e R s m args below meth c T' (locs ++ L) (cells + rm.cells) (slots + rm.slots) → Q v T'.heap L → Goes p e below P (T'.setTop { g with pc := g.pc + 3, stack := v.toList ++ rest })) :
    Goes p e below P (T.setTop g) := by
  obtain ⟨cB, kB, q1, -, q3⟩ := isOf hZ eT E
  obtain ⟨v, vm₁, ⟨T', L', k', n'⟩, -, X', ⟨L, hQ, l', y', z'⟩, st⟩ := X.virtualBack hx (y := y) (z := z) hown (mvT hZ w1) (mvT hZ w2) hnf (mvT hZ w3) (mvT hZ w4) hy (backOf (W := W) (hM []) hZ w5 w6 hf hl) q1 q3 (g := g) hg hsize (Steps.refl _) (argsL := as) (rest := rest) (lenOf hd hlen) hstack hW hdg (fun _ _ => ⟨rfl, eT, hc, hs⟩)
  try dsimp only at X' hQ l' y' z' st
  subst l' y' z'
  exact Goes.tr st (k v T' L X' hQ)
theorem Goes.callI (X : Stand p l e R s m args below meth c T locs cells slots) (hx : p.tables.exec = Jvm.exec) (hZ : Z.Warmed39 s.vm) {own : String} {index : Nat} {y : MethodName} {bytes : ByteArray} {maxL : Nat} {rm : Room} {as : List Value} {Q : Option Value → Heap → List Loc → Prop} (hy1 : y.name = "<init>") (hown : s.vm.findClass own = some m.cls)
    (w1 : (Jvm.Cond.methodLink own index y).before a0 Z = true) (w2 : (Jvm.Cond.instanceMethod y).before a0 Z = true) (w3 : (Jvm.Cond.code y bytes maxL none).before a0 Z = true) (w4 : (Jvm.Cond.initialized y.cls).before a0 Z = true) (hy : y.cls ≠ "java/lang/invoke/MethodHandle" ∧ y.cls ≠ "java/lang/invoke/VarHandle")
    (eT : T.heap = h) {b : Addr} (hM : Con l Z y bytes maxL none rm (.ref b :: as).toArray h Q) {W : Nat} (hf : rm.frames + 1 ≤ R.frames) (hl : W + (maxL + 11) + rm.locals ≤ R.locals) (hc : cells + rm.cells ≤ R.cells) (hs : slots + rm.slots ≤ R.slots)
    {g : JFrame} (hg : g.method = m) (hsize : g.locals.size = c.maxLocals) {rest : List Value} {ps : List FieldType} {r : Option FieldType} (hd : parseMethodDescriptor y.desc = some ⟨ps, r⟩) (hlen : as.length = ps.length) (hstack : g.stack = as.reverse ++ .ref b :: rest) (hW : 2 * g.monitorRoom + (rest.map fun v => v.category).sum ≤ W) (hdg : decode c.code g.pc = .ok (.invokespecial index, 3))
    {P : State → Outcome → Prop} (k : ∀ v T' L, Stand p l e R s m args below meth c T' (locs ++ L) (cells + rm.cells) (slots + rm.slots) → Q v T'.heap L → Goes p e below P (T'.setTop { g with pc := g.pc + 3, stack := v.toList ++ rest })) :
    Goes p e below P (T.setTop g) := by
  obtain ⟨v, vm₁, ⟨T', L', k', n'⟩, -, X', ⟨L, hQ, l', y', z'⟩, st⟩ := X.specialBack hx (y := y) hy1 hown (mvT hZ w1) (mvT hZ w2) (mvT hZ w3) hy (backOf (W := W) (hM []) hZ w3 w4 hf hl) (g := g) hg hsize (Steps.refl _) (a := b) (argsL := as) (rest := rest) (lenOf hd hlen) hstack hW hdg (fun _ _ => ⟨rfl, eT, hc, hs⟩)
  try dsimp only at X' hQ l' y' z' st
  subst l' y' z'
  exact Goes.tr st (k v T' L X' hQ)
theorem jlt {a b : Int64} : lcmpW a b < 0 ↔ a < b := by rw [lcW]; exact lc_lt a b
theorem jgt {a b : Int64} : 0 < lcmpW a b ↔ b < a := by rw [lcW]; exact lc_gt a b
theorem jeq {a b : Int64} : lcmpW a b = 0 ↔ a = b := by rw [lcW]; exact lc_eq a b
end Own
theorem own_d1_0 : decode prog_20_method_5_code 0 = .ok (.iload_n 0, 1) := by decide +kernel
theorem own_d1_1 : decode prog_20_method_5_code 1 = .ok (.ifCond .eq 7, 3) := by decide +kernel
theorem own_d1_8 : decode prog_20_method_5_code 8 = .ok (.iconst 0, 1) := by decide +kernel
theorem own_d1_9 : decode prog_20_method_5_code 9 = .ok (.iload_n 1, 1) := by decide +kernel
theorem own_d1_10 : decode prog_20_method_5_code 10 = .ok (.ifCond .eq 7, 3) := by decide +kernel
theorem own_d1_17 : decode prog_20_method_5_code 17 = .ok (.iconst 0, 1) := by decide +kernel
theorem own_d1_18 : decode prog_20_method_5_code 18 = .ok (.ior, 1) := by decide +kernel
theorem own_d1_19 : decode prog_20_method_5_code 19 = .ok (.ireturn, 1) := by decide +kernel
theorem own_d1_13 : decode prog_20_method_5_code 13 = .ok (.iconst 2, 1) := by decide +kernel
theorem own_d1_14 : decode prog_20_method_5_code 14 = .ok (.goto 4, 3) := by decide +kernel
theorem own_d1_4 : decode prog_20_method_5_code 4 = .ok (.iconst 1, 1) := by decide +kernel
theorem own_d1_5 : decode prog_20_method_5_code 5 = .ok (.goto 4, 3) := by decide +kernel
theorem own_pd0 : parseMethodDescriptor "(ZZ)I" = some ⟨[.boolean, .boolean], some .int⟩ := by decide +kernel
theorem own_pn0 : plainName "com/example/nortia/nortia/server/Protocol" = true := by first | (simp [plainName, overriddenIn]; done) | decide +kernel
theorem own_pn1 : plainName "com/example/nortia/nortia/server/ProtocolStatusPinLaw" = true := by first | (simp [plainName, overriddenIn]; done) | decide +kernel
def own_v_stat (p1 : Int32) (p2 : Int32) : Int32 := (if p1 = (0 : Int32) then (if p2 = (0 : Int32) then ((0 : Int32) ||| (0 : Int32)) else ((0 : Int32) ||| (2 : Int32))) else (if p2 = (0 : Int32) then ((1 : Int32) ||| (0 : Int32)) else ((1 : Int32) ||| (2 : Int32))))
set_option maxRecDepth 65536 in
set_option maxHeartbeats 40000000 in
theorem rm_stat (l : Launch) (Z : State) (a0 : Array Value) (hw : ∀ d ∈ tables_1, d.before a0 Z = true) (p1 : Int32) (p2 : Int32) (h0 : Heap) (n0 : Nat) (Z0 : n0 ≤ h0.size) :
    Con l Z (⟨"com/example/nortia/nortia/server/Protocol", "status", "(ZZ)I"⟩ : MethodName) prog_20_method_5_code 2 (some .int) ({ frames := 0, cells := 0, slots := 0, locals := 0 } : Room) #[(.int p1), (.int p2)] h0 (fun v h L => v = some (.int (own_v_stat p1 p2)) ∧ Fr n0 L ∧ h = h0) := by
  refine Con.body (plainFor_of_name own_pn0) ?_
  intro p e s m below meth c s₁ hx hby hml hZ hown hnm hret hlk X0 e0
  have hown : s.vm.findClass "com/example/nortia/nortia/server/Protocol" = some m.cls := hown
  have hml : c.maxLocals = 2 := hml
  have N0 := Fr.nil n0
  have ef : entryFrame m #[(.int p1), (.int p2)] 2 = mkF m 0 #[.val (.int p1), .val (.int p2)] [] := by first | (simp [entryFrame, mkF, argsToLocals, Value.category]; done) | rfl
  rw [ef]
  show Goes p e below _ (s₁.setTop (mkF m 0 #[.val (.int p1), .val (.int p2)] []))
  refine Goes.step (fun _ k => XS.iloadN X0.here hx rfl (hb hby own_d1_0) rfl k) ?_
  show Goes p e below _ (s₁.setTop (mkF m 1 #[.val (.int p1), .val (.int p2)] [(.int p1)]))
  by_cases hc1 : p1 = (0 : Int32)
  · refine Goes.step (fun _ k => XS.ifYes X0.here hx rfl (pc0 := 1) (pc' := 8) rfl (hb hby own_d1_1) rfl ((if0 _ _).trans (teq hc1).1) (by decide) (by decide) k) ?_
    show Goes p e below _ (s₁.setTop (mkF m 8 #[.val (.int p1), .val (.int p2)] []))
    refine Goes.step (fun _ k => XS.iconst X0.here hx rfl (hb hby own_d1_8) k) ?_
    show Goes p e below _ (s₁.setTop (mkF m 9 #[.val (.int p1), .val (.int p2)] [(.int (0 : Int32))]))
    refine Goes.step (fun _ k => XS.iloadN X0.here hx rfl (hb hby own_d1_9) rfl k) ?_
    show Goes p e below _ (s₁.setTop (mkF m 10 #[.val (.int p1), .val (.int p2)] [(.int p2), (.int (0 : Int32))]))
    by_cases hc2 : p2 = (0 : Int32)
    · refine Goes.step (fun _ k => XS.ifYes X0.here hx rfl (pc0 := 10) (pc' := 17) rfl (hb hby own_d1_10) rfl ((if0 _ _).trans (teq hc2).1) (by decide) (by decide) k) ?_
      show Goes p e below _ (s₁.setTop (mkF m 17 #[.val (.int p1), .val (.int p2)] [(.int (0 : Int32))]))
      refine Goes.step (fun _ k => XS.iconst X0.here hx rfl (hb hby own_d1_17) k) ?_
      show Goes p e below _ (s₁.setTop (mkF m 18 #[.val (.int p1), .val (.int p2)] [(.int (0 : Int32)), (.int (0 : Int32))]))
      refine Goes.step (fun _ k => XS.ior X0.here hx rfl (hb hby own_d1_18) rfl k) ?_
      show Goes p e below _ (s₁.setTop (mkF m 19 #[.val (.int p1), .val (.int p2)] [(.int ((0 : Int32) ||| (0 : Int32)))]))
      refine Goes.ret X0 hx hlk hret rfl (Or.inl ⟨rfl, Or.inl rfl, _, rfl⟩) (hb hby own_d1_19) (by decide) (by decide) ?_
      exact ⟨by rw [own_v_stat, if_pos hc1, if_pos hc2] <;> rfl, N0, e0⟩
    · refine Goes.step (fun _ k => XS.ifNo X0.here hx rfl (hb hby own_d1_10) rfl ((if0 _ _).trans (feq hc2).1) k) ?_
      show Goes p e below _ (s₁.setTop (mkF m 13 #[.val (.int p1), .val (.int p2)] [(.int (0 : Int32))]))
      refine Goes.step (fun _ k => XS.iconst X0.here hx rfl (hb hby own_d1_13) k) ?_
      show Goes p e below _ (s₁.setTop (mkF m 14 #[.val (.int p1), .val (.int p2)] [(.int (2 : Int32)), (.int (0 : Int32))]))
      refine Goes.step (fun _ k => XS.goto X0.here hx rfl (pc0 := 14) (pc' := 18) rfl (hb hby own_d1_14) (by decide) (by decide) k) ?_
      show Goes p e below _ (s₁.setTop (mkF m 18 #[.val (.int p1), .val (.int p2)] [(.int (2 : Int32)), (.int (0 : Int32))]))
      refine Goes.step (fun _ k => XS.ior X0.here hx rfl (hb hby own_d1_18) rfl k) ?_
      show Goes p e below _ (s₁.setTop (mkF m 19 #[.val (.int p1), .val (.int p2)] [(.int ((0 : Int32) ||| (2 : Int32)))]))
      refine Goes.ret X0 hx hlk hret rfl (Or.inl ⟨rfl, Or.inl rfl, _, rfl⟩) (hb hby own_d1_19) (by decide) (by decide) ?_
      exact ⟨by rw [own_v_stat, if_pos hc1, if_neg hc2] <;> rfl, N0, e0⟩
  · refine Goes.step (fun _ k => XS.ifNo X0.here hx rfl (hb hby own_d1_1) rfl ((if0 _ _).trans (feq hc1).1) k) ?_
    show Goes p e below _ (s₁.setTop (mkF m 4 #[.val (.int p1), .val (.int p2)] []))
    refine Goes.step (fun _ k => XS.iconst X0.here hx rfl (hb hby own_d1_4) k) ?_
    show Goes p e below _ (s₁.setTop (mkF m 5 #[.val (.int p1), .val (.int p2)] [(.int (1 : Int32))]))
    refine Goes.step (fun _ k => XS.goto X0.here hx rfl (pc0 := 5) (pc' := 9) rfl (hb hby own_d1_5) (by decide) (by decide) k) ?_
    show Goes p e below _ (s₁.setTop (mkF m 9 #[.val (.int p1), .val (.int p2)] [(.int (1 : Int32))]))
    refine Goes.step (fun _ k => XS.iloadN X0.here hx rfl (hb hby own_d1_9) rfl k) ?_
    show Goes p e below _ (s₁.setTop (mkF m 10 #[.val (.int p1), .val (.int p2)] [(.int p2), (.int (1 : Int32))]))
    by_cases hc3 : p2 = (0 : Int32)
    · refine Goes.step (fun _ k => XS.ifYes X0.here hx rfl (pc0 := 10) (pc' := 17) rfl (hb hby own_d1_10) rfl ((if0 _ _).trans (teq hc3).1) (by decide) (by decide) k) ?_
      show Goes p e below _ (s₁.setTop (mkF m 17 #[.val (.int p1), .val (.int p2)] [(.int (1 : Int32))]))
      refine Goes.step (fun _ k => XS.iconst X0.here hx rfl (hb hby own_d1_17) k) ?_
      show Goes p e below _ (s₁.setTop (mkF m 18 #[.val (.int p1), .val (.int p2)] [(.int (0 : Int32)), (.int (1 : Int32))]))
      refine Goes.step (fun _ k => XS.ior X0.here hx rfl (hb hby own_d1_18) rfl k) ?_
      show Goes p e below _ (s₁.setTop (mkF m 19 #[.val (.int p1), .val (.int p2)] [(.int ((1 : Int32) ||| (0 : Int32)))]))
      refine Goes.ret X0 hx hlk hret rfl (Or.inl ⟨rfl, Or.inl rfl, _, rfl⟩) (hb hby own_d1_19) (by decide) (by decide) ?_
      exact ⟨by rw [own_v_stat, if_neg hc1, if_pos hc3] <;> rfl, N0, e0⟩
    · refine Goes.step (fun _ k => XS.ifNo X0.here hx rfl (hb hby own_d1_10) rfl ((if0 _ _).trans (feq hc3).1) k) ?_
      show Goes p e below _ (s₁.setTop (mkF m 13 #[.val (.int p1), .val (.int p2)] [(.int (1 : Int32))]))
      refine Goes.step (fun _ k => XS.iconst X0.here hx rfl (hb hby own_d1_13) k) ?_
      show Goes p e below _ (s₁.setTop (mkF m 14 #[.val (.int p1), .val (.int p2)] [(.int (2 : Int32)), (.int (1 : Int32))]))
      refine Goes.step (fun _ k => XS.goto X0.here hx rfl (pc0 := 14) (pc' := 18) rfl (hb hby own_d1_14) (by decide) (by decide) k) ?_
      show Goes p e below _ (s₁.setTop (mkF m 18 #[.val (.int p1), .val (.int p2)] [(.int (2 : Int32)), (.int (1 : Int32))]))
      refine Goes.step (fun _ k => XS.ior X0.here hx rfl (hb hby own_d1_18) rfl k) ?_
      show Goes p e below _ (s₁.setTop (mkF m 19 #[.val (.int p1), .val (.int p2)] [(.int ((1 : Int32) ||| (2 : Int32)))]))
      refine Goes.ret X0 hx hlk hret rfl (Or.inl ⟨rfl, Or.inl rfl, _, rfl⟩) (hb hby own_d1_19) (by decide) (by decide) ?_
      exact ⟨by rw [own_v_stat, if_neg hc1, if_neg hc3] <;> rfl, N0, e0⟩
set_option maxRecDepth 65536 in
set_option maxHeartbeats 40000000 in
theorem rm0 (l : Launch) (Z : State) (a0 : Array Value) (hw : ∀ d ∈ tables_1, d.before a0 Z = true) (p1 p2 : Int32) (h0 : Heap) (n0 : Nat) (Z0 : n0 ≤ h0.size) :
    Con l Z x code maxLocals ret room_1 #[(.int p1), (.int p2)] h0 (fun v h L => v = some (.int 1) ∧ Fr n0 L) := by
  refine Con.body (plainFor_of_name own_pn1) ?_
  intro p e s m below meth c s₁ hx hby hml hZ hown hnm hret hlk X0 e0
  have hown : s.vm.findClass "com/example/nortia/nortia/server/ProtocolStatusPinLaw" = some m.cls := hown
  have hml : c.maxLocals = 8 := hml
  have N0 := Fr.nil n0
  have ef : entryFrame m #[(.int p1), (.int p2)] maxLocals = mkF m 0 #[.val (.int p1), .val (.int p2), .unset, .unset, .unset, .unset, .unset, .unset] [] := by first | (simp [entryFrame, mkF, argsToLocals, Value.category, maxLocals]; done) | rfl
  rw [ef]
  show Goes p e below _ (s₁.setTop (mkF m 0 #[.val (.int p1), .val (.int p2), .unset, .unset, .unset, .unset, .unset, .unset] []))
  refine Goes.step (fun _ k => XS.iloadN X0.here hx rfl (hb hby at_0) rfl k) ?_
  show Goes p e below _ (s₁.setTop (mkF m 1 #[.val (.int p1), .val (.int p2), .unset, .unset, .unset, .unset, .unset, .unset] [(.int p1)]))
  refine Goes.step (fun _ k => XS.iconst X0.here hx rfl (hb hby at_1) k) ?_
  show Goes p e below _ (s₁.setTop (mkF m 2 #[.val (.int p1), .val (.int p2), .unset, .unset, .unset, .unset, .unset, .unset] [(.int (1 : Int32)), (.int p1)]))
  refine Goes.step (fun _ k => XS.iand X0.here hx rfl (hb hby at_2) rfl k) ?_
  show Goes p e below _ (s₁.setTop (mkF m 3 #[.val (.int p1), .val (.int p2), .unset, .unset, .unset, .unset, .unset, .unset] [(.int (p1 &&& (1 : Int32)))]))
  by_cases hc1 : (p1 &&& (1 : Int32)) = (0 : Int32)
  · refine Goes.step (fun _ k => XS.ifYes X0.here hx rfl (pc0 := 3) (pc' := 10) rfl (hb hby at_3) rfl ((if0 _ _).trans (teq hc1).1) (by decide) (by decide) k) ?_
    show Goes p e below _ (s₁.setTop (mkF m 10 #[.val (.int p1), .val (.int p2), .unset, .unset, .unset, .unset, .unset, .unset] []))
    refine Goes.step (fun _ k => XS.iconst X0.here hx rfl (hb hby at_10) k) ?_
    show Goes p e below _ (s₁.setTop (mkF m 11 #[.val (.int p1), .val (.int p2), .unset, .unset, .unset, .unset, .unset, .unset] [(.int (0 : Int32))]))
    refine Goes.step (fun _ k => XS.istoreN X0.here hx rfl (hb hby at_11) rfl (l' := #[.val (.int p1), .val (.int p2), .val (.int (0 : Int32)), .unset, .unset, .unset, .unset, .unset]) rfl k) ?_
    show Goes p e below _ (s₁.setTop (mkF m 12 #[.val (.int p1), .val (.int p2), .val (.int (0 : Int32)), .unset, .unset, .unset, .unset, .unset] []))
    refine Goes.step (fun _ k => XS.iloadN X0.here hx rfl (hb hby at_12) rfl k) ?_
    show Goes p e below _ (s₁.setTop (mkF m 13 #[.val (.int p1), .val (.int p2), .val (.int (0 : Int32)), .unset, .unset, .unset, .unset, .unset] [(.int p2)]))
    refine Goes.step (fun _ k => XS.iconst X0.here hx rfl (hb hby at_13) k) ?_
    show Goes p e below _ (s₁.setTop (mkF m 14 #[.val (.int p1), .val (.int p2), .val (.int (0 : Int32)), .unset, .unset, .unset, .unset, .unset] [(.int (1 : Int32)), (.int p2)]))
    refine Goes.step (fun _ k => XS.iand X0.here hx rfl (hb hby at_14) rfl k) ?_
    show Goes p e below _ (s₁.setTop (mkF m 15 #[.val (.int p1), .val (.int p2), .val (.int (0 : Int32)), .unset, .unset, .unset, .unset, .unset] [(.int (p2 &&& (1 : Int32)))]))
    by_cases hc2 : (p2 &&& (1 : Int32)) = (0 : Int32)
    · refine Goes.step (fun _ k => XS.ifYes X0.here hx rfl (pc0 := 15) (pc' := 22) rfl (hb hby at_15) rfl ((if0 _ _).trans (teq hc2).1) (by decide) (by decide) k) ?_
      show Goes p e below _ (s₁.setTop (mkF m 22 #[.val (.int p1), .val (.int p2), .val (.int (0 : Int32)), .unset, .unset, .unset, .unset, .unset] []))
      refine Goes.step (fun _ k => XS.iconst X0.here hx rfl (hb hby at_22) k) ?_
      show Goes p e below _ (s₁.setTop (mkF m 23 #[.val (.int p1), .val (.int p2), .val (.int (0 : Int32)), .unset, .unset, .unset, .unset, .unset] [(.int (0 : Int32))]))
      refine Goes.step (fun _ k => XS.istoreN X0.here hx rfl (hb hby at_23) rfl (l' := #[.val (.int p1), .val (.int p2), .val (.int (0 : Int32)), .val (.int (0 : Int32)), .unset, .unset, .unset, .unset]) rfl k) ?_
      show Goes p e below _ (s₁.setTop (mkF m 24 #[.val (.int p1), .val (.int p2), .val (.int (0 : Int32)), .val (.int (0 : Int32)), .unset, .unset, .unset, .unset] []))
      refine Goes.step (fun _ k => XS.iloadN X0.here hx rfl (hb hby at_24) rfl k) ?_
      show Goes p e below _ (s₁.setTop (mkF m 25 #[.val (.int p1), .val (.int p2), .val (.int (0 : Int32)), .val (.int (0 : Int32)), .unset, .unset, .unset, .unset] [(.int (0 : Int32))]))
      refine Goes.step (fun _ k => XS.iloadN X0.here hx rfl (hb hby at_25) rfl k) ?_
      show Goes p e below _ (s₁.setTop (mkF m 26 #[.val (.int p1), .val (.int p2), .val (.int (0 : Int32)), .val (.int (0 : Int32)), .unset, .unset, .unset, .unset] [(.int (0 : Int32)), (.int (0 : Int32))]))
      refine Goes.callS X0 hx hZ hown (hw _ (List.mem_of_getElem? (i := 0) rfl)) (hw _ (List.mem_of_getElem? (i := 1) rfl)) (hw _ (List.mem_of_getElem? (i := 2) rfl)) (hw _ (List.mem_of_getElem? (i := 3) rfl)) (by decide) e0 (rm_stat l Z a0 hw (0 : Int32) (0 : Int32) h0 n0 Z0) (W := 0) (by decide) (by decide) (by decide) (by decide) (g := (mkF m 26 #[.val (.int p1), .val (.int p2), .val (.int (0 : Int32)), .val (.int (0 : Int32)), .unset, .unset, .unset, .unset] [(.int (0 : Int32)), (.int (0 : Int32))])) rfl (by rw [hml]; rfl) (rest := []) own_pd0 rfl rfl (by show 2 * 0 + _ ≤ _; exact Nat.le_of_eq rfl) (hb hby at_26) ?_
      intro v3 T3 L3 X3 hQ3
      obtain ⟨rfl, N3q, e3⟩ := hQ3
      have N3 := Fr.app N0 N3q
      show Goes p e below _ (T3.setTop (mkF m 29 #[.val (.int p1), .val (.int p2), .val (.int (0 : Int32)), .val (.int (0 : Int32)), .unset, .unset, .unset, .unset] [(.int (own_v_stat (0 : Int32) (0 : Int32)))]))
      refine Goes.step (fun _ k => XS.istore X3.here hx rfl (hb hby at_29) rfl (l' := #[.val (.int p1), .val (.int p2), .val (.int (0 : Int32)), .val (.int (0 : Int32)), .val (.int (own_v_stat (0 : Int32) (0 : Int32))), .unset, .unset, .unset]) rfl k) ?_
      show Goes p e below _ (T3.setTop (mkF m 31 #[.val (.int p1), .val (.int p2), .val (.int (0 : Int32)), .val (.int (0 : Int32)), .val (.int (own_v_stat (0 : Int32) (0 : Int32))), .unset, .unset, .unset] []))
      refine Goes.step (fun _ k => XS.iload X3.here hx rfl (hb hby at_31) rfl k) ?_
      show Goes p e below _ (T3.setTop (mkF m 33 #[.val (.int p1), .val (.int p2), .val (.int (0 : Int32)), .val (.int (0 : Int32)), .val (.int (own_v_stat (0 : Int32) (0 : Int32))), .unset, .unset, .unset] [(.int (own_v_stat (0 : Int32) (0 : Int32)))]))
      refine Goes.step (fun _ k => XS.iconst X3.here hx rfl (hb hby at_33) k) ?_
      show Goes p e below _ (T3.setTop (mkF m 34 #[.val (.int p1), .val (.int p2), .val (.int (0 : Int32)), .val (.int (0 : Int32)), .val (.int (own_v_stat (0 : Int32) (0 : Int32))), .unset, .unset, .unset] [(.int (1 : Int32)), (.int (own_v_stat (0 : Int32) (0 : Int32)))]))
      refine Goes.step (fun _ k => XS.iand X3.here hx rfl (hb hby at_34) rfl k) ?_
      show Goes p e below _ (T3.setTop (mkF m 35 #[.val (.int p1), .val (.int p2), .val (.int (0 : Int32)), .val (.int (0 : Int32)), .val (.int (own_v_stat (0 : Int32) (0 : Int32))), .unset, .unset, .unset] [(.int ((own_v_stat (0 : Int32) (0 : Int32)) &&& (1 : Int32)))]))
      refine Goes.step (fun _ k => XS.ifYes X3.here hx rfl (pc0 := 35) (pc' := 42) rfl (hb hby at_35) rfl ((if0 _ _).trans (teq (by decide)).1) (by decide) (by decide) k) ?_
      show Goes p e below _ (T3.setTop (mkF m 42 #[.val (.int p1), .val (.int p2), .val (.int (0 : Int32)), .val (.int (0 : Int32)), .val (.int (own_v_stat (0 : Int32) (0 : Int32))), .unset, .unset, .unset] []))
      refine Goes.step (fun _ k => XS.iconst X3.here hx rfl (hb hby at_42) k) ?_
      show Goes p e below _ (T3.setTop (mkF m 43 #[.val (.int p1), .val (.int p2), .val (.int (0 : Int32)), .val (.int (0 : Int32)), .val (.int (own_v_stat (0 : Int32) (0 : Int32))), .unset, .unset, .unset] [(.int (0 : Int32))]))
      refine Goes.step (fun _ k => XS.istore X3.here hx rfl (hb hby at_43) rfl (l' := #[.val (.int p1), .val (.int p2), .val (.int (0 : Int32)), .val (.int (0 : Int32)), .val (.int (own_v_stat (0 : Int32) (0 : Int32))), .val (.int (0 : Int32)), .unset, .unset]) rfl k) ?_
      show Goes p e below _ (T3.setTop (mkF m 45 #[.val (.int p1), .val (.int p2), .val (.int (0 : Int32)), .val (.int (0 : Int32)), .val (.int (own_v_stat (0 : Int32) (0 : Int32))), .val (.int (0 : Int32)), .unset, .unset] []))
      refine Goes.step (fun _ k => XS.iload X3.here hx rfl (hb hby at_45) rfl k) ?_
      show Goes p e below _ (T3.setTop (mkF m 47 #[.val (.int p1), .val (.int p2), .val (.int (0 : Int32)), .val (.int (0 : Int32)), .val (.int (own_v_stat (0 : Int32) (0 : Int32))), .val (.int (0 : Int32)), .unset, .unset] [(.int (own_v_stat (0 : Int32) (0 : Int32)))]))
      refine Goes.step (fun _ k => XS.iconst X3.here hx rfl (hb hby at_47) k) ?_
      show Goes p e below _ (T3.setTop (mkF m 48 #[.val (.int p1), .val (.int p2), .val (.int (0 : Int32)), .val (.int (0 : Int32)), .val (.int (own_v_stat (0 : Int32) (0 : Int32))), .val (.int (0 : Int32)), .unset, .unset] [(.int (2 : Int32)), (.int (own_v_stat (0 : Int32) (0 : Int32)))]))
      refine Goes.step (fun _ k => XS.iand X3.here hx rfl (hb hby at_48) rfl k) ?_
      show Goes p e below _ (T3.setTop (mkF m 49 #[.val (.int p1), .val (.int p2), .val (.int (0 : Int32)), .val (.int (0 : Int32)), .val (.int (own_v_stat (0 : Int32) (0 : Int32))), .val (.int (0 : Int32)), .unset, .unset] [(.int ((own_v_stat (0 : Int32) (0 : Int32)) &&& (2 : Int32)))]))
      refine Goes.step (fun _ k => XS.ifYes X3.here hx rfl (pc0 := 49) (pc' := 56) rfl (hb hby at_49) rfl ((if0 _ _).trans (teq (by decide)).1) (by decide) (by decide) k) ?_
      show Goes p e below _ (T3.setTop (mkF m 56 #[.val (.int p1), .val (.int p2), .val (.int (0 : Int32)), .val (.int (0 : Int32)), .val (.int (own_v_stat (0 : Int32) (0 : Int32))), .val (.int (0 : Int32)), .unset, .unset] []))
      refine Goes.step (fun _ k => XS.iconst X3.here hx rfl (hb hby at_56) k) ?_
      show Goes p e below _ (T3.setTop (mkF m 57 #[.val (.int p1), .val (.int p2), .val (.int (0 : Int32)), .val (.int (0 : Int32)), .val (.int (own_v_stat (0 : Int32) (0 : Int32))), .val (.int (0 : Int32)), .unset, .unset] [(.int (0 : Int32))]))
      refine Goes.step (fun _ k => XS.istore X3.here hx rfl (hb hby at_57) rfl (l' := #[.val (.int p1), .val (.int p2), .val (.int (0 : Int32)), .val (.int (0 : Int32)), .val (.int (own_v_stat (0 : Int32) (0 : Int32))), .val (.int (0 : Int32)), .val (.int (0 : Int32)), .unset]) rfl k) ?_
      show Goes p e below _ (T3.setTop (mkF m 59 #[.val (.int p1), .val (.int p2), .val (.int (0 : Int32)), .val (.int (0 : Int32)), .val (.int (own_v_stat (0 : Int32) (0 : Int32))), .val (.int (0 : Int32)), .val (.int (0 : Int32)), .unset] []))
      refine Goes.step (fun _ k => XS.iload X3.here hx rfl (hb hby at_59) rfl k) ?_
      show Goes p e below _ (T3.setTop (mkF m 61 #[.val (.int p1), .val (.int p2), .val (.int (0 : Int32)), .val (.int (0 : Int32)), .val (.int (own_v_stat (0 : Int32) (0 : Int32))), .val (.int (0 : Int32)), .val (.int (0 : Int32)), .unset] [(.int (own_v_stat (0 : Int32) (0 : Int32)))]))
      refine Goes.step (fun _ k => XS.bipush X3.here hx rfl (hb hby at_61) k) ?_
      show Goes p e below _ (T3.setTop (mkF m 63 #[.val (.int p1), .val (.int p2), .val (.int (0 : Int32)), .val (.int (0 : Int32)), .val (.int (own_v_stat (0 : Int32) (0 : Int32))), .val (.int (0 : Int32)), .val (.int (0 : Int32)), .unset] [(.int (-4 : Int32)), (.int (own_v_stat (0 : Int32) (0 : Int32)))]))
      refine Goes.step (fun _ k => XS.iand X3.here hx rfl (hb hby at_63) rfl k) ?_
      show Goes p e below _ (T3.setTop (mkF m 64 #[.val (.int p1), .val (.int p2), .val (.int (0 : Int32)), .val (.int (0 : Int32)), .val (.int (own_v_stat (0 : Int32) (0 : Int32))), .val (.int (0 : Int32)), .val (.int (0 : Int32)), .unset] [(.int ((own_v_stat (0 : Int32) (0 : Int32)) &&& (-4 : Int32)))]))
      refine Goes.step (fun _ k => XS.ifNo X3.here hx rfl (hb hby at_64) rfl ((if0 _ _).trans (teq (by decide)).2) k) ?_
      show Goes p e below _ (T3.setTop (mkF m 67 #[.val (.int p1), .val (.int p2), .val (.int (0 : Int32)), .val (.int (0 : Int32)), .val (.int (own_v_stat (0 : Int32) (0 : Int32))), .val (.int (0 : Int32)), .val (.int (0 : Int32)), .unset] []))
      refine Goes.step (fun _ k => XS.iconst X3.here hx rfl (hb hby at_67) k) ?_
      show Goes p e below _ (T3.setTop (mkF m 68 #[.val (.int p1), .val (.int p2), .val (.int (0 : Int32)), .val (.int (0 : Int32)), .val (.int (own_v_stat (0 : Int32) (0 : Int32))), .val (.int (0 : Int32)), .val (.int (0 : Int32)), .unset] [(.int (1 : Int32))]))
      refine Goes.step (fun _ k => XS.goto X3.here hx rfl (pc0 := 68) (pc' := 72) rfl (hb hby at_68) (by decide) (by decide) k) ?_
      show Goes p e below _ (T3.setTop (mkF m 72 #[.val (.int p1), .val (.int p2), .val (.int (0 : Int32)), .val (.int (0 : Int32)), .val (.int (own_v_stat (0 : Int32) (0 : Int32))), .val (.int (0 : Int32)), .val (.int (0 : Int32)), .unset] [(.int (1 : Int32))]))
      refine Goes.step (fun _ k => XS.istore X3.here hx rfl (hb hby at_72) rfl (l' := #[.val (.int p1), .val (.int p2), .val (.int (0 : Int32)), .val (.int (0 : Int32)), .val (.int (own_v_stat (0 : Int32) (0 : Int32))), .val (.int (0 : Int32)), .val (.int (0 : Int32)), .val (.int (1 : Int32))]) rfl k) ?_
      show Goes p e below _ (T3.setTop (mkF m 74 #[.val (.int p1), .val (.int p2), .val (.int (0 : Int32)), .val (.int (0 : Int32)), .val (.int (own_v_stat (0 : Int32) (0 : Int32))), .val (.int (0 : Int32)), .val (.int (0 : Int32)), .val (.int (1 : Int32))] []))
      refine Goes.step (fun _ k => XS.iload X3.here hx rfl (hb hby at_74) rfl k) ?_
      show Goes p e below _ (T3.setTop (mkF m 76 #[.val (.int p1), .val (.int p2), .val (.int (0 : Int32)), .val (.int (0 : Int32)), .val (.int (own_v_stat (0 : Int32) (0 : Int32))), .val (.int (0 : Int32)), .val (.int (0 : Int32)), .val (.int (1 : Int32))] [(.int (0 : Int32))]))
      refine Goes.step (fun _ k => XS.iloadN X3.here hx rfl (hb hby at_76) rfl k) ?_
      show Goes p e below _ (T3.setTop (mkF m 77 #[.val (.int p1), .val (.int p2), .val (.int (0 : Int32)), .val (.int (0 : Int32)), .val (.int (own_v_stat (0 : Int32) (0 : Int32))), .val (.int (0 : Int32)), .val (.int (0 : Int32)), .val (.int (1 : Int32))] [(.int (0 : Int32)), (.int (0 : Int32))]))
      refine Goes.step (fun _ k => XS.icmpNo X3.here hx rfl (hb hby at_77) rfl (teq (by decide)).2 k) ?_
      show Goes p e below _ (T3.setTop (mkF m 80 #[.val (.int p1), .val (.int p2), .val (.int (0 : Int32)), .val (.int (0 : Int32)), .val (.int (own_v_stat (0 : Int32) (0 : Int32))), .val (.int (0 : Int32)), .val (.int (0 : Int32)), .val (.int (1 : Int32))] []))
      refine Goes.step (fun _ k => XS.iload X3.here hx rfl (hb hby at_80) rfl k) ?_
      show Goes p e below _ (T3.setTop (mkF m 82 #[.val (.int p1), .val (.int p2), .val (.int (0 : Int32)), .val (.int (0 : Int32)), .val (.int (own_v_stat (0 : Int32) (0 : Int32))), .val (.int (0 : Int32)), .val (.int (0 : Int32)), .val (.int (1 : Int32))] [(.int (0 : Int32))]))
      refine Goes.step (fun _ k => XS.iloadN X3.here hx rfl (hb hby at_82) rfl k) ?_
      show Goes p e below _ (T3.setTop (mkF m 83 #[.val (.int p1), .val (.int p2), .val (.int (0 : Int32)), .val (.int (0 : Int32)), .val (.int (own_v_stat (0 : Int32) (0 : Int32))), .val (.int (0 : Int32)), .val (.int (0 : Int32)), .val (.int (1 : Int32))] [(.int (0 : Int32)), (.int (0 : Int32))]))
      refine Goes.step (fun _ k => XS.icmpNo X3.here hx rfl (hb hby at_83) rfl (teq (by decide)).2 k) ?_
      show Goes p e below _ (T3.setTop (mkF m 86 #[.val (.int p1), .val (.int p2), .val (.int (0 : Int32)), .val (.int (0 : Int32)), .val (.int (own_v_stat (0 : Int32) (0 : Int32))), .val (.int (0 : Int32)), .val (.int (0 : Int32)), .val (.int (1 : Int32))] []))
      refine Goes.step (fun _ k => XS.iload X3.here hx rfl (hb hby at_86) rfl k) ?_
      show Goes p e below _ (T3.setTop (mkF m 88 #[.val (.int p1), .val (.int p2), .val (.int (0 : Int32)), .val (.int (0 : Int32)), .val (.int (own_v_stat (0 : Int32) (0 : Int32))), .val (.int (0 : Int32)), .val (.int (0 : Int32)), .val (.int (1 : Int32))] [(.int (1 : Int32))]))
      refine Goes.step (fun _ k => XS.ifNo X3.here hx rfl (hb hby at_88) rfl ((if0 _ _).trans (feq (by decide)).1) k) ?_
      show Goes p e below _ (T3.setTop (mkF m 91 #[.val (.int p1), .val (.int p2), .val (.int (0 : Int32)), .val (.int (0 : Int32)), .val (.int (own_v_stat (0 : Int32) (0 : Int32))), .val (.int (0 : Int32)), .val (.int (0 : Int32)), .val (.int (1 : Int32))] []))
      refine Goes.step (fun _ k => XS.iconst X3.here hx rfl (hb hby at_91) k) ?_
      show Goes p e below _ (T3.setTop (mkF m 92 #[.val (.int p1), .val (.int p2), .val (.int (0 : Int32)), .val (.int (0 : Int32)), .val (.int (own_v_stat (0 : Int32) (0 : Int32))), .val (.int (0 : Int32)), .val (.int (0 : Int32)), .val (.int (1 : Int32))] [(.int (1 : Int32))]))
      refine Goes.step (fun _ k => XS.goto X3.here hx rfl (pc0 := 92) (pc' := 96) rfl (hb hby at_92) (by decide) (by decide) k) ?_
      show Goes p e below _ (T3.setTop (mkF m 96 #[.val (.int p1), .val (.int p2), .val (.int (0 : Int32)), .val (.int (0 : Int32)), .val (.int (own_v_stat (0 : Int32) (0 : Int32))), .val (.int (0 : Int32)), .val (.int (0 : Int32)), .val (.int (1 : Int32))] [(.int (1 : Int32))]))
      refine Goes.retN X3 hx hlk (t := .boolean) hret (by simp) (hb hby at_96) (by decide) (by decide) ?_
      exact ⟨rfl, N3⟩
    · refine Goes.step (fun _ k => XS.ifNo X0.here hx rfl (hb hby at_15) rfl ((if0 _ _).trans (feq hc2).1) k) ?_
      show Goes p e below _ (s₁.setTop (mkF m 18 #[.val (.int p1), .val (.int p2), .val (.int (0 : Int32)), .unset, .unset, .unset, .unset, .unset] []))
      refine Goes.step (fun _ k => XS.iconst X0.here hx rfl (hb hby at_18) k) ?_
      show Goes p e below _ (s₁.setTop (mkF m 19 #[.val (.int p1), .val (.int p2), .val (.int (0 : Int32)), .unset, .unset, .unset, .unset, .unset] [(.int (1 : Int32))]))
      refine Goes.step (fun _ k => XS.goto X0.here hx rfl (pc0 := 19) (pc' := 23) rfl (hb hby at_19) (by decide) (by decide) k) ?_
      show Goes p e below _ (s₁.setTop (mkF m 23 #[.val (.int p1), .val (.int p2), .val (.int (0 : Int32)), .unset, .unset, .unset, .unset, .unset] [(.int (1 : Int32))]))
      refine Goes.step (fun _ k => XS.istoreN X0.here hx rfl (hb hby at_23) rfl (l' := #[.val (.int p1), .val (.int p2), .val (.int (0 : Int32)), .val (.int (1 : Int32)), .unset, .unset, .unset, .unset]) rfl k) ?_
      show Goes p e below _ (s₁.setTop (mkF m 24 #[.val (.int p1), .val (.int p2), .val (.int (0 : Int32)), .val (.int (1 : Int32)), .unset, .unset, .unset, .unset] []))
      refine Goes.step (fun _ k => XS.iloadN X0.here hx rfl (hb hby at_24) rfl k) ?_
      show Goes p e below _ (s₁.setTop (mkF m 25 #[.val (.int p1), .val (.int p2), .val (.int (0 : Int32)), .val (.int (1 : Int32)), .unset, .unset, .unset, .unset] [(.int (0 : Int32))]))
      refine Goes.step (fun _ k => XS.iloadN X0.here hx rfl (hb hby at_25) rfl k) ?_
      show Goes p e below _ (s₁.setTop (mkF m 26 #[.val (.int p1), .val (.int p2), .val (.int (0 : Int32)), .val (.int (1 : Int32)), .unset, .unset, .unset, .unset] [(.int (1 : Int32)), (.int (0 : Int32))]))
      refine Goes.callS X0 hx hZ hown (hw _ (List.mem_of_getElem? (i := 0) rfl)) (hw _ (List.mem_of_getElem? (i := 1) rfl)) (hw _ (List.mem_of_getElem? (i := 2) rfl)) (hw _ (List.mem_of_getElem? (i := 3) rfl)) (by decide) e0 (rm_stat l Z a0 hw (0 : Int32) (1 : Int32) h0 n0 Z0) (W := 0) (by decide) (by decide) (by decide) (by decide) (g := (mkF m 26 #[.val (.int p1), .val (.int p2), .val (.int (0 : Int32)), .val (.int (1 : Int32)), .unset, .unset, .unset, .unset] [(.int (1 : Int32)), (.int (0 : Int32))])) rfl (by rw [hml]; rfl) (rest := []) own_pd0 rfl rfl (by show 2 * 0 + _ ≤ _; exact Nat.le_of_eq rfl) (hb hby at_26) ?_
      intro v4 T4 L4 X4 hQ4
      obtain ⟨rfl, N4q, e4⟩ := hQ4
      have N4 := Fr.app N0 N4q
      show Goes p e below _ (T4.setTop (mkF m 29 #[.val (.int p1), .val (.int p2), .val (.int (0 : Int32)), .val (.int (1 : Int32)), .unset, .unset, .unset, .unset] [(.int (own_v_stat (0 : Int32) (1 : Int32)))]))
      refine Goes.step (fun _ k => XS.istore X4.here hx rfl (hb hby at_29) rfl (l' := #[.val (.int p1), .val (.int p2), .val (.int (0 : Int32)), .val (.int (1 : Int32)), .val (.int (own_v_stat (0 : Int32) (1 : Int32))), .unset, .unset, .unset]) rfl k) ?_
      show Goes p e below _ (T4.setTop (mkF m 31 #[.val (.int p1), .val (.int p2), .val (.int (0 : Int32)), .val (.int (1 : Int32)), .val (.int (own_v_stat (0 : Int32) (1 : Int32))), .unset, .unset, .unset] []))
      refine Goes.step (fun _ k => XS.iload X4.here hx rfl (hb hby at_31) rfl k) ?_
      show Goes p e below _ (T4.setTop (mkF m 33 #[.val (.int p1), .val (.int p2), .val (.int (0 : Int32)), .val (.int (1 : Int32)), .val (.int (own_v_stat (0 : Int32) (1 : Int32))), .unset, .unset, .unset] [(.int (own_v_stat (0 : Int32) (1 : Int32)))]))
      refine Goes.step (fun _ k => XS.iconst X4.here hx rfl (hb hby at_33) k) ?_
      show Goes p e below _ (T4.setTop (mkF m 34 #[.val (.int p1), .val (.int p2), .val (.int (0 : Int32)), .val (.int (1 : Int32)), .val (.int (own_v_stat (0 : Int32) (1 : Int32))), .unset, .unset, .unset] [(.int (1 : Int32)), (.int (own_v_stat (0 : Int32) (1 : Int32)))]))
      refine Goes.step (fun _ k => XS.iand X4.here hx rfl (hb hby at_34) rfl k) ?_
      show Goes p e below _ (T4.setTop (mkF m 35 #[.val (.int p1), .val (.int p2), .val (.int (0 : Int32)), .val (.int (1 : Int32)), .val (.int (own_v_stat (0 : Int32) (1 : Int32))), .unset, .unset, .unset] [(.int ((own_v_stat (0 : Int32) (1 : Int32)) &&& (1 : Int32)))]))
      refine Goes.step (fun _ k => XS.ifYes X4.here hx rfl (pc0 := 35) (pc' := 42) rfl (hb hby at_35) rfl ((if0 _ _).trans (teq (by decide)).1) (by decide) (by decide) k) ?_
      show Goes p e below _ (T4.setTop (mkF m 42 #[.val (.int p1), .val (.int p2), .val (.int (0 : Int32)), .val (.int (1 : Int32)), .val (.int (own_v_stat (0 : Int32) (1 : Int32))), .unset, .unset, .unset] []))
      refine Goes.step (fun _ k => XS.iconst X4.here hx rfl (hb hby at_42) k) ?_
      show Goes p e below _ (T4.setTop (mkF m 43 #[.val (.int p1), .val (.int p2), .val (.int (0 : Int32)), .val (.int (1 : Int32)), .val (.int (own_v_stat (0 : Int32) (1 : Int32))), .unset, .unset, .unset] [(.int (0 : Int32))]))
      refine Goes.step (fun _ k => XS.istore X4.here hx rfl (hb hby at_43) rfl (l' := #[.val (.int p1), .val (.int p2), .val (.int (0 : Int32)), .val (.int (1 : Int32)), .val (.int (own_v_stat (0 : Int32) (1 : Int32))), .val (.int (0 : Int32)), .unset, .unset]) rfl k) ?_
      show Goes p e below _ (T4.setTop (mkF m 45 #[.val (.int p1), .val (.int p2), .val (.int (0 : Int32)), .val (.int (1 : Int32)), .val (.int (own_v_stat (0 : Int32) (1 : Int32))), .val (.int (0 : Int32)), .unset, .unset] []))
      refine Goes.step (fun _ k => XS.iload X4.here hx rfl (hb hby at_45) rfl k) ?_
      show Goes p e below _ (T4.setTop (mkF m 47 #[.val (.int p1), .val (.int p2), .val (.int (0 : Int32)), .val (.int (1 : Int32)), .val (.int (own_v_stat (0 : Int32) (1 : Int32))), .val (.int (0 : Int32)), .unset, .unset] [(.int (own_v_stat (0 : Int32) (1 : Int32)))]))
      refine Goes.step (fun _ k => XS.iconst X4.here hx rfl (hb hby at_47) k) ?_
      show Goes p e below _ (T4.setTop (mkF m 48 #[.val (.int p1), .val (.int p2), .val (.int (0 : Int32)), .val (.int (1 : Int32)), .val (.int (own_v_stat (0 : Int32) (1 : Int32))), .val (.int (0 : Int32)), .unset, .unset] [(.int (2 : Int32)), (.int (own_v_stat (0 : Int32) (1 : Int32)))]))
      refine Goes.step (fun _ k => XS.iand X4.here hx rfl (hb hby at_48) rfl k) ?_
      show Goes p e below _ (T4.setTop (mkF m 49 #[.val (.int p1), .val (.int p2), .val (.int (0 : Int32)), .val (.int (1 : Int32)), .val (.int (own_v_stat (0 : Int32) (1 : Int32))), .val (.int (0 : Int32)), .unset, .unset] [(.int ((own_v_stat (0 : Int32) (1 : Int32)) &&& (2 : Int32)))]))
      refine Goes.step (fun _ k => XS.ifNo X4.here hx rfl (hb hby at_49) rfl ((if0 _ _).trans (feq (by decide)).1) k) ?_
      show Goes p e below _ (T4.setTop (mkF m 52 #[.val (.int p1), .val (.int p2), .val (.int (0 : Int32)), .val (.int (1 : Int32)), .val (.int (own_v_stat (0 : Int32) (1 : Int32))), .val (.int (0 : Int32)), .unset, .unset] []))
      refine Goes.step (fun _ k => XS.iconst X4.here hx rfl (hb hby at_52) k) ?_
      show Goes p e below _ (T4.setTop (mkF m 53 #[.val (.int p1), .val (.int p2), .val (.int (0 : Int32)), .val (.int (1 : Int32)), .val (.int (own_v_stat (0 : Int32) (1 : Int32))), .val (.int (0 : Int32)), .unset, .unset] [(.int (1 : Int32))]))
      refine Goes.step (fun _ k => XS.goto X4.here hx rfl (pc0 := 53) (pc' := 57) rfl (hb hby at_53) (by decide) (by decide) k) ?_
      show Goes p e below _ (T4.setTop (mkF m 57 #[.val (.int p1), .val (.int p2), .val (.int (0 : Int32)), .val (.int (1 : Int32)), .val (.int (own_v_stat (0 : Int32) (1 : Int32))), .val (.int (0 : Int32)), .unset, .unset] [(.int (1 : Int32))]))
      refine Goes.step (fun _ k => XS.istore X4.here hx rfl (hb hby at_57) rfl (l' := #[.val (.int p1), .val (.int p2), .val (.int (0 : Int32)), .val (.int (1 : Int32)), .val (.int (own_v_stat (0 : Int32) (1 : Int32))), .val (.int (0 : Int32)), .val (.int (1 : Int32)), .unset]) rfl k) ?_
      show Goes p e below _ (T4.setTop (mkF m 59 #[.val (.int p1), .val (.int p2), .val (.int (0 : Int32)), .val (.int (1 : Int32)), .val (.int (own_v_stat (0 : Int32) (1 : Int32))), .val (.int (0 : Int32)), .val (.int (1 : Int32)), .unset] []))
      refine Goes.step (fun _ k => XS.iload X4.here hx rfl (hb hby at_59) rfl k) ?_
      show Goes p e below _ (T4.setTop (mkF m 61 #[.val (.int p1), .val (.int p2), .val (.int (0 : Int32)), .val (.int (1 : Int32)), .val (.int (own_v_stat (0 : Int32) (1 : Int32))), .val (.int (0 : Int32)), .val (.int (1 : Int32)), .unset] [(.int (own_v_stat (0 : Int32) (1 : Int32)))]))
      refine Goes.step (fun _ k => XS.bipush X4.here hx rfl (hb hby at_61) k) ?_
      show Goes p e below _ (T4.setTop (mkF m 63 #[.val (.int p1), .val (.int p2), .val (.int (0 : Int32)), .val (.int (1 : Int32)), .val (.int (own_v_stat (0 : Int32) (1 : Int32))), .val (.int (0 : Int32)), .val (.int (1 : Int32)), .unset] [(.int (-4 : Int32)), (.int (own_v_stat (0 : Int32) (1 : Int32)))]))
      refine Goes.step (fun _ k => XS.iand X4.here hx rfl (hb hby at_63) rfl k) ?_
      show Goes p e below _ (T4.setTop (mkF m 64 #[.val (.int p1), .val (.int p2), .val (.int (0 : Int32)), .val (.int (1 : Int32)), .val (.int (own_v_stat (0 : Int32) (1 : Int32))), .val (.int (0 : Int32)), .val (.int (1 : Int32)), .unset] [(.int ((own_v_stat (0 : Int32) (1 : Int32)) &&& (-4 : Int32)))]))
      refine Goes.step (fun _ k => XS.ifNo X4.here hx rfl (hb hby at_64) rfl ((if0 _ _).trans (teq (by decide)).2) k) ?_
      show Goes p e below _ (T4.setTop (mkF m 67 #[.val (.int p1), .val (.int p2), .val (.int (0 : Int32)), .val (.int (1 : Int32)), .val (.int (own_v_stat (0 : Int32) (1 : Int32))), .val (.int (0 : Int32)), .val (.int (1 : Int32)), .unset] []))
      refine Goes.step (fun _ k => XS.iconst X4.here hx rfl (hb hby at_67) k) ?_
      show Goes p e below _ (T4.setTop (mkF m 68 #[.val (.int p1), .val (.int p2), .val (.int (0 : Int32)), .val (.int (1 : Int32)), .val (.int (own_v_stat (0 : Int32) (1 : Int32))), .val (.int (0 : Int32)), .val (.int (1 : Int32)), .unset] [(.int (1 : Int32))]))
      refine Goes.step (fun _ k => XS.goto X4.here hx rfl (pc0 := 68) (pc' := 72) rfl (hb hby at_68) (by decide) (by decide) k) ?_
      show Goes p e below _ (T4.setTop (mkF m 72 #[.val (.int p1), .val (.int p2), .val (.int (0 : Int32)), .val (.int (1 : Int32)), .val (.int (own_v_stat (0 : Int32) (1 : Int32))), .val (.int (0 : Int32)), .val (.int (1 : Int32)), .unset] [(.int (1 : Int32))]))
      refine Goes.step (fun _ k => XS.istore X4.here hx rfl (hb hby at_72) rfl (l' := #[.val (.int p1), .val (.int p2), .val (.int (0 : Int32)), .val (.int (1 : Int32)), .val (.int (own_v_stat (0 : Int32) (1 : Int32))), .val (.int (0 : Int32)), .val (.int (1 : Int32)), .val (.int (1 : Int32))]) rfl k) ?_
      show Goes p e below _ (T4.setTop (mkF m 74 #[.val (.int p1), .val (.int p2), .val (.int (0 : Int32)), .val (.int (1 : Int32)), .val (.int (own_v_stat (0 : Int32) (1 : Int32))), .val (.int (0 : Int32)), .val (.int (1 : Int32)), .val (.int (1 : Int32))] []))
      refine Goes.step (fun _ k => XS.iload X4.here hx rfl (hb hby at_74) rfl k) ?_
      show Goes p e below _ (T4.setTop (mkF m 76 #[.val (.int p1), .val (.int p2), .val (.int (0 : Int32)), .val (.int (1 : Int32)), .val (.int (own_v_stat (0 : Int32) (1 : Int32))), .val (.int (0 : Int32)), .val (.int (1 : Int32)), .val (.int (1 : Int32))] [(.int (0 : Int32))]))
      refine Goes.step (fun _ k => XS.iloadN X4.here hx rfl (hb hby at_76) rfl k) ?_
      show Goes p e below _ (T4.setTop (mkF m 77 #[.val (.int p1), .val (.int p2), .val (.int (0 : Int32)), .val (.int (1 : Int32)), .val (.int (own_v_stat (0 : Int32) (1 : Int32))), .val (.int (0 : Int32)), .val (.int (1 : Int32)), .val (.int (1 : Int32))] [(.int (0 : Int32)), (.int (0 : Int32))]))
      refine Goes.step (fun _ k => XS.icmpNo X4.here hx rfl (hb hby at_77) rfl (teq (by decide)).2 k) ?_
      show Goes p e below _ (T4.setTop (mkF m 80 #[.val (.int p1), .val (.int p2), .val (.int (0 : Int32)), .val (.int (1 : Int32)), .val (.int (own_v_stat (0 : Int32) (1 : Int32))), .val (.int (0 : Int32)), .val (.int (1 : Int32)), .val (.int (1 : Int32))] []))
      refine Goes.step (fun _ k => XS.iload X4.here hx rfl (hb hby at_80) rfl k) ?_
      show Goes p e below _ (T4.setTop (mkF m 82 #[.val (.int p1), .val (.int p2), .val (.int (0 : Int32)), .val (.int (1 : Int32)), .val (.int (own_v_stat (0 : Int32) (1 : Int32))), .val (.int (0 : Int32)), .val (.int (1 : Int32)), .val (.int (1 : Int32))] [(.int (1 : Int32))]))
      refine Goes.step (fun _ k => XS.iloadN X4.here hx rfl (hb hby at_82) rfl k) ?_
      show Goes p e below _ (T4.setTop (mkF m 83 #[.val (.int p1), .val (.int p2), .val (.int (0 : Int32)), .val (.int (1 : Int32)), .val (.int (own_v_stat (0 : Int32) (1 : Int32))), .val (.int (0 : Int32)), .val (.int (1 : Int32)), .val (.int (1 : Int32))] [(.int (1 : Int32)), (.int (1 : Int32))]))
      refine Goes.step (fun _ k => XS.icmpNo X4.here hx rfl (hb hby at_83) rfl (teq (by decide)).2 k) ?_
      show Goes p e below _ (T4.setTop (mkF m 86 #[.val (.int p1), .val (.int p2), .val (.int (0 : Int32)), .val (.int (1 : Int32)), .val (.int (own_v_stat (0 : Int32) (1 : Int32))), .val (.int (0 : Int32)), .val (.int (1 : Int32)), .val (.int (1 : Int32))] []))
      refine Goes.step (fun _ k => XS.iload X4.here hx rfl (hb hby at_86) rfl k) ?_
      show Goes p e below _ (T4.setTop (mkF m 88 #[.val (.int p1), .val (.int p2), .val (.int (0 : Int32)), .val (.int (1 : Int32)), .val (.int (own_v_stat (0 : Int32) (1 : Int32))), .val (.int (0 : Int32)), .val (.int (1 : Int32)), .val (.int (1 : Int32))] [(.int (1 : Int32))]))
      refine Goes.step (fun _ k => XS.ifNo X4.here hx rfl (hb hby at_88) rfl ((if0 _ _).trans (feq (by decide)).1) k) ?_
      show Goes p e below _ (T4.setTop (mkF m 91 #[.val (.int p1), .val (.int p2), .val (.int (0 : Int32)), .val (.int (1 : Int32)), .val (.int (own_v_stat (0 : Int32) (1 : Int32))), .val (.int (0 : Int32)), .val (.int (1 : Int32)), .val (.int (1 : Int32))] []))
      refine Goes.step (fun _ k => XS.iconst X4.here hx rfl (hb hby at_91) k) ?_
      show Goes p e below _ (T4.setTop (mkF m 92 #[.val (.int p1), .val (.int p2), .val (.int (0 : Int32)), .val (.int (1 : Int32)), .val (.int (own_v_stat (0 : Int32) (1 : Int32))), .val (.int (0 : Int32)), .val (.int (1 : Int32)), .val (.int (1 : Int32))] [(.int (1 : Int32))]))
      refine Goes.step (fun _ k => XS.goto X4.here hx rfl (pc0 := 92) (pc' := 96) rfl (hb hby at_92) (by decide) (by decide) k) ?_
      show Goes p e below _ (T4.setTop (mkF m 96 #[.val (.int p1), .val (.int p2), .val (.int (0 : Int32)), .val (.int (1 : Int32)), .val (.int (own_v_stat (0 : Int32) (1 : Int32))), .val (.int (0 : Int32)), .val (.int (1 : Int32)), .val (.int (1 : Int32))] [(.int (1 : Int32))]))
      refine Goes.retN X4 hx hlk (t := .boolean) hret (by simp) (hb hby at_96) (by decide) (by decide) ?_
      exact ⟨rfl, N4⟩
  · refine Goes.step (fun _ k => XS.ifNo X0.here hx rfl (hb hby at_3) rfl ((if0 _ _).trans (feq hc1).1) k) ?_
    show Goes p e below _ (s₁.setTop (mkF m 6 #[.val (.int p1), .val (.int p2), .unset, .unset, .unset, .unset, .unset, .unset] []))
    refine Goes.step (fun _ k => XS.iconst X0.here hx rfl (hb hby at_6) k) ?_
    show Goes p e below _ (s₁.setTop (mkF m 7 #[.val (.int p1), .val (.int p2), .unset, .unset, .unset, .unset, .unset, .unset] [(.int (1 : Int32))]))
    refine Goes.step (fun _ k => XS.goto X0.here hx rfl (pc0 := 7) (pc' := 11) rfl (hb hby at_7) (by decide) (by decide) k) ?_
    show Goes p e below _ (s₁.setTop (mkF m 11 #[.val (.int p1), .val (.int p2), .unset, .unset, .unset, .unset, .unset, .unset] [(.int (1 : Int32))]))
    refine Goes.step (fun _ k => XS.istoreN X0.here hx rfl (hb hby at_11) rfl (l' := #[.val (.int p1), .val (.int p2), .val (.int (1 : Int32)), .unset, .unset, .unset, .unset, .unset]) rfl k) ?_
    show Goes p e below _ (s₁.setTop (mkF m 12 #[.val (.int p1), .val (.int p2), .val (.int (1 : Int32)), .unset, .unset, .unset, .unset, .unset] []))
    refine Goes.step (fun _ k => XS.iloadN X0.here hx rfl (hb hby at_12) rfl k) ?_
    show Goes p e below _ (s₁.setTop (mkF m 13 #[.val (.int p1), .val (.int p2), .val (.int (1 : Int32)), .unset, .unset, .unset, .unset, .unset] [(.int p2)]))
    refine Goes.step (fun _ k => XS.iconst X0.here hx rfl (hb hby at_13) k) ?_
    show Goes p e below _ (s₁.setTop (mkF m 14 #[.val (.int p1), .val (.int p2), .val (.int (1 : Int32)), .unset, .unset, .unset, .unset, .unset] [(.int (1 : Int32)), (.int p2)]))
    refine Goes.step (fun _ k => XS.iand X0.here hx rfl (hb hby at_14) rfl k) ?_
    show Goes p e below _ (s₁.setTop (mkF m 15 #[.val (.int p1), .val (.int p2), .val (.int (1 : Int32)), .unset, .unset, .unset, .unset, .unset] [(.int (p2 &&& (1 : Int32)))]))
    by_cases hc5 : (p2 &&& (1 : Int32)) = (0 : Int32)
    · refine Goes.step (fun _ k => XS.ifYes X0.here hx rfl (pc0 := 15) (pc' := 22) rfl (hb hby at_15) rfl ((if0 _ _).trans (teq hc5).1) (by decide) (by decide) k) ?_
      show Goes p e below _ (s₁.setTop (mkF m 22 #[.val (.int p1), .val (.int p2), .val (.int (1 : Int32)), .unset, .unset, .unset, .unset, .unset] []))
      refine Goes.step (fun _ k => XS.iconst X0.here hx rfl (hb hby at_22) k) ?_
      show Goes p e below _ (s₁.setTop (mkF m 23 #[.val (.int p1), .val (.int p2), .val (.int (1 : Int32)), .unset, .unset, .unset, .unset, .unset] [(.int (0 : Int32))]))
      refine Goes.step (fun _ k => XS.istoreN X0.here hx rfl (hb hby at_23) rfl (l' := #[.val (.int p1), .val (.int p2), .val (.int (1 : Int32)), .val (.int (0 : Int32)), .unset, .unset, .unset, .unset]) rfl k) ?_
      show Goes p e below _ (s₁.setTop (mkF m 24 #[.val (.int p1), .val (.int p2), .val (.int (1 : Int32)), .val (.int (0 : Int32)), .unset, .unset, .unset, .unset] []))
      refine Goes.step (fun _ k => XS.iloadN X0.here hx rfl (hb hby at_24) rfl k) ?_
      show Goes p e below _ (s₁.setTop (mkF m 25 #[.val (.int p1), .val (.int p2), .val (.int (1 : Int32)), .val (.int (0 : Int32)), .unset, .unset, .unset, .unset] [(.int (1 : Int32))]))
      refine Goes.step (fun _ k => XS.iloadN X0.here hx rfl (hb hby at_25) rfl k) ?_
      show Goes p e below _ (s₁.setTop (mkF m 26 #[.val (.int p1), .val (.int p2), .val (.int (1 : Int32)), .val (.int (0 : Int32)), .unset, .unset, .unset, .unset] [(.int (0 : Int32)), (.int (1 : Int32))]))
      refine Goes.callS X0 hx hZ hown (hw _ (List.mem_of_getElem? (i := 0) rfl)) (hw _ (List.mem_of_getElem? (i := 1) rfl)) (hw _ (List.mem_of_getElem? (i := 2) rfl)) (hw _ (List.mem_of_getElem? (i := 3) rfl)) (by decide) e0 (rm_stat l Z a0 hw (1 : Int32) (0 : Int32) h0 n0 Z0) (W := 0) (by decide) (by decide) (by decide) (by decide) (g := (mkF m 26 #[.val (.int p1), .val (.int p2), .val (.int (1 : Int32)), .val (.int (0 : Int32)), .unset, .unset, .unset, .unset] [(.int (0 : Int32)), (.int (1 : Int32))])) rfl (by rw [hml]; rfl) (rest := []) own_pd0 rfl rfl (by show 2 * 0 + _ ≤ _; exact Nat.le_of_eq rfl) (hb hby at_26) ?_
      intro v6 T6 L6 X6 hQ6
      obtain ⟨rfl, N6q, e6⟩ := hQ6
      have N6 := Fr.app N0 N6q
      show Goes p e below _ (T6.setTop (mkF m 29 #[.val (.int p1), .val (.int p2), .val (.int (1 : Int32)), .val (.int (0 : Int32)), .unset, .unset, .unset, .unset] [(.int (own_v_stat (1 : Int32) (0 : Int32)))]))
      refine Goes.step (fun _ k => XS.istore X6.here hx rfl (hb hby at_29) rfl (l' := #[.val (.int p1), .val (.int p2), .val (.int (1 : Int32)), .val (.int (0 : Int32)), .val (.int (own_v_stat (1 : Int32) (0 : Int32))), .unset, .unset, .unset]) rfl k) ?_
      show Goes p e below _ (T6.setTop (mkF m 31 #[.val (.int p1), .val (.int p2), .val (.int (1 : Int32)), .val (.int (0 : Int32)), .val (.int (own_v_stat (1 : Int32) (0 : Int32))), .unset, .unset, .unset] []))
      refine Goes.step (fun _ k => XS.iload X6.here hx rfl (hb hby at_31) rfl k) ?_
      show Goes p e below _ (T6.setTop (mkF m 33 #[.val (.int p1), .val (.int p2), .val (.int (1 : Int32)), .val (.int (0 : Int32)), .val (.int (own_v_stat (1 : Int32) (0 : Int32))), .unset, .unset, .unset] [(.int (own_v_stat (1 : Int32) (0 : Int32)))]))
      refine Goes.step (fun _ k => XS.iconst X6.here hx rfl (hb hby at_33) k) ?_
      show Goes p e below _ (T6.setTop (mkF m 34 #[.val (.int p1), .val (.int p2), .val (.int (1 : Int32)), .val (.int (0 : Int32)), .val (.int (own_v_stat (1 : Int32) (0 : Int32))), .unset, .unset, .unset] [(.int (1 : Int32)), (.int (own_v_stat (1 : Int32) (0 : Int32)))]))
      refine Goes.step (fun _ k => XS.iand X6.here hx rfl (hb hby at_34) rfl k) ?_
      show Goes p e below _ (T6.setTop (mkF m 35 #[.val (.int p1), .val (.int p2), .val (.int (1 : Int32)), .val (.int (0 : Int32)), .val (.int (own_v_stat (1 : Int32) (0 : Int32))), .unset, .unset, .unset] [(.int ((own_v_stat (1 : Int32) (0 : Int32)) &&& (1 : Int32)))]))
      refine Goes.step (fun _ k => XS.ifNo X6.here hx rfl (hb hby at_35) rfl ((if0 _ _).trans (feq (by decide)).1) k) ?_
      show Goes p e below _ (T6.setTop (mkF m 38 #[.val (.int p1), .val (.int p2), .val (.int (1 : Int32)), .val (.int (0 : Int32)), .val (.int (own_v_stat (1 : Int32) (0 : Int32))), .unset, .unset, .unset] []))
      refine Goes.step (fun _ k => XS.iconst X6.here hx rfl (hb hby at_38) k) ?_
      show Goes p e below _ (T6.setTop (mkF m 39 #[.val (.int p1), .val (.int p2), .val (.int (1 : Int32)), .val (.int (0 : Int32)), .val (.int (own_v_stat (1 : Int32) (0 : Int32))), .unset, .unset, .unset] [(.int (1 : Int32))]))
      refine Goes.step (fun _ k => XS.goto X6.here hx rfl (pc0 := 39) (pc' := 43) rfl (hb hby at_39) (by decide) (by decide) k) ?_
      show Goes p e below _ (T6.setTop (mkF m 43 #[.val (.int p1), .val (.int p2), .val (.int (1 : Int32)), .val (.int (0 : Int32)), .val (.int (own_v_stat (1 : Int32) (0 : Int32))), .unset, .unset, .unset] [(.int (1 : Int32))]))
      refine Goes.step (fun _ k => XS.istore X6.here hx rfl (hb hby at_43) rfl (l' := #[.val (.int p1), .val (.int p2), .val (.int (1 : Int32)), .val (.int (0 : Int32)), .val (.int (own_v_stat (1 : Int32) (0 : Int32))), .val (.int (1 : Int32)), .unset, .unset]) rfl k) ?_
      show Goes p e below _ (T6.setTop (mkF m 45 #[.val (.int p1), .val (.int p2), .val (.int (1 : Int32)), .val (.int (0 : Int32)), .val (.int (own_v_stat (1 : Int32) (0 : Int32))), .val (.int (1 : Int32)), .unset, .unset] []))
      refine Goes.step (fun _ k => XS.iload X6.here hx rfl (hb hby at_45) rfl k) ?_
      show Goes p e below _ (T6.setTop (mkF m 47 #[.val (.int p1), .val (.int p2), .val (.int (1 : Int32)), .val (.int (0 : Int32)), .val (.int (own_v_stat (1 : Int32) (0 : Int32))), .val (.int (1 : Int32)), .unset, .unset] [(.int (own_v_stat (1 : Int32) (0 : Int32)))]))
      refine Goes.step (fun _ k => XS.iconst X6.here hx rfl (hb hby at_47) k) ?_
      show Goes p e below _ (T6.setTop (mkF m 48 #[.val (.int p1), .val (.int p2), .val (.int (1 : Int32)), .val (.int (0 : Int32)), .val (.int (own_v_stat (1 : Int32) (0 : Int32))), .val (.int (1 : Int32)), .unset, .unset] [(.int (2 : Int32)), (.int (own_v_stat (1 : Int32) (0 : Int32)))]))
      refine Goes.step (fun _ k => XS.iand X6.here hx rfl (hb hby at_48) rfl k) ?_
      show Goes p e below _ (T6.setTop (mkF m 49 #[.val (.int p1), .val (.int p2), .val (.int (1 : Int32)), .val (.int (0 : Int32)), .val (.int (own_v_stat (1 : Int32) (0 : Int32))), .val (.int (1 : Int32)), .unset, .unset] [(.int ((own_v_stat (1 : Int32) (0 : Int32)) &&& (2 : Int32)))]))
      refine Goes.step (fun _ k => XS.ifYes X6.here hx rfl (pc0 := 49) (pc' := 56) rfl (hb hby at_49) rfl ((if0 _ _).trans (teq (by decide)).1) (by decide) (by decide) k) ?_
      show Goes p e below _ (T6.setTop (mkF m 56 #[.val (.int p1), .val (.int p2), .val (.int (1 : Int32)), .val (.int (0 : Int32)), .val (.int (own_v_stat (1 : Int32) (0 : Int32))), .val (.int (1 : Int32)), .unset, .unset] []))
      refine Goes.step (fun _ k => XS.iconst X6.here hx rfl (hb hby at_56) k) ?_
      show Goes p e below _ (T6.setTop (mkF m 57 #[.val (.int p1), .val (.int p2), .val (.int (1 : Int32)), .val (.int (0 : Int32)), .val (.int (own_v_stat (1 : Int32) (0 : Int32))), .val (.int (1 : Int32)), .unset, .unset] [(.int (0 : Int32))]))
      refine Goes.step (fun _ k => XS.istore X6.here hx rfl (hb hby at_57) rfl (l' := #[.val (.int p1), .val (.int p2), .val (.int (1 : Int32)), .val (.int (0 : Int32)), .val (.int (own_v_stat (1 : Int32) (0 : Int32))), .val (.int (1 : Int32)), .val (.int (0 : Int32)), .unset]) rfl k) ?_
      show Goes p e below _ (T6.setTop (mkF m 59 #[.val (.int p1), .val (.int p2), .val (.int (1 : Int32)), .val (.int (0 : Int32)), .val (.int (own_v_stat (1 : Int32) (0 : Int32))), .val (.int (1 : Int32)), .val (.int (0 : Int32)), .unset] []))
      refine Goes.step (fun _ k => XS.iload X6.here hx rfl (hb hby at_59) rfl k) ?_
      show Goes p e below _ (T6.setTop (mkF m 61 #[.val (.int p1), .val (.int p2), .val (.int (1 : Int32)), .val (.int (0 : Int32)), .val (.int (own_v_stat (1 : Int32) (0 : Int32))), .val (.int (1 : Int32)), .val (.int (0 : Int32)), .unset] [(.int (own_v_stat (1 : Int32) (0 : Int32)))]))
      refine Goes.step (fun _ k => XS.bipush X6.here hx rfl (hb hby at_61) k) ?_
      show Goes p e below _ (T6.setTop (mkF m 63 #[.val (.int p1), .val (.int p2), .val (.int (1 : Int32)), .val (.int (0 : Int32)), .val (.int (own_v_stat (1 : Int32) (0 : Int32))), .val (.int (1 : Int32)), .val (.int (0 : Int32)), .unset] [(.int (-4 : Int32)), (.int (own_v_stat (1 : Int32) (0 : Int32)))]))
      refine Goes.step (fun _ k => XS.iand X6.here hx rfl (hb hby at_63) rfl k) ?_
      show Goes p e below _ (T6.setTop (mkF m 64 #[.val (.int p1), .val (.int p2), .val (.int (1 : Int32)), .val (.int (0 : Int32)), .val (.int (own_v_stat (1 : Int32) (0 : Int32))), .val (.int (1 : Int32)), .val (.int (0 : Int32)), .unset] [(.int ((own_v_stat (1 : Int32) (0 : Int32)) &&& (-4 : Int32)))]))
      refine Goes.step (fun _ k => XS.ifNo X6.here hx rfl (hb hby at_64) rfl ((if0 _ _).trans (teq (by decide)).2) k) ?_
      show Goes p e below _ (T6.setTop (mkF m 67 #[.val (.int p1), .val (.int p2), .val (.int (1 : Int32)), .val (.int (0 : Int32)), .val (.int (own_v_stat (1 : Int32) (0 : Int32))), .val (.int (1 : Int32)), .val (.int (0 : Int32)), .unset] []))
      refine Goes.step (fun _ k => XS.iconst X6.here hx rfl (hb hby at_67) k) ?_
      show Goes p e below _ (T6.setTop (mkF m 68 #[.val (.int p1), .val (.int p2), .val (.int (1 : Int32)), .val (.int (0 : Int32)), .val (.int (own_v_stat (1 : Int32) (0 : Int32))), .val (.int (1 : Int32)), .val (.int (0 : Int32)), .unset] [(.int (1 : Int32))]))
      refine Goes.step (fun _ k => XS.goto X6.here hx rfl (pc0 := 68) (pc' := 72) rfl (hb hby at_68) (by decide) (by decide) k) ?_
      show Goes p e below _ (T6.setTop (mkF m 72 #[.val (.int p1), .val (.int p2), .val (.int (1 : Int32)), .val (.int (0 : Int32)), .val (.int (own_v_stat (1 : Int32) (0 : Int32))), .val (.int (1 : Int32)), .val (.int (0 : Int32)), .unset] [(.int (1 : Int32))]))
      refine Goes.step (fun _ k => XS.istore X6.here hx rfl (hb hby at_72) rfl (l' := #[.val (.int p1), .val (.int p2), .val (.int (1 : Int32)), .val (.int (0 : Int32)), .val (.int (own_v_stat (1 : Int32) (0 : Int32))), .val (.int (1 : Int32)), .val (.int (0 : Int32)), .val (.int (1 : Int32))]) rfl k) ?_
      show Goes p e below _ (T6.setTop (mkF m 74 #[.val (.int p1), .val (.int p2), .val (.int (1 : Int32)), .val (.int (0 : Int32)), .val (.int (own_v_stat (1 : Int32) (0 : Int32))), .val (.int (1 : Int32)), .val (.int (0 : Int32)), .val (.int (1 : Int32))] []))
      refine Goes.step (fun _ k => XS.iload X6.here hx rfl (hb hby at_74) rfl k) ?_
      show Goes p e below _ (T6.setTop (mkF m 76 #[.val (.int p1), .val (.int p2), .val (.int (1 : Int32)), .val (.int (0 : Int32)), .val (.int (own_v_stat (1 : Int32) (0 : Int32))), .val (.int (1 : Int32)), .val (.int (0 : Int32)), .val (.int (1 : Int32))] [(.int (1 : Int32))]))
      refine Goes.step (fun _ k => XS.iloadN X6.here hx rfl (hb hby at_76) rfl k) ?_
      show Goes p e below _ (T6.setTop (mkF m 77 #[.val (.int p1), .val (.int p2), .val (.int (1 : Int32)), .val (.int (0 : Int32)), .val (.int (own_v_stat (1 : Int32) (0 : Int32))), .val (.int (1 : Int32)), .val (.int (0 : Int32)), .val (.int (1 : Int32))] [(.int (1 : Int32)), (.int (1 : Int32))]))
      refine Goes.step (fun _ k => XS.icmpNo X6.here hx rfl (hb hby at_77) rfl (teq (by decide)).2 k) ?_
      show Goes p e below _ (T6.setTop (mkF m 80 #[.val (.int p1), .val (.int p2), .val (.int (1 : Int32)), .val (.int (0 : Int32)), .val (.int (own_v_stat (1 : Int32) (0 : Int32))), .val (.int (1 : Int32)), .val (.int (0 : Int32)), .val (.int (1 : Int32))] []))
      refine Goes.step (fun _ k => XS.iload X6.here hx rfl (hb hby at_80) rfl k) ?_
      show Goes p e below _ (T6.setTop (mkF m 82 #[.val (.int p1), .val (.int p2), .val (.int (1 : Int32)), .val (.int (0 : Int32)), .val (.int (own_v_stat (1 : Int32) (0 : Int32))), .val (.int (1 : Int32)), .val (.int (0 : Int32)), .val (.int (1 : Int32))] [(.int (0 : Int32))]))
      refine Goes.step (fun _ k => XS.iloadN X6.here hx rfl (hb hby at_82) rfl k) ?_
      show Goes p e below _ (T6.setTop (mkF m 83 #[.val (.int p1), .val (.int p2), .val (.int (1 : Int32)), .val (.int (0 : Int32)), .val (.int (own_v_stat (1 : Int32) (0 : Int32))), .val (.int (1 : Int32)), .val (.int (0 : Int32)), .val (.int (1 : Int32))] [(.int (0 : Int32)), (.int (0 : Int32))]))
      refine Goes.step (fun _ k => XS.icmpNo X6.here hx rfl (hb hby at_83) rfl (teq (by decide)).2 k) ?_
      show Goes p e below _ (T6.setTop (mkF m 86 #[.val (.int p1), .val (.int p2), .val (.int (1 : Int32)), .val (.int (0 : Int32)), .val (.int (own_v_stat (1 : Int32) (0 : Int32))), .val (.int (1 : Int32)), .val (.int (0 : Int32)), .val (.int (1 : Int32))] []))
      refine Goes.step (fun _ k => XS.iload X6.here hx rfl (hb hby at_86) rfl k) ?_
      show Goes p e below _ (T6.setTop (mkF m 88 #[.val (.int p1), .val (.int p2), .val (.int (1 : Int32)), .val (.int (0 : Int32)), .val (.int (own_v_stat (1 : Int32) (0 : Int32))), .val (.int (1 : Int32)), .val (.int (0 : Int32)), .val (.int (1 : Int32))] [(.int (1 : Int32))]))
      refine Goes.step (fun _ k => XS.ifNo X6.here hx rfl (hb hby at_88) rfl ((if0 _ _).trans (feq (by decide)).1) k) ?_
      show Goes p e below _ (T6.setTop (mkF m 91 #[.val (.int p1), .val (.int p2), .val (.int (1 : Int32)), .val (.int (0 : Int32)), .val (.int (own_v_stat (1 : Int32) (0 : Int32))), .val (.int (1 : Int32)), .val (.int (0 : Int32)), .val (.int (1 : Int32))] []))
      refine Goes.step (fun _ k => XS.iconst X6.here hx rfl (hb hby at_91) k) ?_
      show Goes p e below _ (T6.setTop (mkF m 92 #[.val (.int p1), .val (.int p2), .val (.int (1 : Int32)), .val (.int (0 : Int32)), .val (.int (own_v_stat (1 : Int32) (0 : Int32))), .val (.int (1 : Int32)), .val (.int (0 : Int32)), .val (.int (1 : Int32))] [(.int (1 : Int32))]))
      refine Goes.step (fun _ k => XS.goto X6.here hx rfl (pc0 := 92) (pc' := 96) rfl (hb hby at_92) (by decide) (by decide) k) ?_
      show Goes p e below _ (T6.setTop (mkF m 96 #[.val (.int p1), .val (.int p2), .val (.int (1 : Int32)), .val (.int (0 : Int32)), .val (.int (own_v_stat (1 : Int32) (0 : Int32))), .val (.int (1 : Int32)), .val (.int (0 : Int32)), .val (.int (1 : Int32))] [(.int (1 : Int32))]))
      refine Goes.retN X6 hx hlk (t := .boolean) hret (by simp) (hb hby at_96) (by decide) (by decide) ?_
      exact ⟨rfl, N6⟩
    · refine Goes.step (fun _ k => XS.ifNo X0.here hx rfl (hb hby at_15) rfl ((if0 _ _).trans (feq hc5).1) k) ?_
      show Goes p e below _ (s₁.setTop (mkF m 18 #[.val (.int p1), .val (.int p2), .val (.int (1 : Int32)), .unset, .unset, .unset, .unset, .unset] []))
      refine Goes.step (fun _ k => XS.iconst X0.here hx rfl (hb hby at_18) k) ?_
      show Goes p e below _ (s₁.setTop (mkF m 19 #[.val (.int p1), .val (.int p2), .val (.int (1 : Int32)), .unset, .unset, .unset, .unset, .unset] [(.int (1 : Int32))]))
      refine Goes.step (fun _ k => XS.goto X0.here hx rfl (pc0 := 19) (pc' := 23) rfl (hb hby at_19) (by decide) (by decide) k) ?_
      show Goes p e below _ (s₁.setTop (mkF m 23 #[.val (.int p1), .val (.int p2), .val (.int (1 : Int32)), .unset, .unset, .unset, .unset, .unset] [(.int (1 : Int32))]))
      refine Goes.step (fun _ k => XS.istoreN X0.here hx rfl (hb hby at_23) rfl (l' := #[.val (.int p1), .val (.int p2), .val (.int (1 : Int32)), .val (.int (1 : Int32)), .unset, .unset, .unset, .unset]) rfl k) ?_
      show Goes p e below _ (s₁.setTop (mkF m 24 #[.val (.int p1), .val (.int p2), .val (.int (1 : Int32)), .val (.int (1 : Int32)), .unset, .unset, .unset, .unset] []))
      refine Goes.step (fun _ k => XS.iloadN X0.here hx rfl (hb hby at_24) rfl k) ?_
      show Goes p e below _ (s₁.setTop (mkF m 25 #[.val (.int p1), .val (.int p2), .val (.int (1 : Int32)), .val (.int (1 : Int32)), .unset, .unset, .unset, .unset] [(.int (1 : Int32))]))
      refine Goes.step (fun _ k => XS.iloadN X0.here hx rfl (hb hby at_25) rfl k) ?_
      show Goes p e below _ (s₁.setTop (mkF m 26 #[.val (.int p1), .val (.int p2), .val (.int (1 : Int32)), .val (.int (1 : Int32)), .unset, .unset, .unset, .unset] [(.int (1 : Int32)), (.int (1 : Int32))]))
      refine Goes.callS X0 hx hZ hown (hw _ (List.mem_of_getElem? (i := 0) rfl)) (hw _ (List.mem_of_getElem? (i := 1) rfl)) (hw _ (List.mem_of_getElem? (i := 2) rfl)) (hw _ (List.mem_of_getElem? (i := 3) rfl)) (by decide) e0 (rm_stat l Z a0 hw (1 : Int32) (1 : Int32) h0 n0 Z0) (W := 0) (by decide) (by decide) (by decide) (by decide) (g := (mkF m 26 #[.val (.int p1), .val (.int p2), .val (.int (1 : Int32)), .val (.int (1 : Int32)), .unset, .unset, .unset, .unset] [(.int (1 : Int32)), (.int (1 : Int32))])) rfl (by rw [hml]; rfl) (rest := []) own_pd0 rfl rfl (by show 2 * 0 + _ ≤ _; exact Nat.le_of_eq rfl) (hb hby at_26) ?_
      intro v7 T7 L7 X7 hQ7
      obtain ⟨rfl, N7q, e7⟩ := hQ7
      have N7 := Fr.app N0 N7q
      show Goes p e below _ (T7.setTop (mkF m 29 #[.val (.int p1), .val (.int p2), .val (.int (1 : Int32)), .val (.int (1 : Int32)), .unset, .unset, .unset, .unset] [(.int (own_v_stat (1 : Int32) (1 : Int32)))]))
      refine Goes.step (fun _ k => XS.istore X7.here hx rfl (hb hby at_29) rfl (l' := #[.val (.int p1), .val (.int p2), .val (.int (1 : Int32)), .val (.int (1 : Int32)), .val (.int (own_v_stat (1 : Int32) (1 : Int32))), .unset, .unset, .unset]) rfl k) ?_
      show Goes p e below _ (T7.setTop (mkF m 31 #[.val (.int p1), .val (.int p2), .val (.int (1 : Int32)), .val (.int (1 : Int32)), .val (.int (own_v_stat (1 : Int32) (1 : Int32))), .unset, .unset, .unset] []))
      refine Goes.step (fun _ k => XS.iload X7.here hx rfl (hb hby at_31) rfl k) ?_
      show Goes p e below _ (T7.setTop (mkF m 33 #[.val (.int p1), .val (.int p2), .val (.int (1 : Int32)), .val (.int (1 : Int32)), .val (.int (own_v_stat (1 : Int32) (1 : Int32))), .unset, .unset, .unset] [(.int (own_v_stat (1 : Int32) (1 : Int32)))]))
      refine Goes.step (fun _ k => XS.iconst X7.here hx rfl (hb hby at_33) k) ?_
      show Goes p e below _ (T7.setTop (mkF m 34 #[.val (.int p1), .val (.int p2), .val (.int (1 : Int32)), .val (.int (1 : Int32)), .val (.int (own_v_stat (1 : Int32) (1 : Int32))), .unset, .unset, .unset] [(.int (1 : Int32)), (.int (own_v_stat (1 : Int32) (1 : Int32)))]))
      refine Goes.step (fun _ k => XS.iand X7.here hx rfl (hb hby at_34) rfl k) ?_
      show Goes p e below _ (T7.setTop (mkF m 35 #[.val (.int p1), .val (.int p2), .val (.int (1 : Int32)), .val (.int (1 : Int32)), .val (.int (own_v_stat (1 : Int32) (1 : Int32))), .unset, .unset, .unset] [(.int ((own_v_stat (1 : Int32) (1 : Int32)) &&& (1 : Int32)))]))
      refine Goes.step (fun _ k => XS.ifNo X7.here hx rfl (hb hby at_35) rfl ((if0 _ _).trans (feq (by decide)).1) k) ?_
      show Goes p e below _ (T7.setTop (mkF m 38 #[.val (.int p1), .val (.int p2), .val (.int (1 : Int32)), .val (.int (1 : Int32)), .val (.int (own_v_stat (1 : Int32) (1 : Int32))), .unset, .unset, .unset] []))
      refine Goes.step (fun _ k => XS.iconst X7.here hx rfl (hb hby at_38) k) ?_
      show Goes p e below _ (T7.setTop (mkF m 39 #[.val (.int p1), .val (.int p2), .val (.int (1 : Int32)), .val (.int (1 : Int32)), .val (.int (own_v_stat (1 : Int32) (1 : Int32))), .unset, .unset, .unset] [(.int (1 : Int32))]))
      refine Goes.step (fun _ k => XS.goto X7.here hx rfl (pc0 := 39) (pc' := 43) rfl (hb hby at_39) (by decide) (by decide) k) ?_
      show Goes p e below _ (T7.setTop (mkF m 43 #[.val (.int p1), .val (.int p2), .val (.int (1 : Int32)), .val (.int (1 : Int32)), .val (.int (own_v_stat (1 : Int32) (1 : Int32))), .unset, .unset, .unset] [(.int (1 : Int32))]))
      refine Goes.step (fun _ k => XS.istore X7.here hx rfl (hb hby at_43) rfl (l' := #[.val (.int p1), .val (.int p2), .val (.int (1 : Int32)), .val (.int (1 : Int32)), .val (.int (own_v_stat (1 : Int32) (1 : Int32))), .val (.int (1 : Int32)), .unset, .unset]) rfl k) ?_
      show Goes p e below _ (T7.setTop (mkF m 45 #[.val (.int p1), .val (.int p2), .val (.int (1 : Int32)), .val (.int (1 : Int32)), .val (.int (own_v_stat (1 : Int32) (1 : Int32))), .val (.int (1 : Int32)), .unset, .unset] []))
      refine Goes.step (fun _ k => XS.iload X7.here hx rfl (hb hby at_45) rfl k) ?_
      show Goes p e below _ (T7.setTop (mkF m 47 #[.val (.int p1), .val (.int p2), .val (.int (1 : Int32)), .val (.int (1 : Int32)), .val (.int (own_v_stat (1 : Int32) (1 : Int32))), .val (.int (1 : Int32)), .unset, .unset] [(.int (own_v_stat (1 : Int32) (1 : Int32)))]))
      refine Goes.step (fun _ k => XS.iconst X7.here hx rfl (hb hby at_47) k) ?_
      show Goes p e below _ (T7.setTop (mkF m 48 #[.val (.int p1), .val (.int p2), .val (.int (1 : Int32)), .val (.int (1 : Int32)), .val (.int (own_v_stat (1 : Int32) (1 : Int32))), .val (.int (1 : Int32)), .unset, .unset] [(.int (2 : Int32)), (.int (own_v_stat (1 : Int32) (1 : Int32)))]))
      refine Goes.step (fun _ k => XS.iand X7.here hx rfl (hb hby at_48) rfl k) ?_
      show Goes p e below _ (T7.setTop (mkF m 49 #[.val (.int p1), .val (.int p2), .val (.int (1 : Int32)), .val (.int (1 : Int32)), .val (.int (own_v_stat (1 : Int32) (1 : Int32))), .val (.int (1 : Int32)), .unset, .unset] [(.int ((own_v_stat (1 : Int32) (1 : Int32)) &&& (2 : Int32)))]))
      refine Goes.step (fun _ k => XS.ifNo X7.here hx rfl (hb hby at_49) rfl ((if0 _ _).trans (feq (by decide)).1) k) ?_
      show Goes p e below _ (T7.setTop (mkF m 52 #[.val (.int p1), .val (.int p2), .val (.int (1 : Int32)), .val (.int (1 : Int32)), .val (.int (own_v_stat (1 : Int32) (1 : Int32))), .val (.int (1 : Int32)), .unset, .unset] []))
      refine Goes.step (fun _ k => XS.iconst X7.here hx rfl (hb hby at_52) k) ?_
      show Goes p e below _ (T7.setTop (mkF m 53 #[.val (.int p1), .val (.int p2), .val (.int (1 : Int32)), .val (.int (1 : Int32)), .val (.int (own_v_stat (1 : Int32) (1 : Int32))), .val (.int (1 : Int32)), .unset, .unset] [(.int (1 : Int32))]))
      refine Goes.step (fun _ k => XS.goto X7.here hx rfl (pc0 := 53) (pc' := 57) rfl (hb hby at_53) (by decide) (by decide) k) ?_
      show Goes p e below _ (T7.setTop (mkF m 57 #[.val (.int p1), .val (.int p2), .val (.int (1 : Int32)), .val (.int (1 : Int32)), .val (.int (own_v_stat (1 : Int32) (1 : Int32))), .val (.int (1 : Int32)), .unset, .unset] [(.int (1 : Int32))]))
      refine Goes.step (fun _ k => XS.istore X7.here hx rfl (hb hby at_57) rfl (l' := #[.val (.int p1), .val (.int p2), .val (.int (1 : Int32)), .val (.int (1 : Int32)), .val (.int (own_v_stat (1 : Int32) (1 : Int32))), .val (.int (1 : Int32)), .val (.int (1 : Int32)), .unset]) rfl k) ?_
      show Goes p e below _ (T7.setTop (mkF m 59 #[.val (.int p1), .val (.int p2), .val (.int (1 : Int32)), .val (.int (1 : Int32)), .val (.int (own_v_stat (1 : Int32) (1 : Int32))), .val (.int (1 : Int32)), .val (.int (1 : Int32)), .unset] []))
      refine Goes.step (fun _ k => XS.iload X7.here hx rfl (hb hby at_59) rfl k) ?_
      show Goes p e below _ (T7.setTop (mkF m 61 #[.val (.int p1), .val (.int p2), .val (.int (1 : Int32)), .val (.int (1 : Int32)), .val (.int (own_v_stat (1 : Int32) (1 : Int32))), .val (.int (1 : Int32)), .val (.int (1 : Int32)), .unset] [(.int (own_v_stat (1 : Int32) (1 : Int32)))]))
      refine Goes.step (fun _ k => XS.bipush X7.here hx rfl (hb hby at_61) k) ?_
      show Goes p e below _ (T7.setTop (mkF m 63 #[.val (.int p1), .val (.int p2), .val (.int (1 : Int32)), .val (.int (1 : Int32)), .val (.int (own_v_stat (1 : Int32) (1 : Int32))), .val (.int (1 : Int32)), .val (.int (1 : Int32)), .unset] [(.int (-4 : Int32)), (.int (own_v_stat (1 : Int32) (1 : Int32)))]))
      refine Goes.step (fun _ k => XS.iand X7.here hx rfl (hb hby at_63) rfl k) ?_
      show Goes p e below _ (T7.setTop (mkF m 64 #[.val (.int p1), .val (.int p2), .val (.int (1 : Int32)), .val (.int (1 : Int32)), .val (.int (own_v_stat (1 : Int32) (1 : Int32))), .val (.int (1 : Int32)), .val (.int (1 : Int32)), .unset] [(.int ((own_v_stat (1 : Int32) (1 : Int32)) &&& (-4 : Int32)))]))
      refine Goes.step (fun _ k => XS.ifNo X7.here hx rfl (hb hby at_64) rfl ((if0 _ _).trans (teq (by decide)).2) k) ?_
      show Goes p e below _ (T7.setTop (mkF m 67 #[.val (.int p1), .val (.int p2), .val (.int (1 : Int32)), .val (.int (1 : Int32)), .val (.int (own_v_stat (1 : Int32) (1 : Int32))), .val (.int (1 : Int32)), .val (.int (1 : Int32)), .unset] []))
      refine Goes.step (fun _ k => XS.iconst X7.here hx rfl (hb hby at_67) k) ?_
      show Goes p e below _ (T7.setTop (mkF m 68 #[.val (.int p1), .val (.int p2), .val (.int (1 : Int32)), .val (.int (1 : Int32)), .val (.int (own_v_stat (1 : Int32) (1 : Int32))), .val (.int (1 : Int32)), .val (.int (1 : Int32)), .unset] [(.int (1 : Int32))]))
      refine Goes.step (fun _ k => XS.goto X7.here hx rfl (pc0 := 68) (pc' := 72) rfl (hb hby at_68) (by decide) (by decide) k) ?_
      show Goes p e below _ (T7.setTop (mkF m 72 #[.val (.int p1), .val (.int p2), .val (.int (1 : Int32)), .val (.int (1 : Int32)), .val (.int (own_v_stat (1 : Int32) (1 : Int32))), .val (.int (1 : Int32)), .val (.int (1 : Int32)), .unset] [(.int (1 : Int32))]))
      refine Goes.step (fun _ k => XS.istore X7.here hx rfl (hb hby at_72) rfl (l' := #[.val (.int p1), .val (.int p2), .val (.int (1 : Int32)), .val (.int (1 : Int32)), .val (.int (own_v_stat (1 : Int32) (1 : Int32))), .val (.int (1 : Int32)), .val (.int (1 : Int32)), .val (.int (1 : Int32))]) rfl k) ?_
      show Goes p e below _ (T7.setTop (mkF m 74 #[.val (.int p1), .val (.int p2), .val (.int (1 : Int32)), .val (.int (1 : Int32)), .val (.int (own_v_stat (1 : Int32) (1 : Int32))), .val (.int (1 : Int32)), .val (.int (1 : Int32)), .val (.int (1 : Int32))] []))
      refine Goes.step (fun _ k => XS.iload X7.here hx rfl (hb hby at_74) rfl k) ?_
      show Goes p e below _ (T7.setTop (mkF m 76 #[.val (.int p1), .val (.int p2), .val (.int (1 : Int32)), .val (.int (1 : Int32)), .val (.int (own_v_stat (1 : Int32) (1 : Int32))), .val (.int (1 : Int32)), .val (.int (1 : Int32)), .val (.int (1 : Int32))] [(.int (1 : Int32))]))
      refine Goes.step (fun _ k => XS.iloadN X7.here hx rfl (hb hby at_76) rfl k) ?_
      show Goes p e below _ (T7.setTop (mkF m 77 #[.val (.int p1), .val (.int p2), .val (.int (1 : Int32)), .val (.int (1 : Int32)), .val (.int (own_v_stat (1 : Int32) (1 : Int32))), .val (.int (1 : Int32)), .val (.int (1 : Int32)), .val (.int (1 : Int32))] [(.int (1 : Int32)), (.int (1 : Int32))]))
      refine Goes.step (fun _ k => XS.icmpNo X7.here hx rfl (hb hby at_77) rfl (teq (by decide)).2 k) ?_
      show Goes p e below _ (T7.setTop (mkF m 80 #[.val (.int p1), .val (.int p2), .val (.int (1 : Int32)), .val (.int (1 : Int32)), .val (.int (own_v_stat (1 : Int32) (1 : Int32))), .val (.int (1 : Int32)), .val (.int (1 : Int32)), .val (.int (1 : Int32))] []))
      refine Goes.step (fun _ k => XS.iload X7.here hx rfl (hb hby at_80) rfl k) ?_
      show Goes p e below _ (T7.setTop (mkF m 82 #[.val (.int p1), .val (.int p2), .val (.int (1 : Int32)), .val (.int (1 : Int32)), .val (.int (own_v_stat (1 : Int32) (1 : Int32))), .val (.int (1 : Int32)), .val (.int (1 : Int32)), .val (.int (1 : Int32))] [(.int (1 : Int32))]))
      refine Goes.step (fun _ k => XS.iloadN X7.here hx rfl (hb hby at_82) rfl k) ?_
      show Goes p e below _ (T7.setTop (mkF m 83 #[.val (.int p1), .val (.int p2), .val (.int (1 : Int32)), .val (.int (1 : Int32)), .val (.int (own_v_stat (1 : Int32) (1 : Int32))), .val (.int (1 : Int32)), .val (.int (1 : Int32)), .val (.int (1 : Int32))] [(.int (1 : Int32)), (.int (1 : Int32))]))
      refine Goes.step (fun _ k => XS.icmpNo X7.here hx rfl (hb hby at_83) rfl (teq (by decide)).2 k) ?_
      show Goes p e below _ (T7.setTop (mkF m 86 #[.val (.int p1), .val (.int p2), .val (.int (1 : Int32)), .val (.int (1 : Int32)), .val (.int (own_v_stat (1 : Int32) (1 : Int32))), .val (.int (1 : Int32)), .val (.int (1 : Int32)), .val (.int (1 : Int32))] []))
      refine Goes.step (fun _ k => XS.iload X7.here hx rfl (hb hby at_86) rfl k) ?_
      show Goes p e below _ (T7.setTop (mkF m 88 #[.val (.int p1), .val (.int p2), .val (.int (1 : Int32)), .val (.int (1 : Int32)), .val (.int (own_v_stat (1 : Int32) (1 : Int32))), .val (.int (1 : Int32)), .val (.int (1 : Int32)), .val (.int (1 : Int32))] [(.int (1 : Int32))]))
      refine Goes.step (fun _ k => XS.ifNo X7.here hx rfl (hb hby at_88) rfl ((if0 _ _).trans (feq (by decide)).1) k) ?_
      show Goes p e below _ (T7.setTop (mkF m 91 #[.val (.int p1), .val (.int p2), .val (.int (1 : Int32)), .val (.int (1 : Int32)), .val (.int (own_v_stat (1 : Int32) (1 : Int32))), .val (.int (1 : Int32)), .val (.int (1 : Int32)), .val (.int (1 : Int32))] []))
      refine Goes.step (fun _ k => XS.iconst X7.here hx rfl (hb hby at_91) k) ?_
      show Goes p e below _ (T7.setTop (mkF m 92 #[.val (.int p1), .val (.int p2), .val (.int (1 : Int32)), .val (.int (1 : Int32)), .val (.int (own_v_stat (1 : Int32) (1 : Int32))), .val (.int (1 : Int32)), .val (.int (1 : Int32)), .val (.int (1 : Int32))] [(.int (1 : Int32))]))
      refine Goes.step (fun _ k => XS.goto X7.here hx rfl (pc0 := 92) (pc' := 96) rfl (hb hby at_92) (by decide) (by decide) k) ?_
      show Goes p e below _ (T7.setTop (mkF m 96 #[.val (.int p1), .val (.int p2), .val (.int (1 : Int32)), .val (.int (1 : Int32)), .val (.int (own_v_stat (1 : Int32) (1 : Int32))), .val (.int (1 : Int32)), .val (.int (1 : Int32)), .val (.int (1 : Int32))] [(.int (1 : Int32))]))
      refine Goes.retN X7 hx hlk (t := .boolean) hret (by simp) (hb hby at_96) (by decide) (by decide) ?_
      exact ⟨rfl, N7⟩
set_option maxRecDepth 65536 in
set_option maxHeartbeats 40000000 in
theorem comes_1 {Post : Tables → Env → Array Value → State → Outcome → State → Prop} (hpost : ∀ tb e args s v u, (limb_1_1.after args s (.returned v) u = true ∧ limb_1_2.after args s (.returned v) u = true ∧ True) → FrameEnd s (.returned v) u (Jvm.fieldLocs frame_1_writes args s ++ Jvm.arrayLocs frame_1_arrays args s ++ Jvm.staticLocs frame_1_statics s) 0 0 → Post tb e args s (.returned v) u) :
    ArmFor flags0 classFile x code maxLocals ret World_1 tables_1 room_1 Calls_1 rest_1 Pre_1 Post := by
  intro l hfl _ _ p e ha hc hk s m args below hf hA hF happ hP
  obtain ⟨hcalls, hrest, hpre⟩ := hP
  obtain ⟨-, -, -, hnamed, -, -, -, hat⟩ := (Spec.applies_iff hf).mp happ
  obtain ⟨hg, hn⟩ := and_e (Cond.before_iff.mp (show (Jvm.Cond.and given_1 narrow_1).before args s = true from hpre))
  obtain ⟨hcnt, g0⟩ := and_e hg
  obtain ⟨q0, g1⟩ := and_e g0
  have q1 := g1
  obtain ⟨w0, w1, rfl⟩ : ∃ w0 w1 : Value, args = #[w0, w1] := by
    have hs : args.size = 2 := by simpa [Cond.value, given_1] using hcnt
    obtain ⟨L⟩ := args
    match L, hs with
    | [w0, w1], _ => exact ⟨w0, w1, rfl⟩
  have hw := fun d (hd : d ∈ tables_1) => atoms_spec (ws := Jvm.Cond.code x code maxLocals ret :: tables_1) hat d (List.mem_cons_of_mem _ hd)
  obtain ⟨i0, e0⟩ := is_v q0
  obtain rfl : w0 = (.int i0) := Option.some.inj e0
  obtain ⟨i1, e1⟩ := is_v q1
  obtain rfl : w1 = (.int i1) := Option.some.inj e1
  obtain ⟨n, o, h1, h2, h3, _, L, rfl, ⟨rfl, N⟩, hq⟩ := rm0 l s _ hw i0 i1 s.heap s.heap.size (Nat.le_refl _) tables_1 p e ha hc hk s m _ below hf ((Spec.applies_iff_loose hf).mp happ).1 ⟨rfl, State.Warmed39.refl s, rfl⟩ trivial
  refine ⟨n, _, h1, h2, h3, hpost _ _ _ _ _ _ ⟨Cond.after_iff.mpr rfl, Cond.after_iff.mpr (eq_i res_at (Term.int_eval (1)) rfl), trivial⟩ ⟨hq.1, hq.2.1, (hq.2.2.sift fun y hy => Or.inr (N y hy)).mono (by decide) (by decide)⟩⟩
theorem main_1_1 : Claimed_1_1 := comes_1 fun _ _ _ _ _ _ h hF => ⟨h.1, hF⟩
theorem main_1_2 : Claimed_1_2 := comes_1 fun _ _ _ _ _ _ h hF => ⟨h.2.1, hF⟩
end Jvm.Pilot.@@N@@
namespace Jvm.Pilot.@@N@@
open Jvm Jvm.ClassFile Sem Op Lib Jvm.Free Jvm.Stand Jvm.Pilot.@@N@@.Jvm.D
/-! MADE BY PROGRAM (witnessworld.py) out of the Statement's table words and the real class files: 9 classes; the members and pool entries that the words name. The judged class is class 1, her method 1. -/
namespace start1
open Jvm.ClassFile
def u (s : String) : CpInfo := .utf8 (stringToUtf16 s)
/-- a pool by its gaps: so many unusable entries, then the entry; so many at the end -/
def gap : Nat → List CpInfo → List CpInfo
  | 0, r => r
  | n + 1, r => .unusable :: gap n r
def poolList (es : List (Nat × CpInfo)) (last : Nat) : List CpInfo := es.foldr (fun e r => gap e.1 (e.2 :: r)) (gap last [])
def pool (es : List (Nat × CpInfo)) (last : Nat) : Array CpInfo := ⟨poolList es last⟩
def fileOf (pool : Array CpInfo) (this : Nat) (attrs : Array Attribute := #[]) (ms : Array MethodInfo := #[]) (fl : Nat := 33) (sup : Nat := 0) (ifs : Array Nat := #[]) (fds : Array FieldInfo := #[]) : ClassFile where
  minorVersion := 0
  majorVersion := 65
  constantPool := pool
  accessFlags := fl
  thisClass := this
  superClass := sup
  interfaces := ifs
  fields := fds
  methods := ms
  attributes := attrs
def plain (name : String) (sup : Option ClassId) : Class where
  name := name
  kind := .ordinary
  loader := none
  accessFlags := 33
  super := sup
  interfaces := #[]
  cf := none
  fields := #[]
  methods := #[]
  instanceTypes := #[]
  staticTypes := #[]
  resolved := #[]
  callSites := []
  init := .initialized
  statics := none
  mirror := none

def pool0 : Array CpInfo := pool [(5, u "<init>"), (0, u "()V"), (1, .class_ 10), (1, u "java/lang/Object")] 113

def k0m0 : Method := { name := "<init>", desc := "()V", sig := { parameters := [], returnType := none }, accessFlags := 1, code := none }
/-- java/lang/Object -/
def k0 : Class := { plain "java/lang/Object" none with
  accessFlags := 33
  interfaces := #[]
  cf := some (fileOf pool0 8 #[] #[{ accessFlags := 1, nameIndex := 5, descriptorIndex := 6, attributes := #[] }] 33 0 #[] #[])
  fields := #[]
  methods := #[k0m0]
  instanceTypes := #[]
  staticTypes := #[]
  resolved := Array.replicate 124 none
  statics := none }

def pool1 : Array CpInfo := pool [(2, .class_ 4), (1, u "java/lang/Object"), (0, u "<init>"), (0, u "()V"), (0, .methodref 8 9), (0, .class_ 10), (0, .nameAndType 11 12), (0, u "com/example/nortia/nortia/server/Protocol"), (0, u "status"), (0, u "(ZZ)I"), (0, .class_ 14), (0, u "com/example/nortia/nortia/server/ProtocolStatusPinLaw"), (2, u "law"), (0, u "(II)Z")] 3

def k1m0 : Method := { name := "<init>", desc := "()V", sig := { parameters := [], returnType := none }, accessFlags := 2, code := none }
def k1c1 : Code := { maxStack := 2, maxLocals := 8, code := code, exceptionTable := #[], attributes := #[] }
def k1m1 : Method := { name := "law", desc := "(II)Z", sig := { parameters := [.int, .int], returnType := some .boolean }, accessFlags := 9, code := some k1c1 }
/-- com/example/nortia/nortia/server/ProtocolStatusPinLaw -/
def k1 : Class := { plain "com/example/nortia/nortia/server/ProtocolStatusPinLaw" (some 0) with
  accessFlags := 49
  interfaces := #[]
  cf := some (fileOf pool1 13 #[] #[{ accessFlags := 2, nameIndex := 5, descriptorIndex := 6, attributes := #[] }, { accessFlags := 9, nameIndex := 17, descriptorIndex := 18, attributes := #[] }] 49 2 #[] #[])
  fields := #[]
  methods := #[k1m0, k1m1]
  instanceTypes := #[]
  staticTypes := #[]
  resolved := Array.replicate 22 none
  statics := none }

def pool2 : Array CpInfo := pool [(1, .class_ 2), (0, u "com/example/nortia/nortia/server/Protocol"), (1, .class_ 6), (1, u "java/lang/Object"), (0, u "<init>"), (0, u "()V"), (173, u "LONG_PASSWORD"), (0, u "I"), (2, u "LONG_FLAG"), (1, u "CONNECT_WITH_DB"), (1, u "PROTOCOL_41"), (1, u "TRANSACTIONS"), (1, u "SECURE_CONNECTION"), (1, u "CAPABILITIES"), (1, u "IN_TRANSACTION"), (0, u "AUTOCOMMIT"), (1, u "QUIT"), (0, u "INIT_DB"), (0, u "QUERY"), (1, u "PING"), (1, u "CHALLENGE_LENGTH"), (1, u "PROTOCOL_VERSION"), (1, u "UTF8MB4"), (1, u "BINARY"), (1, u "MAX_BYTES_PER_CHARACTER"), (0, u "TYPE_LONGLONG"), (0, u "TYPE_VAR_STRING"), (1, u "NOT_NULL_FLAG"), (0, u "UNSIGNED_FLAG"), (1, u "NULL_VALUE"), (10, u "status"), (0, u "(ZZ)I"), (8, .class_ 244), (0, u "com/example/nortia/nortia/server/Protocol$ServerError")] 17

def k2m0 : Method := { name := "<init>", desc := "()V", sig := { parameters := [], returnType := none }, accessFlags := 2, code := none }
def k2c1 : Code := { maxStack := 2, maxLocals := 2, code := prog_20_method_5_code, exceptionTable := #[], attributes := #[] }
def k2m1 : Method := { name := "status", desc := "(ZZ)I", sig := { parameters := [.boolean, .boolean], returnType := some .int }, accessFlags := 8, code := some k2c1 }
/-- com/example/nortia/nortia/server/Protocol -/
def k2 : Class := { plain "com/example/nortia/nortia/server/Protocol" (some 0) with
  accessFlags := 48
  interfaces := #[]
  cf := some (fileOf pool2 1 #[.nestMembers #[243]] #[{ accessFlags := 2, nameIndex := 7, descriptorIndex := 8, attributes := #[] }, { accessFlags := 8, nameIndex := 233, descriptorIndex := 234, attributes := #[] }] 48 4 #[] #[{ accessFlags := 24, nameIndex := 182, descriptorIndex := 183, attributes := #[] }, { accessFlags := 24, nameIndex := 186, descriptorIndex := 183, attributes := #[] }, { accessFlags := 24, nameIndex := 188, descriptorIndex := 183, attributes := #[] }, { accessFlags := 24, nameIndex := 190, descriptorIndex := 183, attributes := #[] }, { accessFlags := 24, nameIndex := 192, descriptorIndex := 183, attributes := #[] }, { accessFlags := 24, nameIndex := 194, descriptorIndex := 183, attributes := #[] }, { accessFlags := 24, nameIndex := 196, descriptorIndex := 183, attributes := #[] }, { accessFlags := 24, nameIndex := 198, descriptorIndex := 183, attributes := #[] }, { accessFlags := 24, nameIndex := 199, descriptorIndex := 183, attributes := #[] }, { accessFlags := 24, nameIndex := 201, descriptorIndex := 183, attributes := #[] }, { accessFlags := 24, nameIndex := 202, descriptorIndex := 183, attributes := #[] }, { accessFlags := 24, nameIndex := 203, descriptorIndex := 183, attributes := #[] }, { accessFlags := 24, nameIndex := 205, descriptorIndex := 183, attributes := #[] }, { accessFlags := 24, nameIndex := 207, descriptorIndex := 183, attributes := #[] }, { accessFlags := 26, nameIndex := 209, descriptorIndex := 183, attributes := #[] }, { accessFlags := 26, nameIndex := 211, descriptorIndex := 183, attributes := #[] }, { accessFlags := 26, nameIndex := 213, descriptorIndex := 183, attributes := #[] }, { accessFlags := 26, nameIndex := 215, descriptorIndex := 183, attributes := #[] }, { accessFlags := 26, nameIndex := 216, descriptorIndex := 183, attributes := #[] }, { accessFlags := 26, nameIndex := 217, descriptorIndex := 183, attributes := #[] }, { accessFlags := 26, nameIndex := 219, descriptorIndex := 183, attributes := #[] }, { accessFlags := 26, nameIndex := 220, descriptorIndex := 183, attributes := #[] }, { accessFlags := 26, nameIndex := 222, descriptorIndex := 183, attributes := #[] }])
  fields := #[{ name := "LONG_PASSWORD", type := .int, accessFlags := 24, slot := 0, constantValue := 0 }, { name := "LONG_FLAG", type := .int, accessFlags := 24, slot := 1, constantValue := 0 }, { name := "CONNECT_WITH_DB", type := .int, accessFlags := 24, slot := 2, constantValue := 0 }, { name := "PROTOCOL_41", type := .int, accessFlags := 24, slot := 3, constantValue := 0 }, { name := "TRANSACTIONS", type := .int, accessFlags := 24, slot := 4, constantValue := 0 }, { name := "SECURE_CONNECTION", type := .int, accessFlags := 24, slot := 5, constantValue := 0 }, { name := "CAPABILITIES", type := .int, accessFlags := 24, slot := 6, constantValue := 0 }, { name := "IN_TRANSACTION", type := .int, accessFlags := 24, slot := 7, constantValue := 0 }, { name := "AUTOCOMMIT", type := .int, accessFlags := 24, slot := 8, constantValue := 0 }, { name := "QUIT", type := .int, accessFlags := 24, slot := 9, constantValue := 0 }, { name := "INIT_DB", type := .int, accessFlags := 24, slot := 10, constantValue := 0 }, { name := "QUERY", type := .int, accessFlags := 24, slot := 11, constantValue := 0 }, { name := "PING", type := .int, accessFlags := 24, slot := 12, constantValue := 0 }, { name := "CHALLENGE_LENGTH", type := .int, accessFlags := 24, slot := 13, constantValue := 0 }, { name := "PROTOCOL_VERSION", type := .int, accessFlags := 26, slot := 14, constantValue := 0 }, { name := "UTF8MB4", type := .int, accessFlags := 26, slot := 15, constantValue := 0 }, { name := "BINARY", type := .int, accessFlags := 26, slot := 16, constantValue := 0 }, { name := "MAX_BYTES_PER_CHARACTER", type := .int, accessFlags := 26, slot := 17, constantValue := 0 }, { name := "TYPE_LONGLONG", type := .int, accessFlags := 26, slot := 18, constantValue := 0 }, { name := "TYPE_VAR_STRING", type := .int, accessFlags := 26, slot := 19, constantValue := 0 }, { name := "NOT_NULL_FLAG", type := .int, accessFlags := 26, slot := 20, constantValue := 0 }, { name := "UNSIGNED_FLAG", type := .int, accessFlags := 26, slot := 21, constantValue := 0 }, { name := "NULL_VALUE", type := .int, accessFlags := 26, slot := 22, constantValue := 0 }]
  methods := #[k2m0, k2m1]
  instanceTypes := #[]
  staticTypes := #[.int, .int, .int, .int, .int, .int, .int, .int, .int, .int, .int, .int, .int, .int, .int, .int, .int, .int, .int, .int, .int, .int, .int]
  resolved := Array.replicate 262 none
  statics := none }

def pool3 : Array CpInfo := pool [(1, u "java/lang/Cloneable"), (0, .class_ 1), (0, u "java/lang/Object"), (0, .class_ 3)] 3

/-- java/lang/Cloneable -/
def k3 : Class := { plain "java/lang/Cloneable" (some 0) with
  accessFlags := 1537
  interfaces := #[]
  cf := some (fileOf pool3 2 #[] #[] 1537 4 #[] #[])
  fields := #[]
  methods := #[]
  instanceTypes := #[]
  staticTypes := #[]
  resolved := Array.replicate 8 none
  statics := none }

def pool4 : Array CpInfo := pool [(1, u "java/io/Serializable"), (0, .class_ 1), (0, u "java/lang/Object"), (0, .class_ 3)] 3

/-- java/io/Serializable -/
def k4 : Class := { plain "java/io/Serializable" (some 0) with
  accessFlags := 1537
  interfaces := #[]
  cf := some (fileOf pool4 2 #[] #[] 1537 4 #[] #[])
  fields := #[]
  methods := #[]
  instanceTypes := #[]
  staticTypes := #[]
  resolved := Array.replicate 8 none
  statics := none }

/-- the primitive byte -/
def k5 : Class := { plain "byte" none with kind := .primitive 'B', accessFlags := 0x411 }
/-- [B -/
def k6 : Class := { plain "[B" (some 0) with kind := .array 5 .byte, interfaces := #[3, 4], accessFlags := 1041 }

/-- the primitive int -/
def k7 : Class := { plain "int" none with kind := .primitive 'I', accessFlags := 0x411 }
/-- [I -/
def k8 : Class := { plain "[I" (some 0) with kind := .array 7 .int, interfaces := #[3, 4], accessFlags := 1041 }

def heap : Heap := #[]
def classes : Array Class := #[k0, k1, k2, k3, k4, k5, k6, k7, k8]
def interned : List (Array UInt16 × Addr) := []
def slotsUsed : Nat := 0
def theMethod : MethodId := ⟨1, 1⟩
def args0 : Array Value := #[.int 250, .int 7]
def aboutOver (below : List Frame) : State where
  vm := { classes := classes, interned := interned.toArray }
  heap := heap
  slotsUsed := slotsUsed
  threads := #[{ frames := .invoking theMethod args0 :: below }]
def below0 : List Frame := [.native { method := ⟨0, 0⟩, args := #[] }]
def about1 : State := aboutOver below0
def p0 : Program := .bare "" "" ""
def e0 : Env := launch0.env 0 0 0
theorem w_frames : about1.frames = Frame.invoking theMethod args0 :: below0 := rfl
set_option maxRecDepth 65536 in
theorem w_args : argsFit about1.vm theMethod args0 = true := by decide +kernel
set_option maxRecDepth 65536 in
theorem w_heap : heapFits about1 = true := by decide +kernel
set_option maxRecDepth 65536 in
theorem w_runnable : about1.curStatus? = some .runnable := by decide +kernel
set_option maxRecDepth 65536 in
theorem w_alone : about1.alone = true := by decide +kernel
set_option maxRecDepth 65536 in
theorem w_named : about1.methodNamed? x = some theMethod := by decide +kernel
set_option maxRecDepth 65536 in
theorem w_hears : about1.hears theMethod below0 = true := by decide +kernel
set_option maxRecDepth 65536 in
theorem w_ripe : about1.ripe theMethod args0 below0 = true := by decide +kernel
theorem w_running : about1.status = .running := rfl
set_option maxRecDepth 65536 in
theorem w_room : about1.hasRoom e0.platform room_1 = true :=
  launch0.hasRoom_least _ room_1 (by decide +kernel) (by decide +kernel) (by decide +kernel) (by decide +kernel) (by decide +kernel) (by decide +kernel)
theorem allAtoms_all (ts : List Jvm.Cond) (a : Array Jvm.Value) (st : Jvm.State) : (allAtoms ts).before a st = ts.all (fun c => c.before a st) := by
  induction ts with
  | nil => rfl
  | cons c t ih =>
    show (Jvm.Cond.and c (allAtoms t)).before a st = _
    rw [Jvm.Cond.before_and, ih, List.all_cons]
def words1 : List Jvm.Cond := Jvm.Cond.code x code maxLocals ret :: tables_1
/-- a 'code' word, met by the world's own term for the bytes: nothing is compared byte by byte -/
theorem code_word {y : MethodName} {bytes : ByteArray} {mx : Nat} {rt : Option FieldType} {a : Array Value} {s : State} {m : MethodId} {meth : Method} {c : Code} (h1 : s.methodNamed? y = some m) (h2 : s.vm.method? m = some meth) (h3 : meth.code = some c) (h4 : c.code = bytes)
    (h5 : (c.maxLocals == mx && c.exceptionTable.isEmpty && decide (c.maxStack ≤ mostOperands) && decide (meth.sig.returnType = rt) && !meth.locks && decide (parseMethodDescriptor y.desc = some meth.sig)) = true) : (Jvm.Cond.code y bytes mx rt).before a s = true := by
  simp only [Bool.and_eq_true, beq_iff_eq, Bool.not_eq_true', decide_eq_true_eq] at h5
  obtain ⟨⟨⟨⟨⟨g1, g2⟩, g3⟩, g4⟩, g5⟩, g6⟩ := h5
  simp [Cond.before, Cond.holds, Cond.value, h1, h2, h3, h4, g1, g2, g3, g4, g5, g6]
def isCode : Jvm.Cond → Bool
  | .code _ _ _ _ => true
  | _ => false
theorem all_split {L : List Jvm.Cond} {P : Jvm.Cond → Bool} (h1 : L.all (fun c => isCode c || P c) = true) (h2 : ∀ c ∈ L.filter isCode, P c = true) : L.all P = true := by
  refine List.all_eq_true.mpr fun c hc => ?_
  have h := List.all_eq_true.mp h1 c hc
  rcases Bool.eq_false_or_eq_true (isCode c) with hi | hi
  · exact h2 c (List.mem_filter.mpr ⟨hc, hi⟩)
  · simpa [hi] using h
set_option maxRecDepth 65536 in
theorem w_c0 : (Jvm.Cond.code x code maxLocals ret).before args0 about1 = true := code_word (m := ⟨1, 1⟩) (meth := k1m1) (c := k1c1) (by decide +kernel) rfl rfl rfl (by decide +kernel)
set_option maxRecDepth 65536 in
theorem w_c1 : (Jvm.Cond.code ({ cls := "com/example/nortia/nortia/server/Protocol", name := "status", desc := "(ZZ)I" } : Jvm.MethodName) prog_20_method_5_code (2 : Nat) (Option.some Jvm.ClassFile.FieldType.int)).before args0 about1 = true := code_word (m := ⟨2, 1⟩) (meth := k2m1) (c := k2c1) (by decide +kernel) rfl rfl rfl (by decide +kernel)
def codes1 : List Jvm.Cond := [Jvm.Cond.code x code maxLocals ret, Jvm.Cond.code ({ cls := "com/example/nortia/nortia/server/Protocol", name := "status", desc := "(ZZ)I" } : Jvm.MethodName) prog_20_method_5_code (2 : Nat) (Option.some Jvm.ClassFile.FieldType.int)]
set_option maxRecDepth 65536 in
theorem codes_eq : words1.filter isCode = codes1 := rfl
theorem w_codes : ∀ c ∈ words1.filter isCode, c.before args0 about1 = true := by
  rw [codes_eq]
  intro c hc
  simp only [codes1, List.mem_cons, List.not_mem_nil, or_false] at hc
  rcases hc with rfl | rfl
  · exact w_c0
  · exact w_c1
set_option maxRecDepth 65536 in
theorem w_t1 : words1.all (fun c => isCode c || c.before args0 about1) = true := by decide +kernel
theorem w_tables : (allAtoms (Jvm.Cond.code x code maxLocals ret :: tables_1)).before args0 about1 = true := by
  rw [allAtoms_all]
  show words1.all (fun c => c.before args0 about1) = true
  refine all_split ?_ w_codes
  rw [w_t1]
set_option maxRecDepth 65536 in
theorem w_case : (Jvm.Cond.and given_1 narrow_1).before args0 about1 = true := by decide +kernel
theorem w_applies : (headSpec (Jvm.Cond.code x code maxLocals ret :: tables_1) room_1).applies x e0.platform about1 = true :=
  (Spec.applies_iff w_frames).mpr ⟨w_running, w_runnable, w_alone, w_named, w_hears, w_ripe, w_room, w_tables⟩
theorem atStart : AtStart classFile x code maxLocals ret World_1 tables_1 room_1 Calls_1 rest_1 Pre_1 launch0 p0 e0 about1 theMethod args0 below0 :=
  ⟨lists_1, trivial, launch0.admits_env _ _ _, launch0.least_env, fairChoices_fair.cas, fairChoices_fair.clock, w_frames, w_args, w_heap, w_applies, trivial, trivial, w_case⟩
end start1
theorem witness_1 : WitnessClaimed_1 := ⟨start1.p0, start1.e0, start1.about1, start1.theMethod, start1.args0, start1.below0, start1.atStart⟩
end Jvm.Pilot.@@N@@
