import JvmDerived
import JvmDerived.Pilot.@@N@@Statement
import JvmDerived.Pilot.@@N@@Code
set_option linter.unusedVariables false
set_option linter.unusedSimpArgs false
namespace Jvm.Pilot.@@N@@
open Jvm Jvm.ClassFile Sem Op Lib Jvm.Free Jvm.Stand Jvm.LawKit Jvm.RoadKit Bundle Jvm.Pilot.@@N@@.Jvm.D
section Own
variable {p : Program} {l : Launch} {e : Env} {R : Room} {s : State} {m : MethodId} {args : Array Value} {below : List Frame} {meth : Method} {c : Code} {T : State} {locs : List Loc} {cells slots : Nat} {Z : State} {a0 : Array Value} {h : Heap}
/-- from t the run comes to an end that P speaks of -/
def Goes (p : Program) (e : Env) (below : List Frame) (P : State → Outcome → Prop) (t : State) : Prop :=
  ∃ s₂ o, Steps p.tables e below t s₂ ∧ s₂.status = .running ∧ Ended s₂ below o ∧ P s₂ o
/-- it returned, what Q says, and the frame -/
def Aim (s : State) (Q : Option Value → Heap → List Loc → Prop) (k n : Nat) (s₂ : State) (o : Outcome) : Prop :=
  ∃ v L, o = .returned v ∧ Q v s₂.heap L ∧ FrameEnd s o s₂ L k n
theorem Goes.step {P : State → Outcome → Prop} {t t' : State} (st : ∀ tgt, Steps p.tables e below t' tgt → Steps p.tables e below t tgt) (q : Goes p e below P t') : Goes p e below P t := by
  obtain ⟨s₂, o, k, r⟩ := q
  exact ⟨s₂, o, st _ k, r⟩
theorem Goes.tr {P : State → Outcome → Prop} {t t' : State} (st : Steps p.tables e below t t') (q : Goes p e below P t') : Goes p e below P t := by
  obtain ⟨s₂, o, k, r⟩ := q
  exact ⟨s₂, o, st.trans k, r⟩
theorem Goes.retN (X : Stand p l e R s m args below meth c T locs cells slots) (hx : p.tables.exec = Jvm.exec) (hlk : meth.locks = false) {t : FieldType} (hret : meth.sig.returnType = some t) (ht : t = .boolean ∨ t = .byte ∨ t = .char ∨ t = .short) {pc : Nat} {Ls : Array Slot} {z : Int32} {rest : List Value}
    (hd : decode c.code pc = .ok (.ireturn, 1)) {Q : Option Value → Heap → List Loc → Prop} {k n : Nat} (hk : cells ≤ k) (hn : slots ≤ n) (hQ : Q (some (.int (nar t z))) T.heap locs) :
    Goes p e below (Aim s Q k n) (T.setTop (mkF m pc Ls (.int z :: rest))) := by
  obtain ⟨fs, hr, hrun, hended, hW, hsame⟩ := X.leave (v := some (.int (nar t z))) (fun h => by rw [hret] at h; cases h) hlk
  exact ⟨_, _, Jvm.RoadKit.retN X hx hret ht hd hr, hrun, hended, _, _, rfl, hQ, ⟨_, rfl⟩, hW, hsame.mono hk hn⟩
theorem Goes.ret (X : Stand p l e R s m args below meth c T locs cells slots) (hx : p.tables.exec = Jvm.exec) (hlk : meth.locks = false) {t : FieldType} (hret : meth.sig.returnType = some t) {w : Value} (hnr : narrow t w = w) {i : Instr} {pc : Nat} {Ls : Array Slot} {rest : List Value}
    (hi : (i = .ireturn ∧ (t = .int ∨ t = .boolean ∨ t = .byte ∨ t = .char ∨ t = .short) ∧ ∃ z, w = .int z) ∨ (i = .lreturn ∧ t = .long ∧ ∃ z, w = .long z) ∨ (i = .dreturn ∧ t = .double ∧ ∃ z, w = .double z) ∨ (i = .freturn ∧ t = .float ∧ ∃ z, w = .float z) ∨ (i = .areturn ∧ t.isReference = true ∧ w.isRef = true))
    (hd : decode c.code pc = .ok (i, 1)) {Q : Option Value → Heap → List Loc → Prop} {k n : Nat} (hk : cells ≤ k) (hn : slots ≤ n) (hQ : Q (some w) T.heap locs) :
    Goes p e below (Aim s Q k n) (T.setTop (mkF m pc Ls (w :: rest))) := by
  obtain ⟨fs, hr, hrun, hended, hW, hsame⟩ := X.leave (v := some w) (fun h => by rw [hret] at h; cases h) hlk
  exact ⟨_, _, Jvm.RoadKit.retOut X hx hret hnr hi hd hr, hrun, hended, _, _, rfl, hQ, ⟨_, rfl⟩, hW, hsame.mono hk hn⟩
theorem Goes.ret0 (X : Stand p l e R s m args below meth c T locs cells slots) (hx : p.tables.exec = Jvm.exec) (hlk : meth.locks = false) (hret : meth.sig.returnType = none) {pc : Nat} {Ls : Array Slot}
    (hd : decode c.code pc = .ok (.return_, 1)) {Q : Option Value → Heap → List Loc → Prop} {k n : Nat} (hk : cells ≤ k) (hn : slots ≤ n) (hQ : Q none T.heap locs) :
    Goes p e below (Aim s Q k n) (T.setTop (mkF m pc Ls [])) := by
  obtain ⟨fs, hr, hrun, hended, hW, hsame⟩ := X.leave (v := none) (fun _ => rfl) hlk
  exact ⟨_, _, X.returnOut hx hret hd hr, hrun, hended, _, _, rfl, hQ, ⟨_, rfl⟩, hW, hsame.mono hk hn⟩
/-- a body's contract: called with these arguments over the heap h0 it returns, and Q says what it leaves -/
def Con (l : Launch) (Z : State) (y : MethodName) (bytes : ByteArray) (maxL : Nat) (ret : Option FieldType) (rm : Room) (as : Array Value) (h0 : Heap) (Q : Option Value → Heap → List Loc → Prop) : Prop :=
  ∀ ws : List Jvm.Cond, MetFree l y (head1 (Jvm.Cond.code y bytes maxL ret :: ws) rm) (fun a U => a = as ∧ Z.Warmed39 U.vm ∧ U.heap = h0) (fun _ _ _ _ _ => True) (fun _ U o U' => ∃ v L, o = .returned v ∧ Q v U'.heap L ∧ FrameEnd U o U' L rm.cells rm.slots)
theorem Con.body {y : MethodName} {bytes : ByteArray} {maxL : Nat} {ret : Option FieldType} {rm : Room} {as : Array Value} {h0 : Heap} {Q : Option Value → Heap → List Loc → Prop} (hp : plainFor y = true)
    (H : ∀ (p : Program) (e : Env) (s : State) (m : MethodId) (below : List Frame) (meth : Method) (c : Code) (s₁ : State), p.tables.exec = Jvm.exec → c.code = bytes → c.maxLocals = maxL → Z.Warmed39 s.vm → s.vm.findClass y.cls = some m.cls → meth.name = y.name → meth.sig.returnType = ret → meth.locks = false →
      Stand p l e rm s m as below meth c s₁ [] 0 0 → s₁.heap = h0 → Goes p e below (Aim s Q rm.cells rm.slots) (s₁.setTop (entryFrame m as maxL))) :
    Con l Z y bytes maxL ret rm as h0 Q := by
  intro ws
  refine MetFree.of_bodySF hp hisR ?_
  intro p e s m args below meth c s₁ Bd hml0 hP hK
  obtain ⟨rfl, hZ, hh⟩ := hP
  exact H p e s m below meth c s₁ Bd.exec Bd.bytes hml0 hZ (findClass_of_methodNamed Bd.named) (name_of_methodNamed Bd.named Bd.method).1 Bd.returns Bd.notSynchronized (Stand.of_body Bd) (by rw [← hh, Bd.state]; rfl)
theorem Goes.callS (X : Stand p l e R s m args below meth c T locs cells slots) (hx : p.tables.exec = Jvm.exec) (hZ : Z.Warmed39 s.vm) {own : String} {index : Nat} {y : MethodName} {bytes : ByteArray} {maxL : Nat} {ret : Option FieldType} {rm : Room} {as : List Value} {Q : Option Value → Heap → List Loc → Prop} (hown : s.vm.findClass own = some m.cls)
    (w1 : (Jvm.Cond.methodLink own index y).before a0 Z = true) (w2 : (Jvm.Cond.static y).before a0 Z = true) (w3 : (Jvm.Cond.initialized y.cls).before a0 Z = true) (w4 : (Jvm.Cond.code y bytes maxL ret).before a0 Z = true) (hy : y.cls ≠ "java/lang/invoke/MethodHandle" ∧ y.cls ≠ "java/lang/invoke/VarHandle")
    (eT : T.heap = h) (hM : Con l Z y bytes maxL ret rm as.toArray h Q) {W : Nat} (hf : rm.frames + 1 ≤ R.frames) (hl : W + (maxL + 11) + rm.locals ≤ R.locals) (hc : cells + rm.cells ≤ R.cells) (hs : slots + rm.slots ≤ R.slots)
    {g : JFrame} (hg : g.method = m) (hsize : g.locals.size = c.maxLocals) {rest : List Value} {ps : List FieldType} {r : Option FieldType} (hd : parseMethodDescriptor y.desc = some ⟨ps, r⟩) (hlen : as.length = ps.length) (hstack : g.stack = as.reverse ++ rest) (hW : 2 * g.monitorRoom + (rest.map fun v => v.category).sum ≤ W) (hdg : decode c.code g.pc = .ok (.invokestatic index, 3))
    {P : State → Outcome → Prop} (k : ∀ v T' L, Stand p l e R s m args below meth c T' (locs ++ L) (cells + rm.cells) (slots + rm.slots) → Q v T'.heap L → Goes p e below P (T'.setTop { g with pc := g.pc + 3, stack := v.toList ++ rest })) :
    Goes p e below P (T.setTop g) := by
  obtain ⟨v, vm₁, ⟨T', L', k', n'⟩, -, X', ⟨L, hQ, l', y', z'⟩, st⟩ := Jvm.LawKit.callS X hx hown (mvT hZ w1) (mvT hZ w2) (mvT hZ w3) (mvT hZ w4) hy (backOf (W := W) (hM []) hZ w4 w3 hf hl) (g := g) hg hsize (argsL := as) (rest := rest) (lenOf hd hlen) hstack hW hdg (fun _ _ => ⟨rfl, eT, hc, hs⟩)
  try dsimp only at X' hQ l' y' z' st
  subst l' y' z'
  exact Goes.step st (k v T' L X' hQ)
theorem Goes.callV (X : Stand p l e R s m args below meth c T locs cells slots) (hx : p.tables.exec = Jvm.exec) (hZ : Z.Warmed39 s.vm) {own C : String} {index : Nat} {y z : MethodName} {bytes : ByteArray} {maxL : Nat} {ret : Option FieldType} {rm : Room} {as : List Value} {Q : Option Value → Heap → List Loc → Prop} (hown : s.vm.findClass own = some m.cls)
    (w1 : (Jvm.Cond.methodLink own index y).before a0 Z = true) (w2 : (Jvm.Cond.declares y).before a0 Z = true) (hnf : NotFace s y) (w3 : (Jvm.Cond.selects C y z).before a0 Z = true) (w4 : (Jvm.Cond.instanceMethod z).before a0 Z = true) (w5 : (Jvm.Cond.code z bytes maxL ret).before a0 Z = true) (w6 : (Jvm.Cond.initialized z.cls).before a0 Z = true) (hy : y.cls ≠ "java/lang/invoke/MethodHandle" ∧ y.cls ≠ "java/lang/invoke/VarHandle")
    (eT : T.heap = h) {b : Addr} (E : Exa Z h b C) (hM : Con l Z z bytes maxL ret rm (.ref b :: as).toArray h Q) {W : Nat} (hf : rm.frames + 1 ≤ R.frames) (hl : W + (maxL + 11) + rm.locals ≤ R.locals) (hc : cells + rm.cells ≤ R.cells) (hs : slots + rm.slots ≤ R.slots)
    {g : JFrame} (hg : g.method = m) (hsize : g.locals.size = c.maxLocals) {rest : List Value} {ps : List FieldType} {r : Option FieldType} (hd : parseMethodDescriptor y.desc = some ⟨ps, r⟩) (hlen : as.length = ps.length) (hstack : g.stack = as.reverse ++ .ref b :: rest) (hW : 2 * g.monitorRoom + (rest.map fun v => v.category).sum ≤ W) (hdg : decode c.code g.pc = .ok (.invokevirtual index, 3))
    {P : State → Outcome → Prop} (k : ∀ v T' L, Stand p l e R s m args below meth c T' (locs ++ L) (cells + rm.cells) (slots + rm.slots) → Q v T'.heap L → Goes p e below P (T'.setTop { g with pc := g.pc + 3, stack := v.toList ++ rest })) :
    Goes p e below P (T.setTop g) := by
  obtain ⟨cB, kB, q1, -, q3⟩ := isOf hZ eT E
  obtain ⟨v, vm₁, ⟨T', L', k', n'⟩, -, X', ⟨L, hQ, l', y', z'⟩, st⟩ := X.virtualBack hx (y := y) (z := z) hown (mvT hZ w1) (mvT hZ w2) hnf (mvT hZ w3) (mvT hZ w4) hy (backOf (W := W) (hM []) hZ w5 w6 hf hl) q1 q3 (g := g) hg hsize (Steps.refl _) (argsL := as) (rest := rest) (lenOf hd hlen) hstack hW hdg (fun _ _ => ⟨rfl, eT, hc, hs⟩)
  try dsimp only at X' hQ l' y' z' st
  subst l' y' z'
  exact Goes.tr st (k v T' L X' hQ)
theorem Goes.callI (X : Stand p l e R s m args below meth c T locs cells slots) (hx : p.tables.exec = Jvm.exec) (hZ : Z.Warmed39 s.vm) {own : String} {index : Nat} {y : MethodName} {bytes : ByteArray} {maxL : Nat} {rm : Room} {as : List Value} {Q : Option Value → Heap → List Loc → Prop} (hy1 : y.name = "<init>") (hown : s.vm.findClass own = some m.cls)
    (w1 : (Jvm.Cond.methodLink own index y).before a0 Z = true) (w2 : (Jvm.Cond.instanceMethod y).before a0 Z = true) (w3 : (Jvm.Cond.code y bytes maxL none).before a0 Z = true) (w4 : (Jvm.Cond.initialized y.cls).before a0 Z = true) (hy : y.cls ≠ "java/lang/invoke/MethodHandle" ∧ y.cls ≠ "java/lang/invoke/VarHandle")
    (eT : T.heap = h) {b : Addr} (hM : Con l Z y bytes maxL none rm (.ref b :: as).toArray h Q) {W : Nat} (hf : rm.frames + 1 ≤ R.frames) (hl : W + (maxL + 11) + rm.locals ≤ R.locals) (hc : cells + rm.cells ≤ R.cells) (hs : slots + rm.slots ≤ R.slots)
    {g : JFrame} (hg : g.method = m) (hsize : g.locals.size = c.maxLocals) {rest : List Value} {ps : List FieldType} {r : Option FieldType} (hd : parseMethodDescriptor y.desc = some ⟨ps, r⟩) (hlen : as.length = ps.length) (hstack : g.stack = as.reverse ++ .ref b :: rest) (hW : 2 * g.monitorRoom + (rest.map fun v => v.category).sum ≤ W) (hdg : decode c.code g.pc = .ok (.invokespecial index, 3))
    {P : State → Outcome → Prop} (k : ∀ v T' L, Stand p l e R s m args below meth c T' (locs ++ L) (cells + rm.cells) (slots + rm.slots) → Q v T'.heap L → Goes p e below P (T'.setTop { g with pc := g.pc + 3, stack := v.toList ++ rest })) :
    Goes p e below P (T.setTop g) := by
  obtain ⟨v, vm₁, ⟨T', L', k', n'⟩, -, X', ⟨L, hQ, l', y', z'⟩, st⟩ := X.specialBack hx (y := y) hy1 hown (mvT hZ w1) (mvT hZ w2) (mvT hZ w3) hy (backOf (W := W) (hM []) hZ w3 w4 hf hl) (g := g) hg hsize (Steps.refl _) (a := b) (argsL := as) (rest := rest) (lenOf hd hlen) hstack hW hdg (fun _ _ => ⟨rfl, eT, hc, hs⟩)
  try dsimp only at X' hQ l' y' z' st
  subst l' y' z'
  exact Goes.tr st (k v T' L X' hQ)
theorem jlt {a b : Int64} : lcmpW a b < 0 ↔ a < b := by rw [lcW]; exact lc_lt a b
theorem jgt {a b : Int64} : 0 < lcmpW a b ↔ b < a := by rw [lcW]; exact lc_gt a b
theorem jeq {a b : Int64} : lcmpW a b = 0 ↔ a = b := by rw [lcW]; exact lc_eq a b
end Own
theorem own_d1_0 : decode prog_2_method_3_code 0 = .ok (.iload_n 0, 1) := by decide +kernel
theorem own_d1_1 : decode prog_2_method_3_code 1 = .ok (.bipush 6, 2) := by decide +kernel
theorem own_d1_3 : decode prog_2_method_3_code 3 = .ok (.if_icmp .eq 21, 3) := by decide +kernel
theorem own_d1_24 : decode prog_2_method_3_code 24 = .ok (.iconst 1, 1) := by decide +kernel
theorem own_d1_25 : decode prog_2_method_3_code 25 = .ok (.goto 4, 3) := by decide +kernel
theorem own_d1_29 : decode prog_2_method_3_code 29 = .ok (.ireturn, 1) := by decide +kernel
theorem own_d1_6 : decode prog_2_method_3_code 6 = .ok (.iload_n 0, 1) := by decide +kernel
theorem own_d1_7 : decode prog_2_method_3_code 7 = .ok (.bipush 16, 2) := by decide +kernel
theorem own_d1_9 : decode prog_2_method_3_code 9 = .ok (.if_icmp .lt 9, 3) := by decide +kernel
theorem own_d1_18 : decode prog_2_method_3_code 18 = .ok (.iload_n 0, 1) := by decide +kernel
theorem own_d1_19 : decode prog_2_method_3_code 19 = .ok (.bipush 32, 2) := by decide +kernel
theorem own_d1_21 : decode prog_2_method_3_code 21 = .ok (.if_icmp .ne 7, 3) := by decide +kernel
theorem own_d1_28 : decode prog_2_method_3_code 28 = .ok (.iconst 0, 1) := by decide +kernel
theorem own_d1_12 : decode prog_2_method_3_code 12 = .ok (.iload_n 0, 1) := by decide +kernel
theorem own_d1_13 : decode prog_2_method_3_code 13 = .ok (.bipush 24, 2) := by decide +kernel
theorem own_d1_15 : decode prog_2_method_3_code 15 = .ok (.if_icmp .le 9, 3) := by decide +kernel
theorem own_d2_0 : decode method_2_code 0 = .ok (.iload_n 0, 1) := by decide +kernel
theorem own_d2_1 : decode method_2_code 1 = .ok (.bipush 6, 2) := by decide +kernel
theorem own_d2_3 : decode method_2_code 3 = .ok (.if_icmp .eq 63, 3) := by decide +kernel
theorem own_d2_66 : decode method_2_code 66 = .ok (.iconst 1, 1) := by decide +kernel
theorem own_d2_67 : decode method_2_code 67 = .ok (.goto 4, 3) := by decide +kernel
theorem own_d2_71 : decode method_2_code 71 = .ok (.ireturn, 1) := by decide +kernel
theorem own_d2_6 : decode method_2_code 6 = .ok (.iload_n 0, 1) := by decide +kernel
theorem own_d2_7 : decode method_2_code 7 = .ok (.bipush 16, 2) := by decide +kernel
theorem own_d2_9 : decode method_2_code 9 = .ok (.if_icmp .eq 57, 3) := by decide +kernel
theorem own_d2_12 : decode method_2_code 12 = .ok (.iload_n 0, 1) := by decide +kernel
theorem own_d2_13 : decode method_2_code 13 = .ok (.bipush 17, 2) := by decide +kernel
theorem own_d2_15 : decode method_2_code 15 = .ok (.if_icmp .eq 51, 3) := by decide +kernel
theorem own_d2_18 : decode method_2_code 18 = .ok (.iload_n 0, 1) := by decide +kernel
theorem own_d2_19 : decode method_2_code 19 = .ok (.bipush 18, 2) := by decide +kernel
theorem own_d2_21 : decode method_2_code 21 = .ok (.if_icmp .eq 45, 3) := by decide +kernel
theorem own_d2_24 : decode method_2_code 24 = .ok (.iload_n 0, 1) := by decide +kernel
theorem own_d2_25 : decode method_2_code 25 = .ok (.bipush 19, 2) := by decide +kernel
theorem own_d2_27 : decode method_2_code 27 = .ok (.if_icmp .eq 39, 3) := by decide +kernel
theorem own_d2_30 : decode method_2_code 30 = .ok (.iload_n 0, 1) := by decide +kernel
theorem own_d2_31 : decode method_2_code 31 = .ok (.bipush 20, 2) := by decide +kernel
theorem own_d2_33 : decode method_2_code 33 = .ok (.if_icmp .eq 33, 3) := by decide +kernel
theorem own_d2_36 : decode method_2_code 36 = .ok (.iload_n 0, 1) := by decide +kernel
theorem own_d2_37 : decode method_2_code 37 = .ok (.bipush 21, 2) := by decide +kernel
theorem own_d2_39 : decode method_2_code 39 = .ok (.if_icmp .eq 27, 3) := by decide +kernel
theorem own_d2_42 : decode method_2_code 42 = .ok (.iload_n 0, 1) := by decide +kernel
theorem own_d2_43 : decode method_2_code 43 = .ok (.bipush 22, 2) := by decide +kernel
theorem own_d2_45 : decode method_2_code 45 = .ok (.if_icmp .eq 21, 3) := by decide +kernel
theorem own_d2_48 : decode method_2_code 48 = .ok (.iload_n 0, 1) := by decide +kernel
theorem own_d2_49 : decode method_2_code 49 = .ok (.bipush 23, 2) := by decide +kernel
theorem own_d2_51 : decode method_2_code 51 = .ok (.if_icmp .eq 15, 3) := by decide +kernel
theorem own_d2_54 : decode method_2_code 54 = .ok (.iload_n 0, 1) := by decide +kernel
theorem own_d2_55 : decode method_2_code 55 = .ok (.bipush 24, 2) := by decide +kernel
theorem own_d2_57 : decode method_2_code 57 = .ok (.if_icmp .eq 9, 3) := by decide +kernel
theorem own_d2_60 : decode method_2_code 60 = .ok (.iload_n 0, 1) := by decide +kernel
theorem own_d2_61 : decode method_2_code 61 = .ok (.bipush 32, 2) := by decide +kernel
theorem own_d2_63 : decode method_2_code 63 = .ok (.if_icmp .ne 7, 3) := by decide +kernel
theorem own_d2_70 : decode method_2_code 70 = .ok (.iconst 0, 1) := by decide +kernel
theorem own_pd0 : parseMethodDescriptor "(I)Z" = some ⟨[.int], some .boolean⟩ := by decide +kernel
theorem own_pn0 : plainName "com/example/bellbird/bellbird/Field" = true := by first | (simp [plainName, overriddenIn]; done) | decide +kernel
theorem own_pn1 : plainName "com/example/bellbird/bellbird/FieldAppearsOncePinLaw" = true := by first | (simp [plainName, overriddenIn]; done) | decide +kernel
def own_v_app (p1 : Int32) : Int32 := (if p1 = (6 : Int32) then (1 : Int32) else (if p1 < (16 : Int32) then (if p1 = (32 : Int32) then (1 : Int32) else (0 : Int32)) else (if (24 : Int32) < p1 then (if p1 = (32 : Int32) then (1 : Int32) else (0 : Int32)) else (1 : Int32))))
set_option maxRecDepth 65536 in
set_option maxHeartbeats 40000000 in
theorem rm_app (l : Launch) (Z : State) (a0 : Array Value) (hw : ∀ d ∈ tables_1, d.before a0 Z = true) (p1 : Int32) (h0 : Heap) (n0 : Nat) (Z0 : n0 ≤ h0.size) :
    Con l Z (⟨"com/example/bellbird/bellbird/Field", "appearsOnce", "(I)Z"⟩ : MethodName) prog_2_method_3_code 1 (some .boolean) ({ frames := 0, cells := 0, slots := 0, locals := 0 } : Room) #[(.int p1)] h0 (fun v h L => v = some (.int (own_v_app p1)) ∧ Fr n0 L ∧ h = h0) := by
  refine Con.body (plainFor_of_name own_pn0) ?_
  intro p e s m below meth c s₁ hx hby hml hZ hown hnm hret hlk X0 e0
  have hown : s.vm.findClass "com/example/bellbird/bellbird/Field" = some m.cls := hown
  have hml : c.maxLocals = 1 := hml
  have N0 := Fr.nil n0
  have ef : entryFrame m #[(.int p1)] 1 = mkF m 0 #[.val (.int p1)] [] := by first | (simp [entryFrame, mkF, argsToLocals, Value.category]; done) | rfl
  rw [ef]
  show Goes p e below _ (s₁.setTop (mkF m 0 #[.val (.int p1)] []))
  refine Goes.step (fun _ k => XS.iloadN X0.here hx rfl (hb hby own_d1_0) rfl k) ?_
  show Goes p e below _ (s₁.setTop (mkF m 1 #[.val (.int p1)] [(.int p1)]))
  refine Goes.step (fun _ k => XS.bipush X0.here hx rfl (hb hby own_d1_1) k) ?_
  show Goes p e below _ (s₁.setTop (mkF m 3 #[.val (.int p1)] [(.int (6 : Int32)), (.int p1)]))
  by_cases hc1 : p1 = (6 : Int32)
  · refine Goes.step (fun _ k => XS.icmpYes X0.here hx rfl (pc0 := 3) (pc' := 24) rfl (hb hby own_d1_3) rfl (teq hc1).1 (by decide) (by decide) k) ?_
    show Goes p e below _ (s₁.setTop (mkF m 24 #[.val (.int p1)] []))
    refine Goes.step (fun _ k => XS.iconst X0.here hx rfl (hb hby own_d1_24) k) ?_
    show Goes p e below _ (s₁.setTop (mkF m 25 #[.val (.int p1)] [(.int (1 : Int32))]))
    refine Goes.step (fun _ k => XS.goto X0.here hx rfl (pc0 := 25) (pc' := 29) rfl (hb hby own_d1_25) (by decide) (by decide) k) ?_
    show Goes p e below _ (s₁.setTop (mkF m 29 #[.val (.int p1)] [(.int (1 : Int32))]))
    refine Goes.retN X0 hx hlk (t := .boolean) hret (by simp) (hb hby own_d1_29) (by decide) (by decide) ?_
    exact ⟨by rw [own_v_app, if_pos hc1] <;> rfl, N0, e0⟩
  · refine Goes.step (fun _ k => XS.icmpNo X0.here hx rfl (hb hby own_d1_3) rfl (feq hc1).1 k) ?_
    show Goes p e below _ (s₁.setTop (mkF m 6 #[.val (.int p1)] []))
    refine Goes.step (fun _ k => XS.iloadN X0.here hx rfl (hb hby own_d1_6) rfl k) ?_
    show Goes p e below _ (s₁.setTop (mkF m 7 #[.val (.int p1)] [(.int p1)]))
    refine Goes.step (fun _ k => XS.bipush X0.here hx rfl (hb hby own_d1_7) k) ?_
    show Goes p e below _ (s₁.setTop (mkF m 9 #[.val (.int p1)] [(.int (16 : Int32)), (.int p1)]))
    by_cases hc2 : p1 < (16 : Int32)
    · refine Goes.step (fun _ k => XS.icmpYes X0.here hx rfl (pc0 := 9) (pc' := 18) rfl (hb hby own_d1_9) rfl (tlt hc2).1 (by decide) (by decide) k) ?_
      show Goes p e below _ (s₁.setTop (mkF m 18 #[.val (.int p1)] []))
      refine Goes.step (fun _ k => XS.iloadN X0.here hx rfl (hb hby own_d1_18) rfl k) ?_
      show Goes p e below _ (s₁.setTop (mkF m 19 #[.val (.int p1)] [(.int p1)]))
      refine Goes.step (fun _ k => XS.bipush X0.here hx rfl (hb hby own_d1_19) k) ?_
      show Goes p e below _ (s₁.setTop (mkF m 21 #[.val (.int p1)] [(.int (32 : Int32)), (.int p1)]))
      by_cases hc3 : p1 = (32 : Int32)
      · refine Goes.step (fun _ k => XS.icmpNo X0.here hx rfl (hb hby own_d1_21) rfl (teq hc3).2 k) ?_
        show Goes p e below _ (s₁.setTop (mkF m 24 #[.val (.int p1)] []))
        refine Goes.step (fun _ k => XS.iconst X0.here hx rfl (hb hby own_d1_24) k) ?_
        show Goes p e below _ (s₁.setTop (mkF m 25 #[.val (.int p1)] [(.int (1 : Int32))]))
        refine Goes.step (fun _ k => XS.goto X0.here hx rfl (pc0 := 25) (pc' := 29) rfl (hb hby own_d1_25) (by decide) (by decide) k) ?_
        show Goes p e below _ (s₁.setTop (mkF m 29 #[.val (.int p1)] [(.int (1 : Int32))]))
        refine Goes.retN X0 hx hlk (t := .boolean) hret (by simp) (hb hby own_d1_29) (by decide) (by decide) ?_
        exact ⟨by rw [own_v_app, if_neg hc1, if_pos hc2, if_pos hc3] <;> rfl, N0, e0⟩
      · refine Goes.step (fun _ k => XS.icmpYes X0.here hx rfl (pc0 := 21) (pc' := 28) rfl (hb hby own_d1_21) rfl (feq hc3).2 (by decide) (by decide) k) ?_
        show Goes p e below _ (s₁.setTop (mkF m 28 #[.val (.int p1)] []))
        refine Goes.step (fun _ k => XS.iconst X0.here hx rfl (hb hby own_d1_28) k) ?_
        show Goes p e below _ (s₁.setTop (mkF m 29 #[.val (.int p1)] [(.int (0 : Int32))]))
        refine Goes.retN X0 hx hlk (t := .boolean) hret (by simp) (hb hby own_d1_29) (by decide) (by decide) ?_
        exact ⟨by rw [own_v_app, if_neg hc1, if_pos hc2, if_neg hc3] <;> rfl, N0, e0⟩
    · refine Goes.step (fun _ k => XS.icmpNo X0.here hx rfl (hb hby own_d1_9) rfl (flt hc2).1 k) ?_
      show Goes p e below _ (s₁.setTop (mkF m 12 #[.val (.int p1)] []))
      refine Goes.step (fun _ k => XS.iloadN X0.here hx rfl (hb hby own_d1_12) rfl k) ?_
      show Goes p e below _ (s₁.setTop (mkF m 13 #[.val (.int p1)] [(.int p1)]))
      refine Goes.step (fun _ k => XS.bipush X0.here hx rfl (hb hby own_d1_13) k) ?_
      show Goes p e below _ (s₁.setTop (mkF m 15 #[.val (.int p1)] [(.int (24 : Int32)), (.int p1)]))
      by_cases hc4 : (24 : Int32) < p1
      · refine Goes.step (fun _ k => XS.icmpNo X0.here hx rfl (hb hby own_d1_15) rfl (tlt hc4).2.2.2 k) ?_
        show Goes p e below _ (s₁.setTop (mkF m 18 #[.val (.int p1)] []))
        refine Goes.step (fun _ k => XS.iloadN X0.here hx rfl (hb hby own_d1_18) rfl k) ?_
        show Goes p e below _ (s₁.setTop (mkF m 19 #[.val (.int p1)] [(.int p1)]))
        refine Goes.step (fun _ k => XS.bipush X0.here hx rfl (hb hby own_d1_19) k) ?_
        show Goes p e below _ (s₁.setTop (mkF m 21 #[.val (.int p1)] [(.int (32 : Int32)), (.int p1)]))
        by_cases hc5 : p1 = (32 : Int32)
        · refine Goes.step (fun _ k => XS.icmpNo X0.here hx rfl (hb hby own_d1_21) rfl (teq hc5).2 k) ?_
          show Goes p e below _ (s₁.setTop (mkF m 24 #[.val (.int p1)] []))
          refine Goes.step (fun _ k => XS.iconst X0.here hx rfl (hb hby own_d1_24) k) ?_
          show Goes p e below _ (s₁.setTop (mkF m 25 #[.val (.int p1)] [(.int (1 : Int32))]))
          refine Goes.step (fun _ k => XS.goto X0.here hx rfl (pc0 := 25) (pc' := 29) rfl (hb hby own_d1_25) (by decide) (by decide) k) ?_
          show Goes p e below _ (s₁.setTop (mkF m 29 #[.val (.int p1)] [(.int (1 : Int32))]))
          refine Goes.retN X0 hx hlk (t := .boolean) hret (by simp) (hb hby own_d1_29) (by decide) (by decide) ?_
          exact ⟨by rw [own_v_app, if_neg hc1, if_neg hc2, if_pos hc4, if_pos hc5] <;> rfl, N0, e0⟩
        · refine Goes.step (fun _ k => XS.icmpYes X0.here hx rfl (pc0 := 21) (pc' := 28) rfl (hb hby own_d1_21) rfl (feq hc5).2 (by decide) (by decide) k) ?_
          show Goes p e below _ (s₁.setTop (mkF m 28 #[.val (.int p1)] []))
          refine Goes.step (fun _ k => XS.iconst X0.here hx rfl (hb hby own_d1_28) k) ?_
          show Goes p e below _ (s₁.setTop (mkF m 29 #[.val (.int p1)] [(.int (0 : Int32))]))
          refine Goes.retN X0 hx hlk (t := .boolean) hret (by simp) (hb hby own_d1_29) (by decide) (by decide) ?_
          exact ⟨by rw [own_v_app, if_neg hc1, if_neg hc2, if_pos hc4, if_neg hc5] <;> rfl, N0, e0⟩
      · refine Goes.step (fun _ k => XS.icmpYes X0.here hx rfl (pc0 := 15) (pc' := 24) rfl (hb hby own_d1_15) rfl (flt hc4).2.2.2 (by decide) (by decide) k) ?_
        show Goes p e below _ (s₁.setTop (mkF m 24 #[.val (.int p1)] []))
        refine Goes.step (fun _ k => XS.iconst X0.here hx rfl (hb hby own_d1_24) k) ?_
        show Goes p e below _ (s₁.setTop (mkF m 25 #[.val (.int p1)] [(.int (1 : Int32))]))
        refine Goes.step (fun _ k => XS.goto X0.here hx rfl (pc0 := 25) (pc' := 29) rfl (hb hby own_d1_25) (by decide) (by decide) k) ?_
        show Goes p e below _ (s₁.setTop (mkF m 29 #[.val (.int p1)] [(.int (1 : Int32))]))
        refine Goes.retN X0 hx hlk (t := .boolean) hret (by simp) (hb hby own_d1_29) (by decide) (by decide) ?_
        exact ⟨by rw [own_v_app, if_neg hc1, if_neg hc2, if_neg hc4] <;> rfl, N0, e0⟩
def own_v_once (p1 : Int32) : Int32 := (if p1 = (6 : Int32) then (1 : Int32) else (if p1 = (16 : Int32) then (1 : Int32) else (if p1 = (17 : Int32) then (1 : Int32) else (if p1 = (18 : Int32) then (1 : Int32) else (if p1 = (19 : Int32) then (1 : Int32) else (if p1 = (20 : Int32) then (1 : Int32) else (if p1 = (21 : Int32) then (1 : Int32) else (if p1 = (22 : Int32) then (1 : Int32) else (if p1 = (23 : Int32) then (1 : Int32) else (if p1 = (24 : Int32) then (1 : Int32) else (if p1 = (32 : Int32) then (1 : Int32) else (0 : Int32))))))))))))
set_option maxRecDepth 65536 in
set_option maxHeartbeats 40000000 in
theorem rm_once (l : Launch) (Z : State) (a0 : Array Value) (hw : ∀ d ∈ tables_1, d.before a0 Z = true) (p1 : Int32) (h0 : Heap) (n0 : Nat) (Z0 : n0 ≤ h0.size) :
    Con l Z (⟨"com/example/bellbird/bellbird/FieldAppearsOncePinLaw", "once", "(I)Z"⟩ : MethodName) method_2_code 1 (some .boolean) ({ frames := 0, cells := 0, slots := 0, locals := 0 } : Room) #[(.int p1)] h0 (fun v h L => v = some (.int (own_v_once p1)) ∧ Fr n0 L ∧ h = h0) := by
  refine Con.body (plainFor_of_name own_pn1) ?_
  intro p e s m below meth c s₁ hx hby hml hZ hown hnm hret hlk X0 e0
  have hown : s.vm.findClass "com/example/bellbird/bellbird/FieldAppearsOncePinLaw" = some m.cls := hown
  have hml : c.maxLocals = 1 := hml
  have N0 := Fr.nil n0
  have ef : entryFrame m #[(.int p1)] 1 = mkF m 0 #[.val (.int p1)] [] := by first | (simp [entryFrame, mkF, argsToLocals, Value.category]; done) | rfl
  rw [ef]
  show Goes p e below _ (s₁.setTop (mkF m 0 #[.val (.int p1)] []))
  refine Goes.step (fun _ k => XS.iloadN X0.here hx rfl (hb hby own_d2_0) rfl k) ?_
  show Goes p e below _ (s₁.setTop (mkF m 1 #[.val (.int p1)] [(.int p1)]))
  refine Goes.step (fun _ k => XS.bipush X0.here hx rfl (hb hby own_d2_1) k) ?_
  show Goes p e below _ (s₁.setTop (mkF m 3 #[.val (.int p1)] [(.int (6 : Int32)), (.int p1)]))
  by_cases hc1 : p1 = (6 : Int32)
  · refine Goes.step (fun _ k => XS.icmpYes X0.here hx rfl (pc0 := 3) (pc' := 66) rfl (hb hby own_d2_3) rfl (teq hc1).1 (by decide) (by decide) k) ?_
    show Goes p e below _ (s₁.setTop (mkF m 66 #[.val (.int p1)] []))
    refine Goes.step (fun _ k => XS.iconst X0.here hx rfl (hb hby own_d2_66) k) ?_
    show Goes p e below _ (s₁.setTop (mkF m 67 #[.val (.int p1)] [(.int (1 : Int32))]))
    refine Goes.step (fun _ k => XS.goto X0.here hx rfl (pc0 := 67) (pc' := 71) rfl (hb hby own_d2_67) (by decide) (by decide) k) ?_
    show Goes p e below _ (s₁.setTop (mkF m 71 #[.val (.int p1)] [(.int (1 : Int32))]))
    refine Goes.retN X0 hx hlk (t := .boolean) hret (by simp) (hb hby own_d2_71) (by decide) (by decide) ?_
    exact ⟨by rw [own_v_once, if_pos hc1] <;> rfl, N0, e0⟩
  · refine Goes.step (fun _ k => XS.icmpNo X0.here hx rfl (hb hby own_d2_3) rfl (feq hc1).1 k) ?_
    show Goes p e below _ (s₁.setTop (mkF m 6 #[.val (.int p1)] []))
    refine Goes.step (fun _ k => XS.iloadN X0.here hx rfl (hb hby own_d2_6) rfl k) ?_
    show Goes p e below _ (s₁.setTop (mkF m 7 #[.val (.int p1)] [(.int p1)]))
    refine Goes.step (fun _ k => XS.bipush X0.here hx rfl (hb hby own_d2_7) k) ?_
    show Goes p e below _ (s₁.setTop (mkF m 9 #[.val (.int p1)] [(.int (16 : Int32)), (.int p1)]))
    by_cases hc2 : p1 = (16 : Int32)
    · refine Goes.step (fun _ k => XS.icmpYes X0.here hx rfl (pc0 := 9) (pc' := 66) rfl (hb hby own_d2_9) rfl (teq hc2).1 (by decide) (by decide) k) ?_
      show Goes p e below _ (s₁.setTop (mkF m 66 #[.val (.int p1)] []))
      refine Goes.step (fun _ k => XS.iconst X0.here hx rfl (hb hby own_d2_66) k) ?_
      show Goes p e below _ (s₁.setTop (mkF m 67 #[.val (.int p1)] [(.int (1 : Int32))]))
      refine Goes.step (fun _ k => XS.goto X0.here hx rfl (pc0 := 67) (pc' := 71) rfl (hb hby own_d2_67) (by decide) (by decide) k) ?_
      show Goes p e below _ (s₁.setTop (mkF m 71 #[.val (.int p1)] [(.int (1 : Int32))]))
      refine Goes.retN X0 hx hlk (t := .boolean) hret (by simp) (hb hby own_d2_71) (by decide) (by decide) ?_
      exact ⟨by rw [own_v_once, if_neg hc1, if_pos hc2] <;> rfl, N0, e0⟩
    · refine Goes.step (fun _ k => XS.icmpNo X0.here hx rfl (hb hby own_d2_9) rfl (feq hc2).1 k) ?_
      show Goes p e below _ (s₁.setTop (mkF m 12 #[.val (.int p1)] []))
      refine Goes.step (fun _ k => XS.iloadN X0.here hx rfl (hb hby own_d2_12) rfl k) ?_
      show Goes p e below _ (s₁.setTop (mkF m 13 #[.val (.int p1)] [(.int p1)]))
      refine Goes.step (fun _ k => XS.bipush X0.here hx rfl (hb hby own_d2_13) k) ?_
      show Goes p e below _ (s₁.setTop (mkF m 15 #[.val (.int p1)] [(.int (17 : Int32)), (.int p1)]))
      by_cases hc3 : p1 = (17 : Int32)
      · refine Goes.step (fun _ k => XS.icmpYes X0.here hx rfl (pc0 := 15) (pc' := 66) rfl (hb hby own_d2_15) rfl (teq hc3).1 (by decide) (by decide) k) ?_
        show Goes p e below _ (s₁.setTop (mkF m 66 #[.val (.int p1)] []))
        refine Goes.step (fun _ k => XS.iconst X0.here hx rfl (hb hby own_d2_66) k) ?_
        show Goes p e below _ (s₁.setTop (mkF m 67 #[.val (.int p1)] [(.int (1 : Int32))]))
        refine Goes.step (fun _ k => XS.goto X0.here hx rfl (pc0 := 67) (pc' := 71) rfl (hb hby own_d2_67) (by decide) (by decide) k) ?_
        show Goes p e below _ (s₁.setTop (mkF m 71 #[.val (.int p1)] [(.int (1 : Int32))]))
        refine Goes.retN X0 hx hlk (t := .boolean) hret (by simp) (hb hby own_d2_71) (by decide) (by decide) ?_
        exact ⟨by rw [own_v_once, if_neg hc1, if_neg hc2, if_pos hc3] <;> rfl, N0, e0⟩
      · refine Goes.step (fun _ k => XS.icmpNo X0.here hx rfl (hb hby own_d2_15) rfl (feq hc3).1 k) ?_
        show Goes p e below _ (s₁.setTop (mkF m 18 #[.val (.int p1)] []))
        refine Goes.step (fun _ k => XS.iloadN X0.here hx rfl (hb hby own_d2_18) rfl k) ?_
        show Goes p e below _ (s₁.setTop (mkF m 19 #[.val (.int p1)] [(.int p1)]))
        refine Goes.step (fun _ k => XS.bipush X0.here hx rfl (hb hby own_d2_19) k) ?_
        show Goes p e below _ (s₁.setTop (mkF m 21 #[.val (.int p1)] [(.int (18 : Int32)), (.int p1)]))
        by_cases hc4 : p1 = (18 : Int32)
        · refine Goes.step (fun _ k => XS.icmpYes X0.here hx rfl (pc0 := 21) (pc' := 66) rfl (hb hby own_d2_21) rfl (teq hc4).1 (by decide) (by decide) k) ?_
          show Goes p e below _ (s₁.setTop (mkF m 66 #[.val (.int p1)] []))
          refine Goes.step (fun _ k => XS.iconst X0.here hx rfl (hb hby own_d2_66) k) ?_
          show Goes p e below _ (s₁.setTop (mkF m 67 #[.val (.int p1)] [(.int (1 : Int32))]))
          refine Goes.step (fun _ k => XS.goto X0.here hx rfl (pc0 := 67) (pc' := 71) rfl (hb hby own_d2_67) (by decide) (by decide) k) ?_
          show Goes p e below _ (s₁.setTop (mkF m 71 #[.val (.int p1)] [(.int (1 : Int32))]))
          refine Goes.retN X0 hx hlk (t := .boolean) hret (by simp) (hb hby own_d2_71) (by decide) (by decide) ?_
          exact ⟨by rw [own_v_once, if_neg hc1, if_neg hc2, if_neg hc3, if_pos hc4] <;> rfl, N0, e0⟩
        · refine Goes.step (fun _ k => XS.icmpNo X0.here hx rfl (hb hby own_d2_21) rfl (feq hc4).1 k) ?_
          show Goes p e below _ (s₁.setTop (mkF m 24 #[.val (.int p1)] []))
          refine Goes.step (fun _ k => XS.iloadN X0.here hx rfl (hb hby own_d2_24) rfl k) ?_
          show Goes p e below _ (s₁.setTop (mkF m 25 #[.val (.int p1)] [(.int p1)]))
          refine Goes.step (fun _ k => XS.bipush X0.here hx rfl (hb hby own_d2_25) k) ?_
          show Goes p e below _ (s₁.setTop (mkF m 27 #[.val (.int p1)] [(.int (19 : Int32)), (.int p1)]))
          by_cases hc5 : p1 = (19 : Int32)
          · refine Goes.step (fun _ k => XS.icmpYes X0.here hx rfl (pc0 := 27) (pc' := 66) rfl (hb hby own_d2_27) rfl (teq hc5).1 (by decide) (by decide) k) ?_
            show Goes p e below _ (s₁.setTop (mkF m 66 #[.val (.int p1)] []))
            refine Goes.step (fun _ k => XS.iconst X0.here hx rfl (hb hby own_d2_66) k) ?_
            show Goes p e below _ (s₁.setTop (mkF m 67 #[.val (.int p1)] [(.int (1 : Int32))]))
            refine Goes.step (fun _ k => XS.goto X0.here hx rfl (pc0 := 67) (pc' := 71) rfl (hb hby own_d2_67) (by decide) (by decide) k) ?_
            show Goes p e below _ (s₁.setTop (mkF m 71 #[.val (.int p1)] [(.int (1 : Int32))]))
            refine Goes.retN X0 hx hlk (t := .boolean) hret (by simp) (hb hby own_d2_71) (by decide) (by decide) ?_
            exact ⟨by rw [own_v_once, if_neg hc1, if_neg hc2, if_neg hc3, if_neg hc4, if_pos hc5] <;> rfl, N0, e0⟩
          · refine Goes.step (fun _ k => XS.icmpNo X0.here hx rfl (hb hby own_d2_27) rfl (feq hc5).1 k) ?_
            show Goes p e below _ (s₁.setTop (mkF m 30 #[.val (.int p1)] []))
            refine Goes.step (fun _ k => XS.iloadN X0.here hx rfl (hb hby own_d2_30) rfl k) ?_
            show Goes p e below _ (s₁.setTop (mkF m 31 #[.val (.int p1)] [(.int p1)]))
            refine Goes.step (fun _ k => XS.bipush X0.here hx rfl (hb hby own_d2_31) k) ?_
            show Goes p e below _ (s₁.setTop (mkF m 33 #[.val (.int p1)] [(.int (20 : Int32)), (.int p1)]))
            by_cases hc6 : p1 = (20 : Int32)
            · refine Goes.step (fun _ k => XS.icmpYes X0.here hx rfl (pc0 := 33) (pc' := 66) rfl (hb hby own_d2_33) rfl (teq hc6).1 (by decide) (by decide) k) ?_
              show Goes p e below _ (s₁.setTop (mkF m 66 #[.val (.int p1)] []))
              refine Goes.step (fun _ k => XS.iconst X0.here hx rfl (hb hby own_d2_66) k) ?_
              show Goes p e below _ (s₁.setTop (mkF m 67 #[.val (.int p1)] [(.int (1 : Int32))]))
              refine Goes.step (fun _ k => XS.goto X0.here hx rfl (pc0 := 67) (pc' := 71) rfl (hb hby own_d2_67) (by decide) (by decide) k) ?_
              show Goes p e below _ (s₁.setTop (mkF m 71 #[.val (.int p1)] [(.int (1 : Int32))]))
              refine Goes.retN X0 hx hlk (t := .boolean) hret (by simp) (hb hby own_d2_71) (by decide) (by decide) ?_
              exact ⟨by rw [own_v_once, if_neg hc1, if_neg hc2, if_neg hc3, if_neg hc4, if_neg hc5, if_pos hc6] <;> rfl, N0, e0⟩
            · refine Goes.step (fun _ k => XS.icmpNo X0.here hx rfl (hb hby own_d2_33) rfl (feq hc6).1 k) ?_
              show Goes p e below _ (s₁.setTop (mkF m 36 #[.val (.int p1)] []))
              refine Goes.step (fun _ k => XS.iloadN X0.here hx rfl (hb hby own_d2_36) rfl k) ?_
              show Goes p e below _ (s₁.setTop (mkF m 37 #[.val (.int p1)] [(.int p1)]))
              refine Goes.step (fun _ k => XS.bipush X0.here hx rfl (hb hby own_d2_37) k) ?_
              show Goes p e below _ (s₁.setTop (mkF m 39 #[.val (.int p1)] [(.int (21 : Int32)), (.int p1)]))
              by_cases hc7 : p1 = (21 : Int32)
              · refine Goes.step (fun _ k => XS.icmpYes X0.here hx rfl (pc0 := 39) (pc' := 66) rfl (hb hby own_d2_39) rfl (teq hc7).1 (by decide) (by decide) k) ?_
                show Goes p e below _ (s₁.setTop (mkF m 66 #[.val (.int p1)] []))
                refine Goes.step (fun _ k => XS.iconst X0.here hx rfl (hb hby own_d2_66) k) ?_
                show Goes p e below _ (s₁.setTop (mkF m 67 #[.val (.int p1)] [(.int (1 : Int32))]))
                refine Goes.step (fun _ k => XS.goto X0.here hx rfl (pc0 := 67) (pc' := 71) rfl (hb hby own_d2_67) (by decide) (by decide) k) ?_
                show Goes p e below _ (s₁.setTop (mkF m 71 #[.val (.int p1)] [(.int (1 : Int32))]))
                refine Goes.retN X0 hx hlk (t := .boolean) hret (by simp) (hb hby own_d2_71) (by decide) (by decide) ?_
                exact ⟨by rw [own_v_once, if_neg hc1, if_neg hc2, if_neg hc3, if_neg hc4, if_neg hc5, if_neg hc6, if_pos hc7] <;> rfl, N0, e0⟩
              · refine Goes.step (fun _ k => XS.icmpNo X0.here hx rfl (hb hby own_d2_39) rfl (feq hc7).1 k) ?_
                show Goes p e below _ (s₁.setTop (mkF m 42 #[.val (.int p1)] []))
                refine Goes.step (fun _ k => XS.iloadN X0.here hx rfl (hb hby own_d2_42) rfl k) ?_
                show Goes p e below _ (s₁.setTop (mkF m 43 #[.val (.int p1)] [(.int p1)]))
                refine Goes.step (fun _ k => XS.bipush X0.here hx rfl (hb hby own_d2_43) k) ?_
                show Goes p e below _ (s₁.setTop (mkF m 45 #[.val (.int p1)] [(.int (22 : Int32)), (.int p1)]))
                by_cases hc8 : p1 = (22 : Int32)
                · refine Goes.step (fun _ k => XS.icmpYes X0.here hx rfl (pc0 := 45) (pc' := 66) rfl (hb hby own_d2_45) rfl (teq hc8).1 (by decide) (by decide) k) ?_
                  show Goes p e below _ (s₁.setTop (mkF m 66 #[.val (.int p1)] []))
                  refine Goes.step (fun _ k => XS.iconst X0.here hx rfl (hb hby own_d2_66) k) ?_
                  show Goes p e below _ (s₁.setTop (mkF m 67 #[.val (.int p1)] [(.int (1 : Int32))]))
                  refine Goes.step (fun _ k => XS.goto X0.here hx rfl (pc0 := 67) (pc' := 71) rfl (hb hby own_d2_67) (by decide) (by decide) k) ?_
                  show Goes p e below _ (s₁.setTop (mkF m 71 #[.val (.int p1)] [(.int (1 : Int32))]))
                  refine Goes.retN X0 hx hlk (t := .boolean) hret (by simp) (hb hby own_d2_71) (by decide) (by decide) ?_
                  exact ⟨by rw [own_v_once, if_neg hc1, if_neg hc2, if_neg hc3, if_neg hc4, if_neg hc5, if_neg hc6, if_neg hc7, if_pos hc8] <;> rfl, N0, e0⟩
                · refine Goes.step (fun _ k => XS.icmpNo X0.here hx rfl (hb hby own_d2_45) rfl (feq hc8).1 k) ?_
                  show Goes p e below _ (s₁.setTop (mkF m 48 #[.val (.int p1)] []))
                  refine Goes.step (fun _ k => XS.iloadN X0.here hx rfl (hb hby own_d2_48) rfl k) ?_
                  show Goes p e below _ (s₁.setTop (mkF m 49 #[.val (.int p1)] [(.int p1)]))
                  refine Goes.step (fun _ k => XS.bipush X0.here hx rfl (hb hby own_d2_49) k) ?_
                  show Goes p e below _ (s₁.setTop (mkF m 51 #[.val (.int p1)] [(.int (23 : Int32)), (.int p1)]))
                  by_cases hc9 : p1 = (23 : Int32)
                  · refine Goes.step (fun _ k => XS.icmpYes X0.here hx rfl (pc0 := 51) (pc' := 66) rfl (hb hby own_d2_51) rfl (teq hc9).1 (by decide) (by decide) k) ?_
                    show Goes p e below _ (s₁.setTop (mkF m 66 #[.val (.int p1)] []))
                    refine Goes.step (fun _ k => XS.iconst X0.here hx rfl (hb hby own_d2_66) k) ?_
                    show Goes p e below _ (s₁.setTop (mkF m 67 #[.val (.int p1)] [(.int (1 : Int32))]))
                    refine Goes.step (fun _ k => XS.goto X0.here hx rfl (pc0 := 67) (pc' := 71) rfl (hb hby own_d2_67) (by decide) (by decide) k) ?_
                    show Goes p e below _ (s₁.setTop (mkF m 71 #[.val (.int p1)] [(.int (1 : Int32))]))
                    refine Goes.retN X0 hx hlk (t := .boolean) hret (by simp) (hb hby own_d2_71) (by decide) (by decide) ?_
                    exact ⟨by rw [own_v_once, if_neg hc1, if_neg hc2, if_neg hc3, if_neg hc4, if_neg hc5, if_neg hc6, if_neg hc7, if_neg hc8, if_pos hc9] <;> rfl, N0, e0⟩
                  · refine Goes.step (fun _ k => XS.icmpNo X0.here hx rfl (hb hby own_d2_51) rfl (feq hc9).1 k) ?_
                    show Goes p e below _ (s₁.setTop (mkF m 54 #[.val (.int p1)] []))
                    refine Goes.step (fun _ k => XS.iloadN X0.here hx rfl (hb hby own_d2_54) rfl k) ?_
                    show Goes p e below _ (s₁.setTop (mkF m 55 #[.val (.int p1)] [(.int p1)]))
                    refine Goes.step (fun _ k => XS.bipush X0.here hx rfl (hb hby own_d2_55) k) ?_
                    show Goes p e below _ (s₁.setTop (mkF m 57 #[.val (.int p1)] [(.int (24 : Int32)), (.int p1)]))
                    by_cases hc10 : p1 = (24 : Int32)
                    · refine Goes.step (fun _ k => XS.icmpYes X0.here hx rfl (pc0 := 57) (pc' := 66) rfl (hb hby own_d2_57) rfl (teq hc10).1 (by decide) (by decide) k) ?_
                      show Goes p e below _ (s₁.setTop (mkF m 66 #[.val (.int p1)] []))
                      refine Goes.step (fun _ k => XS.iconst X0.here hx rfl (hb hby own_d2_66) k) ?_
                      show Goes p e below _ (s₁.setTop (mkF m 67 #[.val (.int p1)] [(.int (1 : Int32))]))
                      refine Goes.step (fun _ k => XS.goto X0.here hx rfl (pc0 := 67) (pc' := 71) rfl (hb hby own_d2_67) (by decide) (by decide) k) ?_
                      show Goes p e below _ (s₁.setTop (mkF m 71 #[.val (.int p1)] [(.int (1 : Int32))]))
                      refine Goes.retN X0 hx hlk (t := .boolean) hret (by simp) (hb hby own_d2_71) (by decide) (by decide) ?_
                      exact ⟨by rw [own_v_once, if_neg hc1, if_neg hc2, if_neg hc3, if_neg hc4, if_neg hc5, if_neg hc6, if_neg hc7, if_neg hc8, if_neg hc9, if_pos hc10] <;> rfl, N0, e0⟩
                    · refine Goes.step (fun _ k => XS.icmpNo X0.here hx rfl (hb hby own_d2_57) rfl (feq hc10).1 k) ?_
                      show Goes p e below _ (s₁.setTop (mkF m 60 #[.val (.int p1)] []))
                      refine Goes.step (fun _ k => XS.iloadN X0.here hx rfl (hb hby own_d2_60) rfl k) ?_
                      show Goes p e below _ (s₁.setTop (mkF m 61 #[.val (.int p1)] [(.int p1)]))
                      refine Goes.step (fun _ k => XS.bipush X0.here hx rfl (hb hby own_d2_61) k) ?_
                      show Goes p e below _ (s₁.setTop (mkF m 63 #[.val (.int p1)] [(.int (32 : Int32)), (.int p1)]))
                      by_cases hc11 : p1 = (32 : Int32)
                      · refine Goes.step (fun _ k => XS.icmpNo X0.here hx rfl (hb hby own_d2_63) rfl (teq hc11).2 k) ?_
                        show Goes p e below _ (s₁.setTop (mkF m 66 #[.val (.int p1)] []))
                        refine Goes.step (fun _ k => XS.iconst X0.here hx rfl (hb hby own_d2_66) k) ?_
                        show Goes p e below _ (s₁.setTop (mkF m 67 #[.val (.int p1)] [(.int (1 : Int32))]))
                        refine Goes.step (fun _ k => XS.goto X0.here hx rfl (pc0 := 67) (pc' := 71) rfl (hb hby own_d2_67) (by decide) (by decide) k) ?_
                        show Goes p e below _ (s₁.setTop (mkF m 71 #[.val (.int p1)] [(.int (1 : Int32))]))
                        refine Goes.retN X0 hx hlk (t := .boolean) hret (by simp) (hb hby own_d2_71) (by decide) (by decide) ?_
                        exact ⟨by rw [own_v_once, if_neg hc1, if_neg hc2, if_neg hc3, if_neg hc4, if_neg hc5, if_neg hc6, if_neg hc7, if_neg hc8, if_neg hc9, if_neg hc10, if_pos hc11] <;> rfl, N0, e0⟩
                      · refine Goes.step (fun _ k => XS.icmpYes X0.here hx rfl (pc0 := 63) (pc' := 70) rfl (hb hby own_d2_63) rfl (feq hc11).2 (by decide) (by decide) k) ?_
                        show Goes p e below _ (s₁.setTop (mkF m 70 #[.val (.int p1)] []))
                        refine Goes.step (fun _ k => XS.iconst X0.here hx rfl (hb hby own_d2_70) k) ?_
                        show Goes p e below _ (s₁.setTop (mkF m 71 #[.val (.int p1)] [(.int (0 : Int32))]))
                        refine Goes.retN X0 hx hlk (t := .boolean) hret (by simp) (hb hby own_d2_71) (by decide) (by decide) ?_
                        exact ⟨by rw [own_v_once, if_neg hc1, if_neg hc2, if_neg hc3, if_neg hc4, if_neg hc5, if_neg hc6, if_neg hc7, if_neg hc8, if_neg hc9, if_neg hc10, if_neg hc11] <;> rfl, N0, e0⟩
theorem own_eqv (c : Int32) : own_v_app c = own_v_once c := by
  by_cases a0 : c = (6 : Int32)
  · subst a0; decide
  by_cases a1 : c = (16 : Int32)
  · subst a1; decide
  by_cases a2 : c = (17 : Int32)
  · subst a2; decide
  by_cases a3 : c = (18 : Int32)
  · subst a3; decide
  by_cases a4 : c = (19 : Int32)
  · subst a4; decide
  by_cases a5 : c = (20 : Int32)
  · subst a5; decide
  by_cases a6 : c = (21 : Int32)
  · subst a6; decide
  by_cases a7 : c = (22 : Int32)
  · subst a7; decide
  by_cases a8 : c = (23 : Int32)
  · subst a8; decide
  by_cases a9 : c = (24 : Int32)
  · subst a9; decide
  by_cases a10 : c = (32 : Int32)
  · subst a10; decide
  unfold own_v_app own_v_once
  simp only [if_neg a0, if_neg a1, if_neg a2, if_neg a3, if_neg a4, if_neg a5, if_neg a6, if_neg a7, if_neg a8, if_neg a9, if_neg a10]
  by_cases q1 : c < (16 : Int32)
  · rw [if_pos q1]
  · rw [if_neg q1]
    by_cases q2 : (24 : Int32) < c
    · rw [if_pos q2]
    · exfalso
      rw [Int32.lt_iff_toInt_lt, show (16 : Int32).toInt = 16 from by decide] at q1
      rw [Int32.lt_iff_toInt_lt, show (24 : Int32).toInt = 24 from by decide] at q2
      have b1 : c.toInt ≠ 16 := fun e => a1 (by rw [← Int32.toInt_inj, e]; decide)
      have b2 : c.toInt ≠ 17 := fun e => a2 (by rw [← Int32.toInt_inj, e]; decide)
      have b3 : c.toInt ≠ 18 := fun e => a3 (by rw [← Int32.toInt_inj, e]; decide)
      have b4 : c.toInt ≠ 19 := fun e => a4 (by rw [← Int32.toInt_inj, e]; decide)
      have b5 : c.toInt ≠ 20 := fun e => a5 (by rw [← Int32.toInt_inj, e]; decide)
      have b6 : c.toInt ≠ 21 := fun e => a6 (by rw [← Int32.toInt_inj, e]; decide)
      have b7 : c.toInt ≠ 22 := fun e => a7 (by rw [← Int32.toInt_inj, e]; decide)
      have b8 : c.toInt ≠ 23 := fun e => a8 (by rw [← Int32.toInt_inj, e]; decide)
      have b9 : c.toInt ≠ 24 := fun e => a9 (by rw [← Int32.toInt_inj, e]; decide)
      omega
set_option maxRecDepth 65536 in
set_option maxHeartbeats 40000000 in
theorem rm0 (l : Launch) (Z : State) (a0 : Array Value) (hw : ∀ d ∈ tables_1, d.before a0 Z = true) (p1 p2 : Int32) (h0 : Heap) (n0 : Nat) (Z0 : n0 ≤ h0.size) :
    Con l Z x code maxLocals ret room_1 #[(.int p1), (.int p2)] h0 (fun v h L => v = some (.int 1) ∧ Fr n0 L) := by
  refine Con.body (plainFor_of_name own_pn1) ?_
  intro p e s m below meth c s₁ hx hby hml hZ hown hnm hret hlk X0 e0
  have hown : s.vm.findClass "com/example/bellbird/bellbird/FieldAppearsOncePinLaw" = some m.cls := hown
  have hml : c.maxLocals = 5 := hml
  have N0 := Fr.nil n0
  have ef : entryFrame m #[(.int p1), (.int p2)] maxLocals = mkF m 0 #[.val (.int p1), .val (.int p2), .unset, .unset, .unset] [] := by first | (simp [entryFrame, mkF, argsToLocals, Value.category, maxLocals]; done) | rfl
  rw [ef]
  show Goes p e below _ (s₁.setTop (mkF m 0 #[.val (.int p1), .val (.int p2), .unset, .unset, .unset] []))
  refine Goes.step (fun _ k => XS.iloadN X0.here hx rfl (hb hby at_0) rfl k) ?_
  show Goes p e below _ (s₁.setTop (mkF m 1 #[.val (.int p1), .val (.int p2), .unset, .unset, .unset] [(.int p2)]))
  refine Goes.step (fun _ k => XS.sipush X0.here hx rfl (hb hby at_1) k) ?_
  show Goes p e below _ (s₁.setTop (mkF m 4 #[.val (.int p1), .val (.int p2), .unset, .unset, .unset] [(.int (255 : Int32)), (.int p2)]))
  refine Goes.step (fun _ k => XS.iand X0.here hx rfl (hb hby at_4) rfl k) ?_
  show Goes p e below _ (s₁.setTop (mkF m 5 #[.val (.int p1), .val (.int p2), .unset, .unset, .unset] [(.int (p2 &&& (255 : Int32)))]))
  refine Goes.step (fun _ k => XS.istoreN X0.here hx rfl (hb hby at_5) rfl (l' := #[.val (.int p1), .val (.int p2), .val (.int (p2 &&& (255 : Int32))), .unset, .unset]) rfl k) ?_
  show Goes p e below _ (s₁.setTop (mkF m 6 #[.val (.int p1), .val (.int p2), .val (.int (p2 &&& (255 : Int32))), .unset, .unset] []))
  refine Goes.step (fun _ k => XS.iloadN X0.here hx rfl (hb hby at_6) rfl k) ?_
  show Goes p e below _ (s₁.setTop (mkF m 7 #[.val (.int p1), .val (.int p2), .val (.int (p2 &&& (255 : Int32))), .unset, .unset] [(.int p1)]))
  refine Goes.callS X0 hx hZ hown (hw _ (List.mem_of_getElem? (i := 0) rfl)) (hw _ (List.mem_of_getElem? (i := 1) rfl)) (hw _ (List.mem_of_getElem? (i := 2) rfl)) (hw _ (List.mem_of_getElem? (i := 3) rfl)) (by decide) e0 (rm_app l Z a0 hw p1 h0 n0 Z0) (W := 0) (by decide) (by decide) (by decide) (by decide) (g := (mkF m 7 #[.val (.int p1), .val (.int p2), .val (.int (p2 &&& (255 : Int32))), .unset, .unset] [(.int p1)])) rfl (by rw [hml]; rfl) (rest := []) own_pd0 rfl rfl (by show 2 * 0 + _ ≤ _; exact Nat.le_of_eq rfl) (hb hby at_7) ?_
  intro v1 T1 L1 X1 hQ1
  obtain ⟨rfl, N1q, e1⟩ := hQ1
  have N1 := Fr.app N0 N1q
  show Goes p e below _ (T1.setTop (mkF m 10 #[.val (.int p1), .val (.int p2), .val (.int (p2 &&& (255 : Int32))), .unset, .unset] [(.int (own_v_app p1))]))
  refine Goes.step (fun _ k => XS.iloadN X1.here hx rfl (hb hby at_10) rfl k) ?_
  show Goes p e below _ (T1.setTop (mkF m 11 #[.val (.int p1), .val (.int p2), .val (.int (p2 &&& (255 : Int32))), .unset, .unset] [(.int p1), (.int (own_v_app p1))]))
  refine Goes.callS X1 hx hZ hown (hw _ (List.mem_of_getElem? (i := 4) rfl)) (hw _ (List.mem_of_getElem? (i := 5) rfl)) (hw _ (List.mem_of_getElem? (i := 6) rfl)) (hw _ (List.mem_of_getElem? (i := 7) rfl)) (by decide) e1 (rm_once l Z a0 hw p1 h0 n0 Z0) (W := 1) (by decide) (by decide) (by decide) (by decide) (g := (mkF m 11 #[.val (.int p1), .val (.int p2), .val (.int (p2 &&& (255 : Int32))), .unset, .unset] [(.int p1), (.int (own_v_app p1))])) rfl (by rw [hml]; rfl) (rest := [(.int (own_v_app p1))]) own_pd0 rfl rfl (by show 2 * 0 + _ ≤ _; exact Nat.le_of_eq rfl) (hb hby at_11) ?_
  intro v2 T2 L2 X2 hQ2
  obtain ⟨rfl, N2q, e2⟩ := hQ2
  have N2 := Fr.app N1 N2q
  show Goes p e below _ (T2.setTop (mkF m 14 #[.val (.int p1), .val (.int p2), .val (.int (p2 &&& (255 : Int32))), .unset, .unset] [(.int (own_v_once p1)), (.int (own_v_app p1))]))
  have hb3 : (own_v_app p1) = (own_v_once p1) := (own_eqv p1)
  refine Goes.step (fun _ k => XS.icmpNo X2.here hx rfl (hb hby at_14) rfl (teq hb3).2 k) ?_
  show Goes p e below _ (T2.setTop (mkF m 17 #[.val (.int p1), .val (.int p2), .val (.int (p2 &&& (255 : Int32))), .unset, .unset] []))
  refine Goes.step (fun _ k => XS.iconst X2.here hx rfl (hb hby at_17) k) ?_
  show Goes p e below _ (T2.setTop (mkF m 18 #[.val (.int p1), .val (.int p2), .val (.int (p2 &&& (255 : Int32))), .unset, .unset] [(.int (1 : Int32))]))
  refine Goes.step (fun _ k => XS.goto X2.here hx rfl (pc0 := 18) (pc' := 22) rfl (hb hby at_18) (by decide) (by decide) k) ?_
  show Goes p e below _ (T2.setTop (mkF m 22 #[.val (.int p1), .val (.int p2), .val (.int (p2 &&& (255 : Int32))), .unset, .unset] [(.int (1 : Int32))]))
  refine Goes.step (fun _ k => XS.istoreN X2.here hx rfl (hb hby at_22) rfl (l' := #[.val (.int p1), .val (.int p2), .val (.int (p2 &&& (255 : Int32))), .val (.int (1 : Int32)), .unset]) rfl k) ?_
  show Goes p e below _ (T2.setTop (mkF m 23 #[.val (.int p1), .val (.int p2), .val (.int (p2 &&& (255 : Int32))), .val (.int (1 : Int32)), .unset] []))
  refine Goes.step (fun _ k => XS.iloadN X2.here hx rfl (hb hby at_23) rfl k) ?_
  show Goes p e below _ (T2.setTop (mkF m 24 #[.val (.int p1), .val (.int p2), .val (.int (p2 &&& (255 : Int32))), .val (.int (1 : Int32)), .unset] [(.int (p2 &&& (255 : Int32)))]))
  refine Goes.callS X2 hx hZ hown (hw _ (List.mem_of_getElem? (i := 0) rfl)) (hw _ (List.mem_of_getElem? (i := 1) rfl)) (hw _ (List.mem_of_getElem? (i := 2) rfl)) (hw _ (List.mem_of_getElem? (i := 3) rfl)) (by decide) e2 (rm_app l Z a0 hw (p2 &&& (255 : Int32)) h0 n0 Z0) (W := 0) (by decide) (by decide) (by decide) (by decide) (g := (mkF m 24 #[.val (.int p1), .val (.int p2), .val (.int (p2 &&& (255 : Int32))), .val (.int (1 : Int32)), .unset] [(.int (p2 &&& (255 : Int32)))])) rfl (by rw [hml]; rfl) (rest := []) own_pd0 rfl rfl (by show 2 * 0 + _ ≤ _; exact Nat.le_of_eq rfl) (hb hby at_24) ?_
  intro v4 T4 L4 X4 hQ4
  obtain ⟨rfl, N4q, e4⟩ := hQ4
  have N4 := Fr.app N2 N4q
  show Goes p e below _ (T4.setTop (mkF m 27 #[.val (.int p1), .val (.int p2), .val (.int (p2 &&& (255 : Int32))), .val (.int (1 : Int32)), .unset] [(.int (own_v_app (p2 &&& (255 : Int32))))]))
  refine Goes.step (fun _ k => XS.iloadN X4.here hx rfl (hb hby at_27) rfl k) ?_
  show Goes p e below _ (T4.setTop (mkF m 28 #[.val (.int p1), .val (.int p2), .val (.int (p2 &&& (255 : Int32))), .val (.int (1 : Int32)), .unset] [(.int (p2 &&& (255 : Int32))), (.int (own_v_app (p2 &&& (255 : Int32))))]))
  refine Goes.callS X4 hx hZ hown (hw _ (List.mem_of_getElem? (i := 4) rfl)) (hw _ (List.mem_of_getElem? (i := 5) rfl)) (hw _ (List.mem_of_getElem? (i := 6) rfl)) (hw _ (List.mem_of_getElem? (i := 7) rfl)) (by decide) e4 (rm_once l Z a0 hw (p2 &&& (255 : Int32)) h0 n0 Z0) (W := 1) (by decide) (by decide) (by decide) (by decide) (g := (mkF m 28 #[.val (.int p1), .val (.int p2), .val (.int (p2 &&& (255 : Int32))), .val (.int (1 : Int32)), .unset] [(.int (p2 &&& (255 : Int32))), (.int (own_v_app (p2 &&& (255 : Int32))))])) rfl (by rw [hml]; rfl) (rest := [(.int (own_v_app (p2 &&& (255 : Int32))))]) own_pd0 rfl rfl (by show 2 * 0 + _ ≤ _; exact Nat.le_of_eq rfl) (hb hby at_28) ?_
  intro v5 T5 L5 X5 hQ5
  obtain ⟨rfl, N5q, e5⟩ := hQ5
  have N5 := Fr.app N4 N5q
  show Goes p e below _ (T5.setTop (mkF m 31 #[.val (.int p1), .val (.int p2), .val (.int (p2 &&& (255 : Int32))), .val (.int (1 : Int32)), .unset] [(.int (own_v_once (p2 &&& (255 : Int32)))), (.int (own_v_app (p2 &&& (255 : Int32))))]))
  have hb6 : (own_v_app (p2 &&& (255 : Int32))) = (own_v_once (p2 &&& (255 : Int32))) := (own_eqv (p2 &&& (255 : Int32)))
  refine Goes.step (fun _ k => XS.icmpNo X5.here hx rfl (hb hby at_31) rfl (teq hb6).2 k) ?_
  show Goes p e below _ (T5.setTop (mkF m 34 #[.val (.int p1), .val (.int p2), .val (.int (p2 &&& (255 : Int32))), .val (.int (1 : Int32)), .unset] []))
  refine Goes.step (fun _ k => XS.iconst X5.here hx rfl (hb hby at_34) k) ?_
  show Goes p e below _ (T5.setTop (mkF m 35 #[.val (.int p1), .val (.int p2), .val (.int (p2 &&& (255 : Int32))), .val (.int (1 : Int32)), .unset] [(.int (1 : Int32))]))
  refine Goes.step (fun _ k => XS.goto X5.here hx rfl (pc0 := 35) (pc' := 39) rfl (hb hby at_35) (by decide) (by decide) k) ?_
  show Goes p e below _ (T5.setTop (mkF m 39 #[.val (.int p1), .val (.int p2), .val (.int (p2 &&& (255 : Int32))), .val (.int (1 : Int32)), .unset] [(.int (1 : Int32))]))
  refine Goes.step (fun _ k => XS.istore X5.here hx rfl (hb hby at_39) rfl (l' := #[.val (.int p1), .val (.int p2), .val (.int (p2 &&& (255 : Int32))), .val (.int (1 : Int32)), .val (.int (1 : Int32))]) rfl k) ?_
  show Goes p e below _ (T5.setTop (mkF m 41 #[.val (.int p1), .val (.int p2), .val (.int (p2 &&& (255 : Int32))), .val (.int (1 : Int32)), .val (.int (1 : Int32))] []))
  refine Goes.step (fun _ k => XS.iloadN X5.here hx rfl (hb hby at_41) rfl k) ?_
  show Goes p e below _ (T5.setTop (mkF m 42 #[.val (.int p1), .val (.int p2), .val (.int (p2 &&& (255 : Int32))), .val (.int (1 : Int32)), .val (.int (1 : Int32))] [(.int (1 : Int32))]))
  refine Goes.step (fun _ k => XS.ifNo X5.here hx rfl (hb hby at_42) rfl ((if0 _ _).trans (feq (by decide)).1) k) ?_
  show Goes p e below _ (T5.setTop (mkF m 45 #[.val (.int p1), .val (.int p2), .val (.int (p2 &&& (255 : Int32))), .val (.int (1 : Int32)), .val (.int (1 : Int32))] []))
  refine Goes.step (fun _ k => XS.iload X5.here hx rfl (hb hby at_45) rfl k) ?_
  show Goes p e below _ (T5.setTop (mkF m 47 #[.val (.int p1), .val (.int p2), .val (.int (p2 &&& (255 : Int32))), .val (.int (1 : Int32)), .val (.int (1 : Int32))] [(.int (1 : Int32))]))
  refine Goes.step (fun _ k => XS.ifNo X5.here hx rfl (hb hby at_47) rfl ((if0 _ _).trans (feq (by decide)).1) k) ?_
  show Goes p e below _ (T5.setTop (mkF m 50 #[.val (.int p1), .val (.int p2), .val (.int (p2 &&& (255 : Int32))), .val (.int (1 : Int32)), .val (.int (1 : Int32))] []))
  refine Goes.step (fun _ k => XS.iconst X5.here hx rfl (hb hby at_50) k) ?_
  show Goes p e below _ (T5.setTop (mkF m 51 #[.val (.int p1), .val (.int p2), .val (.int (p2 &&& (255 : Int32))), .val (.int (1 : Int32)), .val (.int (1 : Int32))] [(.int (1 : Int32))]))
  refine Goes.step (fun _ k => XS.goto X5.here hx rfl (pc0 := 51) (pc' := 55) rfl (hb hby at_51) (by decide) (by decide) k) ?_
  show Goes p e below _ (T5.setTop (mkF m 55 #[.val (.int p1), .val (.int p2), .val (.int (p2 &&& (255 : Int32))), .val (.int (1 : Int32)), .val (.int (1 : Int32))] [(.int (1 : Int32))]))
  refine Goes.retN X5 hx hlk (t := .boolean) hret (by simp) (hb hby at_55) (by decide) (by decide) ?_
  exact ⟨rfl, N5⟩
set_option maxRecDepth 65536 in
set_option maxHeartbeats 40000000 in
theorem comes_1 {Post : Tables → Env → Array Value → State → Outcome → State → Prop} (hpost : ∀ tb e args s v u, (limb_1_1.after args s (.returned v) u = true ∧ limb_1_2.after args s (.returned v) u = true ∧ True) → FrameEnd s (.returned v) u (Jvm.fieldLocs frame_1_writes args s ++ Jvm.arrayLocs frame_1_arrays args s ++ Jvm.staticLocs frame_1_statics s) 0 0 → Post tb e args s (.returned v) u) :
    ArmFor flags0 classFile x code maxLocals ret World_1 tables_1 room_1 Calls_1 rest_1 Pre_1 Post := by
  intro l hfl _ _ p e ha hc hk s m args below hf hA hF happ hP
  obtain ⟨hcalls, hrest, hpre⟩ := hP
  obtain ⟨-, -, -, hnamed, -, -, -, hat⟩ := (Spec.applies_iff hf).mp happ
  obtain ⟨hg, hn⟩ := and_e (Cond.before_iff.mp (show (Jvm.Cond.and given_1 narrow_1).before args s = true from hpre))
  obtain ⟨hcnt, g0⟩ := and_e hg
  obtain ⟨q0, g1⟩ := and_e g0
  have q1 := g1
  obtain ⟨w0, w1, rfl⟩ : ∃ w0 w1 : Value, args = #[w0, w1] := by
    have hs : args.size = 2 := by simpa [Cond.value, given_1] using hcnt
    obtain ⟨L⟩ := args
    match L, hs with
    | [w0, w1], _ => exact ⟨w0, w1, rfl⟩
  have hw := fun d (hd : d ∈ tables_1) => atoms_spec (ws := Jvm.Cond.code x code maxLocals ret :: tables_1) hat d (List.mem_cons_of_mem _ hd)
  obtain ⟨i0, e0⟩ := is_v q0
  obtain rfl : w0 = (.int i0) := Option.some.inj e0
  obtain ⟨i1, e1⟩ := is_v q1
  obtain rfl : w1 = (.int i1) := Option.some.inj e1
  obtain ⟨n, o, h1, h2, h3, _, L, rfl, ⟨rfl, N⟩, hq⟩ := rm0 l s _ hw i0 i1 s.heap s.heap.size (Nat.le_refl _) tables_1 p e ha hc hk s m _ below hf ((Spec.applies_iff_loose hf).mp happ).1 ⟨rfl, State.Warmed39.refl s, rfl⟩ trivial
  refine ⟨n, _, h1, h2, h3, hpost _ _ _ _ _ _ ⟨Cond.after_iff.mpr rfl, Cond.after_iff.mpr (eq_i res_at (Term.int_eval (1)) rfl), trivial⟩ ⟨hq.1, hq.2.1, (hq.2.2.sift fun y hy => Or.inr (N y hy)).mono (by decide) (by decide)⟩⟩
theorem main_1_1 : Claimed_1_1 := comes_1 fun _ _ _ _ _ _ h hF => ⟨h.1, hF⟩
theorem main_1_2 : Claimed_1_2 := comes_1 fun _ _ _ _ _ _ h hF => ⟨h.2.1, hF⟩
end Jvm.Pilot.@@N@@
namespace Jvm.Pilot.@@N@@
open Jvm Jvm.ClassFile Sem Op Lib Jvm.Free Jvm.Stand Jvm.Pilot.@@N@@.Jvm.D
/-! MADE BY PROGRAM (witnessworld.py) out of the Statement's table words and the real class files: 10 classes; the members and pool entries that the words name. The judged class is class 1, her method 2. -/
namespace start1
open Jvm.ClassFile
def u (s : String) : CpInfo := .utf8 (stringToUtf16 s)
/-- a pool by its gaps: so many unusable entries, then the entry; so many at the end -/
def gap : Nat → List CpInfo → List CpInfo
  | 0, r => r
  | n + 1, r => .unusable :: gap n r
def poolList (es : List (Nat × CpInfo)) (last : Nat) : List CpInfo := es.foldr (fun e r => gap e.1 (e.2 :: r)) (gap last [])
def pool (es : List (Nat × CpInfo)) (last : Nat) : Array CpInfo := ⟨poolList es last⟩
def fileOf (pool : Array CpInfo) (this : Nat) (attrs : Array Attribute := #[]) (ms : Array MethodInfo := #[]) (fl : Nat := 33) (sup : Nat := 0) (ifs : Array Nat := #[]) (fds : Array FieldInfo := #[]) : ClassFile where
  minorVersion := 0
  majorVersion := 65
  constantPool := pool
  accessFlags := fl
  thisClass := this
  superClass := sup
  interfaces := ifs
  fields := fds
  methods := ms
  attributes := attrs
def plain (name : String) (sup : Option ClassId) : Class where
  name := name
  kind := .ordinary
  loader := none
  accessFlags := 33
  super := sup
  interfaces := #[]
  cf := none
  fields := #[]
  methods := #[]
  instanceTypes := #[]
  staticTypes := #[]
  resolved := #[]
  callSites := []
  init := .initialized
  statics := none
  mirror := none

def pool0 : Array CpInfo := pool [(5, u "<init>"), (0, u "()V"), (1, .class_ 10), (1, u "java/lang/Object")] 113

def k0m0 : Method := { name := "<init>", desc := "()V", sig := { parameters := [], returnType := none }, accessFlags := 1, code := none }
/-- java/lang/Object -/
def k0 : Class := { plain "java/lang/Object" none with
  accessFlags := 33
  interfaces := #[]
  cf := some (fileOf pool0 8 #[] #[{ accessFlags := 1, nameIndex := 5, descriptorIndex := 6, attributes := #[] }] 33 0 #[] #[])
  fields := #[]
  methods := #[k0m0]
  instanceTypes := #[]
  staticTypes := #[]
  resolved := Array.replicate 124 none
  statics := none }

def pool1 : Array CpInfo := pool [(2, .class_ 4), (1, u "java/lang/Object"), (0, u "<init>"), (0, u "()V"), (0, .methodref 8 9), (0, .class_ 10), (0, .nameAndType 11 12), (0, u "com/example/bellbird/bellbird/Field"), (0, u "appearsOnce"), (0, u "(I)Z"), (0, .methodref 14 15), (0, .class_ 16), (0, .nameAndType 17 12), (0, u "com/example/bellbird/bellbird/FieldAppearsOncePinLaw"), (0, u "once"), (3, u "law"), (0, u "(II)Z")] 2

def k1m0 : Method := { name := "<init>", desc := "()V", sig := { parameters := [], returnType := none }, accessFlags := 1, code := none }
def k1c1 : Code := { maxStack := 2, maxLocals := 1, code := method_2_code, exceptionTable := #[], attributes := #[] }
def k1m1 : Method := { name := "once", desc := "(I)Z", sig := { parameters := [.int], returnType := some .boolean }, accessFlags := 10, code := some k1c1 }
def k1c2 : Code := { maxStack := 2, maxLocals := 5, code := code, exceptionTable := #[], attributes := #[] }
def k1m2 : Method := { name := "law", desc := "(II)Z", sig := { parameters := [.int, .int], returnType := some .boolean }, accessFlags := 9, code := some k1c2 }
/-- com/example/bellbird/bellbird/FieldAppearsOncePinLaw -/
def k1 : Class := { plain "com/example/bellbird/bellbird/FieldAppearsOncePinLaw" (some 0) with
  accessFlags := 49
  interfaces := #[]
  cf := some (fileOf pool1 14 #[] #[{ accessFlags := 1, nameIndex := 5, descriptorIndex := 6, attributes := #[] }, { accessFlags := 10, nameIndex := 17, descriptorIndex := 12, attributes := #[] }, { accessFlags := 9, nameIndex := 21, descriptorIndex := 22, attributes := #[] }] 49 2 #[] #[])
  fields := #[]
  methods := #[k1m0, k1m1, k1m2]
  instanceTypes := #[]
  staticTypes := #[]
  resolved := Array.replicate 25 none
  statics := none }

def pool2 : Array CpInfo := pool [(2, .class_ 4), (1, u "java/lang/Object"), (0, u "<init>"), (0, u "()V"), (0, .class_ 8), (0, u "java/lang/Record")] 13

def k2m0 : Method := { name := "<init>", desc := "()V", sig := { parameters := [], returnType := none }, accessFlags := 4, code := none }
/-- java/lang/Record -/
def k2 : Class := { plain "java/lang/Record" (some 0) with
  accessFlags := 1057
  interfaces := #[]
  cf := some (fileOf pool2 7 #[] #[{ accessFlags := 4, nameIndex := 5, descriptorIndex := 6, attributes := #[] }] 1057 2 #[] #[])
  fields := #[]
  methods := #[k2m0]
  instanceTypes := #[]
  staticTypes := #[]
  resolved := Array.replicate 22 none
  statics := none }

def pool3 : Array CpInfo := pool [(2, .class_ 4), (1, u "java/lang/Record"), (5, .class_ 12), (1, u "com/example/bellbird/bellbird/Field"), (13, u "type"), (0, u "I"), (2, u "value"), (0, u "[B"), (31, u "STRING"), (2, u "INTEGER"), (1, u "FLOAT"), (1, u "BINARY"), (1, u "JSON"), (1, u "NAME"), (1, u "HMAC"), (1, u "ENCRYPTION_METADATA"), (1, u "SIGNATURE"), (1, u "PUBLIC_KEY"), (1, u "NODE_ID"), (1, u "TIMESTAMP"), (1, u "AUTH_KEY_ID"), (1, u "MAX_VALUE_LENGTH"), (8, u "appearsOnce"), (0, u "(I)Z")] 37

def k3c0 : Code := { maxStack := 2, maxLocals := 1, code := prog_2_method_3_code, exceptionTable := #[], attributes := #[] }
def k3m0 : Method := { name := "appearsOnce", desc := "(I)Z", sig := { parameters := [.int], returnType := some .boolean }, accessFlags := 8, code := some k3c0 }
/-- com/example/bellbird/bellbird/Field -/
def k3 : Class := { plain "com/example/bellbird/bellbird/Field" (some 2) with
  accessFlags := 49
  interfaces := #[]
  cf := some (fileOf pool3 10 #[] #[{ accessFlags := 8, nameIndex := 99, descriptorIndex := 100, attributes := #[] }] 49 2 #[] #[{ accessFlags := 18, nameIndex := 26, descriptorIndex := 27, attributes := #[] }, { accessFlags := 18, nameIndex := 30, descriptorIndex := 31, attributes := #[] }, { accessFlags := 25, nameIndex := 63, descriptorIndex := 27, attributes := #[] }, { accessFlags := 25, nameIndex := 66, descriptorIndex := 27, attributes := #[] }, { accessFlags := 25, nameIndex := 68, descriptorIndex := 27, attributes := #[] }, { accessFlags := 25, nameIndex := 70, descriptorIndex := 27, attributes := #[] }, { accessFlags := 25, nameIndex := 72, descriptorIndex := 27, attributes := #[] }, { accessFlags := 25, nameIndex := 74, descriptorIndex := 27, attributes := #[] }, { accessFlags := 25, nameIndex := 76, descriptorIndex := 27, attributes := #[] }, { accessFlags := 25, nameIndex := 78, descriptorIndex := 27, attributes := #[] }, { accessFlags := 25, nameIndex := 80, descriptorIndex := 27, attributes := #[] }, { accessFlags := 25, nameIndex := 82, descriptorIndex := 27, attributes := #[] }, { accessFlags := 25, nameIndex := 84, descriptorIndex := 27, attributes := #[] }, { accessFlags := 25, nameIndex := 86, descriptorIndex := 27, attributes := #[] }, { accessFlags := 25, nameIndex := 88, descriptorIndex := 27, attributes := #[] }, { accessFlags := 25, nameIndex := 90, descriptorIndex := 27, attributes := #[] }])
  fields := #[{ name := "type", type := .int, accessFlags := 18, slot := 0, constantValue := 0 }, { name := "value", type := (.array .byte), accessFlags := 18, slot := 1, constantValue := 0 }, { name := "STRING", type := .int, accessFlags := 25, slot := 0, constantValue := 0 }, { name := "INTEGER", type := .int, accessFlags := 25, slot := 1, constantValue := 0 }, { name := "FLOAT", type := .int, accessFlags := 25, slot := 2, constantValue := 0 }, { name := "BINARY", type := .int, accessFlags := 25, slot := 3, constantValue := 0 }, { name := "JSON", type := .int, accessFlags := 25, slot := 4, constantValue := 0 }, { name := "NAME", type := .int, accessFlags := 25, slot := 5, constantValue := 0 }, { name := "HMAC", type := .int, accessFlags := 25, slot := 6, constantValue := 0 }, { name := "ENCRYPTION_METADATA", type := .int, accessFlags := 25, slot := 7, constantValue := 0 }, { name := "SIGNATURE", type := .int, accessFlags := 25, slot := 8, constantValue := 0 }, { name := "PUBLIC_KEY", type := .int, accessFlags := 25, slot := 9, constantValue := 0 }, { name := "NODE_ID", type := .int, accessFlags := 25, slot := 10, constantValue := 0 }, { name := "TIMESTAMP", type := .int, accessFlags := 25, slot := 11, constantValue := 0 }, { name := "AUTH_KEY_ID", type := .int, accessFlags := 25, slot := 12, constantValue := 0 }, { name := "MAX_VALUE_LENGTH", type := .int, accessFlags := 25, slot := 13, constantValue := 0 }]
  methods := #[k3m0]
  instanceTypes := #[.int, (.array .byte)]
  staticTypes := #[.int, .int, .int, .int, .int, .int, .int, .int, .int, .int, .int, .int, .int, .int]
  resolved := Array.replicate 138 none
  statics := none }

def pool4 : Array CpInfo := pool [(1, u "java/lang/Cloneable"), (0, .class_ 1), (0, u "java/lang/Object"), (0, .class_ 3)] 3

/-- java/lang/Cloneable -/
def k4 : Class := { plain "java/lang/Cloneable" (some 0) with
  accessFlags := 1537
  interfaces := #[]
  cf := some (fileOf pool4 2 #[] #[] 1537 4 #[] #[])
  fields := #[]
  methods := #[]
  instanceTypes := #[]
  staticTypes := #[]
  resolved := Array.replicate 8 none
  statics := none }

def pool5 : Array CpInfo := pool [(1, u "java/io/Serializable"), (0, .class_ 1), (0, u "java/lang/Object"), (0, .class_ 3)] 3

/-- java/io/Serializable -/
def k5 : Class := { plain "java/io/Serializable" (some 0) with
  accessFlags := 1537
  interfaces := #[]
  cf := some (fileOf pool5 2 #[] #[] 1537 4 #[] #[])
  fields := #[]
  methods := #[]
  instanceTypes := #[]
  staticTypes := #[]
  resolved := Array.replicate 8 none
  statics := none }

/-- the primitive byte -/
def k6 : Class := { plain "byte" none with kind := .primitive 'B', accessFlags := 0x411 }
/-- [B -/
def k7 : Class := { plain "[B" (some 0) with kind := .array 6 .byte, interfaces := #[4, 5], accessFlags := 1041 }

/-- the primitive int -/
def k8 : Class := { plain "int" none with kind := .primitive 'I', accessFlags := 0x411 }
/-- [I -/
def k9 : Class := { plain "[I" (some 0) with kind := .array 8 .int, interfaces := #[4, 5], accessFlags := 1041 }

def heap : Heap := #[]
def classes : Array Class := #[k0, k1, k2, k3, k4, k5, k6, k7, k8, k9]
def interned : List (Array UInt16 × Addr) := []
def slotsUsed : Nat := 0
def theMethod : MethodId := ⟨1, 2⟩
def args0 : Array Value := #[.int 250, .int 7]
def aboutOver (below : List Frame) : State where
  vm := { classes := classes, interned := interned.toArray }
  heap := heap
  slotsUsed := slotsUsed
  threads := #[{ frames := .invoking theMethod args0 :: below }]
def below0 : List Frame := [.native { method := ⟨0, 0⟩, args := #[] }]
def about1 : State := aboutOver below0
def p0 : Program := .bare "" "" ""
def e0 : Env := launch0.env 0 0 0
theorem w_frames : about1.frames = Frame.invoking theMethod args0 :: below0 := rfl
set_option maxRecDepth 65536 in
theorem w_args : argsFit about1.vm theMethod args0 = true := by decide +kernel
set_option maxRecDepth 65536 in
theorem w_heap : heapFits about1 = true := by decide +kernel
set_option maxRecDepth 65536 in
theorem w_runnable : about1.curStatus? = some .runnable := by decide +kernel
set_option maxRecDepth 65536 in
theorem w_alone : about1.alone = true := by decide +kernel
set_option maxRecDepth 65536 in
theorem w_named : about1.methodNamed? x = some theMethod := by decide +kernel
set_option maxRecDepth 65536 in
theorem w_hears : about1.hears theMethod below0 = true := by decide +kernel
set_option maxRecDepth 65536 in
theorem w_ripe : about1.ripe theMethod args0 below0 = true := by decide +kernel
theorem w_running : about1.status = .running := rfl
set_option maxRecDepth 65536 in
theorem w_room : about1.hasRoom e0.platform room_1 = true :=
  launch0.hasRoom_least _ room_1 (by decide +kernel) (by decide +kernel) (by decide +kernel) (by decide +kernel) (by decide +kernel) (by decide +kernel)
theorem allAtoms_all (ts : List Jvm.Cond) (a : Array Jvm.Value) (st : Jvm.State) : (allAtoms ts).before a st = ts.all (fun c => c.before a st) := by
  induction ts with
  | nil => rfl
  | cons c t ih =>
    show (Jvm.Cond.and c (allAtoms t)).before a st = _
    rw [Jvm.Cond.before_and, ih, List.all_cons]
def words1 : List Jvm.Cond := Jvm.Cond.code x code maxLocals ret :: tables_1
/-- a 'code' word, met by the world's own term for the bytes: nothing is compared byte by byte -/
theorem code_word {y : MethodName} {bytes : ByteArray} {mx : Nat} {rt : Option FieldType} {a : Array Value} {s : State} {m : MethodId} {meth : Method} {c : Code} (h1 : s.methodNamed? y = some m) (h2 : s.vm.method? m = some meth) (h3 : meth.code = some c) (h4 : c.code = bytes)
    (h5 : (c.maxLocals == mx && c.exceptionTable.isEmpty && decide (c.maxStack ≤ mostOperands) && decide (meth.sig.returnType = rt) && !meth.locks && decide (parseMethodDescriptor y.desc = some meth.sig)) = true) : (Jvm.Cond.code y bytes mx rt).before a s = true := by
  simp only [Bool.and_eq_true, beq_iff_eq, Bool.not_eq_true', decide_eq_true_eq] at h5
  obtain ⟨⟨⟨⟨⟨g1, g2⟩, g3⟩, g4⟩, g5⟩, g6⟩ := h5
  simp [Cond.before, Cond.holds, Cond.value, h1, h2, h3, h4, g1, g2, g3, g4, g5, g6]
def isCode : Jvm.Cond → Bool
  | .code _ _ _ _ => true
  | _ => false
theorem all_split {L : List Jvm.Cond} {P : Jvm.Cond → Bool} (h1 : L.all (fun c => isCode c || P c) = true) (h2 : ∀ c ∈ L.filter isCode, P c = true) : L.all P = true := by
  refine List.all_eq_true.mpr fun c hc => ?_
  have h := List.all_eq_true.mp h1 c hc
  rcases Bool.eq_false_or_eq_true (isCode c) with hi | hi
  · exact h2 c (List.mem_filter.mpr ⟨hc, hi⟩)
  · simpa [hi] using h
set_option maxRecDepth 65536 in
theorem w_c0 : (Jvm.Cond.code x code maxLocals ret).before args0 about1 = true := code_word (m := ⟨1, 2⟩) (meth := k1m2) (c := k1c2) (by decide +kernel) rfl rfl rfl (by decide +kernel)
set_option maxRecDepth 65536 in
theorem w_c1 : (Jvm.Cond.code ({ cls := "com/example/bellbird/bellbird/Field", name := "appearsOnce", desc := "(I)Z" } : Jvm.MethodName) prog_2_method_3_code (1 : Nat) (Option.some Jvm.ClassFile.FieldType.boolean)).before args0 about1 = true := code_word (m := ⟨3, 0⟩) (meth := k3m0) (c := k3c0) (by decide +kernel) rfl rfl rfl (by decide +kernel)
set_option maxRecDepth 65536 in
theorem w_c2 : (Jvm.Cond.code ({ cls := "com/example/bellbird/bellbird/FieldAppearsOncePinLaw", name := "once", desc := "(I)Z" } : Jvm.MethodName) method_2_code (1 : Nat) (Option.some Jvm.ClassFile.FieldType.boolean)).before args0 about1 = true := code_word (m := ⟨1, 1⟩) (meth := k1m1) (c := k1c1) (by decide +kernel) rfl rfl rfl (by decide +kernel)
def codes1 : List Jvm.Cond := [Jvm.Cond.code x code maxLocals ret, Jvm.Cond.code ({ cls := "com/example/bellbird/bellbird/Field", name := "appearsOnce", desc := "(I)Z" } : Jvm.MethodName) prog_2_method_3_code (1 : Nat) (Option.some Jvm.ClassFile.FieldType.boolean), Jvm.Cond.code ({ cls := "com/example/bellbird/bellbird/FieldAppearsOncePinLaw", name := "once", desc := "(I)Z" } : Jvm.MethodName) method_2_code (1 : Nat) (Option.some Jvm.ClassFile.FieldType.boolean)]
set_option maxRecDepth 65536 in
theorem codes_eq : words1.filter isCode = codes1 := rfl
theorem w_codes : ∀ c ∈ words1.filter isCode, c.before args0 about1 = true := by
  rw [codes_eq]
  intro c hc
  simp only [codes1, List.mem_cons, List.not_mem_nil, or_false] at hc
  rcases hc with rfl | rfl | rfl
  · exact w_c0
  · exact w_c1
  · exact w_c2
set_option maxRecDepth 65536 in
theorem w_t1 : words1.all (fun c => isCode c || c.before args0 about1) = true := by decide +kernel
theorem w_tables : (allAtoms (Jvm.Cond.code x code maxLocals ret :: tables_1)).before args0 about1 = true := by
  rw [allAtoms_all]
  show words1.all (fun c => c.before args0 about1) = true
  refine all_split ?_ w_codes
  rw [w_t1]
set_option maxRecDepth 65536 in
theorem w_case : (Jvm.Cond.and given_1 narrow_1).before args0 about1 = true := by decide +kernel
theorem w_applies : (headSpec (Jvm.Cond.code x code maxLocals ret :: tables_1) room_1).applies x e0.platform about1 = true :=
  (Spec.applies_iff w_frames).mpr ⟨w_running, w_runnable, w_alone, w_named, w_hears, w_ripe, w_room, w_tables⟩
theorem atStart : AtStart classFile x code maxLocals ret World_1 tables_1 room_1 Calls_1 rest_1 Pre_1 launch0 p0 e0 about1 theMethod args0 below0 :=
  ⟨lists_1, trivial, launch0.admits_env _ _ _, launch0.least_env, fairChoices_fair.cas, fairChoices_fair.clock, w_frames, w_args, w_heap, w_applies, trivial, trivial, w_case⟩
end start1
theorem witness_1 : WitnessClaimed_1 := ⟨start1.p0, start1.e0, start1.about1, start1.theMethod, start1.args0, start1.below0, start1.atStart⟩
end Jvm.Pilot.@@N@@
