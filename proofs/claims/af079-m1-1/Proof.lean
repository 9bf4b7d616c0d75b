import JvmDerived
import JvmDerived.Pilot.@@N@@Statement
import JvmDerived.Pilot.@@N@@Code
set_option linter.unusedVariables false
set_option linter.unusedSimpArgs false
@@BLOCK:NumsL.lean.txt@@
namespace Jvm.Pilot.@@N@@
open Jvm Jvm.ClassFile Sem Op Lib Jvm.Free Jvm.Stand Jvm.LawKit Jvm.RoadKit Bundle Jvm.Pilot.@@N@@.Jvm.D

/-! OWN KIT: the walk in continuation form; arrays by their cell as functions of the place -/
section OwnKit
variable {p : Program} {l : Launch} {e : Env} {R : Room} {s : State} {m : MethodId} {args : Array Value} {below : List Frame} {meth : Method} {c : Code} {T : State} {locs : List Loc} {cells slots : Nat} {Z : State} {a0 : Array Value} {h h' h0 : Heap} {a b : Addr} {v : Value} {sl : Nat} {ty : FieldType} {n k : Nat} {f f' : Nat → Value} {n0 : Nat} {ws : List Addr}
/-- from this state with this top frame the run ends as F says -/
def Go (tb : Tables) (e : Env) (below : List Frame) (F : Outcome → State → Prop) (T : State) (g : JFrame) : Prop :=
  ∃ s₂ o, Steps tb e below (T.setTop g) s₂ ∧ s₂.status = .running ∧ Ended s₂ below o ∧ F o s₂
theorem Go.st {tb : Tables} {F : Outcome → State → Prop} {T T' : State} {g g' : JFrame} (st : ∀ t, Steps tb e below (T'.setTop g') t → Steps tb e below (T.setTop g) t) (k : Go tb e below F T' g') : Go tb e below F T g := by
  obtain ⟨s₂, o, h1, h2⟩ := k
  exact ⟨s₂, o, st _ h1, h2⟩
theorem Go.frame {tb : Tables} {F : Outcome → State → Prop} {T : State} {g g' : JFrame} (q : g = g') (k : Go tb e below F T g') : Go tb e below F T g := q ▸ k
theorem own_join {α : Type} {tb : Tables} {F : Outcome → State → Prop} {T T2 : State} {g : α → JFrame} {g2 : JFrame} (J : ∀ z, Go tb e below F T (g z)) (k : (∀ z, Go tb e below F T (g z)) → Go tb e below F T2 g2) : Go tb e below F T2 g2 := k J
/-- what a body's end must say -/
def Fi (s : State) (Q : Option Value → Heap → List Loc → Prop) (k n : Nat) (o : Outcome) (U : State) : Prop :=
  ∃ v L, o = .returned v ∧ Q v U.heap L ∧ FrameEnd s o U L k n
/-- a body's contract: called with these values at this heap it returns and Q holds -/
def Does (l : Launch) (Z : State) (y : MethodName) (bytes : ByteArray) (mx : Nat) (ret : Option FieldType) (rm : Room) (as' : Array Value) (h : Heap) (Q : Option Value → Heap → List Loc → Prop) : Prop :=
  ∀ ws, MetFree l y (head1 (Jvm.Cond.code y bytes mx ret :: ws) rm) (fun a U => a = as' ∧ Z.Warmed39 U.vm ∧ U.heap = h) (fun _ _ _ _ _ => True) (fun _ U o U' => Fi U Q rm.cells rm.slots o U')
theorem Does.body {y : MethodName} {bytes : ByteArray} {mx : Nat} {ret : Option FieldType} {rm : Room} {as' : Array Value} {h : Heap} {Q : Option Value → Heap → List Loc → Prop} (hy : plainFor y = true)
    (B : ∀ (p : Program) (e : Env) (s : State) (m : MethodId) (below : List Frame) (meth : Method) (c : Code) (T : State), Stand p l e rm s m as' below meth c T [] 0 0 → p.tables.exec = Jvm.exec → Z.Warmed39 s.vm → c.code = bytes → c.maxLocals = mx → s.vm.findClass y.cls = some m.cls → meth.name = y.name → meth.sig.returnType = ret → meth.locks = false → T.heap = h → Go p.tables e below (Fi s Q rm.cells rm.slots) T (entryFrame m as' mx)) : Does l Z y bytes mx ret rm as' h Q := fun ws => by
  refine MetFree.of_bodySF hy hisR ?_
  intro p e s m args below meth c s₁ Bd hml0 hP hK
  obtain ⟨ha, hZ, hh⟩ := hP
  subst ha
  exact B p e s m below meth c s₁ (Stand.of_body Bd) Bd.exec hZ Bd.bytes hml0 (findClass_of_methodNamed Bd.named) (name_of_methodNamed Bd.named Bd.method).1 Bd.returns Bd.notSynchronized (by rw [← hh, Bd.state]; rfl)
/-! the returns -/
theorem goI (X : Stand p l e R s m args below meth c T locs cells slots) (hx : p.tables.exec = Jvm.exec) (hret : meth.sig.returnType = some .int) (hlk : meth.locks = false) {pc : Nat} {Ls : Array Slot} {z : Int32} {rest : List Value} (hd : decode c.code pc = .ok (.ireturn, 1)) {Q : Option Value → Heap → List Loc → Prop} {k n : Nat} (hk : cells ≤ k) (hn : slots ≤ n) (q : Q (some (.int z)) T.heap locs) :
    Go p.tables e below (Fi s Q k n) T (mkF m pc Ls (.int z :: rest)) := by
  obtain ⟨fs, hr, hrun, hended, hW, hsame⟩ := X.leave (v := some (.int z)) (fun h => by rw [hret] at h; cases h) hlk
  exact ⟨_, _, retOut X hx hret rfl (Or.inl ⟨rfl, Or.inl rfl, z, rfl⟩) hd hr, hrun, hended, _, _, rfl, q, ⟨_, rfl⟩, hW, hsame.mono hk hn⟩
theorem goN (X : Stand p l e R s m args below meth c T locs cells slots) (hx : p.tables.exec = Jvm.exec) {t : FieldType} (hret : meth.sig.returnType = some t) (hlk : meth.locks = false) (ht : t = .boolean ∨ t = .byte ∨ t = .char ∨ t = .short) {pc : Nat} {Ls : Array Slot} {z : Int32} {rest : List Value} (hd : decode c.code pc = .ok (.ireturn, 1)) {Q : Option Value → Heap → List Loc → Prop} {k n : Nat} (hk : cells ≤ k) (hn : slots ≤ n) (q : Q (some (.int (nar t z))) T.heap locs) :
    Go p.tables e below (Fi s Q k n) T (mkF m pc Ls (.int z :: rest)) := by
  obtain ⟨fs, hr, hrun, hended, hW, hsame⟩ := X.leave (v := some (.int (nar t z))) (fun h => by rw [hret] at h; cases h) hlk
  exact ⟨_, _, retN X hx hret ht hd hr, hrun, hended, _, _, rfl, q, ⟨_, rfl⟩, hW, hsame.mono hk hn⟩
theorem goJ (X : Stand p l e R s m args below meth c T locs cells slots) (hx : p.tables.exec = Jvm.exec) (hret : meth.sig.returnType = some .long) (hlk : meth.locks = false) {pc : Nat} {Ls : Array Slot} {z : Int64} {rest : List Value} (hd : decode c.code pc = .ok (.lreturn, 1)) {Q : Option Value → Heap → List Loc → Prop} {k n : Nat} (hk : cells ≤ k) (hn : slots ≤ n) (q : Q (some (.long z)) T.heap locs) :
    Go p.tables e below (Fi s Q k n) T (mkF m pc Ls (.long z :: rest)) := by
  obtain ⟨fs, hr, hrun, hended, hW, hsame⟩ := X.leave (v := some (.long z)) (fun h => by rw [hret] at h; cases h) hlk
  exact ⟨_, _, retOut X hx hret rfl (Or.inr (Or.inl ⟨rfl, rfl, z, rfl⟩)) hd hr, hrun, hended, _, _, rfl, q, ⟨_, rfl⟩, hW, hsame.mono hk hn⟩
theorem goA (X : Stand p l e R s m args below meth c T locs cells slots) (hx : p.tables.exec = Jvm.exec) {t : FieldType} (hret : meth.sig.returnType = some t) (hlk : meth.locks = false) (ht : t.isReference = true) (hnr : ∀ z : Addr, narrow t (.ref z) = .ref z) {pc : Nat} {Ls : Array Slot} {z : Addr} {rest : List Value} (hd : decode c.code pc = .ok (.areturn, 1)) {Q : Option Value → Heap → List Loc → Prop} {k n : Nat} (hk : cells ≤ k) (hn : slots ≤ n) (q : Q (some (.ref z)) T.heap locs) :
    Go p.tables e below (Fi s Q k n) T (mkF m pc Ls (.ref z :: rest)) := by
  obtain ⟨fs, hr, hrun, hended, hW, hsame⟩ := X.leave (v := some (.ref z)) (fun h => by rw [hret] at h; cases h) hlk
  exact ⟨_, _, retOut X hx hret (hnr z) (Or.inr (Or.inr (Or.inr (Or.inr ⟨rfl, ht, rfl⟩)))) hd hr, hrun, hended, _, _, rfl, q, ⟨_, rfl⟩, hW, hsame.mono hk hn⟩
theorem goV (X : Stand p l e R s m args below meth c T locs cells slots) (hx : p.tables.exec = Jvm.exec) (hret : meth.sig.returnType = none) (hlk : meth.locks = false) {pc : Nat} {Ls : Array Slot} (hd : decode c.code pc = .ok (.return_, 1)) {Q : Option Value → Heap → List Loc → Prop} {k n : Nat} (hk : cells ≤ k) (hn : slots ≤ n) (q : Q none T.heap locs) :
    Go p.tables e below (Fi s Q k n) T (mkF m pc Ls []) := by
  obtain ⟨fs, hr, hrun, hended, hW, hsame⟩ := X.leave (v := none) (fun _ => rfl) hlk
  exact ⟨_, _, X.returnOut hx hret hd hr, hrun, hended, _, _, rfl, q, ⟨_, rfl⟩, hW, hsame.mono hk hn⟩
/-! the calls -/
theorem own_one {k : Nat} {L : List Loc} (N : Fr k L) (q : k ≤ a) : Fr k (L ++ [⟨a, sl⟩]) := N.app fun y hy => by cases List.mem_singleton.mp hy; exact q
theorem goS (X : Stand p l e R s m args below meth c T locs cells slots) (hx : p.tables.exec = Jvm.exec) (hZ : Z.Warmed39 s.vm) {own : String} {index : Nat} {y : MethodName} {bytes : ByteArray} {mx : Nat} {ret : Option FieldType} (hown : s.vm.findClass own = some m.cls)
    (w1 : (Jvm.Cond.methodLink own index y).before a0 Z = true) (w2 : (Jvm.Cond.static y).before a0 Z = true) (w3 : (Jvm.Cond.initialized y.cls).before a0 Z = true) (w4 : (Jvm.Cond.code y bytes mx ret).before a0 Z = true) (hy : y.cls ≠ "java/lang/invoke/MethodHandle" ∧ y.cls ≠ "java/lang/invoke/VarHandle")
    {rm : Room} {as' : Array Value} {Q : Option Value → Heap → List Loc → Prop} (D : Does l Z y bytes mx ret rm as' h Q) (eT : T.heap = h) (N : Fr n0 locs) (W : Nat) (hf : rm.frames + 1 ≤ R.frames) (hl : W + (mx + 11) + rm.locals ≤ R.locals) (hc : cells + rm.cells ≤ R.cells) (hs : slots + rm.slots ≤ R.slots)
    {g : JFrame} (hg : g.method = m) (hsize : g.locals.size = c.maxLocals) (argsL rest : List Value) (hlen : ∀ sig, parseMethodDescriptor y.desc = some sig → argsL.length = sig.parameters.length) (has : argsL.toArray = as')
    (hstack : g.stack = argsL.reverse ++ rest) (hW : 2 * g.monitorRoom + (rest.map fun v => v.category).sum ≤ W) (hd : decode c.code g.pc = .ok (.invokestatic index, 3)) {F : Outcome → State → Prop}
    (kk : ∀ (T' : State) (v : Option Value) (L L' : List Loc), Stand p l e R s m args below meth c T' L' (cells + rm.cells) (slots + rm.slots) → (Fr n0 L → Fr n0 L') → Q v T'.heap L → Go p.tables e below F T' { g with pc := g.pc + 3, stack := v.toList ++ rest }) : Go p.tables e below F T g := by
  obtain ⟨v, _, ⟨T', L', k', n'⟩, -, X', ⟨L, hq, e1, e2, e3⟩, st⟩ := Jvm.LawKit.callS X hx hown (mvT hZ w1) (mvT hZ w2) (mvT hZ w3) (mvT hZ w4) hy (backOf (W := W) (Q := Q) (D []) hZ w4 w3 hf hl) hg hsize hlen hstack hW hd (fun _ _ => ⟨has, eT, hc, hs⟩)
  dsimp only [Pt.U, Pt.locs, Pt.cells, Pt.slots] at X' e1 e2 e3 st hq
  subst e1 e2 e3
  exact Go.st st (kk T' v L _ X' (fun q => N.app q) hq)
theorem goM (X : Stand p l e R s m args below meth c T locs cells slots) (hx : p.tables.exec = Jvm.exec) (hZ : Z.Warmed39 s.vm) {own C : String} {index : Nat} {y z : MethodName} {bytes : ByteArray} {mx : Nat} {ret : Option FieldType} (hown : s.vm.findClass own = some m.cls)
    (w1 : (Jvm.Cond.methodLink own index y).before a0 Z = true) (w2 : (Jvm.Cond.declares y).before a0 Z = true) (w3 : (Jvm.Cond.selects C y z).before a0 Z = true) (w4 : (Jvm.Cond.instanceMethod z).before a0 Z = true) (w5 : (Jvm.Cond.code z bytes mx ret).before a0 Z = true) (w6 : (Jvm.Cond.initialized z.cls).before a0 Z = true) (hnf : NotFace s y) (hy : y.cls ≠ "java/lang/invoke/MethodHandle" ∧ y.cls ≠ "java/lang/invoke/VarHandle")
    {rm : Room} {as' : Array Value} {Q : Option Value → Heap → List Loc → Prop} (D : Does l Z z bytes mx ret rm as' h Q) (eT : T.heap = h) (N : Fr n0 locs) (E : Exa Z h b C) (W : Nat) (hf : rm.frames + 1 ≤ R.frames) (hl : W + (mx + 11) + rm.locals ≤ R.locals) (hc : cells + rm.cells ≤ R.cells) (hs : slots + rm.slots ≤ R.slots)
    {g : JFrame} (hg : g.method = m) (hsize : g.locals.size = c.maxLocals) (argsL rest : List Value) (hlen : ∀ sig, parseMethodDescriptor y.desc = some sig → argsL.length = sig.parameters.length) (has : (.ref b :: argsL).toArray = as')
    (hstack : g.stack = argsL.reverse ++ .ref b :: rest) (hW : 2 * g.monitorRoom + (rest.map fun v => v.category).sum ≤ W) (hd : decode c.code g.pc = .ok (.invokevirtual index, 3)) {F : Outcome → State → Prop}
    (kk : ∀ (T' : State) (v : Option Value) (L L' : List Loc), Stand p l e R s m args below meth c T' L' (cells + rm.cells) (slots + rm.slots) → (Fr n0 L → Fr n0 L') → Q v T'.heap L → Go p.tables e below F T' { g with pc := g.pc + 3, stack := v.toList ++ rest }) : Go p.tables e below F T g := by
  obtain ⟨cq, kq, qa, qb, qc⟩ := isOf hZ eT E
  obtain ⟨v, _, ⟨T', L', k', n'⟩, -, X', ⟨L, hq, e1, e2, e3⟩, st⟩ := X.virtualBack hx hown (mvT hZ w1) (mvT hZ w2) hnf (mvT hZ w3) (mvT hZ w4) hy (backOf (W := W) (Q := Q) (D []) hZ w5 w6 hf hl) qa qc hg hsize (Steps.refl _) hlen hstack hW hd (fun _ _ => ⟨has, eT, hc, hs⟩)
  dsimp only [Pt.U, Pt.locs, Pt.cells, Pt.slots] at X' e1 e2 e3 st hq
  subst e1 e2 e3
  exact Go.st (fun t k => st.trans k) (kk T' v L _ X' (fun q => N.app q) hq)
theorem goC (X : Stand p l e R s m args below meth c T locs cells slots) (hx : p.tables.exec = Jvm.exec) (hZ : Z.Warmed39 s.vm) {own : String} {index : Nat} {y : MethodName} {bytes : ByteArray} {mx : Nat} (hy1 : y.name = "<init>") (hown : s.vm.findClass own = some m.cls)
    (w1 : (Jvm.Cond.methodLink own index y).before a0 Z = true) (w2 : (Jvm.Cond.instanceMethod y).before a0 Z = true) (w3 : (Jvm.Cond.initialized y.cls).before a0 Z = true) (w4 : (Jvm.Cond.code y bytes mx none).before a0 Z = true) (hy : y.cls ≠ "java/lang/invoke/MethodHandle" ∧ y.cls ≠ "java/lang/invoke/VarHandle")
    {rm : Room} {as' : Array Value} {Q : Option Value → Heap → List Loc → Prop} (D : Does l Z y bytes mx none rm as' h Q) (eT : T.heap = h) (N : Fr n0 locs) (W : Nat) (hf : rm.frames + 1 ≤ R.frames) (hl : W + (mx + 11) + rm.locals ≤ R.locals) (hc : cells + rm.cells ≤ R.cells) (hs : slots + rm.slots ≤ R.slots)
    {g : JFrame} (hg : g.method = m) (hsize : g.locals.size = c.maxLocals) (argsL rest : List Value) (hlen : ∀ sig, parseMethodDescriptor y.desc = some sig → argsL.length = sig.parameters.length) (has : (.ref b :: argsL).toArray = as')
    (hstack : g.stack = argsL.reverse ++ .ref b :: rest) (hW : 2 * g.monitorRoom + (rest.map fun v => v.category).sum ≤ W) (hd : decode c.code g.pc = .ok (.invokespecial index, 3)) {F : Outcome → State → Prop}
    (kk : ∀ (T' : State) (v : Option Value) (L L' : List Loc), Stand p l e R s m args below meth c T' L' (cells + rm.cells) (slots + rm.slots) → (Fr n0 L → Fr n0 L') → Q v T'.heap L → Go p.tables e below F T' { g with pc := g.pc + 3, stack := v.toList ++ rest }) : Go p.tables e below F T g := by
  obtain ⟨v, _, ⟨T', L', k', n'⟩, -, X', ⟨L, hq, e1, e2, e3⟩, st⟩ := X.specialBack hx hy1 hown (mvT hZ w1) (mvT hZ w2) (mvT hZ w4) hy (backOf (W := W) (Q := Q) (D []) hZ w4 w3 hf hl) hg hsize (Steps.refl _) hlen hstack hW hd (fun _ _ => ⟨has, eT, hc, hs⟩)
  dsimp only [Pt.U, Pt.locs, Pt.cells, Pt.slots] at X' e1 e2 e3 st hq
  subst e1 e2 e3
  exact Go.st (fun t k => st.trans k) (kk T' v L _ X' (fun q => N.app q) hq)
/-! arrays -/
/-- the array at a has n places, place i holds f i -/
def BA (Z : State) (h : Heap) (a : Addr) (ty : FieldType) (n : Nat) (f : Nat → Value) : Prop := ∃ c : Cell, Arr Z h a c ty ∧ c.slots.size = n ∧ ∀ i, i < n → c.slots[i]? = some (f i)
theorem BA.lt (V : BA Z h a ty n f) : a < h.size := by obtain ⟨c, A, -⟩ := V; exact A.lt
theorem BA.ext (V : BA Z h a ty n f) (E : Ext h h') : BA Z h' a ty n f := by obtain ⟨c, A, r⟩ := V; exact ⟨c, A.ext E, r⟩
theorem BA.other (V : BA Z h b ty n f) (W : Wr h h' a sl v) (q : b ≠ a) : BA Z h' b ty n f := by obtain ⟨c, A, r⟩ := V; exact ⟨c, A.other W q, r⟩
theorem BA.keep (V : BA Z h a ty n f) (K : Keep h h' ws) (q : a ∉ ws) : BA Z h' a ty n f := by obtain ⟨c, A, r⟩ := V; exact ⟨c, ⟨K.2.1 a c A.1 q, A.2⟩, r⟩
theorem BA.set (V : BA Z h a ty n f) (W : Wr h h' a k v) : BA Z h' a ty n (fun i => if i = k then v else f i) := by
  obtain ⟨c, A, S, H⟩ := V
  refine ⟨_, A.same W, by rw [sz_set]; exact S, fun i hi => ?_⟩
  show _ = some (if i = k then v else f i)
  by_cases q : i = k
  · subst q; rw [if_pos rfl]; simp [Cell.setSlot, S, hi]
  · rw [if_neg q]; simp only [Cell.setSlot]; rw [Array.getElem?_setIfInBounds_ne (fun z => q z.symm)]; exact H i hi
theorem BA.to (V : BA Z h a ty n f) (q : ∀ i, i < n → f i = f' i) : BA Z h a ty n f' := by
  obtain ⟨c, A, S, H⟩ := V
  exact ⟨c, A, S, fun i hi => by rw [H i hi, q i hi]⟩
theorem BA.new {kc : ClassId} {z : Int32} (A : Arr Z h a (newA kc ty z) ty) (hz : z.toNatClampNeg = n) : BA Z h a ty n (fun _ => defaultValue ty) := ⟨_, A, by rw [sz_new]; exact hz, fun i hi => by
  have : i < z.toNatClampNeg := by rw [hz]; exact hi
  simp [newA, this]⟩
/-- the int j is the place k of n -/
def Ix (j : Int32) (k n : Nat) : Prop := ¬ j < 0 ∧ j.toNatClampNeg = k ∧ k < n
theorem Ix.hin {j : Int32} {c : Cell} (I : Ix j k n) (S : c.slots.size = n) : ¬ (j < 0 ∨ c.slots.size ≤ j.toNatClampNeg) := by
  obtain ⟨h1, h2, h3⟩ := I
  rw [S, h2]; intro q; rcases q with q | q
  · exact h1 q
  · omega
theorem goStB (X : Stand p l e R s m args below meth c T locs cells slots) (hx : p.tables.exec = Jvm.exec) (hZ : Z.Warmed39 s.vm) (eT : T.heap = h) (N : Fr n0 locs) (V : BA Z h a .byte n f) (ga : n0 ≤ a) {j x : Int32} {g : JFrame} (hg : g.method = m) {rest : List Value} (hs : g.stack = .int x :: .int j :: .ref a :: rest) (hd : decode c.code g.pc = .ok (.bastore, 1)) (I : Ix j k n) {F : Outcome → State → Prop}
    (kk : ∀ (T' : State) (h' : Heap) (L : List Loc), Stand p l e R s m args below meth c T' L cells slots → T'.heap = h' → Fr n0 L → Wr h h' a k (.int x.toInt8.toInt32) → BA Z h' a .byte n (fun i => if i = k then .int x.toInt8.toInt32 else f i) → Go p.tables e below F T' { g with pc := g.pc + 1, stack := rest }) : Go p.tables e below F T g := by
  have V0 := V
  obtain ⟨cl, A, S, H⟩ := V
  obtain ⟨T', h', X', e', W, st⟩ := stB X hx hZ eT A (I.hin S) hg hs hd
  obtain ⟨h1, h2, h3⟩ := I
  subst h2
  exact Go.st st (kk T' h' _ X' e' (own_one N ga) W (V0.set W))
theorem goStI (X : Stand p l e R s m args below meth c T locs cells slots) (hx : p.tables.exec = Jvm.exec) (hZ : Z.Warmed39 s.vm) (eT : T.heap = h) (N : Fr n0 locs) (V : BA Z h a .int n f) (ga : n0 ≤ a) {j x : Int32} {g : JFrame} (hg : g.method = m) {rest : List Value} (hs : g.stack = .int x :: .int j :: .ref a :: rest) (hd : decode c.code g.pc = .ok (.iastore, 1)) (I : Ix j k n) {F : Outcome → State → Prop}
    (kk : ∀ (T' : State) (h' : Heap) (L : List Loc), Stand p l e R s m args below meth c T' L cells slots → T'.heap = h' → Fr n0 L → Wr h h' a k (.int x) → BA Z h' a .int n (fun i => if i = k then .int x else f i) → Go p.tables e below F T' { g with pc := g.pc + 1, stack := rest }) : Go p.tables e below F T g := by
  have V0 := V
  obtain ⟨cl, A, S, H⟩ := V
  obtain ⟨T', h', X', e', W, st⟩ := stI X hx hZ eT A (I.hin S) hg hs hd
  obtain ⟨h1, h2, h3⟩ := I
  subst h2
  exact Go.st st (kk T' h' _ X' e' (own_one N ga) W (V0.set W))
theorem goStJ (X : Stand p l e R s m args below meth c T locs cells slots) (hx : p.tables.exec = Jvm.exec) (hZ : Z.Warmed39 s.vm) (eT : T.heap = h) (N : Fr n0 locs) (V : BA Z h a .long n f) (ga : n0 ≤ a) {j : Int32} {x : Int64} {g : JFrame} (hg : g.method = m) {rest : List Value} (hs : g.stack = .long x :: .int j :: .ref a :: rest) (hd : decode c.code g.pc = .ok (.lastore, 1)) (I : Ix j k n) {F : Outcome → State → Prop}
    (kk : ∀ (T' : State) (h' : Heap) (L : List Loc), Stand p l e R s m args below meth c T' L cells slots → T'.heap = h' → Fr n0 L → Wr h h' a k (.long x) → BA Z h' a .long n (fun i => if i = k then .long x else f i) → Go p.tables e below F T' { g with pc := g.pc + 1, stack := rest }) : Go p.tables e below F T g := by
  have V0 := V
  obtain ⟨cl, A, S, H⟩ := V
  obtain ⟨T', h', X', e', W, st⟩ := stJ X hx hZ eT A (I.hin S) hg hs hd
  obtain ⟨h1, h2, h3⟩ := I
  subst h2
  exact Go.st st (kk T' h' _ X' e' (own_one N ga) W (V0.set W))
theorem goLdB (X : Stand p l e R s m args below meth c T locs cells slots) (hx : p.tables.exec = Jvm.exec) (hZ : Z.Warmed39 s.vm) (eT : T.heap = h) (V : BA Z h a .byte n f) {j : Int32} {v : Value} {g : JFrame} (hg : g.method = m) {rest : List Value} (hs : g.stack = .int j :: .ref a :: rest) (hd : decode c.code g.pc = .ok (.baload, 1)) (I : Ix j k n) (hv : f k = v) {F : Outcome → State → Prop}
    (kk : Go p.tables e below F T { g with pc := g.pc + 1, stack := v :: rest }) : Go p.tables e below F T g := by
  obtain ⟨cl, A, S, H⟩ := V
  exact Go.st (fun t q => X.baloadBytes hx (by rw [eT]; exact A.1) (State.isArrayOf_alike hZ.alike A.2.1) A.2.2 (I.hin S) (by rw [I.2.1, H k I.2.2, hv]) hg hs hd t q) kk
theorem goLdI (X : Stand p l e R s m args below meth c T locs cells slots) (hx : p.tables.exec = Jvm.exec) (hZ : Z.Warmed39 s.vm) (eT : T.heap = h) (V : BA Z h a .int n f) {j : Int32} {v : Value} {g : JFrame} (hg : g.method = m) {rest : List Value} (hs : g.stack = .int j :: .ref a :: rest) (hd : decode c.code g.pc = .ok (.iaload, 1)) (I : Ix j k n) (hv : f k = v) {F : Outcome → State → Prop}
    (kk : Go p.tables e below F T { g with pc := g.pc + 1, stack := v :: rest }) : Go p.tables e below F T g := by
  obtain ⟨cl, A, S, H⟩ := V
  exact Go.st (fun t q => X.iaload hx (by rw [eT]; exact A.1) (State.isArrayOf_alike hZ.alike A.2.1) A.2.2 (I.hin S) (by rw [I.2.1, H k I.2.2, hv]) hg hs hd t q) kk
theorem goLdJ (X : Stand p l e R s m args below meth c T locs cells slots) (hx : p.tables.exec = Jvm.exec) (hZ : Z.Warmed39 s.vm) (eT : T.heap = h) (V : BA Z h a .long n f) {j : Int32} {v : Value} {g : JFrame} (hg : g.method = m) {rest : List Value} (hs : g.stack = .int j :: .ref a :: rest) (hd : decode c.code g.pc = .ok (.laload, 1)) (I : Ix j k n) (hv : f k = v) {F : Outcome → State → Prop}
    (kk : Go p.tables e below F T { g with pc := g.pc + 1, stack := v :: rest }) : Go p.tables e below F T g := by
  obtain ⟨cl, A, S, H⟩ := V
  exact Go.st (fun t q => X.laload hx (by rw [eT]; exact A.1) (State.isArrayOf_alike hZ.alike A.2.1) A.2.2 (I.hin S) (by rw [I.2.1, H k I.2.2, hv]) hg hs hd t q) kk
theorem goLen (X : Stand p l e R s m args below meth c T locs cells slots) (hx : p.tables.exec = Jvm.exec) (hZ : Z.Warmed39 s.vm) (eT : T.heap = h) (V : BA Z h a ty n f) {z : Int32} (hz : n.toInt32 = z) {g : JFrame} (hg : g.method = m) {rest : List Value} (hs : g.stack = .ref a :: rest) (hd : decode c.code g.pc = .ok (.arraylength, 1)) {F : Outcome → State → Prop}
    (kk : Go p.tables e below F T { g with pc := g.pc + 1, stack := .int z :: rest }) : Go p.tables e below F T g := by
  obtain ⟨cl, A, S, H⟩ := V
  exact Go.st (fun t q => X.arraylength hx (by rw [eT]; exact A.1) (State.isArrayOf_alike hZ.alike A.2.1) hg hs hd t (by rw [S, hz]; exact q)) kk
theorem goNew (X : Stand p l e R s m args below meth c T locs cells slots) (hx : p.tables.exec = Jvm.exec) (hZ : Z.Warmed39 s.vm) {aty : ArrayType} (w : (Jvm.Cond.arrayClass (newarray.typeOf aty)).before a0 Z = true) (eT : T.heap = h) (Zs : n0 ≤ h.size) {z : Int32} (hz : ¬ z < 0) (hn : z.toNatClampNeg = n) (cap : Nat) (hcap : n ≤ cap) (hb : cap * 8 ≤ 536870912) (hc : cells + 1 ≤ R.cells) (hl : slots + cap ≤ R.slots)
    {g : JFrame} (hg : g.method = m) {rest : List Value} (hs : g.stack = .int z :: rest) (hd : decode c.code g.pc = .ok (.newarray aty, 2)) {F : Outcome → State → Prop}
    (kk : ∀ (T' : State) (h' : Heap) (b : Addr), Stand p l e R s m args below meth c T' locs (cells + 1) (slots + cap) → T'.heap = h' → Ext h h' → b = h.size → n0 ≤ b → n0 ≤ h'.size → BA Z h' b (newarray.typeOf aty) n (fun _ => defaultValue (newarray.typeOf aty)) → Go p.tables e below F T' { g with pc := g.pc + 2, stack := .ref b :: rest }) : Go p.tables e below F T g := by
  obtain ⟨T', h', cA, X', e', E, A, st⟩ := newP X hx hZ w eT hg hd hs hz (cap := cap) (by rw [hn]; exact hcap) hb hc hl
  exact Go.st st (kk T' h' _ X' e' E rfl Zs (Nat.le_trans Zs E.1) (BA.new A hn))
theorem own_sz (W : Wr h h' a sl v) (q : n0 ≤ h.size) : n0 ≤ h'.size := by rw [W.size]; exact q
end OwnKit

/-! PLAIN LAW: the odometer -/
theorem own_lt1 {i : Nat} (h : i < 1) : i = 0 := by omega
theorem own_lt2 {i : Nat} (h : i < 2) : i = 0 ∨ i = 1 := by omega
theorem own_lt3 {i : Nat} (h : i < 3) : i = 0 ∨ i = 1 ∨ i = 2 := by omega
theorem own_le3 {n : Nat} (h : n = 0 ∨ n = 1 ∨ n = 2 ∨ n = 3) : n ≤ 3 := by omega
def own_s3 (a b c : Int64) (i : Nat) : Int64 := if i = 0 then a else if i = 1 then b else c
def own_lo (x : Int64) : Int32 := if (x.toInt32) < (((x.toUInt64 >>> ((32 : Int32) &&& 0x3f).toInt64.toUInt64).toInt64).toInt32) then (x.toInt32) else (((x.toUInt64 >>> ((32 : Int32) &&& 0x3f).toInt64.toUInt64).toInt64).toInt32)
def own_hi (x : Int64) : Int32 := if (((x.toUInt64 >>> ((32 : Int32) &&& 0x3f).toInt64.toUInt64).toInt64).toInt32) < (x.toInt32) then (x.toInt32) else (((x.toUInt64 >>> ((32 : Int32) &&& 0x3f).toInt64.toUInt64).toInt64).toInt32)
def own_val (x y : Int64) : Int32 := if ((y &&& (3 : Int64)).toInt32) = (0 : Int32) then own_lo x else if ((y &&& (3 : Int64)).toInt32) = (1 : Int32) then own_hi x else (((own_lo x).toInt64 + (((y.toUInt64 >>> ((2 : Int32) &&& 0x3f).toInt64.toUInt64).toInt64) - (((y.toUInt64 >>> ((2 : Int32) &&& 0x3f).toInt64.toUInt64).toInt64) / ((((own_hi x).toInt64) - ((own_lo x).toInt64)) + (1 : Int64))) * ((((own_hi x).toInt64) - ((own_lo x).toInt64)) + (1 : Int64)))).toInt32)
def own_idx : Nat → (Nat → Int32) → (Nat → Int32) → (Nat → Int32) → Int64
  | 0, _, _, _ => 0
  | 1, F, L, _ => ((F 0).toInt64 - (L 0).toInt64)
  | 2, F, L, U => ((((F 0).toInt64 - (L 0).toInt64) * (((U 1).toInt64 - (L 1).toInt64) + 1)) + ((F 1).toInt64 - (L 1).toInt64))
  | _, F, L, U => ((((((F 0).toInt64 - (L 0).toInt64) * (((U 1).toInt64 - (L 1).toInt64) + 1)) + ((F 1).toInt64 - (L 1).toInt64)) * (((U 2).toInt64 - (L 2).toInt64) + 1)) + ((F 2).toInt64 - (L 2).toInt64))
def own_up (F L : Nat → Int32) (k i : Nat) : Int32 := if i < k then F i else if i = k then F k + 1 else L i
theorem own_lohi (x : Int64) : ¬ own_hi x < own_lo x := by
  unfold own_lo own_hi
  split <;> split <;> simp only [Int32.lt_iff_toInt_lt] at * <;> omega
theorem own_spani (x : Int64) : ((((own_hi x).toInt64) - ((own_lo x).toInt64)) + (1 : Int64)).toInt = (own_hi x).toInt - (own_lo x).toInt + 1 := by
  have h := own_lohi x
  rw [Int32.lt_iff_toInt_lt] at h
  have a1 := (own_hi x).toInt_lt; have a2 := (own_hi x).le_toInt; have b1 := (own_lo x).toInt_lt; have b2 := (own_lo x).le_toInt
  have e1 : (((own_hi x).toInt64) - ((own_lo x).toInt64)).toInt = (own_hi x).toInt - (own_lo x).toInt := by
    rw [Jvm.Kit.i64_sub] <;> rw [Jvm.Kit.i64_of_i32, Jvm.Kit.i64_of_i32] <;> omega
  have e2 : (1 : Int64).toInt = 1 := rfl
  rw [Jvm.Kit.i64_add] <;> rw [e1, e2] <;> omega
theorem own_span (x : Int64) : ((((own_hi x).toInt64) - ((own_lo x).toInt64)) + (1 : Int64)) ≠ 0 := by
  intro q
  have h := own_spani x
  rw [q] at h
  have h2 := own_lohi x
  rw [Int32.lt_iff_toInt_lt] at h2
  have e2 : (0 : Int64).toInt = 0 := rfl
  omega
theorem own_valr (x y : Int64) : ¬ own_val x y < own_lo x ∧ ¬ own_hi x < own_val x y := by
  have h2 := own_lohi x
  have hs := own_spani x
  unfold own_val
  split
  · exact ⟨by rw [Int32.lt_iff_toInt_lt]; omega, h2⟩
  · split
    · exact ⟨h2, by rw [Int32.lt_iff_toInt_lt]; omega⟩
    · rw [Int32.lt_iff_toInt_lt] at h2
      have hy : 0 ≤ ((y.toUInt64 >>> ((2 : Int32) &&& 0x3f).toInt64.toUInt64).toInt64).toInt := by
        show 0 ≤ (y.toBitVec >>> 2).toInt
        have hb := y.toBitVec.isLt
        rw [BitVec.toInt_eq_toNat_cond, BitVec.toNat_ushiftRight, Nat.shiftRight_eq_div_pow, if_pos (by omega)]
        exact Int.natCast_nonneg _
      generalize ((y.toUInt64 >>> ((2 : Int32) &&& 0x3f).toInt64.toUInt64).toInt64) = y' at *
      generalize ((((own_hi x).toInt64) - ((own_lo x).toInt64)) + (1 : Int64)) = sp at *
      have a1 := (own_hi x).toInt_lt; have a2 := (own_hi x).le_toInt; have b1 := (own_lo x).toInt_lt; have b2 := (own_lo x).le_toInt
      have hr : (y' - (y' / sp) * sp).toInt = y'.toInt % sp.toInt := Jvm.Kit.i64_rem_nonneg hy
      have r1 : 0 ≤ y'.toInt % sp.toInt := Int.emod_nonneg _ (by omega)
      have r2 : y'.toInt % sp.toInt < sp.toInt := Int.emod_lt_of_pos _ (by omega)
      have e3 : ((own_lo x).toInt64 + (y' - (y' / sp) * sp)).toInt = (own_lo x).toInt + y'.toInt % sp.toInt := by
        rw [Jvm.Kit.i64_add] <;> rw [Jvm.Kit.i64_of_i32, hr] <;> omega
      have e4 : (((own_lo x).toInt64 + (y' - (y' / sp) * sp)).toInt32).toInt = (own_lo x).toInt + y'.toInt % sp.toInt := by
        rw [Jvm.Kit.i32_of_i64] <;> rw [e3] <;> omega
      rw [Int32.lt_iff_toInt_lt, Int32.lt_iff_toInt_lt, e4]
      omega
theorem own_n (y : Int64) : ∃ (zn : Int32) (n : Nat), (((y.toUInt64 >>> ((62 : Int32) &&& 0x3f).toInt64.toUInt64).toInt64).toInt32) = zn ∧ (n = 0 ∨ n = 1 ∨ n = 2 ∨ n = 3) ∧ ¬ zn < 0 ∧ zn.toNatClampNeg = n ∧ n.toInt32 = zn := by
  have e : ((y.toUInt64 >>> ((62 : Int32) &&& 0x3f).toInt64.toUInt64).toInt64).toBitVec = y.toBitVec >>> 62 := rfl
  have e2 : (y.toBitVec >>> 62).toNat = y.toBitVec.toNat / 2 ^ 62 := by rw [BitVec.toNat_ushiftRight, Nat.shiftRight_eq_div_pow]
  have hb := y.toBitVec.isLt
  generalize ((y.toUInt64 >>> ((62 : Int32) &&& 0x3f).toInt64.toUInt64).toInt64) = r at *
  have h3 : r.toBitVec.toNat = 0 ∨ r.toBitVec.toNat = 1 ∨ r.toBitVec.toNat = 2 ∨ r.toBitVec.toNat = 3 := by rw [e, e2]; omega
  rcases h3 with h | h | h | h
  · have : r = 0 := Int64.toBitVec_inj.mp (BitVec.eq_of_toNat_eq h)
    subst this; exact ⟨_, 0, rfl, by decide, by decide, by decide, by decide⟩
  · have : r = 1 := Int64.toBitVec_inj.mp (BitVec.eq_of_toNat_eq h)
    subst this; exact ⟨_, 1, rfl, by decide, by decide, by decide, by decide⟩
  · have : r = 2 := Int64.toBitVec_inj.mp (BitVec.eq_of_toNat_eq h)
    subst this; exact ⟨_, 2, rfl, by decide, by decide, by decide, by decide⟩
  · have : r = 3 := Int64.toBitVec_inj.mp (BitVec.eq_of_toNat_eq h)
    subst this; exact ⟨_, 3, rfl, by decide, by decide, by decide, by decide⟩
theorem own_rng0 (n : Nat) (X : Nat → Int64) : ∀ i, i < n → ¬ (fun i => own_lo (X i)) i < (fun i => own_lo (X i)) i ∧ ¬ (fun i => own_hi (X i)) i < (fun i => own_lo (X i)) i := fun i _ =>
  ⟨by rw [Int32.lt_iff_toInt_lt]; omega, own_lohi (X i)⟩
/-- a place that isn't at its top: one more doesn't wrap -/
theorem own_inc {f l u : Int32} (h1 : ¬ f < l) (h2 : ¬ u < f) (h3 : ¬ f = u) : (f + 1).toInt = f.toInt + 1 ∧ f.toInt < u.toInt := by
  rw [Int32.lt_iff_toInt_lt] at h1 h2
  rw [← Int32.toInt_inj] at h3
  have a1 := u.toInt_lt; have a2 := f.le_toInt
  have e1 : (1 : Int32).toInt = 1 := rfl
  refine ⟨?_, by omega⟩
  rw [Jvm.Kit.i32_add] <;> rw [e1] <;> omega
theorem own_rng1 {n k : Nat} (X Y : Nat → Int64) (hk : k < n) (h3 : ¬ (fun i => own_val (X i) (Y i)) k = (fun i => own_hi (X i)) k) : ∀ i, i < n → ¬ (own_up (fun i => own_val (X i) (Y i)) (fun i => own_lo (X i)) k) i < (fun i => own_lo (X i)) i ∧ ¬ (fun i => own_hi (X i)) i < (own_up (fun i => own_val (X i) (Y i)) (fun i => own_lo (X i)) k) i := by
  intro i _
  simp only [own_up]
  split
  · exact own_valr _ _
  · split
    · rename_i q; subst q
      obtain ⟨h1, h2⟩ := own_valr (X i) (Y i)
      obtain ⟨e1, e2⟩ := own_inc h1 h2 h3
      rw [Int32.lt_iff_toInt_lt, Int32.lt_iff_toInt_lt, e1]
      rw [Int32.lt_iff_toInt_lt] at h1
      omega
    · exact own_rng0 (i + 1) X i (Nat.lt_succ_self i)
theorem own_d {f l u : Int32} (h1 : ¬ f < l) (h2 : ¬ u < f) (h3 : ¬ f = u) : (f + 1).toInt64 - l.toInt64 = (f.toInt64 - l.toInt64) + 1 := by
  obtain ⟨e1, -⟩ := own_inc h1 h2 h3
  have e2 : (f + 1).toInt64 = f.toInt64 + 1 := by
    apply Int64.toInt_inj.mp
    have a1 := f.toInt_lt; have a2 := f.le_toInt
    have o : (1 : Int64).toInt = 1 := rfl
    rw [Jvm.Kit.i64_of_i32, e1, Jvm.Kit.i64_add] <;> rw [Jvm.Kit.i64_of_i32, o] <;> omega
  rw [e2, Int64.sub_eq_add_neg, Int64.sub_eq_add_neg, Int64.add_assoc, Int64.add_comm 1, ← Int64.add_assoc]
theorem own_carry (A u l : Int64) : (A + 1) * ((u - l) + 1) + (l - l) = (A * ((u - l) + 1) + (u - l)) + 1 := by
  rw [Int64.sub_self, Int64.add_zero, Int64.add_mul, Int64.one_mul, ← Int64.add_assoc]
theorem own_stepg {n k : Nat} (F L U : Nat → Int32) (hr : ∀ i, ¬ F i < L i ∧ ¬ U i < F i) (hn : n = 0 ∨ n = 1 ∨ n = 2 ∨ n = 3) (hk : k < n) (h2 : ∀ i, k < i → i < n → F i = U i) (h3 : ¬ F k = U k) : own_idx n (own_up F L k) L U = own_idx n F L U + 1 := by
  have hd := own_d (hr k).1 (hr k).2 h3
  rcases hn with rfl | rfl | rfl | rfl
  · exact absurd hk (Nat.not_lt_zero k)
  · obtain rfl := own_lt1 hk
    exact hd
  · rcases own_lt2 hk with rfl | rfl
    · show (((F 0 + 1).toInt64 - (L 0).toInt64) * (((U 1).toInt64 - (L 1).toInt64) + 1)) + ((L 1).toInt64 - (L 1).toInt64) = ((((F 0).toInt64 - (L 0).toInt64) * (((U 1).toInt64 - (L 1).toInt64) + 1)) + ((F 1).toInt64 - (L 1).toInt64)) + 1
      rw [hd, h2 1 (by decide) (by decide)]; exact own_carry _ _ _
    · show (((F 0).toInt64 - (L 0).toInt64) * (((U 1).toInt64 - (L 1).toInt64) + 1)) + ((F 1 + 1).toInt64 - (L 1).toInt64) = ((((F 0).toInt64 - (L 0).toInt64) * (((U 1).toInt64 - (L 1).toInt64) + 1)) + ((F 1).toInt64 - (L 1).toInt64)) + 1
      rw [hd, ← Int64.add_assoc]
  · rcases own_lt3 hk with rfl | rfl | rfl
    · show (((((F 0 + 1).toInt64 - (L 0).toInt64) * (((U 1).toInt64 - (L 1).toInt64) + 1)) + ((L 1).toInt64 - (L 1).toInt64)) * (((U 2).toInt64 - (L 2).toInt64) + 1)) + ((L 2).toInt64 - (L 2).toInt64) = ((((((F 0).toInt64 - (L 0).toInt64) * (((U 1).toInt64 - (L 1).toInt64) + 1)) + ((F 1).toInt64 - (L 1).toInt64)) * (((U 2).toInt64 - (L 2).toInt64) + 1)) + ((F 2).toInt64 - (L 2).toInt64)) + 1
      rw [hd, h2 1 (by decide) (by decide), h2 2 (by decide) (by decide), own_carry]; exact own_carry _ _ _
    · show (((((F 0).toInt64 - (L 0).toInt64) * (((U 1).toInt64 - (L 1).toInt64) + 1)) + ((F 1 + 1).toInt64 - (L 1).toInt64)) * (((U 2).toInt64 - (L 2).toInt64) + 1)) + ((L 2).toInt64 - (L 2).toInt64) = ((((((F 0).toInt64 - (L 0).toInt64) * (((U 1).toInt64 - (L 1).toInt64) + 1)) + ((F 1).toInt64 - (L 1).toInt64)) * (((U 2).toInt64 - (L 2).toInt64) + 1)) + ((F 2).toInt64 - (L 2).toInt64)) + 1
      rw [hd, ← Int64.add_assoc, h2 2 (by decide) (by decide)]; exact own_carry _ _ _
    · show (((((F 0).toInt64 - (L 0).toInt64) * (((U 1).toInt64 - (L 1).toInt64) + 1)) + ((F 1).toInt64 - (L 1).toInt64)) * (((U 2).toInt64 - (L 2).toInt64) + 1)) + ((F 2 + 1).toInt64 - (L 2).toInt64) = ((((((F 0).toInt64 - (L 0).toInt64) * (((U 1).toInt64 - (L 1).toInt64) + 1)) + ((F 1).toInt64 - (L 1).toInt64)) * (((U 2).toInt64 - (L 2).toInt64) + 1)) + ((F 2).toInt64 - (L 2).toInt64)) + 1
      rw [hd, ← Int64.add_assoc]
theorem own_step {n k : Nat} (X Y : Nat → Int64) (hn : n = 0 ∨ n = 1 ∨ n = 2 ∨ n = 3) (hk : k < n) (h2 : ∀ i, k < i → i < n → (fun i => own_val (X i) (Y i)) i = (fun i => own_hi (X i)) i) (h3 : ¬ (fun i => own_val (X i) (Y i)) k = (fun i => own_hi (X i)) k) :
    own_idx n (own_up (fun i => own_val (X i) (Y i)) (fun i => own_lo (X i)) k) (fun i => own_lo (X i)) (fun i => own_hi (X i)) = own_idx n (fun i => own_val (X i) (Y i)) (fun i => own_lo (X i)) (fun i => own_hi (X i)) + 1 :=
  own_stepg _ _ _ (fun i => own_valr (X i) (Y i)) hn hk h2 h3

theorem d7_0 : decode jdk_29_method_69_code 0 = .ok (.iload_n 0, 1) := by decide +kernel
theorem d7_1 : decode jdk_29_method_69_code 1 = .ok (.iload_n 1, 1) := by decide +kernel
theorem d7_2 : decode jdk_29_method_69_code 2 = .ok (.if_icmp .gt 7, 3) := by decide +kernel
theorem d7_5 : decode jdk_29_method_69_code 5 = .ok (.iload_n 0, 1) := by decide +kernel
theorem d7_6 : decode jdk_29_method_69_code 6 = .ok (.goto 4, 3) := by decide +kernel
theorem d7_9 : decode jdk_29_method_69_code 9 = .ok (.iload_n 1, 1) := by decide +kernel
theorem d7_10 : decode jdk_29_method_69_code 10 = .ok (.ireturn, 1) := by decide +kernel
theorem ef_7 (m : MethodId) (x0 : Int32) (x1 : Int32) : entryFrame m #[(.int x0), (.int x1)] 2 = mkF m 0 #[.val (.int x0), .val (.int x1)] [] := by first | (simp [entryFrame, mkF, argsToLocals, Value.category]; done) | rfl
set_option maxRecDepth 65536 in
set_option maxHeartbeats 40000000 in
theorem rm7 (l : Launch) (Z : State) (a0 : Array Value) (hw : ∀ d ∈ tables_1, d.before a0 Z = true) (p1 : Int32) (p2 : Int32) (h0 : Heap) (n0 : Nat) (Z0 : n0 ≤ h0.size)   :
    Does l Z (⟨"java/lang/Math", "min", "(II)I"⟩ : MethodName) jdk_29_method_69_code 2 (some .int) ({ frames := 0, cells := 0, slots := 0, locals := 0 } : Room) #[(.int p1), (.int p2)] h0 (fun v h L => v = some (.int (if p2 < p1 then p2 else p1)) ∧ Fr n0 L ∧ h = h0) := by
  refine Does.body (Jvm.Free.JP.mathPlain rfl (by decide +kernel)) ?_
  intro p e s m below meth c T0 X0 hx hZ hby hml hown hnm hret hlk e0
  replace hown : s.vm.findClass "java/lang/Math" = some m.cls := hown
  have N0 := Fr.nil n0
  refine Go.frame (ef_7 m p1 p2) ?_
  show Go _ _ _ _ T0 (mkF m 0 #[.val (.int p1), .val (.int p2)] [])
  refine Go.st (fun t k => XS.iloadN X0.here hx rfl (hb hby d7_0) rfl k) ?_
  show Go _ _ _ _ T0 (mkF m 1 #[.val (.int p1), .val (.int p2)] [(.int p1)])
  refine Go.st (fun t k => XS.iloadN X0.here hx rfl (hb hby d7_1) rfl k) ?_
  show Go _ _ _ _ T0 (mkF m 2 #[.val (.int p1), .val (.int p2)] [(.int p2), (.int p1)])
  by_cases hc : p2 < p1
  ·
    refine Go.st (fun t k => XS.icmpYes X0.here hx rfl (pc0 := 2) (pc' := 9) rfl (hb hby d7_2) rfl (tlt hc).2.2.1 (by decide) (by decide) k) ?_
    show Go _ _ _ _ T0 (mkF m 9 #[.val (.int p1), .val (.int p2)] [])
    refine Go.st (fun t k => XS.iloadN X0.here hx rfl (hb hby d7_9) rfl k) ?_
    show Go _ _ _ _ T0 (mkF m 10 #[.val (.int p1), .val (.int p2)] [(.int p2)])
    exact goI X0 hx hret hlk (hb hby d7_10) (by decide) (by decide) ⟨by simp [hc], N0, e0⟩
  ·
    refine Go.st (fun t k => XS.icmpNo X0.here hx rfl (hb hby d7_2) rfl (flt hc).2.2.1 k) ?_
    show Go _ _ _ _ T0 (mkF m 5 #[.val (.int p1), .val (.int p2)] [])
    refine Go.st (fun t k => XS.iloadN X0.here hx rfl (hb hby d7_5) rfl k) ?_
    show Go _ _ _ _ T0 (mkF m 6 #[.val (.int p1), .val (.int p2)] [(.int p1)])
    refine Go.st (fun t k => XS.goto X0.here hx rfl (pc0 := 6) (pc' := 10) rfl (hb hby d7_6) (by decide) (by decide) k) ?_
    show Go _ _ _ _ T0 (mkF m 10 #[.val (.int p1), .val (.int p2)] [(.int p1)])
    exact goI X0 hx hret hlk (hb hby d7_10) (by decide) (by decide) ⟨by simp [hc], N0, e0⟩
theorem d9_0 : decode jdk_29_method_65_code 0 = .ok (.iload_n 0, 1) := by decide +kernel
theorem d9_1 : decode jdk_29_method_65_code 1 = .ok (.iload_n 1, 1) := by decide +kernel
theorem d9_2 : decode jdk_29_method_65_code 2 = .ok (.if_icmp .lt 7, 3) := by decide +kernel
theorem d9_5 : decode jdk_29_method_65_code 5 = .ok (.iload_n 0, 1) := by decide +kernel
theorem d9_6 : decode jdk_29_method_65_code 6 = .ok (.goto 4, 3) := by decide +kernel
theorem d9_9 : decode jdk_29_method_65_code 9 = .ok (.iload_n 1, 1) := by decide +kernel
theorem d9_10 : decode jdk_29_method_65_code 10 = .ok (.ireturn, 1) := by decide +kernel
theorem ef_9 (m : MethodId) (x0 : Int32) (x1 : Int32) : entryFrame m #[(.int x0), (.int x1)] 2 = mkF m 0 #[.val (.int x0), .val (.int x1)] [] := by first | (simp [entryFrame, mkF, argsToLocals, Value.category]; done) | rfl
set_option maxRecDepth 65536 in
set_option maxHeartbeats 40000000 in
theorem rm9 (l : Launch) (Z : State) (a0 : Array Value) (hw : ∀ d ∈ tables_1, d.before a0 Z = true) (p1 : Int32) (p2 : Int32) (h0 : Heap) (n0 : Nat) (Z0 : n0 ≤ h0.size)   :
    Does l Z (⟨"java/lang/Math", "max", "(II)I"⟩ : MethodName) jdk_29_method_65_code 2 (some .int) ({ frames := 0, cells := 0, slots := 0, locals := 0 } : Room) #[(.int p1), (.int p2)] h0 (fun v h L => v = some (.int (if p1 < p2 then p2 else p1)) ∧ Fr n0 L ∧ h = h0) := by
  refine Does.body (Jvm.Free.JP.mathPlain rfl (by decide +kernel)) ?_
  intro p e s m below meth c T0 X0 hx hZ hby hml hown hnm hret hlk e0
  replace hown : s.vm.findClass "java/lang/Math" = some m.cls := hown
  have N0 := Fr.nil n0
  refine Go.frame (ef_9 m p1 p2) ?_
  show Go _ _ _ _ T0 (mkF m 0 #[.val (.int p1), .val (.int p2)] [])
  refine Go.st (fun t k => XS.iloadN X0.here hx rfl (hb hby d9_0) rfl k) ?_
  show Go _ _ _ _ T0 (mkF m 1 #[.val (.int p1), .val (.int p2)] [(.int p1)])
  refine Go.st (fun t k => XS.iloadN X0.here hx rfl (hb hby d9_1) rfl k) ?_
  show Go _ _ _ _ T0 (mkF m 2 #[.val (.int p1), .val (.int p2)] [(.int p2), (.int p1)])
  by_cases hc : p1 < p2
  ·
    refine Go.st (fun t k => XS.icmpYes X0.here hx rfl (pc0 := 2) (pc' := 9) rfl (hb hby d9_2) rfl (tlt hc).1 (by decide) (by decide) k) ?_
    show Go _ _ _ _ T0 (mkF m 9 #[.val (.int p1), .val (.int p2)] [])
    refine Go.st (fun t k => XS.iloadN X0.here hx rfl (hb hby d9_9) rfl k) ?_
    show Go _ _ _ _ T0 (mkF m 10 #[.val (.int p1), .val (.int p2)] [(.int p2)])
    exact goI X0 hx hret hlk (hb hby d9_10) (by decide) (by decide) ⟨by simp [hc], N0, e0⟩
  ·
    refine Go.st (fun t k => XS.icmpNo X0.here hx rfl (hb hby d9_2) rfl (flt hc).1 k) ?_
    show Go _ _ _ _ T0 (mkF m 5 #[.val (.int p1), .val (.int p2)] [])
    refine Go.st (fun t k => XS.iloadN X0.here hx rfl (hb hby d9_5) rfl k) ?_
    show Go _ _ _ _ T0 (mkF m 6 #[.val (.int p1), .val (.int p2)] [(.int p1)])
    refine Go.st (fun t k => XS.goto X0.here hx rfl (pc0 := 6) (pc' := 10) rfl (hb hby d9_6) (by decide) (by decide) k) ?_
    show Go _ _ _ _ T0 (mkF m 10 #[.val (.int p1), .val (.int p2)] [(.int p1)])
    exact goI X0 hx hret hlk (hb hby d9_10) (by decide) (by decide) ⟨by simp [hc], N0, e0⟩
theorem d6_0 : decode method_2_code 0 = .ok (.lload_n 0, 1) := by decide +kernel
theorem d6_1 : decode method_2_code 1 = .ok (.bipush 32, 2) := by decide +kernel
theorem d6_3 : decode method_2_code 3 = .ok (.lushr, 1) := by decide +kernel
theorem d6_4 : decode method_2_code 4 = .ok (.l2i, 1) := by decide +kernel
theorem d6_5 : decode method_2_code 5 = .ok (.lload_n 0, 1) := by decide +kernel
theorem d6_6 : decode method_2_code 6 = .ok (.l2i, 1) := by decide +kernel
theorem d6_7 : decode method_2_code 7 = .ok (.invokestatic 7, 3) := by decide +kernel
theorem d6_10 : decode method_2_code 10 = .ok (.ireturn, 1) := by decide +kernel
theorem pn_6 : plainName "com/example/counterpath/counterpath/util/CombinationsNextPinLaw" = true := by first | (simp [plainName, overriddenIn]; done) | decide +kernel
theorem pd6_0 : parseMethodDescriptor "(II)I" = some ⟨[.int, .int], some .int⟩ := by decide +kernel
theorem ef_6 (m : MethodId) (x0 : Int64) : entryFrame m #[(.long x0)] 2 = mkF m 0 #[.val (.long x0), .second] [] := by first | (simp [entryFrame, mkF, argsToLocals, Value.category]; done) | rfl
set_option maxRecDepth 65536 in
set_option maxHeartbeats 40000000 in
theorem rm6 (l : Launch) (Z : State) (a0 : Array Value) (hw : ∀ d ∈ tables_1, d.before a0 Z = true) (q1 : Int64) (h0 : Heap) (n0 : Nat) (Z0 : n0 ≤ h0.size)   :
    Does l Z (⟨"com/example/counterpath/counterpath/util/CombinationsNextPinLaw", "lo", "(J)I"⟩ : MethodName) method_2_code 2 (some .int) ({ frames := 1, cells := 0, slots := 0, locals := 13 } : Room) #[(.long q1)] h0 (fun v h L => v = some (.int (own_lo q1)) ∧ Fr n0 L ∧ h = h0) := by
  refine Does.body (plainFor_of_name pn_6) ?_
  intro p e s m below meth c T0 X0 hx hZ hby hml hown hnm hret hlk e0
  replace hown : s.vm.findClass "com/example/counterpath/counterpath/util/CombinationsNextPinLaw" = some m.cls := hown
  have N0 := Fr.nil n0
  refine Go.frame (ef_6 m q1) ?_
  show Go _ _ _ _ T0 (mkF m 0 #[.val (.long q1), .second] [])
  refine Go.st (fun t k => XS.lloadN X0.here hx rfl (hb hby d6_0) rfl k) ?_
  show Go _ _ _ _ T0 (mkF m 1 #[.val (.long q1), .second] [(.long q1)])
  refine Go.st (fun t k => XS.bipush X0.here hx rfl (hb hby d6_1) k) ?_
  show Go _ _ _ _ T0 (mkF m 3 #[.val (.long q1), .second] [(.int (32 : Int32)), (.long q1)])
  refine Go.st (fun t k => XS.lushr X0.here hx rfl (hb hby d6_3) rfl k) ?_
  show Go _ _ _ _ T0 (mkF m 4 #[.val (.long q1), .second] [(.long ((q1.toUInt64 >>> ((32 : Int32) &&& 0x3f).toInt64.toUInt64).toInt64))])
  refine Go.st (fun t k => XS.l2i X0.here hx rfl (hb hby d6_4) rfl k) ?_
  show Go _ _ _ _ T0 (mkF m 5 #[.val (.long q1), .second] [(.int (((q1.toUInt64 >>> ((32 : Int32) &&& 0x3f).toInt64.toUInt64).toInt64).toInt32))])
  refine Go.st (fun t k => XS.lloadN X0.here hx rfl (hb hby d6_5) rfl k) ?_
  show Go _ _ _ _ T0 (mkF m 6 #[.val (.long q1), .second] [(.long q1), (.int (((q1.toUInt64 >>> ((32 : Int32) &&& 0x3f).toInt64.toUInt64).toInt64).toInt32))])
  refine Go.st (fun t k => XS.l2i X0.here hx rfl (hb hby d6_6) rfl k) ?_
  show Go _ _ _ _ T0 (mkF m 7 #[.val (.long q1), .second] [(.int (q1.toInt32)), (.int (((q1.toUInt64 >>> ((32 : Int32) &&& 0x3f).toInt64.toUInt64).toInt64).toInt32))])
  refine goS X0 hx hZ (y := (⟨"java/lang/Math", "min", "(II)I"⟩ : MethodName)) hown (hw _ (List.mem_of_getElem? (i := 21) rfl)) (hw _ (List.mem_of_getElem? (i := 22) rfl)) (hw _ (List.mem_of_getElem? (i := 23) rfl)) (hw _ (List.mem_of_getElem? (i := 24) rfl)) (by decide) (rm7 l Z a0 hw (((q1.toUInt64 >>> ((32 : Int32) &&& 0x3f).toInt64.toUInt64).toInt64).toInt32) (q1.toInt32) h0 n0 Z0) e0 N0 0 (by decide) (by decide) (by decide) (by decide) (g := (mkF m 7 #[.val (.long q1), .second] [(.int (q1.toInt32)), (.int (((q1.toUInt64 >>> ((32 : Int32) &&& 0x3f).toInt64.toUInt64).toInt64).toInt32))])) rfl (by rw [hml]; rfl) [(.int (((q1.toUInt64 >>> ((32 : Int32) &&& 0x3f).toInt64.toUInt64).toInt64).toInt32)), (.int (q1.toInt32))] [] (lenOf pd6_0 rfl) rfl rfl (by show 2 * 0 + _ ≤ _; exact Nat.le_of_eq rfl) (hb hby d6_7) ?_
  intro T1 v1 L1 M1 X1 N1 hq1
  obtain ⟨rfl, N1q, e1⟩ := hq1
  replace N1 := N1 N1q
  show Go _ _ _ _ T1 (mkF m 10 #[.val (.long q1), .second] [(.int (own_lo q1))])
  exact goI X1 hx hret hlk (hb hby d6_10) (by decide) (by decide) ⟨rfl, N1, e1⟩
theorem d8_0 : decode method_3_code 0 = .ok (.lload_n 0, 1) := by decide +kernel
theorem d8_1 : decode method_3_code 1 = .ok (.bipush 32, 2) := by decide +kernel
theorem d8_3 : decode method_3_code 3 = .ok (.lushr, 1) := by decide +kernel
theorem d8_4 : decode method_3_code 4 = .ok (.l2i, 1) := by decide +kernel
theorem d8_5 : decode method_3_code 5 = .ok (.lload_n 0, 1) := by decide +kernel
theorem d8_6 : decode method_3_code 6 = .ok (.l2i, 1) := by decide +kernel
theorem d8_7 : decode method_3_code 7 = .ok (.invokestatic 13, 3) := by decide +kernel
theorem d8_10 : decode method_3_code 10 = .ok (.ireturn, 1) := by decide +kernel
theorem pn_8 : plainName "com/example/counterpath/counterpath/util/CombinationsNextPinLaw" = true := by first | (simp [plainName, overriddenIn]; done) | decide +kernel
theorem pd8_0 : parseMethodDescriptor "(II)I" = some ⟨[.int, .int], some .int⟩ := by decide +kernel
theorem ef_8 (m : MethodId) (x0 : Int64) : entryFrame m #[(.long x0)] 2 = mkF m 0 #[.val (.long x0), .second] [] := by first | (simp [entryFrame, mkF, argsToLocals, Value.category]; done) | rfl
set_option maxRecDepth 65536 in
set_option maxHeartbeats 40000000 in
theorem rm8 (l : Launch) (Z : State) (a0 : Array Value) (hw : ∀ d ∈ tables_1, d.before a0 Z = true) (q1 : Int64) (h0 : Heap) (n0 : Nat) (Z0 : n0 ≤ h0.size)   :
    Does l Z (⟨"com/example/counterpath/counterpath/util/CombinationsNextPinLaw", "hi", "(J)I"⟩ : MethodName) method_3_code 2 (some .int) ({ frames := 1, cells := 0, slots := 0, locals := 13 } : Room) #[(.long q1)] h0 (fun v h L => v = some (.int (own_hi q1)) ∧ Fr n0 L ∧ h = h0) := by
  refine Does.body (plainFor_of_name pn_8) ?_
  intro p e s m below meth c T0 X0 hx hZ hby hml hown hnm hret hlk e0
  replace hown : s.vm.findClass "com/example/counterpath/counterpath/util/CombinationsNextPinLaw" = some m.cls := hown
  have N0 := Fr.nil n0
  refine Go.frame (ef_8 m q1) ?_
  show Go _ _ _ _ T0 (mkF m 0 #[.val (.long q1), .second] [])
  refine Go.st (fun t k => XS.lloadN X0.here hx rfl (hb hby d8_0) rfl k) ?_
  show Go _ _ _ _ T0 (mkF m 1 #[.val (.long q1), .second] [(.long q1)])
  refine Go.st (fun t k => XS.bipush X0.here hx rfl (hb hby d8_1) k) ?_
  show Go _ _ _ _ T0 (mkF m 3 #[.val (.long q1), .second] [(.int (32 : Int32)), (.long q1)])
  refine Go.st (fun t k => XS.lushr X0.here hx rfl (hb hby d8_3) rfl k) ?_
  show Go _ _ _ _ T0 (mkF m 4 #[.val (.long q1), .second] [(.long ((q1.toUInt64 >>> ((32 : Int32) &&& 0x3f).toInt64.toUInt64).toInt64))])
  refine Go.st (fun t k => XS.l2i X0.here hx rfl (hb hby d8_4) rfl k) ?_
  show Go _ _ _ _ T0 (mkF m 5 #[.val (.long q1), .second] [(.int (((q1.toUInt64 >>> ((32 : Int32) &&& 0x3f).toInt64.toUInt64).toInt64).toInt32))])
  refine Go.st (fun t k => XS.lloadN X0.here hx rfl (hb hby d8_5) rfl k) ?_
  show Go _ _ _ _ T0 (mkF m 6 #[.val (.long q1), .second] [(.long q1), (.int (((q1.toUInt64 >>> ((32 : Int32) &&& 0x3f).toInt64.toUInt64).toInt64).toInt32))])
  refine Go.st (fun t k => XS.l2i X0.here hx rfl (hb hby d8_6) rfl k) ?_
  show Go _ _ _ _ T0 (mkF m 7 #[.val (.long q1), .second] [(.int (q1.toInt32)), (.int (((q1.toUInt64 >>> ((32 : Int32) &&& 0x3f).toInt64.toUInt64).toInt64).toInt32))])
  refine goS X0 hx hZ (y := (⟨"java/lang/Math", "max", "(II)I"⟩ : MethodName)) hown (hw _ (List.mem_of_getElem? (i := 28) rfl)) (hw _ (List.mem_of_getElem? (i := 29) rfl)) (hw _ (List.mem_of_getElem? (i := 23) rfl)) (hw _ (List.mem_of_getElem? (i := 30) rfl)) (by decide) (rm9 l Z a0 hw (((q1.toUInt64 >>> ((32 : Int32) &&& 0x3f).toInt64.toUInt64).toInt64).toInt32) (q1.toInt32) h0 n0 Z0) e0 N0 0 (by decide) (by decide) (by decide) (by decide) (g := (mkF m 7 #[.val (.long q1), .second] [(.int (q1.toInt32)), (.int (((q1.toUInt64 >>> ((32 : Int32) &&& 0x3f).toInt64.toUInt64).toInt64).toInt32))])) rfl (by rw [hml]; rfl) [(.int (((q1.toUInt64 >>> ((32 : Int32) &&& 0x3f).toInt64.toUInt64).toInt64).toInt32)), (.int (q1.toInt32))] [] (lenOf pd8_0 rfl) rfl rfl (by show 2 * 0 + _ ≤ _; exact Nat.le_of_eq rfl) (hb hby d8_7) ?_
  intro T1 v1 L1 M1 X1 N1 hq1
  obtain ⟨rfl, N1q, e1⟩ := hq1
  replace N1 := N1 N1q
  show Go _ _ _ _ T1 (mkF m 10 #[.val (.long q1), .second] [(.int (own_hi q1))])
  exact goI X1 hx hret hlk (hb hby d8_10) (by decide) (by decide) ⟨rfl, N1, e1⟩
theorem d10_0 : decode method_4_code 0 = .ok (.lload_n 0, 1) := by decide +kernel
theorem d10_1 : decode method_4_code 1 = .ok (.invokestatic 16, 3) := by decide +kernel
theorem d10_4 : decode method_4_code 4 = .ok (.istore 4, 2) := by decide +kernel
theorem d10_6 : decode method_4_code 6 = .ok (.lload_n 0, 1) := by decide +kernel
theorem d10_7 : decode method_4_code 7 = .ok (.invokestatic 22, 3) := by decide +kernel
theorem d10_10 : decode method_4_code 10 = .ok (.istore 5, 2) := by decide +kernel
theorem d10_12 : decode method_4_code 12 = .ok (.lload_n 2, 1) := by decide +kernel
theorem d10_13 : decode method_4_code 13 = .ok (.ldc2_w 25, 3) := by decide +kernel
theorem d10_16 : decode method_4_code 16 = .ok (.land, 1) := by decide +kernel
theorem d10_17 : decode method_4_code 17 = .ok (.l2i, 1) := by decide +kernel
theorem d10_18 : decode method_4_code 18 = .ok (.istore 6, 2) := by decide +kernel
theorem d10_20 : decode method_4_code 20 = .ok (.iload 6, 2) := by decide +kernel
theorem d10_22 : decode method_4_code 22 = .ok (.ifCond .ne 6, 3) := by decide +kernel
theorem d10_25 : decode method_4_code 25 = .ok (.iload 4, 2) := by decide +kernel
theorem d10_27 : decode method_4_code 27 = .ok (.ireturn, 1) := by decide +kernel
theorem d10_28 : decode method_4_code 28 = .ok (.iload 6, 2) := by decide +kernel
theorem d10_30 : decode method_4_code 30 = .ok (.iconst 1, 1) := by decide +kernel
theorem d10_31 : decode method_4_code 31 = .ok (.if_icmp .ne 6, 3) := by decide +kernel
theorem d10_34 : decode method_4_code 34 = .ok (.iload 5, 2) := by decide +kernel
theorem d10_36 : decode method_4_code 36 = .ok (.ireturn, 1) := by decide +kernel
theorem d10_37 : decode method_4_code 37 = .ok (.iload 5, 2) := by decide +kernel
theorem d10_39 : decode method_4_code 39 = .ok (.i2l, 1) := by decide +kernel
theorem d10_40 : decode method_4_code 40 = .ok (.iload 4, 2) := by decide +kernel
theorem d10_42 : decode method_4_code 42 = .ok (.i2l, 1) := by decide +kernel
theorem d10_43 : decode method_4_code 43 = .ok (.lsub, 1) := by decide +kernel
theorem d10_44 : decode method_4_code 44 = .ok (.lconst 1, 1) := by decide +kernel
theorem d10_45 : decode method_4_code 45 = .ok (.ladd, 1) := by decide +kernel
theorem d10_46 : decode method_4_code 46 = .ok (.lstore 7, 2) := by decide +kernel
theorem d10_48 : decode method_4_code 48 = .ok (.iload 4, 2) := by decide +kernel
theorem d10_50 : decode method_4_code 50 = .ok (.i2l, 1) := by decide +kernel
theorem d10_51 : decode method_4_code 51 = .ok (.lload_n 2, 1) := by decide +kernel
theorem d10_52 : decode method_4_code 52 = .ok (.iconst 2, 1) := by decide +kernel
theorem d10_53 : decode method_4_code 53 = .ok (.lushr, 1) := by decide +kernel
theorem d10_54 : decode method_4_code 54 = .ok (.lload 7, 2) := by decide +kernel
theorem d10_56 : decode method_4_code 56 = .ok (.lrem, 1) := by decide +kernel
theorem d10_57 : decode method_4_code 57 = .ok (.ladd, 1) := by decide +kernel
theorem d10_58 : decode method_4_code 58 = .ok (.l2i, 1) := by decide +kernel
theorem d10_59 : decode method_4_code 59 = .ok (.ireturn, 1) := by decide +kernel
theorem pn_10 : plainName "com/example/counterpath/counterpath/util/CombinationsNextPinLaw" = true := by first | (simp [plainName, overriddenIn]; done) | decide +kernel
theorem pd10_0 : parseMethodDescriptor "(J)I" = some ⟨[.long], some .int⟩ := by decide +kernel
theorem ef_10 (m : MethodId) (x0 : Int64) (x1 : Int64) : entryFrame m #[(.long x0), (.long x1)] 9 = mkF m 0 #[.val (.long x0), .second, .val (.long x1), .second, .unset, .unset, .unset, .unset, .unset] [] := by first | (simp [entryFrame, mkF, argsToLocals, Value.category]; done) | rfl
set_option maxRecDepth 65536 in
set_option maxHeartbeats 40000000 in
theorem rm10 (l : Launch) (Z : State) (a0 : Array Value) (hw : ∀ d ∈ tables_1, d.before a0 Z = true) (q1 : Int64) (q2 : Int64) (h0 : Heap) (n0 : Nat) (Z0 : n0 ≤ h0.size)   :
    Does l Z (⟨"com/example/counterpath/counterpath/util/CombinationsNextPinLaw", "val", "(JJ)I"⟩ : MethodName) method_4_code 9 (some .int) ({ frames := 2, cells := 0, slots := 0, locals := 26 } : Room) #[(.long q1), (.long q2)] h0 (fun v h L => v = some (.int (own_val q1 q2)) ∧ Fr n0 L ∧ h = h0) := by
  refine Does.body (plainFor_of_name pn_10) ?_
  intro p e s m below meth c T0 X0 hx hZ hby hml hown hnm hret hlk e0
  replace hown : s.vm.findClass "com/example/counterpath/counterpath/util/CombinationsNextPinLaw" = some m.cls := hown
  have N0 := Fr.nil n0
  refine Go.frame (ef_10 m q1 q2) ?_
  show Go _ _ _ _ T0 (mkF m 0 #[.val (.long q1), .second, .val (.long q2), .second, .unset, .unset, .unset, .unset, .unset] [])
  refine Go.st (fun t k => XS.lloadN X0.here hx rfl (hb hby d10_0) rfl k) ?_
  show Go _ _ _ _ T0 (mkF m 1 #[.val (.long q1), .second, .val (.long q2), .second, .unset, .unset, .unset, .unset, .unset] [(.long q1)])
  refine goS X0 hx hZ (y := (⟨"com/example/counterpath/counterpath/util/CombinationsNextPinLaw", "lo", "(J)I"⟩ : MethodName)) hown (hw _ (List.mem_of_getElem? (i := 18) rfl)) (hw _ (List.mem_of_getElem? (i := 19) rfl)) (hw _ (List.mem_of_getElem? (i := 3) rfl)) (hw _ (List.mem_of_getElem? (i := 20) rfl)) (by decide) (rm6 l Z a0 hw q1 h0 n0 Z0) e0 N0 0 (by decide) (by decide) (by decide) (by decide) (g := (mkF m 1 #[.val (.long q1), .second, .val (.long q2), .second, .unset, .unset, .unset, .unset, .unset] [(.long q1)])) rfl (by rw [hml]; rfl) [(.long q1)] [] (lenOf pd10_0 rfl) rfl rfl (by show 2 * 0 + _ ≤ _; exact Nat.le_of_eq rfl) (hb hby d10_1) ?_
  intro T1 v1 L1 M1 X1 N1 hq1
  obtain ⟨rfl, N1q, e1⟩ := hq1
  replace N1 := N1 N1q
  show Go _ _ _ _ T1 (mkF m 4 #[.val (.long q1), .second, .val (.long q2), .second, .unset, .unset, .unset, .unset, .unset] [(.int (own_lo q1))])
  refine Go.st (fun t k => XS.istore X1.here hx rfl (hb hby d10_4) rfl (l' := #[.val (.long q1), .second, .val (.long q2), .second, .val (.int (own_lo q1)), .unset, .unset, .unset, .unset]) rfl k) ?_
  show Go _ _ _ _ T1 (mkF m 6 #[.val (.long q1), .second, .val (.long q2), .second, .val (.int (own_lo q1)), .unset, .unset, .unset, .unset] [])
  refine Go.st (fun t k => XS.lloadN X1.here hx rfl (hb hby d10_6) rfl k) ?_
  show Go _ _ _ _ T1 (mkF m 7 #[.val (.long q1), .second, .val (.long q2), .second, .val (.int (own_lo q1)), .unset, .unset, .unset, .unset] [(.long q1)])
  refine goS X1 hx hZ (y := (⟨"com/example/counterpath/counterpath/util/CombinationsNextPinLaw", "hi", "(J)I"⟩ : MethodName)) hown (hw _ (List.mem_of_getElem? (i := 25) rfl)) (hw _ (List.mem_of_getElem? (i := 26) rfl)) (hw _ (List.mem_of_getElem? (i := 3) rfl)) (hw _ (List.mem_of_getElem? (i := 27) rfl)) (by decide) (rm8 l Z a0 hw q1 h0 n0 Z0) e1 N1 0 (by decide) (by decide) (by decide) (by decide) (g := (mkF m 7 #[.val (.long q1), .second, .val (.long q2), .second, .val (.int (own_lo q1)), .unset, .unset, .unset, .unset] [(.long q1)])) rfl (by rw [hml]; rfl) [(.long q1)] [] (lenOf pd10_0 rfl) rfl rfl (by show 2 * 0 + _ ≤ _; exact Nat.le_of_eq rfl) (hb hby d10_7) ?_
  intro T2 v2 L2 M2 X2 N2 hq2
  obtain ⟨rfl, N2q, e2⟩ := hq2
  replace N2 := N2 N2q
  show Go _ _ _ _ T2 (mkF m 10 #[.val (.long q1), .second, .val (.long q2), .second, .val (.int (own_lo q1)), .unset, .unset, .unset, .unset] [(.int (own_hi q1))])
  refine Go.st (fun t k => XS.istore X2.here hx rfl (hb hby d10_10) rfl (l' := #[.val (.long q1), .second, .val (.long q2), .second, .val (.int (own_lo q1)), .val (.int (own_hi q1)), .unset, .unset, .unset]) rfl k) ?_
  show Go _ _ _ _ T2 (mkF m 12 #[.val (.long q1), .second, .val (.long q2), .second, .val (.int (own_lo q1)), .val (.int (own_hi q1)), .unset, .unset, .unset] [])
  refine Go.st (fun t k => XS.lloadN X2.here hx rfl (hb hby d10_12) rfl k) ?_
  show Go _ _ _ _ T2 (mkF m 13 #[.val (.long q1), .second, .val (.long q2), .second, .val (.int (own_lo q1)), .val (.int (own_hi q1)), .unset, .unset, .unset] [(.long q2)])
  refine Go.st (X2.ldc2Long hx hown (mvT hZ (hw _ (List.mem_of_getElem? (i := 34) rfl))) (g := (mkF m 13 #[.val (.long q1), .second, .val (.long q2), .second, .val (.int (own_lo q1)), .val (.int (own_hi q1)), .unset, .unset, .unset] [(.long q2)])) rfl (hb hby d10_13)) ?_
  show Go _ _ _ _ T2 (mkF m 16 #[.val (.long q1), .second, .val (.long q2), .second, .val (.int (own_lo q1)), .val (.int (own_hi q1)), .unset, .unset, .unset] [(.long (3 : Int64)), (.long q2)])
  refine Go.st (fun t k => XS.land X2.here hx rfl (hb hby d10_16) rfl k) ?_
  show Go _ _ _ _ T2 (mkF m 17 #[.val (.long q1), .second, .val (.long q2), .second, .val (.int (own_lo q1)), .val (.int (own_hi q1)), .unset, .unset, .unset] [(.long (q2 &&& (3 : Int64)))])
  refine Go.st (fun t k => XS.l2i X2.here hx rfl (hb hby d10_17) rfl k) ?_
  show Go _ _ _ _ T2 (mkF m 18 #[.val (.long q1), .second, .val (.long q2), .second, .val (.int (own_lo q1)), .val (.int (own_hi q1)), .unset, .unset, .unset] [(.int ((q2 &&& (3 : Int64)).toInt32))])
  refine Go.st (fun t k => XS.istore X2.here hx rfl (hb hby d10_18) rfl (l' := #[.val (.long q1), .second, .val (.long q2), .second, .val (.int (own_lo q1)), .val (.int (own_hi q1)), .val (.int ((q2 &&& (3 : Int64)).toInt32)), .unset, .unset]) rfl k) ?_
  show Go _ _ _ _ T2 (mkF m 20 #[.val (.long q1), .second, .val (.long q2), .second, .val (.int (own_lo q1)), .val (.int (own_hi q1)), .val (.int ((q2 &&& (3 : Int64)).toInt32)), .unset, .unset] [])
  refine Go.st (fun t k => XS.iload X2.here hx rfl (hb hby d10_20) rfl k) ?_
  show Go _ _ _ _ T2 (mkF m 22 #[.val (.long q1), .second, .val (.long q2), .second, .val (.int (own_lo q1)), .val (.int (own_hi q1)), .val (.int ((q2 &&& (3 : Int64)).toInt32)), .unset, .unset] [(.int ((q2 &&& (3 : Int64)).toInt32))])
  by_cases hA : ((q2 &&& (3 : Int64)).toInt32) = (0 : Int32)
  ·
    refine Go.st (fun t k => XS.ifNo X2.here hx rfl (hb hby d10_22) rfl ((if0 _ _).trans (teq hA).2) k) ?_
    show Go _ _ _ _ T2 (mkF m 25 #[.val (.long q1), .second, .val (.long q2), .second, .val (.int (own_lo q1)), .val (.int (own_hi q1)), .val (.int ((q2 &&& (3 : Int64)).toInt32)), .unset, .unset] [])
    refine Go.st (fun t k => XS.iload X2.here hx rfl (hb hby d10_25) rfl k) ?_
    show Go _ _ _ _ T2 (mkF m 27 #[.val (.long q1), .second, .val (.long q2), .second, .val (.int (own_lo q1)), .val (.int (own_hi q1)), .val (.int ((q2 &&& (3 : Int64)).toInt32)), .unset, .unset] [(.int (own_lo q1))])
    exact goI X2 hx hret hlk (hb hby d10_27) (by decide) (by decide) ⟨by rw [own_val, if_pos hA], N2, e2⟩
  ·
    refine Go.st (fun t k => XS.ifYes X2.here hx rfl (pc0 := 22) (pc' := 28) rfl (hb hby d10_22) rfl ((if0 _ _).trans (feq hA).2) (by decide) (by decide) k) ?_
    show Go _ _ _ _ T2 (mkF m 28 #[.val (.long q1), .second, .val (.long q2), .second, .val (.int (own_lo q1)), .val (.int (own_hi q1)), .val (.int ((q2 &&& (3 : Int64)).toInt32)), .unset, .unset] [])
    refine Go.st (fun t k => XS.iload X2.here hx rfl (hb hby d10_28) rfl k) ?_
    show Go _ _ _ _ T2 (mkF m 30 #[.val (.long q1), .second, .val (.long q2), .second, .val (.int (own_lo q1)), .val (.int (own_hi q1)), .val (.int ((q2 &&& (3 : Int64)).toInt32)), .unset, .unset] [(.int ((q2 &&& (3 : Int64)).toInt32))])
    refine Go.st (fun t k => XS.iconst X2.here hx rfl (hb hby d10_30) k) ?_
    show Go _ _ _ _ T2 (mkF m 31 #[.val (.long q1), .second, .val (.long q2), .second, .val (.int (own_lo q1)), .val (.int (own_hi q1)), .val (.int ((q2 &&& (3 : Int64)).toInt32)), .unset, .unset] [(.int (1 : Int32)), (.int ((q2 &&& (3 : Int64)).toInt32))])
    by_cases hB : ((q2 &&& (3 : Int64)).toInt32) = (1 : Int32)
    ·
      refine Go.st (fun t k => XS.icmpNo X2.here hx rfl (hb hby d10_31) rfl (teq hB).2 k) ?_
      show Go _ _ _ _ T2 (mkF m 34 #[.val (.long q1), .second, .val (.long q2), .second, .val (.int (own_lo q1)), .val (.int (own_hi q1)), .val (.int ((q2 &&& (3 : Int64)).toInt32)), .unset, .unset] [])
      refine Go.st (fun t k => XS.iload X2.here hx rfl (hb hby d10_34) rfl k) ?_
      show Go _ _ _ _ T2 (mkF m 36 #[.val (.long q1), .second, .val (.long q2), .second, .val (.int (own_lo q1)), .val (.int (own_hi q1)), .val (.int ((q2 &&& (3 : Int64)).toInt32)), .unset, .unset] [(.int (own_hi q1))])
      exact goI X2 hx hret hlk (hb hby d10_36) (by decide) (by decide) ⟨by rw [own_val, if_neg hA, if_pos hB], N2, e2⟩
    ·
      refine Go.st (fun t k => XS.icmpYes X2.here hx rfl (pc0 := 31) (pc' := 37) rfl (hb hby d10_31) rfl (feq hB).2 (by decide) (by decide) k) ?_
      show Go _ _ _ _ T2 (mkF m 37 #[.val (.long q1), .second, .val (.long q2), .second, .val (.int (own_lo q1)), .val (.int (own_hi q1)), .val (.int ((q2 &&& (3 : Int64)).toInt32)), .unset, .unset] [])
      refine Go.st (fun t k => XS.iload X2.here hx rfl (hb hby d10_37) rfl k) ?_
      show Go _ _ _ _ T2 (mkF m 39 #[.val (.long q1), .second, .val (.long q2), .second, .val (.int (own_lo q1)), .val (.int (own_hi q1)), .val (.int ((q2 &&& (3 : Int64)).toInt32)), .unset, .unset] [(.int (own_hi q1))])
      refine Go.st (fun t k => XS.i2l X2.here hx rfl (hb hby d10_39) rfl k) ?_
      show Go _ _ _ _ T2 (mkF m 40 #[.val (.long q1), .second, .val (.long q2), .second, .val (.int (own_lo q1)), .val (.int (own_hi q1)), .val (.int ((q2 &&& (3 : Int64)).toInt32)), .unset, .unset] [(.long ((own_hi q1).toInt64))])
      refine Go.st (fun t k => XS.iload X2.here hx rfl (hb hby d10_40) rfl k) ?_
      show Go _ _ _ _ T2 (mkF m 42 #[.val (.long q1), .second, .val (.long q2), .second, .val (.int (own_lo q1)), .val (.int (own_hi q1)), .val (.int ((q2 &&& (3 : Int64)).toInt32)), .unset, .unset] [(.int (own_lo q1)), (.long ((own_hi q1).toInt64))])
      refine Go.st (fun t k => XS.i2l X2.here hx rfl (hb hby d10_42) rfl k) ?_
      show Go _ _ _ _ T2 (mkF m 43 #[.val (.long q1), .second, .val (.long q2), .second, .val (.int (own_lo q1)), .val (.int (own_hi q1)), .val (.int ((q2 &&& (3 : Int64)).toInt32)), .unset, .unset] [(.long ((own_lo q1).toInt64)), (.long ((own_hi q1).toInt64))])
      refine Go.st (fun t k => XS.lsub X2.here hx rfl (hb hby d10_43) rfl k) ?_
      show Go _ _ _ _ T2 (mkF m 44 #[.val (.long q1), .second, .val (.long q2), .second, .val (.int (own_lo q1)), .val (.int (own_hi q1)), .val (.int ((q2 &&& (3 : Int64)).toInt32)), .unset, .unset] [(.long (((own_hi q1).toInt64) - ((own_lo q1).toInt64)))])
      refine Go.st (fun t k => XS.lconst X2.here hx rfl (hb hby d10_44) k) ?_
      show Go _ _ _ _ T2 (mkF m 45 #[.val (.long q1), .second, .val (.long q2), .second, .val (.int (own_lo q1)), .val (.int (own_hi q1)), .val (.int ((q2 &&& (3 : Int64)).toInt32)), .unset, .unset] [(.long (1 : Int64)), (.long (((own_hi q1).toInt64) - ((own_lo q1).toInt64)))])
      refine Go.st (fun t k => XS.ladd X2.here hx rfl (hb hby d10_45) rfl k) ?_
      show Go _ _ _ _ T2 (mkF m 46 #[.val (.long q1), .second, .val (.long q2), .second, .val (.int (own_lo q1)), .val (.int (own_hi q1)), .val (.int ((q2 &&& (3 : Int64)).toInt32)), .unset, .unset] [(.long ((((own_hi q1).toInt64) - ((own_lo q1).toInt64)) + (1 : Int64)))])
      refine Go.st (fun t k => XS.lstore X2.here hx rfl (hb hby d10_46) rfl (l' := #[.val (.long q1), .second, .val (.long q2), .second, .val (.int (own_lo q1)), .val (.int (own_hi q1)), .val (.int ((q2 &&& (3 : Int64)).toInt32)), .val (.long ((((own_hi q1).toInt64) - ((own_lo q1).toInt64)) + (1 : Int64))), .second]) rfl k) ?_
      show Go _ _ _ _ T2 (mkF m 48 #[.val (.long q1), .second, .val (.long q2), .second, .val (.int (own_lo q1)), .val (.int (own_hi q1)), .val (.int ((q2 &&& (3 : Int64)).toInt32)), .val (.long ((((own_hi q1).toInt64) - ((own_lo q1).toInt64)) + (1 : Int64))), .second] [])
      refine Go.st (fun t k => XS.iload X2.here hx rfl (hb hby d10_48) rfl k) ?_
      show Go _ _ _ _ T2 (mkF m 50 #[.val (.long q1), .second, .val (.long q2), .second, .val (.int (own_lo q1)), .val (.int (own_hi q1)), .val (.int ((q2 &&& (3 : Int64)).toInt32)), .val (.long ((((own_hi q1).toInt64) - ((own_lo q1).toInt64)) + (1 : Int64))), .second] [(.int (own_lo q1))])
      refine Go.st (fun t k => XS.i2l X2.here hx rfl (hb hby d10_50) rfl k) ?_
      show Go _ _ _ _ T2 (mkF m 51 #[.val (.long q1), .second, .val (.long q2), .second, .val (.int (own_lo q1)), .val (.int (own_hi q1)), .val (.int ((q2 &&& (3 : Int64)).toInt32)), .val (.long ((((own_hi q1).toInt64) - ((own_lo q1).toInt64)) + (1 : Int64))), .second] [(.long ((own_lo q1).toInt64))])
      refine Go.st (fun t k => XS.lloadN X2.here hx rfl (hb hby d10_51) rfl k) ?_
      show Go _ _ _ _ T2 (mkF m 52 #[.val (.long q1), .second, .val (.long q2), .second, .val (.int (own_lo q1)), .val (.int (own_hi q1)), .val (.int ((q2 &&& (3 : Int64)).toInt32)), .val (.long ((((own_hi q1).toInt64) - ((own_lo q1).toInt64)) + (1 : Int64))), .second] [(.long q2), (.long ((own_lo q1).toInt64))])
      refine Go.st (fun t k => XS.iconst X2.here hx rfl (hb hby d10_52) k) ?_
      show Go _ _ _ _ T2 (mkF m 53 #[.val (.long q1), .second, .val (.long q2), .second, .val (.int (own_lo q1)), .val (.int (own_hi q1)), .val (.int ((q2 &&& (3 : Int64)).toInt32)), .val (.long ((((own_hi q1).toInt64) - ((own_lo q1).toInt64)) + (1 : Int64))), .second] [(.int (2 : Int32)), (.long q2), (.long ((own_lo q1).toInt64))])
      refine Go.st (fun t k => XS.lushr X2.here hx rfl (hb hby d10_53) rfl k) ?_
      show Go _ _ _ _ T2 (mkF m 54 #[.val (.long q1), .second, .val (.long q2), .second, .val (.int (own_lo q1)), .val (.int (own_hi q1)), .val (.int ((q2 &&& (3 : Int64)).toInt32)), .val (.long ((((own_hi q1).toInt64) - ((own_lo q1).toInt64)) + (1 : Int64))), .second] [(.long ((q2.toUInt64 >>> ((2 : Int32) &&& 0x3f).toInt64.toUInt64).toInt64)), (.long ((own_lo q1).toInt64))])
      refine Go.st (fun t k => XS.lload X2.here hx rfl (hb hby d10_54) rfl k) ?_
      show Go _ _ _ _ T2 (mkF m 56 #[.val (.long q1), .second, .val (.long q2), .second, .val (.int (own_lo q1)), .val (.int (own_hi q1)), .val (.int ((q2 &&& (3 : Int64)).toInt32)), .val (.long ((((own_hi q1).toInt64) - ((own_lo q1).toInt64)) + (1 : Int64))), .second] [(.long ((((own_hi q1).toInt64) - ((own_lo q1).toInt64)) + (1 : Int64))), (.long ((q2.toUInt64 >>> ((2 : Int32) &&& 0x3f).toInt64.toUInt64).toInt64)), (.long ((own_lo q1).toInt64))])
      refine Go.st (fun t k => XS.lrem X2.here hx rfl (hb hby d10_56) rfl (own_span q1) k) ?_
      show Go _ _ _ _ T2 (mkF m 57 #[.val (.long q1), .second, .val (.long q2), .second, .val (.int (own_lo q1)), .val (.int (own_hi q1)), .val (.int ((q2 &&& (3 : Int64)).toInt32)), .val (.long ((((own_hi q1).toInt64) - ((own_lo q1).toInt64)) + (1 : Int64))), .second] [(.long (((q2.toUInt64 >>> ((2 : Int32) &&& 0x3f).toInt64.toUInt64).toInt64) - (((q2.toUInt64 >>> ((2 : Int32) &&& 0x3f).toInt64.toUInt64).toInt64) / ((((own_hi q1).toInt64) - ((own_lo q1).toInt64)) + (1 : Int64))) * ((((own_hi q1).toInt64) - ((own_lo q1).toInt64)) + (1 : Int64)))), (.long ((own_lo q1).toInt64))])
      refine Go.st (fun t k => XS.ladd X2.here hx rfl (hb hby d10_57) rfl k) ?_
      show Go _ _ _ _ T2 (mkF m 58 #[.val (.long q1), .second, .val (.long q2), .second, .val (.int (own_lo q1)), .val (.int (own_hi q1)), .val (.int ((q2 &&& (3 : Int64)).toInt32)), .val (.long ((((own_hi q1).toInt64) - ((own_lo q1).toInt64)) + (1 : Int64))), .second] [(.long (((own_lo q1).toInt64) + (((q2.toUInt64 >>> ((2 : Int32) &&& 0x3f).toInt64.toUInt64).toInt64) - (((q2.toUInt64 >>> ((2 : Int32) &&& 0x3f).toInt64.toUInt64).toInt64) / ((((own_hi q1).toInt64) - ((own_lo q1).toInt64)) + (1 : Int64))) * ((((own_hi q1).toInt64) - ((own_lo q1).toInt64)) + (1 : Int64)))))])
      refine Go.st (fun t k => XS.l2i X2.here hx rfl (hb hby d10_58) rfl k) ?_
      show Go _ _ _ _ T2 (mkF m 59 #[.val (.long q1), .second, .val (.long q2), .second, .val (.int (own_lo q1)), .val (.int (own_hi q1)), .val (.int ((q2 &&& (3 : Int64)).toInt32)), .val (.long ((((own_hi q1).toInt64) - ((own_lo q1).toInt64)) + (1 : Int64))), .second] [(.int ((((own_lo q1).toInt64) + (((q2.toUInt64 >>> ((2 : Int32) &&& 0x3f).toInt64.toUInt64).toInt64) - (((q2.toUInt64 >>> ((2 : Int32) &&& 0x3f).toInt64.toUInt64).toInt64) / ((((own_hi q1).toInt64) - ((own_lo q1).toInt64)) + (1 : Int64))) * ((((own_hi q1).toInt64) - ((own_lo q1).toInt64)) + (1 : Int64)))).toInt32))])
      exact goI X2 hx hret hlk (hb hby d10_59) (by decide) (by decide) ⟨by rw [own_val, if_neg hA, if_neg hB], N2, e2⟩
theorem d1_0 : decode method_5_code 0 = .ok (.aload_n 0, 1) := by decide +kernel
theorem d1_1 : decode method_5_code 1 = .ok (.arraylength, 1) := by decide +kernel
theorem d1_2 : decode method_5_code 2 = .ok (.istore 15, 2) := by decide +kernel
theorem d1_4 : decode method_5_code 4 = .ok (.iload 15, 2) := by decide +kernel
theorem d1_6 : decode method_5_code 6 = .ok (.ifCond .le 26, 3) := by decide +kernel
theorem d1_9 : decode method_5_code 9 = .ok (.aload_n 0, 1) := by decide +kernel
theorem d1_10 : decode method_5_code 10 = .ok (.iconst 0, 1) := by decide +kernel
theorem d1_11 : decode method_5_code 11 = .ok (.lload_n 3, 1) := by decide +kernel
theorem d1_12 : decode method_5_code 12 = .ok (.invokestatic 16, 3) := by decide +kernel
theorem d1_15 : decode method_5_code 15 = .ok (.iastore, 1) := by decide +kernel
theorem d1_16 : decode method_5_code 16 = .ok (.aload_n 1, 1) := by decide +kernel
theorem d1_17 : decode method_5_code 17 = .ok (.iconst 0, 1) := by decide +kernel
theorem d1_18 : decode method_5_code 18 = .ok (.lload_n 3, 1) := by decide +kernel
theorem d1_19 : decode method_5_code 19 = .ok (.invokestatic 22, 3) := by decide +kernel
theorem d1_22 : decode method_5_code 22 = .ok (.iastore, 1) := by decide +kernel
theorem d1_23 : decode method_5_code 23 = .ok (.aload_n 2, 1) := by decide +kernel
theorem d1_24 : decode method_5_code 24 = .ok (.iconst 0, 1) := by decide +kernel
theorem d1_25 : decode method_5_code 25 = .ok (.lload_n 3, 1) := by decide +kernel
theorem d1_26 : decode method_5_code 26 = .ok (.lload 5, 2) := by decide +kernel
theorem d1_28 : decode method_5_code 28 = .ok (.invokestatic 27, 3) := by decide +kernel
theorem d1_31 : decode method_5_code 31 = .ok (.iastore, 1) := by decide +kernel
theorem d1_32 : decode method_5_code 32 = .ok (.iload 15, 2) := by decide +kernel
theorem d1_34 : decode method_5_code 34 = .ok (.iconst 1, 1) := by decide +kernel
theorem d1_35 : decode method_5_code 35 = .ok (.if_icmp .le 29, 3) := by decide +kernel
theorem d1_38 : decode method_5_code 38 = .ok (.aload_n 0, 1) := by decide +kernel
theorem d1_39 : decode method_5_code 39 = .ok (.iconst 1, 1) := by decide +kernel
theorem d1_40 : decode method_5_code 40 = .ok (.lload 7, 2) := by decide +kernel
theorem d1_42 : decode method_5_code 42 = .ok (.invokestatic 16, 3) := by decide +kernel
theorem d1_45 : decode method_5_code 45 = .ok (.iastore, 1) := by decide +kernel
theorem d1_46 : decode method_5_code 46 = .ok (.aload_n 1, 1) := by decide +kernel
theorem d1_47 : decode method_5_code 47 = .ok (.iconst 1, 1) := by decide +kernel
theorem d1_48 : decode method_5_code 48 = .ok (.lload 7, 2) := by decide +kernel
theorem d1_50 : decode method_5_code 50 = .ok (.invokestatic 22, 3) := by decide +kernel
theorem d1_53 : decode method_5_code 53 = .ok (.iastore, 1) := by decide +kernel
theorem d1_54 : decode method_5_code 54 = .ok (.aload_n 2, 1) := by decide +kernel
theorem d1_55 : decode method_5_code 55 = .ok (.iconst 1, 1) := by decide +kernel
theorem d1_56 : decode method_5_code 56 = .ok (.lload 7, 2) := by decide +kernel
theorem d1_58 : decode method_5_code 58 = .ok (.lload 9, 2) := by decide +kernel
theorem d1_60 : decode method_5_code 60 = .ok (.invokestatic 27, 3) := by decide +kernel
theorem d1_63 : decode method_5_code 63 = .ok (.iastore, 1) := by decide +kernel
theorem d1_64 : decode method_5_code 64 = .ok (.iload 15, 2) := by decide +kernel
theorem d1_66 : decode method_5_code 66 = .ok (.iconst 2, 1) := by decide +kernel
theorem d1_67 : decode method_5_code 67 = .ok (.if_icmp .le 29, 3) := by decide +kernel
theorem d1_70 : decode method_5_code 70 = .ok (.aload_n 0, 1) := by decide +kernel
theorem d1_71 : decode method_5_code 71 = .ok (.iconst 2, 1) := by decide +kernel
theorem d1_72 : decode method_5_code 72 = .ok (.lload 11, 2) := by decide +kernel
theorem d1_74 : decode method_5_code 74 = .ok (.invokestatic 16, 3) := by decide +kernel
theorem d1_77 : decode method_5_code 77 = .ok (.iastore, 1) := by decide +kernel
theorem d1_78 : decode method_5_code 78 = .ok (.aload_n 1, 1) := by decide +kernel
theorem d1_79 : decode method_5_code 79 = .ok (.iconst 2, 1) := by decide +kernel
theorem d1_80 : decode method_5_code 80 = .ok (.lload 11, 2) := by decide +kernel
theorem d1_82 : decode method_5_code 82 = .ok (.invokestatic 22, 3) := by decide +kernel
theorem d1_85 : decode method_5_code 85 = .ok (.iastore, 1) := by decide +kernel
theorem d1_86 : decode method_5_code 86 = .ok (.aload_n 2, 1) := by decide +kernel
theorem d1_87 : decode method_5_code 87 = .ok (.iconst 2, 1) := by decide +kernel
theorem d1_88 : decode method_5_code 88 = .ok (.lload 11, 2) := by decide +kernel
theorem d1_90 : decode method_5_code 90 = .ok (.lload 13, 2) := by decide +kernel
theorem d1_92 : decode method_5_code 92 = .ok (.invokestatic 27, 3) := by decide +kernel
theorem d1_95 : decode method_5_code 95 = .ok (.iastore, 1) := by decide +kernel
theorem d1_96 : decode method_5_code 96 = .ok (.return_, 1) := by decide +kernel
theorem pn_1 : plainName "com/example/counterpath/counterpath/util/CombinationsNextPinLaw" = true := by first | (simp [plainName, overriddenIn]; done) | decide +kernel
theorem pd1_0 : parseMethodDescriptor "(J)I" = some ⟨[.long], some .int⟩ := by decide +kernel
theorem pd1_1 : parseMethodDescriptor "(JJ)I" = some ⟨[.long, .long], some .int⟩ := by decide +kernel
theorem ef_1 (m : MethodId) (x0 : Addr) (x1 : Addr) (x2 : Addr) (x3 : Int64) (x4 : Int64) (x5 : Int64) (x6 : Int64) (x7 : Int64) (x8 : Int64) : entryFrame m #[(.ref x0), (.ref x1), (.ref x2), (.long x3), (.long x4), (.long x5), (.long x6), (.long x7), (.long x8)] 16 = mkF m 0 #[.val (.ref x0), .val (.ref x1), .val (.ref x2), .val (.long x3), .second, .val (.long x4), .second, .val (.long x5), .second, .val (.long x6), .second, .val (.long x7), .second, .val (.long x8), .second, .unset] [] := by first | (simp [entryFrame, mkF, argsToLocals, Value.category]; done) | rfl
set_option maxRecDepth 65536 in
set_option maxHeartbeats 40000000 in
theorem rm1 (l : Launch) (Z : State) (a0 : Array Value) (hw : ∀ d ∈ tables_1, d.before a0 Z = true) (a1 : Addr) (a2 : Addr) (a3 : Addr) (q4 : Int64) (q5 : Int64) (q6 : Int64) (q7 : Int64) (q8 : Int64) (q9 : Int64) (h0 : Heap) (n0 : Nat) (Z0 : n0 ≤ h0.size) (n : Nat) (f1 f2 f3 : Nat → Value) (hn : n = 0 ∨ n = 1 ∨ n = 2 ∨ n = 3) (V_a1 : BA Z h0 a1 .int n f1) (V_a2 : BA Z h0 a2 .int n f2) (V_a3 : BA Z h0 a3 .int n f3) (g_a1 : n0 ≤ a1) (g_a2 : n0 ≤ a2) (g_a3 : n0 ≤ a3) (ne12 : a1 ≠ a2) (ne13 : a1 ≠ a3) (ne23 : a2 ≠ a3) :
    Does l Z (⟨"com/example/counterpath/counterpath/util/CombinationsNextPinLaw", "fill", "([I[I[IJJJJJJ)V"⟩ : MethodName) method_5_code 16 none ({ frames := 3, cells := 0, slots := 0, locals := 48 } : Room) #[(.ref a1), (.ref a2), (.ref a3), (.long q4), (.long q5), (.long q6), (.long q7), (.long q8), (.long q9)] h0 (fun v h L => v = none ∧ Fr n0 L ∧ Keep h0 h [a1, a2, a3] ∧ BA Z h a1 .int n (fun i => .int (own_lo (own_s3 q4 q6 q8 i))) ∧ BA Z h a2 .int n (fun i => .int (own_hi (own_s3 q4 q6 q8 i))) ∧ BA Z h a3 .int n (fun i => .int (own_val (own_s3 q4 q6 q8 i) (own_s3 q5 q7 q9 i)))) := by
  refine Does.body (plainFor_of_name pn_1) ?_
  intro p e s m below meth c T0 X0 hx hZ hby hml hown hnm hret hlk e0
  replace hown : s.vm.findClass "com/example/counterpath/counterpath/util/CombinationsNextPinLaw" = some m.cls := hown
  have N0 := Fr.nil n0
  refine Go.frame (ef_1 m a1 a2 a3 q4 q5 q6 q7 q8 q9) ?_
  have K0 : Keep h0 h0 [a1, a2, a3] := Keep.refl _ _
  show Go _ _ _ _ T0 (mkF m 0 #[.val (.ref a1), .val (.ref a2), .val (.ref a3), .val (.long q4), .second, .val (.long q5), .second, .val (.long q6), .second, .val (.long q7), .second, .val (.long q8), .second, .val (.long q9), .second, .unset] [])
  rcases hn with rfl | rfl | rfl | rfl
  ·
    show Go _ _ _ _ T0 (mkF m 0 #[.val (.ref a1), .val (.ref a2), .val (.ref a3), .val (.long q4), .second, .val (.long q5), .second, .val (.long q6), .second, .val (.long q7), .second, .val (.long q8), .second, .val (.long q9), .second, .unset] [])
    show Go _ _ _ _ T0 (mkF m 0 #[.val (.ref a1), .val (.ref a2), .val (.ref a3), .val (.long q4), .second, .val (.long q5), .second, .val (.long q6), .second, .val (.long q7), .second, .val (.long q8), .second, .val (.long q9), .second, .unset] [])
    refine Go.st (fun t k => XS.aloadN X0.here hx rfl (hb hby d1_0) rfl rfl k) ?_
    show Go _ _ _ _ T0 (mkF m 1 #[.val (.ref a1), .val (.ref a2), .val (.ref a3), .val (.long q4), .second, .val (.long q5), .second, .val (.long q6), .second, .val (.long q7), .second, .val (.long q8), .second, .val (.long q9), .second, .unset] [(.ref a1)])
    refine goLen X0 hx hZ e0 V_a1 (z := (0 : Int32)) rfl (g := (mkF m 1 #[.val (.ref a1), .val (.ref a2), .val (.ref a3), .val (.long q4), .second, .val (.long q5), .second, .val (.long q6), .second, .val (.long q7), .second, .val (.long q8), .second, .val (.long q9), .second, .unset] [(.ref a1)])) rfl rfl (hb hby d1_1) ?_
    show Go _ _ _ _ T0 (mkF m 2 #[.val (.ref a1), .val (.ref a2), .val (.ref a3), .val (.long q4), .second, .val (.long q5), .second, .val (.long q6), .second, .val (.long q7), .second, .val (.long q8), .second, .val (.long q9), .second, .unset] [(.int (0 : Int32))])
    refine Go.st (fun t k => XS.istore X0.here hx rfl (hb hby d1_2) rfl (l' := #[.val (.ref a1), .val (.ref a2), .val (.ref a3), .val (.long q4), .second, .val (.long q5), .second, .val (.long q6), .second, .val (.long q7), .second, .val (.long q8), .second, .val (.long q9), .second, .val (.int (0 : Int32))]) rfl k) ?_
    show Go _ _ _ _ T0 (mkF m 4 #[.val (.ref a1), .val (.ref a2), .val (.ref a3), .val (.long q4), .second, .val (.long q5), .second, .val (.long q6), .second, .val (.long q7), .second, .val (.long q8), .second, .val (.long q9), .second, .val (.int (0 : Int32))] [])
    refine Go.st (fun t k => XS.iload X0.here hx rfl (hb hby d1_4) rfl k) ?_
    show Go _ _ _ _ T0 (mkF m 6 #[.val (.ref a1), .val (.ref a2), .val (.ref a3), .val (.long q4), .second, .val (.long q5), .second, .val (.long q6), .second, .val (.long q7), .second, .val (.long q8), .second, .val (.long q9), .second, .val (.int (0 : Int32))] [(.int (0 : Int32))])
    refine Go.st (fun t k => XS.ifYes X0.here hx rfl (pc0 := 6) (pc' := 32) rfl (hb hby d1_6) rfl (by decide) (by decide) (by decide) k) ?_
    show Go _ _ _ _ T0 (mkF m 32 #[.val (.ref a1), .val (.ref a2), .val (.ref a3), .val (.long q4), .second, .val (.long q5), .second, .val (.long q6), .second, .val (.long q7), .second, .val (.long q8), .second, .val (.long q9), .second, .val (.int (0 : Int32))] [])
    refine Go.st (fun t k => XS.iload X0.here hx rfl (hb hby d1_32) rfl k) ?_
    show Go _ _ _ _ T0 (mkF m 34 #[.val (.ref a1), .val (.ref a2), .val (.ref a3), .val (.long q4), .second, .val (.long q5), .second, .val (.long q6), .second, .val (.long q7), .second, .val (.long q8), .second, .val (.long q9), .second, .val (.int (0 : Int32))] [(.int (0 : Int32))])
    refine Go.st (fun t k => XS.iconst X0.here hx rfl (hb hby d1_34) k) ?_
    show Go _ _ _ _ T0 (mkF m 35 #[.val (.ref a1), .val (.ref a2), .val (.ref a3), .val (.long q4), .second, .val (.long q5), .second, .val (.long q6), .second, .val (.long q7), .second, .val (.long q8), .second, .val (.long q9), .second, .val (.int (0 : Int32))] [(.int (1 : Int32)), (.int (0 : Int32))])
    refine Go.st (fun t k => XS.icmpYes X0.here hx rfl (pc0 := 35) (pc' := 64) rfl (hb hby d1_35) rfl (by decide) (by decide) (by decide) k) ?_
    show Go _ _ _ _ T0 (mkF m 64 #[.val (.ref a1), .val (.ref a2), .val (.ref a3), .val (.long q4), .second, .val (.long q5), .second, .val (.long q6), .second, .val (.long q7), .second, .val (.long q8), .second, .val (.long q9), .second, .val (.int (0 : Int32))] [])
    refine Go.st (fun t k => XS.iload X0.here hx rfl (hb hby d1_64) rfl k) ?_
    show Go _ _ _ _ T0 (mkF m 66 #[.val (.ref a1), .val (.ref a2), .val (.ref a3), .val (.long q4), .second, .val (.long q5), .second, .val (.long q6), .second, .val (.long q7), .second, .val (.long q8), .second, .val (.long q9), .second, .val (.int (0 : Int32))] [(.int (0 : Int32))])
    refine Go.st (fun t k => XS.iconst X0.here hx rfl (hb hby d1_66) k) ?_
    show Go _ _ _ _ T0 (mkF m 67 #[.val (.ref a1), .val (.ref a2), .val (.ref a3), .val (.long q4), .second, .val (.long q5), .second, .val (.long q6), .second, .val (.long q7), .second, .val (.long q8), .second, .val (.long q9), .second, .val (.int (0 : Int32))] [(.int (2 : Int32)), (.int (0 : Int32))])
    refine Go.st (fun t k => XS.icmpYes X0.here hx rfl (pc0 := 67) (pc' := 96) rfl (hb hby d1_67) rfl (by decide) (by decide) (by decide) k) ?_
    show Go _ _ _ _ T0 (mkF m 96 #[.val (.ref a1), .val (.ref a2), .val (.ref a3), .val (.long q4), .second, .val (.long q5), .second, .val (.long q6), .second, .val (.long q7), .second, .val (.long q8), .second, .val (.long q9), .second, .val (.int (0 : Int32))] [])
    exact goV X0 hx hret hlk (hb hby d1_96) (by decide) (by decide) (by rw [e0]; exact ⟨rfl, N0, K0, V_a1.to (fun i hi => by exact absurd hi (Nat.not_lt_zero i)), V_a2.to (fun i hi => by exact absurd hi (Nat.not_lt_zero i)), V_a3.to (fun i hi => by exact absurd hi (Nat.not_lt_zero i))⟩)
  ·
    show Go _ _ _ _ T0 (mkF m 0 #[.val (.ref a1), .val (.ref a2), .val (.ref a3), .val (.long q4), .second, .val (.long q5), .second, .val (.long q6), .second, .val (.long q7), .second, .val (.long q8), .second, .val (.long q9), .second, .unset] [])
    show Go _ _ _ _ T0 (mkF m 0 #[.val (.ref a1), .val (.ref a2), .val (.ref a3), .val (.long q4), .second, .val (.long q5), .second, .val (.long q6), .second, .val (.long q7), .second, .val (.long q8), .second, .val (.long q9), .second, .unset] [])
    refine Go.st (fun t k => XS.aloadN X0.here hx rfl (hb hby d1_0) rfl rfl k) ?_
    show Go _ _ _ _ T0 (mkF m 1 #[.val (.ref a1), .val (.ref a2), .val (.ref a3), .val (.long q4), .second, .val (.long q5), .second, .val (.long q6), .second, .val (.long q7), .second, .val (.long q8), .second, .val (.long q9), .second, .unset] [(.ref a1)])
    refine goLen X0 hx hZ e0 V_a1 (z := (1 : Int32)) rfl (g := (mkF m 1 #[.val (.ref a1), .val (.ref a2), .val (.ref a3), .val (.long q4), .second, .val (.long q5), .second, .val (.long q6), .second, .val (.long q7), .second, .val (.long q8), .second, .val (.long q9), .second, .unset] [(.ref a1)])) rfl rfl (hb hby d1_1) ?_
    show Go _ _ _ _ T0 (mkF m 2 #[.val (.ref a1), .val (.ref a2), .val (.ref a3), .val (.long q4), .second, .val (.long q5), .second, .val (.long q6), .second, .val (.long q7), .second, .val (.long q8), .second, .val (.long q9), .second, .unset] [(.int (1 : Int32))])
    refine Go.st (fun t k => XS.istore X0.here hx rfl (hb hby d1_2) rfl (l' := #[.val (.ref a1), .val (.ref a2), .val (.ref a3), .val (.long q4), .second, .val (.long q5), .second, .val (.long q6), .second, .val (.long q7), .second, .val (.long q8), .second, .val (.long q9), .second, .val (.int (1 : Int32))]) rfl k) ?_
    show Go _ _ _ _ T0 (mkF m 4 #[.val (.ref a1), .val (.ref a2), .val (.ref a3), .val (.long q4), .second, .val (.long q5), .second, .val (.long q6), .second, .val (.long q7), .second, .val (.long q8), .second, .val (.long q9), .second, .val (.int (1 : Int32))] [])
    refine Go.st (fun t k => XS.iload X0.here hx rfl (hb hby d1_4) rfl k) ?_
    show Go _ _ _ _ T0 (mkF m 6 #[.val (.ref a1), .val (.ref a2), .val (.ref a3), .val (.long q4), .second, .val (.long q5), .second, .val (.long q6), .second, .val (.long q7), .second, .val (.long q8), .second, .val (.long q9), .second, .val (.int (1 : Int32))] [(.int (1 : Int32))])
    refine Go.st (fun t k => XS.ifNo X0.here hx rfl (hb hby d1_6) rfl (by decide) k) ?_
    show Go _ _ _ _ T0 (mkF m 9 #[.val (.ref a1), .val (.ref a2), .val (.ref a3), .val (.long q4), .second, .val (.long q5), .second, .val (.long q6), .second, .val (.long q7), .second, .val (.long q8), .second, .val (.long q9), .second, .val (.int (1 : Int32))] [])
    refine Go.st (fun t k => XS.aloadN X0.here hx rfl (hb hby d1_9) rfl rfl k) ?_
    show Go _ _ _ _ T0 (mkF m 10 #[.val (.ref a1), .val (.ref a2), .val (.ref a3), .val (.long q4), .second, .val (.long q5), .second, .val (.long q6), .second, .val (.long q7), .second, .val (.long q8), .second, .val (.long q9), .second, .val (.int (1 : Int32))] [(.ref a1)])
    refine Go.st (fun t k => XS.iconst X0.here hx rfl (hb hby d1_10) k) ?_
    show Go _ _ _ _ T0 (mkF m 11 #[.val (.ref a1), .val (.ref a2), .val (.ref a3), .val (.long q4), .second, .val (.long q5), .second, .val (.long q6), .second, .val (.long q7), .second, .val (.long q8), .second, .val (.long q9), .second, .val (.int (1 : Int32))] [(.int (0 : Int32)), (.ref a1)])
    refine Go.st (fun t k => XS.lloadN X0.here hx rfl (hb hby d1_11) rfl k) ?_
    show Go _ _ _ _ T0 (mkF m 12 #[.val (.ref a1), .val (.ref a2), .val (.ref a3), .val (.long q4), .second, .val (.long q5), .second, .val (.long q6), .second, .val (.long q7), .second, .val (.long q8), .second, .val (.long q9), .second, .val (.int (1 : Int32))] [(.long q4), (.int (0 : Int32)), (.ref a1)])
    refine goS X0 hx hZ (y := (⟨"com/example/counterpath/counterpath/util/CombinationsNextPinLaw", "lo", "(J)I"⟩ : MethodName)) hown (hw _ (List.mem_of_getElem? (i := 18) rfl)) (hw _ (List.mem_of_getElem? (i := 19) rfl)) (hw _ (List.mem_of_getElem? (i := 3) rfl)) (hw _ (List.mem_of_getElem? (i := 20) rfl)) (by decide) (rm6 l Z a0 hw q4 h0 n0 Z0) e0 N0 2 (by decide) (by decide) (by decide) (by decide) (g := (mkF m 12 #[.val (.ref a1), .val (.ref a2), .val (.ref a3), .val (.long q4), .second, .val (.long q5), .second, .val (.long q6), .second, .val (.long q7), .second, .val (.long q8), .second, .val (.long q9), .second, .val (.int (1 : Int32))] [(.long q4), (.int (0 : Int32)), (.ref a1)])) rfl (by rw [hml]; rfl) [(.long q4)] [(.int (0 : Int32)), (.ref a1)] (lenOf pd1_0 rfl) rfl rfl (by show 2 * 0 + _ ≤ _; exact Nat.le_of_eq rfl) (hb hby d1_12) ?_
    intro T1 v1 L1 M1 X1 N1 hq1
    obtain ⟨rfl, N1q, e1⟩ := hq1
    replace N1 := N1 N1q
    show Go _ _ _ _ T1 (mkF m 15 #[.val (.ref a1), .val (.ref a2), .val (.ref a3), .val (.long q4), .second, .val (.long q5), .second, .val (.long q6), .second, .val (.long q7), .second, .val (.long q8), .second, .val (.long q9), .second, .val (.int (1 : Int32))] [(.int (own_lo q4)), (.int (0 : Int32)), (.ref a1)])
    refine goStI X1 hx hZ e1 N1 V_a1 g_a1 (g := (mkF m 15 #[.val (.ref a1), .val (.ref a2), .val (.ref a3), .val (.long q4), .second, .val (.long q5), .second, .val (.long q6), .second, .val (.long q7), .second, .val (.long q8), .second, .val (.long q9), .second, .val (.int (1 : Int32))] [(.int (own_lo q4)), (.int (0 : Int32)), (.ref a1)])) rfl rfl (hb hby d1_15) (k := 0) ⟨by decide, rfl, by decide⟩ ?_
    intro T2 h2 L2 X2 e2 N2 W2 V_a1
    have Z2 := own_sz W2 Z0
    have V_a2 := V_a2.other W2 (Ne.symm ne12)
    have V_a3 := V_a3.other W2 (Ne.symm ne13)
    have K0 := K0.wr W2 (Or.inl (List.mem_of_getElem? (i := 0) rfl))
    show Go _ _ _ _ T2 (mkF m 16 #[.val (.ref a1), .val (.ref a2), .val (.ref a3), .val (.long q4), .second, .val (.long q5), .second, .val (.long q6), .second, .val (.long q7), .second, .val (.long q8), .second, .val (.long q9), .second, .val (.int (1 : Int32))] [])
    refine Go.st (fun t k => XS.aloadN X2.here hx rfl (hb hby d1_16) rfl rfl k) ?_
    show Go _ _ _ _ T2 (mkF m 17 #[.val (.ref a1), .val (.ref a2), .val (.ref a3), .val (.long q4), .second, .val (.long q5), .second, .val (.long q6), .second, .val (.long q7), .second, .val (.long q8), .second, .val (.long q9), .second, .val (.int (1 : Int32))] [(.ref a2)])
    refine Go.st (fun t k => XS.iconst X2.here hx rfl (hb hby d1_17) k) ?_
    show Go _ _ _ _ T2 (mkF m 18 #[.val (.ref a1), .val (.ref a2), .val (.ref a3), .val (.long q4), .second, .val (.long q5), .second, .val (.long q6), .second, .val (.long q7), .second, .val (.long q8), .second, .val (.long q9), .second, .val (.int (1 : Int32))] [(.int (0 : Int32)), (.ref a2)])
    refine Go.st (fun t k => XS.lloadN X2.here hx rfl (hb hby d1_18) rfl k) ?_
    show Go _ _ _ _ T2 (mkF m 19 #[.val (.ref a1), .val (.ref a2), .val (.ref a3), .val (.long q4), .second, .val (.long q5), .second, .val (.long q6), .second, .val (.long q7), .second, .val (.long q8), .second, .val (.long q9), .second, .val (.int (1 : Int32))] [(.long q4), (.int (0 : Int32)), (.ref a2)])
    refine goS X2 hx hZ (y := (⟨"com/example/counterpath/counterpath/util/CombinationsNextPinLaw", "hi", "(J)I"⟩ : MethodName)) hown (hw _ (List.mem_of_getElem? (i := 25) rfl)) (hw _ (List.mem_of_getElem? (i := 26) rfl)) (hw _ (List.mem_of_getElem? (i := 3) rfl)) (hw _ (List.mem_of_getElem? (i := 27) rfl)) (by decide) (rm8 l Z a0 hw q4 h2 n0 Z2) e2 N2 2 (by decide) (by decide) (by decide) (by decide) (g := (mkF m 19 #[.val (.ref a1), .val (.ref a2), .val (.ref a3), .val (.long q4), .second, .val (.long q5), .second, .val (.long q6), .second, .val (.long q7), .second, .val (.long q8), .second, .val (.long q9), .second, .val (.int (1 : Int32))] [(.long q4), (.int (0 : Int32)), (.ref a2)])) rfl (by rw [hml]; rfl) [(.long q4)] [(.int (0 : Int32)), (.ref a2)] (lenOf pd1_0 rfl) rfl rfl (by show 2 * 0 + _ ≤ _; exact Nat.le_of_eq rfl) (hb hby d1_19) ?_
    intro T3 v3 L3 M3 X3 N3 hq3
    obtain ⟨rfl, N3q, e3⟩ := hq3
    replace N3 := N3 N3q
    show Go _ _ _ _ T3 (mkF m 22 #[.val (.ref a1), .val (.ref a2), .val (.ref a3), .val (.long q4), .second, .val (.long q5), .second, .val (.long q6), .second, .val (.long q7), .second, .val (.long q8), .second, .val (.long q9), .second, .val (.int (1 : Int32))] [(.int (own_hi q4)), (.int (0 : Int32)), (.ref a2)])
    refine goStI X3 hx hZ e3 N3 V_a2 g_a2 (g := (mkF m 22 #[.val (.ref a1), .val (.ref a2), .val (.ref a3), .val (.long q4), .second, .val (.long q5), .second, .val (.long q6), .second, .val (.long q7), .second, .val (.long q8), .second, .val (.long q9), .second, .val (.int (1 : Int32))] [(.int (own_hi q4)), (.int (0 : Int32)), (.ref a2)])) rfl rfl (hb hby d1_22) (k := 0) ⟨by decide, rfl, by decide⟩ ?_
    intro T4 h4 L4 X4 e4 N4 W4 V_a2
    have Z4 := own_sz W4 Z2
    have V_a1 := V_a1.other W4 ne12
    have V_a3 := V_a3.other W4 (Ne.symm ne23)
    have K0 := K0.wr W4 (Or.inl (List.mem_of_getElem? (i := 1) rfl))
    show Go _ _ _ _ T4 (mkF m 23 #[.val (.ref a1), .val (.ref a2), .val (.ref a3), .val (.long q4), .second, .val (.long q5), .second, .val (.long q6), .second, .val (.long q7), .second, .val (.long q8), .second, .val (.long q9), .second, .val (.int (1 : Int32))] [])
    refine Go.st (fun t k => XS.aloadN X4.here hx rfl (hb hby d1_23) rfl rfl k) ?_
    show Go _ _ _ _ T4 (mkF m 24 #[.val (.ref a1), .val (.ref a2), .val (.ref a3), .val (.long q4), .second, .val (.long q5), .second, .val (.long q6), .second, .val (.long q7), .second, .val (.long q8), .second, .val (.long q9), .second, .val (.int (1 : Int32))] [(.ref a3)])
    refine Go.st (fun t k => XS.iconst X4.here hx rfl (hb hby d1_24) k) ?_
    show Go _ _ _ _ T4 (mkF m 25 #[.val (.ref a1), .val (.ref a2), .val (.ref a3), .val (.long q4), .second, .val (.long q5), .second, .val (.long q6), .second, .val (.long q7), .second, .val (.long q8), .second, .val (.long q9), .second, .val (.int (1 : Int32))] [(.int (0 : Int32)), (.ref a3)])
    refine Go.st (fun t k => XS.lloadN X4.here hx rfl (hb hby d1_25) rfl k) ?_
    show Go _ _ _ _ T4 (mkF m 26 #[.val (.ref a1), .val (.ref a2), .val (.ref a3), .val (.long q4), .second, .val (.long q5), .second, .val (.long q6), .second, .val (.long q7), .second, .val (.long q8), .second, .val (.long q9), .second, .val (.int (1 : Int32))] [(.long q4), (.int (0 : Int32)), (.ref a3)])
    refine Go.st (fun t k => XS.lload X4.here hx rfl (hb hby d1_26) rfl k) ?_
    show Go _ _ _ _ T4 (mkF m 28 #[.val (.ref a1), .val (.ref a2), .val (.ref a3), .val (.long q4), .second, .val (.long q5), .second, .val (.long q6), .second, .val (.long q7), .second, .val (.long q8), .second, .val (.long q9), .second, .val (.int (1 : Int32))] [(.long q5), (.long q4), (.int (0 : Int32)), (.ref a3)])
    refine goS X4 hx hZ (y := (⟨"com/example/counterpath/counterpath/util/CombinationsNextPinLaw", "val", "(JJ)I"⟩ : MethodName)) hown (hw _ (List.mem_of_getElem? (i := 31) rfl)) (hw _ (List.mem_of_getElem? (i := 32) rfl)) (hw _ (List.mem_of_getElem? (i := 3) rfl)) (hw _ (List.mem_of_getElem? (i := 33) rfl)) (by decide) (rm10 l Z a0 hw q4 q5 h4 n0 Z4) e4 N4 2 (by decide) (by decide) (by decide) (by decide) (g := (mkF m 28 #[.val (.ref a1), .val (.ref a2), .val (.ref a3), .val (.long q4), .second, .val (.long q5), .second, .val (.long q6), .second, .val (.long q7), .second, .val (.long q8), .second, .val (.long q9), .second, .val (.int (1 : Int32))] [(.long q5), (.long q4), (.int (0 : Int32)), (.ref a3)])) rfl (by rw [hml]; rfl) [(.long q4), (.long q5)] [(.int (0 : Int32)), (.ref a3)] (lenOf pd1_1 rfl) rfl rfl (by show 2 * 0 + _ ≤ _; exact Nat.le_of_eq rfl) (hb hby d1_28) ?_
    intro T5 v5 L5 M5 X5 N5 hq5
    obtain ⟨rfl, N5q, e5⟩ := hq5
    replace N5 := N5 N5q
    show Go _ _ _ _ T5 (mkF m 31 #[.val (.ref a1), .val (.ref a2), .val (.ref a3), .val (.long q4), .second, .val (.long q5), .second, .val (.long q6), .second, .val (.long q7), .second, .val (.long q8), .second, .val (.long q9), .second, .val (.int (1 : Int32))] [(.int (own_val q4 q5)), (.int (0 : Int32)), (.ref a3)])
    refine goStI X5 hx hZ e5 N5 V_a3 g_a3 (g := (mkF m 31 #[.val (.ref a1), .val (.ref a2), .val (.ref a3), .val (.long q4), .second, .val (.long q5), .second, .val (.long q6), .second, .val (.long q7), .second, .val (.long q8), .second, .val (.long q9), .second, .val (.int (1 : Int32))] [(.int (own_val q4 q5)), (.int (0 : Int32)), (.ref a3)])) rfl rfl (hb hby d1_31) (k := 0) ⟨by decide, rfl, by decide⟩ ?_
    intro T6 h6 L6 X6 e6 N6 W6 V_a3
    have Z6 := own_sz W6 Z4
    have V_a1 := V_a1.other W6 ne13
    have V_a2 := V_a2.other W6 ne23
    have K0 := K0.wr W6 (Or.inl (List.mem_of_getElem? (i := 2) rfl))
    show Go _ _ _ _ T6 (mkF m 32 #[.val (.ref a1), .val (.ref a2), .val (.ref a3), .val (.long q4), .second, .val (.long q5), .second, .val (.long q6), .second, .val (.long q7), .second, .val (.long q8), .second, .val (.long q9), .second, .val (.int (1 : Int32))] [])
    refine Go.st (fun t k => XS.iload X6.here hx rfl (hb hby d1_32) rfl k) ?_
    show Go _ _ _ _ T6 (mkF m 34 #[.val (.ref a1), .val (.ref a2), .val (.ref a3), .val (.long q4), .second, .val (.long q5), .second, .val (.long q6), .second, .val (.long q7), .second, .val (.long q8), .second, .val (.long q9), .second, .val (.int (1 : Int32))] [(.int (1 : Int32))])
    refine Go.st (fun t k => XS.iconst X6.here hx rfl (hb hby d1_34) k) ?_
    show Go _ _ _ _ T6 (mkF m 35 #[.val (.ref a1), .val (.ref a2), .val (.ref a3), .val (.long q4), .second, .val (.long q5), .second, .val (.long q6), .second, .val (.long q7), .second, .val (.long q8), .second, .val (.long q9), .second, .val (.int (1 : Int32))] [(.int (1 : Int32)), (.int (1 : Int32))])
    refine Go.st (fun t k => XS.icmpYes X6.here hx rfl (pc0 := 35) (pc' := 64) rfl (hb hby d1_35) rfl (by decide) (by decide) (by decide) k) ?_
    show Go _ _ _ _ T6 (mkF m 64 #[.val (.ref a1), .val (.ref a2), .val (.ref a3), .val (.long q4), .second, .val (.long q5), .second, .val (.long q6), .second, .val (.long q7), .second, .val (.long q8), .second, .val (.long q9), .second, .val (.int (1 : Int32))] [])
    refine Go.st (fun t k => XS.iload X6.here hx rfl (hb hby d1_64) rfl k) ?_
    show Go _ _ _ _ T6 (mkF m 66 #[.val (.ref a1), .val (.ref a2), .val (.ref a3), .val (.long q4), .second, .val (.long q5), .second, .val (.long q6), .second, .val (.long q7), .second, .val (.long q8), .second, .val (.long q9), .second, .val (.int (1 : Int32))] [(.int (1 : Int32))])
    refine Go.st (fun t k => XS.iconst X6.here hx rfl (hb hby d1_66) k) ?_
    show Go _ _ _ _ T6 (mkF m 67 #[.val (.ref a1), .val (.ref a2), .val (.ref a3), .val (.long q4), .second, .val (.long q5), .second, .val (.long q6), .second, .val (.long q7), .second, .val (.long q8), .second, .val (.long q9), .second, .val (.int (1 : Int32))] [(.int (2 : Int32)), (.int (1 : Int32))])
    refine Go.st (fun t k => XS.icmpYes X6.here hx rfl (pc0 := 67) (pc' := 96) rfl (hb hby d1_67) rfl (by decide) (by decide) (by decide) k) ?_
    show Go _ _ _ _ T6 (mkF m 96 #[.val (.ref a1), .val (.ref a2), .val (.ref a3), .val (.long q4), .second, .val (.long q5), .second, .val (.long q6), .second, .val (.long q7), .second, .val (.long q8), .second, .val (.long q9), .second, .val (.int (1 : Int32))] [])
    exact goV X6 hx hret hlk (hb hby d1_96) (by decide) (by decide) (by rw [e6]; exact ⟨rfl, N6, K0, V_a1.to (fun i hi => by rcases own_lt1 hi with rfl <;> rfl), V_a2.to (fun i hi => by rcases own_lt1 hi with rfl <;> rfl), V_a3.to (fun i hi => by rcases own_lt1 hi with rfl <;> rfl)⟩)
  ·
    show Go _ _ _ _ T0 (mkF m 0 #[.val (.ref a1), .val (.ref a2), .val (.ref a3), .val (.long q4), .second, .val (.long q5), .second, .val (.long q6), .second, .val (.long q7), .second, .val (.long q8), .second, .val (.long q9), .second, .unset] [])
    show Go _ _ _ _ T0 (mkF m 0 #[.val (.ref a1), .val (.ref a2), .val (.ref a3), .val (.long q4), .second, .val (.long q5), .second, .val (.long q6), .second, .val (.long q7), .second, .val (.long q8), .second, .val (.long q9), .second, .unset] [])
    refine Go.st (fun t k => XS.aloadN X0.here hx rfl (hb hby d1_0) rfl rfl k) ?_
    show Go _ _ _ _ T0 (mkF m 1 #[.val (.ref a1), .val (.ref a2), .val (.ref a3), .val (.long q4), .second, .val (.long q5), .second, .val (.long q6), .second, .val (.long q7), .second, .val (.long q8), .second, .val (.long q9), .second, .unset] [(.ref a1)])
    refine goLen X0 hx hZ e0 V_a1 (z := (2 : Int32)) rfl (g := (mkF m 1 #[.val (.ref a1), .val (.ref a2), .val (.ref a3), .val (.long q4), .second, .val (.long q5), .second, .val (.long q6), .second, .val (.long q7), .second, .val (.long q8), .second, .val (.long q9), .second, .unset] [(.ref a1)])) rfl rfl (hb hby d1_1) ?_
    show Go _ _ _ _ T0 (mkF m 2 #[.val (.ref a1), .val (.ref a2), .val (.ref a3), .val (.long q4), .second, .val (.long q5), .second, .val (.long q6), .second, .val (.long q7), .second, .val (.long q8), .second, .val (.long q9), .second, .unset] [(.int (2 : Int32))])
    refine Go.st (fun t k => XS.istore X0.here hx rfl (hb hby d1_2) rfl (l' := #[.val (.ref a1), .val (.ref a2), .val (.ref a3), .val (.long q4), .second, .val (.long q5), .second, .val (.long q6), .second, .val (.long q7), .second, .val (.long q8), .second, .val (.long q9), .second, .val (.int (2 : Int32))]) rfl k) ?_
    show Go _ _ _ _ T0 (mkF m 4 #[.val (.ref a1), .val (.ref a2), .val (.ref a3), .val (.long q4), .second, .val (.long q5), .second, .val (.long q6), .second, .val (.long q7), .second, .val (.long q8), .second, .val (.long q9), .second, .val (.int (2 : Int32))] [])
    refine Go.st (fun t k => XS.iload X0.here hx rfl (hb hby d1_4) rfl k) ?_
    show Go _ _ _ _ T0 (mkF m 6 #[.val (.ref a1), .val (.ref a2), .val (.ref a3), .val (.long q4), .second, .val (.long q5), .second, .val (.long q6), .second, .val (.long q7), .second, .val (.long q8), .second, .val (.long q9), .second, .val (.int (2 : Int32))] [(.int (2 : Int32))])
    refine Go.st (fun t k => XS.ifNo X0.here hx rfl (hb hby d1_6) rfl (by decide) k) ?_
    show Go _ _ _ _ T0 (mkF m 9 #[.val (.ref a1), .val (.ref a2), .val (.ref a3), .val (.long q4), .second, .val (.long q5), .second, .val (.long q6), .second, .val (.long q7), .second, .val (.long q8), .second, .val (.long q9), .second, .val (.int (2 : Int32))] [])
    refine Go.st (fun t k => XS.aloadN X0.here hx rfl (hb hby d1_9) rfl rfl k) ?_
    show Go _ _ _ _ T0 (mkF m 10 #[.val (.ref a1), .val (.ref a2), .val (.ref a3), .val (.long q4), .second, .val (.long q5), .second, .val (.long q6), .second, .val (.long q7), .second, .val (.long q8), .second, .val (.long q9), .second, .val (.int (2 : Int32))] [(.ref a1)])
    refine Go.st (fun t k => XS.iconst X0.here hx rfl (hb hby d1_10) k) ?_
    show Go _ _ _ _ T0 (mkF m 11 #[.val (.ref a1), .val (.ref a2), .val (.ref a3), .val (.long q4), .second, .val (.long q5), .second, .val (.long q6), .second, .val (.long q7), .second, .val (.long q8), .second, .val (.long q9), .second, .val (.int (2 : Int32))] [(.int (0 : Int32)), (.ref a1)])
    refine Go.st (fun t k => XS.lloadN X0.here hx rfl (hb hby d1_11) rfl k) ?_
    show Go _ _ _ _ T0 (mkF m 12 #[.val (.ref a1), .val (.ref a2), .val (.ref a3), .val (.long q4), .second, .val (.long q5), .second, .val (.long q6), .second, .val (.long q7), .second, .val (.long q8), .second, .val (.long q9), .second, .val (.int (2 : Int32))] [(.long q4), (.int (0 : Int32)), (.ref a1)])
    refine goS X0 hx hZ (y := (⟨"com/example/counterpath/counterpath/util/CombinationsNextPinLaw", "lo", "(J)I"⟩ : MethodName)) hown (hw _ (List.mem_of_getElem? (i := 18) rfl)) (hw _ (List.mem_of_getElem? (i := 19) rfl)) (hw _ (List.mem_of_getElem? (i := 3) rfl)) (hw _ (List.mem_of_getElem? (i := 20) rfl)) (by decide) (rm6 l Z a0 hw q4 h0 n0 Z0) e0 N0 2 (by decide) (by decide) (by decide) (by decide) (g := (mkF m 12 #[.val (.ref a1), .val (.ref a2), .val (.ref a3), .val (.long q4), .second, .val (.long q5), .second, .val (.long q6), .second, .val (.long q7), .second, .val (.long q8), .second, .val (.long q9), .second, .val (.int (2 : Int32))] [(.long q4), (.int (0 : Int32)), (.ref a1)])) rfl (by rw [hml]; rfl) [(.long q4)] [(.int (0 : Int32)), (.ref a1)] (lenOf pd1_0 rfl) rfl rfl (by show 2 * 0 + _ ≤ _; exact Nat.le_of_eq rfl) (hb hby d1_12) ?_
    intro T7 v7 L7 M7 X7 N7 hq7
    obtain ⟨rfl, N7q, e7⟩ := hq7
    replace N7 := N7 N7q
    show Go _ _ _ _ T7 (mkF m 15 #[.val (.ref a1), .val (.ref a2), .val (.ref a3), .val (.long q4), .second, .val (.long q5), .second, .val (.long q6), .second, .val (.long q7), .second, .val (.long q8), .second, .val (.long q9), .second, .val (.int (2 : Int32))] [(.int (own_lo q4)), (.int (0 : Int32)), (.ref a1)])
    refine goStI X7 hx hZ e7 N7 V_a1 g_a1 (g := (mkF m 15 #[.val (.ref a1), .val (.ref a2), .val (.ref a3), .val (.long q4), .second, .val (.long q5), .second, .val (.long q6), .second, .val (.long q7), .second, .val (.long q8), .second, .val (.long q9), .second, .val (.int (2 : Int32))] [(.int (own_lo q4)), (.int (0 : Int32)), (.ref a1)])) rfl rfl (hb hby d1_15) (k := 0) ⟨by decide, rfl, by decide⟩ ?_
    intro T8 h8 L8 X8 e8 N8 W8 V_a1
    have Z8 := own_sz W8 Z0
    have V_a2 := V_a2.other W8 (Ne.symm ne12)
    have V_a3 := V_a3.other W8 (Ne.symm ne13)
    have K0 := K0.wr W8 (Or.inl (List.mem_of_getElem? (i := 0) rfl))
    show Go _ _ _ _ T8 (mkF m 16 #[.val (.ref a1), .val (.ref a2), .val (.ref a3), .val (.long q4), .second, .val (.long q5), .second, .val (.long q6), .second, .val (.long q7), .second, .val (.long q8), .second, .val (.long q9), .second, .val (.int (2 : Int32))] [])
    refine Go.st (fun t k => XS.aloadN X8.here hx rfl (hb hby d1_16) rfl rfl k) ?_
    show Go _ _ _ _ T8 (mkF m 17 #[.val (.ref a1), .val (.ref a2), .val (.ref a3), .val (.long q4), .second, .val (.long q5), .second, .val (.long q6), .second, .val (.long q7), .second, .val (.long q8), .second, .val (.long q9), .second, .val (.int (2 : Int32))] [(.ref a2)])
    refine Go.st (fun t k => XS.iconst X8.here hx rfl (hb hby d1_17) k) ?_
    show Go _ _ _ _ T8 (mkF m 18 #[.val (.ref a1), .val (.ref a2), .val (.ref a3), .val (.long q4), .second, .val (.long q5), .second, .val (.long q6), .second, .val (.long q7), .second, .val (.long q8), .second, .val (.long q9), .second, .val (.int (2 : Int32))] [(.int (0 : Int32)), (.ref a2)])
    refine Go.st (fun t k => XS.lloadN X8.here hx rfl (hb hby d1_18) rfl k) ?_
    show Go _ _ _ _ T8 (mkF m 19 #[.val (.ref a1), .val (.ref a2), .val (.ref a3), .val (.long q4), .second, .val (.long q5), .second, .val (.long q6), .second, .val (.long q7), .second, .val (.long q8), .second, .val (.long q9), .second, .val (.int (2 : Int32))] [(.long q4), (.int (0 : Int32)), (.ref a2)])
    refine goS X8 hx hZ (y := (⟨"com/example/counterpath/counterpath/util/CombinationsNextPinLaw", "hi", "(J)I"⟩ : MethodName)) hown (hw _ (List.mem_of_getElem? (i := 25) rfl)) (hw _ (List.mem_of_getElem? (i := 26) rfl)) (hw _ (List.mem_of_getElem? (i := 3) rfl)) (hw _ (List.mem_of_getElem? (i := 27) rfl)) (by decide) (rm8 l Z a0 hw q4 h8 n0 Z8) e8 N8 2 (by decide) (by decide) (by decide) (by decide) (g := (mkF m 19 #[.val (.ref a1), .val (.ref a2), .val (.ref a3), .val (.long q4), .second, .val (.long q5), .second, .val (.long q6), .second, .val (.long q7), .second, .val (.long q8), .second, .val (.long q9), .second, .val (.int (2 : Int32))] [(.long q4), (.int (0 : Int32)), (.ref a2)])) rfl (by rw [hml]; rfl) [(.long q4)] [(.int (0 : Int32)), (.ref a2)] (lenOf pd1_0 rfl) rfl rfl (by show 2 * 0 + _ ≤ _; exact Nat.le_of_eq rfl) (hb hby d1_19) ?_
    intro T9 v9 L9 M9 X9 N9 hq9
    obtain ⟨rfl, N9q, e9⟩ := hq9
    replace N9 := N9 N9q
    show Go _ _ _ _ T9 (mkF m 22 #[.val (.ref a1), .val (.ref a2), .val (.ref a3), .val (.long q4), .second, .val (.long q5), .second, .val (.long q6), .second, .val (.long q7), .second, .val (.long q8), .second, .val (.long q9), .second, .val (.int (2 : Int32))] [(.int (own_hi q4)), (.int (0 : Int32)), (.ref a2)])
    refine goStI X9 hx hZ e9 N9 V_a2 g_a2 (g := (mkF m 22 #[.val (.ref a1), .val (.ref a2), .val (.ref a3), .val (.long q4), .second, .val (.long q5), .second, .val (.long q6), .second, .val (.long q7), .second, .val (.long q8), .second, .val (.long q9), .second, .val (.int (2 : Int32))] [(.int (own_hi q4)), (.int (0 : Int32)), (.ref a2)])) rfl rfl (hb hby d1_22) (k := 0) ⟨by decide, rfl, by decide⟩ ?_
    intro T10 h10 L10 X10 e10 N10 W10 V_a2
    have Z10 := own_sz W10 Z8
    have V_a1 := V_a1.other W10 ne12
    have V_a3 := V_a3.other W10 (Ne.symm ne23)
    have K0 := K0.wr W10 (Or.inl (List.mem_of_getElem? (i := 1) rfl))
    show Go _ _ _ _ T10 (mkF m 23 #[.val (.ref a1), .val (.ref a2), .val (.ref a3), .val (.long q4), .second, .val (.long q5), .second, .val (.long q6), .second, .val (.long q7), .second, .val (.long q8), .second, .val (.long q9), .second, .val (.int (2 : Int32))] [])
    refine Go.st (fun t k => XS.aloadN X10.here hx rfl (hb hby d1_23) rfl rfl k) ?_
    show Go _ _ _ _ T10 (mkF m 24 #[.val (.ref a1), .val (.ref a2), .val (.ref a3), .val (.long q4), .second, .val (.long q5), .second, .val (.long q6), .second, .val (.long q7), .second, .val (.long q8), .second, .val (.long q9), .second, .val (.int (2 : Int32))] [(.ref a3)])
    refine Go.st (fun t k => XS.iconst X10.here hx rfl (hb hby d1_24) k) ?_
    show Go _ _ _ _ T10 (mkF m 25 #[.val (.ref a1), .val (.ref a2), .val (.ref a3), .val (.long q4), .second, .val (.long q5), .second, .val (.long q6), .second, .val (.long q7), .second, .val (.long q8), .second, .val (.long q9), .second, .val (.int (2 : Int32))] [(.int (0 : Int32)), (.ref a3)])
    refine Go.st (fun t k => XS.lloadN X10.here hx rfl (hb hby d1_25) rfl k) ?_
    show Go _ _ _ _ T10 (mkF m 26 #[.val (.ref a1), .val (.ref a2), .val (.ref a3), .val (.long q4), .second, .val (.long q5), .second, .val (.long q6), .second, .val (.long q7), .second, .val (.long q8), .second, .val (.long q9), .second, .val (.int (2 : Int32))] [(.long q4), (.int (0 : Int32)), (.ref a3)])
    refine Go.st (fun t k => XS.lload X10.here hx rfl (hb hby d1_26) rfl k) ?_
    show Go _ _ _ _ T10 (mkF m 28 #[.val (.ref a1), .val (.ref a2), .val (.ref a3), .val (.long q4), .second, .val (.long q5), .second, .val (.long q6), .second, .val (.long q7), .second, .val (.long q8), .second, .val (.long q9), .second, .val (.int (2 : Int32))] [(.long q5), (.long q4), (.int (0 : Int32)), (.ref a3)])
    refine goS X10 hx hZ (y := (⟨"com/example/counterpath/counterpath/util/CombinationsNextPinLaw", "val", "(JJ)I"⟩ : MethodName)) hown (hw _ (List.mem_of_getElem? (i := 31) rfl)) (hw _ (List.mem_of_getElem? (i := 32) rfl)) (hw _ (List.mem_of_getElem? (i := 3) rfl)) (hw _ (List.mem_of_getElem? (i := 33) rfl)) (by decide) (rm10 l Z a0 hw q4 q5 h10 n0 Z10) e10 N10 2 (by decide) (by decide) (by decide) (by decide) (g := (mkF m 28 #[.val (.ref a1), .val (.ref a2), .val (.ref a3), .val (.long q4), .second, .val (.long q5), .second, .val (.long q6), .second, .val (.long q7), .second, .val (.long q8), .second, .val (.long q9), .second, .val (.int (2 : Int32))] [(.long q5), (.long q4), (.int (0 : Int32)), (.ref a3)])) rfl (by rw [hml]; rfl) [(.long q4), (.long q5)] [(.int (0 : Int32)), (.ref a3)] (lenOf pd1_1 rfl) rfl rfl (by show 2 * 0 + _ ≤ _; exact Nat.le_of_eq rfl) (hb hby d1_28) ?_
    intro T11 v11 L11 M11 X11 N11 hq11
    obtain ⟨rfl, N11q, e11⟩ := hq11
    replace N11 := N11 N11q
    show Go _ _ _ _ T11 (mkF m 31 #[.val (.ref a1), .val (.ref a2), .val (.ref a3), .val (.long q4), .second, .val (.long q5), .second, .val (.long q6), .second, .val (.long q7), .second, .val (.long q8), .second, .val (.long q9), .second, .val (.int (2 : Int32))] [(.int (own_val q4 q5)), (.int (0 : Int32)), (.ref a3)])
    refine goStI X11 hx hZ e11 N11 V_a3 g_a3 (g := (mkF m 31 #[.val (.ref a1), .val (.ref a2), .val (.ref a3), .val (.long q4), .second, .val (.long q5), .second, .val (.long q6), .second, .val (.long q7), .second, .val (.long q8), .second, .val (.long q9), .second, .val (.int (2 : Int32))] [(.int (own_val q4 q5)), (.int (0 : Int32)), (.ref a3)])) rfl rfl (hb hby d1_31) (k := 0) ⟨by decide, rfl, by decide⟩ ?_
    intro T12 h12 L12 X12 e12 N12 W12 V_a3
    have Z12 := own_sz W12 Z10
    have V_a1 := V_a1.other W12 ne13
    have V_a2 := V_a2.other W12 ne23
    have K0 := K0.wr W12 (Or.inl (List.mem_of_getElem? (i := 2) rfl))
    show Go _ _ _ _ T12 (mkF m 32 #[.val (.ref a1), .val (.ref a2), .val (.ref a3), .val (.long q4), .second, .val (.long q5), .second, .val (.long q6), .second, .val (.long q7), .second, .val (.long q8), .second, .val (.long q9), .second, .val (.int (2 : Int32))] [])
    refine Go.st (fun t k => XS.iload X12.here hx rfl (hb hby d1_32) rfl k) ?_
    show Go _ _ _ _ T12 (mkF m 34 #[.val (.ref a1), .val (.ref a2), .val (.ref a3), .val (.long q4), .second, .val (.long q5), .second, .val (.long q6), .second, .val (.long q7), .second, .val (.long q8), .second, .val (.long q9), .second, .val (.int (2 : Int32))] [(.int (2 : Int32))])
    refine Go.st (fun t k => XS.iconst X12.here hx rfl (hb hby d1_34) k) ?_
    show Go _ _ _ _ T12 (mkF m 35 #[.val (.ref a1), .val (.ref a2), .val (.ref a3), .val (.long q4), .second, .val (.long q5), .second, .val (.long q6), .second, .val (.long q7), .second, .val (.long q8), .second, .val (.long q9), .second, .val (.int (2 : Int32))] [(.int (1 : Int32)), (.int (2 : Int32))])
    refine Go.st (fun t k => XS.icmpNo X12.here hx rfl (hb hby d1_35) rfl (by decide) k) ?_
    show Go _ _ _ _ T12 (mkF m 38 #[.val (.ref a1), .val (.ref a2), .val (.ref a3), .val (.long q4), .second, .val (.long q5), .second, .val (.long q6), .second, .val (.long q7), .second, .val (.long q8), .second, .val (.long q9), .second, .val (.int (2 : Int32))] [])
    refine Go.st (fun t k => XS.aloadN X12.here hx rfl (hb hby d1_38) rfl rfl k) ?_
    show Go _ _ _ _ T12 (mkF m 39 #[.val (.ref a1), .val (.ref a2), .val (.ref a3), .val (.long q4), .second, .val (.long q5), .second, .val (.long q6), .second, .val (.long q7), .second, .val (.long q8), .second, .val (.long q9), .second, .val (.int (2 : Int32))] [(.ref a1)])
    refine Go.st (fun t k => XS.iconst X12.here hx rfl (hb hby d1_39) k) ?_
    show Go _ _ _ _ T12 (mkF m 40 #[.val (.ref a1), .val (.ref a2), .val (.ref a3), .val (.long q4), .second, .val (.long q5), .second, .val (.long q6), .second, .val (.long q7), .second, .val (.long q8), .second, .val (.long q9), .second, .val (.int (2 : Int32))] [(.int (1 : Int32)), (.ref a1)])
    refine Go.st (fun t k => XS.lload X12.here hx rfl (hb hby d1_40) rfl k) ?_
    show Go _ _ _ _ T12 (mkF m 42 #[.val (.ref a1), .val (.ref a2), .val (.ref a3), .val (.long q4), .second, .val (.long q5), .second, .val (.long q6), .second, .val (.long q7), .second, .val (.long q8), .second, .val (.long q9), .second, .val (.int (2 : Int32))] [(.long q6), (.int (1 : Int32)), (.ref a1)])
    refine goS X12 hx hZ (y := (⟨"com/example/counterpath/counterpath/util/CombinationsNextPinLaw", "lo", "(J)I"⟩ : MethodName)) hown (hw _ (List.mem_of_getElem? (i := 18) rfl)) (hw _ (List.mem_of_getElem? (i := 19) rfl)) (hw _ (List.mem_of_getElem? (i := 3) rfl)) (hw _ (List.mem_of_getElem? (i := 20) rfl)) (by decide) (rm6 l Z a0 hw q6 h12 n0 Z12) e12 N12 2 (by decide) (by decide) (by decide) (by decide) (g := (mkF m 42 #[.val (.ref a1), .val (.ref a2), .val (.ref a3), .val (.long q4), .second, .val (.long q5), .second, .val (.long q6), .second, .val (.long q7), .second, .val (.long q8), .second, .val (.long q9), .second, .val (.int (2 : Int32))] [(.long q6), (.int (1 : Int32)), (.ref a1)])) rfl (by rw [hml]; rfl) [(.long q6)] [(.int (1 : Int32)), (.ref a1)] (lenOf pd1_0 rfl) rfl rfl (by show 2 * 0 + _ ≤ _; exact Nat.le_of_eq rfl) (hb hby d1_42) ?_
    intro T13 v13 L13 M13 X13 N13 hq13
    obtain ⟨rfl, N13q, e13⟩ := hq13
    replace N13 := N13 N13q
    show Go _ _ _ _ T13 (mkF m 45 #[.val (.ref a1), .val (.ref a2), .val (.ref a3), .val (.long q4), .second, .val (.long q5), .second, .val (.long q6), .second, .val (.long q7), .second, .val (.long q8), .second, .val (.long q9), .second, .val (.int (2 : Int32))] [(.int (own_lo q6)), (.int (1 : Int32)), (.ref a1)])
    refine goStI X13 hx hZ e13 N13 V_a1 g_a1 (g := (mkF m 45 #[.val (.ref a1), .val (.ref a2), .val (.ref a3), .val (.long q4), .second, .val (.long q5), .second, .val (.long q6), .second, .val (.long q7), .second, .val (.long q8), .second, .val (.long q9), .second, .val (.int (2 : Int32))] [(.int (own_lo q6)), (.int (1 : Int32)), (.ref a1)])) rfl rfl (hb hby d1_45) (k := 1) ⟨by decide, rfl, by decide⟩ ?_
    intro T14 h14 L14 X14 e14 N14 W14 V_a1
    have Z14 := own_sz W14 Z12
    have V_a2 := V_a2.other W14 (Ne.symm ne12)
    have V_a3 := V_a3.other W14 (Ne.symm ne13)
    have K0 := K0.wr W14 (Or.inl (List.mem_of_getElem? (i := 0) rfl))
    show Go _ _ _ _ T14 (mkF m 46 #[.val (.ref a1), .val (.ref a2), .val (.ref a3), .val (.long q4), .second, .val (.long q5), .second, .val (.long q6), .second, .val (.long q7), .second, .val (.long q8), .second, .val (.long q9), .second, .val (.int (2 : Int32))] [])
    refine Go.st (fun t k => XS.aloadN X14.here hx rfl (hb hby d1_46) rfl rfl k) ?_
    show Go _ _ _ _ T14 (mkF m 47 #[.val (.ref a1), .val (.ref a2), .val (.ref a3), .val (.long q4), .second, .val (.long q5), .second, .val (.long q6), .second, .val (.long q7), .second, .val (.long q8), .second, .val (.long q9), .second, .val (.int (2 : Int32))] [(.ref a2)])
    refine Go.st (fun t k => XS.iconst X14.here hx rfl (hb hby d1_47) k) ?_
    show Go _ _ _ _ T14 (mkF m 48 #[.val (.ref a1), .val (.ref a2), .val (.ref a3), .val (.long q4), .second, .val (.long q5), .second, .val (.long q6), .second, .val (.long q7), .second, .val (.long q8), .second, .val (.long q9), .second, .val (.int (2 : Int32))] [(.int (1 : Int32)), (.ref a2)])
    refine Go.st (fun t k => XS.lload X14.here hx rfl (hb hby d1_48) rfl k) ?_
    show Go _ _ _ _ T14 (mkF m 50 #[.val (.ref a1), .val (.ref a2), .val (.ref a3), .val (.long q4), .second, .val (.long q5), .second, .val (.long q6), .second, .val (.long q7), .second, .val (.long q8), .second, .val (.long q9), .second, .val (.int (2 : Int32))] [(.long q6), (.int (1 : Int32)), (.ref a2)])
    refine goS X14 hx hZ (y := (⟨"com/example/counterpath/counterpath/util/CombinationsNextPinLaw", "hi", "(J)I"⟩ : MethodName)) hown (hw _ (List.mem_of_getElem? (i := 25) rfl)) (hw _ (List.mem_of_getElem? (i := 26) rfl)) (hw _ (List.mem_of_getElem? (i := 3) rfl)) (hw _ (List.mem_of_getElem? (i := 27) rfl)) (by decide) (rm8 l Z a0 hw q6 h14 n0 Z14) e14 N14 2 (by decide) (by decide) (by decide) (by decide) (g := (mkF m 50 #[.val (.ref a1), .val (.ref a2), .val (.ref a3), .val (.long q4), .second, .val (.long q5), .second, .val (.long q6), .second, .val (.long q7), .second, .val (.long q8), .second, .val (.long q9), .second, .val (.int (2 : Int32))] [(.long q6), (.int (1 : Int32)), (.ref a2)])) rfl (by rw [hml]; rfl) [(.long q6)] [(.int (1 : Int32)), (.ref a2)] (lenOf pd1_0 rfl) rfl rfl (by show 2 * 0 + _ ≤ _; exact Nat.le_of_eq rfl) (hb hby d1_50) ?_
    intro T15 v15 L15 M15 X15 N15 hq15
    obtain ⟨rfl, N15q, e15⟩ := hq15
    replace N15 := N15 N15q
    show Go _ _ _ _ T15 (mkF m 53 #[.val (.ref a1), .val (.ref a2), .val (.ref a3), .val (.long q4), .second, .val (.long q5), .second, .val (.long q6), .second, .val (.long q7), .second, .val (.long q8), .second, .val (.long q9), .second, .val (.int (2 : Int32))] [(.int (own_hi q6)), (.int (1 : Int32)), (.ref a2)])
    refine goStI X15 hx hZ e15 N15 V_a2 g_a2 (g := (mkF m 53 #[.val (.ref a1), .val (.ref a2), .val (.ref a3), .val (.long q4), .second, .val (.long q5), .second, .val (.long q6), .second, .val (.long q7), .second, .val (.long q8), .second, .val (.long q9), .second, .val (.int (2 : Int32))] [(.int (own_hi q6)), (.int (1 : Int32)), (.ref a2)])) rfl rfl (hb hby d1_53) (k := 1) ⟨by decide, rfl, by decide⟩ ?_
    intro T16 h16 L16 X16 e16 N16 W16 V_a2
    have Z16 := own_sz W16 Z14
    have V_a1 := V_a1.other W16 ne12
    have V_a3 := V_a3.other W16 (Ne.symm ne23)
    have K0 := K0.wr W16 (Or.inl (List.mem_of_getElem? (i := 1) rfl))
    show Go _ _ _ _ T16 (mkF m 54 #[.val (.ref a1), .val (.ref a2), .val (.ref a3), .val (.long q4), .second, .val (.long q5), .second, .val (.long q6), .second, .val (.long q7), .second, .val (.long q8), .second, .val (.long q9), .second, .val (.int (2 : Int32))] [])
    refine Go.st (fun t k => XS.aloadN X16.here hx rfl (hb hby d1_54) rfl rfl k) ?_
    show Go _ _ _ _ T16 (mkF m 55 #[.val (.ref a1), .val (.ref a2), .val (.ref a3), .val (.long q4), .second, .val (.long q5), .second, .val (.long q6), .second, .val (.long q7), .second, .val (.long q8), .second, .val (.long q9), .second, .val (.int (2 : Int32))] [(.ref a3)])
    refine Go.st (fun t k => XS.iconst X16.here hx rfl (hb hby d1_55) k) ?_
    show Go _ _ _ _ T16 (mkF m 56 #[.val (.ref a1), .val (.ref a2), .val (.ref a3), .val (.long q4), .second, .val (.long q5), .second, .val (.long q6), .second, .val (.long q7), .second, .val (.long q8), .second, .val (.long q9), .second, .val (.int (2 : Int32))] [(.int (1 : Int32)), (.ref a3)])
    refine Go.st (fun t k => XS.lload X16.here hx rfl (hb hby d1_56) rfl k) ?_
    show Go _ _ _ _ T16 (mkF m 58 #[.val (.ref a1), .val (.ref a2), .val (.ref a3), .val (.long q4), .second, .val (.long q5), .second, .val (.long q6), .second, .val (.long q7), .second, .val (.long q8), .second, .val (.long q9), .second, .val (.int (2 : Int32))] [(.long q6), (.int (1 : Int32)), (.ref a3)])
    refine Go.st (fun t k => XS.lload X16.here hx rfl (hb hby d1_58) rfl k) ?_
    show Go _ _ _ _ T16 (mkF m 60 #[.val (.ref a1), .val (.ref a2), .val (.ref a3), .val (.long q4), .second, .val (.long q5), .second, .val (.long q6), .second, .val (.long q7), .second, .val (.long q8), .second, .val (.long q9), .second, .val (.int (2 : Int32))] [(.long q7), (.long q6), (.int (1 : Int32)), (.ref a3)])
    refine goS X16 hx hZ (y := (⟨"com/example/counterpath/counterpath/util/CombinationsNextPinLaw", "val", "(JJ)I"⟩ : MethodName)) hown (hw _ (List.mem_of_getElem? (i := 31) rfl)) (hw _ (List.mem_of_getElem? (i := 32) rfl)) (hw _ (List.mem_of_getElem? (i := 3) rfl)) (hw _ (List.mem_of_getElem? (i := 33) rfl)) (by decide) (rm10 l Z a0 hw q6 q7 h16 n0 Z16) e16 N16 2 (by decide) (by decide) (by decide) (by decide) (g := (mkF m 60 #[.val (.ref a1), .val (.ref a2), .val (.ref a3), .val (.long q4), .second, .val (.long q5), .second, .val (.long q6), .second, .val (.long q7), .second, .val (.long q8), .second, .val (.long q9), .second, .val (.int (2 : Int32))] [(.long q7), (.long q6), (.int (1 : Int32)), (.ref a3)])) rfl (by rw [hml]; rfl) [(.long q6), (.long q7)] [(.int (1 : Int32)), (.ref a3)] (lenOf pd1_1 rfl) rfl rfl (by show 2 * 0 + _ ≤ _; exact Nat.le_of_eq rfl) (hb hby d1_60) ?_
    intro T17 v17 L17 M17 X17 N17 hq17
    obtain ⟨rfl, N17q, e17⟩ := hq17
    replace N17 := N17 N17q
    show Go _ _ _ _ T17 (mkF m 63 #[.val (.ref a1), .val (.ref a2), .val (.ref a3), .val (.long q4), .second, .val (.long q5), .second, .val (.long q6), .second, .val (.long q7), .second, .val (.long q8), .second, .val (.long q9), .second, .val (.int (2 : Int32))] [(.int (own_val q6 q7)), (.int (1 : Int32)), (.ref a3)])
    refine goStI X17 hx hZ e17 N17 V_a3 g_a3 (g := (mkF m 63 #[.val (.ref a1), .val (.ref a2), .val (.ref a3), .val (.long q4), .second, .val (.long q5), .second, .val (.long q6), .second, .val (.long q7), .second, .val (.long q8), .second, .val (.long q9), .second, .val (.int (2 : Int32))] [(.int (own_val q6 q7)), (.int (1 : Int32)), (.ref a3)])) rfl rfl (hb hby d1_63) (k := 1) ⟨by decide, rfl, by decide⟩ ?_
    intro T18 h18 L18 X18 e18 N18 W18 V_a3
    have Z18 := own_sz W18 Z16
    have V_a1 := V_a1.other W18 ne13
    have V_a2 := V_a2.other W18 ne23
    have K0 := K0.wr W18 (Or.inl (List.mem_of_getElem? (i := 2) rfl))
    show Go _ _ _ _ T18 (mkF m 64 #[.val (.ref a1), .val (.ref a2), .val (.ref a3), .val (.long q4), .second, .val (.long q5), .second, .val (.long q6), .second, .val (.long q7), .second, .val (.long q8), .second, .val (.long q9), .second, .val (.int (2 : Int32))] [])
    refine Go.st (fun t k => XS.iload X18.here hx rfl (hb hby d1_64) rfl k) ?_
    show Go _ _ _ _ T18 (mkF m 66 #[.val (.ref a1), .val (.ref a2), .val (.ref a3), .val (.long q4), .second, .val (.long q5), .second, .val (.long q6), .second, .val (.long q7), .second, .val (.long q8), .second, .val (.long q9), .second, .val (.int (2 : Int32))] [(.int (2 : Int32))])
    refine Go.st (fun t k => XS.iconst X18.here hx rfl (hb hby d1_66) k) ?_
    show Go _ _ _ _ T18 (mkF m 67 #[.val (.ref a1), .val (.ref a2), .val (.ref a3), .val (.long q4), .second, .val (.long q5), .second, .val (.long q6), .second, .val (.long q7), .second, .val (.long q8), .second, .val (.long q9), .second, .val (.int (2 : Int32))] [(.int (2 : Int32)), (.int (2 : Int32))])
    refine Go.st (fun t k => XS.icmpYes X18.here hx rfl (pc0 := 67) (pc' := 96) rfl (hb hby d1_67) rfl (by decide) (by decide) (by decide) k) ?_
    show Go _ _ _ _ T18 (mkF m 96 #[.val (.ref a1), .val (.ref a2), .val (.ref a3), .val (.long q4), .second, .val (.long q5), .second, .val (.long q6), .second, .val (.long q7), .second, .val (.long q8), .second, .val (.long q9), .second, .val (.int (2 : Int32))] [])
    exact goV X18 hx hret hlk (hb hby d1_96) (by decide) (by decide) (by rw [e18]; exact ⟨rfl, N18, K0, V_a1.to (fun i hi => by rcases own_lt2 hi with rfl | rfl <;> rfl), V_a2.to (fun i hi => by rcases own_lt2 hi with rfl | rfl <;> rfl), V_a3.to (fun i hi => by rcases own_lt2 hi with rfl | rfl <;> rfl)⟩)
  ·
    show Go _ _ _ _ T0 (mkF m 0 #[.val (.ref a1), .val (.ref a2), .val (.ref a3), .val (.long q4), .second, .val (.long q5), .second, .val (.long q6), .second, .val (.long q7), .second, .val (.long q8), .second, .val (.long q9), .second, .unset] [])
    show Go _ _ _ _ T0 (mkF m 0 #[.val (.ref a1), .val (.ref a2), .val (.ref a3), .val (.long q4), .second, .val (.long q5), .second, .val (.long q6), .second, .val (.long q7), .second, .val (.long q8), .second, .val (.long q9), .second, .unset] [])
    refine Go.st (fun t k => XS.aloadN X0.here hx rfl (hb hby d1_0) rfl rfl k) ?_
    show Go _ _ _ _ T0 (mkF m 1 #[.val (.ref a1), .val (.ref a2), .val (.ref a3), .val (.long q4), .second, .val (.long q5), .second, .val (.long q6), .second, .val (.long q7), .second, .val (.long q8), .second, .val (.long q9), .second, .unset] [(.ref a1)])
    refine goLen X0 hx hZ e0 V_a1 (z := (3 : Int32)) rfl (g := (mkF m 1 #[.val (.ref a1), .val (.ref a2), .val (.ref a3), .val (.long q4), .second, .val (.long q5), .second, .val (.long q6), .second, .val (.long q7), .second, .val (.long q8), .second, .val (.long q9), .second, .unset] [(.ref a1)])) rfl rfl (hb hby d1_1) ?_
    show Go _ _ _ _ T0 (mkF m 2 #[.val (.ref a1), .val (.ref a2), .val (.ref a3), .val (.long q4), .second, .val (.long q5), .second, .val (.long q6), .second, .val (.long q7), .second, .val (.long q8), .second, .val (.long q9), .second, .unset] [(.int (3 : Int32))])
    refine Go.st (fun t k => XS.istore X0.here hx rfl (hb hby d1_2) rfl (l' := #[.val (.ref a1), .val (.ref a2), .val (.ref a3), .val (.long q4), .second, .val (.long q5), .second, .val (.long q6), .second, .val (.long q7), .second, .val (.long q8), .second, .val (.long q9), .second, .val (.int (3 : Int32))]) rfl k) ?_
    show Go _ _ _ _ T0 (mkF m 4 #[.val (.ref a1), .val (.ref a2), .val (.ref a3), .val (.long q4), .second, .val (.long q5), .second, .val (.long q6), .second, .val (.long q7), .second, .val (.long q8), .second, .val (.long q9), .second, .val (.int (3 : Int32))] [])
    refine Go.st (fun t k => XS.iload X0.here hx rfl (hb hby d1_4) rfl k) ?_
    show Go _ _ _ _ T0 (mkF m 6 #[.val (.ref a1), .val (.ref a2), .val (.ref a3), .val (.long q4), .second, .val (.long q5), .second, .val (.long q6), .second, .val (.long q7), .second, .val (.long q8), .second, .val (.long q9), .second, .val (.int (3 : Int32))] [(.int (3 : Int32))])
    refine Go.st (fun t k => XS.ifNo X0.here hx rfl (hb hby d1_6) rfl (by decide) k) ?_
    show Go _ _ _ _ T0 (mkF m 9 #[.val (.ref a1), .val (.ref a2), .val (.ref a3), .val (.long q4), .second, .val (.long q5), .second, .val (.long q6), .second, .val (.long q7), .second, .val (.long q8), .second, .val (.long q9), .second, .val (.int (3 : Int32))] [])
    refine Go.st (fun t k => XS.aloadN X0.here hx rfl (hb hby d1_9) rfl rfl k) ?_
    show Go _ _ _ _ T0 (mkF m 10 #[.val (.ref a1), .val (.ref a2), .val (.ref a3), .val (.long q4), .second, .val (.long q5), .second, .val (.long q6), .second, .val (.long q7), .second, .val (.long q8), .second, .val (.long q9), .second, .val (.int (3 : Int32))] [(.ref a1)])
    refine Go.st (fun t k => XS.iconst X0.here hx rfl (hb hby d1_10) k) ?_
    show Go _ _ _ _ T0 (mkF m 11 #[.val (.ref a1), .val (.ref a2), .val (.ref a3), .val (.long q4), .second, .val (.long q5), .second, .val (.long q6), .second, .val (.long q7), .second, .val (.long q8), .second, .val (.long q9), .second, .val (.int (3 : Int32))] [(.int (0 : Int32)), (.ref a1)])
    refine Go.st (fun t k => XS.lloadN X0.here hx rfl (hb hby d1_11) rfl k) ?_
    show Go _ _ _ _ T0 (mkF m 12 #[.val (.ref a1), .val (.ref a2), .val (.ref a3), .val (.long q4), .second, .val (.long q5), .second, .val (.long q6), .second, .val (.long q7), .second, .val (.long q8), .second, .val (.long q9), .second, .val (.int (3 : Int32))] [(.long q4), (.int (0 : Int32)), (.ref a1)])
    refine goS X0 hx hZ (y := (⟨"com/example/counterpath/counterpath/util/CombinationsNextPinLaw", "lo", "(J)I"⟩ : MethodName)) hown (hw _ (List.mem_of_getElem? (i := 18) rfl)) (hw _ (List.mem_of_getElem? (i := 19) rfl)) (hw _ (List.mem_of_getElem? (i := 3) rfl)) (hw _ (List.mem_of_getElem? (i := 20) rfl)) (by decide) (rm6 l Z a0 hw q4 h0 n0 Z0) e0 N0 2 (by decide) (by decide) (by decide) (by decide) (g := (mkF m 12 #[.val (.ref a1), .val (.ref a2), .val (.ref a3), .val (.long q4), .second, .val (.long q5), .second, .val (.long q6), .second, .val (.long q7), .second, .val (.long q8), .second, .val (.long q9), .second, .val (.int (3 : Int32))] [(.long q4), (.int (0 : Int32)), (.ref a1)])) rfl (by rw [hml]; rfl) [(.long q4)] [(.int (0 : Int32)), (.ref a1)] (lenOf pd1_0 rfl) rfl rfl (by show 2 * 0 + _ ≤ _; exact Nat.le_of_eq rfl) (hb hby d1_12) ?_
    intro T19 v19 L19 M19 X19 N19 hq19
    obtain ⟨rfl, N19q, e19⟩ := hq19
    replace N19 := N19 N19q
    show Go _ _ _ _ T19 (mkF m 15 #[.val (.ref a1), .val (.ref a2), .val (.ref a3), .val (.long q4), .second, .val (.long q5), .second, .val (.long q6), .second, .val (.long q7), .second, .val (.long q8), .second, .val (.long q9), .second, .val (.int (3 : Int32))] [(.int (own_lo q4)), (.int (0 : Int32)), (.ref a1)])
    refine goStI X19 hx hZ e19 N19 V_a1 g_a1 (g := (mkF m 15 #[.val (.ref a1), .val (.ref a2), .val (.ref a3), .val (.long q4), .second, .val (.long q5), .second, .val (.long q6), .second, .val (.long q7), .second, .val (.long q8), .second, .val (.long q9), .second, .val (.int (3 : Int32))] [(.int (own_lo q4)), (.int (0 : Int32)), (.ref a1)])) rfl rfl (hb hby d1_15) (k := 0) ⟨by decide, rfl, by decide⟩ ?_
    intro T20 h20 L20 X20 e20 N20 W20 V_a1
    have Z20 := own_sz W20 Z0
    have V_a2 := V_a2.other W20 (Ne.symm ne12)
    have V_a3 := V_a3.other W20 (Ne.symm ne13)
    have K0 := K0.wr W20 (Or.inl (List.mem_of_getElem? (i := 0) rfl))
    show Go _ _ _ _ T20 (mkF m 16 #[.val (.ref a1), .val (.ref a2), .val (.ref a3), .val (.long q4), .second, .val (.long q5), .second, .val (.long q6), .second, .val (.long q7), .second, .val (.long q8), .second, .val (.long q9), .second, .val (.int (3 : Int32))] [])
    refine Go.st (fun t k => XS.aloadN X20.here hx rfl (hb hby d1_16) rfl rfl k) ?_
    show Go _ _ _ _ T20 (mkF m 17 #[.val (.ref a1), .val (.ref a2), .val (.ref a3), .val (.long q4), .second, .val (.long q5), .second, .val (.long q6), .second, .val (.long q7), .second, .val (.long q8), .second, .val (.long q9), .second, .val (.int (3 : Int32))] [(.ref a2)])
    refine Go.st (fun t k => XS.iconst X20.here hx rfl (hb hby d1_17) k) ?_
    show Go _ _ _ _ T20 (mkF m 18 #[.val (.ref a1), .val (.ref a2), .val (.ref a3), .val (.long q4), .second, .val (.long q5), .second, .val (.long q6), .second, .val (.long q7), .second, .val (.long q8), .second, .val (.long q9), .second, .val (.int (3 : Int32))] [(.int (0 : Int32)), (.ref a2)])
    refine Go.st (fun t k => XS.lloadN X20.here hx rfl (hb hby d1_18) rfl k) ?_
    show Go _ _ _ _ T20 (mkF m 19 #[.val (.ref a1), .val (.ref a2), .val (.ref a3), .val (.long q4), .second, .val (.long q5), .second, .val (.long q6), .second, .val (.long q7), .second, .val (.long q8), .second, .val (.long q9), .second, .val (.int (3 : Int32))] [(.long q4), (.int (0 : Int32)), (.ref a2)])
    refine goS X20 hx hZ (y := (⟨"com/example/counterpath/counterpath/util/CombinationsNextPinLaw", "hi", "(J)I"⟩ : MethodName)) hown (hw _ (List.mem_of_getElem? (i := 25) rfl)) (hw _ (List.mem_of_getElem? (i := 26) rfl)) (hw _ (List.mem_of_getElem? (i := 3) rfl)) (hw _ (List.mem_of_getElem? (i := 27) rfl)) (by decide) (rm8 l Z a0 hw q4 h20 n0 Z20) e20 N20 2 (by decide) (by decide) (by decide) (by decide) (g := (mkF m 19 #[.val (.ref a1), .val (.ref a2), .val (.ref a3), .val (.long q4), .second, .val (.long q5), .second, .val (.long q6), .second, .val (.long q7), .second, .val (.long q8), .second, .val (.long q9), .second, .val (.int (3 : Int32))] [(.long q4), (.int (0 : Int32)), (.ref a2)])) rfl (by rw [hml]; rfl) [(.long q4)] [(.int (0 : Int32)), (.ref a2)] (lenOf pd1_0 rfl) rfl rfl (by show 2 * 0 + _ ≤ _; exact Nat.le_of_eq rfl) (hb hby d1_19) ?_
    intro T21 v21 L21 M21 X21 N21 hq21
    obtain ⟨rfl, N21q, e21⟩ := hq21
    replace N21 := N21 N21q
    show Go _ _ _ _ T21 (mkF m 22 #[.val (.ref a1), .val (.ref a2), .val (.ref a3), .val (.long q4), .second, .val (.long q5), .second, .val (.long q6), .second, .val (.long q7), .second, .val (.long q8), .second, .val (.long q9), .second, .val (.int (3 : Int32))] [(.int (own_hi q4)), (.int (0 : Int32)), (.ref a2)])
    refine goStI X21 hx hZ e21 N21 V_a2 g_a2 (g := (mkF m 22 #[.val (.ref a1), .val (.ref a2), .val (.ref a3), .val (.long q4), .second, .val (.long q5), .second, .val (.long q6), .second, .val (.long q7), .second, .val (.long q8), .second, .val (.long q9), .second, .val (.int (3 : Int32))] [(.int (own_hi q4)), (.int (0 : Int32)), (.ref a2)])) rfl rfl (hb hby d1_22) (k := 0) ⟨by decide, rfl, by decide⟩ ?_
    intro T22 h22 L22 X22 e22 N22 W22 V_a2
    have Z22 := own_sz W22 Z20
    have V_a1 := V_a1.other W22 ne12
    have V_a3 := V_a3.other W22 (Ne.symm ne23)
    have K0 := K0.wr W22 (Or.inl (List.mem_of_getElem? (i := 1) rfl))
    show Go _ _ _ _ T22 (mkF m 23 #[.val (.ref a1), .val (.ref a2), .val (.ref a3), .val (.long q4), .second, .val (.long q5), .second, .val (.long q6), .second, .val (.long q7), .second, .val (.long q8), .second, .val (.long q9), .second, .val (.int (3 : Int32))] [])
    refine Go.st (fun t k => XS.aloadN X22.here hx rfl (hb hby d1_23) rfl rfl k) ?_
    show Go _ _ _ _ T22 (mkF m 24 #[.val (.ref a1), .val (.ref a2), .val (.ref a3), .val (.long q4), .second, .val (.long q5), .second, .val (.long q6), .second, .val (.long q7), .second, .val (.long q8), .second, .val (.long q9), .second, .val (.int (3 : Int32))] [(.ref a3)])
    refine Go.st (fun t k => XS.iconst X22.here hx rfl (hb hby d1_24) k) ?_
    show Go _ _ _ _ T22 (mkF m 25 #[.val (.ref a1), .val (.ref a2), .val (.ref a3), .val (.long q4), .second, .val (.long q5), .second, .val (.long q6), .second, .val (.long q7), .second, .val (.long q8), .second, .val (.long q9), .second, .val (.int (3 : Int32))] [(.int (0 : Int32)), (.ref a3)])
    refine Go.st (fun t k => XS.lloadN X22.here hx rfl (hb hby d1_25) rfl k) ?_
    show Go _ _ _ _ T22 (mkF m 26 #[.val (.ref a1), .val (.ref a2), .val (.ref a3), .val (.long q4), .second, .val (.long q5), .second, .val (.long q6), .second, .val (.long q7), .second, .val (.long q8), .second, .val (.long q9), .second, .val (.int (3 : Int32))] [(.long q4), (.int (0 : Int32)), (.ref a3)])
    refine Go.st (fun t k => XS.lload X22.here hx rfl (hb hby d1_26) rfl k) ?_
    show Go _ _ _ _ T22 (mkF m 28 #[.val (.ref a1), .val (.ref a2), .val (.ref a3), .val (.long q4), .second, .val (.long q5), .second, .val (.long q6), .second, .val (.long q7), .second, .val (.long q8), .second, .val (.long q9), .second, .val (.int (3 : Int32))] [(.long q5), (.long q4), (.int (0 : Int32)), (.ref a3)])
    refine goS X22 hx hZ (y := (⟨"com/example/counterpath/counterpath/util/CombinationsNextPinLaw", "val", "(JJ)I"⟩ : MethodName)) hown (hw _ (List.mem_of_getElem? (i := 31) rfl)) (hw _ (List.mem_of_getElem? (i := 32) rfl)) (hw _ (List.mem_of_getElem? (i := 3) rfl)) (hw _ (List.mem_of_getElem? (i := 33) rfl)) (by decide) (rm10 l Z a0 hw q4 q5 h22 n0 Z22) e22 N22 2 (by decide) (by decide) (by decide) (by decide) (g := (mkF m 28 #[.val (.ref a1), .val (.ref a2), .val (.ref a3), .val (.long q4), .second, .val (.long q5), .second, .val (.long q6), .second, .val (.long q7), .second, .val (.long q8), .second, .val (.long q9), .second, .val (.int (3 : Int32))] [(.long q5), (.long q4), (.int (0 : Int32)), (.ref a3)])) rfl (by rw [hml]; rfl) [(.long q4), (.long q5)] [(.int (0 : Int32)), (.ref a3)] (lenOf pd1_1 rfl) rfl rfl (by show 2 * 0 + _ ≤ _; exact Nat.le_of_eq rfl) (hb hby d1_28) ?_
    intro T23 v23 L23 M23 X23 N23 hq23
    obtain ⟨rfl, N23q, e23⟩ := hq23
    replace N23 := N23 N23q
    show Go _ _ _ _ T23 (mkF m 31 #[.val (.ref a1), .val (.ref a2), .val (.ref a3), .val (.long q4), .second, .val (.long q5), .second, .val (.long q6), .second, .val (.long q7), .second, .val (.long q8), .second, .val (.long q9), .second, .val (.int (3 : Int32))] [(.int (own_val q4 q5)), (.int (0 : Int32)), (.ref a3)])
    refine goStI X23 hx hZ e23 N23 V_a3 g_a3 (g := (mkF m 31 #[.val (.ref a1), .val (.ref a2), .val (.ref a3), .val (.long q4), .second, .val (.long q5), .second, .val (.long q6), .second, .val (.long q7), .second, .val (.long q8), .second, .val (.long q9), .second, .val (.int (3 : Int32))] [(.int (own_val q4 q5)), (.int (0 : Int32)), (.ref a3)])) rfl rfl (hb hby d1_31) (k := 0) ⟨by decide, rfl, by decide⟩ ?_
    intro T24 h24 L24 X24 e24 N24 W24 V_a3
    have Z24 := own_sz W24 Z22
    have V_a1 := V_a1.other W24 ne13
    have V_a2 := V_a2.other W24 ne23
    have K0 := K0.wr W24 (Or.inl (List.mem_of_getElem? (i := 2) rfl))
    show Go _ _ _ _ T24 (mkF m 32 #[.val (.ref a1), .val (.ref a2), .val (.ref a3), .val (.long q4), .second, .val (.long q5), .second, .val (.long q6), .second, .val (.long q7), .second, .val (.long q8), .second, .val (.long q9), .second, .val (.int (3 : Int32))] [])
    refine Go.st (fun t k => XS.iload X24.here hx rfl (hb hby d1_32) rfl k) ?_
    show Go _ _ _ _ T24 (mkF m 34 #[.val (.ref a1), .val (.ref a2), .val (.ref a3), .val (.long q4), .second, .val (.long q5), .second, .val (.long q6), .second, .val (.long q7), .second, .val (.long q8), .second, .val (.long q9), .second, .val (.int (3 : Int32))] [(.int (3 : Int32))])
    refine Go.st (fun t k => XS.iconst X24.here hx rfl (hb hby d1_34) k) ?_
    show Go _ _ _ _ T24 (mkF m 35 #[.val (.ref a1), .val (.ref a2), .val (.ref a3), .val (.long q4), .second, .val (.long q5), .second, .val (.long q6), .second, .val (.long q7), .second, .val (.long q8), .second, .val (.long q9), .second, .val (.int (3 : Int32))] [(.int (1 : Int32)), (.int (3 : Int32))])
    refine Go.st (fun t k => XS.icmpNo X24.here hx rfl (hb hby d1_35) rfl (by decide) k) ?_
    show Go _ _ _ _ T24 (mkF m 38 #[.val (.ref a1), .val (.ref a2), .val (.ref a3), .val (.long q4), .second, .val (.long q5), .second, .val (.long q6), .second, .val (.long q7), .second, .val (.long q8), .second, .val (.long q9), .second, .val (.int (3 : Int32))] [])
    refine Go.st (fun t k => XS.aloadN X24.here hx rfl (hb hby d1_38) rfl rfl k) ?_
    show Go _ _ _ _ T24 (mkF m 39 #[.val (.ref a1), .val (.ref a2), .val (.ref a3), .val (.long q4), .second, .val (.long q5), .second, .val (.long q6), .second, .val (.long q7), .second, .val (.long q8), .second, .val (.long q9), .second, .val (.int (3 : Int32))] [(.ref a1)])
    refine Go.st (fun t k => XS.iconst X24.here hx rfl (hb hby d1_39) k) ?_
    show Go _ _ _ _ T24 (mkF m 40 #[.val (.ref a1), .val (.ref a2), .val (.ref a3), .val (.long q4), .second, .val (.long q5), .second, .val (.long q6), .second, .val (.long q7), .second, .val (.long q8), .second, .val (.long q9), .second, .val (.int (3 : Int32))] [(.int (1 : Int32)), (.ref a1)])
    refine Go.st (fun t k => XS.lload X24.here hx rfl (hb hby d1_40) rfl k) ?_
    show Go _ _ _ _ T24 (mkF m 42 #[.val (.ref a1), .val (.ref a2), .val (.ref a3), .val (.long q4), .second, .val (.long q5), .second, .val (.long q6), .second, .val (.long q7), .second, .val (.long q8), .second, .val (.long q9), .second, .val (.int (3 : Int32))] [(.long q6), (.int (1 : Int32)), (.ref a1)])
    refine goS X24 hx hZ (y := (⟨"com/example/counterpath/counterpath/util/CombinationsNextPinLaw", "lo", "(J)I"⟩ : MethodName)) hown (hw _ (List.mem_of_getElem? (i := 18) rfl)) (hw _ (List.mem_of_getElem? (i := 19) rfl)) (hw _ (List.mem_of_getElem? (i := 3) rfl)) (hw _ (List.mem_of_getElem? (i := 20) rfl)) (by decide) (rm6 l Z a0 hw q6 h24 n0 Z24) e24 N24 2 (by decide) (by decide) (by decide) (by decide) (g := (mkF m 42 #[.val (.ref a1), .val (.ref a2), .val (.ref a3), .val (.long q4), .second, .val (.long q5), .second, .val (.long q6), .second, .val (.long q7), .second, .val (.long q8), .second, .val (.long q9), .second, .val (.int (3 : Int32))] [(.long q6), (.int (1 : Int32)), (.ref a1)])) rfl (by rw [hml]; rfl) [(.long q6)] [(.int (1 : Int32)), (.ref a1)] (lenOf pd1_0 rfl) rfl rfl (by show 2 * 0 + _ ≤ _; exact Nat.le_of_eq rfl) (hb hby d1_42) ?_
    intro T25 v25 L25 M25 X25 N25 hq25
    obtain ⟨rfl, N25q, e25⟩ := hq25
    replace N25 := N25 N25q
    show Go _ _ _ _ T25 (mkF m 45 #[.val (.ref a1), .val (.ref a2), .val (.ref a3), .val (.long q4), .second, .val (.long q5), .second, .val (.long q6), .second, .val (.long q7), .second, .val (.long q8), .second, .val (.long q9), .second, .val (.int (3 : Int32))] [(.int (own_lo q6)), (.int (1 : Int32)), (.ref a1)])
    refine goStI X25 hx hZ e25 N25 V_a1 g_a1 (g := (mkF m 45 #[.val (.ref a1), .val (.ref a2), .val (.ref a3), .val (.long q4), .second, .val (.long q5), .second, .val (.long q6), .second, .val (.long q7), .second, .val (.long q8), .second, .val (.long q9), .second, .val (.int (3 : Int32))] [(.int (own_lo q6)), (.int (1 : Int32)), (.ref a1)])) rfl rfl (hb hby d1_45) (k := 1) ⟨by decide, rfl, by decide⟩ ?_
    intro T26 h26 L26 X26 e26 N26 W26 V_a1
    have Z26 := own_sz W26 Z24
    have V_a2 := V_a2.other W26 (Ne.symm ne12)
    have V_a3 := V_a3.other W26 (Ne.symm ne13)
    have K0 := K0.wr W26 (Or.inl (List.mem_of_getElem? (i := 0) rfl))
    show Go _ _ _ _ T26 (mkF m 46 #[.val (.ref a1), .val (.ref a2), .val (.ref a3), .val (.long q4), .second, .val (.long q5), .second, .val (.long q6), .second, .val (.long q7), .second, .val (.long q8), .second, .val (.long q9), .second, .val (.int (3 : Int32))] [])
    refine Go.st (fun t k => XS.aloadN X26.here hx rfl (hb hby d1_46) rfl rfl k) ?_
    show Go _ _ _ _ T26 (mkF m 47 #[.val (.ref a1), .val (.ref a2), .val (.ref a3), .val (.long q4), .second, .val (.long q5), .second, .val (.long q6), .second, .val (.long q7), .second, .val (.long q8), .second, .val (.long q9), .second, .val (.int (3 : Int32))] [(.ref a2)])
    refine Go.st (fun t k => XS.iconst X26.here hx rfl (hb hby d1_47) k) ?_
    show Go _ _ _ _ T26 (mkF m 48 #[.val (.ref a1), .val (.ref a2), .val (.ref a3), .val (.long q4), .second, .val (.long q5), .second, .val (.long q6), .second, .val (.long q7), .second, .val (.long q8), .second, .val (.long q9), .second, .val (.int (3 : Int32))] [(.int (1 : Int32)), (.ref a2)])
    refine Go.st (fun t k => XS.lload X26.here hx rfl (hb hby d1_48) rfl k) ?_
    show Go _ _ _ _ T26 (mkF m 50 #[.val (.ref a1), .val (.ref a2), .val (.ref a3), .val (.long q4), .second, .val (.long q5), .second, .val (.long q6), .second, .val (.long q7), .second, .val (.long q8), .second, .val (.long q9), .second, .val (.int (3 : Int32))] [(.long q6), (.int (1 : Int32)), (.ref a2)])
    refine goS X26 hx hZ (y := (⟨"com/example/counterpath/counterpath/util/CombinationsNextPinLaw", "hi", "(J)I"⟩ : MethodName)) hown (hw _ (List.mem_of_getElem? (i := 25) rfl)) (hw _ (List.mem_of_getElem? (i := 26) rfl)) (hw _ (List.mem_of_getElem? (i := 3) rfl)) (hw _ (List.mem_of_getElem? (i := 27) rfl)) (by decide) (rm8 l Z a0 hw q6 h26 n0 Z26) e26 N26 2 (by decide) (by decide) (by decide) (by decide) (g := (mkF m 50 #[.val (.ref a1), .val (.ref a2), .val (.ref a3), .val (.long q4), .second, .val (.long q5), .second, .val (.long q6), .second, .val (.long q7), .second, .val (.long q8), .second, .val (.long q9), .second, .val (.int (3 : Int32))] [(.long q6), (.int (1 : Int32)), (.ref a2)])) rfl (by rw [hml]; rfl) [(.long q6)] [(.int (1 : Int32)), (.ref a2)] (lenOf pd1_0 rfl) rfl rfl (by show 2 * 0 + _ ≤ _; exact Nat.le_of_eq rfl) (hb hby d1_50) ?_
    intro T27 v27 L27 M27 X27 N27 hq27
    obtain ⟨rfl, N27q, e27⟩ := hq27
    replace N27 := N27 N27q
    show Go _ _ _ _ T27 (mkF m 53 #[.val (.ref a1), .val (.ref a2), .val (.ref a3), .val (.long q4), .second, .val (.long q5), .second, .val (.long q6), .second, .val (.long q7), .second, .val (.long q8), .second, .val (.long q9), .second, .val (.int (3 : Int32))] [(.int (own_hi q6)), (.int (1 : Int32)), (.ref a2)])
    refine goStI X27 hx hZ e27 N27 V_a2 g_a2 (g := (mkF m 53 #[.val (.ref a1), .val (.ref a2), .val (.ref a3), .val (.long q4), .second, .val (.long q5), .second, .val (.long q6), .second, .val (.long q7), .second, .val (.long q8), .second, .val (.long q9), .second, .val (.int (3 : Int32))] [(.int (own_hi q6)), (.int (1 : Int32)), (.ref a2)])) rfl rfl (hb hby d1_53) (k := 1) ⟨by decide, rfl, by decide⟩ ?_
    intro T28 h28 L28 X28 e28 N28 W28 V_a2
    have Z28 := own_sz W28 Z26
    have V_a1 := V_a1.other W28 ne12
    have V_a3 := V_a3.other W28 (Ne.symm ne23)
    have K0 := K0.wr W28 (Or.inl (List.mem_of_getElem? (i := 1) rfl))
    show Go _ _ _ _ T28 (mkF m 54 #[.val (.ref a1), .val (.ref a2), .val (.ref a3), .val (.long q4), .second, .val (.long q5), .second, .val (.long q6), .second, .val (.long q7), .second, .val (.long q8), .second, .val (.long q9), .second, .val (.int (3 : Int32))] [])
    refine Go.st (fun t k => XS.aloadN X28.here hx rfl (hb hby d1_54) rfl rfl k) ?_
    show Go _ _ _ _ T28 (mkF m 55 #[.val (.ref a1), .val (.ref a2), .val (.ref a3), .val (.long q4), .second, .val (.long q5), .second, .val (.long q6), .second, .val (.long q7), .second, .val (.long q8), .second, .val (.long q9), .second, .val (.int (3 : Int32))] [(.ref a3)])
    refine Go.st (fun t k => XS.iconst X28.here hx rfl (hb hby d1_55) k) ?_
    show Go _ _ _ _ T28 (mkF m 56 #[.val (.ref a1), .val (.ref a2), .val (.ref a3), .val (.long q4), .second, .val (.long q5), .second, .val (.long q6), .second, .val (.long q7), .second, .val (.long q8), .second, .val (.long q9), .second, .val (.int (3 : Int32))] [(.int (1 : Int32)), (.ref a3)])
    refine Go.st (fun t k => XS.lload X28.here hx rfl (hb hby d1_56) rfl k) ?_
    show Go _ _ _ _ T28 (mkF m 58 #[.val (.ref a1), .val (.ref a2), .val (.ref a3), .val (.long q4), .second, .val (.long q5), .second, .val (.long q6), .second, .val (.long q7), .second, .val (.long q8), .second, .val (.long q9), .second, .val (.int (3 : Int32))] [(.long q6), (.int (1 : Int32)), (.ref a3)])
    refine Go.st (fun t k => XS.lload X28.here hx rfl (hb hby d1_58) rfl k) ?_
    show Go _ _ _ _ T28 (mkF m 60 #[.val (.ref a1), .val (.ref a2), .val (.ref a3), .val (.long q4), .second, .val (.long q5), .second, .val (.long q6), .second, .val (.long q7), .second, .val (.long q8), .second, .val (.long q9), .second, .val (.int (3 : Int32))] [(.long q7), (.long q6), (.int (1 : Int32)), (.ref a3)])
    refine goS X28 hx hZ (y := (⟨"com/example/counterpath/counterpath/util/CombinationsNextPinLaw", "val", "(JJ)I"⟩ : MethodName)) hown (hw _ (List.mem_of_getElem? (i := 31) rfl)) (hw _ (List.mem_of_getElem? (i := 32) rfl)) (hw _ (List.mem_of_getElem? (i := 3) rfl)) (hw _ (List.mem_of_getElem? (i := 33) rfl)) (by decide) (rm10 l Z a0 hw q6 q7 h28 n0 Z28) e28 N28 2 (by decide) (by decide) (by decide) (by decide) (g := (mkF m 60 #[.val (.ref a1), .val (.ref a2), .val (.ref a3), .val (.long q4), .second, .val (.long q5), .second, .val (.long q6), .second, .val (.long q7), .second, .val (.long q8), .second, .val (.long q9), .second, .val (.int (3 : Int32))] [(.long q7), (.long q6), (.int (1 : Int32)), (.ref a3)])) rfl (by rw [hml]; rfl) [(.long q6), (.long q7)] [(.int (1 : Int32)), (.ref a3)] (lenOf pd1_1 rfl) rfl rfl (by show 2 * 0 + _ ≤ _; exact Nat.le_of_eq rfl) (hb hby d1_60) ?_
    intro T29 v29 L29 M29 X29 N29 hq29
    obtain ⟨rfl, N29q, e29⟩ := hq29
    replace N29 := N29 N29q
    show Go _ _ _ _ T29 (mkF m 63 #[.val (.ref a1), .val (.ref a2), .val (.ref a3), .val (.long q4), .second, .val (.long q5), .second, .val (.long q6), .second, .val (.long q7), .second, .val (.long q8), .second, .val (.long q9), .second, .val (.int (3 : Int32))] [(.int (own_val q6 q7)), (.int (1 : Int32)), (.ref a3)])
    refine goStI X29 hx hZ e29 N29 V_a3 g_a3 (g := (mkF m 63 #[.val (.ref a1), .val (.ref a2), .val (.ref a3), .val (.long q4), .second, .val (.long q5), .second, .val (.long q6), .second, .val (.long q7), .second, .val (.long q8), .second, .val (.long q9), .second, .val (.int (3 : Int32))] [(.int (own_val q6 q7)), (.int (1 : Int32)), (.ref a3)])) rfl rfl (hb hby d1_63) (k := 1) ⟨by decide, rfl, by decide⟩ ?_
    intro T30 h30 L30 X30 e30 N30 W30 V_a3
    have Z30 := own_sz W30 Z28
    have V_a1 := V_a1.other W30 ne13
    have V_a2 := V_a2.other W30 ne23
    have K0 := K0.wr W30 (Or.inl (List.mem_of_getElem? (i := 2) rfl))
    show Go _ _ _ _ T30 (mkF m 64 #[.val (.ref a1), .val (.ref a2), .val (.ref a3), .val (.long q4), .second, .val (.long q5), .second, .val (.long q6), .second, .val (.long q7), .second, .val (.long q8), .second, .val (.long q9), .second, .val (.int (3 : Int32))] [])
    refine Go.st (fun t k => XS.iload X30.here hx rfl (hb hby d1_64) rfl k) ?_
    show Go _ _ _ _ T30 (mkF m 66 #[.val (.ref a1), .val (.ref a2), .val (.ref a3), .val (.long q4), .second, .val (.long q5), .second, .val (.long q6), .second, .val (.long q7), .second, .val (.long q8), .second, .val (.long q9), .second, .val (.int (3 : Int32))] [(.int (3 : Int32))])
    refine Go.st (fun t k => XS.iconst X30.here hx rfl (hb hby d1_66) k) ?_
    show Go _ _ _ _ T30 (mkF m 67 #[.val (.ref a1), .val (.ref a2), .val (.ref a3), .val (.long q4), .second, .val (.long q5), .second, .val (.long q6), .second, .val (.long q7), .second, .val (.long q8), .second, .val (.long q9), .second, .val (.int (3 : Int32))] [(.int (2 : Int32)), (.int (3 : Int32))])
    refine Go.st (fun t k => XS.icmpNo X30.here hx rfl (hb hby d1_67) rfl (by decide) k) ?_
    show Go _ _ _ _ T30 (mkF m 70 #[.val (.ref a1), .val (.ref a2), .val (.ref a3), .val (.long q4), .second, .val (.long q5), .second, .val (.long q6), .second, .val (.long q7), .second, .val (.long q8), .second, .val (.long q9), .second, .val (.int (3 : Int32))] [])
    refine Go.st (fun t k => XS.aloadN X30.here hx rfl (hb hby d1_70) rfl rfl k) ?_
    show Go _ _ _ _ T30 (mkF m 71 #[.val (.ref a1), .val (.ref a2), .val (.ref a3), .val (.long q4), .second, .val (.long q5), .second, .val (.long q6), .second, .val (.long q7), .second, .val (.long q8), .second, .val (.long q9), .second, .val (.int (3 : Int32))] [(.ref a1)])
    refine Go.st (fun t k => XS.iconst X30.here hx rfl (hb hby d1_71) k) ?_
    show Go _ _ _ _ T30 (mkF m 72 #[.val (.ref a1), .val (.ref a2), .val (.ref a3), .val (.long q4), .second, .val (.long q5), .second, .val (.long q6), .second, .val (.long q7), .second, .val (.long q8), .second, .val (.long q9), .second, .val (.int (3 : Int32))] [(.int (2 : Int32)), (.ref a1)])
    refine Go.st (fun t k => XS.lload X30.here hx rfl (hb hby d1_72) rfl k) ?_
    show Go _ _ _ _ T30 (mkF m 74 #[.val (.ref a1), .val (.ref a2), .val (.ref a3), .val (.long q4), .second, .val (.long q5), .second, .val (.long q6), .second, .val (.long q7), .second, .val (.long q8), .second, .val (.long q9), .second, .val (.int (3 : Int32))] [(.long q8), (.int (2 : Int32)), (.ref a1)])
    refine goS X30 hx hZ (y := (⟨"com/example/counterpath/counterpath/util/CombinationsNextPinLaw", "lo", "(J)I"⟩ : MethodName)) hown (hw _ (List.mem_of_getElem? (i := 18) rfl)) (hw _ (List.mem_of_getElem? (i := 19) rfl)) (hw _ (List.mem_of_getElem? (i := 3) rfl)) (hw _ (List.mem_of_getElem? (i := 20) rfl)) (by decide) (rm6 l Z a0 hw q8 h30 n0 Z30) e30 N30 2 (by decide) (by decide) (by decide) (by decide) (g := (mkF m 74 #[.val (.ref a1), .val (.ref a2), .val (.ref a3), .val (.long q4), .second, .val (.long q5), .second, .val (.long q6), .second, .val (.long q7), .second, .val (.long q8), .second, .val (.long q9), .second, .val (.int (3 : Int32))] [(.long q8), (.int (2 : Int32)), (.ref a1)])) rfl (by rw [hml]; rfl) [(.long q8)] [(.int (2 : Int32)), (.ref a1)] (lenOf pd1_0 rfl) rfl rfl (by show 2 * 0 + _ ≤ _; exact Nat.le_of_eq rfl) (hb hby d1_74) ?_
    intro T31 v31 L31 M31 X31 N31 hq31
    obtain ⟨rfl, N31q, e31⟩ := hq31
    replace N31 := N31 N31q
    show Go _ _ _ _ T31 (mkF m 77 #[.val (.ref a1), .val (.ref a2), .val (.ref a3), .val (.long q4), .second, .val (.long q5), .second, .val (.long q6), .second, .val (.long q7), .second, .val (.long q8), .second, .val (.long q9), .second, .val (.int (3 : Int32))] [(.int (own_lo q8)), (.int (2 : Int32)), (.ref a1)])
    refine goStI X31 hx hZ e31 N31 V_a1 g_a1 (g := (mkF m 77 #[.val (.ref a1), .val (.ref a2), .val (.ref a3), .val (.long q4), .second, .val (.long q5), .second, .val (.long q6), .second, .val (.long q7), .second, .val (.long q8), .second, .val (.long q9), .second, .val (.int (3 : Int32))] [(.int (own_lo q8)), (.int (2 : Int32)), (.ref a1)])) rfl rfl (hb hby d1_77) (k := 2) ⟨by decide, rfl, by decide⟩ ?_
    intro T32 h32 L32 X32 e32 N32 W32 V_a1
    have Z32 := own_sz W32 Z30
    have V_a2 := V_a2.other W32 (Ne.symm ne12)
    have V_a3 := V_a3.other W32 (Ne.symm ne13)
    have K0 := K0.wr W32 (Or.inl (List.mem_of_getElem? (i := 0) rfl))
    show Go _ _ _ _ T32 (mkF m 78 #[.val (.ref a1), .val (.ref a2), .val (.ref a3), .val (.long q4), .second, .val (.long q5), .second, .val (.long q6), .second, .val (.long q7), .second, .val (.long q8), .second, .val (.long q9), .second, .val (.int (3 : Int32))] [])
    refine Go.st (fun t k => XS.aloadN X32.here hx rfl (hb hby d1_78) rfl rfl k) ?_
    show Go _ _ _ _ T32 (mkF m 79 #[.val (.ref a1), .val (.ref a2), .val (.ref a3), .val (.long q4), .second, .val (.long q5), .second, .val (.long q6), .second, .val (.long q7), .second, .val (.long q8), .second, .val (.long q9), .second, .val (.int (3 : Int32))] [(.ref a2)])
    refine Go.st (fun t k => XS.iconst X32.here hx rfl (hb hby d1_79) k) ?_
    show Go _ _ _ _ T32 (mkF m 80 #[.val (.ref a1), .val (.ref a2), .val (.ref a3), .val (.long q4), .second, .val (.long q5), .second, .val (.long q6), .second, .val (.long q7), .second, .val (.long q8), .second, .val (.long q9), .second, .val (.int (3 : Int32))] [(.int (2 : Int32)), (.ref a2)])
    refine Go.st (fun t k => XS.lload X32.here hx rfl (hb hby d1_80) rfl k) ?_
    show Go _ _ _ _ T32 (mkF m 82 #[.val (.ref a1), .val (.ref a2), .val (.ref a3), .val (.long q4), .second, .val (.long q5), .second, .val (.long q6), .second, .val (.long q7), .second, .val (.long q8), .second, .val (.long q9), .second, .val (.int (3 : Int32))] [(.long q8), (.int (2 : Int32)), (.ref a2)])
    refine goS X32 hx hZ (y := (⟨"com/example/counterpath/counterpath/util/CombinationsNextPinLaw", "hi", "(J)I"⟩ : MethodName)) hown (hw _ (List.mem_of_getElem? (i := 25) rfl)) (hw _ (List.mem_of_getElem? (i := 26) rfl)) (hw _ (List.mem_of_getElem? (i := 3) rfl)) (hw _ (List.mem_of_getElem? (i := 27) rfl)) (by decide) (rm8 l Z a0 hw q8 h32 n0 Z32) e32 N32 2 (by decide) (by decide) (by decide) (by decide) (g := (mkF m 82 #[.val (.ref a1), .val (.ref a2), .val (.ref a3), .val (.long q4), .second, .val (.long q5), .second, .val (.long q6), .second, .val (.long q7), .second, .val (.long q8), .second, .val (.long q9), .second, .val (.int (3 : Int32))] [(.long q8), (.int (2 : Int32)), (.ref a2)])) rfl (by rw [hml]; rfl) [(.long q8)] [(.int (2 : Int32)), (.ref a2)] (lenOf pd1_0 rfl) rfl rfl (by show 2 * 0 + _ ≤ _; exact Nat.le_of_eq rfl) (hb hby d1_82) ?_
    intro T33 v33 L33 M33 X33 N33 hq33
    obtain ⟨rfl, N33q, e33⟩ := hq33
    replace N33 := N33 N33q
    show Go _ _ _ _ T33 (mkF m 85 #[.val (.ref a1), .val (.ref a2), .val (.ref a3), .val (.long q4), .second, .val (.long q5), .second, .val (.long q6), .second, .val (.long q7), .second, .val (.long q8), .second, .val (.long q9), .second, .val (.int (3 : Int32))] [(.int (own_hi q8)), (.int (2 : Int32)), (.ref a2)])
    refine goStI X33 hx hZ e33 N33 V_a2 g_a2 (g := (mkF m 85 #[.val (.ref a1), .val (.ref a2), .val (.ref a3), .val (.long q4), .second, .val (.long q5), .second, .val (.long q6), .second, .val (.long q7), .second, .val (.long q8), .second, .val (.long q9), .second, .val (.int (3 : Int32))] [(.int (own_hi q8)), (.int (2 : Int32)), (.ref a2)])) rfl rfl (hb hby d1_85) (k := 2) ⟨by decide, rfl, by decide⟩ ?_
    intro T34 h34 L34 X34 e34 N34 W34 V_a2
    have Z34 := own_sz W34 Z32
    have V_a1 := V_a1.other W34 ne12
    have V_a3 := V_a3.other W34 (Ne.symm ne23)
    have K0 := K0.wr W34 (Or.inl (List.mem_of_getElem? (i := 1) rfl))
    show Go _ _ _ _ T34 (mkF m 86 #[.val (.ref a1), .val (.ref a2), .val (.ref a3), .val (.long q4), .second, .val (.long q5), .second, .val (.long q6), .second, .val (.long q7), .second, .val (.long q8), .second, .val (.long q9), .second, .val (.int (3 : Int32))] [])
    refine Go.st (fun t k => XS.aloadN X34.here hx rfl (hb hby d1_86) rfl rfl k) ?_
    show Go _ _ _ _ T34 (mkF m 87 #[.val (.ref a1), .val (.ref a2), .val (.ref a3), .val (.long q4), .second, .val (.long q5), .second, .val (.long q6), .second, .val (.long q7), .second, .val (.long q8), .second, .val (.long q9), .second, .val (.int (3 : Int32))] [(.ref a3)])
    refine Go.st (fun t k => XS.iconst X34.here hx rfl (hb hby d1_87) k) ?_
    show Go _ _ _ _ T34 (mkF m 88 #[.val (.ref a1), .val (.ref a2), .val (.ref a3), .val (.long q4), .second, .val (.long q5), .second, .val (.long q6), .second, .val (.long q7), .second, .val (.long q8), .second, .val (.long q9), .second, .val (.int (3 : Int32))] [(.int (2 : Int32)), (.ref a3)])
    refine Go.st (fun t k => XS.lload X34.here hx rfl (hb hby d1_88) rfl k) ?_
    show Go _ _ _ _ T34 (mkF m 90 #[.val (.ref a1), .val (.ref a2), .val (.ref a3), .val (.long q4), .second, .val (.long q5), .second, .val (.long q6), .second, .val (.long q7), .second, .val (.long q8), .second, .val (.long q9), .second, .val (.int (3 : Int32))] [(.long q8), (.int (2 : Int32)), (.ref a3)])
    refine Go.st (fun t k => XS.lload X34.here hx rfl (hb hby d1_90) rfl k) ?_
    show Go _ _ _ _ T34 (mkF m 92 #[.val (.ref a1), .val (.ref a2), .val (.ref a3), .val (.long q4), .second, .val (.long q5), .second, .val (.long q6), .second, .val (.long q7), .second, .val (.long q8), .second, .val (.long q9), .second, .val (.int (3 : Int32))] [(.long q9), (.long q8), (.int (2 : Int32)), (.ref a3)])
    refine goS X34 hx hZ (y := (⟨"com/example/counterpath/counterpath/util/CombinationsNextPinLaw", "val", "(JJ)I"⟩ : MethodName)) hown (hw _ (List.mem_of_getElem? (i := 31) rfl)) (hw _ (List.mem_of_getElem? (i := 32) rfl)) (hw _ (List.mem_of_getElem? (i := 3) rfl)) (hw _ (List.mem_of_getElem? (i := 33) rfl)) (by decide) (rm10 l Z a0 hw q8 q9 h34 n0 Z34) e34 N34 2 (by decide) (by decide) (by decide) (by decide) (g := (mkF m 92 #[.val (.ref a1), .val (.ref a2), .val (.ref a3), .val (.long q4), .second, .val (.long q5), .second, .val (.long q6), .second, .val (.long q7), .second, .val (.long q8), .second, .val (.long q9), .second, .val (.int (3 : Int32))] [(.long q9), (.long q8), (.int (2 : Int32)), (.ref a3)])) rfl (by rw [hml]; rfl) [(.long q8), (.long q9)] [(.int (2 : Int32)), (.ref a3)] (lenOf pd1_1 rfl) rfl rfl (by show 2 * 0 + _ ≤ _; exact Nat.le_of_eq rfl) (hb hby d1_92) ?_
    intro T35 v35 L35 M35 X35 N35 hq35
    obtain ⟨rfl, N35q, e35⟩ := hq35
    replace N35 := N35 N35q
    show Go _ _ _ _ T35 (mkF m 95 #[.val (.ref a1), .val (.ref a2), .val (.ref a3), .val (.long q4), .second, .val (.long q5), .second, .val (.long q6), .second, .val (.long q7), .second, .val (.long q8), .second, .val (.long q9), .second, .val (.int (3 : Int32))] [(.int (own_val q8 q9)), (.int (2 : Int32)), (.ref a3)])
    refine goStI X35 hx hZ e35 N35 V_a3 g_a3 (g := (mkF m 95 #[.val (.ref a1), .val (.ref a2), .val (.ref a3), .val (.long q4), .second, .val (.long q5), .second, .val (.long q6), .second, .val (.long q7), .second, .val (.long q8), .second, .val (.long q9), .second, .val (.int (3 : Int32))] [(.int (own_val q8 q9)), (.int (2 : Int32)), (.ref a3)])) rfl rfl (hb hby d1_95) (k := 2) ⟨by decide, rfl, by decide⟩ ?_
    intro T36 h36 L36 X36 e36 N36 W36 V_a3
    have Z36 := own_sz W36 Z34
    have V_a1 := V_a1.other W36 ne13
    have V_a2 := V_a2.other W36 ne23
    have K0 := K0.wr W36 (Or.inl (List.mem_of_getElem? (i := 2) rfl))
    show Go _ _ _ _ T36 (mkF m 96 #[.val (.ref a1), .val (.ref a2), .val (.ref a3), .val (.long q4), .second, .val (.long q5), .second, .val (.long q6), .second, .val (.long q7), .second, .val (.long q8), .second, .val (.long q9), .second, .val (.int (3 : Int32))] [])
    exact goV X36 hx hret hlk (hb hby d1_96) (by decide) (by decide) (by rw [e36]; exact ⟨rfl, N36, K0, V_a1.to (fun i hi => by rcases own_lt3 hi with rfl | rfl | rfl <;> rfl), V_a2.to (fun i hi => by rcases own_lt3 hi with rfl | rfl | rfl <;> rfl), V_a3.to (fun i hi => by rcases own_lt3 hi with rfl | rfl | rfl <;> rfl)⟩)
theorem d2_0 : decode method_6_code 0 = .ok (.aload_n 0, 1) := by decide +kernel
theorem d2_1 : decode method_6_code 1 = .ok (.arraylength, 1) := by decide +kernel
theorem d2_2 : decode method_6_code 2 = .ok (.istore_n 2, 1) := by decide +kernel
theorem d2_3 : decode method_6_code 3 = .ok (.aload_n 1, 1) := by decide +kernel
theorem d2_4 : decode method_6_code 4 = .ok (.arraylength, 1) := by decide +kernel
theorem d2_5 : decode method_6_code 5 = .ok (.iload_n 2, 1) := by decide +kernel
theorem d2_6 : decode method_6_code 6 = .ok (.if_icmp .eq 5, 3) := by decide +kernel
theorem d2_11 : decode method_6_code 11 = .ok (.iload_n 2, 1) := by decide +kernel
theorem d2_12 : decode method_6_code 12 = .ok (.ifCond .le 14, 3) := by decide +kernel
theorem d2_15 : decode method_6_code 15 = .ok (.aload_n 0, 1) := by decide +kernel
theorem d2_16 : decode method_6_code 16 = .ok (.iconst 0, 1) := by decide +kernel
theorem d2_17 : decode method_6_code 17 = .ok (.iaload, 1) := by decide +kernel
theorem d2_18 : decode method_6_code 18 = .ok (.aload_n 1, 1) := by decide +kernel
theorem d2_19 : decode method_6_code 19 = .ok (.iconst 0, 1) := by decide +kernel
theorem d2_20 : decode method_6_code 20 = .ok (.iaload, 1) := by decide +kernel
theorem d2_21 : decode method_6_code 21 = .ok (.if_icmp .eq 5, 3) := by decide +kernel
theorem d2_24 : decode method_6_code 24 = .ok (.iconst 0, 1) := by decide +kernel
theorem d2_25 : decode method_6_code 25 = .ok (.ireturn, 1) := by decide +kernel
theorem d2_26 : decode method_6_code 26 = .ok (.iload_n 2, 1) := by decide +kernel
theorem d2_27 : decode method_6_code 27 = .ok (.iconst 1, 1) := by decide +kernel
theorem d2_28 : decode method_6_code 28 = .ok (.if_icmp .le 14, 3) := by decide +kernel
theorem d2_31 : decode method_6_code 31 = .ok (.aload_n 0, 1) := by decide +kernel
theorem d2_32 : decode method_6_code 32 = .ok (.iconst 1, 1) := by decide +kernel
theorem d2_33 : decode method_6_code 33 = .ok (.iaload, 1) := by decide +kernel
theorem d2_34 : decode method_6_code 34 = .ok (.aload_n 1, 1) := by decide +kernel
theorem d2_35 : decode method_6_code 35 = .ok (.iconst 1, 1) := by decide +kernel
theorem d2_36 : decode method_6_code 36 = .ok (.iaload, 1) := by decide +kernel
theorem d2_37 : decode method_6_code 37 = .ok (.if_icmp .eq 5, 3) := by decide +kernel
theorem d2_40 : decode method_6_code 40 = .ok (.iconst 0, 1) := by decide +kernel
theorem d2_41 : decode method_6_code 41 = .ok (.ireturn, 1) := by decide +kernel
theorem d2_42 : decode method_6_code 42 = .ok (.iload_n 2, 1) := by decide +kernel
theorem d2_43 : decode method_6_code 43 = .ok (.iconst 2, 1) := by decide +kernel
theorem d2_44 : decode method_6_code 44 = .ok (.if_icmp .le 14, 3) := by decide +kernel
theorem d2_47 : decode method_6_code 47 = .ok (.aload_n 0, 1) := by decide +kernel
theorem d2_48 : decode method_6_code 48 = .ok (.iconst 2, 1) := by decide +kernel
theorem d2_49 : decode method_6_code 49 = .ok (.iaload, 1) := by decide +kernel
theorem d2_50 : decode method_6_code 50 = .ok (.aload_n 1, 1) := by decide +kernel
theorem d2_51 : decode method_6_code 51 = .ok (.iconst 2, 1) := by decide +kernel
theorem d2_52 : decode method_6_code 52 = .ok (.iaload, 1) := by decide +kernel
theorem d2_53 : decode method_6_code 53 = .ok (.if_icmp .eq 5, 3) := by decide +kernel
theorem d2_56 : decode method_6_code 56 = .ok (.iconst 0, 1) := by decide +kernel
theorem d2_57 : decode method_6_code 57 = .ok (.ireturn, 1) := by decide +kernel
theorem d2_58 : decode method_6_code 58 = .ok (.iconst 1, 1) := by decide +kernel
theorem d2_59 : decode method_6_code 59 = .ok (.ireturn, 1) := by decide +kernel
theorem pn_2 : plainName "com/example/counterpath/counterpath/util/CombinationsNextPinLaw" = true := by first | (simp [plainName, overriddenIn]; done) | decide +kernel
theorem ef_2 (m : MethodId) (x0 : Addr) (x1 : Addr) : entryFrame m #[(.ref x0), (.ref x1)] 3 = mkF m 0 #[.val (.ref x0), .val (.ref x1), .unset] [] := by first | (simp [entryFrame, mkF, argsToLocals, Value.category]; done) | rfl
set_option maxRecDepth 65536 in
set_option maxHeartbeats 40000000 in
theorem rm2 (l : Launch) (Z : State) (a0 : Array Value) (hw : ∀ d ∈ tables_1, d.before a0 Z = true) (a1 : Addr) (a2 : Addr) (h0 : Heap) (n0 : Nat) (Z0 : n0 ≤ h0.size) (n : Nat) (F1 F2 : Nat → Int32) (hn : n = 0 ∨ n = 1 ∨ n = 2 ∨ n = 3) (V_a1 : BA Z h0 a1 .int n (fun i => .int (F1 i))) (V_a2 : BA Z h0 a2 .int n (fun i => .int (F2 i))) :
    Does l Z (⟨"com/example/counterpath/counterpath/util/CombinationsNextPinLaw", "same", "([I[I)Z"⟩ : MethodName) method_6_code 3 (some .boolean) ({ frames := 0, cells := 0, slots := 0, locals := 0 } : Room) #[(.ref a1), (.ref a2)] h0 (fun v h L => (((∀ i, i < n → F1 i = F2 i) ∧ v = some (.int 1)) ∨ (¬ (∀ i, i < n → F1 i = F2 i) ∧ v = some (.int 0))) ∧ Fr n0 L ∧ h = h0) := by
  refine Does.body (plainFor_of_name pn_2) ?_
  intro p e s m below meth c T0 X0 hx hZ hby hml hown hnm hret hlk e0
  replace hown : s.vm.findClass "com/example/counterpath/counterpath/util/CombinationsNextPinLaw" = some m.cls := hown
  have N0 := Fr.nil n0
  refine Go.frame (ef_2 m a1 a2) ?_
  show Go _ _ _ _ T0 (mkF m 0 #[.val (.ref a1), .val (.ref a2), .unset] [])
  rcases hn with rfl | rfl | rfl | rfl
  ·
    show Go _ _ _ _ T0 (mkF m 0 #[.val (.ref a1), .val (.ref a2), .unset] [])
    show Go _ _ _ _ T0 (mkF m 0 #[.val (.ref a1), .val (.ref a2), .unset] [])
    refine Go.st (fun t k => XS.aloadN X0.here hx rfl (hb hby d2_0) rfl rfl k) ?_
    show Go _ _ _ _ T0 (mkF m 1 #[.val (.ref a1), .val (.ref a2), .unset] [(.ref a1)])
    refine goLen X0 hx hZ e0 V_a1 (z := (0 : Int32)) rfl (g := (mkF m 1 #[.val (.ref a1), .val (.ref a2), .unset] [(.ref a1)])) rfl rfl (hb hby d2_1) ?_
    show Go _ _ _ _ T0 (mkF m 2 #[.val (.ref a1), .val (.ref a2), .unset] [(.int (0 : Int32))])
    refine Go.st (fun t k => XS.istoreN X0.here hx rfl (hb hby d2_2) rfl (l' := #[.val (.ref a1), .val (.ref a2), .val (.int (0 : Int32))]) rfl k) ?_
    show Go _ _ _ _ T0 (mkF m 3 #[.val (.ref a1), .val (.ref a2), .val (.int (0 : Int32))] [])
    refine Go.st (fun t k => XS.aloadN X0.here hx rfl (hb hby d2_3) rfl rfl k) ?_
    show Go _ _ _ _ T0 (mkF m 4 #[.val (.ref a1), .val (.ref a2), .val (.int (0 : Int32))] [(.ref a2)])
    refine goLen X0 hx hZ e0 V_a2 (z := (0 : Int32)) rfl (g := (mkF m 4 #[.val (.ref a1), .val (.ref a2), .val (.int (0 : Int32))] [(.ref a2)])) rfl rfl (hb hby d2_4) ?_
    show Go _ _ _ _ T0 (mkF m 5 #[.val (.ref a1), .val (.ref a2), .val (.int (0 : Int32))] [(.int (0 : Int32))])
    refine Go.st (fun t k => XS.iloadN X0.here hx rfl (hb hby d2_5) rfl k) ?_
    show Go _ _ _ _ T0 (mkF m 6 #[.val (.ref a1), .val (.ref a2), .val (.int (0 : Int32))] [(.int (0 : Int32)), (.int (0 : Int32))])
    refine Go.st (fun t k => XS.icmpYes X0.here hx rfl (pc0 := 6) (pc' := 11) rfl (hb hby d2_6) rfl (by decide) (by decide) (by decide) k) ?_
    show Go _ _ _ _ T0 (mkF m 11 #[.val (.ref a1), .val (.ref a2), .val (.int (0 : Int32))] [])
    refine Go.st (fun t k => XS.iloadN X0.here hx rfl (hb hby d2_11) rfl k) ?_
    show Go _ _ _ _ T0 (mkF m 12 #[.val (.ref a1), .val (.ref a2), .val (.int (0 : Int32))] [(.int (0 : Int32))])
    refine Go.st (fun t k => XS.ifYes X0.here hx rfl (pc0 := 12) (pc' := 26) rfl (hb hby d2_12) rfl (by decide) (by decide) (by decide) k) ?_
    show Go _ _ _ _ T0 (mkF m 26 #[.val (.ref a1), .val (.ref a2), .val (.int (0 : Int32))] [])
    refine Go.st (fun t k => XS.iloadN X0.here hx rfl (hb hby d2_26) rfl k) ?_
    show Go _ _ _ _ T0 (mkF m 27 #[.val (.ref a1), .val (.ref a2), .val (.int (0 : Int32))] [(.int (0 : Int32))])
    refine Go.st (fun t k => XS.iconst X0.here hx rfl (hb hby d2_27) k) ?_
    show Go _ _ _ _ T0 (mkF m 28 #[.val (.ref a1), .val (.ref a2), .val (.int (0 : Int32))] [(.int (1 : Int32)), (.int (0 : Int32))])
    refine Go.st (fun t k => XS.icmpYes X0.here hx rfl (pc0 := 28) (pc' := 42) rfl (hb hby d2_28) rfl (by decide) (by decide) (by decide) k) ?_
    show Go _ _ _ _ T0 (mkF m 42 #[.val (.ref a1), .val (.ref a2), .val (.int (0 : Int32))] [])
    refine Go.st (fun t k => XS.iloadN X0.here hx rfl (hb hby d2_42) rfl k) ?_
    show Go _ _ _ _ T0 (mkF m 43 #[.val (.ref a1), .val (.ref a2), .val (.int (0 : Int32))] [(.int (0 : Int32))])
    refine Go.st (fun t k => XS.iconst X0.here hx rfl (hb hby d2_43) k) ?_
    show Go _ _ _ _ T0 (mkF m 44 #[.val (.ref a1), .val (.ref a2), .val (.int (0 : Int32))] [(.int (2 : Int32)), (.int (0 : Int32))])
    refine Go.st (fun t k => XS.icmpYes X0.here hx rfl (pc0 := 44) (pc' := 58) rfl (hb hby d2_44) rfl (by decide) (by decide) (by decide) k) ?_
    show Go _ _ _ _ T0 (mkF m 58 #[.val (.ref a1), .val (.ref a2), .val (.int (0 : Int32))] [])
    refine Go.st (fun t k => XS.iconst X0.here hx rfl (hb hby d2_58) k) ?_
    show Go _ _ _ _ T0 (mkF m 59 #[.val (.ref a1), .val (.ref a2), .val (.int (0 : Int32))] [(.int (1 : Int32))])
    exact goN X0 hx hret hlk (by simp) (hb hby d2_59) (by decide) (by decide) ⟨Or.inl ⟨fun i hi => absurd hi (Nat.not_lt_zero i), rfl⟩, N0, e0⟩
  ·
    show Go _ _ _ _ T0 (mkF m 0 #[.val (.ref a1), .val (.ref a2), .unset] [])
    show Go _ _ _ _ T0 (mkF m 0 #[.val (.ref a1), .val (.ref a2), .unset] [])
    refine Go.st (fun t k => XS.aloadN X0.here hx rfl (hb hby d2_0) rfl rfl k) ?_
    show Go _ _ _ _ T0 (mkF m 1 #[.val (.ref a1), .val (.ref a2), .unset] [(.ref a1)])
    refine goLen X0 hx hZ e0 V_a1 (z := (1 : Int32)) rfl (g := (mkF m 1 #[.val (.ref a1), .val (.ref a2), .unset] [(.ref a1)])) rfl rfl (hb hby d2_1) ?_
    show Go _ _ _ _ T0 (mkF m 2 #[.val (.ref a1), .val (.ref a2), .unset] [(.int (1 : Int32))])
    refine Go.st (fun t k => XS.istoreN X0.here hx rfl (hb hby d2_2) rfl (l' := #[.val (.ref a1), .val (.ref a2), .val (.int (1 : Int32))]) rfl k) ?_
    show Go _ _ _ _ T0 (mkF m 3 #[.val (.ref a1), .val (.ref a2), .val (.int (1 : Int32))] [])
    refine Go.st (fun t k => XS.aloadN X0.here hx rfl (hb hby d2_3) rfl rfl k) ?_
    show Go _ _ _ _ T0 (mkF m 4 #[.val (.ref a1), .val (.ref a2), .val (.int (1 : Int32))] [(.ref a2)])
    refine goLen X0 hx hZ e0 V_a2 (z := (1 : Int32)) rfl (g := (mkF m 4 #[.val (.ref a1), .val (.ref a2), .val (.int (1 : Int32))] [(.ref a2)])) rfl rfl (hb hby d2_4) ?_
    show Go _ _ _ _ T0 (mkF m 5 #[.val (.ref a1), .val (.ref a2), .val (.int (1 : Int32))] [(.int (1 : Int32))])
    refine Go.st (fun t k => XS.iloadN X0.here hx rfl (hb hby d2_5) rfl k) ?_
    show Go _ _ _ _ T0 (mkF m 6 #[.val (.ref a1), .val (.ref a2), .val (.int (1 : Int32))] [(.int (1 : Int32)), (.int (1 : Int32))])
    refine Go.st (fun t k => XS.icmpYes X0.here hx rfl (pc0 := 6) (pc' := 11) rfl (hb hby d2_6) rfl (by decide) (by decide) (by decide) k) ?_
    show Go _ _ _ _ T0 (mkF m 11 #[.val (.ref a1), .val (.ref a2), .val (.int (1 : Int32))] [])
    refine Go.st (fun t k => XS.iloadN X0.here hx rfl (hb hby d2_11) rfl k) ?_
    show Go _ _ _ _ T0 (mkF m 12 #[.val (.ref a1), .val (.ref a2), .val (.int (1 : Int32))] [(.int (1 : Int32))])
    refine Go.st (fun t k => XS.ifNo X0.here hx rfl (hb hby d2_12) rfl (by decide) k) ?_
    show Go _ _ _ _ T0 (mkF m 15 #[.val (.ref a1), .val (.ref a2), .val (.int (1 : Int32))] [])
    refine Go.st (fun t k => XS.aloadN X0.here hx rfl (hb hby d2_15) rfl rfl k) ?_
    show Go _ _ _ _ T0 (mkF m 16 #[.val (.ref a1), .val (.ref a2), .val (.int (1 : Int32))] [(.ref a1)])
    refine Go.st (fun t k => XS.iconst X0.here hx rfl (hb hby d2_16) k) ?_
    show Go _ _ _ _ T0 (mkF m 17 #[.val (.ref a1), .val (.ref a2), .val (.int (1 : Int32))] [(.int (0 : Int32)), (.ref a1)])
    refine goLdI X0 hx hZ e0 V_a1 (v := (.int (F1 0))) (g := (mkF m 17 #[.val (.ref a1), .val (.ref a2), .val (.int (1 : Int32))] [(.int (0 : Int32)), (.ref a1)])) rfl rfl (hb hby d2_17) (k := 0) ⟨by decide, rfl, by decide⟩ rfl ?_
    show Go _ _ _ _ T0 (mkF m 18 #[.val (.ref a1), .val (.ref a2), .val (.int (1 : Int32))] [(.int (F1 0))])
    refine Go.st (fun t k => XS.aloadN X0.here hx rfl (hb hby d2_18) rfl rfl k) ?_
    show Go _ _ _ _ T0 (mkF m 19 #[.val (.ref a1), .val (.ref a2), .val (.int (1 : Int32))] [(.ref a2), (.int (F1 0))])
    refine Go.st (fun t k => XS.iconst X0.here hx rfl (hb hby d2_19) k) ?_
    show Go _ _ _ _ T0 (mkF m 20 #[.val (.ref a1), .val (.ref a2), .val (.int (1 : Int32))] [(.int (0 : Int32)), (.ref a2), (.int (F1 0))])
    refine goLdI X0 hx hZ e0 V_a2 (v := (.int (F2 0))) (g := (mkF m 20 #[.val (.ref a1), .val (.ref a2), .val (.int (1 : Int32))] [(.int (0 : Int32)), (.ref a2), (.int (F1 0))])) rfl rfl (hb hby d2_20) (k := 0) ⟨by decide, rfl, by decide⟩ rfl ?_
    show Go _ _ _ _ T0 (mkF m 21 #[.val (.ref a1), .val (.ref a2), .val (.int (1 : Int32))] [(.int (F2 0)), (.int (F1 0))])
    by_cases hs0 : (F1 0) = (F2 0)
    ·
      refine Go.st (fun t k => XS.icmpYes X0.here hx rfl (pc0 := 21) (pc' := 26) rfl (hb hby d2_21) rfl (teq hs0).1 (by decide) (by decide) k) ?_
      show Go _ _ _ _ T0 (mkF m 26 #[.val (.ref a1), .val (.ref a2), .val (.int (1 : Int32))] [])
      refine Go.st (fun t k => XS.iloadN X0.here hx rfl (hb hby d2_26) rfl k) ?_
      show Go _ _ _ _ T0 (mkF m 27 #[.val (.ref a1), .val (.ref a2), .val (.int (1 : Int32))] [(.int (1 : Int32))])
      refine Go.st (fun t k => XS.iconst X0.here hx rfl (hb hby d2_27) k) ?_
      show Go _ _ _ _ T0 (mkF m 28 #[.val (.ref a1), .val (.ref a2), .val (.int (1 : Int32))] [(.int (1 : Int32)), (.int (1 : Int32))])
      refine Go.st (fun t k => XS.icmpYes X0.here hx rfl (pc0 := 28) (pc' := 42) rfl (hb hby d2_28) rfl (by decide) (by decide) (by decide) k) ?_
      show Go _ _ _ _ T0 (mkF m 42 #[.val (.ref a1), .val (.ref a2), .val (.int (1 : Int32))] [])
      refine Go.st (fun t k => XS.iloadN X0.here hx rfl (hb hby d2_42) rfl k) ?_
      show Go _ _ _ _ T0 (mkF m 43 #[.val (.ref a1), .val (.ref a2), .val (.int (1 : Int32))] [(.int (1 : Int32))])
      refine Go.st (fun t k => XS.iconst X0.here hx rfl (hb hby d2_43) k) ?_
      show Go _ _ _ _ T0 (mkF m 44 #[.val (.ref a1), .val (.ref a2), .val (.int (1 : Int32))] [(.int (2 : Int32)), (.int (1 : Int32))])
      refine Go.st (fun t k => XS.icmpYes X0.here hx rfl (pc0 := 44) (pc' := 58) rfl (hb hby d2_44) rfl (by decide) (by decide) (by decide) k) ?_
      show Go _ _ _ _ T0 (mkF m 58 #[.val (.ref a1), .val (.ref a2), .val (.int (1 : Int32))] [])
      refine Go.st (fun t k => XS.iconst X0.here hx rfl (hb hby d2_58) k) ?_
      show Go _ _ _ _ T0 (mkF m 59 #[.val (.ref a1), .val (.ref a2), .val (.int (1 : Int32))] [(.int (1 : Int32))])
      exact goN X0 hx hret hlk (by simp) (hb hby d2_59) (by decide) (by decide) ⟨Or.inl ⟨fun i hi => by rcases own_lt1 hi with rfl; exact hs0, rfl⟩, N0, e0⟩
    ·
      refine Go.st (fun t k => XS.icmpNo X0.here hx rfl (hb hby d2_21) rfl (feq hs0).1 k) ?_
      show Go _ _ _ _ T0 (mkF m 24 #[.val (.ref a1), .val (.ref a2), .val (.int (1 : Int32))] [])
      refine Go.st (fun t k => XS.iconst X0.here hx rfl (hb hby d2_24) k) ?_
      show Go _ _ _ _ T0 (mkF m 25 #[.val (.ref a1), .val (.ref a2), .val (.int (1 : Int32))] [(.int (0 : Int32))])
      exact goN X0 hx hret hlk (by simp) (hb hby d2_25) (by decide) (by decide) ⟨Or.inr ⟨fun q => hs0 (q 0 (by decide)), rfl⟩, N0, e0⟩
  ·
    show Go _ _ _ _ T0 (mkF m 0 #[.val (.ref a1), .val (.ref a2), .unset] [])
    show Go _ _ _ _ T0 (mkF m 0 #[.val (.ref a1), .val (.ref a2), .unset] [])
    refine Go.st (fun t k => XS.aloadN X0.here hx rfl (hb hby d2_0) rfl rfl k) ?_
    show Go _ _ _ _ T0 (mkF m 1 #[.val (.ref a1), .val (.ref a2), .unset] [(.ref a1)])
    refine goLen X0 hx hZ e0 V_a1 (z := (2 : Int32)) rfl (g := (mkF m 1 #[.val (.ref a1), .val (.ref a2), .unset] [(.ref a1)])) rfl rfl (hb hby d2_1) ?_
    show Go _ _ _ _ T0 (mkF m 2 #[.val (.ref a1), .val (.ref a2), .unset] [(.int (2 : Int32))])
    refine Go.st (fun t k => XS.istoreN X0.here hx rfl (hb hby d2_2) rfl (l' := #[.val (.ref a1), .val (.ref a2), .val (.int (2 : Int32))]) rfl k) ?_
    show Go _ _ _ _ T0 (mkF m 3 #[.val (.ref a1), .val (.ref a2), .val (.int (2 : Int32))] [])
    refine Go.st (fun t k => XS.aloadN X0.here hx rfl (hb hby d2_3) rfl rfl k) ?_
    show Go _ _ _ _ T0 (mkF m 4 #[.val (.ref a1), .val (.ref a2), .val (.int (2 : Int32))] [(.ref a2)])
    refine goLen X0 hx hZ e0 V_a2 (z := (2 : Int32)) rfl (g := (mkF m 4 #[.val (.ref a1), .val (.ref a2), .val (.int (2 : Int32))] [(.ref a2)])) rfl rfl (hb hby d2_4) ?_
    show Go _ _ _ _ T0 (mkF m 5 #[.val (.ref a1), .val (.ref a2), .val (.int (2 : Int32))] [(.int (2 : Int32))])
    refine Go.st (fun t k => XS.iloadN X0.here hx rfl (hb hby d2_5) rfl k) ?_
    show Go _ _ _ _ T0 (mkF m 6 #[.val (.ref a1), .val (.ref a2), .val (.int (2 : Int32))] [(.int (2 : Int32)), (.int (2 : Int32))])
    refine Go.st (fun t k => XS.icmpYes X0.here hx rfl (pc0 := 6) (pc' := 11) rfl (hb hby d2_6) rfl (by decide) (by decide) (by decide) k) ?_
    show Go _ _ _ _ T0 (mkF m 11 #[.val (.ref a1), .val (.ref a2), .val (.int (2 : Int32))] [])
    refine Go.st (fun t k => XS.iloadN X0.here hx rfl (hb hby d2_11) rfl k) ?_
    show Go _ _ _ _ T0 (mkF m 12 #[.val (.ref a1), .val (.ref a2), .val (.int (2 : Int32))] [(.int (2 : Int32))])
    refine Go.st (fun t k => XS.ifNo X0.here hx rfl (hb hby d2_12) rfl (by decide) k) ?_
    show Go _ _ _ _ T0 (mkF m 15 #[.val (.ref a1), .val (.ref a2), .val (.int (2 : Int32))] [])
    refine Go.st (fun t k => XS.aloadN X0.here hx rfl (hb hby d2_15) rfl rfl k) ?_
    show Go _ _ _ _ T0 (mkF m 16 #[.val (.ref a1), .val (.ref a2), .val (.int (2 : Int32))] [(.ref a1)])
    refine Go.st (fun t k => XS.iconst X0.here hx rfl (hb hby d2_16) k) ?_
    show Go _ _ _ _ T0 (mkF m 17 #[.val (.ref a1), .val (.ref a2), .val (.int (2 : Int32))] [(.int (0 : Int32)), (.ref a1)])
    refine goLdI X0 hx hZ e0 V_a1 (v := (.int (F1 0))) (g := (mkF m 17 #[.val (.ref a1), .val (.ref a2), .val (.int (2 : Int32))] [(.int (0 : Int32)), (.ref a1)])) rfl rfl (hb hby d2_17) (k := 0) ⟨by decide, rfl, by decide⟩ rfl ?_
    show Go _ _ _ _ T0 (mkF m 18 #[.val (.ref a1), .val (.ref a2), .val (.int (2 : Int32))] [(.int (F1 0))])
    refine Go.st (fun t k => XS.aloadN X0.here hx rfl (hb hby d2_18) rfl rfl k) ?_
    show Go _ _ _ _ T0 (mkF m 19 #[.val (.ref a1), .val (.ref a2), .val (.int (2 : Int32))] [(.ref a2), (.int (F1 0))])
    refine Go.st (fun t k => XS.iconst X0.here hx rfl (hb hby d2_19) k) ?_
    show Go _ _ _ _ T0 (mkF m 20 #[.val (.ref a1), .val (.ref a2), .val (.int (2 : Int32))] [(.int (0 : Int32)), (.ref a2), (.int (F1 0))])
    refine goLdI X0 hx hZ e0 V_a2 (v := (.int (F2 0))) (g := (mkF m 20 #[.val (.ref a1), .val (.ref a2), .val (.int (2 : Int32))] [(.int (0 : Int32)), (.ref a2), (.int (F1 0))])) rfl rfl (hb hby d2_20) (k := 0) ⟨by decide, rfl, by decide⟩ rfl ?_
    show Go _ _ _ _ T0 (mkF m 21 #[.val (.ref a1), .val (.ref a2), .val (.int (2 : Int32))] [(.int (F2 0)), (.int (F1 0))])
    by_cases hs0 : (F1 0) = (F2 0)
    ·
      refine Go.st (fun t k => XS.icmpYes X0.here hx rfl (pc0 := 21) (pc' := 26) rfl (hb hby d2_21) rfl (teq hs0).1 (by decide) (by decide) k) ?_
      show Go _ _ _ _ T0 (mkF m 26 #[.val (.ref a1), .val (.ref a2), .val (.int (2 : Int32))] [])
      refine Go.st (fun t k => XS.iloadN X0.here hx rfl (hb hby d2_26) rfl k) ?_
      show Go _ _ _ _ T0 (mkF m 27 #[.val (.ref a1), .val (.ref a2), .val (.int (2 : Int32))] [(.int (2 : Int32))])
      refine Go.st (fun t k => XS.iconst X0.here hx rfl (hb hby d2_27) k) ?_
      show Go _ _ _ _ T0 (mkF m 28 #[.val (.ref a1), .val (.ref a2), .val (.int (2 : Int32))] [(.int (1 : Int32)), (.int (2 : Int32))])
      refine Go.st (fun t k => XS.icmpNo X0.here hx rfl (hb hby d2_28) rfl (by decide) k) ?_
      show Go _ _ _ _ T0 (mkF m 31 #[.val (.ref a1), .val (.ref a2), .val (.int (2 : Int32))] [])
      refine Go.st (fun t k => XS.aloadN X0.here hx rfl (hb hby d2_31) rfl rfl k) ?_
      show Go _ _ _ _ T0 (mkF m 32 #[.val (.ref a1), .val (.ref a2), .val (.int (2 : Int32))] [(.ref a1)])
      refine Go.st (fun t k => XS.iconst X0.here hx rfl (hb hby d2_32) k) ?_
      show Go _ _ _ _ T0 (mkF m 33 #[.val (.ref a1), .val (.ref a2), .val (.int (2 : Int32))] [(.int (1 : Int32)), (.ref a1)])
      refine goLdI X0 hx hZ e0 V_a1 (v := (.int (F1 1))) (g := (mkF m 33 #[.val (.ref a1), .val (.ref a2), .val (.int (2 : Int32))] [(.int (1 : Int32)), (.ref a1)])) rfl rfl (hb hby d2_33) (k := 1) ⟨by decide, rfl, by decide⟩ rfl ?_
      show Go _ _ _ _ T0 (mkF m 34 #[.val (.ref a1), .val (.ref a2), .val (.int (2 : Int32))] [(.int (F1 1))])
      refine Go.st (fun t k => XS.aloadN X0.here hx rfl (hb hby d2_34) rfl rfl k) ?_
      show Go _ _ _ _ T0 (mkF m 35 #[.val (.ref a1), .val (.ref a2), .val (.int (2 : Int32))] [(.ref a2), (.int (F1 1))])
      refine Go.st (fun t k => XS.iconst X0.here hx rfl (hb hby d2_35) k) ?_
      show Go _ _ _ _ T0 (mkF m 36 #[.val (.ref a1), .val (.ref a2), .val (.int (2 : Int32))] [(.int (1 : Int32)), (.ref a2), (.int (F1 1))])
      refine goLdI X0 hx hZ e0 V_a2 (v := (.int (F2 1))) (g := (mkF m 36 #[.val (.ref a1), .val (.ref a2), .val (.int (2 : Int32))] [(.int (1 : Int32)), (.ref a2), (.int (F1 1))])) rfl rfl (hb hby d2_36) (k := 1) ⟨by decide, rfl, by decide⟩ rfl ?_
      show Go _ _ _ _ T0 (mkF m 37 #[.val (.ref a1), .val (.ref a2), .val (.int (2 : Int32))] [(.int (F2 1)), (.int (F1 1))])
      by_cases hs1 : (F1 1) = (F2 1)
      ·
        refine Go.st (fun t k => XS.icmpYes X0.here hx rfl (pc0 := 37) (pc' := 42) rfl (hb hby d2_37) rfl (teq hs1).1 (by decide) (by decide) k) ?_
        show Go _ _ _ _ T0 (mkF m 42 #[.val (.ref a1), .val (.ref a2), .val (.int (2 : Int32))] [])
        refine Go.st (fun t k => XS.iloadN X0.here hx rfl (hb hby d2_42) rfl k) ?_
        show Go _ _ _ _ T0 (mkF m 43 #[.val (.ref a1), .val (.ref a2), .val (.int (2 : Int32))] [(.int (2 : Int32))])
        refine Go.st (fun t k => XS.iconst X0.here hx rfl (hb hby d2_43) k) ?_
        show Go _ _ _ _ T0 (mkF m 44 #[.val (.ref a1), .val (.ref a2), .val (.int (2 : Int32))] [(.int (2 : Int32)), (.int (2 : Int32))])
        refine Go.st (fun t k => XS.icmpYes X0.here hx rfl (pc0 := 44) (pc' := 58) rfl (hb hby d2_44) rfl (by decide) (by decide) (by decide) k) ?_
        show Go _ _ _ _ T0 (mkF m 58 #[.val (.ref a1), .val (.ref a2), .val (.int (2 : Int32))] [])
        refine Go.st (fun t k => XS.iconst X0.here hx rfl (hb hby d2_58) k) ?_
        show Go _ _ _ _ T0 (mkF m 59 #[.val (.ref a1), .val (.ref a2), .val (.int (2 : Int32))] [(.int (1 : Int32))])
        exact goN X0 hx hret hlk (by simp) (hb hby d2_59) (by decide) (by decide) ⟨Or.inl ⟨fun i hi => by rcases own_lt2 hi with rfl | rfl <;> assumption, rfl⟩, N0, e0⟩
      ·
        refine Go.st (fun t k => XS.icmpNo X0.here hx rfl (hb hby d2_37) rfl (feq hs1).1 k) ?_
        show Go _ _ _ _ T0 (mkF m 40 #[.val (.ref a1), .val (.ref a2), .val (.int (2 : Int32))] [])
        refine Go.st (fun t k => XS.iconst X0.here hx rfl (hb hby d2_40) k) ?_
        show Go _ _ _ _ T0 (mkF m 41 #[.val (.ref a1), .val (.ref a2), .val (.int (2 : Int32))] [(.int (0 : Int32))])
        exact goN X0 hx hret hlk (by simp) (hb hby d2_41) (by decide) (by decide) ⟨Or.inr ⟨fun q => hs1 (q 1 (by decide)), rfl⟩, N0, e0⟩
    ·
      refine Go.st (fun t k => XS.icmpNo X0.here hx rfl (hb hby d2_21) rfl (feq hs0).1 k) ?_
      show Go _ _ _ _ T0 (mkF m 24 #[.val (.ref a1), .val (.ref a2), .val (.int (2 : Int32))] [])
      refine Go.st (fun t k => XS.iconst X0.here hx rfl (hb hby d2_24) k) ?_
      show Go _ _ _ _ T0 (mkF m 25 #[.val (.ref a1), .val (.ref a2), .val (.int (2 : Int32))] [(.int (0 : Int32))])
      exact goN X0 hx hret hlk (by simp) (hb hby d2_25) (by decide) (by decide) ⟨Or.inr ⟨fun q => hs0 (q 0 (by decide)), rfl⟩, N0, e0⟩
  ·
    show Go _ _ _ _ T0 (mkF m 0 #[.val (.ref a1), .val (.ref a2), .unset] [])
    show Go _ _ _ _ T0 (mkF m 0 #[.val (.ref a1), .val (.ref a2), .unset] [])
    refine Go.st (fun t k => XS.aloadN X0.here hx rfl (hb hby d2_0) rfl rfl k) ?_
    show Go _ _ _ _ T0 (mkF m 1 #[.val (.ref a1), .val (.ref a2), .unset] [(.ref a1)])
    refine goLen X0 hx hZ e0 V_a1 (z := (3 : Int32)) rfl (g := (mkF m 1 #[.val (.ref a1), .val (.ref a2), .unset] [(.ref a1)])) rfl rfl (hb hby d2_1) ?_
    show Go _ _ _ _ T0 (mkF m 2 #[.val (.ref a1), .val (.ref a2), .unset] [(.int (3 : Int32))])
    refine Go.st (fun t k => XS.istoreN X0.here hx rfl (hb hby d2_2) rfl (l' := #[.val (.ref a1), .val (.ref a2), .val (.int (3 : Int32))]) rfl k) ?_
    show Go _ _ _ _ T0 (mkF m 3 #[.val (.ref a1), .val (.ref a2), .val (.int (3 : Int32))] [])
    refine Go.st (fun t k => XS.aloadN X0.here hx rfl (hb hby d2_3) rfl rfl k) ?_
    show Go _ _ _ _ T0 (mkF m 4 #[.val (.ref a1), .val (.ref a2), .val (.int (3 : Int32))] [(.ref a2)])
    refine goLen X0 hx hZ e0 V_a2 (z := (3 : Int32)) rfl (g := (mkF m 4 #[.val (.ref a1), .val (.ref a2), .val (.int (3 : Int32))] [(.ref a2)])) rfl rfl (hb hby d2_4) ?_
    show Go _ _ _ _ T0 (mkF m 5 #[.val (.ref a1), .val (.ref a2), .val (.int (3 : Int32))] [(.int (3 : Int32))])
    refine Go.st (fun t k => XS.iloadN X0.here hx rfl (hb hby d2_5) rfl k) ?_
    show Go _ _ _ _ T0 (mkF m 6 #[.val (.ref a1), .val (.ref a2), .val (.int (3 : Int32))] [(.int (3 : Int32)), (.int (3 : Int32))])
    refine Go.st (fun t k => XS.icmpYes X0.here hx rfl (pc0 := 6) (pc' := 11) rfl (hb hby d2_6) rfl (by decide) (by decide) (by decide) k) ?_
    show Go _ _ _ _ T0 (mkF m 11 #[.val (.ref a1), .val (.ref a2), .val (.int (3 : Int32))] [])
    refine Go.st (fun t k => XS.iloadN X0.here hx rfl (hb hby d2_11) rfl k) ?_
    show Go _ _ _ _ T0 (mkF m 12 #[.val (.ref a1), .val (.ref a2), .val (.int (3 : Int32))] [(.int (3 : Int32))])
    refine Go.st (fun t k => XS.ifNo X0.here hx rfl (hb hby d2_12) rfl (by decide) k) ?_
    show Go _ _ _ _ T0 (mkF m 15 #[.val (.ref a1), .val (.ref a2), .val (.int (3 : Int32))] [])
    refine Go.st (fun t k => XS.aloadN X0.here hx rfl (hb hby d2_15) rfl rfl k) ?_
    show Go _ _ _ _ T0 (mkF m 16 #[.val (.ref a1), .val (.ref a2), .val (.int (3 : Int32))] [(.ref a1)])
    refine Go.st (fun t k => XS.iconst X0.here hx rfl (hb hby d2_16) k) ?_
    show Go _ _ _ _ T0 (mkF m 17 #[.val (.ref a1), .val (.ref a2), .val (.int (3 : Int32))] [(.int (0 : Int32)), (.ref a1)])
    refine goLdI X0 hx hZ e0 V_a1 (v := (.int (F1 0))) (g := (mkF m 17 #[.val (.ref a1), .val (.ref a2), .val (.int (3 : Int32))] [(.int (0 : Int32)), (.ref a1)])) rfl rfl (hb hby d2_17) (k := 0) ⟨by decide, rfl, by decide⟩ rfl ?_
    show Go _ _ _ _ T0 (mkF m 18 #[.val (.ref a1), .val (.ref a2), .val (.int (3 : Int32))] [(.int (F1 0))])
    refine Go.st (fun t k => XS.aloadN X0.here hx rfl (hb hby d2_18) rfl rfl k) ?_
    show Go _ _ _ _ T0 (mkF m 19 #[.val (.ref a1), .val (.ref a2), .val (.int (3 : Int32))] [(.ref a2), (.int (F1 0))])
    refine Go.st (fun t k => XS.iconst X0.here hx rfl (hb hby d2_19) k) ?_
    show Go _ _ _ _ T0 (mkF m 20 #[.val (.ref a1), .val (.ref a2), .val (.int (3 : Int32))] [(.int (0 : Int32)), (.ref a2), (.int (F1 0))])
    refine goLdI X0 hx hZ e0 V_a2 (v := (.int (F2 0))) (g := (mkF m 20 #[.val (.ref a1), .val (.ref a2), .val (.int (3 : Int32))] [(.int (0 : Int32)), (.ref a2), (.int (F1 0))])) rfl rfl (hb hby d2_20) (k := 0) ⟨by decide, rfl, by decide⟩ rfl ?_
    show Go _ _ _ _ T0 (mkF m 21 #[.val (.ref a1), .val (.ref a2), .val (.int (3 : Int32))] [(.int (F2 0)), (.int (F1 0))])
    by_cases hs0 : (F1 0) = (F2 0)
    ·
      refine Go.st (fun t k => XS.icmpYes X0.here hx rfl (pc0 := 21) (pc' := 26) rfl (hb hby d2_21) rfl (teq hs0).1 (by decide) (by decide) k) ?_
      show Go _ _ _ _ T0 (mkF m 26 #[.val (.ref a1), .val (.ref a2), .val (.int (3 : Int32))] [])
      refine Go.st (fun t k => XS.iloadN X0.here hx rfl (hb hby d2_26) rfl k) ?_
      show Go _ _ _ _ T0 (mkF m 27 #[.val (.ref a1), .val (.ref a2), .val (.int (3 : Int32))] [(.int (3 : Int32))])
      refine Go.st (fun t k => XS.iconst X0.here hx rfl (hb hby d2_27) k) ?_
      show Go _ _ _ _ T0 (mkF m 28 #[.val (.ref a1), .val (.ref a2), .val (.int (3 : Int32))] [(.int (1 : Int32)), (.int (3 : Int32))])
      refine Go.st (fun t k => XS.icmpNo X0.here hx rfl (hb hby d2_28) rfl (by decide) k) ?_
      show Go _ _ _ _ T0 (mkF m 31 #[.val (.ref a1), .val (.ref a2), .val (.int (3 : Int32))] [])
      refine Go.st (fun t k => XS.aloadN X0.here hx rfl (hb hby d2_31) rfl rfl k) ?_
      show Go _ _ _ _ T0 (mkF m 32 #[.val (.ref a1), .val (.ref a2), .val (.int (3 : Int32))] [(.ref a1)])
      refine Go.st (fun t k => XS.iconst X0.here hx rfl (hb hby d2_32) k) ?_
      show Go _ _ _ _ T0 (mkF m 33 #[.val (.ref a1), .val (.ref a2), .val (.int (3 : Int32))] [(.int (1 : Int32)), (.ref a1)])
      refine goLdI X0 hx hZ e0 V_a1 (v := (.int (F1 1))) (g := (mkF m 33 #[.val (.ref a1), .val (.ref a2), .val (.int (3 : Int32))] [(.int (1 : Int32)), (.ref a1)])) rfl rfl (hb hby d2_33) (k := 1) ⟨by decide, rfl, by decide⟩ rfl ?_
      show Go _ _ _ _ T0 (mkF m 34 #[.val (.ref a1), .val (.ref a2), .val (.int (3 : Int32))] [(.int (F1 1))])
      refine Go.st (fun t k => XS.aloadN X0.here hx rfl (hb hby d2_34) rfl rfl k) ?_
      show Go _ _ _ _ T0 (mkF m 35 #[.val (.ref a1), .val (.ref a2), .val (.int (3 : Int32))] [(.ref a2), (.int (F1 1))])
      refine Go.st (fun t k => XS.iconst X0.here hx rfl (hb hby d2_35) k) ?_
      show Go _ _ _ _ T0 (mkF m 36 #[.val (.ref a1), .val (.ref a2), .val (.int (3 : Int32))] [(.int (1 : Int32)), (.ref a2), (.int (F1 1))])
      refine goLdI X0 hx hZ e0 V_a2 (v := (.int (F2 1))) (g := (mkF m 36 #[.val (.ref a1), .val (.ref a2), .val (.int (3 : Int32))] [(.int (1 : Int32)), (.ref a2), (.int (F1 1))])) rfl rfl (hb hby d2_36) (k := 1) ⟨by decide, rfl, by decide⟩ rfl ?_
      show Go _ _ _ _ T0 (mkF m 37 #[.val (.ref a1), .val (.ref a2), .val (.int (3 : Int32))] [(.int (F2 1)), (.int (F1 1))])
      by_cases hs1 : (F1 1) = (F2 1)
      ·
        refine Go.st (fun t k => XS.icmpYes X0.here hx rfl (pc0 := 37) (pc' := 42) rfl (hb hby d2_37) rfl (teq hs1).1 (by decide) (by decide) k) ?_
        show Go _ _ _ _ T0 (mkF m 42 #[.val (.ref a1), .val (.ref a2), .val (.int (3 : Int32))] [])
        refine Go.st (fun t k => XS.iloadN X0.here hx rfl (hb hby d2_42) rfl k) ?_
        show Go _ _ _ _ T0 (mkF m 43 #[.val (.ref a1), .val (.ref a2), .val (.int (3 : Int32))] [(.int (3 : Int32))])
        refine Go.st (fun t k => XS.iconst X0.here hx rfl (hb hby d2_43) k) ?_
        show Go _ _ _ _ T0 (mkF m 44 #[.val (.ref a1), .val (.ref a2), .val (.int (3 : Int32))] [(.int (2 : Int32)), (.int (3 : Int32))])
        refine Go.st (fun t k => XS.icmpNo X0.here hx rfl (hb hby d2_44) rfl (by decide) k) ?_
        show Go _ _ _ _ T0 (mkF m 47 #[.val (.ref a1), .val (.ref a2), .val (.int (3 : Int32))] [])
        refine Go.st (fun t k => XS.aloadN X0.here hx rfl (hb hby d2_47) rfl rfl k) ?_
        show Go _ _ _ _ T0 (mkF m 48 #[.val (.ref a1), .val (.ref a2), .val (.int (3 : Int32))] [(.ref a1)])
        refine Go.st (fun t k => XS.iconst X0.here hx rfl (hb hby d2_48) k) ?_
        show Go _ _ _ _ T0 (mkF m 49 #[.val (.ref a1), .val (.ref a2), .val (.int (3 : Int32))] [(.int (2 : Int32)), (.ref a1)])
        refine goLdI X0 hx hZ e0 V_a1 (v := (.int (F1 2))) (g := (mkF m 49 #[.val (.ref a1), .val (.ref a2), .val (.int (3 : Int32))] [(.int (2 : Int32)), (.ref a1)])) rfl rfl (hb hby d2_49) (k := 2) ⟨by decide, rfl, by decide⟩ rfl ?_
        show Go _ _ _ _ T0 (mkF m 50 #[.val (.ref a1), .val (.ref a2), .val (.int (3 : Int32))] [(.int (F1 2))])
        refine Go.st (fun t k => XS.aloadN X0.here hx rfl (hb hby d2_50) rfl rfl k) ?_
        show Go _ _ _ _ T0 (mkF m 51 #[.val (.ref a1), .val (.ref a2), .val (.int (3 : Int32))] [(.ref a2), (.int (F1 2))])
        refine Go.st (fun t k => XS.iconst X0.here hx rfl (hb hby d2_51) k) ?_
        show Go _ _ _ _ T0 (mkF m 52 #[.val (.ref a1), .val (.ref a2), .val (.int (3 : Int32))] [(.int (2 : Int32)), (.ref a2), (.int (F1 2))])
        refine goLdI X0 hx hZ e0 V_a2 (v := (.int (F2 2))) (g := (mkF m 52 #[.val (.ref a1), .val (.ref a2), .val (.int (3 : Int32))] [(.int (2 : Int32)), (.ref a2), (.int (F1 2))])) rfl rfl (hb hby d2_52) (k := 2) ⟨by decide, rfl, by decide⟩ rfl ?_
        show Go _ _ _ _ T0 (mkF m 53 #[.val (.ref a1), .val (.ref a2), .val (.int (3 : Int32))] [(.int (F2 2)), (.int (F1 2))])
        by_cases hs2 : (F1 2) = (F2 2)
        ·
          refine Go.st (fun t k => XS.icmpYes X0.here hx rfl (pc0 := 53) (pc' := 58) rfl (hb hby d2_53) rfl (teq hs2).1 (by decide) (by decide) k) ?_
          show Go _ _ _ _ T0 (mkF m 58 #[.val (.ref a1), .val (.ref a2), .val (.int (3 : Int32))] [])
          refine Go.st (fun t k => XS.iconst X0.here hx rfl (hb hby d2_58) k) ?_
          show Go _ _ _ _ T0 (mkF m 59 #[.val (.ref a1), .val (.ref a2), .val (.int (3 : Int32))] [(.int (1 : Int32))])
          exact goN X0 hx hret hlk (by simp) (hb hby d2_59) (by decide) (by decide) ⟨Or.inl ⟨fun i hi => by rcases own_lt3 hi with rfl | rfl | rfl <;> assumption, rfl⟩, N0, e0⟩
        ·
          refine Go.st (fun t k => XS.icmpNo X0.here hx rfl (hb hby d2_53) rfl (feq hs2).1 k) ?_
          show Go _ _ _ _ T0 (mkF m 56 #[.val (.ref a1), .val (.ref a2), .val (.int (3 : Int32))] [])
          refine Go.st (fun t k => XS.iconst X0.here hx rfl (hb hby d2_56) k) ?_
          show Go _ _ _ _ T0 (mkF m 57 #[.val (.ref a1), .val (.ref a2), .val (.int (3 : Int32))] [(.int (0 : Int32))])
          exact goN X0 hx hret hlk (by simp) (hb hby d2_57) (by decide) (by decide) ⟨Or.inr ⟨fun q => hs2 (q 2 (by decide)), rfl⟩, N0, e0⟩
      ·
        refine Go.st (fun t k => XS.icmpNo X0.here hx rfl (hb hby d2_37) rfl (feq hs1).1 k) ?_
        show Go _ _ _ _ T0 (mkF m 40 #[.val (.ref a1), .val (.ref a2), .val (.int (3 : Int32))] [])
        refine Go.st (fun t k => XS.iconst X0.here hx rfl (hb hby d2_40) k) ?_
        show Go _ _ _ _ T0 (mkF m 41 #[.val (.ref a1), .val (.ref a2), .val (.int (3 : Int32))] [(.int (0 : Int32))])
        exact goN X0 hx hret hlk (by simp) (hb hby d2_41) (by decide) (by decide) ⟨Or.inr ⟨fun q => hs1 (q 1 (by decide)), rfl⟩, N0, e0⟩
    ·
      refine Go.st (fun t k => XS.icmpNo X0.here hx rfl (hb hby d2_21) rfl (feq hs0).1 k) ?_
      show Go _ _ _ _ T0 (mkF m 24 #[.val (.ref a1), .val (.ref a2), .val (.int (3 : Int32))] [])
      refine Go.st (fun t k => XS.iconst X0.here hx rfl (hb hby d2_24) k) ?_
      show Go _ _ _ _ T0 (mkF m 25 #[.val (.ref a1), .val (.ref a2), .val (.int (3 : Int32))] [(.int (0 : Int32))])
      exact goN X0 hx hret hlk (by simp) (hb hby d2_25) (by decide) (by decide) ⟨Or.inr ⟨fun q => hs0 (q 0 (by decide)), rfl⟩, N0, e0⟩
theorem d3_0 : decode method_8_code 0 = .ok (.aload_n 0, 1) := by decide +kernel
theorem d3_1 : decode method_8_code 1 = .ok (.arraylength, 1) := by decide +kernel
theorem d3_2 : decode method_8_code 2 = .ok (.istore_n 3, 1) := by decide +kernel
theorem d3_3 : decode method_8_code 3 = .ok (.lconst 0, 1) := by decide +kernel
theorem d3_4 : decode method_8_code 4 = .ok (.lstore 4, 2) := by decide +kernel
theorem d3_6 : decode method_8_code 6 = .ok (.iload_n 3, 1) := by decide +kernel
theorem d3_7 : decode method_8_code 7 = .ok (.ifCond .le 14, 3) := by decide +kernel
theorem d3_10 : decode method_8_code 10 = .ok (.aload_n 0, 1) := by decide +kernel
theorem d3_11 : decode method_8_code 11 = .ok (.iconst 0, 1) := by decide +kernel
theorem d3_12 : decode method_8_code 12 = .ok (.iaload, 1) := by decide +kernel
theorem d3_13 : decode method_8_code 13 = .ok (.i2l, 1) := by decide +kernel
theorem d3_14 : decode method_8_code 14 = .ok (.aload_n 1, 1) := by decide +kernel
theorem d3_15 : decode method_8_code 15 = .ok (.iconst 0, 1) := by decide +kernel
theorem d3_16 : decode method_8_code 16 = .ok (.iaload, 1) := by decide +kernel
theorem d3_17 : decode method_8_code 17 = .ok (.i2l, 1) := by decide +kernel
theorem d3_18 : decode method_8_code 18 = .ok (.lsub, 1) := by decide +kernel
theorem d3_19 : decode method_8_code 19 = .ok (.lstore 4, 2) := by decide +kernel
theorem d3_21 : decode method_8_code 21 = .ok (.iload_n 3, 1) := by decide +kernel
theorem d3_22 : decode method_8_code 22 = .ok (.iconst 1, 1) := by decide +kernel
theorem d3_23 : decode method_8_code 23 = .ok (.if_icmp .le 29, 3) := by decide +kernel
theorem d3_26 : decode method_8_code 26 = .ok (.lload 4, 2) := by decide +kernel
theorem d3_28 : decode method_8_code 28 = .ok (.aload_n 2, 1) := by decide +kernel
theorem d3_29 : decode method_8_code 29 = .ok (.iconst 1, 1) := by decide +kernel
theorem d3_30 : decode method_8_code 30 = .ok (.iaload, 1) := by decide +kernel
theorem d3_31 : decode method_8_code 31 = .ok (.i2l, 1) := by decide +kernel
theorem d3_32 : decode method_8_code 32 = .ok (.aload_n 1, 1) := by decide +kernel
theorem d3_33 : decode method_8_code 33 = .ok (.iconst 1, 1) := by decide +kernel
theorem d3_34 : decode method_8_code 34 = .ok (.iaload, 1) := by decide +kernel
theorem d3_35 : decode method_8_code 35 = .ok (.i2l, 1) := by decide +kernel
theorem d3_36 : decode method_8_code 36 = .ok (.lsub, 1) := by decide +kernel
theorem d3_37 : decode method_8_code 37 = .ok (.lconst 1, 1) := by decide +kernel
theorem d3_38 : decode method_8_code 38 = .ok (.ladd, 1) := by decide +kernel
theorem d3_39 : decode method_8_code 39 = .ok (.lmul, 1) := by decide +kernel
theorem d3_40 : decode method_8_code 40 = .ok (.aload_n 0, 1) := by decide +kernel
theorem d3_41 : decode method_8_code 41 = .ok (.iconst 1, 1) := by decide +kernel
theorem d3_42 : decode method_8_code 42 = .ok (.iaload, 1) := by decide +kernel
theorem d3_43 : decode method_8_code 43 = .ok (.i2l, 1) := by decide +kernel
theorem d3_44 : decode method_8_code 44 = .ok (.aload_n 1, 1) := by decide +kernel
theorem d3_45 : decode method_8_code 45 = .ok (.iconst 1, 1) := by decide +kernel
theorem d3_46 : decode method_8_code 46 = .ok (.iaload, 1) := by decide +kernel
theorem d3_47 : decode method_8_code 47 = .ok (.i2l, 1) := by decide +kernel
theorem d3_48 : decode method_8_code 48 = .ok (.lsub, 1) := by decide +kernel
theorem d3_49 : decode method_8_code 49 = .ok (.ladd, 1) := by decide +kernel
theorem d3_50 : decode method_8_code 50 = .ok (.lstore 4, 2) := by decide +kernel
theorem d3_52 : decode method_8_code 52 = .ok (.iload_n 3, 1) := by decide +kernel
theorem d3_53 : decode method_8_code 53 = .ok (.iconst 2, 1) := by decide +kernel
theorem d3_54 : decode method_8_code 54 = .ok (.if_icmp .le 29, 3) := by decide +kernel
theorem d3_57 : decode method_8_code 57 = .ok (.lload 4, 2) := by decide +kernel
theorem d3_59 : decode method_8_code 59 = .ok (.aload_n 2, 1) := by decide +kernel
theorem d3_60 : decode method_8_code 60 = .ok (.iconst 2, 1) := by decide +kernel
theorem d3_61 : decode method_8_code 61 = .ok (.iaload, 1) := by decide +kernel
theorem d3_62 : decode method_8_code 62 = .ok (.i2l, 1) := by decide +kernel
theorem d3_63 : decode method_8_code 63 = .ok (.aload_n 1, 1) := by decide +kernel
theorem d3_64 : decode method_8_code 64 = .ok (.iconst 2, 1) := by decide +kernel
theorem d3_65 : decode method_8_code 65 = .ok (.iaload, 1) := by decide +kernel
theorem d3_66 : decode method_8_code 66 = .ok (.i2l, 1) := by decide +kernel
theorem d3_67 : decode method_8_code 67 = .ok (.lsub, 1) := by decide +kernel
theorem d3_68 : decode method_8_code 68 = .ok (.lconst 1, 1) := by decide +kernel
theorem d3_69 : decode method_8_code 69 = .ok (.ladd, 1) := by decide +kernel
theorem d3_70 : decode method_8_code 70 = .ok (.lmul, 1) := by decide +kernel
theorem d3_71 : decode method_8_code 71 = .ok (.aload_n 0, 1) := by decide +kernel
theorem d3_72 : decode method_8_code 72 = .ok (.iconst 2, 1) := by decide +kernel
theorem d3_73 : decode method_8_code 73 = .ok (.iaload, 1) := by decide +kernel
theorem d3_74 : decode method_8_code 74 = .ok (.i2l, 1) := by decide +kernel
theorem d3_75 : decode method_8_code 75 = .ok (.aload_n 1, 1) := by decide +kernel
theorem d3_76 : decode method_8_code 76 = .ok (.iconst 2, 1) := by decide +kernel
theorem d3_77 : decode method_8_code 77 = .ok (.iaload, 1) := by decide +kernel
theorem d3_78 : decode method_8_code 78 = .ok (.i2l, 1) := by decide +kernel
theorem d3_79 : decode method_8_code 79 = .ok (.lsub, 1) := by decide +kernel
theorem d3_80 : decode method_8_code 80 = .ok (.ladd, 1) := by decide +kernel
theorem d3_81 : decode method_8_code 81 = .ok (.lstore 4, 2) := by decide +kernel
theorem d3_83 : decode method_8_code 83 = .ok (.lload 4, 2) := by decide +kernel
theorem d3_85 : decode method_8_code 85 = .ok (.lreturn, 1) := by decide +kernel
theorem pn_3 : plainName "com/example/counterpath/counterpath/util/CombinationsNextPinLaw" = true := by first | (simp [plainName, overriddenIn]; done) | decide +kernel
theorem ef_3 (m : MethodId) (x0 : Addr) (x1 : Addr) (x2 : Addr) : entryFrame m #[(.ref x0), (.ref x1), (.ref x2)] 6 = mkF m 0 #[.val (.ref x0), .val (.ref x1), .val (.ref x2), .unset, .unset, .unset] [] := by first | (simp [entryFrame, mkF, argsToLocals, Value.category]; done) | rfl
set_option maxRecDepth 65536 in
set_option maxHeartbeats 40000000 in
theorem rm3 (l : Launch) (Z : State) (a0 : Array Value) (hw : ∀ d ∈ tables_1, d.before a0 Z = true) (a1 : Addr) (a2 : Addr) (a3 : Addr) (h0 : Heap) (n0 : Nat) (Z0 : n0 ≤ h0.size) (n : Nat) (F1 F2 F3 : Nat → Int32) (hn : n = 0 ∨ n = 1 ∨ n = 2 ∨ n = 3) (V_a1 : BA Z h0 a1 .int n (fun i => .int (F1 i))) (V_a2 : BA Z h0 a2 .int n (fun i => .int (F2 i))) (V_a3 : BA Z h0 a3 .int n (fun i => .int (F3 i))) :
    Does l Z (⟨"com/example/counterpath/counterpath/util/CombinationsNextPinLaw", "index", "([I[I[I)J"⟩ : MethodName) method_8_code 6 (some .long) ({ frames := 0, cells := 0, slots := 0, locals := 0 } : Room) #[(.ref a1), (.ref a2), (.ref a3)] h0 (fun v h L => v = some (.long (own_idx n F1 F2 F3)) ∧ Fr n0 L ∧ h = h0) := by
  refine Does.body (plainFor_of_name pn_3) ?_
  intro p e s m below meth c T0 X0 hx hZ hby hml hown hnm hret hlk e0
  replace hown : s.vm.findClass "com/example/counterpath/counterpath/util/CombinationsNextPinLaw" = some m.cls := hown
  have N0 := Fr.nil n0
  refine Go.frame (ef_3 m a1 a2 a3) ?_
  show Go _ _ _ _ T0 (mkF m 0 #[.val (.ref a1), .val (.ref a2), .val (.ref a3), .unset, .unset, .unset] [])
  rcases hn with rfl | rfl | rfl | rfl
  ·
    show Go _ _ _ _ T0 (mkF m 0 #[.val (.ref a1), .val (.ref a2), .val (.ref a3), .unset, .unset, .unset] [])
    show Go _ _ _ _ T0 (mkF m 0 #[.val (.ref a1), .val (.ref a2), .val (.ref a3), .unset, .unset, .unset] [])
    refine Go.st (fun t k => XS.aloadN X0.here hx rfl (hb hby d3_0) rfl rfl k) ?_
    show Go _ _ _ _ T0 (mkF m 1 #[.val (.ref a1), .val (.ref a2), .val (.ref a3), .unset, .unset, .unset] [(.ref a1)])
    refine goLen X0 hx hZ e0 V_a1 (z := (0 : Int32)) rfl (g := (mkF m 1 #[.val (.ref a1), .val (.ref a2), .val (.ref a3), .unset, .unset, .unset] [(.ref a1)])) rfl rfl (hb hby d3_1) ?_
    show Go _ _ _ _ T0 (mkF m 2 #[.val (.ref a1), .val (.ref a2), .val (.ref a3), .unset, .unset, .unset] [(.int (0 : Int32))])
    refine Go.st (fun t k => XS.istoreN X0.here hx rfl (hb hby d3_2) rfl (l' := #[.val (.ref a1), .val (.ref a2), .val (.ref a3), .val (.int (0 : Int32)), .unset, .unset]) rfl k) ?_
    show Go _ _ _ _ T0 (mkF m 3 #[.val (.ref a1), .val (.ref a2), .val (.ref a3), .val (.int (0 : Int32)), .unset, .unset] [])
    refine Go.st (fun t k => XS.lconst X0.here hx rfl (hb hby d3_3) k) ?_
    show Go _ _ _ _ T0 (mkF m 4 #[.val (.ref a1), .val (.ref a2), .val (.ref a3), .val (.int (0 : Int32)), .unset, .unset] [(.long (0 : Int64))])
    refine Go.st (fun t k => XS.lstore X0.here hx rfl (hb hby d3_4) rfl (l' := #[.val (.ref a1), .val (.ref a2), .val (.ref a3), .val (.int (0 : Int32)), .val (.long (0 : Int64)), .second]) rfl k) ?_
    show Go _ _ _ _ T0 (mkF m 6 #[.val (.ref a1), .val (.ref a2), .val (.ref a3), .val (.int (0 : Int32)), .val (.long (0 : Int64)), .second] [])
    refine Go.st (fun t k => XS.iloadN X0.here hx rfl (hb hby d3_6) rfl k) ?_
    show Go _ _ _ _ T0 (mkF m 7 #[.val (.ref a1), .val (.ref a2), .val (.ref a3), .val (.int (0 : Int32)), .val (.long (0 : Int64)), .second] [(.int (0 : Int32))])
    refine Go.st (fun t k => XS.ifYes X0.here hx rfl (pc0 := 7) (pc' := 21) rfl (hb hby d3_7) rfl (by decide) (by decide) (by decide) k) ?_
    show Go _ _ _ _ T0 (mkF m 21 #[.val (.ref a1), .val (.ref a2), .val (.ref a3), .val (.int (0 : Int32)), .val (.long (0 : Int64)), .second] [])
    refine Go.st (fun t k => XS.iloadN X0.here hx rfl (hb hby d3_21) rfl k) ?_
    show Go _ _ _ _ T0 (mkF m 22 #[.val (.ref a1), .val (.ref a2), .val (.ref a3), .val (.int (0 : Int32)), .val (.long (0 : Int64)), .second] [(.int (0 : Int32))])
    refine Go.st (fun t k => XS.iconst X0.here hx rfl (hb hby d3_22) k) ?_
    show Go _ _ _ _ T0 (mkF m 23 #[.val (.ref a1), .val (.ref a2), .val (.ref a3), .val (.int (0 : Int32)), .val (.long (0 : Int64)), .second] [(.int (1 : Int32)), (.int (0 : Int32))])
    refine Go.st (fun t k => XS.icmpYes X0.here hx rfl (pc0 := 23) (pc' := 52) rfl (hb hby d3_23) rfl (by decide) (by decide) (by decide) k) ?_
    show Go _ _ _ _ T0 (mkF m 52 #[.val (.ref a1), .val (.ref a2), .val (.ref a3), .val (.int (0 : Int32)), .val (.long (0 : Int64)), .second] [])
    refine Go.st (fun t k => XS.iloadN X0.here hx rfl (hb hby d3_52) rfl k) ?_
    show Go _ _ _ _ T0 (mkF m 53 #[.val (.ref a1), .val (.ref a2), .val (.ref a3), .val (.int (0 : Int32)), .val (.long (0 : Int64)), .second] [(.int (0 : Int32))])
    refine Go.st (fun t k => XS.iconst X0.here hx rfl (hb hby d3_53) k) ?_
    show Go _ _ _ _ T0 (mkF m 54 #[.val (.ref a1), .val (.ref a2), .val (.ref a3), .val (.int (0 : Int32)), .val (.long (0 : Int64)), .second] [(.int (2 : Int32)), (.int (0 : Int32))])
    refine Go.st (fun t k => XS.icmpYes X0.here hx rfl (pc0 := 54) (pc' := 83) rfl (hb hby d3_54) rfl (by decide) (by decide) (by decide) k) ?_
    show Go _ _ _ _ T0 (mkF m 83 #[.val (.ref a1), .val (.ref a2), .val (.ref a3), .val (.int (0 : Int32)), .val (.long (0 : Int64)), .second] [])
    refine Go.st (fun t k => XS.lload X0.here hx rfl (hb hby d3_83) rfl k) ?_
    show Go _ _ _ _ T0 (mkF m 85 #[.val (.ref a1), .val (.ref a2), .val (.ref a3), .val (.int (0 : Int32)), .val (.long (0 : Int64)), .second] [(.long (0 : Int64))])
    exact goJ X0 hx hret hlk (hb hby d3_85) (by decide) (by decide) ⟨rfl, N0, e0⟩
  ·
    show Go _ _ _ _ T0 (mkF m 0 #[.val (.ref a1), .val (.ref a2), .val (.ref a3), .unset, .unset, .unset] [])
    show Go _ _ _ _ T0 (mkF m 0 #[.val (.ref a1), .val (.ref a2), .val (.ref a3), .unset, .unset, .unset] [])
    refine Go.st (fun t k => XS.aloadN X0.here hx rfl (hb hby d3_0) rfl rfl k) ?_
    show Go _ _ _ _ T0 (mkF m 1 #[.val (.ref a1), .val (.ref a2), .val (.ref a3), .unset, .unset, .unset] [(.ref a1)])
    refine goLen X0 hx hZ e0 V_a1 (z := (1 : Int32)) rfl (g := (mkF m 1 #[.val (.ref a1), .val (.ref a2), .val (.ref a3), .unset, .unset, .unset] [(.ref a1)])) rfl rfl (hb hby d3_1) ?_
    show Go _ _ _ _ T0 (mkF m 2 #[.val (.ref a1), .val (.ref a2), .val (.ref a3), .unset, .unset, .unset] [(.int (1 : Int32))])
    refine Go.st (fun t k => XS.istoreN X0.here hx rfl (hb hby d3_2) rfl (l' := #[.val (.ref a1), .val (.ref a2), .val (.ref a3), .val (.int (1 : Int32)), .unset, .unset]) rfl k) ?_
    show Go _ _ _ _ T0 (mkF m 3 #[.val (.ref a1), .val (.ref a2), .val (.ref a3), .val (.int (1 : Int32)), .unset, .unset] [])
    refine Go.st (fun t k => XS.lconst X0.here hx rfl (hb hby d3_3) k) ?_
    show Go _ _ _ _ T0 (mkF m 4 #[.val (.ref a1), .val (.ref a2), .val (.ref a3), .val (.int (1 : Int32)), .unset, .unset] [(.long (0 : Int64))])
    refine Go.st (fun t k => XS.lstore X0.here hx rfl (hb hby d3_4) rfl (l' := #[.val (.ref a1), .val (.ref a2), .val (.ref a3), .val (.int (1 : Int32)), .val (.long (0 : Int64)), .second]) rfl k) ?_
    show Go _ _ _ _ T0 (mkF m 6 #[.val (.ref a1), .val (.ref a2), .val (.ref a3), .val (.int (1 : Int32)), .val (.long (0 : Int64)), .second] [])
    refine Go.st (fun t k => XS.iloadN X0.here hx rfl (hb hby d3_6) rfl k) ?_
    show Go _ _ _ _ T0 (mkF m 7 #[.val (.ref a1), .val (.ref a2), .val (.ref a3), .val (.int (1 : Int32)), .val (.long (0 : Int64)), .second] [(.int (1 : Int32))])
    refine Go.st (fun t k => XS.ifNo X0.here hx rfl (hb hby d3_7) rfl (by decide) k) ?_
    show Go _ _ _ _ T0 (mkF m 10 #[.val (.ref a1), .val (.ref a2), .val (.ref a3), .val (.int (1 : Int32)), .val (.long (0 : Int64)), .second] [])
    refine Go.st (fun t k => XS.aloadN X0.here hx rfl (hb hby d3_10) rfl rfl k) ?_
    show Go _ _ _ _ T0 (mkF m 11 #[.val (.ref a1), .val (.ref a2), .val (.ref a3), .val (.int (1 : Int32)), .val (.long (0 : Int64)), .second] [(.ref a1)])
    refine Go.st (fun t k => XS.iconst X0.here hx rfl (hb hby d3_11) k) ?_
    show Go _ _ _ _ T0 (mkF m 12 #[.val (.ref a1), .val (.ref a2), .val (.ref a3), .val (.int (1 : Int32)), .val (.long (0 : Int64)), .second] [(.int (0 : Int32)), (.ref a1)])
    refine goLdI X0 hx hZ e0 V_a1 (v := (.int (F1 0))) (g := (mkF m 12 #[.val (.ref a1), .val (.ref a2), .val (.ref a3), .val (.int (1 : Int32)), .val (.long (0 : Int64)), .second] [(.int (0 : Int32)), (.ref a1)])) rfl rfl (hb hby d3_12) (k := 0) ⟨by decide, rfl, by decide⟩ rfl ?_
    show Go _ _ _ _ T0 (mkF m 13 #[.val (.ref a1), .val (.ref a2), .val (.ref a3), .val (.int (1 : Int32)), .val (.long (0 : Int64)), .second] [(.int (F1 0))])
    refine Go.st (fun t k => XS.i2l X0.here hx rfl (hb hby d3_13) rfl k) ?_
    show Go _ _ _ _ T0 (mkF m 14 #[.val (.ref a1), .val (.ref a2), .val (.ref a3), .val (.int (1 : Int32)), .val (.long (0 : Int64)), .second] [(.long ((F1 0).toInt64))])
    refine Go.st (fun t k => XS.aloadN X0.here hx rfl (hb hby d3_14) rfl rfl k) ?_
    show Go _ _ _ _ T0 (mkF m 15 #[.val (.ref a1), .val (.ref a2), .val (.ref a3), .val (.int (1 : Int32)), .val (.long (0 : Int64)), .second] [(.ref a2), (.long ((F1 0).toInt64))])
    refine Go.st (fun t k => XS.iconst X0.here hx rfl (hb hby d3_15) k) ?_
    show Go _ _ _ _ T0 (mkF m 16 #[.val (.ref a1), .val (.ref a2), .val (.ref a3), .val (.int (1 : Int32)), .val (.long (0 : Int64)), .second] [(.int (0 : Int32)), (.ref a2), (.long ((F1 0).toInt64))])
    refine goLdI X0 hx hZ e0 V_a2 (v := (.int (F2 0))) (g := (mkF m 16 #[.val (.ref a1), .val (.ref a2), .val (.ref a3), .val (.int (1 : Int32)), .val (.long (0 : Int64)), .second] [(.int (0 : Int32)), (.ref a2), (.long ((F1 0).toInt64))])) rfl rfl (hb hby d3_16) (k := 0) ⟨by decide, rfl, by decide⟩ rfl ?_
    show Go _ _ _ _ T0 (mkF m 17 #[.val (.ref a1), .val (.ref a2), .val (.ref a3), .val (.int (1 : Int32)), .val (.long (0 : Int64)), .second] [(.int (F2 0)), (.long ((F1 0).toInt64))])
    refine Go.st (fun t k => XS.i2l X0.here hx rfl (hb hby d3_17) rfl k) ?_
    show Go _ _ _ _ T0 (mkF m 18 #[.val (.ref a1), .val (.ref a2), .val (.ref a3), .val (.int (1 : Int32)), .val (.long (0 : Int64)), .second] [(.long ((F2 0).toInt64)), (.long ((F1 0).toInt64))])
    refine Go.st (fun t k => XS.lsub X0.here hx rfl (hb hby d3_18) rfl k) ?_
    show Go _ _ _ _ T0 (mkF m 19 #[.val (.ref a1), .val (.ref a2), .val (.ref a3), .val (.int (1 : Int32)), .val (.long (0 : Int64)), .second] [(.long (((F1 0).toInt64) - ((F2 0).toInt64)))])
    refine Go.st (fun t k => XS.lstore X0.here hx rfl (hb hby d3_19) rfl (l' := #[.val (.ref a1), .val (.ref a2), .val (.ref a3), .val (.int (1 : Int32)), .val (.long (((F1 0).toInt64) - ((F2 0).toInt64))), .second]) rfl k) ?_
    show Go _ _ _ _ T0 (mkF m 21 #[.val (.ref a1), .val (.ref a2), .val (.ref a3), .val (.int (1 : Int32)), .val (.long (((F1 0).toInt64) - ((F2 0).toInt64))), .second] [])
    refine Go.st (fun t k => XS.iloadN X0.here hx rfl (hb hby d3_21) rfl k) ?_
    show Go _ _ _ _ T0 (mkF m 22 #[.val (.ref a1), .val (.ref a2), .val (.ref a3), .val (.int (1 : Int32)), .val (.long (((F1 0).toInt64) - ((F2 0).toInt64))), .second] [(.int (1 : Int32))])
    refine Go.st (fun t k => XS.iconst X0.here hx rfl (hb hby d3_22) k) ?_
    show Go _ _ _ _ T0 (mkF m 23 #[.val (.ref a1), .val (.ref a2), .val (.ref a3), .val (.int (1 : Int32)), .val (.long (((F1 0).toInt64) - ((F2 0).toInt64))), .second] [(.int (1 : Int32)), (.int (1 : Int32))])
    refine Go.st (fun t k => XS.icmpYes X0.here hx rfl (pc0 := 23) (pc' := 52) rfl (hb hby d3_23) rfl (by decide) (by decide) (by decide) k) ?_
    show Go _ _ _ _ T0 (mkF m 52 #[.val (.ref a1), .val (.ref a2), .val (.ref a3), .val (.int (1 : Int32)), .val (.long (((F1 0).toInt64) - ((F2 0).toInt64))), .second] [])
    refine Go.st (fun t k => XS.iloadN X0.here hx rfl (hb hby d3_52) rfl k) ?_
    show Go _ _ _ _ T0 (mkF m 53 #[.val (.ref a1), .val (.ref a2), .val (.ref a3), .val (.int (1 : Int32)), .val (.long (((F1 0).toInt64) - ((F2 0).toInt64))), .second] [(.int (1 : Int32))])
    refine Go.st (fun t k => XS.iconst X0.here hx rfl (hb hby d3_53) k) ?_
    show Go _ _ _ _ T0 (mkF m 54 #[.val (.ref a1), .val (.ref a2), .val (.ref a3), .val (.int (1 : Int32)), .val (.long (((F1 0).toInt64) - ((F2 0).toInt64))), .second] [(.int (2 : Int32)), (.int (1 : Int32))])
    refine Go.st (fun t k => XS.icmpYes X0.here hx rfl (pc0 := 54) (pc' := 83) rfl (hb hby d3_54) rfl (by decide) (by decide) (by decide) k) ?_
    show Go _ _ _ _ T0 (mkF m 83 #[.val (.ref a1), .val (.ref a2), .val (.ref a3), .val (.int (1 : Int32)), .val (.long (((F1 0).toInt64) - ((F2 0).toInt64))), .second] [])
    refine Go.st (fun t k => XS.lload X0.here hx rfl (hb hby d3_83) rfl k) ?_
    show Go _ _ _ _ T0 (mkF m 85 #[.val (.ref a1), .val (.ref a2), .val (.ref a3), .val (.int (1 : Int32)), .val (.long (((F1 0).toInt64) - ((F2 0).toInt64))), .second] [(.long (((F1 0).toInt64) - ((F2 0).toInt64)))])
    exact goJ X0 hx hret hlk (hb hby d3_85) (by decide) (by decide) ⟨rfl, N0, e0⟩
  ·
    show Go _ _ _ _ T0 (mkF m 0 #[.val (.ref a1), .val (.ref a2), .val (.ref a3), .unset, .unset, .unset] [])
    show Go _ _ _ _ T0 (mkF m 0 #[.val (.ref a1), .val (.ref a2), .val (.ref a3), .unset, .unset, .unset] [])
    refine Go.st (fun t k => XS.aloadN X0.here hx rfl (hb hby d3_0) rfl rfl k) ?_
    show Go _ _ _ _ T0 (mkF m 1 #[.val (.ref a1), .val (.ref a2), .val (.ref a3), .unset, .unset, .unset] [(.ref a1)])
    refine goLen X0 hx hZ e0 V_a1 (z := (2 : Int32)) rfl (g := (mkF m 1 #[.val (.ref a1), .val (.ref a2), .val (.ref a3), .unset, .unset, .unset] [(.ref a1)])) rfl rfl (hb hby d3_1) ?_
    show Go _ _ _ _ T0 (mkF m 2 #[.val (.ref a1), .val (.ref a2), .val (.ref a3), .unset, .unset, .unset] [(.int (2 : Int32))])
    refine Go.st (fun t k => XS.istoreN X0.here hx rfl (hb hby d3_2) rfl (l' := #[.val (.ref a1), .val (.ref a2), .val (.ref a3), .val (.int (2 : Int32)), .unset, .unset]) rfl k) ?_
    show Go _ _ _ _ T0 (mkF m 3 #[.val (.ref a1), .val (.ref a2), .val (.ref a3), .val (.int (2 : Int32)), .unset, .unset] [])
    refine Go.st (fun t k => XS.lconst X0.here hx rfl (hb hby d3_3) k) ?_
    show Go _ _ _ _ T0 (mkF m 4 #[.val (.ref a1), .val (.ref a2), .val (.ref a3), .val (.int (2 : Int32)), .unset, .unset] [(.long (0 : Int64))])
    refine Go.st (fun t k => XS.lstore X0.here hx rfl (hb hby d3_4) rfl (l' := #[.val (.ref a1), .val (.ref a2), .val (.ref a3), .val (.int (2 : Int32)), .val (.long (0 : Int64)), .second]) rfl k) ?_
    show Go _ _ _ _ T0 (mkF m 6 #[.val (.ref a1), .val (.ref a2), .val (.ref a3), .val (.int (2 : Int32)), .val (.long (0 : Int64)), .second] [])
    refine Go.st (fun t k => XS.iloadN X0.here hx rfl (hb hby d3_6) rfl k) ?_
    show Go _ _ _ _ T0 (mkF m 7 #[.val (.ref a1), .val (.ref a2), .val (.ref a3), .val (.int (2 : Int32)), .val (.long (0 : Int64)), .second] [(.int (2 : Int32))])
    refine Go.st (fun t k => XS.ifNo X0.here hx rfl (hb hby d3_7) rfl (by decide) k) ?_
    show Go _ _ _ _ T0 (mkF m 10 #[.val (.ref a1), .val (.ref a2), .val (.ref a3), .val (.int (2 : Int32)), .val (.long (0 : Int64)), .second] [])
    refine Go.st (fun t k => XS.aloadN X0.here hx rfl (hb hby d3_10) rfl rfl k) ?_
    show Go _ _ _ _ T0 (mkF m 11 #[.val (.ref a1), .val (.ref a2), .val (.ref a3), .val (.int (2 : Int32)), .val (.long (0 : Int64)), .second] [(.ref a1)])
    refine Go.st (fun t k => XS.iconst X0.here hx rfl (hb hby d3_11) k) ?_
    show Go _ _ _ _ T0 (mkF m 12 #[.val (.ref a1), .val (.ref a2), .val (.ref a3), .val (.int (2 : Int32)), .val (.long (0 : Int64)), .second] [(.int (0 : Int32)), (.ref a1)])
    refine goLdI X0 hx hZ e0 V_a1 (v := (.int (F1 0))) (g := (mkF m 12 #[.val (.ref a1), .val (.ref a2), .val (.ref a3), .val (.int (2 : Int32)), .val (.long (0 : Int64)), .second] [(.int (0 : Int32)), (.ref a1)])) rfl rfl (hb hby d3_12) (k := 0) ⟨by decide, rfl, by decide⟩ rfl ?_
    show Go _ _ _ _ T0 (mkF m 13 #[.val (.ref a1), .val (.ref a2), .val (.ref a3), .val (.int (2 : Int32)), .val (.long (0 : Int64)), .second] [(.int (F1 0))])
    refine Go.st (fun t k => XS.i2l X0.here hx rfl (hb hby d3_13) rfl k) ?_
    show Go _ _ _ _ T0 (mkF m 14 #[.val (.ref a1), .val (.ref a2), .val (.ref a3), .val (.int (2 : Int32)), .val (.long (0 : Int64)), .second] [(.long ((F1 0).toInt64))])
    refine Go.st (fun t k => XS.aloadN X0.here hx rfl (hb hby d3_14) rfl rfl k) ?_
    show Go _ _ _ _ T0 (mkF m 15 #[.val (.ref a1), .val (.ref a2), .val (.ref a3), .val (.int (2 : Int32)), .val (.long (0 : Int64)), .second] [(.ref a2), (.long ((F1 0).toInt64))])
    refine Go.st (fun t k => XS.iconst X0.here hx rfl (hb hby d3_15) k) ?_
    show Go _ _ _ _ T0 (mkF m 16 #[.val (.ref a1), .val (.ref a2), .val (.ref a3), .val (.int (2 : Int32)), .val (.long (0 : Int64)), .second] [(.int (0 : Int32)), (.ref a2), (.long ((F1 0).toInt64))])
    refine goLdI X0 hx hZ e0 V_a2 (v := (.int (F2 0))) (g := (mkF m 16 #[.val (.ref a1), .val (.ref a2), .val (.ref a3), .val (.int (2 : Int32)), .val (.long (0 : Int64)), .second] [(.int (0 : Int32)), (.ref a2), (.long ((F1 0).toInt64))])) rfl rfl (hb hby d3_16) (k := 0) ⟨by decide, rfl, by decide⟩ rfl ?_
    show Go _ _ _ _ T0 (mkF m 17 #[.val (.ref a1), .val (.ref a2), .val (.ref a3), .val (.int (2 : Int32)), .val (.long (0 : Int64)), .second] [(.int (F2 0)), (.long ((F1 0).toInt64))])
    refine Go.st (fun t k => XS.i2l X0.here hx rfl (hb hby d3_17) rfl k) ?_
    show Go _ _ _ _ T0 (mkF m 18 #[.val (.ref a1), .val (.ref a2), .val (.ref a3), .val (.int (2 : Int32)), .val (.long (0 : Int64)), .second] [(.long ((F2 0).toInt64)), (.long ((F1 0).toInt64))])
    refine Go.st (fun t k => XS.lsub X0.here hx rfl (hb hby d3_18) rfl k) ?_
    show Go _ _ _ _ T0 (mkF m 19 #[.val (.ref a1), .val (.ref a2), .val (.ref a3), .val (.int (2 : Int32)), .val (.long (0 : Int64)), .second] [(.long (((F1 0).toInt64) - ((F2 0).toInt64)))])
    refine Go.st (fun t k => XS.lstore X0.here hx rfl (hb hby d3_19) rfl (l' := #[.val (.ref a1), .val (.ref a2), .val (.ref a3), .val (.int (2 : Int32)), .val (.long (((F1 0).toInt64) - ((F2 0).toInt64))), .second]) rfl k) ?_
    show Go _ _ _ _ T0 (mkF m 21 #[.val (.ref a1), .val (.ref a2), .val (.ref a3), .val (.int (2 : Int32)), .val (.long (((F1 0).toInt64) - ((F2 0).toInt64))), .second] [])
    refine Go.st (fun t k => XS.iloadN X0.here hx rfl (hb hby d3_21) rfl k) ?_
    show Go _ _ _ _ T0 (mkF m 22 #[.val (.ref a1), .val (.ref a2), .val (.ref a3), .val (.int (2 : Int32)), .val (.long (((F1 0).toInt64) - ((F2 0).toInt64))), .second] [(.int (2 : Int32))])
    refine Go.st (fun t k => XS.iconst X0.here hx rfl (hb hby d3_22) k) ?_
    show Go _ _ _ _ T0 (mkF m 23 #[.val (.ref a1), .val (.ref a2), .val (.ref a3), .val (.int (2 : Int32)), .val (.long (((F1 0).toInt64) - ((F2 0).toInt64))), .second] [(.int (1 : Int32)), (.int (2 : Int32))])
    refine Go.st (fun t k => XS.icmpNo X0.here hx rfl (hb hby d3_23) rfl (by decide) k) ?_
    show Go _ _ _ _ T0 (mkF m 26 #[.val (.ref a1), .val (.ref a2), .val (.ref a3), .val (.int (2 : Int32)), .val (.long (((F1 0).toInt64) - ((F2 0).toInt64))), .second] [])
    refine Go.st (fun t k => XS.lload X0.here hx rfl (hb hby d3_26) rfl k) ?_
    show Go _ _ _ _ T0 (mkF m 28 #[.val (.ref a1), .val (.ref a2), .val (.ref a3), .val (.int (2 : Int32)), .val (.long (((F1 0).toInt64) - ((F2 0).toInt64))), .second] [(.long (((F1 0).toInt64) - ((F2 0).toInt64)))])
    refine Go.st (fun t k => XS.aloadN X0.here hx rfl (hb hby d3_28) rfl rfl k) ?_
    show Go _ _ _ _ T0 (mkF m 29 #[.val (.ref a1), .val (.ref a2), .val (.ref a3), .val (.int (2 : Int32)), .val (.long (((F1 0).toInt64) - ((F2 0).toInt64))), .second] [(.ref a3), (.long (((F1 0).toInt64) - ((F2 0).toInt64)))])
    refine Go.st (fun t k => XS.iconst X0.here hx rfl (hb hby d3_29) k) ?_
    show Go _ _ _ _ T0 (mkF m 30 #[.val (.ref a1), .val (.ref a2), .val (.ref a3), .val (.int (2 : Int32)), .val (.long (((F1 0).toInt64) - ((F2 0).toInt64))), .second] [(.int (1 : Int32)), (.ref a3), (.long (((F1 0).toInt64) - ((F2 0).toInt64)))])
    refine goLdI X0 hx hZ e0 V_a3 (v := (.int (F3 1))) (g := (mkF m 30 #[.val (.ref a1), .val (.ref a2), .val (.ref a3), .val (.int (2 : Int32)), .val (.long (((F1 0).toInt64) - ((F2 0).toInt64))), .second] [(.int (1 : Int32)), (.ref a3), (.long (((F1 0).toInt64) - ((F2 0).toInt64)))])) rfl rfl (hb hby d3_30) (k := 1) ⟨by decide, rfl, by decide⟩ rfl ?_
    show Go _ _ _ _ T0 (mkF m 31 #[.val (.ref a1), .val (.ref a2), .val (.ref a3), .val (.int (2 : Int32)), .val (.long (((F1 0).toInt64) - ((F2 0).toInt64))), .second] [(.int (F3 1)), (.long (((F1 0).toInt64) - ((F2 0).toInt64)))])
    refine Go.st (fun t k => XS.i2l X0.here hx rfl (hb hby d3_31) rfl k) ?_
    show Go _ _ _ _ T0 (mkF m 32 #[.val (.ref a1), .val (.ref a2), .val (.ref a3), .val (.int (2 : Int32)), .val (.long (((F1 0).toInt64) - ((F2 0).toInt64))), .second] [(.long ((F3 1).toInt64)), (.long (((F1 0).toInt64) - ((F2 0).toInt64)))])
    refine Go.st (fun t k => XS.aloadN X0.here hx rfl (hb hby d3_32) rfl rfl k) ?_
    show Go _ _ _ _ T0 (mkF m 33 #[.val (.ref a1), .val (.ref a2), .val (.ref a3), .val (.int (2 : Int32)), .val (.long (((F1 0).toInt64) - ((F2 0).toInt64))), .second] [(.ref a2), (.long ((F3 1).toInt64)), (.long (((F1 0).toInt64) - ((F2 0).toInt64)))])
    refine Go.st (fun t k => XS.iconst X0.here hx rfl (hb hby d3_33) k) ?_
    show Go _ _ _ _ T0 (mkF m 34 #[.val (.ref a1), .val (.ref a2), .val (.ref a3), .val (.int (2 : Int32)), .val (.long (((F1 0).toInt64) - ((F2 0).toInt64))), .second] [(.int (1 : Int32)), (.ref a2), (.long ((F3 1).toInt64)), (.long (((F1 0).toInt64) - ((F2 0).toInt64)))])
    refine goLdI X0 hx hZ e0 V_a2 (v := (.int (F2 1))) (g := (mkF m 34 #[.val (.ref a1), .val (.ref a2), .val (.ref a3), .val (.int (2 : Int32)), .val (.long (((F1 0).toInt64) - ((F2 0).toInt64))), .second] [(.int (1 : Int32)), (.ref a2), (.long ((F3 1).toInt64)), (.long (((F1 0).toInt64) - ((F2 0).toInt64)))])) rfl rfl (hb hby d3_34) (k := 1) ⟨by decide, rfl, by decide⟩ rfl ?_
    show Go _ _ _ _ T0 (mkF m 35 #[.val (.ref a1), .val (.ref a2), .val (.ref a3), .val (.int (2 : Int32)), .val (.long (((F1 0).toInt64) - ((F2 0).toInt64))), .second] [(.int (F2 1)), (.long ((F3 1).toInt64)), (.long (((F1 0).toInt64) - ((F2 0).toInt64)))])
    refine Go.st (fun t k => XS.i2l X0.here hx rfl (hb hby d3_35) rfl k) ?_
    show Go _ _ _ _ T0 (mkF m 36 #[.val (.ref a1), .val (.ref a2), .val (.ref a3), .val (.int (2 : Int32)), .val (.long (((F1 0).toInt64) - ((F2 0).toInt64))), .second] [(.long ((F2 1).toInt64)), (.long ((F3 1).toInt64)), (.long (((F1 0).toInt64) - ((F2 0).toInt64)))])
    refine Go.st (fun t k => XS.lsub X0.here hx rfl (hb hby d3_36) rfl k) ?_
    show Go _ _ _ _ T0 (mkF m 37 #[.val (.ref a1), .val (.ref a2), .val (.ref a3), .val (.int (2 : Int32)), .val (.long (((F1 0).toInt64) - ((F2 0).toInt64))), .second] [(.long (((F3 1).toInt64) - ((F2 1).toInt64))), (.long (((F1 0).toInt64) - ((F2 0).toInt64)))])
    refine Go.st (fun t k => XS.lconst X0.here hx rfl (hb hby d3_37) k) ?_
    show Go _ _ _ _ T0 (mkF m 38 #[.val (.ref a1), .val (.ref a2), .val (.ref a3), .val (.int (2 : Int32)), .val (.long (((F1 0).toInt64) - ((F2 0).toInt64))), .second] [(.long (1 : Int64)), (.long (((F3 1).toInt64) - ((F2 1).toInt64))), (.long (((F1 0).toInt64) - ((F2 0).toInt64)))])
    refine Go.st (fun t k => XS.ladd X0.here hx rfl (hb hby d3_38) rfl k) ?_
    show Go _ _ _ _ T0 (mkF m 39 #[.val (.ref a1), .val (.ref a2), .val (.ref a3), .val (.int (2 : Int32)), .val (.long (((F1 0).toInt64) - ((F2 0).toInt64))), .second] [(.long ((((F3 1).toInt64) - ((F2 1).toInt64)) + (1 : Int64))), (.long (((F1 0).toInt64) - ((F2 0).toInt64)))])
    refine Go.st (fun t k => XS.lmul X0.here hx rfl (hb hby d3_39) rfl k) ?_
    show Go _ _ _ _ T0 (mkF m 40 #[.val (.ref a1), .val (.ref a2), .val (.ref a3), .val (.int (2 : Int32)), .val (.long (((F1 0).toInt64) - ((F2 0).toInt64))), .second] [(.long ((((F1 0).toInt64) - ((F2 0).toInt64)) * ((((F3 1).toInt64) - ((F2 1).toInt64)) + (1 : Int64))))])
    refine Go.st (fun t k => XS.aloadN X0.here hx rfl (hb hby d3_40) rfl rfl k) ?_
    show Go _ _ _ _ T0 (mkF m 41 #[.val (.ref a1), .val (.ref a2), .val (.ref a3), .val (.int (2 : Int32)), .val (.long (((F1 0).toInt64) - ((F2 0).toInt64))), .second] [(.ref a1), (.long ((((F1 0).toInt64) - ((F2 0).toInt64)) * ((((F3 1).toInt64) - ((F2 1).toInt64)) + (1 : Int64))))])
    refine Go.st (fun t k => XS.iconst X0.here hx rfl (hb hby d3_41) k) ?_
    show Go _ _ _ _ T0 (mkF m 42 #[.val (.ref a1), .val (.ref a2), .val (.ref a3), .val (.int (2 : Int32)), .val (.long (((F1 0).toInt64) - ((F2 0).toInt64))), .second] [(.int (1 : Int32)), (.ref a1), (.long ((((F1 0).toInt64) - ((F2 0).toInt64)) * ((((F3 1).toInt64) - ((F2 1).toInt64)) + (1 : Int64))))])
    refine goLdI X0 hx hZ e0 V_a1 (v := (.int (F1 1))) (g := (mkF m 42 #[.val (.ref a1), .val (.ref a2), .val (.ref a3), .val (.int (2 : Int32)), .val (.long (((F1 0).toInt64) - ((F2 0).toInt64))), .second] [(.int (1 : Int32)), (.ref a1), (.long ((((F1 0).toInt64) - ((F2 0).toInt64)) * ((((F3 1).toInt64) - ((F2 1).toInt64)) + (1 : Int64))))])) rfl rfl (hb hby d3_42) (k := 1) ⟨by decide, rfl, by decide⟩ rfl ?_
    show Go _ _ _ _ T0 (mkF m 43 #[.val (.ref a1), .val (.ref a2), .val (.ref a3), .val (.int (2 : Int32)), .val (.long (((F1 0).toInt64) - ((F2 0).toInt64))), .second] [(.int (F1 1)), (.long ((((F1 0).toInt64) - ((F2 0).toInt64)) * ((((F3 1).toInt64) - ((F2 1).toInt64)) + (1 : Int64))))])
    refine Go.st (fun t k => XS.i2l X0.here hx rfl (hb hby d3_43) rfl k) ?_
    show Go _ _ _ _ T0 (mkF m 44 #[.val (.ref a1), .val (.ref a2), .val (.ref a3), .val (.int (2 : Int32)), .val (.long (((F1 0).toInt64) - ((F2 0).toInt64))), .second] [(.long ((F1 1).toInt64)), (.long ((((F1 0).toInt64) - ((F2 0).toInt64)) * ((((F3 1).toInt64) - ((F2 1).toInt64)) + (1 : Int64))))])
    refine Go.st (fun t k => XS.aloadN X0.here hx rfl (hb hby d3_44) rfl rfl k) ?_
    show Go _ _ _ _ T0 (mkF m 45 #[.val (.ref a1), .val (.ref a2), .val (.ref a3), .val (.int (2 : Int32)), .val (.long (((F1 0).toInt64) - ((F2 0).toInt64))), .second] [(.ref a2), (.long ((F1 1).toInt64)), (.long ((((F1 0).toInt64) - ((F2 0).toInt64)) * ((((F3 1).toInt64) - ((F2 1).toInt64)) + (1 : Int64))))])
    refine Go.st (fun t k => XS.iconst X0.here hx rfl (hb hby d3_45) k) ?_
    show Go _ _ _ _ T0 (mkF m 46 #[.val (.ref a1), .val (.ref a2), .val (.ref a3), .val (.int (2 : Int32)), .val (.long (((F1 0).toInt64) - ((F2 0).toInt64))), .second] [(.int (1 : Int32)), (.ref a2), (.long ((F1 1).toInt64)), (.long ((((F1 0).toInt64) - ((F2 0).toInt64)) * ((((F3 1).toInt64) - ((F2 1).toInt64)) + (1 : Int64))))])
    refine goLdI X0 hx hZ e0 V_a2 (v := (.int (F2 1))) (g := (mkF m 46 #[.val (.ref a1), .val (.ref a2), .val (.ref a3), .val (.int (2 : Int32)), .val (.long (((F1 0).toInt64) - ((F2 0).toInt64))), .second] [(.int (1 : Int32)), (.ref a2), (.long ((F1 1).toInt64)), (.long ((((F1 0).toInt64) - ((F2 0).toInt64)) * ((((F3 1).toInt64) - ((F2 1).toInt64)) + (1 : Int64))))])) rfl rfl (hb hby d3_46) (k := 1) ⟨by decide, rfl, by decide⟩ rfl ?_
    show Go _ _ _ _ T0 (mkF m 47 #[.val (.ref a1), .val (.ref a2), .val (.ref a3), .val (.int (2 : Int32)), .val (.long (((F1 0).toInt64) - ((F2 0).toInt64))), .second] [(.int (F2 1)), (.long ((F1 1).toInt64)), (.long ((((F1 0).toInt64) - ((F2 0).toInt64)) * ((((F3 1).toInt64) - ((F2 1).toInt64)) + (1 : Int64))))])
    refine Go.st (fun t k => XS.i2l X0.here hx rfl (hb hby d3_47) rfl k) ?_
    show Go _ _ _ _ T0 (mkF m 48 #[.val (.ref a1), .val (.ref a2), .val (.ref a3), .val (.int (2 : Int32)), .val (.long (((F1 0).toInt64) - ((F2 0).toInt64))), .second] [(.long ((F2 1).toInt64)), (.long ((F1 1).toInt64)), (.long ((((F1 0).toInt64) - ((F2 0).toInt64)) * ((((F3 1).toInt64) - ((F2 1).toInt64)) + (1 : Int64))))])
    refine Go.st (fun t k => XS.lsub X0.here hx rfl (hb hby d3_48) rfl k) ?_
    show Go _ _ _ _ T0 (mkF m 49 #[.val (.ref a1), .val (.ref a2), .val (.ref a3), .val (.int (2 : Int32)), .val (.long (((F1 0).toInt64) - ((F2 0).toInt64))), .second] [(.long (((F1 1).toInt64) - ((F2 1).toInt64))), (.long ((((F1 0).toInt64) - ((F2 0).toInt64)) * ((((F3 1).toInt64) - ((F2 1).toInt64)) + (1 : Int64))))])
    refine Go.st (fun t k => XS.ladd X0.here hx rfl (hb hby d3_49) rfl k) ?_
    show Go _ _ _ _ T0 (mkF m 50 #[.val (.ref a1), .val (.ref a2), .val (.ref a3), .val (.int (2 : Int32)), .val (.long (((F1 0).toInt64) - ((F2 0).toInt64))), .second] [(.long (((((F1 0).toInt64) - ((F2 0).toInt64)) * ((((F3 1).toInt64) - ((F2 1).toInt64)) + (1 : Int64))) + (((F1 1).toInt64) - ((F2 1).toInt64))))])
    refine Go.st (fun t k => XS.lstore X0.here hx rfl (hb hby d3_50) rfl (l' := #[.val (.ref a1), .val (.ref a2), .val (.ref a3), .val (.int (2 : Int32)), .val (.long (((((F1 0).toInt64) - ((F2 0).toInt64)) * ((((F3 1).toInt64) - ((F2 1).toInt64)) + (1 : Int64))) + (((F1 1).toInt64) - ((F2 1).toInt64)))), .second]) rfl k) ?_
    show Go _ _ _ _ T0 (mkF m 52 #[.val (.ref a1), .val (.ref a2), .val (.ref a3), .val (.int (2 : Int32)), .val (.long (((((F1 0).toInt64) - ((F2 0).toInt64)) * ((((F3 1).toInt64) - ((F2 1).toInt64)) + (1 : Int64))) + (((F1 1).toInt64) - ((F2 1).toInt64)))), .second] [])
    refine Go.st (fun t k => XS.iloadN X0.here hx rfl (hb hby d3_52) rfl k) ?_
    show Go _ _ _ _ T0 (mkF m 53 #[.val (.ref a1), .val (.ref a2), .val (.ref a3), .val (.int (2 : Int32)), .val (.long (((((F1 0).toInt64) - ((F2 0).toInt64)) * ((((F3 1).toInt64) - ((F2 1).toInt64)) + (1 : Int64))) + (((F1 1).toInt64) - ((F2 1).toInt64)))), .second] [(.int (2 : Int32))])
    refine Go.st (fun t k => XS.iconst X0.here hx rfl (hb hby d3_53) k) ?_
    show Go _ _ _ _ T0 (mkF m 54 #[.val (.ref a1), .val (.ref a2), .val (.ref a3), .val (.int (2 : Int32)), .val (.long (((((F1 0).toInt64) - ((F2 0).toInt64)) * ((((F3 1).toInt64) - ((F2 1).toInt64)) + (1 : Int64))) + (((F1 1).toInt64) - ((F2 1).toInt64)))), .second] [(.int (2 : Int32)), (.int (2 : Int32))])
    refine Go.st (fun t k => XS.icmpYes X0.here hx rfl (pc0 := 54) (pc' := 83) rfl (hb hby d3_54) rfl (by decide) (by decide) (by decide) k) ?_
    show Go _ _ _ _ T0 (mkF m 83 #[.val (.ref a1), .val (.ref a2), .val (.ref a3), .val (.int (2 : Int32)), .val (.long (((((F1 0).toInt64) - ((F2 0).toInt64)) * ((((F3 1).toInt64) - ((F2 1).toInt64)) + (1 : Int64))) + (((F1 1).toInt64) - ((F2 1).toInt64)))), .second] [])
    refine Go.st (fun t k => XS.lload X0.here hx rfl (hb hby d3_83) rfl k) ?_
    show Go _ _ _ _ T0 (mkF m 85 #[.val (.ref a1), .val (.ref a2), .val (.ref a3), .val (.int (2 : Int32)), .val (.long (((((F1 0).toInt64) - ((F2 0).toInt64)) * ((((F3 1).toInt64) - ((F2 1).toInt64)) + (1 : Int64))) + (((F1 1).toInt64) - ((F2 1).toInt64)))), .second] [(.long (((((F1 0).toInt64) - ((F2 0).toInt64)) * ((((F3 1).toInt64) - ((F2 1).toInt64)) + (1 : Int64))) + (((F1 1).toInt64) - ((F2 1).toInt64))))])
    exact goJ X0 hx hret hlk (hb hby d3_85) (by decide) (by decide) ⟨rfl, N0, e0⟩
  ·
    show Go _ _ _ _ T0 (mkF m 0 #[.val (.ref a1), .val (.ref a2), .val (.ref a3), .unset, .unset, .unset] [])
    show Go _ _ _ _ T0 (mkF m 0 #[.val (.ref a1), .val (.ref a2), .val (.ref a3), .unset, .unset, .unset] [])
    refine Go.st (fun t k => XS.aloadN X0.here hx rfl (hb hby d3_0) rfl rfl k) ?_
    show Go _ _ _ _ T0 (mkF m 1 #[.val (.ref a1), .val (.ref a2), .val (.ref a3), .unset, .unset, .unset] [(.ref a1)])
    refine goLen X0 hx hZ e0 V_a1 (z := (3 : Int32)) rfl (g := (mkF m 1 #[.val (.ref a1), .val (.ref a2), .val (.ref a3), .unset, .unset, .unset] [(.ref a1)])) rfl rfl (hb hby d3_1) ?_
    show Go _ _ _ _ T0 (mkF m 2 #[.val (.ref a1), .val (.ref a2), .val (.ref a3), .unset, .unset, .unset] [(.int (3 : Int32))])
    refine Go.st (fun t k => XS.istoreN X0.here hx rfl (hb hby d3_2) rfl (l' := #[.val (.ref a1), .val (.ref a2), .val (.ref a3), .val (.int (3 : Int32)), .unset, .unset]) rfl k) ?_
    show Go _ _ _ _ T0 (mkF m 3 #[.val (.ref a1), .val (.ref a2), .val (.ref a3), .val (.int (3 : Int32)), .unset, .unset] [])
    refine Go.st (fun t k => XS.lconst X0.here hx rfl (hb hby d3_3) k) ?_
    show Go _ _ _ _ T0 (mkF m 4 #[.val (.ref a1), .val (.ref a2), .val (.ref a3), .val (.int (3 : Int32)), .unset, .unset] [(.long (0 : Int64))])
    refine Go.st (fun t k => XS.lstore X0.here hx rfl (hb hby d3_4) rfl (l' := #[.val (.ref a1), .val (.ref a2), .val (.ref a3), .val (.int (3 : Int32)), .val (.long (0 : Int64)), .second]) rfl k) ?_
    show Go _ _ _ _ T0 (mkF m 6 #[.val (.ref a1), .val (.ref a2), .val (.ref a3), .val (.int (3 : Int32)), .val (.long (0 : Int64)), .second] [])
    refine Go.st (fun t k => XS.iloadN X0.here hx rfl (hb hby d3_6) rfl k) ?_
    show Go _ _ _ _ T0 (mkF m 7 #[.val (.ref a1), .val (.ref a2), .val (.ref a3), .val (.int (3 : Int32)), .val (.long (0 : Int64)), .second] [(.int (3 : Int32))])
    refine Go.st (fun t k => XS.ifNo X0.here hx rfl (hb hby d3_7) rfl (by decide) k) ?_
    show Go _ _ _ _ T0 (mkF m 10 #[.val (.ref a1), .val (.ref a2), .val (.ref a3), .val (.int (3 : Int32)), .val (.long (0 : Int64)), .second] [])
    refine Go.st (fun t k => XS.aloadN X0.here hx rfl (hb hby d3_10) rfl rfl k) ?_
    show Go _ _ _ _ T0 (mkF m 11 #[.val (.ref a1), .val (.ref a2), .val (.ref a3), .val (.int (3 : Int32)), .val (.long (0 : Int64)), .second] [(.ref a1)])
    refine Go.st (fun t k => XS.iconst X0.here hx rfl (hb hby d3_11) k) ?_
    show Go _ _ _ _ T0 (mkF m 12 #[.val (.ref a1), .val (.ref a2), .val (.ref a3), .val (.int (3 : Int32)), .val (.long (0 : Int64)), .second] [(.int (0 : Int32)), (.ref a1)])
    refine goLdI X0 hx hZ e0 V_a1 (v := (.int (F1 0))) (g := (mkF m 12 #[.val (.ref a1), .val (.ref a2), .val (.ref a3), .val (.int (3 : Int32)), .val (.long (0 : Int64)), .second] [(.int (0 : Int32)), (.ref a1)])) rfl rfl (hb hby d3_12) (k := 0) ⟨by decide, rfl, by decide⟩ rfl ?_
    show Go _ _ _ _ T0 (mkF m 13 #[.val (.ref a1), .val (.ref a2), .val (.ref a3), .val (.int (3 : Int32)), .val (.long (0 : Int64)), .second] [(.int (F1 0))])
    refine Go.st (fun t k => XS.i2l X0.here hx rfl (hb hby d3_13) rfl k) ?_
    show Go _ _ _ _ T0 (mkF m 14 #[.val (.ref a1), .val (.ref a2), .val (.ref a3), .val (.int (3 : Int32)), .val (.long (0 : Int64)), .second] [(.long ((F1 0).toInt64))])
    refine Go.st (fun t k => XS.aloadN X0.here hx rfl (hb hby d3_14) rfl rfl k) ?_
    show Go _ _ _ _ T0 (mkF m 15 #[.val (.ref a1), .val (.ref a2), .val (.ref a3), .val (.int (3 : Int32)), .val (.long (0 : Int64)), .second] [(.ref a2), (.long ((F1 0).toInt64))])
    refine Go.st (fun t k => XS.iconst X0.here hx rfl (hb hby d3_15) k) ?_
    show Go _ _ _ _ T0 (mkF m 16 #[.val (.ref a1), .val (.ref a2), .val (.ref a3), .val (.int (3 : Int32)), .val (.long (0 : Int64)), .second] [(.int (0 : Int32)), (.ref a2), (.long ((F1 0).toInt64))])
    refine goLdI X0 hx hZ e0 V_a2 (v := (.int (F2 0))) (g := (mkF m 16 #[.val (.ref a1), .val (.ref a2), .val (.ref a3), .val (.int (3 : Int32)), .val (.long (0 : Int64)), .second] [(.int (0 : Int32)), (.ref a2), (.long ((F1 0).toInt64))])) rfl rfl (hb hby d3_16) (k := 0) ⟨by decide, rfl, by decide⟩ rfl ?_
    show Go _ _ _ _ T0 (mkF m 17 #[.val (.ref a1), .val (.ref a2), .val (.ref a3), .val (.int (3 : Int32)), .val (.long (0 : Int64)), .second] [(.int (F2 0)), (.long ((F1 0).toInt64))])
    refine Go.st (fun t k => XS.i2l X0.here hx rfl (hb hby d3_17) rfl k) ?_
    show Go _ _ _ _ T0 (mkF m 18 #[.val (.ref a1), .val (.ref a2), .val (.ref a3), .val (.int (3 : Int32)), .val (.long (0 : Int64)), .second] [(.long ((F2 0).toInt64)), (.long ((F1 0).toInt64))])
    refine Go.st (fun t k => XS.lsub X0.here hx rfl (hb hby d3_18) rfl k) ?_
    show Go _ _ _ _ T0 (mkF m 19 #[.val (.ref a1), .val (.ref a2), .val (.ref a3), .val (.int (3 : Int32)), .val (.long (0 : Int64)), .second] [(.long (((F1 0).toInt64) - ((F2 0).toInt64)))])
    refine Go.st (fun t k => XS.lstore X0.here hx rfl (hb hby d3_19) rfl (l' := #[.val (.ref a1), .val (.ref a2), .val (.ref a3), .val (.int (3 : Int32)), .val (.long (((F1 0).toInt64) - ((F2 0).toInt64))), .second]) rfl k) ?_
    show Go _ _ _ _ T0 (mkF m 21 #[.val (.ref a1), .val (.ref a2), .val (.ref a3), .val (.int (3 : Int32)), .val (.long (((F1 0).toInt64) - ((F2 0).toInt64))), .second] [])
    refine Go.st (fun t k => XS.iloadN X0.here hx rfl (hb hby d3_21) rfl k) ?_
    show Go _ _ _ _ T0 (mkF m 22 #[.val (.ref a1), .val (.ref a2), .val (.ref a3), .val (.int (3 : Int32)), .val (.long (((F1 0).toInt64) - ((F2 0).toInt64))), .second] [(.int (3 : Int32))])
    refine Go.st (fun t k => XS.iconst X0.here hx rfl (hb hby d3_22) k) ?_
    show Go _ _ _ _ T0 (mkF m 23 #[.val (.ref a1), .val (.ref a2), .val (.ref a3), .val (.int (3 : Int32)), .val (.long (((F1 0).toInt64) - ((F2 0).toInt64))), .second] [(.int (1 : Int32)), (.int (3 : Int32))])
    refine Go.st (fun t k => XS.icmpNo X0.here hx rfl (hb hby d3_23) rfl (by decide) k) ?_
    show Go _ _ _ _ T0 (mkF m 26 #[.val (.ref a1), .val (.ref a2), .val (.ref a3), .val (.int (3 : Int32)), .val (.long (((F1 0).toInt64) - ((F2 0).toInt64))), .second] [])
    refine Go.st (fun t k => XS.lload X0.here hx rfl (hb hby d3_26) rfl k) ?_
    show Go _ _ _ _ T0 (mkF m 28 #[.val (.ref a1), .val (.ref a2), .val (.ref a3), .val (.int (3 : Int32)), .val (.long (((F1 0).toInt64) - ((F2 0).toInt64))), .second] [(.long (((F1 0).toInt64) - ((F2 0).toInt64)))])
    refine Go.st (fun t k => XS.aloadN X0.here hx rfl (hb hby d3_28) rfl rfl k) ?_
    show Go _ _ _ _ T0 (mkF m 29 #[.val (.ref a1), .val (.ref a2), .val (.ref a3), .val (.int (3 : Int32)), .val (.long (((F1 0).toInt64) - ((F2 0).toInt64))), .second] [(.ref a3), (.long (((F1 0).toInt64) - ((F2 0).toInt64)))])
    refine Go.st (fun t k => XS.iconst X0.here hx rfl (hb hby d3_29) k) ?_
    show Go _ _ _ _ T0 (mkF m 30 #[.val (.ref a1), .val (.ref a2), .val (.ref a3), .val (.int (3 : Int32)), .val (.long (((F1 0).toInt64) - ((F2 0).toInt64))), .second] [(.int (1 : Int32)), (.ref a3), (.long (((F1 0).toInt64) - ((F2 0).toInt64)))])
    refine goLdI X0 hx hZ e0 V_a3 (v := (.int (F3 1))) (g := (mkF m 30 #[.val (.ref a1), .val (.ref a2), .val (.ref a3), .val (.int (3 : Int32)), .val (.long (((F1 0).toInt64) - ((F2 0).toInt64))), .second] [(.int (1 : Int32)), (.ref a3), (.long (((F1 0).toInt64) - ((F2 0).toInt64)))])) rfl rfl (hb hby d3_30) (k := 1) ⟨by decide, rfl, by decide⟩ rfl ?_
    show Go _ _ _ _ T0 (mkF m 31 #[.val (.ref a1), .val (.ref a2), .val (.ref a3), .val (.int (3 : Int32)), .val (.long (((F1 0).toInt64) - ((F2 0).toInt64))), .second] [(.int (F3 1)), (.long (((F1 0).toInt64) - ((F2 0).toInt64)))])
    refine Go.st (fun t k => XS.i2l X0.here hx rfl (hb hby d3_31) rfl k) ?_
    show Go _ _ _ _ T0 (mkF m 32 #[.val (.ref a1), .val (.ref a2), .val (.ref a3), .val (.int (3 : Int32)), .val (.long (((F1 0).toInt64) - ((F2 0).toInt64))), .second] [(.long ((F3 1).toInt64)), (.long (((F1 0).toInt64) - ((F2 0).toInt64)))])
    refine Go.st (fun t k => XS.aloadN X0.here hx rfl (hb hby d3_32) rfl rfl k) ?_
    show Go _ _ _ _ T0 (mkF m 33 #[.val (.ref a1), .val (.ref a2), .val (.ref a3), .val (.int (3 : Int32)), .val (.long (((F1 0).toInt64) - ((F2 0).toInt64))), .second] [(.ref a2), (.long ((F3 1).toInt64)), (.long (((F1 0).toInt64) - ((F2 0).toInt64)))])
    refine Go.st (fun t k => XS.iconst X0.here hx rfl (hb hby d3_33) k) ?_
    show Go _ _ _ _ T0 (mkF m 34 #[.val (.ref a1), .val (.ref a2), .val (.ref a3), .val (.int (3 : Int32)), .val (.long (((F1 0).toInt64) - ((F2 0).toInt64))), .second] [(.int (1 : Int32)), (.ref a2), (.long ((F3 1).toInt64)), (.long (((F1 0).toInt64) - ((F2 0).toInt64)))])
    refine goLdI X0 hx hZ e0 V_a2 (v := (.int (F2 1))) (g := (mkF m 34 #[.val (.ref a1), .val (.ref a2), .val (.ref a3), .val (.int (3 : Int32)), .val (.long (((F1 0).toInt64) - ((F2 0).toInt64))), .second] [(.int (1 : Int32)), (.ref a2), (.long ((F3 1).toInt64)), (.long (((F1 0).toInt64) - ((F2 0).toInt64)))])) rfl rfl (hb hby d3_34) (k := 1) ⟨by decide, rfl, by decide⟩ rfl ?_
    show Go _ _ _ _ T0 (mkF m 35 #[.val (.ref a1), .val (.ref a2), .val (.ref a3), .val (.int (3 : Int32)), .val (.long (((F1 0).toInt64) - ((F2 0).toInt64))), .second] [(.int (F2 1)), (.long ((F3 1).toInt64)), (.long (((F1 0).toInt64) - ((F2 0).toInt64)))])
    refine Go.st (fun t k => XS.i2l X0.here hx rfl (hb hby d3_35) rfl k) ?_
    show Go _ _ _ _ T0 (mkF m 36 #[.val (.ref a1), .val (.ref a2), .val (.ref a3), .val (.int (3 : Int32)), .val (.long (((F1 0).toInt64) - ((F2 0).toInt64))), .second] [(.long ((F2 1).toInt64)), (.long ((F3 1).toInt64)), (.long (((F1 0).toInt64) - ((F2 0).toInt64)))])
    refine Go.st (fun t k => XS.lsub X0.here hx rfl (hb hby d3_36) rfl k) ?_
    show Go _ _ _ _ T0 (mkF m 37 #[.val (.ref a1), .val (.ref a2), .val (.ref a3), .val (.int (3 : Int32)), .val (.long (((F1 0).toInt64) - ((F2 0).toInt64))), .second] [(.long (((F3 1).toInt64) - ((F2 1).toInt64))), (.long (((F1 0).toInt64) - ((F2 0).toInt64)))])
    refine Go.st (fun t k => XS.lconst X0.here hx rfl (hb hby d3_37) k) ?_
    show Go _ _ _ _ T0 (mkF m 38 #[.val (.ref a1), .val (.ref a2), .val (.ref a3), .val (.int (3 : Int32)), .val (.long (((F1 0).toInt64) - ((F2 0).toInt64))), .second] [(.long (1 : Int64)), (.long (((F3 1).toInt64) - ((F2 1).toInt64))), (.long (((F1 0).toInt64) - ((F2 0).toInt64)))])
    refine Go.st (fun t k => XS.ladd X0.here hx rfl (hb hby d3_38) rfl k) ?_
    show Go _ _ _ _ T0 (mkF m 39 #[.val (.ref a1), .val (.ref a2), .val (.ref a3), .val (.int (3 : Int32)), .val (.long (((F1 0).toInt64) - ((F2 0).toInt64))), .second] [(.long ((((F3 1).toInt64) - ((F2 1).toInt64)) + (1 : Int64))), (.long (((F1 0).toInt64) - ((F2 0).toInt64)))])
    refine Go.st (fun t k => XS.lmul X0.here hx rfl (hb hby d3_39) rfl k) ?_
    show Go _ _ _ _ T0 (mkF m 40 #[.val (.ref a1), .val (.ref a2), .val (.ref a3), .val (.int (3 : Int32)), .val (.long (((F1 0).toInt64) - ((F2 0).toInt64))), .second] [(.long ((((F1 0).toInt64) - ((F2 0).toInt64)) * ((((F3 1).toInt64) - ((F2 1).toInt64)) + (1 : Int64))))])
    refine Go.st (fun t k => XS.aloadN X0.here hx rfl (hb hby d3_40) rfl rfl k) ?_
    show Go _ _ _ _ T0 (mkF m 41 #[.val (.ref a1), .val (.ref a2), .val (.ref a3), .val (.int (3 : Int32)), .val (.long (((F1 0).toInt64) - ((F2 0).toInt64))), .second] [(.ref a1), (.long ((((F1 0).toInt64) - ((F2 0).toInt64)) * ((((F3 1).toInt64) - ((F2 1).toInt64)) + (1 : Int64))))])
    refine Go.st (fun t k => XS.iconst X0.here hx rfl (hb hby d3_41) k) ?_
    show Go _ _ _ _ T0 (mkF m 42 #[.val (.ref a1), .val (.ref a2), .val (.ref a3), .val (.int (3 : Int32)), .val (.long (((F1 0).toInt64) - ((F2 0).toInt64))), .second] [(.int (1 : Int32)), (.ref a1), (.long ((((F1 0).toInt64) - ((F2 0).toInt64)) * ((((F3 1).toInt64) - ((F2 1).toInt64)) + (1 : Int64))))])
    refine goLdI X0 hx hZ e0 V_a1 (v := (.int (F1 1))) (g := (mkF m 42 #[.val (.ref a1), .val (.ref a2), .val (.ref a3), .val (.int (3 : Int32)), .val (.long (((F1 0).toInt64) - ((F2 0).toInt64))), .second] [(.int (1 : Int32)), (.ref a1), (.long ((((F1 0).toInt64) - ((F2 0).toInt64)) * ((((F3 1).toInt64) - ((F2 1).toInt64)) + (1 : Int64))))])) rfl rfl (hb hby d3_42) (k := 1) ⟨by decide, rfl, by decide⟩ rfl ?_
    show Go _ _ _ _ T0 (mkF m 43 #[.val (.ref a1), .val (.ref a2), .val (.ref a3), .val (.int (3 : Int32)), .val (.long (((F1 0).toInt64) - ((F2 0).toInt64))), .second] [(.int (F1 1)), (.long ((((F1 0).toInt64) - ((F2 0).toInt64)) * ((((F3 1).toInt64) - ((F2 1).toInt64)) + (1 : Int64))))])
    refine Go.st (fun t k => XS.i2l X0.here hx rfl (hb hby d3_43) rfl k) ?_
    show Go _ _ _ _ T0 (mkF m 44 #[.val (.ref a1), .val (.ref a2), .val (.ref a3), .val (.int (3 : Int32)), .val (.long (((F1 0).toInt64) - ((F2 0).toInt64))), .second] [(.long ((F1 1).toInt64)), (.long ((((F1 0).toInt64) - ((F2 0).toInt64)) * ((((F3 1).toInt64) - ((F2 1).toInt64)) + (1 : Int64))))])
    refine Go.st (fun t k => XS.aloadN X0.here hx rfl (hb hby d3_44) rfl rfl k) ?_
    show Go _ _ _ _ T0 (mkF m 45 #[.val (.ref a1), .val (.ref a2), .val (.ref a3), .val (.int (3 : Int32)), .val (.long (((F1 0).toInt64) - ((F2 0).toInt64))), .second] [(.ref a2), (.long ((F1 1).toInt64)), (.long ((((F1 0).toInt64) - ((F2 0).toInt64)) * ((((F3 1).toInt64) - ((F2 1).toInt64)) + (1 : Int64))))])
    refine Go.st (fun t k => XS.iconst X0.here hx rfl (hb hby d3_45) k) ?_
    show Go _ _ _ _ T0 (mkF m 46 #[.val (.ref a1), .val (.ref a2), .val (.ref a3), .val (.int (3 : Int32)), .val (.long (((F1 0).toInt64) - ((F2 0).toInt64))), .second] [(.int (1 : Int32)), (.ref a2), (.long ((F1 1).toInt64)), (.long ((((F1 0).toInt64) - ((F2 0).toInt64)) * ((((F3 1).toInt64) - ((F2 1).toInt64)) + (1 : Int64))))])
    refine goLdI X0 hx hZ e0 V_a2 (v := (.int (F2 1))) (g := (mkF m 46 #[.val (.ref a1), .val (.ref a2), .val (.ref a3), .val (.int (3 : Int32)), .val (.long (((F1 0).toInt64) - ((F2 0).toInt64))), .second] [(.int (1 : Int32)), (.ref a2), (.long ((F1 1).toInt64)), (.long ((((F1 0).toInt64) - ((F2 0).toInt64)) * ((((F3 1).toInt64) - ((F2 1).toInt64)) + (1 : Int64))))])) rfl rfl (hb hby d3_46) (k := 1) ⟨by decide, rfl, by decide⟩ rfl ?_
    show Go _ _ _ _ T0 (mkF m 47 #[.val (.ref a1), .val (.ref a2), .val (.ref a3), .val (.int (3 : Int32)), .val (.long (((F1 0).toInt64) - ((F2 0).toInt64))), .second] [(.int (F2 1)), (.long ((F1 1).toInt64)), (.long ((((F1 0).toInt64) - ((F2 0).toInt64)) * ((((F3 1).toInt64) - ((F2 1).toInt64)) + (1 : Int64))))])
    refine Go.st (fun t k => XS.i2l X0.here hx rfl (hb hby d3_47) rfl k) ?_
    show Go _ _ _ _ T0 (mkF m 48 #[.val (.ref a1), .val (.ref a2), .val (.ref a3), .val (.int (3 : Int32)), .val (.long (((F1 0).toInt64) - ((F2 0).toInt64))), .second] [(.long ((F2 1).toInt64)), (.long ((F1 1).toInt64)), (.long ((((F1 0).toInt64) - ((F2 0).toInt64)) * ((((F3 1).toInt64) - ((F2 1).toInt64)) + (1 : Int64))))])
    refine Go.st (fun t k => XS.lsub X0.here hx rfl (hb hby d3_48) rfl k) ?_
    show Go _ _ _ _ T0 (mkF m 49 #[.val (.ref a1), .val (.ref a2), .val (.ref a3), .val (.int (3 : Int32)), .val (.long (((F1 0).toInt64) - ((F2 0).toInt64))), .second] [(.long (((F1 1).toInt64) - ((F2 1).toInt64))), (.long ((((F1 0).toInt64) - ((F2 0).toInt64)) * ((((F3 1).toInt64) - ((F2 1).toInt64)) + (1 : Int64))))])
    refine Go.st (fun t k => XS.ladd X0.here hx rfl (hb hby d3_49) rfl k) ?_
    show Go _ _ _ _ T0 (mkF m 50 #[.val (.ref a1), .val (.ref a2), .val (.ref a3), .val (.int (3 : Int32)), .val (.long (((F1 0).toInt64) - ((F2 0).toInt64))), .second] [(.long (((((F1 0).toInt64) - ((F2 0).toInt64)) * ((((F3 1).toInt64) - ((F2 1).toInt64)) + (1 : Int64))) + (((F1 1).toInt64) - ((F2 1).toInt64))))])
    refine Go.st (fun t k => XS.lstore X0.here hx rfl (hb hby d3_50) rfl (l' := #[.val (.ref a1), .val (.ref a2), .val (.ref a3), .val (.int (3 : Int32)), .val (.long (((((F1 0).toInt64) - ((F2 0).toInt64)) * ((((F3 1).toInt64) - ((F2 1).toInt64)) + (1 : Int64))) + (((F1 1).toInt64) - ((F2 1).toInt64)))), .second]) rfl k) ?_
    show Go _ _ _ _ T0 (mkF m 52 #[.val (.ref a1), .val (.ref a2), .val (.ref a3), .val (.int (3 : Int32)), .val (.long (((((F1 0).toInt64) - ((F2 0).toInt64)) * ((((F3 1).toInt64) - ((F2 1).toInt64)) + (1 : Int64))) + (((F1 1).toInt64) - ((F2 1).toInt64)))), .second] [])
    refine Go.st (fun t k => XS.iloadN X0.here hx rfl (hb hby d3_52) rfl k) ?_
    show Go _ _ _ _ T0 (mkF m 53 #[.val (.ref a1), .val (.ref a2), .val (.ref a3), .val (.int (3 : Int32)), .val (.long (((((F1 0).toInt64) - ((F2 0).toInt64)) * ((((F3 1).toInt64) - ((F2 1).toInt64)) + (1 : Int64))) + (((F1 1).toInt64) - ((F2 1).toInt64)))), .second] [(.int (3 : Int32))])
    refine Go.st (fun t k => XS.iconst X0.here hx rfl (hb hby d3_53) k) ?_
    show Go _ _ _ _ T0 (mkF m 54 #[.val (.ref a1), .val (.ref a2), .val (.ref a3), .val (.int (3 : Int32)), .val (.long (((((F1 0).toInt64) - ((F2 0).toInt64)) * ((((F3 1).toInt64) - ((F2 1).toInt64)) + (1 : Int64))) + (((F1 1).toInt64) - ((F2 1).toInt64)))), .second] [(.int (2 : Int32)), (.int (3 : Int32))])
    refine Go.st (fun t k => XS.icmpNo X0.here hx rfl (hb hby d3_54) rfl (by decide) k) ?_
    show Go _ _ _ _ T0 (mkF m 57 #[.val (.ref a1), .val (.ref a2), .val (.ref a3), .val (.int (3 : Int32)), .val (.long (((((F1 0).toInt64) - ((F2 0).toInt64)) * ((((F3 1).toInt64) - ((F2 1).toInt64)) + (1 : Int64))) + (((F1 1).toInt64) - ((F2 1).toInt64)))), .second] [])
    refine Go.st (fun t k => XS.lload X0.here hx rfl (hb hby d3_57) rfl k) ?_
    show Go _ _ _ _ T0 (mkF m 59 #[.val (.ref a1), .val (.ref a2), .val (.ref a3), .val (.int (3 : Int32)), .val (.long (((((F1 0).toInt64) - ((F2 0).toInt64)) * ((((F3 1).toInt64) - ((F2 1).toInt64)) + (1 : Int64))) + (((F1 1).toInt64) - ((F2 1).toInt64)))), .second] [(.long (((((F1 0).toInt64) - ((F2 0).toInt64)) * ((((F3 1).toInt64) - ((F2 1).toInt64)) + (1 : Int64))) + (((F1 1).toInt64) - ((F2 1).toInt64))))])
    refine Go.st (fun t k => XS.aloadN X0.here hx rfl (hb hby d3_59) rfl rfl k) ?_
    show Go _ _ _ _ T0 (mkF m 60 #[.val (.ref a1), .val (.ref a2), .val (.ref a3), .val (.int (3 : Int32)), .val (.long (((((F1 0).toInt64) - ((F2 0).toInt64)) * ((((F3 1).toInt64) - ((F2 1).toInt64)) + (1 : Int64))) + (((F1 1).toInt64) - ((F2 1).toInt64)))), .second] [(.ref a3), (.long (((((F1 0).toInt64) - ((F2 0).toInt64)) * ((((F3 1).toInt64) - ((F2 1).toInt64)) + (1 : Int64))) + (((F1 1).toInt64) - ((F2 1).toInt64))))])
    refine Go.st (fun t k => XS.iconst X0.here hx rfl (hb hby d3_60) k) ?_
    show Go _ _ _ _ T0 (mkF m 61 #[.val (.ref a1), .val (.ref a2), .val (.ref a3), .val (.int (3 : Int32)), .val (.long (((((F1 0).toInt64) - ((F2 0).toInt64)) * ((((F3 1).toInt64) - ((F2 1).toInt64)) + (1 : Int64))) + (((F1 1).toInt64) - ((F2 1).toInt64)))), .second] [(.int (2 : Int32)), (.ref a3), (.long (((((F1 0).toInt64) - ((F2 0).toInt64)) * ((((F3 1).toInt64) - ((F2 1).toInt64)) + (1 : Int64))) + (((F1 1).toInt64) - ((F2 1).toInt64))))])
    refine goLdI X0 hx hZ e0 V_a3 (v := (.int (F3 2))) (g := (mkF m 61 #[.val (.ref a1), .val (.ref a2), .val (.ref a3), .val (.int (3 : Int32)), .val (.long (((((F1 0).toInt64) - ((F2 0).toInt64)) * ((((F3 1).toInt64) - ((F2 1).toInt64)) + (1 : Int64))) + (((F1 1).toInt64) - ((F2 1).toInt64)))), .second] [(.int (2 : Int32)), (.ref a3), (.long (((((F1 0).toInt64) - ((F2 0).toInt64)) * ((((F3 1).toInt64) - ((F2 1).toInt64)) + (1 : Int64))) + (((F1 1).toInt64) - ((F2 1).toInt64))))])) rfl rfl (hb hby d3_61) (k := 2) ⟨by decide, rfl, by decide⟩ rfl ?_
    show Go _ _ _ _ T0 (mkF m 62 #[.val (.ref a1), .val (.ref a2), .val (.ref a3), .val (.int (3 : Int32)), .val (.long (((((F1 0).toInt64) - ((F2 0).toInt64)) * ((((F3 1).toInt64) - ((F2 1).toInt64)) + (1 : Int64))) + (((F1 1).toInt64) - ((F2 1).toInt64)))), .second] [(.int (F3 2)), (.long (((((F1 0).toInt64) - ((F2 0).toInt64)) * ((((F3 1).toInt64) - ((F2 1).toInt64)) + (1 : Int64))) + (((F1 1).toInt64) - ((F2 1).toInt64))))])
    refine Go.st (fun t k => XS.i2l X0.here hx rfl (hb hby d3_62) rfl k) ?_
    show Go _ _ _ _ T0 (mkF m 63 #[.val (.ref a1), .val (.ref a2), .val (.ref a3), .val (.int (3 : Int32)), .val (.long (((((F1 0).toInt64) - ((F2 0).toInt64)) * ((((F3 1).toInt64) - ((F2 1).toInt64)) + (1 : Int64))) + (((F1 1).toInt64) - ((F2 1).toInt64)))), .second] [(.long ((F3 2).toInt64)), (.long (((((F1 0).toInt64) - ((F2 0).toInt64)) * ((((F3 1).toInt64) - ((F2 1).toInt64)) + (1 : Int64))) + (((F1 1).toInt64) - ((F2 1).toInt64))))])
    refine Go.st (fun t k => XS.aloadN X0.here hx rfl (hb hby d3_63) rfl rfl k) ?_
    show Go _ _ _ _ T0 (mkF m 64 #[.val (.ref a1), .val (.ref a2), .val (.ref a3), .val (.int (3 : Int32)), .val (.long (((((F1 0).toInt64) - ((F2 0).toInt64)) * ((((F3 1).toInt64) - ((F2 1).toInt64)) + (1 : Int64))) + (((F1 1).toInt64) - ((F2 1).toInt64)))), .second] [(.ref a2), (.long ((F3 2).toInt64)), (.long (((((F1 0).toInt64) - ((F2 0).toInt64)) * ((((F3 1).toInt64) - ((F2 1).toInt64)) + (1 : Int64))) + (((F1 1).toInt64) - ((F2 1).toInt64))))])
    refine Go.st (fun t k => XS.iconst X0.here hx rfl (hb hby d3_64) k) ?_
    show Go _ _ _ _ T0 (mkF m 65 #[.val (.ref a1), .val (.ref a2), .val (.ref a3), .val (.int (3 : Int32)), .val (.long (((((F1 0).toInt64) - ((F2 0).toInt64)) * ((((F3 1).toInt64) - ((F2 1).toInt64)) + (1 : Int64))) + (((F1 1).toInt64) - ((F2 1).toInt64)))), .second] [(.int (2 : Int32)), (.ref a2), (.long ((F3 2).toInt64)), (.long (((((F1 0).toInt64) - ((F2 0).toInt64)) * ((((F3 1).toInt64) - ((F2 1).toInt64)) + (1 : Int64))) + (((F1 1).toInt64) - ((F2 1).toInt64))))])
    refine goLdI X0 hx hZ e0 V_a2 (v := (.int (F2 2))) (g := (mkF m 65 #[.val (.ref a1), .val (.ref a2), .val (.ref a3), .val (.int (3 : Int32)), .val (.long (((((F1 0).toInt64) - ((F2 0).toInt64)) * ((((F3 1).toInt64) - ((F2 1).toInt64)) + (1 : Int64))) + (((F1 1).toInt64) - ((F2 1).toInt64)))), .second] [(.int (2 : Int32)), (.ref a2), (.long ((F3 2).toInt64)), (.long (((((F1 0).toInt64) - ((F2 0).toInt64)) * ((((F3 1).toInt64) - ((F2 1).toInt64)) + (1 : Int64))) + (((F1 1).toInt64) - ((F2 1).toInt64))))])) rfl rfl (hb hby d3_65) (k := 2) ⟨by decide, rfl, by decide⟩ rfl ?_
    show Go _ _ _ _ T0 (mkF m 66 #[.val (.ref a1), .val (.ref a2), .val (.ref a3), .val (.int (3 : Int32)), .val (.long (((((F1 0).toInt64) - ((F2 0).toInt64)) * ((((F3 1).toInt64) - ((F2 1).toInt64)) + (1 : Int64))) + (((F1 1).toInt64) - ((F2 1).toInt64)))), .second] [(.int (F2 2)), (.long ((F3 2).toInt64)), (.long (((((F1 0).toInt64) - ((F2 0).toInt64)) * ((((F3 1).toInt64) - ((F2 1).toInt64)) + (1 : Int64))) + (((F1 1).toInt64) - ((F2 1).toInt64))))])
    refine Go.st (fun t k => XS.i2l X0.here hx rfl (hb hby d3_66) rfl k) ?_
    show Go _ _ _ _ T0 (mkF m 67 #[.val (.ref a1), .val (.ref a2), .val (.ref a3), .val (.int (3 : Int32)), .val (.long (((((F1 0).toInt64) - ((F2 0).toInt64)) * ((((F3 1).toInt64) - ((F2 1).toInt64)) + (1 : Int64))) + (((F1 1).toInt64) - ((F2 1).toInt64)))), .second] [(.long ((F2 2).toInt64)), (.long ((F3 2).toInt64)), (.long (((((F1 0).toInt64) - ((F2 0).toInt64)) * ((((F3 1).toInt64) - ((F2 1).toInt64)) + (1 : Int64))) + (((F1 1).toInt64) - ((F2 1).toInt64))))])
    refine Go.st (fun t k => XS.lsub X0.here hx rfl (hb hby d3_67) rfl k) ?_
    show Go _ _ _ _ T0 (mkF m 68 #[.val (.ref a1), .val (.ref a2), .val (.ref a3), .val (.int (3 : Int32)), .val (.long (((((F1 0).toInt64) - ((F2 0).toInt64)) * ((((F3 1).toInt64) - ((F2 1).toInt64)) + (1 : Int64))) + (((F1 1).toInt64) - ((F2 1).toInt64)))), .second] [(.long (((F3 2).toInt64) - ((F2 2).toInt64))), (.long (((((F1 0).toInt64) - ((F2 0).toInt64)) * ((((F3 1).toInt64) - ((F2 1).toInt64)) + (1 : Int64))) + (((F1 1).toInt64) - ((F2 1).toInt64))))])
    refine Go.st (fun t k => XS.lconst X0.here hx rfl (hb hby d3_68) k) ?_
    show Go _ _ _ _ T0 (mkF m 69 #[.val (.ref a1), .val (.ref a2), .val (.ref a3), .val (.int (3 : Int32)), .val (.long (((((F1 0).toInt64) - ((F2 0).toInt64)) * ((((F3 1).toInt64) - ((F2 1).toInt64)) + (1 : Int64))) + (((F1 1).toInt64) - ((F2 1).toInt64)))), .second] [(.long (1 : Int64)), (.long (((F3 2).toInt64) - ((F2 2).toInt64))), (.long (((((F1 0).toInt64) - ((F2 0).toInt64)) * ((((F3 1).toInt64) - ((F2 1).toInt64)) + (1 : Int64))) + (((F1 1).toInt64) - ((F2 1).toInt64))))])
    refine Go.st (fun t k => XS.ladd X0.here hx rfl (hb hby d3_69) rfl k) ?_
    show Go _ _ _ _ T0 (mkF m 70 #[.val (.ref a1), .val (.ref a2), .val (.ref a3), .val (.int (3 : Int32)), .val (.long (((((F1 0).toInt64) - ((F2 0).toInt64)) * ((((F3 1).toInt64) - ((F2 1).toInt64)) + (1 : Int64))) + (((F1 1).toInt64) - ((F2 1).toInt64)))), .second] [(.long ((((F3 2).toInt64) - ((F2 2).toInt64)) + (1 : Int64))), (.long (((((F1 0).toInt64) - ((F2 0).toInt64)) * ((((F3 1).toInt64) - ((F2 1).toInt64)) + (1 : Int64))) + (((F1 1).toInt64) - ((F2 1).toInt64))))])
    refine Go.st (fun t k => XS.lmul X0.here hx rfl (hb hby d3_70) rfl k) ?_
    show Go _ _ _ _ T0 (mkF m 71 #[.val (.ref a1), .val (.ref a2), .val (.ref a3), .val (.int (3 : Int32)), .val (.long (((((F1 0).toInt64) - ((F2 0).toInt64)) * ((((F3 1).toInt64) - ((F2 1).toInt64)) + (1 : Int64))) + (((F1 1).toInt64) - ((F2 1).toInt64)))), .second] [(.long ((((((F1 0).toInt64) - ((F2 0).toInt64)) * ((((F3 1).toInt64) - ((F2 1).toInt64)) + (1 : Int64))) + (((F1 1).toInt64) - ((F2 1).toInt64))) * ((((F3 2).toInt64) - ((F2 2).toInt64)) + (1 : Int64))))])
    refine Go.st (fun t k => XS.aloadN X0.here hx rfl (hb hby d3_71) rfl rfl k) ?_
    show Go _ _ _ _ T0 (mkF m 72 #[.val (.ref a1), .val (.ref a2), .val (.ref a3), .val (.int (3 : Int32)), .val (.long (((((F1 0).toInt64) - ((F2 0).toInt64)) * ((((F3 1).toInt64) - ((F2 1).toInt64)) + (1 : Int64))) + (((F1 1).toInt64) - ((F2 1).toInt64)))), .second] [(.ref a1), (.long ((((((F1 0).toInt64) - ((F2 0).toInt64)) * ((((F3 1).toInt64) - ((F2 1).toInt64)) + (1 : Int64))) + (((F1 1).toInt64) - ((F2 1).toInt64))) * ((((F3 2).toInt64) - ((F2 2).toInt64)) + (1 : Int64))))])
    refine Go.st (fun t k => XS.iconst X0.here hx rfl (hb hby d3_72) k) ?_
    show Go _ _ _ _ T0 (mkF m 73 #[.val (.ref a1), .val (.ref a2), .val (.ref a3), .val (.int (3 : Int32)), .val (.long (((((F1 0).toInt64) - ((F2 0).toInt64)) * ((((F3 1).toInt64) - ((F2 1).toInt64)) + (1 : Int64))) + (((F1 1).toInt64) - ((F2 1).toInt64)))), .second] [(.int (2 : Int32)), (.ref a1), (.long ((((((F1 0).toInt64) - ((F2 0).toInt64)) * ((((F3 1).toInt64) - ((F2 1).toInt64)) + (1 : Int64))) + (((F1 1).toInt64) - ((F2 1).toInt64))) * ((((F3 2).toInt64) - ((F2 2).toInt64)) + (1 : Int64))))])
    refine goLdI X0 hx hZ e0 V_a1 (v := (.int (F1 2))) (g := (mkF m 73 #[.val (.ref a1), .val (.ref a2), .val (.ref a3), .val (.int (3 : Int32)), .val (.long (((((F1 0).toInt64) - ((F2 0).toInt64)) * ((((F3 1).toInt64) - ((F2 1).toInt64)) + (1 : Int64))) + (((F1 1).toInt64) - ((F2 1).toInt64)))), .second] [(.int (2 : Int32)), (.ref a1), (.long ((((((F1 0).toInt64) - ((F2 0).toInt64)) * ((((F3 1).toInt64) - ((F2 1).toInt64)) + (1 : Int64))) + (((F1 1).toInt64) - ((F2 1).toInt64))) * ((((F3 2).toInt64) - ((F2 2).toInt64)) + (1 : Int64))))])) rfl rfl (hb hby d3_73) (k := 2) ⟨by decide, rfl, by decide⟩ rfl ?_
    show Go _ _ _ _ T0 (mkF m 74 #[.val (.ref a1), .val (.ref a2), .val (.ref a3), .val (.int (3 : Int32)), .val (.long (((((F1 0).toInt64) - ((F2 0).toInt64)) * ((((F3 1).toInt64) - ((F2 1).toInt64)) + (1 : Int64))) + (((F1 1).toInt64) - ((F2 1).toInt64)))), .second] [(.int (F1 2)), (.long ((((((F1 0).toInt64) - ((F2 0).toInt64)) * ((((F3 1).toInt64) - ((F2 1).toInt64)) + (1 : Int64))) + (((F1 1).toInt64) - ((F2 1).toInt64))) * ((((F3 2).toInt64) - ((F2 2).toInt64)) + (1 : Int64))))])
    refine Go.st (fun t k => XS.i2l X0.here hx rfl (hb hby d3_74) rfl k) ?_
    show Go _ _ _ _ T0 (mkF m 75 #[.val (.ref a1), .val (.ref a2), .val (.ref a3), .val (.int (3 : Int32)), .val (.long (((((F1 0).toInt64) - ((F2 0).toInt64)) * ((((F3 1).toInt64) - ((F2 1).toInt64)) + (1 : Int64))) + (((F1 1).toInt64) - ((F2 1).toInt64)))), .second] [(.long ((F1 2).toInt64)), (.long ((((((F1 0).toInt64) - ((F2 0).toInt64)) * ((((F3 1).toInt64) - ((F2 1).toInt64)) + (1 : Int64))) + (((F1 1).toInt64) - ((F2 1).toInt64))) * ((((F3 2).toInt64) - ((F2 2).toInt64)) + (1 : Int64))))])
    refine Go.st (fun t k => XS.aloadN X0.here hx rfl (hb hby d3_75) rfl rfl k) ?_
    show Go _ _ _ _ T0 (mkF m 76 #[.val (.ref a1), .val (.ref a2), .val (.ref a3), .val (.int (3 : Int32)), .val (.long (((((F1 0).toInt64) - ((F2 0).toInt64)) * ((((F3 1).toInt64) - ((F2 1).toInt64)) + (1 : Int64))) + (((F1 1).toInt64) - ((F2 1).toInt64)))), .second] [(.ref a2), (.long ((F1 2).toInt64)), (.long ((((((F1 0).toInt64) - ((F2 0).toInt64)) * ((((F3 1).toInt64) - ((F2 1).toInt64)) + (1 : Int64))) + (((F1 1).toInt64) - ((F2 1).toInt64))) * ((((F3 2).toInt64) - ((F2 2).toInt64)) + (1 : Int64))))])
    refine Go.st (fun t k => XS.iconst X0.here hx rfl (hb hby d3_76) k) ?_
    show Go _ _ _ _ T0 (mkF m 77 #[.val (.ref a1), .val (.ref a2), .val (.ref a3), .val (.int (3 : Int32)), .val (.long (((((F1 0).toInt64) - ((F2 0).toInt64)) * ((((F3 1).toInt64) - ((F2 1).toInt64)) + (1 : Int64))) + (((F1 1).toInt64) - ((F2 1).toInt64)))), .second] [(.int (2 : Int32)), (.ref a2), (.long ((F1 2).toInt64)), (.long ((((((F1 0).toInt64) - ((F2 0).toInt64)) * ((((F3 1).toInt64) - ((F2 1).toInt64)) + (1 : Int64))) + (((F1 1).toInt64) - ((F2 1).toInt64))) * ((((F3 2).toInt64) - ((F2 2).toInt64)) + (1 : Int64))))])
    refine goLdI X0 hx hZ e0 V_a2 (v := (.int (F2 2))) (g := (mkF m 77 #[.val (.ref a1), .val (.ref a2), .val (.ref a3), .val (.int (3 : Int32)), .val (.long (((((F1 0).toInt64) - ((F2 0).toInt64)) * ((((F3 1).toInt64) - ((F2 1).toInt64)) + (1 : Int64))) + (((F1 1).toInt64) - ((F2 1).toInt64)))), .second] [(.int (2 : Int32)), (.ref a2), (.long ((F1 2).toInt64)), (.long ((((((F1 0).toInt64) - ((F2 0).toInt64)) * ((((F3 1).toInt64) - ((F2 1).toInt64)) + (1 : Int64))) + (((F1 1).toInt64) - ((F2 1).toInt64))) * ((((F3 2).toInt64) - ((F2 2).toInt64)) + (1 : Int64))))])) rfl rfl (hb hby d3_77) (k := 2) ⟨by decide, rfl, by decide⟩ rfl ?_
    show Go _ _ _ _ T0 (mkF m 78 #[.val (.ref a1), .val (.ref a2), .val (.ref a3), .val (.int (3 : Int32)), .val (.long (((((F1 0).toInt64) - ((F2 0).toInt64)) * ((((F3 1).toInt64) - ((F2 1).toInt64)) + (1 : Int64))) + (((F1 1).toInt64) - ((F2 1).toInt64)))), .second] [(.int (F2 2)), (.long ((F1 2).toInt64)), (.long ((((((F1 0).toInt64) - ((F2 0).toInt64)) * ((((F3 1).toInt64) - ((F2 1).toInt64)) + (1 : Int64))) + (((F1 1).toInt64) - ((F2 1).toInt64))) * ((((F3 2).toInt64) - ((F2 2).toInt64)) + (1 : Int64))))])
    refine Go.st (fun t k => XS.i2l X0.here hx rfl (hb hby d3_78) rfl k) ?_
    show Go _ _ _ _ T0 (mkF m 79 #[.val (.ref a1), .val (.ref a2), .val (.ref a3), .val (.int (3 : Int32)), .val (.long (((((F1 0).toInt64) - ((F2 0).toInt64)) * ((((F3 1).toInt64) - ((F2 1).toInt64)) + (1 : Int64))) + (((F1 1).toInt64) - ((F2 1).toInt64)))), .second] [(.long ((F2 2).toInt64)), (.long ((F1 2).toInt64)), (.long ((((((F1 0).toInt64) - ((F2 0).toInt64)) * ((((F3 1).toInt64) - ((F2 1).toInt64)) + (1 : Int64))) + (((F1 1).toInt64) - ((F2 1).toInt64))) * ((((F3 2).toInt64) - ((F2 2).toInt64)) + (1 : Int64))))])
    refine Go.st (fun t k => XS.lsub X0.here hx rfl (hb hby d3_79) rfl k) ?_
    show Go _ _ _ _ T0 (mkF m 80 #[.val (.ref a1), .val (.ref a2), .val (.ref a3), .val (.int (3 : Int32)), .val (.long (((((F1 0).toInt64) - ((F2 0).toInt64)) * ((((F3 1).toInt64) - ((F2 1).toInt64)) + (1 : Int64))) + (((F1 1).toInt64) - ((F2 1).toInt64)))), .second] [(.long (((F1 2).toInt64) - ((F2 2).toInt64))), (.long ((((((F1 0).toInt64) - ((F2 0).toInt64)) * ((((F3 1).toInt64) - ((F2 1).toInt64)) + (1 : Int64))) + (((F1 1).toInt64) - ((F2 1).toInt64))) * ((((F3 2).toInt64) - ((F2 2).toInt64)) + (1 : Int64))))])
    refine Go.st (fun t k => XS.ladd X0.here hx rfl (hb hby d3_80) rfl k) ?_
    show Go _ _ _ _ T0 (mkF m 81 #[.val (.ref a1), .val (.ref a2), .val (.ref a3), .val (.int (3 : Int32)), .val (.long (((((F1 0).toInt64) - ((F2 0).toInt64)) * ((((F3 1).toInt64) - ((F2 1).toInt64)) + (1 : Int64))) + (((F1 1).toInt64) - ((F2 1).toInt64)))), .second] [(.long (((((((F1 0).toInt64) - ((F2 0).toInt64)) * ((((F3 1).toInt64) - ((F2 1).toInt64)) + (1 : Int64))) + (((F1 1).toInt64) - ((F2 1).toInt64))) * ((((F3 2).toInt64) - ((F2 2).toInt64)) + (1 : Int64))) + (((F1 2).toInt64) - ((F2 2).toInt64))))])
    refine Go.st (fun t k => XS.lstore X0.here hx rfl (hb hby d3_81) rfl (l' := #[.val (.ref a1), .val (.ref a2), .val (.ref a3), .val (.int (3 : Int32)), .val (.long (((((((F1 0).toInt64) - ((F2 0).toInt64)) * ((((F3 1).toInt64) - ((F2 1).toInt64)) + (1 : Int64))) + (((F1 1).toInt64) - ((F2 1).toInt64))) * ((((F3 2).toInt64) - ((F2 2).toInt64)) + (1 : Int64))) + (((F1 2).toInt64) - ((F2 2).toInt64)))), .second]) rfl k) ?_
    show Go _ _ _ _ T0 (mkF m 83 #[.val (.ref a1), .val (.ref a2), .val (.ref a3), .val (.int (3 : Int32)), .val (.long (((((((F1 0).toInt64) - ((F2 0).toInt64)) * ((((F3 1).toInt64) - ((F2 1).toInt64)) + (1 : Int64))) + (((F1 1).toInt64) - ((F2 1).toInt64))) * ((((F3 2).toInt64) - ((F2 2).toInt64)) + (1 : Int64))) + (((F1 2).toInt64) - ((F2 2).toInt64)))), .second] [])
    refine Go.st (fun t k => XS.lload X0.here hx rfl (hb hby d3_83) rfl k) ?_
    show Go _ _ _ _ T0 (mkF m 85 #[.val (.ref a1), .val (.ref a2), .val (.ref a3), .val (.int (3 : Int32)), .val (.long (((((((F1 0).toInt64) - ((F2 0).toInt64)) * ((((F3 1).toInt64) - ((F2 1).toInt64)) + (1 : Int64))) + (((F1 1).toInt64) - ((F2 1).toInt64))) * ((((F3 2).toInt64) - ((F2 2).toInt64)) + (1 : Int64))) + (((F1 2).toInt64) - ((F2 2).toInt64)))), .second] [(.long (((((((F1 0).toInt64) - ((F2 0).toInt64)) * ((((F3 1).toInt64) - ((F2 1).toInt64)) + (1 : Int64))) + (((F1 1).toInt64) - ((F2 1).toInt64))) * ((((F3 2).toInt64) - ((F2 2).toInt64)) + (1 : Int64))) + (((F1 2).toInt64) - ((F2 2).toInt64))))])
    exact goJ X0 hx hret hlk (hb hby d3_85) (by decide) (by decide) ⟨rfl, N0, e0⟩
theorem d5_0 : decode method_7_code 0 = .ok (.aload_n 0, 1) := by decide +kernel
theorem d5_1 : decode method_7_code 1 = .ok (.arraylength, 1) := by decide +kernel
theorem d5_2 : decode method_7_code 2 = .ok (.istore_n 3, 1) := by decide +kernel
theorem d5_3 : decode method_7_code 3 = .ok (.iload_n 3, 1) := by decide +kernel
theorem d5_4 : decode method_7_code 4 = .ok (.ifCond .le 23, 3) := by decide +kernel
theorem d5_7 : decode method_7_code 7 = .ok (.aload_n 0, 1) := by decide +kernel
theorem d5_8 : decode method_7_code 8 = .ok (.iconst 0, 1) := by decide +kernel
theorem d5_9 : decode method_7_code 9 = .ok (.iaload, 1) := by decide +kernel
theorem d5_10 : decode method_7_code 10 = .ok (.aload_n 1, 1) := by decide +kernel
theorem d5_11 : decode method_7_code 11 = .ok (.iconst 0, 1) := by decide +kernel
theorem d5_12 : decode method_7_code 12 = .ok (.iaload, 1) := by decide +kernel
theorem d5_13 : decode method_7_code 13 = .ok (.if_icmp .lt 12, 3) := by decide +kernel
theorem d5_16 : decode method_7_code 16 = .ok (.aload_n 0, 1) := by decide +kernel
theorem d5_17 : decode method_7_code 17 = .ok (.iconst 0, 1) := by decide +kernel
theorem d5_18 : decode method_7_code 18 = .ok (.iaload, 1) := by decide +kernel
theorem d5_19 : decode method_7_code 19 = .ok (.aload_n 2, 1) := by decide +kernel
theorem d5_20 : decode method_7_code 20 = .ok (.iconst 0, 1) := by decide +kernel
theorem d5_21 : decode method_7_code 21 = .ok (.iaload, 1) := by decide +kernel
theorem d5_22 : decode method_7_code 22 = .ok (.if_icmp .le 5, 3) := by decide +kernel
theorem d5_25 : decode method_7_code 25 = .ok (.iconst 0, 1) := by decide +kernel
theorem d5_26 : decode method_7_code 26 = .ok (.ireturn, 1) := by decide +kernel
theorem d5_27 : decode method_7_code 27 = .ok (.iload_n 3, 1) := by decide +kernel
theorem d5_28 : decode method_7_code 28 = .ok (.iconst 1, 1) := by decide +kernel
theorem d5_29 : decode method_7_code 29 = .ok (.if_icmp .le 23, 3) := by decide +kernel
theorem d5_32 : decode method_7_code 32 = .ok (.aload_n 0, 1) := by decide +kernel
theorem d5_33 : decode method_7_code 33 = .ok (.iconst 1, 1) := by decide +kernel
theorem d5_34 : decode method_7_code 34 = .ok (.iaload, 1) := by decide +kernel
theorem d5_35 : decode method_7_code 35 = .ok (.aload_n 1, 1) := by decide +kernel
theorem d5_36 : decode method_7_code 36 = .ok (.iconst 1, 1) := by decide +kernel
theorem d5_37 : decode method_7_code 37 = .ok (.iaload, 1) := by decide +kernel
theorem d5_38 : decode method_7_code 38 = .ok (.if_icmp .lt 12, 3) := by decide +kernel
theorem d5_41 : decode method_7_code 41 = .ok (.aload_n 0, 1) := by decide +kernel
theorem d5_42 : decode method_7_code 42 = .ok (.iconst 1, 1) := by decide +kernel
theorem d5_43 : decode method_7_code 43 = .ok (.iaload, 1) := by decide +kernel
theorem d5_44 : decode method_7_code 44 = .ok (.aload_n 2, 1) := by decide +kernel
theorem d5_45 : decode method_7_code 45 = .ok (.iconst 1, 1) := by decide +kernel
theorem d5_46 : decode method_7_code 46 = .ok (.iaload, 1) := by decide +kernel
theorem d5_47 : decode method_7_code 47 = .ok (.if_icmp .le 5, 3) := by decide +kernel
theorem d5_50 : decode method_7_code 50 = .ok (.iconst 0, 1) := by decide +kernel
theorem d5_51 : decode method_7_code 51 = .ok (.ireturn, 1) := by decide +kernel
theorem d5_52 : decode method_7_code 52 = .ok (.iload_n 3, 1) := by decide +kernel
theorem d5_53 : decode method_7_code 53 = .ok (.iconst 2, 1) := by decide +kernel
theorem d5_54 : decode method_7_code 54 = .ok (.if_icmp .le 23, 3) := by decide +kernel
theorem d5_57 : decode method_7_code 57 = .ok (.aload_n 0, 1) := by decide +kernel
theorem d5_58 : decode method_7_code 58 = .ok (.iconst 2, 1) := by decide +kernel
theorem d5_59 : decode method_7_code 59 = .ok (.iaload, 1) := by decide +kernel
theorem d5_60 : decode method_7_code 60 = .ok (.aload_n 1, 1) := by decide +kernel
theorem d5_61 : decode method_7_code 61 = .ok (.iconst 2, 1) := by decide +kernel
theorem d5_62 : decode method_7_code 62 = .ok (.iaload, 1) := by decide +kernel
theorem d5_63 : decode method_7_code 63 = .ok (.if_icmp .lt 12, 3) := by decide +kernel
theorem d5_66 : decode method_7_code 66 = .ok (.aload_n 0, 1) := by decide +kernel
theorem d5_67 : decode method_7_code 67 = .ok (.iconst 2, 1) := by decide +kernel
theorem d5_68 : decode method_7_code 68 = .ok (.iaload, 1) := by decide +kernel
theorem d5_69 : decode method_7_code 69 = .ok (.aload_n 2, 1) := by decide +kernel
theorem d5_70 : decode method_7_code 70 = .ok (.iconst 2, 1) := by decide +kernel
theorem d5_71 : decode method_7_code 71 = .ok (.iaload, 1) := by decide +kernel
theorem d5_72 : decode method_7_code 72 = .ok (.if_icmp .le 5, 3) := by decide +kernel
theorem d5_75 : decode method_7_code 75 = .ok (.iconst 0, 1) := by decide +kernel
theorem d5_76 : decode method_7_code 76 = .ok (.ireturn, 1) := by decide +kernel
theorem d5_77 : decode method_7_code 77 = .ok (.iconst 1, 1) := by decide +kernel
theorem d5_78 : decode method_7_code 78 = .ok (.ireturn, 1) := by decide +kernel
theorem pn_5 : plainName "com/example/counterpath/counterpath/util/CombinationsNextPinLaw" = true := by first | (simp [plainName, overriddenIn]; done) | decide +kernel
theorem ef_5 (m : MethodId) (x0 : Addr) (x1 : Addr) (x2 : Addr) : entryFrame m #[(.ref x0), (.ref x1), (.ref x2)] 4 = mkF m 0 #[.val (.ref x0), .val (.ref x1), .val (.ref x2), .unset] [] := by first | (simp [entryFrame, mkF, argsToLocals, Value.category]; done) | rfl
set_option maxRecDepth 65536 in
set_option maxHeartbeats 40000000 in
theorem rm5 (l : Launch) (Z : State) (a0 : Array Value) (hw : ∀ d ∈ tables_1, d.before a0 Z = true) (a1 : Addr) (a2 : Addr) (a3 : Addr) (h0 : Heap) (n0 : Nat) (Z0 : n0 ≤ h0.size) (n : Nat) (F1 F2 F3 : Nat → Int32) (hn : n = 0 ∨ n = 1 ∨ n = 2 ∨ n = 3) (V_a1 : BA Z h0 a1 .int n (fun i => .int (F1 i))) (V_a2 : BA Z h0 a2 .int n (fun i => .int (F2 i))) (V_a3 : BA Z h0 a3 .int n (fun i => .int (F3 i))) :
    Does l Z (⟨"com/example/counterpath/counterpath/util/CombinationsNextPinLaw", "inRange", "([I[I[I)Z"⟩ : MethodName) method_7_code 4 (some .boolean) ({ frames := 0, cells := 0, slots := 0, locals := 0 } : Room) #[(.ref a1), (.ref a2), (.ref a3)] h0 (fun v h L => (((∀ i, i < n → ¬ F1 i < F2 i ∧ ¬ F3 i < F1 i) ∧ v = some (.int 1)) ∨ (¬ (∀ i, i < n → ¬ F1 i < F2 i ∧ ¬ F3 i < F1 i) ∧ v = some (.int 0))) ∧ Fr n0 L ∧ h = h0) := by
  refine Does.body (plainFor_of_name pn_5) ?_
  intro p e s m below meth c T0 X0 hx hZ hby hml hown hnm hret hlk e0
  replace hown : s.vm.findClass "com/example/counterpath/counterpath/util/CombinationsNextPinLaw" = some m.cls := hown
  have N0 := Fr.nil n0
  refine Go.frame (ef_5 m a1 a2 a3) ?_
  show Go _ _ _ _ T0 (mkF m 0 #[.val (.ref a1), .val (.ref a2), .val (.ref a3), .unset] [])
  rcases hn with rfl | rfl | rfl | rfl
  ·
    show Go _ _ _ _ T0 (mkF m 0 #[.val (.ref a1), .val (.ref a2), .val (.ref a3), .unset] [])
    show Go _ _ _ _ T0 (mkF m 0 #[.val (.ref a1), .val (.ref a2), .val (.ref a3), .unset] [])
    refine Go.st (fun t k => XS.aloadN X0.here hx rfl (hb hby d5_0) rfl rfl k) ?_
    show Go _ _ _ _ T0 (mkF m 1 #[.val (.ref a1), .val (.ref a2), .val (.ref a3), .unset] [(.ref a1)])
    refine goLen X0 hx hZ e0 V_a1 (z := (0 : Int32)) rfl (g := (mkF m 1 #[.val (.ref a1), .val (.ref a2), .val (.ref a3), .unset] [(.ref a1)])) rfl rfl (hb hby d5_1) ?_
    show Go _ _ _ _ T0 (mkF m 2 #[.val (.ref a1), .val (.ref a2), .val (.ref a3), .unset] [(.int (0 : Int32))])
    refine Go.st (fun t k => XS.istoreN X0.here hx rfl (hb hby d5_2) rfl (l' := #[.val (.ref a1), .val (.ref a2), .val (.ref a3), .val (.int (0 : Int32))]) rfl k) ?_
    show Go _ _ _ _ T0 (mkF m 3 #[.val (.ref a1), .val (.ref a2), .val (.ref a3), .val (.int (0 : Int32))] [])
    refine Go.st (fun t k => XS.iloadN X0.here hx rfl (hb hby d5_3) rfl k) ?_
    show Go _ _ _ _ T0 (mkF m 4 #[.val (.ref a1), .val (.ref a2), .val (.ref a3), .val (.int (0 : Int32))] [(.int (0 : Int32))])
    refine Go.st (fun t k => XS.ifYes X0.here hx rfl (pc0 := 4) (pc' := 27) rfl (hb hby d5_4) rfl (by decide) (by decide) (by decide) k) ?_
    show Go _ _ _ _ T0 (mkF m 27 #[.val (.ref a1), .val (.ref a2), .val (.ref a3), .val (.int (0 : Int32))] [])
    refine Go.st (fun t k => XS.iloadN X0.here hx rfl (hb hby d5_27) rfl k) ?_
    show Go _ _ _ _ T0 (mkF m 28 #[.val (.ref a1), .val (.ref a2), .val (.ref a3), .val (.int (0 : Int32))] [(.int (0 : Int32))])
    refine Go.st (fun t k => XS.iconst X0.here hx rfl (hb hby d5_28) k) ?_
    show Go _ _ _ _ T0 (mkF m 29 #[.val (.ref a1), .val (.ref a2), .val (.ref a3), .val (.int (0 : Int32))] [(.int (1 : Int32)), (.int (0 : Int32))])
    refine Go.st (fun t k => XS.icmpYes X0.here hx rfl (pc0 := 29) (pc' := 52) rfl (hb hby d5_29) rfl (by decide) (by decide) (by decide) k) ?_
    show Go _ _ _ _ T0 (mkF m 52 #[.val (.ref a1), .val (.ref a2), .val (.ref a3), .val (.int (0 : Int32))] [])
    refine Go.st (fun t k => XS.iloadN X0.here hx rfl (hb hby d5_52) rfl k) ?_
    show Go _ _ _ _ T0 (mkF m 53 #[.val (.ref a1), .val (.ref a2), .val (.ref a3), .val (.int (0 : Int32))] [(.int (0 : Int32))])
    refine Go.st (fun t k => XS.iconst X0.here hx rfl (hb hby d5_53) k) ?_
    show Go _ _ _ _ T0 (mkF m 54 #[.val (.ref a1), .val (.ref a2), .val (.ref a3), .val (.int (0 : Int32))] [(.int (2 : Int32)), (.int (0 : Int32))])
    refine Go.st (fun t k => XS.icmpYes X0.here hx rfl (pc0 := 54) (pc' := 77) rfl (hb hby d5_54) rfl (by decide) (by decide) (by decide) k) ?_
    show Go _ _ _ _ T0 (mkF m 77 #[.val (.ref a1), .val (.ref a2), .val (.ref a3), .val (.int (0 : Int32))] [])
    refine Go.st (fun t k => XS.iconst X0.here hx rfl (hb hby d5_77) k) ?_
    show Go _ _ _ _ T0 (mkF m 78 #[.val (.ref a1), .val (.ref a2), .val (.ref a3), .val (.int (0 : Int32))] [(.int (1 : Int32))])
    exact goN X0 hx hret hlk (by simp) (hb hby d5_78) (by decide) (by decide) ⟨Or.inl ⟨fun i hi => absurd hi (Nat.not_lt_zero i), rfl⟩, N0, e0⟩
  ·
    show Go _ _ _ _ T0 (mkF m 0 #[.val (.ref a1), .val (.ref a2), .val (.ref a3), .unset] [])
    show Go _ _ _ _ T0 (mkF m 0 #[.val (.ref a1), .val (.ref a2), .val (.ref a3), .unset] [])
    refine Go.st (fun t k => XS.aloadN X0.here hx rfl (hb hby d5_0) rfl rfl k) ?_
    show Go _ _ _ _ T0 (mkF m 1 #[.val (.ref a1), .val (.ref a2), .val (.ref a3), .unset] [(.ref a1)])
    refine goLen X0 hx hZ e0 V_a1 (z := (1 : Int32)) rfl (g := (mkF m 1 #[.val (.ref a1), .val (.ref a2), .val (.ref a3), .unset] [(.ref a1)])) rfl rfl (hb hby d5_1) ?_
    show Go _ _ _ _ T0 (mkF m 2 #[.val (.ref a1), .val (.ref a2), .val (.ref a3), .unset] [(.int (1 : Int32))])
    refine Go.st (fun t k => XS.istoreN X0.here hx rfl (hb hby d5_2) rfl (l' := #[.val (.ref a1), .val (.ref a2), .val (.ref a3), .val (.int (1 : Int32))]) rfl k) ?_
    show Go _ _ _ _ T0 (mkF m 3 #[.val (.ref a1), .val (.ref a2), .val (.ref a3), .val (.int (1 : Int32))] [])
    refine Go.st (fun t k => XS.iloadN X0.here hx rfl (hb hby d5_3) rfl k) ?_
    show Go _ _ _ _ T0 (mkF m 4 #[.val (.ref a1), .val (.ref a2), .val (.ref a3), .val (.int (1 : Int32))] [(.int (1 : Int32))])
    refine Go.st (fun t k => XS.ifNo X0.here hx rfl (hb hby d5_4) rfl (by decide) k) ?_
    show Go _ _ _ _ T0 (mkF m 7 #[.val (.ref a1), .val (.ref a2), .val (.ref a3), .val (.int (1 : Int32))] [])
    refine Go.st (fun t k => XS.aloadN X0.here hx rfl (hb hby d5_7) rfl rfl k) ?_
    show Go _ _ _ _ T0 (mkF m 8 #[.val (.ref a1), .val (.ref a2), .val (.ref a3), .val (.int (1 : Int32))] [(.ref a1)])
    refine Go.st (fun t k => XS.iconst X0.here hx rfl (hb hby d5_8) k) ?_
    show Go _ _ _ _ T0 (mkF m 9 #[.val (.ref a1), .val (.ref a2), .val (.ref a3), .val (.int (1 : Int32))] [(.int (0 : Int32)), (.ref a1)])
    refine goLdI X0 hx hZ e0 V_a1 (v := (.int (F1 0))) (g := (mkF m 9 #[.val (.ref a1), .val (.ref a2), .val (.ref a3), .val (.int (1 : Int32))] [(.int (0 : Int32)), (.ref a1)])) rfl rfl (hb hby d5_9) (k := 0) ⟨by decide, rfl, by decide⟩ rfl ?_
    show Go _ _ _ _ T0 (mkF m 10 #[.val (.ref a1), .val (.ref a2), .val (.ref a3), .val (.int (1 : Int32))] [(.int (F1 0))])
    refine Go.st (fun t k => XS.aloadN X0.here hx rfl (hb hby d5_10) rfl rfl k) ?_
    show Go _ _ _ _ T0 (mkF m 11 #[.val (.ref a1), .val (.ref a2), .val (.ref a3), .val (.int (1 : Int32))] [(.ref a2), (.int (F1 0))])
    refine Go.st (fun t k => XS.iconst X0.here hx rfl (hb hby d5_11) k) ?_
    show Go _ _ _ _ T0 (mkF m 12 #[.val (.ref a1), .val (.ref a2), .val (.ref a3), .val (.int (1 : Int32))] [(.int (0 : Int32)), (.ref a2), (.int (F1 0))])
    refine goLdI X0 hx hZ e0 V_a2 (v := (.int (F2 0))) (g := (mkF m 12 #[.val (.ref a1), .val (.ref a2), .val (.ref a3), .val (.int (1 : Int32))] [(.int (0 : Int32)), (.ref a2), (.int (F1 0))])) rfl rfl (hb hby d5_12) (k := 0) ⟨by decide, rfl, by decide⟩ rfl ?_
    show Go _ _ _ _ T0 (mkF m 13 #[.val (.ref a1), .val (.ref a2), .val (.ref a3), .val (.int (1 : Int32))] [(.int (F2 0)), (.int (F1 0))])
    by_cases hl0 : (F1 0) < (F2 0)
    ·
      refine Go.st (fun t k => XS.icmpYes X0.here hx rfl (pc0 := 13) (pc' := 25) rfl (hb hby d5_13) rfl (tlt hl0).1 (by decide) (by decide) k) ?_
      show Go _ _ _ _ T0 (mkF m 25 #[.val (.ref a1), .val (.ref a2), .val (.ref a3), .val (.int (1 : Int32))] [])
      refine Go.st (fun t k => XS.iconst X0.here hx rfl (hb hby d5_25) k) ?_
      show Go _ _ _ _ T0 (mkF m 26 #[.val (.ref a1), .val (.ref a2), .val (.ref a3), .val (.int (1 : Int32))] [(.int (0 : Int32))])
      exact goN X0 hx hret hlk (by simp) (hb hby d5_26) (by decide) (by decide) ⟨Or.inr ⟨fun q => (q 0 (by decide)).1 hl0, rfl⟩, N0, e0⟩
    ·
      refine Go.st (fun t k => XS.icmpNo X0.here hx rfl (hb hby d5_13) rfl (flt hl0).1 k) ?_
      show Go _ _ _ _ T0 (mkF m 16 #[.val (.ref a1), .val (.ref a2), .val (.ref a3), .val (.int (1 : Int32))] [])
      refine Go.st (fun t k => XS.aloadN X0.here hx rfl (hb hby d5_16) rfl rfl k) ?_
      show Go _ _ _ _ T0 (mkF m 17 #[.val (.ref a1), .val (.ref a2), .val (.ref a3), .val (.int (1 : Int32))] [(.ref a1)])
      refine Go.st (fun t k => XS.iconst X0.here hx rfl (hb hby d5_17) k) ?_
      show Go _ _ _ _ T0 (mkF m 18 #[.val (.ref a1), .val (.ref a2), .val (.ref a3), .val (.int (1 : Int32))] [(.int (0 : Int32)), (.ref a1)])
      refine goLdI X0 hx hZ e0 V_a1 (v := (.int (F1 0))) (g := (mkF m 18 #[.val (.ref a1), .val (.ref a2), .val (.ref a3), .val (.int (1 : Int32))] [(.int (0 : Int32)), (.ref a1)])) rfl rfl (hb hby d5_18) (k := 0) ⟨by decide, rfl, by decide⟩ rfl ?_
      show Go _ _ _ _ T0 (mkF m 19 #[.val (.ref a1), .val (.ref a2), .val (.ref a3), .val (.int (1 : Int32))] [(.int (F1 0))])
      refine Go.st (fun t k => XS.aloadN X0.here hx rfl (hb hby d5_19) rfl rfl k) ?_
      show Go _ _ _ _ T0 (mkF m 20 #[.val (.ref a1), .val (.ref a2), .val (.ref a3), .val (.int (1 : Int32))] [(.ref a3), (.int (F1 0))])
      refine Go.st (fun t k => XS.iconst X0.here hx rfl (hb hby d5_20) k) ?_
      show Go _ _ _ _ T0 (mkF m 21 #[.val (.ref a1), .val (.ref a2), .val (.ref a3), .val (.int (1 : Int32))] [(.int (0 : Int32)), (.ref a3), (.int (F1 0))])
      refine goLdI X0 hx hZ e0 V_a3 (v := (.int (F3 0))) (g := (mkF m 21 #[.val (.ref a1), .val (.ref a2), .val (.ref a3), .val (.int (1 : Int32))] [(.int (0 : Int32)), (.ref a3), (.int (F1 0))])) rfl rfl (hb hby d5_21) (k := 0) ⟨by decide, rfl, by decide⟩ rfl ?_
      show Go _ _ _ _ T0 (mkF m 22 #[.val (.ref a1), .val (.ref a2), .val (.ref a3), .val (.int (1 : Int32))] [(.int (F3 0)), (.int (F1 0))])
      by_cases hu0 : (F3 0) < (F1 0)
      ·
        refine Go.st (fun t k => XS.icmpNo X0.here hx rfl (hb hby d5_22) rfl (tlt hu0).2.2.2 k) ?_
        show Go _ _ _ _ T0 (mkF m 25 #[.val (.ref a1), .val (.ref a2), .val (.ref a3), .val (.int (1 : Int32))] [])
        refine Go.st (fun t k => XS.iconst X0.here hx rfl (hb hby d5_25) k) ?_
        show Go _ _ _ _ T0 (mkF m 26 #[.val (.ref a1), .val (.ref a2), .val (.ref a3), .val (.int (1 : Int32))] [(.int (0 : Int32))])
        exact goN X0 hx hret hlk (by simp) (hb hby d5_26) (by decide) (by decide) ⟨Or.inr ⟨fun q => (q 0 (by decide)).2 hu0, rfl⟩, N0, e0⟩
      ·
        refine Go.st (fun t k => XS.icmpYes X0.here hx rfl (pc0 := 22) (pc' := 27) rfl (hb hby d5_22) rfl (flt hu0).2.2.2 (by decide) (by decide) k) ?_
        show Go _ _ _ _ T0 (mkF m 27 #[.val (.ref a1), .val (.ref a2), .val (.ref a3), .val (.int (1 : Int32))] [])
        refine Go.st (fun t k => XS.iloadN X0.here hx rfl (hb hby d5_27) rfl k) ?_
        show Go _ _ _ _ T0 (mkF m 28 #[.val (.ref a1), .val (.ref a2), .val (.ref a3), .val (.int (1 : Int32))] [(.int (1 : Int32))])
        refine Go.st (fun t k => XS.iconst X0.here hx rfl (hb hby d5_28) k) ?_
        show Go _ _ _ _ T0 (mkF m 29 #[.val (.ref a1), .val (.ref a2), .val (.ref a3), .val (.int (1 : Int32))] [(.int (1 : Int32)), (.int (1 : Int32))])
        refine Go.st (fun t k => XS.icmpYes X0.here hx rfl (pc0 := 29) (pc' := 52) rfl (hb hby d5_29) rfl (by decide) (by decide) (by decide) k) ?_
        show Go _ _ _ _ T0 (mkF m 52 #[.val (.ref a1), .val (.ref a2), .val (.ref a3), .val (.int (1 : Int32))] [])
        refine Go.st (fun t k => XS.iloadN X0.here hx rfl (hb hby d5_52) rfl k) ?_
        show Go _ _ _ _ T0 (mkF m 53 #[.val (.ref a1), .val (.ref a2), .val (.ref a3), .val (.int (1 : Int32))] [(.int (1 : Int32))])
        refine Go.st (fun t k => XS.iconst X0.here hx rfl (hb hby d5_53) k) ?_
        show Go _ _ _ _ T0 (mkF m 54 #[.val (.ref a1), .val (.ref a2), .val (.ref a3), .val (.int (1 : Int32))] [(.int (2 : Int32)), (.int (1 : Int32))])
        refine Go.st (fun t k => XS.icmpYes X0.here hx rfl (pc0 := 54) (pc' := 77) rfl (hb hby d5_54) rfl (by decide) (by decide) (by decide) k) ?_
        show Go _ _ _ _ T0 (mkF m 77 #[.val (.ref a1), .val (.ref a2), .val (.ref a3), .val (.int (1 : Int32))] [])
        refine Go.st (fun t k => XS.iconst X0.here hx rfl (hb hby d5_77) k) ?_
        show Go _ _ _ _ T0 (mkF m 78 #[.val (.ref a1), .val (.ref a2), .val (.ref a3), .val (.int (1 : Int32))] [(.int (1 : Int32))])
        exact goN X0 hx hret hlk (by simp) (hb hby d5_78) (by decide) (by decide) ⟨Or.inl ⟨fun i hi => by rcases own_lt1 hi with rfl <;> exact ⟨by assumption, by assumption⟩, rfl⟩, N0, e0⟩
  ·
    show Go _ _ _ _ T0 (mkF m 0 #[.val (.ref a1), .val (.ref a2), .val (.ref a3), .unset] [])
    show Go _ _ _ _ T0 (mkF m 0 #[.val (.ref a1), .val (.ref a2), .val (.ref a3), .unset] [])
    refine Go.st (fun t k => XS.aloadN X0.here hx rfl (hb hby d5_0) rfl rfl k) ?_
    show Go _ _ _ _ T0 (mkF m 1 #[.val (.ref a1), .val (.ref a2), .val (.ref a3), .unset] [(.ref a1)])
    refine goLen X0 hx hZ e0 V_a1 (z := (2 : Int32)) rfl (g := (mkF m 1 #[.val (.ref a1), .val (.ref a2), .val (.ref a3), .unset] [(.ref a1)])) rfl rfl (hb hby d5_1) ?_
    show Go _ _ _ _ T0 (mkF m 2 #[.val (.ref a1), .val (.ref a2), .val (.ref a3), .unset] [(.int (2 : Int32))])
    refine Go.st (fun t k => XS.istoreN X0.here hx rfl (hb hby d5_2) rfl (l' := #[.val (.ref a1), .val (.ref a2), .val (.ref a3), .val (.int (2 : Int32))]) rfl k) ?_
    show Go _ _ _ _ T0 (mkF m 3 #[.val (.ref a1), .val (.ref a2), .val (.ref a3), .val (.int (2 : Int32))] [])
    refine Go.st (fun t k => XS.iloadN X0.here hx rfl (hb hby d5_3) rfl k) ?_
    show Go _ _ _ _ T0 (mkF m 4 #[.val (.ref a1), .val (.ref a2), .val (.ref a3), .val (.int (2 : Int32))] [(.int (2 : Int32))])
    refine Go.st (fun t k => XS.ifNo X0.here hx rfl (hb hby d5_4) rfl (by decide) k) ?_
    show Go _ _ _ _ T0 (mkF m 7 #[.val (.ref a1), .val (.ref a2), .val (.ref a3), .val (.int (2 : Int32))] [])
    refine Go.st (fun t k => XS.aloadN X0.here hx rfl (hb hby d5_7) rfl rfl k) ?_
    show Go _ _ _ _ T0 (mkF m 8 #[.val (.ref a1), .val (.ref a2), .val (.ref a3), .val (.int (2 : Int32))] [(.ref a1)])
    refine Go.st (fun t k => XS.iconst X0.here hx rfl (hb hby d5_8) k) ?_
    show Go _ _ _ _ T0 (mkF m 9 #[.val (.ref a1), .val (.ref a2), .val (.ref a3), .val (.int (2 : Int32))] [(.int (0 : Int32)), (.ref a1)])
    refine goLdI X0 hx hZ e0 V_a1 (v := (.int (F1 0))) (g := (mkF m 9 #[.val (.ref a1), .val (.ref a2), .val (.ref a3), .val (.int (2 : Int32))] [(.int (0 : Int32)), (.ref a1)])) rfl rfl (hb hby d5_9) (k := 0) ⟨by decide, rfl, by decide⟩ rfl ?_
    show Go _ _ _ _ T0 (mkF m 10 #[.val (.ref a1), .val (.ref a2), .val (.ref a3), .val (.int (2 : Int32))] [(.int (F1 0))])
    refine Go.st (fun t k => XS.aloadN X0.here hx rfl (hb hby d5_10) rfl rfl k) ?_
    show Go _ _ _ _ T0 (mkF m 11 #[.val (.ref a1), .val (.ref a2), .val (.ref a3), .val (.int (2 : Int32))] [(.ref a2), (.int (F1 0))])
    refine Go.st (fun t k => XS.iconst X0.here hx rfl (hb hby d5_11) k) ?_
    show Go _ _ _ _ T0 (mkF m 12 #[.val (.ref a1), .val (.ref a2), .val (.ref a3), .val (.int (2 : Int32))] [(.int (0 : Int32)), (.ref a2), (.int (F1 0))])
    refine goLdI X0 hx hZ e0 V_a2 (v := (.int (F2 0))) (g := (mkF m 12 #[.val (.ref a1), .val (.ref a2), .val (.ref a3), .val (.int (2 : Int32))] [(.int (0 : Int32)), (.ref a2), (.int (F1 0))])) rfl rfl (hb hby d5_12) (k := 0) ⟨by decide, rfl, by decide⟩ rfl ?_
    show Go _ _ _ _ T0 (mkF m 13 #[.val (.ref a1), .val (.ref a2), .val (.ref a3), .val (.int (2 : Int32))] [(.int (F2 0)), (.int (F1 0))])
    by_cases hl0 : (F1 0) < (F2 0)
    ·
      refine Go.st (fun t k => XS.icmpYes X0.here hx rfl (pc0 := 13) (pc' := 25) rfl (hb hby d5_13) rfl (tlt hl0).1 (by decide) (by decide) k) ?_
      show Go _ _ _ _ T0 (mkF m 25 #[.val (.ref a1), .val (.ref a2), .val (.ref a3), .val (.int (2 : Int32))] [])
      refine Go.st (fun t k => XS.iconst X0.here hx rfl (hb hby d5_25) k) ?_
      show Go _ _ _ _ T0 (mkF m 26 #[.val (.ref a1), .val (.ref a2), .val (.ref a3), .val (.int (2 : Int32))] [(.int (0 : Int32))])
      exact goN X0 hx hret hlk (by simp) (hb hby d5_26) (by decide) (by decide) ⟨Or.inr ⟨fun q => (q 0 (by decide)).1 hl0, rfl⟩, N0, e0⟩
    ·
      refine Go.st (fun t k => XS.icmpNo X0.here hx rfl (hb hby d5_13) rfl (flt hl0).1 k) ?_
      show Go _ _ _ _ T0 (mkF m 16 #[.val (.ref a1), .val (.ref a2), .val (.ref a3), .val (.int (2 : Int32))] [])
      refine Go.st (fun t k => XS.aloadN X0.here hx rfl (hb hby d5_16) rfl rfl k) ?_
      show Go _ _ _ _ T0 (mkF m 17 #[.val (.ref a1), .val (.ref a2), .val (.ref a3), .val (.int (2 : Int32))] [(.ref a1)])
      refine Go.st (fun t k => XS.iconst X0.here hx rfl (hb hby d5_17) k) ?_
      show Go _ _ _ _ T0 (mkF m 18 #[.val (.ref a1), .val (.ref a2), .val (.ref a3), .val (.int (2 : Int32))] [(.int (0 : Int32)), (.ref a1)])
      refine goLdI X0 hx hZ e0 V_a1 (v := (.int (F1 0))) (g := (mkF m 18 #[.val (.ref a1), .val (.ref a2), .val (.ref a3), .val (.int (2 : Int32))] [(.int (0 : Int32)), (.ref a1)])) rfl rfl (hb hby d5_18) (k := 0) ⟨by decide, rfl, by decide⟩ rfl ?_
      show Go _ _ _ _ T0 (mkF m 19 #[.val (.ref a1), .val (.ref a2), .val (.ref a3), .val (.int (2 : Int32))] [(.int (F1 0))])
      refine Go.st (fun t k => XS.aloadN X0.here hx rfl (hb hby d5_19) rfl rfl k) ?_
      show Go _ _ _ _ T0 (mkF m 20 #[.val (.ref a1), .val (.ref a2), .val (.ref a3), .val (.int (2 : Int32))] [(.ref a3), (.int (F1 0))])
      refine Go.st (fun t k => XS.iconst X0.here hx rfl (hb hby d5_20) k) ?_
      show Go _ _ _ _ T0 (mkF m 21 #[.val (.ref a1), .val (.ref a2), .val (.ref a3), .val (.int (2 : Int32))] [(.int (0 : Int32)), (.ref a3), (.int (F1 0))])
      refine goLdI X0 hx hZ e0 V_a3 (v := (.int (F3 0))) (g := (mkF m 21 #[.val (.ref a1), .val (.ref a2), .val (.ref a3), .val (.int (2 : Int32))] [(.int (0 : Int32)), (.ref a3), (.int (F1 0))])) rfl rfl (hb hby d5_21) (k := 0) ⟨by decide, rfl, by decide⟩ rfl ?_
      show Go _ _ _ _ T0 (mkF m 22 #[.val (.ref a1), .val (.ref a2), .val (.ref a3), .val (.int (2 : Int32))] [(.int (F3 0)), (.int (F1 0))])
      by_cases hu0 : (F3 0) < (F1 0)
      ·
        refine Go.st (fun t k => XS.icmpNo X0.here hx rfl (hb hby d5_22) rfl (tlt hu0).2.2.2 k) ?_
        show Go _ _ _ _ T0 (mkF m 25 #[.val (.ref a1), .val (.ref a2), .val (.ref a3), .val (.int (2 : Int32))] [])
        refine Go.st (fun t k => XS.iconst X0.here hx rfl (hb hby d5_25) k) ?_
        show Go _ _ _ _ T0 (mkF m 26 #[.val (.ref a1), .val (.ref a2), .val (.ref a3), .val (.int (2 : Int32))] [(.int (0 : Int32))])
        exact goN X0 hx hret hlk (by simp) (hb hby d5_26) (by decide) (by decide) ⟨Or.inr ⟨fun q => (q 0 (by decide)).2 hu0, rfl⟩, N0, e0⟩
      ·
        refine Go.st (fun t k => XS.icmpYes X0.here hx rfl (pc0 := 22) (pc' := 27) rfl (hb hby d5_22) rfl (flt hu0).2.2.2 (by decide) (by decide) k) ?_
        show Go _ _ _ _ T0 (mkF m 27 #[.val (.ref a1), .val (.ref a2), .val (.ref a3), .val (.int (2 : Int32))] [])
        refine Go.st (fun t k => XS.iloadN X0.here hx rfl (hb hby d5_27) rfl k) ?_
        show Go _ _ _ _ T0 (mkF m 28 #[.val (.ref a1), .val (.ref a2), .val (.ref a3), .val (.int (2 : Int32))] [(.int (2 : Int32))])
        refine Go.st (fun t k => XS.iconst X0.here hx rfl (hb hby d5_28) k) ?_
        show Go _ _ _ _ T0 (mkF m 29 #[.val (.ref a1), .val (.ref a2), .val (.ref a3), .val (.int (2 : Int32))] [(.int (1 : Int32)), (.int (2 : Int32))])
        refine Go.st (fun t k => XS.icmpNo X0.here hx rfl (hb hby d5_29) rfl (by decide) k) ?_
        show Go _ _ _ _ T0 (mkF m 32 #[.val (.ref a1), .val (.ref a2), .val (.ref a3), .val (.int (2 : Int32))] [])
        refine Go.st (fun t k => XS.aloadN X0.here hx rfl (hb hby d5_32) rfl rfl k) ?_
        show Go _ _ _ _ T0 (mkF m 33 #[.val (.ref a1), .val (.ref a2), .val (.ref a3), .val (.int (2 : Int32))] [(.ref a1)])
        refine Go.st (fun t k => XS.iconst X0.here hx rfl (hb hby d5_33) k) ?_
        show Go _ _ _ _ T0 (mkF m 34 #[.val (.ref a1), .val (.ref a2), .val (.ref a3), .val (.int (2 : Int32))] [(.int (1 : Int32)), (.ref a1)])
        refine goLdI X0 hx hZ e0 V_a1 (v := (.int (F1 1))) (g := (mkF m 34 #[.val (.ref a1), .val (.ref a2), .val (.ref a3), .val (.int (2 : Int32))] [(.int (1 : Int32)), (.ref a1)])) rfl rfl (hb hby d5_34) (k := 1) ⟨by decide, rfl, by decide⟩ rfl ?_
        show Go _ _ _ _ T0 (mkF m 35 #[.val (.ref a1), .val (.ref a2), .val (.ref a3), .val (.int (2 : Int32))] [(.int (F1 1))])
        refine Go.st (fun t k => XS.aloadN X0.here hx rfl (hb hby d5_35) rfl rfl k) ?_
        show Go _ _ _ _ T0 (mkF m 36 #[.val (.ref a1), .val (.ref a2), .val (.ref a3), .val (.int (2 : Int32))] [(.ref a2), (.int (F1 1))])
        refine Go.st (fun t k => XS.iconst X0.here hx rfl (hb hby d5_36) k) ?_
        show Go _ _ _ _ T0 (mkF m 37 #[.val (.ref a1), .val (.ref a2), .val (.ref a3), .val (.int (2 : Int32))] [(.int (1 : Int32)), (.ref a2), (.int (F1 1))])
        refine goLdI X0 hx hZ e0 V_a2 (v := (.int (F2 1))) (g := (mkF m 37 #[.val (.ref a1), .val (.ref a2), .val (.ref a3), .val (.int (2 : Int32))] [(.int (1 : Int32)), (.ref a2), (.int (F1 1))])) rfl rfl (hb hby d5_37) (k := 1) ⟨by decide, rfl, by decide⟩ rfl ?_
        show Go _ _ _ _ T0 (mkF m 38 #[.val (.ref a1), .val (.ref a2), .val (.ref a3), .val (.int (2 : Int32))] [(.int (F2 1)), (.int (F1 1))])
        by_cases hl1 : (F1 1) < (F2 1)
        ·
          refine Go.st (fun t k => XS.icmpYes X0.here hx rfl (pc0 := 38) (pc' := 50) rfl (hb hby d5_38) rfl (tlt hl1).1 (by decide) (by decide) k) ?_
          show Go _ _ _ _ T0 (mkF m 50 #[.val (.ref a1), .val (.ref a2), .val (.ref a3), .val (.int (2 : Int32))] [])
          refine Go.st (fun t k => XS.iconst X0.here hx rfl (hb hby d5_50) k) ?_
          show Go _ _ _ _ T0 (mkF m 51 #[.val (.ref a1), .val (.ref a2), .val (.ref a3), .val (.int (2 : Int32))] [(.int (0 : Int32))])
          exact goN X0 hx hret hlk (by simp) (hb hby d5_51) (by decide) (by decide) ⟨Or.inr ⟨fun q => (q 1 (by decide)).1 hl1, rfl⟩, N0, e0⟩
        ·
          refine Go.st (fun t k => XS.icmpNo X0.here hx rfl (hb hby d5_38) rfl (flt hl1).1 k) ?_
          show Go _ _ _ _ T0 (mkF m 41 #[.val (.ref a1), .val (.ref a2), .val (.ref a3), .val (.int (2 : Int32))] [])
          refine Go.st (fun t k => XS.aloadN X0.here hx rfl (hb hby d5_41) rfl rfl k) ?_
          show Go _ _ _ _ T0 (mkF m 42 #[.val (.ref a1), .val (.ref a2), .val (.ref a3), .val (.int (2 : Int32))] [(.ref a1)])
          refine Go.st (fun t k => XS.iconst X0.here hx rfl (hb hby d5_42) k) ?_
          show Go _ _ _ _ T0 (mkF m 43 #[.val (.ref a1), .val (.ref a2), .val (.ref a3), .val (.int (2 : Int32))] [(.int (1 : Int32)), (.ref a1)])
          refine goLdI X0 hx hZ e0 V_a1 (v := (.int (F1 1))) (g := (mkF m 43 #[.val (.ref a1), .val (.ref a2), .val (.ref a3), .val (.int (2 : Int32))] [(.int (1 : Int32)), (.ref a1)])) rfl rfl (hb hby d5_43) (k := 1) ⟨by decide, rfl, by decide⟩ rfl ?_
          show Go _ _ _ _ T0 (mkF m 44 #[.val (.ref a1), .val (.ref a2), .val (.ref a3), .val (.int (2 : Int32))] [(.int (F1 1))])
          refine Go.st (fun t k => XS.aloadN X0.here hx rfl (hb hby d5_44) rfl rfl k) ?_
          show Go _ _ _ _ T0 (mkF m 45 #[.val (.ref a1), .val (.ref a2), .val (.ref a3), .val (.int (2 : Int32))] [(.ref a3), (.int (F1 1))])
          refine Go.st (fun t k => XS.iconst X0.here hx rfl (hb hby d5_45) k) ?_
          show Go _ _ _ _ T0 (mkF m 46 #[.val (.ref a1), .val (.ref a2), .val (.ref a3), .val (.int (2 : Int32))] [(.int (1 : Int32)), (.ref a3), (.int (F1 1))])
          refine goLdI X0 hx hZ e0 V_a3 (v := (.int (F3 1))) (g := (mkF m 46 #[.val (.ref a1), .val (.ref a2), .val (.ref a3), .val (.int (2 : Int32))] [(.int (1 : Int32)), (.ref a3), (.int (F1 1))])) rfl rfl (hb hby d5_46) (k := 1) ⟨by decide, rfl, by decide⟩ rfl ?_
          show Go _ _ _ _ T0 (mkF m 47 #[.val (.ref a1), .val (.ref a2), .val (.ref a3), .val (.int (2 : Int32))] [(.int (F3 1)), (.int (F1 1))])
          by_cases hu1 : (F3 1) < (F1 1)
          ·
            refine Go.st (fun t k => XS.icmpNo X0.here hx rfl (hb hby d5_47) rfl (tlt hu1).2.2.2 k) ?_
            show Go _ _ _ _ T0 (mkF m 50 #[.val (.ref a1), .val (.ref a2), .val (.ref a3), .val (.int (2 : Int32))] [])
            refine Go.st (fun t k => XS.iconst X0.here hx rfl (hb hby d5_50) k) ?_
            show Go _ _ _ _ T0 (mkF m 51 #[.val (.ref a1), .val (.ref a2), .val (.ref a3), .val (.int (2 : Int32))] [(.int (0 : Int32))])
            exact goN X0 hx hret hlk (by simp) (hb hby d5_51) (by decide) (by decide) ⟨Or.inr ⟨fun q => (q 1 (by decide)).2 hu1, rfl⟩, N0, e0⟩
          ·
            refine Go.st (fun t k => XS.icmpYes X0.here hx rfl (pc0 := 47) (pc' := 52) rfl (hb hby d5_47) rfl (flt hu1).2.2.2 (by decide) (by decide) k) ?_
            show Go _ _ _ _ T0 (mkF m 52 #[.val (.ref a1), .val (.ref a2), .val (.ref a3), .val (.int (2 : Int32))] [])
            refine Go.st (fun t k => XS.iloadN X0.here hx rfl (hb hby d5_52) rfl k) ?_
            show Go _ _ _ _ T0 (mkF m 53 #[.val (.ref a1), .val (.ref a2), .val (.ref a3), .val (.int (2 : Int32))] [(.int (2 : Int32))])
            refine Go.st (fun t k => XS.iconst X0.here hx rfl (hb hby d5_53) k) ?_
            show Go _ _ _ _ T0 (mkF m 54 #[.val (.ref a1), .val (.ref a2), .val (.ref a3), .val (.int (2 : Int32))] [(.int (2 : Int32)), (.int (2 : Int32))])
            refine Go.st (fun t k => XS.icmpYes X0.here hx rfl (pc0 := 54) (pc' := 77) rfl (hb hby d5_54) rfl (by decide) (by decide) (by decide) k) ?_
            show Go _ _ _ _ T0 (mkF m 77 #[.val (.ref a1), .val (.ref a2), .val (.ref a3), .val (.int (2 : Int32))] [])
            refine Go.st (fun t k => XS.iconst X0.here hx rfl (hb hby d5_77) k) ?_
            show Go _ _ _ _ T0 (mkF m 78 #[.val (.ref a1), .val (.ref a2), .val (.ref a3), .val (.int (2 : Int32))] [(.int (1 : Int32))])
            exact goN X0 hx hret hlk (by simp) (hb hby d5_78) (by decide) (by decide) ⟨Or.inl ⟨fun i hi => by rcases own_lt2 hi with rfl | rfl <;> exact ⟨by assumption, by assumption⟩, rfl⟩, N0, e0⟩
  ·
    show Go _ _ _ _ T0 (mkF m 0 #[.val (.ref a1), .val (.ref a2), .val (.ref a3), .unset] [])
    show Go _ _ _ _ T0 (mkF m 0 #[.val (.ref a1), .val (.ref a2), .val (.ref a3), .unset] [])
    refine Go.st (fun t k => XS.aloadN X0.here hx rfl (hb hby d5_0) rfl rfl k) ?_
    show Go _ _ _ _ T0 (mkF m 1 #[.val (.ref a1), .val (.ref a2), .val (.ref a3), .unset] [(.ref a1)])
    refine goLen X0 hx hZ e0 V_a1 (z := (3 : Int32)) rfl (g := (mkF m 1 #[.val (.ref a1), .val (.ref a2), .val (.ref a3), .unset] [(.ref a1)])) rfl rfl (hb hby d5_1) ?_
    show Go _ _ _ _ T0 (mkF m 2 #[.val (.ref a1), .val (.ref a2), .val (.ref a3), .unset] [(.int (3 : Int32))])
    refine Go.st (fun t k => XS.istoreN X0.here hx rfl (hb hby d5_2) rfl (l' := #[.val (.ref a1), .val (.ref a2), .val (.ref a3), .val (.int (3 : Int32))]) rfl k) ?_
    show Go _ _ _ _ T0 (mkF m 3 #[.val (.ref a1), .val (.ref a2), .val (.ref a3), .val (.int (3 : Int32))] [])
    refine Go.st (fun t k => XS.iloadN X0.here hx rfl (hb hby d5_3) rfl k) ?_
    show Go _ _ _ _ T0 (mkF m 4 #[.val (.ref a1), .val (.ref a2), .val (.ref a3), .val (.int (3 : Int32))] [(.int (3 : Int32))])
    refine Go.st (fun t k => XS.ifNo X0.here hx rfl (hb hby d5_4) rfl (by decide) k) ?_
    show Go _ _ _ _ T0 (mkF m 7 #[.val (.ref a1), .val (.ref a2), .val (.ref a3), .val (.int (3 : Int32))] [])
    refine Go.st (fun t k => XS.aloadN X0.here hx rfl (hb hby d5_7) rfl rfl k) ?_
    show Go _ _ _ _ T0 (mkF m 8 #[.val (.ref a1), .val (.ref a2), .val (.ref a3), .val (.int (3 : Int32))] [(.ref a1)])
    refine Go.st (fun t k => XS.iconst X0.here hx rfl (hb hby d5_8) k) ?_
    show Go _ _ _ _ T0 (mkF m 9 #[.val (.ref a1), .val (.ref a2), .val (.ref a3), .val (.int (3 : Int32))] [(.int (0 : Int32)), (.ref a1)])
    refine goLdI X0 hx hZ e0 V_a1 (v := (.int (F1 0))) (g := (mkF m 9 #[.val (.ref a1), .val (.ref a2), .val (.ref a3), .val (.int (3 : Int32))] [(.int (0 : Int32)), (.ref a1)])) rfl rfl (hb hby d5_9) (k := 0) ⟨by decide, rfl, by decide⟩ rfl ?_
    show Go _ _ _ _ T0 (mkF m 10 #[.val (.ref a1), .val (.ref a2), .val (.ref a3), .val (.int (3 : Int32))] [(.int (F1 0))])
    refine Go.st (fun t k => XS.aloadN X0.here hx rfl (hb hby d5_10) rfl rfl k) ?_
    show Go _ _ _ _ T0 (mkF m 11 #[.val (.ref a1), .val (.ref a2), .val (.ref a3), .val (.int (3 : Int32))] [(.ref a2), (.int (F1 0))])
    refine Go.st (fun t k => XS.iconst X0.here hx rfl (hb hby d5_11) k) ?_
    show Go _ _ _ _ T0 (mkF m 12 #[.val (.ref a1), .val (.ref a2), .val (.ref a3), .val (.int (3 : Int32))] [(.int (0 : Int32)), (.ref a2), (.int (F1 0))])
    refine goLdI X0 hx hZ e0 V_a2 (v := (.int (F2 0))) (g := (mkF m 12 #[.val (.ref a1), .val (.ref a2), .val (.ref a3), .val (.int (3 : Int32))] [(.int (0 : Int32)), (.ref a2), (.int (F1 0))])) rfl rfl (hb hby d5_12) (k := 0) ⟨by decide, rfl, by decide⟩ rfl ?_
    show Go _ _ _ _ T0 (mkF m 13 #[.val (.ref a1), .val (.ref a2), .val (.ref a3), .val (.int (3 : Int32))] [(.int (F2 0)), (.int (F1 0))])
    by_cases hl0 : (F1 0) < (F2 0)
    ·
      refine Go.st (fun t k => XS.icmpYes X0.here hx rfl (pc0 := 13) (pc' := 25) rfl (hb hby d5_13) rfl (tlt hl0).1 (by decide) (by decide) k) ?_
      show Go _ _ _ _ T0 (mkF m 25 #[.val (.ref a1), .val (.ref a2), .val (.ref a3), .val (.int (3 : Int32))] [])
      refine Go.st (fun t k => XS.iconst X0.here hx rfl (hb hby d5_25) k) ?_
      show Go _ _ _ _ T0 (mkF m 26 #[.val (.ref a1), .val (.ref a2), .val (.ref a3), .val (.int (3 : Int32))] [(.int (0 : Int32))])
      exact goN X0 hx hret hlk (by simp) (hb hby d5_26) (by decide) (by decide) ⟨Or.inr ⟨fun q => (q 0 (by decide)).1 hl0, rfl⟩, N0, e0⟩
    ·
      refine Go.st (fun t k => XS.icmpNo X0.here hx rfl (hb hby d5_13) rfl (flt hl0).1 k) ?_
      show Go _ _ _ _ T0 (mkF m 16 #[.val (.ref a1), .val (.ref a2), .val (.ref a3), .val (.int (3 : Int32))] [])
      refine Go.st (fun t k => XS.aloadN X0.here hx rfl (hb hby d5_16) rfl rfl k) ?_
      show Go _ _ _ _ T0 (mkF m 17 #[.val (.ref a1), .val (.ref a2), .val (.ref a3), .val (.int (3 : Int32))] [(.ref a1)])
      refine Go.st (fun t k => XS.iconst X0.here hx rfl (hb hby d5_17) k) ?_
      show Go _ _ _ _ T0 (mkF m 18 #[.val (.ref a1), .val (.ref a2), .val (.ref a3), .val (.int (3 : Int32))] [(.int (0 : Int32)), (.ref a1)])
      refine goLdI X0 hx hZ e0 V_a1 (v := (.int (F1 0))) (g := (mkF m 18 #[.val (.ref a1), .val (.ref a2), .val (.ref a3), .val (.int (3 : Int32))] [(.int (0 : Int32)), (.ref a1)])) rfl rfl (hb hby d5_18) (k := 0) ⟨by decide, rfl, by decide⟩ rfl ?_
      show Go _ _ _ _ T0 (mkF m 19 #[.val (.ref a1), .val (.ref a2), .val (.ref a3), .val (.int (3 : Int32))] [(.int (F1 0))])
      refine Go.st (fun t k => XS.aloadN X0.here hx rfl (hb hby d5_19) rfl rfl k) ?_
      show Go _ _ _ _ T0 (mkF m 20 #[.val (.ref a1), .val (.ref a2), .val (.ref a3), .val (.int (3 : Int32))] [(.ref a3), (.int (F1 0))])
      refine Go.st (fun t k => XS.iconst X0.here hx rfl (hb hby d5_20) k) ?_
      show Go _ _ _ _ T0 (mkF m 21 #[.val (.ref a1), .val (.ref a2), .val (.ref a3), .val (.int (3 : Int32))] [(.int (0 : Int32)), (.ref a3), (.int (F1 0))])
      refine goLdI X0 hx hZ e0 V_a3 (v := (.int (F3 0))) (g := (mkF m 21 #[.val (.ref a1), .val (.ref a2), .val (.ref a3), .val (.int (3 : Int32))] [(.int (0 : Int32)), (.ref a3), (.int (F1 0))])) rfl rfl (hb hby d5_21) (k := 0) ⟨by decide, rfl, by decide⟩ rfl ?_
      show Go _ _ _ _ T0 (mkF m 22 #[.val (.ref a1), .val (.ref a2), .val (.ref a3), .val (.int (3 : Int32))] [(.int (F3 0)), (.int (F1 0))])
      by_cases hu0 : (F3 0) < (F1 0)
      ·
        refine Go.st (fun t k => XS.icmpNo X0.here hx rfl (hb hby d5_22) rfl (tlt hu0).2.2.2 k) ?_
        show Go _ _ _ _ T0 (mkF m 25 #[.val (.ref a1), .val (.ref a2), .val (.ref a3), .val (.int (3 : Int32))] [])
        refine Go.st (fun t k => XS.iconst X0.here hx rfl (hb hby d5_25) k) ?_
        show Go _ _ _ _ T0 (mkF m 26 #[.val (.ref a1), .val (.ref a2), .val (.ref a3), .val (.int (3 : Int32))] [(.int (0 : Int32))])
        exact goN X0 hx hret hlk (by simp) (hb hby d5_26) (by decide) (by decide) ⟨Or.inr ⟨fun q => (q 0 (by decide)).2 hu0, rfl⟩, N0, e0⟩
      ·
        refine Go.st (fun t k => XS.icmpYes X0.here hx rfl (pc0 := 22) (pc' := 27) rfl (hb hby d5_22) rfl (flt hu0).2.2.2 (by decide) (by decide) k) ?_
        show Go _ _ _ _ T0 (mkF m 27 #[.val (.ref a1), .val (.ref a2), .val (.ref a3), .val (.int (3 : Int32))] [])
        refine Go.st (fun t k => XS.iloadN X0.here hx rfl (hb hby d5_27) rfl k) ?_
        show Go _ _ _ _ T0 (mkF m 28 #[.val (.ref a1), .val (.ref a2), .val (.ref a3), .val (.int (3 : Int32))] [(.int (3 : Int32))])
        refine Go.st (fun t k => XS.iconst X0.here hx rfl (hb hby d5_28) k) ?_
        show Go _ _ _ _ T0 (mkF m 29 #[.val (.ref a1), .val (.ref a2), .val (.ref a3), .val (.int (3 : Int32))] [(.int (1 : Int32)), (.int (3 : Int32))])
        refine Go.st (fun t k => XS.icmpNo X0.here hx rfl (hb hby d5_29) rfl (by decide) k) ?_
        show Go _ _ _ _ T0 (mkF m 32 #[.val (.ref a1), .val (.ref a2), .val (.ref a3), .val (.int (3 : Int32))] [])
        refine Go.st (fun t k => XS.aloadN X0.here hx rfl (hb hby d5_32) rfl rfl k) ?_
        show Go _ _ _ _ T0 (mkF m 33 #[.val (.ref a1), .val (.ref a2), .val (.ref a3), .val (.int (3 : Int32))] [(.ref a1)])
        refine Go.st (fun t k => XS.iconst X0.here hx rfl (hb hby d5_33) k) ?_
        show Go _ _ _ _ T0 (mkF m 34 #[.val (.ref a1), .val (.ref a2), .val (.ref a3), .val (.int (3 : Int32))] [(.int (1 : Int32)), (.ref a1)])
        refine goLdI X0 hx hZ e0 V_a1 (v := (.int (F1 1))) (g := (mkF m 34 #[.val (.ref a1), .val (.ref a2), .val (.ref a3), .val (.int (3 : Int32))] [(.int (1 : Int32)), (.ref a1)])) rfl rfl (hb hby d5_34) (k := 1) ⟨by decide, rfl, by decide⟩ rfl ?_
        show Go _ _ _ _ T0 (mkF m 35 #[.val (.ref a1), .val (.ref a2), .val (.ref a3), .val (.int (3 : Int32))] [(.int (F1 1))])
        refine Go.st (fun t k => XS.aloadN X0.here hx rfl (hb hby d5_35) rfl rfl k) ?_
        show Go _ _ _ _ T0 (mkF m 36 #[.val (.ref a1), .val (.ref a2), .val (.ref a3), .val (.int (3 : Int32))] [(.ref a2), (.int (F1 1))])
        refine Go.st (fun t k => XS.iconst X0.here hx rfl (hb hby d5_36) k) ?_
        show Go _ _ _ _ T0 (mkF m 37 #[.val (.ref a1), .val (.ref a2), .val (.ref a3), .val (.int (3 : Int32))] [(.int (1 : Int32)), (.ref a2), (.int (F1 1))])
        refine goLdI X0 hx hZ e0 V_a2 (v := (.int (F2 1))) (g := (mkF m 37 #[.val (.ref a1), .val (.ref a2), .val (.ref a3), .val (.int (3 : Int32))] [(.int (1 : Int32)), (.ref a2), (.int (F1 1))])) rfl rfl (hb hby d5_37) (k := 1) ⟨by decide, rfl, by decide⟩ rfl ?_
        show Go _ _ _ _ T0 (mkF m 38 #[.val (.ref a1), .val (.ref a2), .val (.ref a3), .val (.int (3 : Int32))] [(.int (F2 1)), (.int (F1 1))])
        by_cases hl1 : (F1 1) < (F2 1)
        ·
          refine Go.st (fun t k => XS.icmpYes X0.here hx rfl (pc0 := 38) (pc' := 50) rfl (hb hby d5_38) rfl (tlt hl1).1 (by decide) (by decide) k) ?_
          show Go _ _ _ _ T0 (mkF m 50 #[.val (.ref a1), .val (.ref a2), .val (.ref a3), .val (.int (3 : Int32))] [])
          refine Go.st (fun t k => XS.iconst X0.here hx rfl (hb hby d5_50) k) ?_
          show Go _ _ _ _ T0 (mkF m 51 #[.val (.ref a1), .val (.ref a2), .val (.ref a3), .val (.int (3 : Int32))] [(.int (0 : Int32))])
          exact goN X0 hx hret hlk (by simp) (hb hby d5_51) (by decide) (by decide) ⟨Or.inr ⟨fun q => (q 1 (by decide)).1 hl1, rfl⟩, N0, e0⟩
        ·
          refine Go.st (fun t k => XS.icmpNo X0.here hx rfl (hb hby d5_38) rfl (flt hl1).1 k) ?_
          show Go _ _ _ _ T0 (mkF m 41 #[.val (.ref a1), .val (.ref a2), .val (.ref a3), .val (.int (3 : Int32))] [])
          refine Go.st (fun t k => XS.aloadN X0.here hx rfl (hb hby d5_41) rfl rfl k) ?_
          show Go _ _ _ _ T0 (mkF m 42 #[.val (.ref a1), .val (.ref a2), .val (.ref a3), .val (.int (3 : Int32))] [(.ref a1)])
          refine Go.st (fun t k => XS.iconst X0.here hx rfl (hb hby d5_42) k) ?_
          show Go _ _ _ _ T0 (mkF m 43 #[.val (.ref a1), .val (.ref a2), .val (.ref a3), .val (.int (3 : Int32))] [(.int (1 : Int32)), (.ref a1)])
          refine goLdI X0 hx hZ e0 V_a1 (v := (.int (F1 1))) (g := (mkF m 43 #[.val (.ref a1), .val (.ref a2), .val (.ref a3), .val (.int (3 : Int32))] [(.int (1 : Int32)), (.ref a1)])) rfl rfl (hb hby d5_43) (k := 1) ⟨by decide, rfl, by decide⟩ rfl ?_
          show Go _ _ _ _ T0 (mkF m 44 #[.val (.ref a1), .val (.ref a2), .val (.ref a3), .val (.int (3 : Int32))] [(.int (F1 1))])
          refine Go.st (fun t k => XS.aloadN X0.here hx rfl (hb hby d5_44) rfl rfl k) ?_
          show Go _ _ _ _ T0 (mkF m 45 #[.val (.ref a1), .val (.ref a2), .val (.ref a3), .val (.int (3 : Int32))] [(.ref a3), (.int (F1 1))])
          refine Go.st (fun t k => XS.iconst X0.here hx rfl (hb hby d5_45) k) ?_
          show Go _ _ _ _ T0 (mkF m 46 #[.val (.ref a1), .val (.ref a2), .val (.ref a3), .val (.int (3 : Int32))] [(.int (1 : Int32)), (.ref a3), (.int (F1 1))])
          refine goLdI X0 hx hZ e0 V_a3 (v := (.int (F3 1))) (g := (mkF m 46 #[.val (.ref a1), .val (.ref a2), .val (.ref a3), .val (.int (3 : Int32))] [(.int (1 : Int32)), (.ref a3), (.int (F1 1))])) rfl rfl (hb hby d5_46) (k := 1) ⟨by decide, rfl, by decide⟩ rfl ?_
          show Go _ _ _ _ T0 (mkF m 47 #[.val (.ref a1), .val (.ref a2), .val (.ref a3), .val (.int (3 : Int32))] [(.int (F3 1)), (.int (F1 1))])
          by_cases hu1 : (F3 1) < (F1 1)
          ·
            refine Go.st (fun t k => XS.icmpNo X0.here hx rfl (hb hby d5_47) rfl (tlt hu1).2.2.2 k) ?_
            show Go _ _ _ _ T0 (mkF m 50 #[.val (.ref a1), .val (.ref a2), .val (.ref a3), .val (.int (3 : Int32))] [])
            refine Go.st (fun t k => XS.iconst X0.here hx rfl (hb hby d5_50) k) ?_
            show Go _ _ _ _ T0 (mkF m 51 #[.val (.ref a1), .val (.ref a2), .val (.ref a3), .val (.int (3 : Int32))] [(.int (0 : Int32))])
            exact goN X0 hx hret hlk (by simp) (hb hby d5_51) (by decide) (by decide) ⟨Or.inr ⟨fun q => (q 1 (by decide)).2 hu1, rfl⟩, N0, e0⟩
          ·
            refine Go.st (fun t k => XS.icmpYes X0.here hx rfl (pc0 := 47) (pc' := 52) rfl (hb hby d5_47) rfl (flt hu1).2.2.2 (by decide) (by decide) k) ?_
            show Go _ _ _ _ T0 (mkF m 52 #[.val (.ref a1), .val (.ref a2), .val (.ref a3), .val (.int (3 : Int32))] [])
            refine Go.st (fun t k => XS.iloadN X0.here hx rfl (hb hby d5_52) rfl k) ?_
            show Go _ _ _ _ T0 (mkF m 53 #[.val (.ref a1), .val (.ref a2), .val (.ref a3), .val (.int (3 : Int32))] [(.int (3 : Int32))])
            refine Go.st (fun t k => XS.iconst X0.here hx rfl (hb hby d5_53) k) ?_
            show Go _ _ _ _ T0 (mkF m 54 #[.val (.ref a1), .val (.ref a2), .val (.ref a3), .val (.int (3 : Int32))] [(.int (2 : Int32)), (.int (3 : Int32))])
            refine Go.st (fun t k => XS.icmpNo X0.here hx rfl (hb hby d5_54) rfl (by decide) k) ?_
            show Go _ _ _ _ T0 (mkF m 57 #[.val (.ref a1), .val (.ref a2), .val (.ref a3), .val (.int (3 : Int32))] [])
            refine Go.st (fun t k => XS.aloadN X0.here hx rfl (hb hby d5_57) rfl rfl k) ?_
            show Go _ _ _ _ T0 (mkF m 58 #[.val (.ref a1), .val (.ref a2), .val (.ref a3), .val (.int (3 : Int32))] [(.ref a1)])
            refine Go.st (fun t k => XS.iconst X0.here hx rfl (hb hby d5_58) k) ?_
            show Go _ _ _ _ T0 (mkF m 59 #[.val (.ref a1), .val (.ref a2), .val (.ref a3), .val (.int (3 : Int32))] [(.int (2 : Int32)), (.ref a1)])
            refine goLdI X0 hx hZ e0 V_a1 (v := (.int (F1 2))) (g := (mkF m 59 #[.val (.ref a1), .val (.ref a2), .val (.ref a3), .val (.int (3 : Int32))] [(.int (2 : Int32)), (.ref a1)])) rfl rfl (hb hby d5_59) (k := 2) ⟨by decide, rfl, by decide⟩ rfl ?_
            show Go _ _ _ _ T0 (mkF m 60 #[.val (.ref a1), .val (.ref a2), .val (.ref a3), .val (.int (3 : Int32))] [(.int (F1 2))])
            refine Go.st (fun t k => XS.aloadN X0.here hx rfl (hb hby d5_60) rfl rfl k) ?_
            show Go _ _ _ _ T0 (mkF m 61 #[.val (.ref a1), .val (.ref a2), .val (.ref a3), .val (.int (3 : Int32))] [(.ref a2), (.int (F1 2))])
            refine Go.st (fun t k => XS.iconst X0.here hx rfl (hb hby d5_61) k) ?_
            show Go _ _ _ _ T0 (mkF m 62 #[.val (.ref a1), .val (.ref a2), .val (.ref a3), .val (.int (3 : Int32))] [(.int (2 : Int32)), (.ref a2), (.int (F1 2))])
            refine goLdI X0 hx hZ e0 V_a2 (v := (.int (F2 2))) (g := (mkF m 62 #[.val (.ref a1), .val (.ref a2), .val (.ref a3), .val (.int (3 : Int32))] [(.int (2 : Int32)), (.ref a2), (.int (F1 2))])) rfl rfl (hb hby d5_62) (k := 2) ⟨by decide, rfl, by decide⟩ rfl ?_
            show Go _ _ _ _ T0 (mkF m 63 #[.val (.ref a1), .val (.ref a2), .val (.ref a3), .val (.int (3 : Int32))] [(.int (F2 2)), (.int (F1 2))])
            by_cases hl2 : (F1 2) < (F2 2)
            ·
              refine Go.st (fun t k => XS.icmpYes X0.here hx rfl (pc0 := 63) (pc' := 75) rfl (hb hby d5_63) rfl (tlt hl2).1 (by decide) (by decide) k) ?_
              show Go _ _ _ _ T0 (mkF m 75 #[.val (.ref a1), .val (.ref a2), .val (.ref a3), .val (.int (3 : Int32))] [])
              refine Go.st (fun t k => XS.iconst X0.here hx rfl (hb hby d5_75) k) ?_
              show Go _ _ _ _ T0 (mkF m 76 #[.val (.ref a1), .val (.ref a2), .val (.ref a3), .val (.int (3 : Int32))] [(.int (0 : Int32))])
              exact goN X0 hx hret hlk (by simp) (hb hby d5_76) (by decide) (by decide) ⟨Or.inr ⟨fun q => (q 2 (by decide)).1 hl2, rfl⟩, N0, e0⟩
            ·
              refine Go.st (fun t k => XS.icmpNo X0.here hx rfl (hb hby d5_63) rfl (flt hl2).1 k) ?_
              show Go _ _ _ _ T0 (mkF m 66 #[.val (.ref a1), .val (.ref a2), .val (.ref a3), .val (.int (3 : Int32))] [])
              refine Go.st (fun t k => XS.aloadN X0.here hx rfl (hb hby d5_66) rfl rfl k) ?_
              show Go _ _ _ _ T0 (mkF m 67 #[.val (.ref a1), .val (.ref a2), .val (.ref a3), .val (.int (3 : Int32))] [(.ref a1)])
              refine Go.st (fun t k => XS.iconst X0.here hx rfl (hb hby d5_67) k) ?_
              show Go _ _ _ _ T0 (mkF m 68 #[.val (.ref a1), .val (.ref a2), .val (.ref a3), .val (.int (3 : Int32))] [(.int (2 : Int32)), (.ref a1)])
              refine goLdI X0 hx hZ e0 V_a1 (v := (.int (F1 2))) (g := (mkF m 68 #[.val (.ref a1), .val (.ref a2), .val (.ref a3), .val (.int (3 : Int32))] [(.int (2 : Int32)), (.ref a1)])) rfl rfl (hb hby d5_68) (k := 2) ⟨by decide, rfl, by decide⟩ rfl ?_
              show Go _ _ _ _ T0 (mkF m 69 #[.val (.ref a1), .val (.ref a2), .val (.ref a3), .val (.int (3 : Int32))] [(.int (F1 2))])
              refine Go.st (fun t k => XS.aloadN X0.here hx rfl (hb hby d5_69) rfl rfl k) ?_
              show Go _ _ _ _ T0 (mkF m 70 #[.val (.ref a1), .val (.ref a2), .val (.ref a3), .val (.int (3 : Int32))] [(.ref a3), (.int (F1 2))])
              refine Go.st (fun t k => XS.iconst X0.here hx rfl (hb hby d5_70) k) ?_
              show Go _ _ _ _ T0 (mkF m 71 #[.val (.ref a1), .val (.ref a2), .val (.ref a3), .val (.int (3 : Int32))] [(.int (2 : Int32)), (.ref a3), (.int (F1 2))])
              refine goLdI X0 hx hZ e0 V_a3 (v := (.int (F3 2))) (g := (mkF m 71 #[.val (.ref a1), .val (.ref a2), .val (.ref a3), .val (.int (3 : Int32))] [(.int (2 : Int32)), (.ref a3), (.int (F1 2))])) rfl rfl (hb hby d5_71) (k := 2) ⟨by decide, rfl, by decide⟩ rfl ?_
              show Go _ _ _ _ T0 (mkF m 72 #[.val (.ref a1), .val (.ref a2), .val (.ref a3), .val (.int (3 : Int32))] [(.int (F3 2)), (.int (F1 2))])
              by_cases hu2 : (F3 2) < (F1 2)
              ·
                refine Go.st (fun t k => XS.icmpNo X0.here hx rfl (hb hby d5_72) rfl (tlt hu2).2.2.2 k) ?_
                show Go _ _ _ _ T0 (mkF m 75 #[.val (.ref a1), .val (.ref a2), .val (.ref a3), .val (.int (3 : Int32))] [])
                refine Go.st (fun t k => XS.iconst X0.here hx rfl (hb hby d5_75) k) ?_
                show Go _ _ _ _ T0 (mkF m 76 #[.val (.ref a1), .val (.ref a2), .val (.ref a3), .val (.int (3 : Int32))] [(.int (0 : Int32))])
                exact goN X0 hx hret hlk (by simp) (hb hby d5_76) (by decide) (by decide) ⟨Or.inr ⟨fun q => (q 2 (by decide)).2 hu2, rfl⟩, N0, e0⟩
              ·
                refine Go.st (fun t k => XS.icmpYes X0.here hx rfl (pc0 := 72) (pc' := 77) rfl (hb hby d5_72) rfl (flt hu2).2.2.2 (by decide) (by decide) k) ?_
                show Go _ _ _ _ T0 (mkF m 77 #[.val (.ref a1), .val (.ref a2), .val (.ref a3), .val (.int (3 : Int32))] [])
                refine Go.st (fun t k => XS.iconst X0.here hx rfl (hb hby d5_77) k) ?_
                show Go _ _ _ _ T0 (mkF m 78 #[.val (.ref a1), .val (.ref a2), .val (.ref a3), .val (.int (3 : Int32))] [(.int (1 : Int32))])
                exact goN X0 hx hret hlk (by simp) (hb hby d5_78) (by decide) (by decide) ⟨Or.inl ⟨fun i hi => by rcases own_lt3 hi with rfl | rfl | rfl <;> exact ⟨by assumption, by assumption⟩, rfl⟩, N0, e0⟩
theorem d4_0 : decode prog_352_method_2_code 0 = .ok (.aload_n 0, 1) := by decide +kernel
theorem d4_1 : decode prog_352_method_2_code 1 = .ok (.arraylength, 1) := by decide +kernel
theorem d4_2 : decode prog_352_method_2_code 2 = .ok (.iconst 1, 1) := by decide +kernel
theorem d4_3 : decode prog_352_method_2_code 3 = .ok (.isub, 1) := by decide +kernel
theorem d4_4 : decode prog_352_method_2_code 4 = .ok (.istore_n 3, 1) := by decide +kernel
theorem d4_5 : decode prog_352_method_2_code 5 = .ok (.iload_n 3, 1) := by decide +kernel
theorem d4_6 : decode prog_352_method_2_code 6 = .ok (.ifCond .lt 24, 3) := by decide +kernel
theorem d4_9 : decode prog_352_method_2_code 9 = .ok (.aload_n 0, 1) := by decide +kernel
theorem d4_10 : decode prog_352_method_2_code 10 = .ok (.iload_n 3, 1) := by decide +kernel
theorem d4_11 : decode prog_352_method_2_code 11 = .ok (.iaload, 1) := by decide +kernel
theorem d4_12 : decode prog_352_method_2_code 12 = .ok (.aload_n 2, 1) := by decide +kernel
theorem d4_13 : decode prog_352_method_2_code 13 = .ok (.iload_n 3, 1) := by decide +kernel
theorem d4_14 : decode prog_352_method_2_code 14 = .ok (.iaload, 1) := by decide +kernel
theorem d4_15 : decode prog_352_method_2_code 15 = .ok (.if_icmp .ne 15, 3) := by decide +kernel
theorem d4_18 : decode prog_352_method_2_code 18 = .ok (.aload_n 0, 1) := by decide +kernel
theorem d4_19 : decode prog_352_method_2_code 19 = .ok (.iload_n 3, 1) := by decide +kernel
theorem d4_20 : decode prog_352_method_2_code 20 = .ok (.aload_n 1, 1) := by decide +kernel
theorem d4_21 : decode prog_352_method_2_code 21 = .ok (.iload_n 3, 1) := by decide +kernel
theorem d4_22 : decode prog_352_method_2_code 22 = .ok (.iaload, 1) := by decide +kernel
theorem d4_23 : decode prog_352_method_2_code 23 = .ok (.iastore, 1) := by decide +kernel
theorem d4_24 : decode prog_352_method_2_code 24 = .ok (.iinc 3 (-1), 3) := by decide +kernel
theorem d4_27 : decode prog_352_method_2_code 27 = .ok (.goto (-22), 3) := by decide +kernel
theorem d4_30 : decode prog_352_method_2_code 30 = .ok (.iload_n 3, 1) := by decide +kernel
theorem d4_31 : decode prog_352_method_2_code 31 = .ok (.ifCond .ge 5, 3) := by decide +kernel
theorem d4_34 : decode prog_352_method_2_code 34 = .ok (.iconst 0, 1) := by decide +kernel
theorem d4_35 : decode prog_352_method_2_code 35 = .ok (.ireturn, 1) := by decide +kernel
theorem d4_36 : decode prog_352_method_2_code 36 = .ok (.aload_n 0, 1) := by decide +kernel
theorem d4_37 : decode prog_352_method_2_code 37 = .ok (.iload_n 3, 1) := by decide +kernel
theorem d4_38 : decode prog_352_method_2_code 38 = .ok (.dup2, 1) := by decide +kernel
theorem d4_39 : decode prog_352_method_2_code 39 = .ok (.iaload, 1) := by decide +kernel
theorem d4_40 : decode prog_352_method_2_code 40 = .ok (.iconst 1, 1) := by decide +kernel
theorem d4_41 : decode prog_352_method_2_code 41 = .ok (.iadd, 1) := by decide +kernel
theorem d4_42 : decode prog_352_method_2_code 42 = .ok (.iastore, 1) := by decide +kernel
theorem d4_43 : decode prog_352_method_2_code 43 = .ok (.iconst 1, 1) := by decide +kernel
theorem d4_44 : decode prog_352_method_2_code 44 = .ok (.ireturn, 1) := by decide +kernel
theorem pn_4 : plainName "com/example/counterpath/counterpath/util/Combinations" = true := by first | (simp [plainName, overriddenIn]; done) | decide +kernel
theorem ef_4 (m : MethodId) (x0 : Addr) (x1 : Addr) (x2 : Addr) : entryFrame m #[(.ref x0), (.ref x1), (.ref x2)] 4 = mkF m 0 #[.val (.ref x0), .val (.ref x1), .val (.ref x2), .unset] [] := by first | (simp [entryFrame, mkF, argsToLocals, Value.category]; done) | rfl
set_option maxRecDepth 65536 in
set_option maxHeartbeats 40000000 in
theorem rm4 (l : Launch) (Z : State) (a0 : Array Value) (hw : ∀ d ∈ tables_1, d.before a0 Z = true) (a1 : Addr) (a2 : Addr) (a3 : Addr) (h0 : Heap) (n0 : Nat) (Z0 : n0 ≤ h0.size) (n : Nat) (F1 F2 F3 : Nat → Int32) (hn : n = 0 ∨ n = 1 ∨ n = 2 ∨ n = 3) (V_a1 : BA Z h0 a1 .int n (fun i => .int (F1 i))) (V_a2 : BA Z h0 a2 .int n (fun i => .int (F2 i))) (V_a3 : BA Z h0 a3 .int n (fun i => .int (F3 i))) (g_a1 : n0 ≤ a1) (ne12 : a1 ≠ a2) (ne13 : a1 ≠ a3) :
    Does l Z (⟨"com/example/counterpath/counterpath/util/Combinations", "next", "([I[I[I)Z"⟩ : MethodName) prog_352_method_2_code 4 (some .boolean) ({ frames := 0, cells := 0, slots := 0, locals := 0 } : Room) #[(.ref a1), (.ref a2), (.ref a3)] h0 (fun v h L => Fr n0 L ∧ Keep h0 h [a1] ∧ ((∃ k, k < n ∧ (∀ i, k < i → i < n → F1 i = F3 i) ∧ ¬ F1 k = F3 k ∧ v = some (.int 1) ∧ BA Z h a1 .int n (fun i => .int (own_up F1 F2 k i))) ∨ ((∀ i, i < n → F1 i = F3 i) ∧ v = some (.int 0) ∧ BA Z h a1 .int n (fun i => .int (F2 i))))) := by
  refine Does.body (plainFor_of_name pn_4) ?_
  intro p e s m below meth c T0 X0 hx hZ hby hml hown hnm hret hlk e0
  replace hown : s.vm.findClass "com/example/counterpath/counterpath/util/Combinations" = some m.cls := hown
  have N0 := Fr.nil n0
  refine Go.frame (ef_4 m a1 a2 a3) ?_
  have K0 : Keep h0 h0 [a1] := Keep.refl _ _
  show Go _ _ _ _ T0 (mkF m 0 #[.val (.ref a1), .val (.ref a2), .val (.ref a3), .unset] [])
  rcases hn with rfl | rfl | rfl | rfl
  ·
    show Go _ _ _ _ T0 (mkF m 0 #[.val (.ref a1), .val (.ref a2), .val (.ref a3), .unset] [])
    show Go _ _ _ _ T0 (mkF m 0 #[.val (.ref a1), .val (.ref a2), .val (.ref a3), .unset] [])
    refine Go.st (fun t k => XS.aloadN X0.here hx rfl (hb hby d4_0) rfl rfl k) ?_
    show Go _ _ _ _ T0 (mkF m 1 #[.val (.ref a1), .val (.ref a2), .val (.ref a3), .unset] [(.ref a1)])
    refine goLen X0 hx hZ e0 V_a1 (z := (0 : Int32)) rfl (g := (mkF m 1 #[.val (.ref a1), .val (.ref a2), .val (.ref a3), .unset] [(.ref a1)])) rfl rfl (hb hby d4_1) ?_
    show Go _ _ _ _ T0 (mkF m 2 #[.val (.ref a1), .val (.ref a2), .val (.ref a3), .unset] [(.int (0 : Int32))])
    refine Go.st (fun t k => XS.iconst X0.here hx rfl (hb hby d4_2) k) ?_
    show Go _ _ _ _ T0 (mkF m 3 #[.val (.ref a1), .val (.ref a2), .val (.ref a3), .unset] [(.int (1 : Int32)), (.int (0 : Int32))])
    refine Go.st (fun t k => XS.isub X0.here hx rfl (hb hby d4_3) rfl k) ?_
    show Go _ _ _ _ T0 (mkF m 4 #[.val (.ref a1), .val (.ref a2), .val (.ref a3), .unset] [(.int ((0 : Int32) - (1 : Int32)))])
    -- the place
    show Go _ _ _ _ T0 (mkF m 4 #[.val (.ref a1), .val (.ref a2), .val (.ref a3), .unset] [(.int (-1 : Int32))])
    refine Go.st (fun t k => XS.istoreN X0.here hx rfl (hb hby d4_4) rfl (l' := #[.val (.ref a1), .val (.ref a2), .val (.ref a3), .val (.int (-1 : Int32))]) rfl k) ?_
    show Go _ _ _ _ T0 (mkF m 5 #[.val (.ref a1), .val (.ref a2), .val (.ref a3), .val (.int (-1 : Int32))] [])
    refine Go.st (fun t k => XS.iloadN X0.here hx rfl (hb hby d4_5) rfl k) ?_
    show Go _ _ _ _ T0 (mkF m 6 #[.val (.ref a1), .val (.ref a2), .val (.ref a3), .val (.int (-1 : Int32))] [(.int (-1 : Int32))])
    refine Go.st (fun t k => XS.ifYes X0.here hx rfl (pc0 := 6) (pc' := 30) rfl (hb hby d4_6) rfl (by decide) (by decide) (by decide) k) ?_
    show Go _ _ _ _ T0 (mkF m 30 #[.val (.ref a1), .val (.ref a2), .val (.ref a3), .val (.int (-1 : Int32))] [])
    refine Go.st (fun t k => XS.iloadN X0.here hx rfl (hb hby d4_30) rfl k) ?_
    show Go _ _ _ _ T0 (mkF m 31 #[.val (.ref a1), .val (.ref a2), .val (.ref a3), .val (.int (-1 : Int32))] [(.int (-1 : Int32))])
    refine Go.st (fun t k => XS.ifNo X0.here hx rfl (hb hby d4_31) rfl (by decide) k) ?_
    show Go _ _ _ _ T0 (mkF m 34 #[.val (.ref a1), .val (.ref a2), .val (.ref a3), .val (.int (-1 : Int32))] [])
    refine Go.st (fun t k => XS.iconst X0.here hx rfl (hb hby d4_34) k) ?_
    show Go _ _ _ _ T0 (mkF m 35 #[.val (.ref a1), .val (.ref a2), .val (.ref a3), .val (.int (-1 : Int32))] [(.int (0 : Int32))])
    exact goN X0 hx hret hlk (by simp) (hb hby d4_35) (by decide) (by decide) (by rw [e0]; exact ⟨N0, K0, Or.inr ⟨fun i hi => absurd hi (Nat.not_lt_zero i), rfl, V_a1.to (fun i hi => absurd hi (Nat.not_lt_zero i))⟩⟩)
  ·
    show Go _ _ _ _ T0 (mkF m 0 #[.val (.ref a1), .val (.ref a2), .val (.ref a3), .unset] [])
    show Go _ _ _ _ T0 (mkF m 0 #[.val (.ref a1), .val (.ref a2), .val (.ref a3), .unset] [])
    refine Go.st (fun t k => XS.aloadN X0.here hx rfl (hb hby d4_0) rfl rfl k) ?_
    show Go _ _ _ _ T0 (mkF m 1 #[.val (.ref a1), .val (.ref a2), .val (.ref a3), .unset] [(.ref a1)])
    refine goLen X0 hx hZ e0 V_a1 (z := (1 : Int32)) rfl (g := (mkF m 1 #[.val (.ref a1), .val (.ref a2), .val (.ref a3), .unset] [(.ref a1)])) rfl rfl (hb hby d4_1) ?_
    show Go _ _ _ _ T0 (mkF m 2 #[.val (.ref a1), .val (.ref a2), .val (.ref a3), .unset] [(.int (1 : Int32))])
    refine Go.st (fun t k => XS.iconst X0.here hx rfl (hb hby d4_2) k) ?_
    show Go _ _ _ _ T0 (mkF m 3 #[.val (.ref a1), .val (.ref a2), .val (.ref a3), .unset] [(.int (1 : Int32)), (.int (1 : Int32))])
    refine Go.st (fun t k => XS.isub X0.here hx rfl (hb hby d4_3) rfl k) ?_
    show Go _ _ _ _ T0 (mkF m 4 #[.val (.ref a1), .val (.ref a2), .val (.ref a3), .unset] [(.int ((1 : Int32) - (1 : Int32)))])
    -- the place
    show Go _ _ _ _ T0 (mkF m 4 #[.val (.ref a1), .val (.ref a2), .val (.ref a3), .unset] [(.int (0 : Int32))])
    refine Go.st (fun t k => XS.istoreN X0.here hx rfl (hb hby d4_4) rfl (l' := #[.val (.ref a1), .val (.ref a2), .val (.ref a3), .val (.int (0 : Int32))]) rfl k) ?_
    show Go _ _ _ _ T0 (mkF m 5 #[.val (.ref a1), .val (.ref a2), .val (.ref a3), .val (.int (0 : Int32))] [])
    refine Go.st (fun t k => XS.iloadN X0.here hx rfl (hb hby d4_5) rfl k) ?_
    show Go _ _ _ _ T0 (mkF m 6 #[.val (.ref a1), .val (.ref a2), .val (.ref a3), .val (.int (0 : Int32))] [(.int (0 : Int32))])
    refine Go.st (fun t k => XS.ifNo X0.here hx rfl (hb hby d4_6) rfl (by decide) k) ?_
    show Go _ _ _ _ T0 (mkF m 9 #[.val (.ref a1), .val (.ref a2), .val (.ref a3), .val (.int (0 : Int32))] [])
    refine Go.st (fun t k => XS.aloadN X0.here hx rfl (hb hby d4_9) rfl rfl k) ?_
    show Go _ _ _ _ T0 (mkF m 10 #[.val (.ref a1), .val (.ref a2), .val (.ref a3), .val (.int (0 : Int32))] [(.ref a1)])
    refine Go.st (fun t k => XS.iloadN X0.here hx rfl (hb hby d4_10) rfl k) ?_
    show Go _ _ _ _ T0 (mkF m 11 #[.val (.ref a1), .val (.ref a2), .val (.ref a3), .val (.int (0 : Int32))] [(.int (0 : Int32)), (.ref a1)])
    refine goLdI X0 hx hZ e0 V_a1 (v := (.int (F1 0))) (g := (mkF m 11 #[.val (.ref a1), .val (.ref a2), .val (.ref a3), .val (.int (0 : Int32))] [(.int (0 : Int32)), (.ref a1)])) rfl rfl (hb hby d4_11) (k := 0) ⟨by decide, rfl, by decide⟩ rfl ?_
    show Go _ _ _ _ T0 (mkF m 12 #[.val (.ref a1), .val (.ref a2), .val (.ref a3), .val (.int (0 : Int32))] [(.int (F1 0))])
    refine Go.st (fun t k => XS.aloadN X0.here hx rfl (hb hby d4_12) rfl rfl k) ?_
    show Go _ _ _ _ T0 (mkF m 13 #[.val (.ref a1), .val (.ref a2), .val (.ref a3), .val (.int (0 : Int32))] [(.ref a3), (.int (F1 0))])
    refine Go.st (fun t k => XS.iloadN X0.here hx rfl (hb hby d4_13) rfl k) ?_
    show Go _ _ _ _ T0 (mkF m 14 #[.val (.ref a1), .val (.ref a2), .val (.ref a3), .val (.int (0 : Int32))] [(.int (0 : Int32)), (.ref a3), (.int (F1 0))])
    refine goLdI X0 hx hZ e0 V_a3 (v := (.int (F3 0))) (g := (mkF m 14 #[.val (.ref a1), .val (.ref a2), .val (.ref a3), .val (.int (0 : Int32))] [(.int (0 : Int32)), (.ref a3), (.int (F1 0))])) rfl rfl (hb hby d4_14) (k := 0) ⟨by decide, rfl, by decide⟩ rfl ?_
    show Go _ _ _ _ T0 (mkF m 15 #[.val (.ref a1), .val (.ref a2), .val (.ref a3), .val (.int (0 : Int32))] [(.int (F3 0)), (.int (F1 0))])
    by_cases hs0 : (F1 0) = (F3 0)
    ·
      refine Go.st (fun t k => XS.icmpNo X0.here hx rfl (hb hby d4_15) rfl (teq hs0).2 k) ?_
      show Go _ _ _ _ T0 (mkF m 18 #[.val (.ref a1), .val (.ref a2), .val (.ref a3), .val (.int (0 : Int32))] [])
      refine Go.st (fun t k => XS.aloadN X0.here hx rfl (hb hby d4_18) rfl rfl k) ?_
      show Go _ _ _ _ T0 (mkF m 19 #[.val (.ref a1), .val (.ref a2), .val (.ref a3), .val (.int (0 : Int32))] [(.ref a1)])
      refine Go.st (fun t k => XS.iloadN X0.here hx rfl (hb hby d4_19) rfl k) ?_
      show Go _ _ _ _ T0 (mkF m 20 #[.val (.ref a1), .val (.ref a2), .val (.ref a3), .val (.int (0 : Int32))] [(.int (0 : Int32)), (.ref a1)])
      refine Go.st (fun t k => XS.aloadN X0.here hx rfl (hb hby d4_20) rfl rfl k) ?_
      show Go _ _ _ _ T0 (mkF m 21 #[.val (.ref a1), .val (.ref a2), .val (.ref a3), .val (.int (0 : Int32))] [(.ref a2), (.int (0 : Int32)), (.ref a1)])
      refine Go.st (fun t k => XS.iloadN X0.here hx rfl (hb hby d4_21) rfl k) ?_
      show Go _ _ _ _ T0 (mkF m 22 #[.val (.ref a1), .val (.ref a2), .val (.ref a3), .val (.int (0 : Int32))] [(.int (0 : Int32)), (.ref a2), (.int (0 : Int32)), (.ref a1)])
      refine goLdI X0 hx hZ e0 V_a2 (v := (.int (F2 0))) (g := (mkF m 22 #[.val (.ref a1), .val (.ref a2), .val (.ref a3), .val (.int (0 : Int32))] [(.int (0 : Int32)), (.ref a2), (.int (0 : Int32)), (.ref a1)])) rfl rfl (hb hby d4_22) (k := 0) ⟨by decide, rfl, by decide⟩ rfl ?_
      show Go _ _ _ _ T0 (mkF m 23 #[.val (.ref a1), .val (.ref a2), .val (.ref a3), .val (.int (0 : Int32))] [(.int (F2 0)), (.int (0 : Int32)), (.ref a1)])
      refine goStI X0 hx hZ e0 N0 V_a1 g_a1 (g := (mkF m 23 #[.val (.ref a1), .val (.ref a2), .val (.ref a3), .val (.int (0 : Int32))] [(.int (F2 0)), (.int (0 : Int32)), (.ref a1)])) rfl rfl (hb hby d4_23) (k := 0) ⟨by decide, rfl, by decide⟩ ?_
      intro T2 h2 L2 X2 e2 N2 W2 V_a1
      have Z2 := own_sz W2 Z0
      have V_a2 := V_a2.other W2 (Ne.symm ne12)
      have V_a3 := V_a3.other W2 (Ne.symm ne13)
      have K0 := K0.wr W2 (Or.inl (List.mem_of_getElem? (i := 0) rfl))
      show Go _ _ _ _ T2 (mkF m 24 #[.val (.ref a1), .val (.ref a2), .val (.ref a3), .val (.int (0 : Int32))] [])
      refine Go.st (fun t k => XS.iinc X2.here hx rfl (hb hby d4_24) rfl (l' := #[.val (.ref a1), .val (.ref a2), .val (.ref a3), .val (.int (-1 : Int32))]) rfl k) ?_
      show Go _ _ _ _ T2 (mkF m 27 #[.val (.ref a1), .val (.ref a2), .val (.ref a3), .val (.int (-1 : Int32))] [])
      refine Go.st (fun t k => XS.goto X2.here hx rfl (pc0 := 27) (pc' := 5) rfl (hb hby d4_27) (by decide) (by decide) k) ?_
      show Go _ _ _ _ T2 (mkF m 5 #[.val (.ref a1), .val (.ref a2), .val (.ref a3), .val (.int (-1 : Int32))] [])
      refine Go.st (fun t k => XS.iloadN X2.here hx rfl (hb hby d4_5) rfl k) ?_
      show Go _ _ _ _ T2 (mkF m 6 #[.val (.ref a1), .val (.ref a2), .val (.ref a3), .val (.int (-1 : Int32))] [(.int (-1 : Int32))])
      refine Go.st (fun t k => XS.ifYes X2.here hx rfl (pc0 := 6) (pc' := 30) rfl (hb hby d4_6) rfl (by decide) (by decide) (by decide) k) ?_
      show Go _ _ _ _ T2 (mkF m 30 #[.val (.ref a1), .val (.ref a2), .val (.ref a3), .val (.int (-1 : Int32))] [])
      refine Go.st (fun t k => XS.iloadN X2.here hx rfl (hb hby d4_30) rfl k) ?_
      show Go _ _ _ _ T2 (mkF m 31 #[.val (.ref a1), .val (.ref a2), .val (.ref a3), .val (.int (-1 : Int32))] [(.int (-1 : Int32))])
      refine Go.st (fun t k => XS.ifNo X2.here hx rfl (hb hby d4_31) rfl (by decide) k) ?_
      show Go _ _ _ _ T2 (mkF m 34 #[.val (.ref a1), .val (.ref a2), .val (.ref a3), .val (.int (-1 : Int32))] [])
      refine Go.st (fun t k => XS.iconst X2.here hx rfl (hb hby d4_34) k) ?_
      show Go _ _ _ _ T2 (mkF m 35 #[.val (.ref a1), .val (.ref a2), .val (.ref a3), .val (.int (-1 : Int32))] [(.int (0 : Int32))])
      exact goN X2 hx hret hlk (by simp) (hb hby d4_35) (by decide) (by decide) (by rw [e2]; exact ⟨N2, K0, Or.inr ⟨fun i hi => by rcases own_lt1 hi with rfl <;> assumption, rfl, V_a1.to (fun i hi => by rcases own_lt1 hi with rfl <;> rfl)⟩⟩)
    ·
      refine Go.st (fun t k => XS.icmpYes X0.here hx rfl (pc0 := 15) (pc' := 30) rfl (hb hby d4_15) rfl (feq hs0).2 (by decide) (by decide) k) ?_
      show Go _ _ _ _ T0 (mkF m 30 #[.val (.ref a1), .val (.ref a2), .val (.ref a3), .val (.int (0 : Int32))] [])
      refine Go.st (fun t k => XS.iloadN X0.here hx rfl (hb hby d4_30) rfl k) ?_
      show Go _ _ _ _ T0 (mkF m 31 #[.val (.ref a1), .val (.ref a2), .val (.ref a3), .val (.int (0 : Int32))] [(.int (0 : Int32))])
      refine Go.st (fun t k => XS.ifYes X0.here hx rfl (pc0 := 31) (pc' := 36) rfl (hb hby d4_31) rfl (by decide) (by decide) (by decide) k) ?_
      show Go _ _ _ _ T0 (mkF m 36 #[.val (.ref a1), .val (.ref a2), .val (.ref a3), .val (.int (0 : Int32))] [])
      refine Go.st (fun t k => XS.aloadN X0.here hx rfl (hb hby d4_36) rfl rfl k) ?_
      show Go _ _ _ _ T0 (mkF m 37 #[.val (.ref a1), .val (.ref a2), .val (.ref a3), .val (.int (0 : Int32))] [(.ref a1)])
      refine Go.st (fun t k => XS.iloadN X0.here hx rfl (hb hby d4_37) rfl k) ?_
      show Go _ _ _ _ T0 (mkF m 38 #[.val (.ref a1), .val (.ref a2), .val (.ref a3), .val (.int (0 : Int32))] [(.int (0 : Int32)), (.ref a1)])
      refine Go.st (fun t k => Jvm.Free.XT.dup2 X0.here hx rfl (hb hby d4_38) rfl rfl rfl k) ?_
      show Go _ _ _ _ T0 (mkF m 39 #[.val (.ref a1), .val (.ref a2), .val (.ref a3), .val (.int (0 : Int32))] [(.int (0 : Int32)), (.ref a1), (.int (0 : Int32)), (.ref a1)])
      refine goLdI X0 hx hZ e0 V_a1 (v := (.int (F1 0))) (g := (mkF m 39 #[.val (.ref a1), .val (.ref a2), .val (.ref a3), .val (.int (0 : Int32))] [(.int (0 : Int32)), (.ref a1), (.int (0 : Int32)), (.ref a1)])) rfl rfl (hb hby d4_39) (k := 0) ⟨by decide, rfl, by decide⟩ rfl ?_
      show Go _ _ _ _ T0 (mkF m 40 #[.val (.ref a1), .val (.ref a2), .val (.ref a3), .val (.int (0 : Int32))] [(.int (F1 0)), (.int (0 : Int32)), (.ref a1)])
      refine Go.st (fun t k => XS.iconst X0.here hx rfl (hb hby d4_40) k) ?_
      show Go _ _ _ _ T0 (mkF m 41 #[.val (.ref a1), .val (.ref a2), .val (.ref a3), .val (.int (0 : Int32))] [(.int (1 : Int32)), (.int (F1 0)), (.int (0 : Int32)), (.ref a1)])
      refine Go.st (fun t k => XS.iadd X0.here hx rfl (hb hby d4_41) rfl k) ?_
      show Go _ _ _ _ T0 (mkF m 42 #[.val (.ref a1), .val (.ref a2), .val (.ref a3), .val (.int (0 : Int32))] [(.int ((F1 0) + (1 : Int32))), (.int (0 : Int32)), (.ref a1)])
      refine goStI X0 hx hZ e0 N0 V_a1 g_a1 (g := (mkF m 42 #[.val (.ref a1), .val (.ref a2), .val (.ref a3), .val (.int (0 : Int32))] [(.int ((F1 0) + (1 : Int32))), (.int (0 : Int32)), (.ref a1)])) rfl rfl (hb hby d4_42) (k := 0) ⟨by decide, rfl, by decide⟩ ?_
      intro T3 h3 L3 X3 e3 N3 W3 V_a1
      have Z3 := own_sz W3 Z0
      have V_a2 := V_a2.other W3 (Ne.symm ne12)
      have V_a3 := V_a3.other W3 (Ne.symm ne13)
      have K0 := K0.wr W3 (Or.inl (List.mem_of_getElem? (i := 0) rfl))
      show Go _ _ _ _ T3 (mkF m 43 #[.val (.ref a1), .val (.ref a2), .val (.ref a3), .val (.int (0 : Int32))] [])
      refine Go.st (fun t k => XS.iconst X3.here hx rfl (hb hby d4_43) k) ?_
      show Go _ _ _ _ T3 (mkF m 44 #[.val (.ref a1), .val (.ref a2), .val (.ref a3), .val (.int (0 : Int32))] [(.int (1 : Int32))])
      exact goN X3 hx hret hlk (by simp) (hb hby d4_44) (by decide) (by decide) (by rw [e3]; exact ⟨N3, K0, Or.inl ⟨0, by decide, fun i h1 h2 => absurd h2 (by omega), hs0, rfl, V_a1.to (fun i hi => by rcases own_lt1 hi with rfl <;> rfl)⟩⟩)
  ·
    show Go _ _ _ _ T0 (mkF m 0 #[.val (.ref a1), .val (.ref a2), .val (.ref a3), .unset] [])
    show Go _ _ _ _ T0 (mkF m 0 #[.val (.ref a1), .val (.ref a2), .val (.ref a3), .unset] [])
    refine Go.st (fun t k => XS.aloadN X0.here hx rfl (hb hby d4_0) rfl rfl k) ?_
    show Go _ _ _ _ T0 (mkF m 1 #[.val (.ref a1), .val (.ref a2), .val (.ref a3), .unset] [(.ref a1)])
    refine goLen X0 hx hZ e0 V_a1 (z := (2 : Int32)) rfl (g := (mkF m 1 #[.val (.ref a1), .val (.ref a2), .val (.ref a3), .unset] [(.ref a1)])) rfl rfl (hb hby d4_1) ?_
    show Go _ _ _ _ T0 (mkF m 2 #[.val (.ref a1), .val (.ref a2), .val (.ref a3), .unset] [(.int (2 : Int32))])
    refine Go.st (fun t k => XS.iconst X0.here hx rfl (hb hby d4_2) k) ?_
    show Go _ _ _ _ T0 (mkF m 3 #[.val (.ref a1), .val (.ref a2), .val (.ref a3), .unset] [(.int (1 : Int32)), (.int (2 : Int32))])
    refine Go.st (fun t k => XS.isub X0.here hx rfl (hb hby d4_3) rfl k) ?_
    show Go _ _ _ _ T0 (mkF m 4 #[.val (.ref a1), .val (.ref a2), .val (.ref a3), .unset] [(.int ((2 : Int32) - (1 : Int32)))])
    -- the place
    show Go _ _ _ _ T0 (mkF m 4 #[.val (.ref a1), .val (.ref a2), .val (.ref a3), .unset] [(.int (1 : Int32))])
    refine Go.st (fun t k => XS.istoreN X0.here hx rfl (hb hby d4_4) rfl (l' := #[.val (.ref a1), .val (.ref a2), .val (.ref a3), .val (.int (1 : Int32))]) rfl k) ?_
    show Go _ _ _ _ T0 (mkF m 5 #[.val (.ref a1), .val (.ref a2), .val (.ref a3), .val (.int (1 : Int32))] [])
    refine Go.st (fun t k => XS.iloadN X0.here hx rfl (hb hby d4_5) rfl k) ?_
    show Go _ _ _ _ T0 (mkF m 6 #[.val (.ref a1), .val (.ref a2), .val (.ref a3), .val (.int (1 : Int32))] [(.int (1 : Int32))])
    refine Go.st (fun t k => XS.ifNo X0.here hx rfl (hb hby d4_6) rfl (by decide) k) ?_
    show Go _ _ _ _ T0 (mkF m 9 #[.val (.ref a1), .val (.ref a2), .val (.ref a3), .val (.int (1 : Int32))] [])
    refine Go.st (fun t k => XS.aloadN X0.here hx rfl (hb hby d4_9) rfl rfl k) ?_
    show Go _ _ _ _ T0 (mkF m 10 #[.val (.ref a1), .val (.ref a2), .val (.ref a3), .val (.int (1 : Int32))] [(.ref a1)])
    refine Go.st (fun t k => XS.iloadN X0.here hx rfl (hb hby d4_10) rfl k) ?_
    show Go _ _ _ _ T0 (mkF m 11 #[.val (.ref a1), .val (.ref a2), .val (.ref a3), .val (.int (1 : Int32))] [(.int (1 : Int32)), (.ref a1)])
    refine goLdI X0 hx hZ e0 V_a1 (v := (.int (F1 1))) (g := (mkF m 11 #[.val (.ref a1), .val (.ref a2), .val (.ref a3), .val (.int (1 : Int32))] [(.int (1 : Int32)), (.ref a1)])) rfl rfl (hb hby d4_11) (k := 1) ⟨by decide, rfl, by decide⟩ rfl ?_
    show Go _ _ _ _ T0 (mkF m 12 #[.val (.ref a1), .val (.ref a2), .val (.ref a3), .val (.int (1 : Int32))] [(.int (F1 1))])
    refine Go.st (fun t k => XS.aloadN X0.here hx rfl (hb hby d4_12) rfl rfl k) ?_
    show Go _ _ _ _ T0 (mkF m 13 #[.val (.ref a1), .val (.ref a2), .val (.ref a3), .val (.int (1 : Int32))] [(.ref a3), (.int (F1 1))])
    refine Go.st (fun t k => XS.iloadN X0.here hx rfl (hb hby d4_13) rfl k) ?_
    show Go _ _ _ _ T0 (mkF m 14 #[.val (.ref a1), .val (.ref a2), .val (.ref a3), .val (.int (1 : Int32))] [(.int (1 : Int32)), (.ref a3), (.int (F1 1))])
    refine goLdI X0 hx hZ e0 V_a3 (v := (.int (F3 1))) (g := (mkF m 14 #[.val (.ref a1), .val (.ref a2), .val (.ref a3), .val (.int (1 : Int32))] [(.int (1 : Int32)), (.ref a3), (.int (F1 1))])) rfl rfl (hb hby d4_14) (k := 1) ⟨by decide, rfl, by decide⟩ rfl ?_
    show Go _ _ _ _ T0 (mkF m 15 #[.val (.ref a1), .val (.ref a2), .val (.ref a3), .val (.int (1 : Int32))] [(.int (F3 1)), (.int (F1 1))])
    by_cases hs1 : (F1 1) = (F3 1)
    ·
      refine Go.st (fun t k => XS.icmpNo X0.here hx rfl (hb hby d4_15) rfl (teq hs1).2 k) ?_
      show Go _ _ _ _ T0 (mkF m 18 #[.val (.ref a1), .val (.ref a2), .val (.ref a3), .val (.int (1 : Int32))] [])
      refine Go.st (fun t k => XS.aloadN X0.here hx rfl (hb hby d4_18) rfl rfl k) ?_
      show Go _ _ _ _ T0 (mkF m 19 #[.val (.ref a1), .val (.ref a2), .val (.ref a3), .val (.int (1 : Int32))] [(.ref a1)])
      refine Go.st (fun t k => XS.iloadN X0.here hx rfl (hb hby d4_19) rfl k) ?_
      show Go _ _ _ _ T0 (mkF m 20 #[.val (.ref a1), .val (.ref a2), .val (.ref a3), .val (.int (1 : Int32))] [(.int (1 : Int32)), (.ref a1)])
      refine Go.st (fun t k => XS.aloadN X0.here hx rfl (hb hby d4_20) rfl rfl k) ?_
      show Go _ _ _ _ T0 (mkF m 21 #[.val (.ref a1), .val (.ref a2), .val (.ref a3), .val (.int (1 : Int32))] [(.ref a2), (.int (1 : Int32)), (.ref a1)])
      refine Go.st (fun t k => XS.iloadN X0.here hx rfl (hb hby d4_21) rfl k) ?_
      show Go _ _ _ _ T0 (mkF m 22 #[.val (.ref a1), .val (.ref a2), .val (.ref a3), .val (.int (1 : Int32))] [(.int (1 : Int32)), (.ref a2), (.int (1 : Int32)), (.ref a1)])
      refine goLdI X0 hx hZ e0 V_a2 (v := (.int (F2 1))) (g := (mkF m 22 #[.val (.ref a1), .val (.ref a2), .val (.ref a3), .val (.int (1 : Int32))] [(.int (1 : Int32)), (.ref a2), (.int (1 : Int32)), (.ref a1)])) rfl rfl (hb hby d4_22) (k := 1) ⟨by decide, rfl, by decide⟩ rfl ?_
      show Go _ _ _ _ T0 (mkF m 23 #[.val (.ref a1), .val (.ref a2), .val (.ref a3), .val (.int (1 : Int32))] [(.int (F2 1)), (.int (1 : Int32)), (.ref a1)])
      refine goStI X0 hx hZ e0 N0 V_a1 g_a1 (g := (mkF m 23 #[.val (.ref a1), .val (.ref a2), .val (.ref a3), .val (.int (1 : Int32))] [(.int (F2 1)), (.int (1 : Int32)), (.ref a1)])) rfl rfl (hb hby d4_23) (k := 1) ⟨by decide, rfl, by decide⟩ ?_
      intro T5 h5 L5 X5 e5 N5 W5 V_a1
      have Z5 := own_sz W5 Z0
      have V_a2 := V_a2.other W5 (Ne.symm ne12)
      have V_a3 := V_a3.other W5 (Ne.symm ne13)
      have K0 := K0.wr W5 (Or.inl (List.mem_of_getElem? (i := 0) rfl))
      show Go _ _ _ _ T5 (mkF m 24 #[.val (.ref a1), .val (.ref a2), .val (.ref a3), .val (.int (1 : Int32))] [])
      refine Go.st (fun t k => XS.iinc X5.here hx rfl (hb hby d4_24) rfl (l' := #[.val (.ref a1), .val (.ref a2), .val (.ref a3), .val (.int (0 : Int32))]) rfl k) ?_
      show Go _ _ _ _ T5 (mkF m 27 #[.val (.ref a1), .val (.ref a2), .val (.ref a3), .val (.int (0 : Int32))] [])
      refine Go.st (fun t k => XS.goto X5.here hx rfl (pc0 := 27) (pc' := 5) rfl (hb hby d4_27) (by decide) (by decide) k) ?_
      show Go _ _ _ _ T5 (mkF m 5 #[.val (.ref a1), .val (.ref a2), .val (.ref a3), .val (.int (0 : Int32))] [])
      refine Go.st (fun t k => XS.iloadN X5.here hx rfl (hb hby d4_5) rfl k) ?_
      show Go _ _ _ _ T5 (mkF m 6 #[.val (.ref a1), .val (.ref a2), .val (.ref a3), .val (.int (0 : Int32))] [(.int (0 : Int32))])
      refine Go.st (fun t k => XS.ifNo X5.here hx rfl (hb hby d4_6) rfl (by decide) k) ?_
      show Go _ _ _ _ T5 (mkF m 9 #[.val (.ref a1), .val (.ref a2), .val (.ref a3), .val (.int (0 : Int32))] [])
      refine Go.st (fun t k => XS.aloadN X5.here hx rfl (hb hby d4_9) rfl rfl k) ?_
      show Go _ _ _ _ T5 (mkF m 10 #[.val (.ref a1), .val (.ref a2), .val (.ref a3), .val (.int (0 : Int32))] [(.ref a1)])
      refine Go.st (fun t k => XS.iloadN X5.here hx rfl (hb hby d4_10) rfl k) ?_
      show Go _ _ _ _ T5 (mkF m 11 #[.val (.ref a1), .val (.ref a2), .val (.ref a3), .val (.int (0 : Int32))] [(.int (0 : Int32)), (.ref a1)])
      refine goLdI X5 hx hZ e5 V_a1 (v := (.int (F1 0))) (g := (mkF m 11 #[.val (.ref a1), .val (.ref a2), .val (.ref a3), .val (.int (0 : Int32))] [(.int (0 : Int32)), (.ref a1)])) rfl rfl (hb hby d4_11) (k := 0) ⟨by decide, rfl, by decide⟩ rfl ?_
      show Go _ _ _ _ T5 (mkF m 12 #[.val (.ref a1), .val (.ref a2), .val (.ref a3), .val (.int (0 : Int32))] [(.int (F1 0))])
      refine Go.st (fun t k => XS.aloadN X5.here hx rfl (hb hby d4_12) rfl rfl k) ?_
      show Go _ _ _ _ T5 (mkF m 13 #[.val (.ref a1), .val (.ref a2), .val (.ref a3), .val (.int (0 : Int32))] [(.ref a3), (.int (F1 0))])
      refine Go.st (fun t k => XS.iloadN X5.here hx rfl (hb hby d4_13) rfl k) ?_
      show Go _ _ _ _ T5 (mkF m 14 #[.val (.ref a1), .val (.ref a2), .val (.ref a3), .val (.int (0 : Int32))] [(.int (0 : Int32)), (.ref a3), (.int (F1 0))])
      refine goLdI X5 hx hZ e5 V_a3 (v := (.int (F3 0))) (g := (mkF m 14 #[.val (.ref a1), .val (.ref a2), .val (.ref a3), .val (.int (0 : Int32))] [(.int (0 : Int32)), (.ref a3), (.int (F1 0))])) rfl rfl (hb hby d4_14) (k := 0) ⟨by decide, rfl, by decide⟩ rfl ?_
      show Go _ _ _ _ T5 (mkF m 15 #[.val (.ref a1), .val (.ref a2), .val (.ref a3), .val (.int (0 : Int32))] [(.int (F3 0)), (.int (F1 0))])
      by_cases hs0 : (F1 0) = (F3 0)
      ·
        refine Go.st (fun t k => XS.icmpNo X5.here hx rfl (hb hby d4_15) rfl (teq hs0).2 k) ?_
        show Go _ _ _ _ T5 (mkF m 18 #[.val (.ref a1), .val (.ref a2), .val (.ref a3), .val (.int (0 : Int32))] [])
        refine Go.st (fun t k => XS.aloadN X5.here hx rfl (hb hby d4_18) rfl rfl k) ?_
        show Go _ _ _ _ T5 (mkF m 19 #[.val (.ref a1), .val (.ref a2), .val (.ref a3), .val (.int (0 : Int32))] [(.ref a1)])
        refine Go.st (fun t k => XS.iloadN X5.here hx rfl (hb hby d4_19) rfl k) ?_
        show Go _ _ _ _ T5 (mkF m 20 #[.val (.ref a1), .val (.ref a2), .val (.ref a3), .val (.int (0 : Int32))] [(.int (0 : Int32)), (.ref a1)])
        refine Go.st (fun t k => XS.aloadN X5.here hx rfl (hb hby d4_20) rfl rfl k) ?_
        show Go _ _ _ _ T5 (mkF m 21 #[.val (.ref a1), .val (.ref a2), .val (.ref a3), .val (.int (0 : Int32))] [(.ref a2), (.int (0 : Int32)), (.ref a1)])
        refine Go.st (fun t k => XS.iloadN X5.here hx rfl (hb hby d4_21) rfl k) ?_
        show Go _ _ _ _ T5 (mkF m 22 #[.val (.ref a1), .val (.ref a2), .val (.ref a3), .val (.int (0 : Int32))] [(.int (0 : Int32)), (.ref a2), (.int (0 : Int32)), (.ref a1)])
        refine goLdI X5 hx hZ e5 V_a2 (v := (.int (F2 0))) (g := (mkF m 22 #[.val (.ref a1), .val (.ref a2), .val (.ref a3), .val (.int (0 : Int32))] [(.int (0 : Int32)), (.ref a2), (.int (0 : Int32)), (.ref a1)])) rfl rfl (hb hby d4_22) (k := 0) ⟨by decide, rfl, by decide⟩ rfl ?_
        show Go _ _ _ _ T5 (mkF m 23 #[.val (.ref a1), .val (.ref a2), .val (.ref a3), .val (.int (0 : Int32))] [(.int (F2 0)), (.int (0 : Int32)), (.ref a1)])
        refine goStI X5 hx hZ e5 N5 V_a1 g_a1 (g := (mkF m 23 #[.val (.ref a1), .val (.ref a2), .val (.ref a3), .val (.int (0 : Int32))] [(.int (F2 0)), (.int (0 : Int32)), (.ref a1)])) rfl rfl (hb hby d4_23) (k := 0) ⟨by decide, rfl, by decide⟩ ?_
        intro T7 h7 L7 X7 e7 N7 W7 V_a1
        have Z7 := own_sz W7 Z5
        have V_a2 := V_a2.other W7 (Ne.symm ne12)
        have V_a3 := V_a3.other W7 (Ne.symm ne13)
        have K0 := K0.wr W7 (Or.inl (List.mem_of_getElem? (i := 0) rfl))
        show Go _ _ _ _ T7 (mkF m 24 #[.val (.ref a1), .val (.ref a2), .val (.ref a3), .val (.int (0 : Int32))] [])
        refine Go.st (fun t k => XS.iinc X7.here hx rfl (hb hby d4_24) rfl (l' := #[.val (.ref a1), .val (.ref a2), .val (.ref a3), .val (.int (-1 : Int32))]) rfl k) ?_
        show Go _ _ _ _ T7 (mkF m 27 #[.val (.ref a1), .val (.ref a2), .val (.ref a3), .val (.int (-1 : Int32))] [])
        refine Go.st (fun t k => XS.goto X7.here hx rfl (pc0 := 27) (pc' := 5) rfl (hb hby d4_27) (by decide) (by decide) k) ?_
        show Go _ _ _ _ T7 (mkF m 5 #[.val (.ref a1), .val (.ref a2), .val (.ref a3), .val (.int (-1 : Int32))] [])
        refine Go.st (fun t k => XS.iloadN X7.here hx rfl (hb hby d4_5) rfl k) ?_
        show Go _ _ _ _ T7 (mkF m 6 #[.val (.ref a1), .val (.ref a2), .val (.ref a3), .val (.int (-1 : Int32))] [(.int (-1 : Int32))])
        refine Go.st (fun t k => XS.ifYes X7.here hx rfl (pc0 := 6) (pc' := 30) rfl (hb hby d4_6) rfl (by decide) (by decide) (by decide) k) ?_
        show Go _ _ _ _ T7 (mkF m 30 #[.val (.ref a1), .val (.ref a2), .val (.ref a3), .val (.int (-1 : Int32))] [])
        refine Go.st (fun t k => XS.iloadN X7.here hx rfl (hb hby d4_30) rfl k) ?_
        show Go _ _ _ _ T7 (mkF m 31 #[.val (.ref a1), .val (.ref a2), .val (.ref a3), .val (.int (-1 : Int32))] [(.int (-1 : Int32))])
        refine Go.st (fun t k => XS.ifNo X7.here hx rfl (hb hby d4_31) rfl (by decide) k) ?_
        show Go _ _ _ _ T7 (mkF m 34 #[.val (.ref a1), .val (.ref a2), .val (.ref a3), .val (.int (-1 : Int32))] [])
        refine Go.st (fun t k => XS.iconst X7.here hx rfl (hb hby d4_34) k) ?_
        show Go _ _ _ _ T7 (mkF m 35 #[.val (.ref a1), .val (.ref a2), .val (.ref a3), .val (.int (-1 : Int32))] [(.int (0 : Int32))])
        exact goN X7 hx hret hlk (by simp) (hb hby d4_35) (by decide) (by decide) (by rw [e7]; exact ⟨N7, K0, Or.inr ⟨fun i hi => by rcases own_lt2 hi with rfl | rfl <;> assumption, rfl, V_a1.to (fun i hi => by rcases own_lt2 hi with rfl | rfl <;> rfl)⟩⟩)
      ·
        refine Go.st (fun t k => XS.icmpYes X5.here hx rfl (pc0 := 15) (pc' := 30) rfl (hb hby d4_15) rfl (feq hs0).2 (by decide) (by decide) k) ?_
        show Go _ _ _ _ T5 (mkF m 30 #[.val (.ref a1), .val (.ref a2), .val (.ref a3), .val (.int (0 : Int32))] [])
        refine Go.st (fun t k => XS.iloadN X5.here hx rfl (hb hby d4_30) rfl k) ?_
        show Go _ _ _ _ T5 (mkF m 31 #[.val (.ref a1), .val (.ref a2), .val (.ref a3), .val (.int (0 : Int32))] [(.int (0 : Int32))])
        refine Go.st (fun t k => XS.ifYes X5.here hx rfl (pc0 := 31) (pc' := 36) rfl (hb hby d4_31) rfl (by decide) (by decide) (by decide) k) ?_
        show Go _ _ _ _ T5 (mkF m 36 #[.val (.ref a1), .val (.ref a2), .val (.ref a3), .val (.int (0 : Int32))] [])
        refine Go.st (fun t k => XS.aloadN X5.here hx rfl (hb hby d4_36) rfl rfl k) ?_
        show Go _ _ _ _ T5 (mkF m 37 #[.val (.ref a1), .val (.ref a2), .val (.ref a3), .val (.int (0 : Int32))] [(.ref a1)])
        refine Go.st (fun t k => XS.iloadN X5.here hx rfl (hb hby d4_37) rfl k) ?_
        show Go _ _ _ _ T5 (mkF m 38 #[.val (.ref a1), .val (.ref a2), .val (.ref a3), .val (.int (0 : Int32))] [(.int (0 : Int32)), (.ref a1)])
        refine Go.st (fun t k => Jvm.Free.XT.dup2 X5.here hx rfl (hb hby d4_38) rfl rfl rfl k) ?_
        show Go _ _ _ _ T5 (mkF m 39 #[.val (.ref a1), .val (.ref a2), .val (.ref a3), .val (.int (0 : Int32))] [(.int (0 : Int32)), (.ref a1), (.int (0 : Int32)), (.ref a1)])
        refine goLdI X5 hx hZ e5 V_a1 (v := (.int (F1 0))) (g := (mkF m 39 #[.val (.ref a1), .val (.ref a2), .val (.ref a3), .val (.int (0 : Int32))] [(.int (0 : Int32)), (.ref a1), (.int (0 : Int32)), (.ref a1)])) rfl rfl (hb hby d4_39) (k := 0) ⟨by decide, rfl, by decide⟩ rfl ?_
        show Go _ _ _ _ T5 (mkF m 40 #[.val (.ref a1), .val (.ref a2), .val (.ref a3), .val (.int (0 : Int32))] [(.int (F1 0)), (.int (0 : Int32)), (.ref a1)])
        refine Go.st (fun t k => XS.iconst X5.here hx rfl (hb hby d4_40) k) ?_
        show Go _ _ _ _ T5 (mkF m 41 #[.val (.ref a1), .val (.ref a2), .val (.ref a3), .val (.int (0 : Int32))] [(.int (1 : Int32)), (.int (F1 0)), (.int (0 : Int32)), (.ref a1)])
        refine Go.st (fun t k => XS.iadd X5.here hx rfl (hb hby d4_41) rfl k) ?_
        show Go _ _ _ _ T5 (mkF m 42 #[.val (.ref a1), .val (.ref a2), .val (.ref a3), .val (.int (0 : Int32))] [(.int ((F1 0) + (1 : Int32))), (.int (0 : Int32)), (.ref a1)])
        refine goStI X5 hx hZ e5 N5 V_a1 g_a1 (g := (mkF m 42 #[.val (.ref a1), .val (.ref a2), .val (.ref a3), .val (.int (0 : Int32))] [(.int ((F1 0) + (1 : Int32))), (.int (0 : Int32)), (.ref a1)])) rfl rfl (hb hby d4_42) (k := 0) ⟨by decide, rfl, by decide⟩ ?_
        intro T8 h8 L8 X8 e8 N8 W8 V_a1
        have Z8 := own_sz W8 Z5
        have V_a2 := V_a2.other W8 (Ne.symm ne12)
        have V_a3 := V_a3.other W8 (Ne.symm ne13)
        have K0 := K0.wr W8 (Or.inl (List.mem_of_getElem? (i := 0) rfl))
        show Go _ _ _ _ T8 (mkF m 43 #[.val (.ref a1), .val (.ref a2), .val (.ref a3), .val (.int (0 : Int32))] [])
        refine Go.st (fun t k => XS.iconst X8.here hx rfl (hb hby d4_43) k) ?_
        show Go _ _ _ _ T8 (mkF m 44 #[.val (.ref a1), .val (.ref a2), .val (.ref a3), .val (.int (0 : Int32))] [(.int (1 : Int32))])
        exact goN X8 hx hret hlk (by simp) (hb hby d4_44) (by decide) (by decide) (by rw [e8]; exact ⟨N8, K0, Or.inl ⟨0, by decide, fun i h1 h2 => by rcases own_lt2 h2 with rfl | rfl <;> first | assumption | (exact absurd h1 (by decide)), hs0, rfl, V_a1.to (fun i hi => by rcases own_lt2 hi with rfl | rfl <;> rfl)⟩⟩)
    ·
      refine Go.st (fun t k => XS.icmpYes X0.here hx rfl (pc0 := 15) (pc' := 30) rfl (hb hby d4_15) rfl (feq hs1).2 (by decide) (by decide) k) ?_
      show Go _ _ _ _ T0 (mkF m 30 #[.val (.ref a1), .val (.ref a2), .val (.ref a3), .val (.int (1 : Int32))] [])
      refine Go.st (fun t k => XS.iloadN X0.here hx rfl (hb hby d4_30) rfl k) ?_
      show Go _ _ _ _ T0 (mkF m 31 #[.val (.ref a1), .val (.ref a2), .val (.ref a3), .val (.int (1 : Int32))] [(.int (1 : Int32))])
      refine Go.st (fun t k => XS.ifYes X0.here hx rfl (pc0 := 31) (pc' := 36) rfl (hb hby d4_31) rfl (by decide) (by decide) (by decide) k) ?_
      show Go _ _ _ _ T0 (mkF m 36 #[.val (.ref a1), .val (.ref a2), .val (.ref a3), .val (.int (1 : Int32))] [])
      refine Go.st (fun t k => XS.aloadN X0.here hx rfl (hb hby d4_36) rfl rfl k) ?_
      show Go _ _ _ _ T0 (mkF m 37 #[.val (.ref a1), .val (.ref a2), .val (.ref a3), .val (.int (1 : Int32))] [(.ref a1)])
      refine Go.st (fun t k => XS.iloadN X0.here hx rfl (hb hby d4_37) rfl k) ?_
      show Go _ _ _ _ T0 (mkF m 38 #[.val (.ref a1), .val (.ref a2), .val (.ref a3), .val (.int (1 : Int32))] [(.int (1 : Int32)), (.ref a1)])
      refine Go.st (fun t k => Jvm.Free.XT.dup2 X0.here hx rfl (hb hby d4_38) rfl rfl rfl k) ?_
      show Go _ _ _ _ T0 (mkF m 39 #[.val (.ref a1), .val (.ref a2), .val (.ref a3), .val (.int (1 : Int32))] [(.int (1 : Int32)), (.ref a1), (.int (1 : Int32)), (.ref a1)])
      refine goLdI X0 hx hZ e0 V_a1 (v := (.int (F1 1))) (g := (mkF m 39 #[.val (.ref a1), .val (.ref a2), .val (.ref a3), .val (.int (1 : Int32))] [(.int (1 : Int32)), (.ref a1), (.int (1 : Int32)), (.ref a1)])) rfl rfl (hb hby d4_39) (k := 1) ⟨by decide, rfl, by decide⟩ rfl ?_
      show Go _ _ _ _ T0 (mkF m 40 #[.val (.ref a1), .val (.ref a2), .val (.ref a3), .val (.int (1 : Int32))] [(.int (F1 1)), (.int (1 : Int32)), (.ref a1)])
      refine Go.st (fun t k => XS.iconst X0.here hx rfl (hb hby d4_40) k) ?_
      show Go _ _ _ _ T0 (mkF m 41 #[.val (.ref a1), .val (.ref a2), .val (.ref a3), .val (.int (1 : Int32))] [(.int (1 : Int32)), (.int (F1 1)), (.int (1 : Int32)), (.ref a1)])
      refine Go.st (fun t k => XS.iadd X0.here hx rfl (hb hby d4_41) rfl k) ?_
      show Go _ _ _ _ T0 (mkF m 42 #[.val (.ref a1), .val (.ref a2), .val (.ref a3), .val (.int (1 : Int32))] [(.int ((F1 1) + (1 : Int32))), (.int (1 : Int32)), (.ref a1)])
      refine goStI X0 hx hZ e0 N0 V_a1 g_a1 (g := (mkF m 42 #[.val (.ref a1), .val (.ref a2), .val (.ref a3), .val (.int (1 : Int32))] [(.int ((F1 1) + (1 : Int32))), (.int (1 : Int32)), (.ref a1)])) rfl rfl (hb hby d4_42) (k := 1) ⟨by decide, rfl, by decide⟩ ?_
      intro T9 h9 L9 X9 e9 N9 W9 V_a1
      have Z9 := own_sz W9 Z0
      have V_a2 := V_a2.other W9 (Ne.symm ne12)
      have V_a3 := V_a3.other W9 (Ne.symm ne13)
      have K0 := K0.wr W9 (Or.inl (List.mem_of_getElem? (i := 0) rfl))
      show Go _ _ _ _ T9 (mkF m 43 #[.val (.ref a1), .val (.ref a2), .val (.ref a3), .val (.int (1 : Int32))] [])
      refine Go.st (fun t k => XS.iconst X9.here hx rfl (hb hby d4_43) k) ?_
      show Go _ _ _ _ T9 (mkF m 44 #[.val (.ref a1), .val (.ref a2), .val (.ref a3), .val (.int (1 : Int32))] [(.int (1 : Int32))])
      exact goN X9 hx hret hlk (by simp) (hb hby d4_44) (by decide) (by decide) (by rw [e9]; exact ⟨N9, K0, Or.inl ⟨1, by decide, fun i h1 h2 => absurd h2 (by omega), hs1, rfl, V_a1.to (fun i hi => by rcases own_lt2 hi with rfl | rfl <;> rfl)⟩⟩)
  ·
    show Go _ _ _ _ T0 (mkF m 0 #[.val (.ref a1), .val (.ref a2), .val (.ref a3), .unset] [])
    show Go _ _ _ _ T0 (mkF m 0 #[.val (.ref a1), .val (.ref a2), .val (.ref a3), .unset] [])
    refine Go.st (fun t k => XS.aloadN X0.here hx rfl (hb hby d4_0) rfl rfl k) ?_
    show Go _ _ _ _ T0 (mkF m 1 #[.val (.ref a1), .val (.ref a2), .val (.ref a3), .unset] [(.ref a1)])
    refine goLen X0 hx hZ e0 V_a1 (z := (3 : Int32)) rfl (g := (mkF m 1 #[.val (.ref a1), .val (.ref a2), .val (.ref a3), .unset] [(.ref a1)])) rfl rfl (hb hby d4_1) ?_
    show Go _ _ _ _ T0 (mkF m 2 #[.val (.ref a1), .val (.ref a2), .val (.ref a3), .unset] [(.int (3 : Int32))])
    refine Go.st (fun t k => XS.iconst X0.here hx rfl (hb hby d4_2) k) ?_
    show Go _ _ _ _ T0 (mkF m 3 #[.val (.ref a1), .val (.ref a2), .val (.ref a3), .unset] [(.int (1 : Int32)), (.int (3 : Int32))])
    refine Go.st (fun t k => XS.isub X0.here hx rfl (hb hby d4_3) rfl k) ?_
    show Go _ _ _ _ T0 (mkF m 4 #[.val (.ref a1), .val (.ref a2), .val (.ref a3), .unset] [(.int ((3 : Int32) - (1 : Int32)))])
    -- the place
    show Go _ _ _ _ T0 (mkF m 4 #[.val (.ref a1), .val (.ref a2), .val (.ref a3), .unset] [(.int (2 : Int32))])
    refine Go.st (fun t k => XS.istoreN X0.here hx rfl (hb hby d4_4) rfl (l' := #[.val (.ref a1), .val (.ref a2), .val (.ref a3), .val (.int (2 : Int32))]) rfl k) ?_
    show Go _ _ _ _ T0 (mkF m 5 #[.val (.ref a1), .val (.ref a2), .val (.ref a3), .val (.int (2 : Int32))] [])
    refine Go.st (fun t k => XS.iloadN X0.here hx rfl (hb hby d4_5) rfl k) ?_
    show Go _ _ _ _ T0 (mkF m 6 #[.val (.ref a1), .val (.ref a2), .val (.ref a3), .val (.int (2 : Int32))] [(.int (2 : Int32))])
    refine Go.st (fun t k => XS.ifNo X0.here hx rfl (hb hby d4_6) rfl (by decide) k) ?_
    show Go _ _ _ _ T0 (mkF m 9 #[.val (.ref a1), .val (.ref a2), .val (.ref a3), .val (.int (2 : Int32))] [])
    refine Go.st (fun t k => XS.aloadN X0.here hx rfl (hb hby d4_9) rfl rfl k) ?_
    show Go _ _ _ _ T0 (mkF m 10 #[.val (.ref a1), .val (.ref a2), .val (.ref a3), .val (.int (2 : Int32))] [(.ref a1)])
    refine Go.st (fun t k => XS.iloadN X0.here hx rfl (hb hby d4_10) rfl k) ?_
    show Go _ _ _ _ T0 (mkF m 11 #[.val (.ref a1), .val (.ref a2), .val (.ref a3), .val (.int (2 : Int32))] [(.int (2 : Int32)), (.ref a1)])
    refine goLdI X0 hx hZ e0 V_a1 (v := (.int (F1 2))) (g := (mkF m 11 #[.val (.ref a1), .val (.ref a2), .val (.ref a3), .val (.int (2 : Int32))] [(.int (2 : Int32)), (.ref a1)])) rfl rfl (hb hby d4_11) (k := 2) ⟨by decide, rfl, by decide⟩ rfl ?_
    show Go _ _ _ _ T0 (mkF m 12 #[.val (.ref a1), .val (.ref a2), .val (.ref a3), .val (.int (2 : Int32))] [(.int (F1 2))])
    refine Go.st (fun t k => XS.aloadN X0.here hx rfl (hb hby d4_12) rfl rfl k) ?_
    show Go _ _ _ _ T0 (mkF m 13 #[.val (.ref a1), .val (.ref a2), .val (.ref a3), .val (.int (2 : Int32))] [(.ref a3), (.int (F1 2))])
    refine Go.st (fun t k => XS.iloadN X0.here hx rfl (hb hby d4_13) rfl k) ?_
    show Go _ _ _ _ T0 (mkF m 14 #[.val (.ref a1), .val (.ref a2), .val (.ref a3), .val (.int (2 : Int32))] [(.int (2 : Int32)), (.ref a3), (.int (F1 2))])
    refine goLdI X0 hx hZ e0 V_a3 (v := (.int (F3 2))) (g := (mkF m 14 #[.val (.ref a1), .val (.ref a2), .val (.ref a3), .val (.int (2 : Int32))] [(.int (2 : Int32)), (.ref a3), (.int (F1 2))])) rfl rfl (hb hby d4_14) (k := 2) ⟨by decide, rfl, by decide⟩ rfl ?_
    show Go _ _ _ _ T0 (mkF m 15 #[.val (.ref a1), .val (.ref a2), .val (.ref a3), .val (.int (2 : Int32))] [(.int (F3 2)), (.int (F1 2))])
    by_cases hs2 : (F1 2) = (F3 2)
    ·
      refine Go.st (fun t k => XS.icmpNo X0.here hx rfl (hb hby d4_15) rfl (teq hs2).2 k) ?_
      show Go _ _ _ _ T0 (mkF m 18 #[.val (.ref a1), .val (.ref a2), .val (.ref a3), .val (.int (2 : Int32))] [])
      refine Go.st (fun t k => XS.aloadN X0.here hx rfl (hb hby d4_18) rfl rfl k) ?_
      show Go _ _ _ _ T0 (mkF m 19 #[.val (.ref a1), .val (.ref a2), .val (.ref a3), .val (.int (2 : Int32))] [(.ref a1)])
      refine Go.st (fun t k => XS.iloadN X0.here hx rfl (hb hby d4_19) rfl k) ?_
      show Go _ _ _ _ T0 (mkF m 20 #[.val (.ref a1), .val (.ref a2), .val (.ref a3), .val (.int (2 : Int32))] [(.int (2 : Int32)), (.ref a1)])
      refine Go.st (fun t k => XS.aloadN X0.here hx rfl (hb hby d4_20) rfl rfl k) ?_
      show Go _ _ _ _ T0 (mkF m 21 #[.val (.ref a1), .val (.ref a2), .val (.ref a3), .val (.int (2 : Int32))] [(.ref a2), (.int (2 : Int32)), (.ref a1)])
      refine Go.st (fun t k => XS.iloadN X0.here hx rfl (hb hby d4_21) rfl k) ?_
      show Go _ _ _ _ T0 (mkF m 22 #[.val (.ref a1), .val (.ref a2), .val (.ref a3), .val (.int (2 : Int32))] [(.int (2 : Int32)), (.ref a2), (.int (2 : Int32)), (.ref a1)])
      refine goLdI X0 hx hZ e0 V_a2 (v := (.int (F2 2))) (g := (mkF m 22 #[.val (.ref a1), .val (.ref a2), .val (.ref a3), .val (.int (2 : Int32))] [(.int (2 : Int32)), (.ref a2), (.int (2 : Int32)), (.ref a1)])) rfl rfl (hb hby d4_22) (k := 2) ⟨by decide, rfl, by decide⟩ rfl ?_
      show Go _ _ _ _ T0 (mkF m 23 #[.val (.ref a1), .val (.ref a2), .val (.ref a3), .val (.int (2 : Int32))] [(.int (F2 2)), (.int (2 : Int32)), (.ref a1)])
      refine goStI X0 hx hZ e0 N0 V_a1 g_a1 (g := (mkF m 23 #[.val (.ref a1), .val (.ref a2), .val (.ref a3), .val (.int (2 : Int32))] [(.int (F2 2)), (.int (2 : Int32)), (.ref a1)])) rfl rfl (hb hby d4_23) (k := 2) ⟨by decide, rfl, by decide⟩ ?_
      intro T11 h11 L11 X11 e11 N11 W11 V_a1
      have Z11 := own_sz W11 Z0
      have V_a2 := V_a2.other W11 (Ne.symm ne12)
      have V_a3 := V_a3.other W11 (Ne.symm ne13)
      have K0 := K0.wr W11 (Or.inl (List.mem_of_getElem? (i := 0) rfl))
      show Go _ _ _ _ T11 (mkF m 24 #[.val (.ref a1), .val (.ref a2), .val (.ref a3), .val (.int (2 : Int32))] [])
      refine Go.st (fun t k => XS.iinc X11.here hx rfl (hb hby d4_24) rfl (l' := #[.val (.ref a1), .val (.ref a2), .val (.ref a3), .val (.int (1 : Int32))]) rfl k) ?_
      show Go _ _ _ _ T11 (mkF m 27 #[.val (.ref a1), .val (.ref a2), .val (.ref a3), .val (.int (1 : Int32))] [])
      refine Go.st (fun t k => XS.goto X11.here hx rfl (pc0 := 27) (pc' := 5) rfl (hb hby d4_27) (by decide) (by decide) k) ?_
      show Go _ _ _ _ T11 (mkF m 5 #[.val (.ref a1), .val (.ref a2), .val (.ref a3), .val (.int (1 : Int32))] [])
      refine Go.st (fun t k => XS.iloadN X11.here hx rfl (hb hby d4_5) rfl k) ?_
      show Go _ _ _ _ T11 (mkF m 6 #[.val (.ref a1), .val (.ref a2), .val (.ref a3), .val (.int (1 : Int32))] [(.int (1 : Int32))])
      refine Go.st (fun t k => XS.ifNo X11.here hx rfl (hb hby d4_6) rfl (by decide) k) ?_
      show Go _ _ _ _ T11 (mkF m 9 #[.val (.ref a1), .val (.ref a2), .val (.ref a3), .val (.int (1 : Int32))] [])
      refine Go.st (fun t k => XS.aloadN X11.here hx rfl (hb hby d4_9) rfl rfl k) ?_
      show Go _ _ _ _ T11 (mkF m 10 #[.val (.ref a1), .val (.ref a2), .val (.ref a3), .val (.int (1 : Int32))] [(.ref a1)])
      refine Go.st (fun t k => XS.iloadN X11.here hx rfl (hb hby d4_10) rfl k) ?_
      show Go _ _ _ _ T11 (mkF m 11 #[.val (.ref a1), .val (.ref a2), .val (.ref a3), .val (.int (1 : Int32))] [(.int (1 : Int32)), (.ref a1)])
      refine goLdI X11 hx hZ e11 V_a1 (v := (.int (F1 1))) (g := (mkF m 11 #[.val (.ref a1), .val (.ref a2), .val (.ref a3), .val (.int (1 : Int32))] [(.int (1 : Int32)), (.ref a1)])) rfl rfl (hb hby d4_11) (k := 1) ⟨by decide, rfl, by decide⟩ rfl ?_
      show Go _ _ _ _ T11 (mkF m 12 #[.val (.ref a1), .val (.ref a2), .val (.ref a3), .val (.int (1 : Int32))] [(.int (F1 1))])
      refine Go.st (fun t k => XS.aloadN X11.here hx rfl (hb hby d4_12) rfl rfl k) ?_
      show Go _ _ _ _ T11 (mkF m 13 #[.val (.ref a1), .val (.ref a2), .val (.ref a3), .val (.int (1 : Int32))] [(.ref a3), (.int (F1 1))])
      refine Go.st (fun t k => XS.iloadN X11.here hx rfl (hb hby d4_13) rfl k) ?_
      show Go _ _ _ _ T11 (mkF m 14 #[.val (.ref a1), .val (.ref a2), .val (.ref a3), .val (.int (1 : Int32))] [(.int (1 : Int32)), (.ref a3), (.int (F1 1))])
      refine goLdI X11 hx hZ e11 V_a3 (v := (.int (F3 1))) (g := (mkF m 14 #[.val (.ref a1), .val (.ref a2), .val (.ref a3), .val (.int (1 : Int32))] [(.int (1 : Int32)), (.ref a3), (.int (F1 1))])) rfl rfl (hb hby d4_14) (k := 1) ⟨by decide, rfl, by decide⟩ rfl ?_
      show Go _ _ _ _ T11 (mkF m 15 #[.val (.ref a1), .val (.ref a2), .val (.ref a3), .val (.int (1 : Int32))] [(.int (F3 1)), (.int (F1 1))])
      by_cases hs1 : (F1 1) = (F3 1)
      ·
        refine Go.st (fun t k => XS.icmpNo X11.here hx rfl (hb hby d4_15) rfl (teq hs1).2 k) ?_
        show Go _ _ _ _ T11 (mkF m 18 #[.val (.ref a1), .val (.ref a2), .val (.ref a3), .val (.int (1 : Int32))] [])
        refine Go.st (fun t k => XS.aloadN X11.here hx rfl (hb hby d4_18) rfl rfl k) ?_
        show Go _ _ _ _ T11 (mkF m 19 #[.val (.ref a1), .val (.ref a2), .val (.ref a3), .val (.int (1 : Int32))] [(.ref a1)])
        refine Go.st (fun t k => XS.iloadN X11.here hx rfl (hb hby d4_19) rfl k) ?_
        show Go _ _ _ _ T11 (mkF m 20 #[.val (.ref a1), .val (.ref a2), .val (.ref a3), .val (.int (1 : Int32))] [(.int (1 : Int32)), (.ref a1)])
        refine Go.st (fun t k => XS.aloadN X11.here hx rfl (hb hby d4_20) rfl rfl k) ?_
        show Go _ _ _ _ T11 (mkF m 21 #[.val (.ref a1), .val (.ref a2), .val (.ref a3), .val (.int (1 : Int32))] [(.ref a2), (.int (1 : Int32)), (.ref a1)])
        refine Go.st (fun t k => XS.iloadN X11.here hx rfl (hb hby d4_21) rfl k) ?_
        show Go _ _ _ _ T11 (mkF m 22 #[.val (.ref a1), .val (.ref a2), .val (.ref a3), .val (.int (1 : Int32))] [(.int (1 : Int32)), (.ref a2), (.int (1 : Int32)), (.ref a1)])
        refine goLdI X11 hx hZ e11 V_a2 (v := (.int (F2 1))) (g := (mkF m 22 #[.val (.ref a1), .val (.ref a2), .val (.ref a3), .val (.int (1 : Int32))] [(.int (1 : Int32)), (.ref a2), (.int (1 : Int32)), (.ref a1)])) rfl rfl (hb hby d4_22) (k := 1) ⟨by decide, rfl, by decide⟩ rfl ?_
        show Go _ _ _ _ T11 (mkF m 23 #[.val (.ref a1), .val (.ref a2), .val (.ref a3), .val (.int (1 : Int32))] [(.int (F2 1)), (.int (1 : Int32)), (.ref a1)])
        refine goStI X11 hx hZ e11 N11 V_a1 g_a1 (g := (mkF m 23 #[.val (.ref a1), .val (.ref a2), .val (.ref a3), .val (.int (1 : Int32))] [(.int (F2 1)), (.int (1 : Int32)), (.ref a1)])) rfl rfl (hb hby d4_23) (k := 1) ⟨by decide, rfl, by decide⟩ ?_
        intro T13 h13 L13 X13 e13 N13 W13 V_a1
        have Z13 := own_sz W13 Z11
        have V_a2 := V_a2.other W13 (Ne.symm ne12)
        have V_a3 := V_a3.other W13 (Ne.symm ne13)
        have K0 := K0.wr W13 (Or.inl (List.mem_of_getElem? (i := 0) rfl))
        show Go _ _ _ _ T13 (mkF m 24 #[.val (.ref a1), .val (.ref a2), .val (.ref a3), .val (.int (1 : Int32))] [])
        refine Go.st (fun t k => XS.iinc X13.here hx rfl (hb hby d4_24) rfl (l' := #[.val (.ref a1), .val (.ref a2), .val (.ref a3), .val (.int (0 : Int32))]) rfl k) ?_
        show Go _ _ _ _ T13 (mkF m 27 #[.val (.ref a1), .val (.ref a2), .val (.ref a3), .val (.int (0 : Int32))] [])
        refine Go.st (fun t k => XS.goto X13.here hx rfl (pc0 := 27) (pc' := 5) rfl (hb hby d4_27) (by decide) (by decide) k) ?_
        show Go _ _ _ _ T13 (mkF m 5 #[.val (.ref a1), .val (.ref a2), .val (.ref a3), .val (.int (0 : Int32))] [])
        refine Go.st (fun t k => XS.iloadN X13.here hx rfl (hb hby d4_5) rfl k) ?_
        show Go _ _ _ _ T13 (mkF m 6 #[.val (.ref a1), .val (.ref a2), .val (.ref a3), .val (.int (0 : Int32))] [(.int (0 : Int32))])
        refine Go.st (fun t k => XS.ifNo X13.here hx rfl (hb hby d4_6) rfl (by decide) k) ?_
        show Go _ _ _ _ T13 (mkF m 9 #[.val (.ref a1), .val (.ref a2), .val (.ref a3), .val (.int (0 : Int32))] [])
        refine Go.st (fun t k => XS.aloadN X13.here hx rfl (hb hby d4_9) rfl rfl k) ?_
        show Go _ _ _ _ T13 (mkF m 10 #[.val (.ref a1), .val (.ref a2), .val (.ref a3), .val (.int (0 : Int32))] [(.ref a1)])
        refine Go.st (fun t k => XS.iloadN X13.here hx rfl (hb hby d4_10) rfl k) ?_
        show Go _ _ _ _ T13 (mkF m 11 #[.val (.ref a1), .val (.ref a2), .val (.ref a3), .val (.int (0 : Int32))] [(.int (0 : Int32)), (.ref a1)])
        refine goLdI X13 hx hZ e13 V_a1 (v := (.int (F1 0))) (g := (mkF m 11 #[.val (.ref a1), .val (.ref a2), .val (.ref a3), .val (.int (0 : Int32))] [(.int (0 : Int32)), (.ref a1)])) rfl rfl (hb hby d4_11) (k := 0) ⟨by decide, rfl, by decide⟩ rfl ?_
        show Go _ _ _ _ T13 (mkF m 12 #[.val (.ref a1), .val (.ref a2), .val (.ref a3), .val (.int (0 : Int32))] [(.int (F1 0))])
        refine Go.st (fun t k => XS.aloadN X13.here hx rfl (hb hby d4_12) rfl rfl k) ?_
        show Go _ _ _ _ T13 (mkF m 13 #[.val (.ref a1), .val (.ref a2), .val (.ref a3), .val (.int (0 : Int32))] [(.ref a3), (.int (F1 0))])
        refine Go.st (fun t k => XS.iloadN X13.here hx rfl (hb hby d4_13) rfl k) ?_
        show Go _ _ _ _ T13 (mkF m 14 #[.val (.ref a1), .val (.ref a2), .val (.ref a3), .val (.int (0 : Int32))] [(.int (0 : Int32)), (.ref a3), (.int (F1 0))])
        refine goLdI X13 hx hZ e13 V_a3 (v := (.int (F3 0))) (g := (mkF m 14 #[.val (.ref a1), .val (.ref a2), .val (.ref a3), .val (.int (0 : Int32))] [(.int (0 : Int32)), (.ref a3), (.int (F1 0))])) rfl rfl (hb hby d4_14) (k := 0) ⟨by decide, rfl, by decide⟩ rfl ?_
        show Go _ _ _ _ T13 (mkF m 15 #[.val (.ref a1), .val (.ref a2), .val (.ref a3), .val (.int (0 : Int32))] [(.int (F3 0)), (.int (F1 0))])
        by_cases hs0 : (F1 0) = (F3 0)
        ·
          refine Go.st (fun t k => XS.icmpNo X13.here hx rfl (hb hby d4_15) rfl (teq hs0).2 k) ?_
          show Go _ _ _ _ T13 (mkF m 18 #[.val (.ref a1), .val (.ref a2), .val (.ref a3), .val (.int (0 : Int32))] [])
          refine Go.st (fun t k => XS.aloadN X13.here hx rfl (hb hby d4_18) rfl rfl k) ?_
          show Go _ _ _ _ T13 (mkF m 19 #[.val (.ref a1), .val (.ref a2), .val (.ref a3), .val (.int (0 : Int32))] [(.ref a1)])
          refine Go.st (fun t k => XS.iloadN X13.here hx rfl (hb hby d4_19) rfl k) ?_
          show Go _ _ _ _ T13 (mkF m 20 #[.val (.ref a1), .val (.ref a2), .val (.ref a3), .val (.int (0 : Int32))] [(.int (0 : Int32)), (.ref a1)])
          refine Go.st (fun t k => XS.aloadN X13.here hx rfl (hb hby d4_20) rfl rfl k) ?_
          show Go _ _ _ _ T13 (mkF m 21 #[.val (.ref a1), .val (.ref a2), .val (.ref a3), .val (.int (0 : Int32))] [(.ref a2), (.int (0 : Int32)), (.ref a1)])
          refine Go.st (fun t k => XS.iloadN X13.here hx rfl (hb hby d4_21) rfl k) ?_
          show Go _ _ _ _ T13 (mkF m 22 #[.val (.ref a1), .val (.ref a2), .val (.ref a3), .val (.int (0 : Int32))] [(.int (0 : Int32)), (.ref a2), (.int (0 : Int32)), (.ref a1)])
          refine goLdI X13 hx hZ e13 V_a2 (v := (.int (F2 0))) (g := (mkF m 22 #[.val (.ref a1), .val (.ref a2), .val (.ref a3), .val (.int (0 : Int32))] [(.int (0 : Int32)), (.ref a2), (.int (0 : Int32)), (.ref a1)])) rfl rfl (hb hby d4_22) (k := 0) ⟨by decide, rfl, by decide⟩ rfl ?_
          show Go _ _ _ _ T13 (mkF m 23 #[.val (.ref a1), .val (.ref a2), .val (.ref a3), .val (.int (0 : Int32))] [(.int (F2 0)), (.int (0 : Int32)), (.ref a1)])
          refine goStI X13 hx hZ e13 N13 V_a1 g_a1 (g := (mkF m 23 #[.val (.ref a1), .val (.ref a2), .val (.ref a3), .val (.int (0 : Int32))] [(.int (F2 0)), (.int (0 : Int32)), (.ref a1)])) rfl rfl (hb hby d4_23) (k := 0) ⟨by decide, rfl, by decide⟩ ?_
          intro T15 h15 L15 X15 e15 N15 W15 V_a1
          have Z15 := own_sz W15 Z13
          have V_a2 := V_a2.other W15 (Ne.symm ne12)
          have V_a3 := V_a3.other W15 (Ne.symm ne13)
          have K0 := K0.wr W15 (Or.inl (List.mem_of_getElem? (i := 0) rfl))
          show Go _ _ _ _ T15 (mkF m 24 #[.val (.ref a1), .val (.ref a2), .val (.ref a3), .val (.int (0 : Int32))] [])
          refine Go.st (fun t k => XS.iinc X15.here hx rfl (hb hby d4_24) rfl (l' := #[.val (.ref a1), .val (.ref a2), .val (.ref a3), .val (.int (-1 : Int32))]) rfl k) ?_
          show Go _ _ _ _ T15 (mkF m 27 #[.val (.ref a1), .val (.ref a2), .val (.ref a3), .val (.int (-1 : Int32))] [])
          refine Go.st (fun t k => XS.goto X15.here hx rfl (pc0 := 27) (pc' := 5) rfl (hb hby d4_27) (by decide) (by decide) k) ?_
          show Go _ _ _ _ T15 (mkF m 5 #[.val (.ref a1), .val (.ref a2), .val (.ref a3), .val (.int (-1 : Int32))] [])
          refine Go.st (fun t k => XS.iloadN X15.here hx rfl (hb hby d4_5) rfl k) ?_
          show Go _ _ _ _ T15 (mkF m 6 #[.val (.ref a1), .val (.ref a2), .val (.ref a3), .val (.int (-1 : Int32))] [(.int (-1 : Int32))])
          refine Go.st (fun t k => XS.ifYes X15.here hx rfl (pc0 := 6) (pc' := 30) rfl (hb hby d4_6) rfl (by decide) (by decide) (by decide) k) ?_
          show Go _ _ _ _ T15 (mkF m 30 #[.val (.ref a1), .val (.ref a2), .val (.ref a3), .val (.int (-1 : Int32))] [])
          refine Go.st (fun t k => XS.iloadN X15.here hx rfl (hb hby d4_30) rfl k) ?_
          show Go _ _ _ _ T15 (mkF m 31 #[.val (.ref a1), .val (.ref a2), .val (.ref a3), .val (.int (-1 : Int32))] [(.int (-1 : Int32))])
          refine Go.st (fun t k => XS.ifNo X15.here hx rfl (hb hby d4_31) rfl (by decide) k) ?_
          show Go _ _ _ _ T15 (mkF m 34 #[.val (.ref a1), .val (.ref a2), .val (.ref a3), .val (.int (-1 : Int32))] [])
          refine Go.st (fun t k => XS.iconst X15.here hx rfl (hb hby d4_34) k) ?_
          show Go _ _ _ _ T15 (mkF m 35 #[.val (.ref a1), .val (.ref a2), .val (.ref a3), .val (.int (-1 : Int32))] [(.int (0 : Int32))])
          exact goN X15 hx hret hlk (by simp) (hb hby d4_35) (by decide) (by decide) (by rw [e15]; exact ⟨N15, K0, Or.inr ⟨fun i hi => by rcases own_lt3 hi with rfl | rfl | rfl <;> assumption, rfl, V_a1.to (fun i hi => by rcases own_lt3 hi with rfl | rfl | rfl <;> rfl)⟩⟩)
        ·
          refine Go.st (fun t k => XS.icmpYes X13.here hx rfl (pc0 := 15) (pc' := 30) rfl (hb hby d4_15) rfl (feq hs0).2 (by decide) (by decide) k) ?_
          show Go _ _ _ _ T13 (mkF m 30 #[.val (.ref a1), .val (.ref a2), .val (.ref a3), .val (.int (0 : Int32))] [])
          refine Go.st (fun t k => XS.iloadN X13.here hx rfl (hb hby d4_30) rfl k) ?_
          show Go _ _ _ _ T13 (mkF m 31 #[.val (.ref a1), .val (.ref a2), .val (.ref a3), .val (.int (0 : Int32))] [(.int (0 : Int32))])
          refine Go.st (fun t k => XS.ifYes X13.here hx rfl (pc0 := 31) (pc' := 36) rfl (hb hby d4_31) rfl (by decide) (by decide) (by decide) k) ?_
          show Go _ _ _ _ T13 (mkF m 36 #[.val (.ref a1), .val (.ref a2), .val (.ref a3), .val (.int (0 : Int32))] [])
          refine Go.st (fun t k => XS.aloadN X13.here hx rfl (hb hby d4_36) rfl rfl k) ?_
          show Go _ _ _ _ T13 (mkF m 37 #[.val (.ref a1), .val (.ref a2), .val (.ref a3), .val (.int (0 : Int32))] [(.ref a1)])
          refine Go.st (fun t k => XS.iloadN X13.here hx rfl (hb hby d4_37) rfl k) ?_
          show Go _ _ _ _ T13 (mkF m 38 #[.val (.ref a1), .val (.ref a2), .val (.ref a3), .val (.int (0 : Int32))] [(.int (0 : Int32)), (.ref a1)])
          refine Go.st (fun t k => Jvm.Free.XT.dup2 X13.here hx rfl (hb hby d4_38) rfl rfl rfl k) ?_
          show Go _ _ _ _ T13 (mkF m 39 #[.val (.ref a1), .val (.ref a2), .val (.ref a3), .val (.int (0 : Int32))] [(.int (0 : Int32)), (.ref a1), (.int (0 : Int32)), (.ref a1)])
          refine goLdI X13 hx hZ e13 V_a1 (v := (.int (F1 0))) (g := (mkF m 39 #[.val (.ref a1), .val (.ref a2), .val (.ref a3), .val (.int (0 : Int32))] [(.int (0 : Int32)), (.ref a1), (.int (0 : Int32)), (.ref a1)])) rfl rfl (hb hby d4_39) (k := 0) ⟨by decide, rfl, by decide⟩ rfl ?_
          show Go _ _ _ _ T13 (mkF m 40 #[.val (.ref a1), .val (.ref a2), .val (.ref a3), .val (.int (0 : Int32))] [(.int (F1 0)), (.int (0 : Int32)), (.ref a1)])
          refine Go.st (fun t k => XS.iconst X13.here hx rfl (hb hby d4_40) k) ?_
          show Go _ _ _ _ T13 (mkF m 41 #[.val (.ref a1), .val (.ref a2), .val (.ref a3), .val (.int (0 : Int32))] [(.int (1 : Int32)), (.int (F1 0)), (.int (0 : Int32)), (.ref a1)])
          refine Go.st (fun t k => XS.iadd X13.here hx rfl (hb hby d4_41) rfl k) ?_
          show Go _ _ _ _ T13 (mkF m 42 #[.val (.ref a1), .val (.ref a2), .val (.ref a3), .val (.int (0 : Int32))] [(.int ((F1 0) + (1 : Int32))), (.int (0 : Int32)), (.ref a1)])
          refine goStI X13 hx hZ e13 N13 V_a1 g_a1 (g := (mkF m 42 #[.val (.ref a1), .val (.ref a2), .val (.ref a3), .val (.int (0 : Int32))] [(.int ((F1 0) + (1 : Int32))), (.int (0 : Int32)), (.ref a1)])) rfl rfl (hb hby d4_42) (k := 0) ⟨by decide, rfl, by decide⟩ ?_
          intro T16 h16 L16 X16 e16 N16 W16 V_a1
          have Z16 := own_sz W16 Z13
          have V_a2 := V_a2.other W16 (Ne.symm ne12)
          have V_a3 := V_a3.other W16 (Ne.symm ne13)
          have K0 := K0.wr W16 (Or.inl (List.mem_of_getElem? (i := 0) rfl))
          show Go _ _ _ _ T16 (mkF m 43 #[.val (.ref a1), .val (.ref a2), .val (.ref a3), .val (.int (0 : Int32))] [])
          refine Go.st (fun t k => XS.iconst X16.here hx rfl (hb hby d4_43) k) ?_
          show Go _ _ _ _ T16 (mkF m 44 #[.val (.ref a1), .val (.ref a2), .val (.ref a3), .val (.int (0 : Int32))] [(.int (1 : Int32))])
          exact goN X16 hx hret hlk (by simp) (hb hby d4_44) (by decide) (by decide) (by rw [e16]; exact ⟨N16, K0, Or.inl ⟨0, by decide, fun i h1 h2 => by rcases own_lt3 h2 with rfl | rfl | rfl <;> first | assumption | (exact absurd h1 (by decide)), hs0, rfl, V_a1.to (fun i hi => by rcases own_lt3 hi with rfl | rfl | rfl <;> rfl)⟩⟩)
      ·
        refine Go.st (fun t k => XS.icmpYes X11.here hx rfl (pc0 := 15) (pc' := 30) rfl (hb hby d4_15) rfl (feq hs1).2 (by decide) (by decide) k) ?_
        show Go _ _ _ _ T11 (mkF m 30 #[.val (.ref a1), .val (.ref a2), .val (.ref a3), .val (.int (1 : Int32))] [])
        refine Go.st (fun t k => XS.iloadN X11.here hx rfl (hb hby d4_30) rfl k) ?_
        show Go _ _ _ _ T11 (mkF m 31 #[.val (.ref a1), .val (.ref a2), .val (.ref a3), .val (.int (1 : Int32))] [(.int (1 : Int32))])
        refine Go.st (fun t k => XS.ifYes X11.here hx rfl (pc0 := 31) (pc' := 36) rfl (hb hby d4_31) rfl (by decide) (by decide) (by decide) k) ?_
        show Go _ _ _ _ T11 (mkF m 36 #[.val (.ref a1), .val (.ref a2), .val (.ref a3), .val (.int (1 : Int32))] [])
        refine Go.st (fun t k => XS.aloadN X11.here hx rfl (hb hby d4_36) rfl rfl k) ?_
        show Go _ _ _ _ T11 (mkF m 37 #[.val (.ref a1), .val (.ref a2), .val (.ref a3), .val (.int (1 : Int32))] [(.ref a1)])
        refine Go.st (fun t k => XS.iloadN X11.here hx rfl (hb hby d4_37) rfl k) ?_
        show Go _ _ _ _ T11 (mkF m 38 #[.val (.ref a1), .val (.ref a2), .val (.ref a3), .val (.int (1 : Int32))] [(.int (1 : Int32)), (.ref a1)])
        refine Go.st (fun t k => Jvm.Free.XT.dup2 X11.here hx rfl (hb hby d4_38) rfl rfl rfl k) ?_
        show Go _ _ _ _ T11 (mkF m 39 #[.val (.ref a1), .val (.ref a2), .val (.ref a3), .val (.int (1 : Int32))] [(.int (1 : Int32)), (.ref a1), (.int (1 : Int32)), (.ref a1)])
        refine goLdI X11 hx hZ e11 V_a1 (v := (.int (F1 1))) (g := (mkF m 39 #[.val (.ref a1), .val (.ref a2), .val (.ref a3), .val (.int (1 : Int32))] [(.int (1 : Int32)), (.ref a1), (.int (1 : Int32)), (.ref a1)])) rfl rfl (hb hby d4_39) (k := 1) ⟨by decide, rfl, by decide⟩ rfl ?_
        show Go _ _ _ _ T11 (mkF m 40 #[.val (.ref a1), .val (.ref a2), .val (.ref a3), .val (.int (1 : Int32))] [(.int (F1 1)), (.int (1 : Int32)), (.ref a1)])
        refine Go.st (fun t k => XS.iconst X11.here hx rfl (hb hby d4_40) k) ?_
        show Go _ _ _ _ T11 (mkF m 41 #[.val (.ref a1), .val (.ref a2), .val (.ref a3), .val (.int (1 : Int32))] [(.int (1 : Int32)), (.int (F1 1)), (.int (1 : Int32)), (.ref a1)])
        refine Go.st (fun t k => XS.iadd X11.here hx rfl (hb hby d4_41) rfl k) ?_
        show Go _ _ _ _ T11 (mkF m 42 #[.val (.ref a1), .val (.ref a2), .val (.ref a3), .val (.int (1 : Int32))] [(.int ((F1 1) + (1 : Int32))), (.int (1 : Int32)), (.ref a1)])
        refine goStI X11 hx hZ e11 N11 V_a1 g_a1 (g := (mkF m 42 #[.val (.ref a1), .val (.ref a2), .val (.ref a3), .val (.int (1 : Int32))] [(.int ((F1 1) + (1 : Int32))), (.int (1 : Int32)), (.ref a1)])) rfl rfl (hb hby d4_42) (k := 1) ⟨by decide, rfl, by decide⟩ ?_
        intro T17 h17 L17 X17 e17 N17 W17 V_a1
        have Z17 := own_sz W17 Z11
        have V_a2 := V_a2.other W17 (Ne.symm ne12)
        have V_a3 := V_a3.other W17 (Ne.symm ne13)
        have K0 := K0.wr W17 (Or.inl (List.mem_of_getElem? (i := 0) rfl))
        show Go _ _ _ _ T17 (mkF m 43 #[.val (.ref a1), .val (.ref a2), .val (.ref a3), .val (.int (1 : Int32))] [])
        refine Go.st (fun t k => XS.iconst X17.here hx rfl (hb hby d4_43) k) ?_
        show Go _ _ _ _ T17 (mkF m 44 #[.val (.ref a1), .val (.ref a2), .val (.ref a3), .val (.int (1 : Int32))] [(.int (1 : Int32))])
        exact goN X17 hx hret hlk (by simp) (hb hby d4_44) (by decide) (by decide) (by rw [e17]; exact ⟨N17, K0, Or.inl ⟨1, by decide, fun i h1 h2 => by rcases own_lt3 h2 with rfl | rfl | rfl <;> first | assumption | (exact absurd h1 (by decide)), hs1, rfl, V_a1.to (fun i hi => by rcases own_lt3 hi with rfl | rfl | rfl <;> rfl)⟩⟩)
    ·
      refine Go.st (fun t k => XS.icmpYes X0.here hx rfl (pc0 := 15) (pc' := 30) rfl (hb hby d4_15) rfl (feq hs2).2 (by decide) (by decide) k) ?_
      show Go _ _ _ _ T0 (mkF m 30 #[.val (.ref a1), .val (.ref a2), .val (.ref a3), .val (.int (2 : Int32))] [])
      refine Go.st (fun t k => XS.iloadN X0.here hx rfl (hb hby d4_30) rfl k) ?_
      show Go _ _ _ _ T0 (mkF m 31 #[.val (.ref a1), .val (.ref a2), .val (.ref a3), .val (.int (2 : Int32))] [(.int (2 : Int32))])
      refine Go.st (fun t k => XS.ifYes X0.here hx rfl (pc0 := 31) (pc' := 36) rfl (hb hby d4_31) rfl (by decide) (by decide) (by decide) k) ?_
      show Go _ _ _ _ T0 (mkF m 36 #[.val (.ref a1), .val (.ref a2), .val (.ref a3), .val (.int (2 : Int32))] [])
      refine Go.st (fun t k => XS.aloadN X0.here hx rfl (hb hby d4_36) rfl rfl k) ?_
      show Go _ _ _ _ T0 (mkF m 37 #[.val (.ref a1), .val (.ref a2), .val (.ref a3), .val (.int (2 : Int32))] [(.ref a1)])
      refine Go.st (fun t k => XS.iloadN X0.here hx rfl (hb hby d4_37) rfl k) ?_
      show Go _ _ _ _ T0 (mkF m 38 #[.val (.ref a1), .val (.ref a2), .val (.ref a3), .val (.int (2 : Int32))] [(.int (2 : Int32)), (.ref a1)])
      refine Go.st (fun t k => Jvm.Free.XT.dup2 X0.here hx rfl (hb hby d4_38) rfl rfl rfl k) ?_
      show Go _ _ _ _ T0 (mkF m 39 #[.val (.ref a1), .val (.ref a2), .val (.ref a3), .val (.int (2 : Int32))] [(.int (2 : Int32)), (.ref a1), (.int (2 : Int32)), (.ref a1)])
      refine goLdI X0 hx hZ e0 V_a1 (v := (.int (F1 2))) (g := (mkF m 39 #[.val (.ref a1), .val (.ref a2), .val (.ref a3), .val (.int (2 : Int32))] [(.int (2 : Int32)), (.ref a1), (.int (2 : Int32)), (.ref a1)])) rfl rfl (hb hby d4_39) (k := 2) ⟨by decide, rfl, by decide⟩ rfl ?_
      show Go _ _ _ _ T0 (mkF m 40 #[.val (.ref a1), .val (.ref a2), .val (.ref a3), .val (.int (2 : Int32))] [(.int (F1 2)), (.int (2 : Int32)), (.ref a1)])
      refine Go.st (fun t k => XS.iconst X0.here hx rfl (hb hby d4_40) k) ?_
      show Go _ _ _ _ T0 (mkF m 41 #[.val (.ref a1), .val (.ref a2), .val (.ref a3), .val (.int (2 : Int32))] [(.int (1 : Int32)), (.int (F1 2)), (.int (2 : Int32)), (.ref a1)])
      refine Go.st (fun t k => XS.iadd X0.here hx rfl (hb hby d4_41) rfl k) ?_
      show Go _ _ _ _ T0 (mkF m 42 #[.val (.ref a1), .val (.ref a2), .val (.ref a3), .val (.int (2 : Int32))] [(.int ((F1 2) + (1 : Int32))), (.int (2 : Int32)), (.ref a1)])
      refine goStI X0 hx hZ e0 N0 V_a1 g_a1 (g := (mkF m 42 #[.val (.ref a1), .val (.ref a2), .val (.ref a3), .val (.int (2 : Int32))] [(.int ((F1 2) + (1 : Int32))), (.int (2 : Int32)), (.ref a1)])) rfl rfl (hb hby d4_42) (k := 2) ⟨by decide, rfl, by decide⟩ ?_
      intro T18 h18 L18 X18 e18 N18 W18 V_a1
      have Z18 := own_sz W18 Z0
      have V_a2 := V_a2.other W18 (Ne.symm ne12)
      have V_a3 := V_a3.other W18 (Ne.symm ne13)
      have K0 := K0.wr W18 (Or.inl (List.mem_of_getElem? (i := 0) rfl))
      show Go _ _ _ _ T18 (mkF m 43 #[.val (.ref a1), .val (.ref a2), .val (.ref a3), .val (.int (2 : Int32))] [])
      refine Go.st (fun t k => XS.iconst X18.here hx rfl (hb hby d4_43) k) ?_
      show Go _ _ _ _ T18 (mkF m 44 #[.val (.ref a1), .val (.ref a2), .val (.ref a3), .val (.int (2 : Int32))] [(.int (1 : Int32))])
      exact goN X18 hx hret hlk (by simp) (hb hby d4_44) (by decide) (by decide) (by rw [e18]; exact ⟨N18, K0, Or.inl ⟨2, by decide, fun i h1 h2 => absurd h2 (by omega), hs2, rfl, V_a1.to (fun i hi => by rcases own_lt3 hi with rfl | rfl | rfl <;> rfl)⟩⟩)
theorem pn_0 : plainName "com/example/counterpath/counterpath/util/CombinationsNextPinLaw" = true := by first | (simp [plainName, overriddenIn]; done) | decide +kernel
theorem pd0_0 : parseMethodDescriptor "([I[I[IJJJJJJ)V" = some ⟨[(.array .int), (.array .int), (.array .int), .long, .long, .long, .long, .long, .long], none⟩ := by decide +kernel
theorem pd0_1 : parseMethodDescriptor "([I[I)Z" = some ⟨[(.array .int), (.array .int)], some .boolean⟩ := by decide +kernel
theorem pd0_2 : parseMethodDescriptor "([I[I[I)J" = some ⟨[(.array .int), (.array .int), (.array .int)], some .long⟩ := by decide +kernel
theorem pd0_3 : parseMethodDescriptor "([I[I[I)Z" = some ⟨[(.array .int), (.array .int), (.array .int)], some .boolean⟩ := by decide +kernel
theorem ef_0 (m : MethodId) (x0 : Int64) (x1 : Int64) (x2 : Int64) (x3 : Int64) (x4 : Int64) (x5 : Int64) : entryFrame m #[(.long x0), (.long x1), (.long x2), (.long x3), (.long x4), (.long x5)] maxLocals = mkF m 0 #[.val (.long x0), .second, .val (.long x1), .second, .val (.long x2), .second, .val (.long x3), .second, .val (.long x4), .second, .val (.long x5), .second, .unset, .unset, .unset, .unset, .unset, .unset, .unset, .unset, .unset, .unset, .unset] [] := by first | (simp [entryFrame, mkF, argsToLocals, Value.category, maxLocals]; done) | rfl
set_option maxRecDepth 65536 in
set_option maxHeartbeats 40000000 in
theorem rm0 (l : Launch) (Z : State) (a0 : Array Value) (hw : ∀ d ∈ tables_1, d.before a0 Z = true) (q1 : Int64) (q2 : Int64) (q3 : Int64) (q4 : Int64) (q5 : Int64) (q6 : Int64) (h0 : Heap) (n0 : Nat) (Z0 : n0 ≤ h0.size)   :
    Does l Z x code maxLocals ret room_1 #[(.long q1), (.long q2), (.long q3), (.long q4), (.long q5), (.long q6)] h0 (fun v h L => v = some (.int 1) ∧ Fr n0 L) := by
  refine Does.body (plainFor_of_name pn_0) ?_
  intro p e s m below meth c T0 X0 hx hZ hby hml hown hnm hret hlk e0
  replace hown : s.vm.findClass "com/example/counterpath/counterpath/util/CombinationsNextPinLaw" = some m.cls := hown
  have N0 := Fr.nil n0
  refine Go.frame (ef_0 m q1 q2 q3 q4 q5 q6) ?_
  show Go _ _ _ _ T0 (mkF m 0 #[.val (.long q1), .second, .val (.long q2), .second, .val (.long q3), .second, .val (.long q4), .second, .val (.long q5), .second, .val (.long q6), .second, .unset, .unset, .unset, .unset, .unset, .unset, .unset, .unset, .unset, .unset, .unset] [])
  refine Go.st (fun t k => XS.lloadN X0.here hx rfl (hb hby at_0) rfl k) ?_
  show Go _ _ _ _ T0 (mkF m 1 #[.val (.long q1), .second, .val (.long q2), .second, .val (.long q3), .second, .val (.long q4), .second, .val (.long q5), .second, .val (.long q6), .second, .unset, .unset, .unset, .unset, .unset, .unset, .unset, .unset, .unset, .unset, .unset] [(.long q2)])
  refine Go.st (fun t k => XS.bipush X0.here hx rfl (hb hby at_1) k) ?_
  show Go _ _ _ _ T0 (mkF m 3 #[.val (.long q1), .second, .val (.long q2), .second, .val (.long q3), .second, .val (.long q4), .second, .val (.long q5), .second, .val (.long q6), .second, .unset, .unset, .unset, .unset, .unset, .unset, .unset, .unset, .unset, .unset, .unset] [(.int (62 : Int32)), (.long q2)])
  refine Go.st (fun t k => XS.lushr X0.here hx rfl (hb hby at_3) rfl k) ?_
  show Go _ _ _ _ T0 (mkF m 4 #[.val (.long q1), .second, .val (.long q2), .second, .val (.long q3), .second, .val (.long q4), .second, .val (.long q5), .second, .val (.long q6), .second, .unset, .unset, .unset, .unset, .unset, .unset, .unset, .unset, .unset, .unset, .unset] [(.long ((q2.toUInt64 >>> ((62 : Int32) &&& 0x3f).toInt64.toUInt64).toInt64))])
  refine Go.st (fun t k => XS.l2i X0.here hx rfl (hb hby at_4) rfl k) ?_
  show Go _ _ _ _ T0 (mkF m 5 #[.val (.long q1), .second, .val (.long q2), .second, .val (.long q3), .second, .val (.long q4), .second, .val (.long q5), .second, .val (.long q6), .second, .unset, .unset, .unset, .unset, .unset, .unset, .unset, .unset, .unset, .unset, .unset] [(.int (((q2.toUInt64 >>> ((62 : Int32) &&& 0x3f).toInt64.toUInt64).toInt64).toInt32))])
  obtain ⟨zn, n, hzn, hn, hz0, hz1, hz2⟩ := own_n q2
  rw [hzn]
  show Go _ _ _ _ T0 (mkF m 5 #[.val (.long q1), .second, .val (.long q2), .second, .val (.long q3), .second, .val (.long q4), .second, .val (.long q5), .second, .val (.long q6), .second, .unset, .unset, .unset, .unset, .unset, .unset, .unset, .unset, .unset, .unset, .unset] [(.int zn)])
  refine Go.st (fun t k => XS.istore X0.here hx rfl (hb hby at_5) rfl (l' := #[.val (.long q1), .second, .val (.long q2), .second, .val (.long q3), .second, .val (.long q4), .second, .val (.long q5), .second, .val (.long q6), .second, .val (.int zn), .unset, .unset, .unset, .unset, .unset, .unset, .unset, .unset, .unset, .unset]) rfl k) ?_
  show Go _ _ _ _ T0 (mkF m 7 #[.val (.long q1), .second, .val (.long q2), .second, .val (.long q3), .second, .val (.long q4), .second, .val (.long q5), .second, .val (.long q6), .second, .val (.int zn), .unset, .unset, .unset, .unset, .unset, .unset, .unset, .unset, .unset, .unset] [])
  refine Go.st (fun t k => XS.iload X0.here hx rfl (hb hby at_7) rfl k) ?_
  show Go _ _ _ _ T0 (mkF m 9 #[.val (.long q1), .second, .val (.long q2), .second, .val (.long q3), .second, .val (.long q4), .second, .val (.long q5), .second, .val (.long q6), .second, .val (.int zn), .unset, .unset, .unset, .unset, .unset, .unset, .unset, .unset, .unset, .unset] [(.int zn)])
  refine goNew X0 hx hZ (hw _ (List.mem_of_getElem? (i := 0) rfl)) e0 Z0 hz0 hz1 3 (own_le3 hn) (by decide) (by decide) (by decide) (g := (mkF m 9 #[.val (.long q1), .second, .val (.long q2), .second, .val (.long q3), .second, .val (.long q4), .second, .val (.long q5), .second, .val (.long q6), .second, .val (.int zn), .unset, .unset, .unset, .unset, .unset, .unset, .unset, .unset, .unset, .unset] [(.int zn)])) rfl rfl (hb hby at_9) ?_
  intro T1 h1 b1 X1 e1 E1 qz1 g_b1 Z1 V_b1
  replace V_b1 : BA Z h1 b1 .int n (fun _ => (.int (0 : Int32))) := V_b1
  show Go _ _ _ _ T1 (mkF m 11 #[.val (.long q1), .second, .val (.long q2), .second, .val (.long q3), .second, .val (.long q4), .second, .val (.long q5), .second, .val (.long q6), .second, .val (.int zn), .unset, .unset, .unset, .unset, .unset, .unset, .unset, .unset, .unset, .unset] [(.ref b1)])
  refine Go.st (fun t k => XS.astore X1.here hx rfl (hb hby at_11) rfl rfl (l' := #[.val (.long q1), .second, .val (.long q2), .second, .val (.long q3), .second, .val (.long q4), .second, .val (.long q5), .second, .val (.long q6), .second, .val (.int zn), .val (.ref b1), .unset, .unset, .unset, .unset, .unset, .unset, .unset, .unset, .unset]) rfl k) ?_
  show Go _ _ _ _ T1 (mkF m 13 #[.val (.long q1), .second, .val (.long q2), .second, .val (.long q3), .second, .val (.long q4), .second, .val (.long q5), .second, .val (.long q6), .second, .val (.int zn), .val (.ref b1), .unset, .unset, .unset, .unset, .unset, .unset, .unset, .unset, .unset] [])
  refine Go.st (fun t k => XS.iload X1.here hx rfl (hb hby at_13) rfl k) ?_
  show Go _ _ _ _ T1 (mkF m 15 #[.val (.long q1), .second, .val (.long q2), .second, .val (.long q3), .second, .val (.long q4), .second, .val (.long q5), .second, .val (.long q6), .second, .val (.int zn), .val (.ref b1), .unset, .unset, .unset, .unset, .unset, .unset, .unset, .unset, .unset] [(.int zn)])
  refine goNew X1 hx hZ (hw _ (List.mem_of_getElem? (i := 0) rfl)) e1 Z1 hz0 hz1 3 (own_le3 hn) (by decide) (by decide) (by decide) (g := (mkF m 15 #[.val (.long q1), .second, .val (.long q2), .second, .val (.long q3), .second, .val (.long q4), .second, .val (.long q5), .second, .val (.long q6), .second, .val (.int zn), .val (.ref b1), .unset, .unset, .unset, .unset, .unset, .unset, .unset, .unset, .unset] [(.int zn)])) rfl rfl (hb hby at_15) ?_
  intro T2 h2 b2 X2 e2 E2 qz2 g_b2 Z2 V_b2
  replace V_b2 : BA Z h2 b2 .int n (fun _ => (.int (0 : Int32))) := V_b2
  have ne_b1_b2 : b1 ≠ b2 := fun z => absurd V_b1.lt (by rw [z, qz2]; exact Nat.lt_irrefl _)
  have V_b1 := V_b1.ext E2
  show Go _ _ _ _ T2 (mkF m 17 #[.val (.long q1), .second, .val (.long q2), .second, .val (.long q3), .second, .val (.long q4), .second, .val (.long q5), .second, .val (.long q6), .second, .val (.int zn), .val (.ref b1), .unset, .unset, .unset, .unset, .unset, .unset, .unset, .unset, .unset] [(.ref b2)])
  refine Go.st (fun t k => XS.astore X2.here hx rfl (hb hby at_17) rfl rfl (l' := #[.val (.long q1), .second, .val (.long q2), .second, .val (.long q3), .second, .val (.long q4), .second, .val (.long q5), .second, .val (.long q6), .second, .val (.int zn), .val (.ref b1), .val (.ref b2), .unset, .unset, .unset, .unset, .unset, .unset, .unset, .unset]) rfl k) ?_
  show Go _ _ _ _ T2 (mkF m 19 #[.val (.long q1), .second, .val (.long q2), .second, .val (.long q3), .second, .val (.long q4), .second, .val (.long q5), .second, .val (.long q6), .second, .val (.int zn), .val (.ref b1), .val (.ref b2), .unset, .unset, .unset, .unset, .unset, .unset, .unset, .unset] [])
  refine Go.st (fun t k => XS.iload X2.here hx rfl (hb hby at_19) rfl k) ?_
  show Go _ _ _ _ T2 (mkF m 21 #[.val (.long q1), .second, .val (.long q2), .second, .val (.long q3), .second, .val (.long q4), .second, .val (.long q5), .second, .val (.long q6), .second, .val (.int zn), .val (.ref b1), .val (.ref b2), .unset, .unset, .unset, .unset, .unset, .unset, .unset, .unset] [(.int zn)])
  refine goNew X2 hx hZ (hw _ (List.mem_of_getElem? (i := 0) rfl)) e2 Z2 hz0 hz1 3 (own_le3 hn) (by decide) (by decide) (by decide) (g := (mkF m 21 #[.val (.long q1), .second, .val (.long q2), .second, .val (.long q3), .second, .val (.long q4), .second, .val (.long q5), .second, .val (.long q6), .second, .val (.int zn), .val (.ref b1), .val (.ref b2), .unset, .unset, .unset, .unset, .unset, .unset, .unset, .unset] [(.int zn)])) rfl rfl (hb hby at_21) ?_
  intro T3 h3 b3 X3 e3 E3 qz3 g_b3 Z3 V_b3
  replace V_b3 : BA Z h3 b3 .int n (fun _ => (.int (0 : Int32))) := V_b3
  have ne_b1_b3 : b1 ≠ b3 := fun z => absurd V_b1.lt (by rw [z, qz3]; exact Nat.lt_irrefl _)
  have ne_b2_b3 : b2 ≠ b3 := fun z => absurd V_b2.lt (by rw [z, qz3]; exact Nat.lt_irrefl _)
  have V_b1 := V_b1.ext E3
  have V_b2 := V_b2.ext E3
  show Go _ _ _ _ T3 (mkF m 23 #[.val (.long q1), .second, .val (.long q2), .second, .val (.long q3), .second, .val (.long q4), .second, .val (.long q5), .second, .val (.long q6), .second, .val (.int zn), .val (.ref b1), .val (.ref b2), .unset, .unset, .unset, .unset, .unset, .unset, .unset, .unset] [(.ref b3)])
  refine Go.st (fun t k => XS.astore X3.here hx rfl (hb hby at_23) rfl rfl (l' := #[.val (.long q1), .second, .val (.long q2), .second, .val (.long q3), .second, .val (.long q4), .second, .val (.long q5), .second, .val (.long q6), .second, .val (.int zn), .val (.ref b1), .val (.ref b2), .val (.ref b3), .unset, .unset, .unset, .unset, .unset, .unset, .unset]) rfl k) ?_
  show Go _ _ _ _ T3 (mkF m 25 #[.val (.long q1), .second, .val (.long q2), .second, .val (.long q3), .second, .val (.long q4), .second, .val (.long q5), .second, .val (.long q6), .second, .val (.int zn), .val (.ref b1), .val (.ref b2), .val (.ref b3), .unset, .unset, .unset, .unset, .unset, .unset, .unset] [])
  refine Go.st (fun t k => XS.iload X3.here hx rfl (hb hby at_25) rfl k) ?_
  show Go _ _ _ _ T3 (mkF m 27 #[.val (.long q1), .second, .val (.long q2), .second, .val (.long q3), .second, .val (.long q4), .second, .val (.long q5), .second, .val (.long q6), .second, .val (.int zn), .val (.ref b1), .val (.ref b2), .val (.ref b3), .unset, .unset, .unset, .unset, .unset, .unset, .unset] [(.int zn)])
  refine goNew X3 hx hZ (hw _ (List.mem_of_getElem? (i := 0) rfl)) e3 Z3 hz0 hz1 3 (own_le3 hn) (by decide) (by decide) (by decide) (g := (mkF m 27 #[.val (.long q1), .second, .val (.long q2), .second, .val (.long q3), .second, .val (.long q4), .second, .val (.long q5), .second, .val (.long q6), .second, .val (.int zn), .val (.ref b1), .val (.ref b2), .val (.ref b3), .unset, .unset, .unset, .unset, .unset, .unset, .unset] [(.int zn)])) rfl rfl (hb hby at_27) ?_
  intro T4 h4 b4 X4 e4 E4 qz4 g_b4 Z4 V_b4
  replace V_b4 : BA Z h4 b4 .int n (fun _ => (.int (0 : Int32))) := V_b4
  have ne_b1_b4 : b1 ≠ b4 := fun z => absurd V_b1.lt (by rw [z, qz4]; exact Nat.lt_irrefl _)
  have ne_b2_b4 : b2 ≠ b4 := fun z => absurd V_b2.lt (by rw [z, qz4]; exact Nat.lt_irrefl _)
  have ne_b3_b4 : b3 ≠ b4 := fun z => absurd V_b3.lt (by rw [z, qz4]; exact Nat.lt_irrefl _)
  have V_b1 := V_b1.ext E4
  have V_b2 := V_b2.ext E4
  have V_b3 := V_b3.ext E4
  show Go _ _ _ _ T4 (mkF m 29 #[.val (.long q1), .second, .val (.long q2), .second, .val (.long q3), .second, .val (.long q4), .second, .val (.long q5), .second, .val (.long q6), .second, .val (.int zn), .val (.ref b1), .val (.ref b2), .val (.ref b3), .unset, .unset, .unset, .unset, .unset, .unset, .unset] [(.ref b4)])
  refine Go.st (fun t k => XS.astore X4.here hx rfl (hb hby at_29) rfl rfl (l' := #[.val (.long q1), .second, .val (.long q2), .second, .val (.long q3), .second, .val (.long q4), .second, .val (.long q5), .second, .val (.long q6), .second, .val (.int zn), .val (.ref b1), .val (.ref b2), .val (.ref b3), .val (.ref b4), .unset, .unset, .unset, .unset, .unset, .unset]) rfl k) ?_
  show Go _ _ _ _ T4 (mkF m 31 #[.val (.long q1), .second, .val (.long q2), .second, .val (.long q3), .second, .val (.long q4), .second, .val (.long q5), .second, .val (.long q6), .second, .val (.int zn), .val (.ref b1), .val (.ref b2), .val (.ref b3), .val (.ref b4), .unset, .unset, .unset, .unset, .unset, .unset] [])
  refine Go.st (fun t k => XS.iload X4.here hx rfl (hb hby at_31) rfl k) ?_
  show Go _ _ _ _ T4 (mkF m 33 #[.val (.long q1), .second, .val (.long q2), .second, .val (.long q3), .second, .val (.long q4), .second, .val (.long q5), .second, .val (.long q6), .second, .val (.int zn), .val (.ref b1), .val (.ref b2), .val (.ref b3), .val (.ref b4), .unset, .unset, .unset, .unset, .unset, .unset] [(.int zn)])
  refine goNew X4 hx hZ (hw _ (List.mem_of_getElem? (i := 0) rfl)) e4 Z4 hz0 hz1 3 (own_le3 hn) (by decide) (by decide) (by decide) (g := (mkF m 33 #[.val (.long q1), .second, .val (.long q2), .second, .val (.long q3), .second, .val (.long q4), .second, .val (.long q5), .second, .val (.long q6), .second, .val (.int zn), .val (.ref b1), .val (.ref b2), .val (.ref b3), .val (.ref b4), .unset, .unset, .unset, .unset, .unset, .unset] [(.int zn)])) rfl rfl (hb hby at_33) ?_
  intro T5 h5 b5 X5 e5 E5 qz5 g_b5 Z5 V_b5
  replace V_b5 : BA Z h5 b5 .int n (fun _ => (.int (0 : Int32))) := V_b5
  have ne_b1_b5 : b1 ≠ b5 := fun z => absurd V_b1.lt (by rw [z, qz5]; exact Nat.lt_irrefl _)
  have ne_b2_b5 : b2 ≠ b5 := fun z => absurd V_b2.lt (by rw [z, qz5]; exact Nat.lt_irrefl _)
  have ne_b3_b5 : b3 ≠ b5 := fun z => absurd V_b3.lt (by rw [z, qz5]; exact Nat.lt_irrefl _)
  have ne_b4_b5 : b4 ≠ b5 := fun z => absurd V_b4.lt (by rw [z, qz5]; exact Nat.lt_irrefl _)
  have V_b1 := V_b1.ext E5
  have V_b2 := V_b2.ext E5
  have V_b3 := V_b3.ext E5
  have V_b4 := V_b4.ext E5
  show Go _ _ _ _ T5 (mkF m 35 #[.val (.long q1), .second, .val (.long q2), .second, .val (.long q3), .second, .val (.long q4), .second, .val (.long q5), .second, .val (.long q6), .second, .val (.int zn), .val (.ref b1), .val (.ref b2), .val (.ref b3), .val (.ref b4), .unset, .unset, .unset, .unset, .unset, .unset] [(.ref b5)])
  refine Go.st (fun t k => XS.astore X5.here hx rfl (hb hby at_35) rfl rfl (l' := #[.val (.long q1), .second, .val (.long q2), .second, .val (.long q3), .second, .val (.long q4), .second, .val (.long q5), .second, .val (.long q6), .second, .val (.int zn), .val (.ref b1), .val (.ref b2), .val (.ref b3), .val (.ref b4), .val (.ref b5), .unset, .unset, .unset, .unset, .unset]) rfl k) ?_
  show Go _ _ _ _ T5 (mkF m 37 #[.val (.long q1), .second, .val (.long q2), .second, .val (.long q3), .second, .val (.long q4), .second, .val (.long q5), .second, .val (.long q6), .second, .val (.int zn), .val (.ref b1), .val (.ref b2), .val (.ref b3), .val (.ref b4), .val (.ref b5), .unset, .unset, .unset, .unset, .unset] [])
  refine Go.st (fun t k => XS.iload X5.here hx rfl (hb hby at_37) rfl k) ?_
  show Go _ _ _ _ T5 (mkF m 39 #[.val (.long q1), .second, .val (.long q2), .second, .val (.long q3), .second, .val (.long q4), .second, .val (.long q5), .second, .val (.long q6), .second, .val (.int zn), .val (.ref b1), .val (.ref b2), .val (.ref b3), .val (.ref b4), .val (.ref b5), .unset, .unset, .unset, .unset, .unset] [(.int zn)])
  refine goNew X5 hx hZ (hw _ (List.mem_of_getElem? (i := 0) rfl)) e5 Z5 hz0 hz1 3 (own_le3 hn) (by decide) (by decide) (by decide) (g := (mkF m 39 #[.val (.long q1), .second, .val (.long q2), .second, .val (.long q3), .second, .val (.long q4), .second, .val (.long q5), .second, .val (.long q6), .second, .val (.int zn), .val (.ref b1), .val (.ref b2), .val (.ref b3), .val (.ref b4), .val (.ref b5), .unset, .unset, .unset, .unset, .unset] [(.int zn)])) rfl rfl (hb hby at_39) ?_
  intro T6 h6 b6 X6 e6 E6 qz6 g_b6 Z6 V_b6
  replace V_b6 : BA Z h6 b6 .int n (fun _ => (.int (0 : Int32))) := V_b6
  have ne_b1_b6 : b1 ≠ b6 := fun z => absurd V_b1.lt (by rw [z, qz6]; exact Nat.lt_irrefl _)
  have ne_b2_b6 : b2 ≠ b6 := fun z => absurd V_b2.lt (by rw [z, qz6]; exact Nat.lt_irrefl _)
  have ne_b3_b6 : b3 ≠ b6 := fun z => absurd V_b3.lt (by rw [z, qz6]; exact Nat.lt_irrefl _)
  have ne_b4_b6 : b4 ≠ b6 := fun z => absurd V_b4.lt (by rw [z, qz6]; exact Nat.lt_irrefl _)
  have ne_b5_b6 : b5 ≠ b6 := fun z => absurd V_b5.lt (by rw [z, qz6]; exact Nat.lt_irrefl _)
  have V_b1 := V_b1.ext E6
  have V_b2 := V_b2.ext E6
  have V_b3 := V_b3.ext E6
  have V_b4 := V_b4.ext E6
  have V_b5 := V_b5.ext E6
  show Go _ _ _ _ T6 (mkF m 41 #[.val (.long q1), .second, .val (.long q2), .second, .val (.long q3), .second, .val (.long q4), .second, .val (.long q5), .second, .val (.long q6), .second, .val (.int zn), .val (.ref b1), .val (.ref b2), .val (.ref b3), .val (.ref b4), .val (.ref b5), .unset, .unset, .unset, .unset, .unset] [(.ref b6)])
  refine Go.st (fun t k => XS.astore X6.here hx rfl (hb hby at_41) rfl rfl (l' := #[.val (.long q1), .second, .val (.long q2), .second, .val (.long q3), .second, .val (.long q4), .second, .val (.long q5), .second, .val (.long q6), .second, .val (.int zn), .val (.ref b1), .val (.ref b2), .val (.ref b3), .val (.ref b4), .val (.ref b5), .val (.ref b6), .unset, .unset, .unset, .unset]) rfl k) ?_
  show Go _ _ _ _ T6 (mkF m 43 #[.val (.long q1), .second, .val (.long q2), .second, .val (.long q3), .second, .val (.long q4), .second, .val (.long q5), .second, .val (.long q6), .second, .val (.int zn), .val (.ref b1), .val (.ref b2), .val (.ref b3), .val (.ref b4), .val (.ref b5), .val (.ref b6), .unset, .unset, .unset, .unset] [])
  refine Go.st (fun t k => XS.aload X6.here hx rfl (hb hby at_43) rfl rfl k) ?_
  show Go _ _ _ _ T6 (mkF m 45 #[.val (.long q1), .second, .val (.long q2), .second, .val (.long q3), .second, .val (.long q4), .second, .val (.long q5), .second, .val (.long q6), .second, .val (.int zn), .val (.ref b1), .val (.ref b2), .val (.ref b3), .val (.ref b4), .val (.ref b5), .val (.ref b6), .unset, .unset, .unset, .unset] [(.ref b1)])
  refine Go.st (fun t k => XS.aload X6.here hx rfl (hb hby at_45) rfl rfl k) ?_
  show Go _ _ _ _ T6 (mkF m 47 #[.val (.long q1), .second, .val (.long q2), .second, .val (.long q3), .second, .val (.long q4), .second, .val (.long q5), .second, .val (.long q6), .second, .val (.int zn), .val (.ref b1), .val (.ref b2), .val (.ref b3), .val (.ref b4), .val (.ref b5), .val (.ref b6), .unset, .unset, .unset, .unset] [(.ref b2), (.ref b1)])
  refine Go.st (fun t k => XS.aload X6.here hx rfl (hb hby at_47) rfl rfl k) ?_
  show Go _ _ _ _ T6 (mkF m 49 #[.val (.long q1), .second, .val (.long q2), .second, .val (.long q3), .second, .val (.long q4), .second, .val (.long q5), .second, .val (.long q6), .second, .val (.int zn), .val (.ref b1), .val (.ref b2), .val (.ref b3), .val (.ref b4), .val (.ref b5), .val (.ref b6), .unset, .unset, .unset, .unset] [(.ref b3), (.ref b2), (.ref b1)])
  refine Go.st (fun t k => XS.lloadN X6.here hx rfl (hb hby at_49) rfl k) ?_
  show Go _ _ _ _ T6 (mkF m 50 #[.val (.long q1), .second, .val (.long q2), .second, .val (.long q3), .second, .val (.long q4), .second, .val (.long q5), .second, .val (.long q6), .second, .val (.int zn), .val (.ref b1), .val (.ref b2), .val (.ref b3), .val (.ref b4), .val (.ref b5), .val (.ref b6), .unset, .unset, .unset, .unset] [(.long q1), (.ref b3), (.ref b2), (.ref b1)])
  refine Go.st (fun t k => XS.lloadN X6.here hx rfl (hb hby at_50) rfl k) ?_
  show Go _ _ _ _ T6 (mkF m 51 #[.val (.long q1), .second, .val (.long q2), .second, .val (.long q3), .second, .val (.long q4), .second, .val (.long q5), .second, .val (.long q6), .second, .val (.int zn), .val (.ref b1), .val (.ref b2), .val (.ref b3), .val (.ref b4), .val (.ref b5), .val (.ref b6), .unset, .unset, .unset, .unset] [(.long q2), (.long q1), (.ref b3), (.ref b2), (.ref b1)])
  refine Go.st (fun t k => XS.lload X6.here hx rfl (hb hby at_51) rfl k) ?_
  show Go _ _ _ _ T6 (mkF m 53 #[.val (.long q1), .second, .val (.long q2), .second, .val (.long q3), .second, .val (.long q4), .second, .val (.long q5), .second, .val (.long q6), .second, .val (.int zn), .val (.ref b1), .val (.ref b2), .val (.ref b3), .val (.ref b4), .val (.ref b5), .val (.ref b6), .unset, .unset, .unset, .unset] [(.long q3), (.long q2), (.long q1), (.ref b3), (.ref b2), (.ref b1)])
  refine Go.st (fun t k => XS.lload X6.here hx rfl (hb hby at_53) rfl k) ?_
  show Go _ _ _ _ T6 (mkF m 55 #[.val (.long q1), .second, .val (.long q2), .second, .val (.long q3), .second, .val (.long q4), .second, .val (.long q5), .second, .val (.long q6), .second, .val (.int zn), .val (.ref b1), .val (.ref b2), .val (.ref b3), .val (.ref b4), .val (.ref b5), .val (.ref b6), .unset, .unset, .unset, .unset] [(.long q4), (.long q3), (.long q2), (.long q1), (.ref b3), (.ref b2), (.ref b1)])
  refine Go.st (fun t k => XS.lload X6.here hx rfl (hb hby at_55) rfl k) ?_
  show Go _ _ _ _ T6 (mkF m 57 #[.val (.long q1), .second, .val (.long q2), .second, .val (.long q3), .second, .val (.long q4), .second, .val (.long q5), .second, .val (.long q6), .second, .val (.int zn), .val (.ref b1), .val (.ref b2), .val (.ref b3), .val (.ref b4), .val (.ref b5), .val (.ref b6), .unset, .unset, .unset, .unset] [(.long q5), (.long q4), (.long q3), (.long q2), (.long q1), (.ref b3), (.ref b2), (.ref b1)])
  refine Go.st (fun t k => XS.lload X6.here hx rfl (hb hby at_57) rfl k) ?_
  show Go _ _ _ _ T6 (mkF m 59 #[.val (.long q1), .second, .val (.long q2), .second, .val (.long q3), .second, .val (.long q4), .second, .val (.long q5), .second, .val (.long q6), .second, .val (.int zn), .val (.ref b1), .val (.ref b2), .val (.ref b3), .val (.ref b4), .val (.ref b5), .val (.ref b6), .unset, .unset, .unset, .unset] [(.long q6), (.long q5), (.long q4), (.long q3), (.long q2), (.long q1), (.ref b3), (.ref b2), (.ref b1)])
  refine goS X6 hx hZ (y := (⟨"com/example/counterpath/counterpath/util/CombinationsNextPinLaw", "fill", "([I[I[IJJJJJJ)V"⟩ : MethodName)) hown (hw _ (List.mem_of_getElem? (i := 1) rfl)) (hw _ (List.mem_of_getElem? (i := 2) rfl)) (hw _ (List.mem_of_getElem? (i := 3) rfl)) (hw _ (List.mem_of_getElem? (i := 4) rfl)) (by decide) (rm1 l Z a0 hw b1 b2 b3 q1 q2 q3 q4 q5 q6 h6 n0 Z6 n _ _ _ hn V_b1 V_b2 V_b3 g_b1 g_b2 g_b3 ne_b1_b2 ne_b1_b3 ne_b2_b3) e6 N0 0 (by decide) (by decide) (by decide) (by decide) (g := (mkF m 59 #[.val (.long q1), .second, .val (.long q2), .second, .val (.long q3), .second, .val (.long q4), .second, .val (.long q5), .second, .val (.long q6), .second, .val (.int zn), .val (.ref b1), .val (.ref b2), .val (.ref b3), .val (.ref b4), .val (.ref b5), .val (.ref b6), .unset, .unset, .unset, .unset] [(.long q6), (.long q5), (.long q4), (.long q3), (.long q2), (.long q1), (.ref b3), (.ref b2), (.ref b1)])) rfl (by rw [hml]; rfl) [(.ref b1), (.ref b2), (.ref b3), (.long q1), (.long q2), (.long q3), (.long q4), (.long q5), (.long q6)] [] (lenOf pd0_0 rfl) rfl rfl (by show 2 * 0 + _ ≤ _; exact Nat.le_of_eq rfl) (hb hby at_59) ?_
  intro T7 v7 L7 M7 X7 N7 hq7
  obtain ⟨rfl, N7q, K7, W7a, W7b, W7c⟩ := hq7
  replace N7 := N7 N7q
  have Z7 := Nat.le_trans Z6 K7.1
  have V_b4 := V_b4.keep K7 (ninS (Ne.symm ne_b1_b4) (ninS (Ne.symm ne_b2_b4) (ninS (Ne.symm ne_b3_b4) nin0)))
  have V_b5 := V_b5.keep K7 (ninS (Ne.symm ne_b1_b5) (ninS (Ne.symm ne_b2_b5) (ninS (Ne.symm ne_b3_b5) nin0)))
  have V_b6 := V_b6.keep K7 (ninS (Ne.symm ne_b1_b6) (ninS (Ne.symm ne_b2_b6) (ninS (Ne.symm ne_b3_b6) nin0)))
  have V_b1 := W7a
  have V_b2 := W7b
  have V_b3 := W7c
  show Go _ _ _ _ T7 (mkF m 62 #[.val (.long q1), .second, .val (.long q2), .second, .val (.long q3), .second, .val (.long q4), .second, .val (.long q5), .second, .val (.long q6), .second, .val (.int zn), .val (.ref b1), .val (.ref b2), .val (.ref b3), .val (.ref b4), .val (.ref b5), .val (.ref b6), .unset, .unset, .unset, .unset] [])
  refine Go.st (fun t k => XS.aload X7.here hx rfl (hb hby at_62) rfl rfl k) ?_
  show Go _ _ _ _ T7 (mkF m 64 #[.val (.long q1), .second, .val (.long q2), .second, .val (.long q3), .second, .val (.long q4), .second, .val (.long q5), .second, .val (.long q6), .second, .val (.int zn), .val (.ref b1), .val (.ref b2), .val (.ref b3), .val (.ref b4), .val (.ref b5), .val (.ref b6), .unset, .unset, .unset, .unset] [(.ref b4)])
  refine Go.st (fun t k => XS.aload X7.here hx rfl (hb hby at_64) rfl rfl k) ?_
  show Go _ _ _ _ T7 (mkF m 66 #[.val (.long q1), .second, .val (.long q2), .second, .val (.long q3), .second, .val (.long q4), .second, .val (.long q5), .second, .val (.long q6), .second, .val (.int zn), .val (.ref b1), .val (.ref b2), .val (.ref b3), .val (.ref b4), .val (.ref b5), .val (.ref b6), .unset, .unset, .unset, .unset] [(.ref b5), (.ref b4)])
  refine Go.st (fun t k => XS.aload X7.here hx rfl (hb hby at_66) rfl rfl k) ?_
  show Go _ _ _ _ T7 (mkF m 68 #[.val (.long q1), .second, .val (.long q2), .second, .val (.long q3), .second, .val (.long q4), .second, .val (.long q5), .second, .val (.long q6), .second, .val (.int zn), .val (.ref b1), .val (.ref b2), .val (.ref b3), .val (.ref b4), .val (.ref b5), .val (.ref b6), .unset, .unset, .unset, .unset] [(.ref b6), (.ref b5), (.ref b4)])
  refine Go.st (fun t k => XS.lloadN X7.here hx rfl (hb hby at_68) rfl k) ?_
  show Go _ _ _ _ T7 (mkF m 69 #[.val (.long q1), .second, .val (.long q2), .second, .val (.long q3), .second, .val (.long q4), .second, .val (.long q5), .second, .val (.long q6), .second, .val (.int zn), .val (.ref b1), .val (.ref b2), .val (.ref b3), .val (.ref b4), .val (.ref b5), .val (.ref b6), .unset, .unset, .unset, .unset] [(.long q1), (.ref b6), (.ref b5), (.ref b4)])
  refine Go.st (fun t k => XS.lloadN X7.here hx rfl (hb hby at_69) rfl k) ?_
  show Go _ _ _ _ T7 (mkF m 70 #[.val (.long q1), .second, .val (.long q2), .second, .val (.long q3), .second, .val (.long q4), .second, .val (.long q5), .second, .val (.long q6), .second, .val (.int zn), .val (.ref b1), .val (.ref b2), .val (.ref b3), .val (.ref b4), .val (.ref b5), .val (.ref b6), .unset, .unset, .unset, .unset] [(.long q2), (.long q1), (.ref b6), (.ref b5), (.ref b4)])
  refine Go.st (fun t k => XS.lload X7.here hx rfl (hb hby at_70) rfl k) ?_
  show Go _ _ _ _ T7 (mkF m 72 #[.val (.long q1), .second, .val (.long q2), .second, .val (.long q3), .second, .val (.long q4), .second, .val (.long q5), .second, .val (.long q6), .second, .val (.int zn), .val (.ref b1), .val (.ref b2), .val (.ref b3), .val (.ref b4), .val (.ref b5), .val (.ref b6), .unset, .unset, .unset, .unset] [(.long q3), (.long q2), (.long q1), (.ref b6), (.ref b5), (.ref b4)])
  refine Go.st (fun t k => XS.lload X7.here hx rfl (hb hby at_72) rfl k) ?_
  show Go _ _ _ _ T7 (mkF m 74 #[.val (.long q1), .second, .val (.long q2), .second, .val (.long q3), .second, .val (.long q4), .second, .val (.long q5), .second, .val (.long q6), .second, .val (.int zn), .val (.ref b1), .val (.ref b2), .val (.ref b3), .val (.ref b4), .val (.ref b5), .val (.ref b6), .unset, .unset, .unset, .unset] [(.long q4), (.long q3), (.long q2), (.long q1), (.ref b6), (.ref b5), (.ref b4)])
  refine Go.st (fun t k => XS.lload X7.here hx rfl (hb hby at_74) rfl k) ?_
  show Go _ _ _ _ T7 (mkF m 76 #[.val (.long q1), .second, .val (.long q2), .second, .val (.long q3), .second, .val (.long q4), .second, .val (.long q5), .second, .val (.long q6), .second, .val (.int zn), .val (.ref b1), .val (.ref b2), .val (.ref b3), .val (.ref b4), .val (.ref b5), .val (.ref b6), .unset, .unset, .unset, .unset] [(.long q5), (.long q4), (.long q3), (.long q2), (.long q1), (.ref b6), (.ref b5), (.ref b4)])
  refine Go.st (fun t k => XS.lload X7.here hx rfl (hb hby at_76) rfl k) ?_
  show Go _ _ _ _ T7 (mkF m 78 #[.val (.long q1), .second, .val (.long q2), .second, .val (.long q3), .second, .val (.long q4), .second, .val (.long q5), .second, .val (.long q6), .second, .val (.int zn), .val (.ref b1), .val (.ref b2), .val (.ref b3), .val (.ref b4), .val (.ref b5), .val (.ref b6), .unset, .unset, .unset, .unset] [(.long q6), (.long q5), (.long q4), (.long q3), (.long q2), (.long q1), (.ref b6), (.ref b5), (.ref b4)])
  refine goS X7 hx hZ (y := (⟨"com/example/counterpath/counterpath/util/CombinationsNextPinLaw", "fill", "([I[I[IJJJJJJ)V"⟩ : MethodName)) hown (hw _ (List.mem_of_getElem? (i := 1) rfl)) (hw _ (List.mem_of_getElem? (i := 2) rfl)) (hw _ (List.mem_of_getElem? (i := 3) rfl)) (hw _ (List.mem_of_getElem? (i := 4) rfl)) (by decide) (rm1 l Z a0 hw b4 b5 b6 q1 q2 q3 q4 q5 q6 T7.heap n0 Z7 n _ _ _ hn V_b4 V_b5 V_b6 g_b4 g_b5 g_b6 ne_b4_b5 ne_b4_b6 ne_b5_b6) rfl N7 0 (by decide) (by decide) (by decide) (by decide) (g := (mkF m 78 #[.val (.long q1), .second, .val (.long q2), .second, .val (.long q3), .second, .val (.long q4), .second, .val (.long q5), .second, .val (.long q6), .second, .val (.int zn), .val (.ref b1), .val (.ref b2), .val (.ref b3), .val (.ref b4), .val (.ref b5), .val (.ref b6), .unset, .unset, .unset, .unset] [(.long q6), (.long q5), (.long q4), (.long q3), (.long q2), (.long q1), (.ref b6), (.ref b5), (.ref b4)])) rfl (by rw [hml]; rfl) [(.ref b4), (.ref b5), (.ref b6), (.long q1), (.long q2), (.long q3), (.long q4), (.long q5), (.long q6)] [] (lenOf pd0_0 rfl) rfl rfl (by show 2 * 0 + _ ≤ _; exact Nat.le_of_eq rfl) (hb hby at_78) ?_
  intro T8 v8 L8 M8 X8 N8 hq8
  obtain ⟨rfl, N8q, K8, W8a, W8b, W8c⟩ := hq8
  replace N8 := N8 N8q
  have Z8 := Nat.le_trans Z7 K8.1
  have V_b1 := V_b1.keep K8 (ninS ne_b1_b4 (ninS ne_b1_b5 (ninS ne_b1_b6 nin0)))
  have V_b2 := V_b2.keep K8 (ninS ne_b2_b4 (ninS ne_b2_b5 (ninS ne_b2_b6 nin0)))
  have V_b3 := V_b3.keep K8 (ninS ne_b3_b4 (ninS ne_b3_b5 (ninS ne_b3_b6 nin0)))
  have V_b4 := W8a
  have V_b5 := W8b
  have V_b6 := W8c
  show Go _ _ _ _ T8 (mkF m 81 #[.val (.long q1), .second, .val (.long q2), .second, .val (.long q3), .second, .val (.long q4), .second, .val (.long q5), .second, .val (.long q6), .second, .val (.int zn), .val (.ref b1), .val (.ref b2), .val (.ref b3), .val (.ref b4), .val (.ref b5), .val (.ref b6), .unset, .unset, .unset, .unset] [])
  refine Go.st (fun t k => XS.aload X8.here hx rfl (hb hby at_81) rfl rfl k) ?_
  show Go _ _ _ _ T8 (mkF m 83 #[.val (.long q1), .second, .val (.long q2), .second, .val (.long q3), .second, .val (.long q4), .second, .val (.long q5), .second, .val (.long q6), .second, .val (.int zn), .val (.ref b1), .val (.ref b2), .val (.ref b3), .val (.ref b4), .val (.ref b5), .val (.ref b6), .unset, .unset, .unset, .unset] [(.ref b6)])
  refine Go.st (fun t k => XS.aload X8.here hx rfl (hb hby at_83) rfl rfl k) ?_
  show Go _ _ _ _ T8 (mkF m 85 #[.val (.long q1), .second, .val (.long q2), .second, .val (.long q3), .second, .val (.long q4), .second, .val (.long q5), .second, .val (.long q6), .second, .val (.int zn), .val (.ref b1), .val (.ref b2), .val (.ref b3), .val (.ref b4), .val (.ref b5), .val (.ref b6), .unset, .unset, .unset, .unset] [(.ref b5), (.ref b6)])
  refine goS X8 hx hZ (y := (⟨"com/example/counterpath/counterpath/util/CombinationsNextPinLaw", "same", "([I[I)Z"⟩ : MethodName)) hown (hw _ (List.mem_of_getElem? (i := 5) rfl)) (hw _ (List.mem_of_getElem? (i := 6) rfl)) (hw _ (List.mem_of_getElem? (i := 3) rfl)) (hw _ (List.mem_of_getElem? (i := 7) rfl)) (by decide) (rm2 l Z a0 hw b6 b5 T8.heap n0 Z8 n (fun i => own_val (own_s3 q1 q3 q5 i) (own_s3 q2 q4 q6 i)) (fun i => own_hi (own_s3 q1 q3 q5 i)) hn V_b6 V_b5) rfl N8 0 (by decide) (by decide) (by decide) (by decide) (g := (mkF m 85 #[.val (.long q1), .second, .val (.long q2), .second, .val (.long q3), .second, .val (.long q4), .second, .val (.long q5), .second, .val (.long q6), .second, .val (.int zn), .val (.ref b1), .val (.ref b2), .val (.ref b3), .val (.ref b4), .val (.ref b5), .val (.ref b6), .unset, .unset, .unset, .unset] [(.ref b5), (.ref b6)])) rfl (by rw [hml]; rfl) [(.ref b6), (.ref b5)] [] (lenOf pd0_1 rfl) rfl rfl (by show 2 * 0 + _ ≤ _; exact Nat.le_of_eq rfl) (hb hby at_85) ?_
  intro T9 v9 L9 M9 X9 N9 hq9
  obtain ⟨hq9, N9q, e9⟩ := hq9
  replace N9 := N9 N9q
  rcases hq9 with ⟨hr9, rfl⟩ | ⟨hr9, rfl⟩
  ·
    show Go _ _ _ _ T9 (mkF m 88 #[.val (.long q1), .second, .val (.long q2), .second, .val (.long q3), .second, .val (.long q4), .second, .val (.long q5), .second, .val (.long q6), .second, .val (.int zn), .val (.ref b1), .val (.ref b2), .val (.ref b3), .val (.ref b4), .val (.ref b5), .val (.ref b6), .unset, .unset, .unset, .unset] [(.int (1 : Int32))])
    refine Go.st (fun t k => XS.istore X9.here hx rfl (hb hby at_88) rfl (l' := #[.val (.long q1), .second, .val (.long q2), .second, .val (.long q3), .second, .val (.long q4), .second, .val (.long q5), .second, .val (.long q6), .second, .val (.int zn), .val (.ref b1), .val (.ref b2), .val (.ref b3), .val (.ref b4), .val (.ref b5), .val (.ref b6), .val (.int (1 : Int32)), .unset, .unset, .unset]) rfl k) ?_
    show Go _ _ _ _ T9 (mkF m 90 #[.val (.long q1), .second, .val (.long q2), .second, .val (.long q3), .second, .val (.long q4), .second, .val (.long q5), .second, .val (.long q6), .second, .val (.int zn), .val (.ref b1), .val (.ref b2), .val (.ref b3), .val (.ref b4), .val (.ref b5), .val (.ref b6), .val (.int (1 : Int32)), .unset, .unset, .unset] [])
    refine Go.st (fun t k => XS.aload X9.here hx rfl (hb hby at_90) rfl rfl k) ?_
    show Go _ _ _ _ T9 (mkF m 92 #[.val (.long q1), .second, .val (.long q2), .second, .val (.long q3), .second, .val (.long q4), .second, .val (.long q5), .second, .val (.long q6), .second, .val (.int zn), .val (.ref b1), .val (.ref b2), .val (.ref b3), .val (.ref b4), .val (.ref b5), .val (.ref b6), .val (.int (1 : Int32)), .unset, .unset, .unset] [(.ref b6)])
    refine Go.st (fun t k => XS.aload X9.here hx rfl (hb hby at_92) rfl rfl k) ?_
    show Go _ _ _ _ T9 (mkF m 94 #[.val (.long q1), .second, .val (.long q2), .second, .val (.long q3), .second, .val (.long q4), .second, .val (.long q5), .second, .val (.long q6), .second, .val (.int zn), .val (.ref b1), .val (.ref b2), .val (.ref b3), .val (.ref b4), .val (.ref b5), .val (.ref b6), .val (.int (1 : Int32)), .unset, .unset, .unset] [(.ref b4), (.ref b6)])
    refine Go.st (fun t k => XS.aload X9.here hx rfl (hb hby at_94) rfl rfl k) ?_
    show Go _ _ _ _ T9 (mkF m 96 #[.val (.long q1), .second, .val (.long q2), .second, .val (.long q3), .second, .val (.long q4), .second, .val (.long q5), .second, .val (.long q6), .second, .val (.int zn), .val (.ref b1), .val (.ref b2), .val (.ref b3), .val (.ref b4), .val (.ref b5), .val (.ref b6), .val (.int (1 : Int32)), .unset, .unset, .unset] [(.ref b5), (.ref b4), (.ref b6)])
    refine goS X9 hx hZ (y := (⟨"com/example/counterpath/counterpath/util/CombinationsNextPinLaw", "index", "([I[I[I)J"⟩ : MethodName)) hown (hw _ (List.mem_of_getElem? (i := 8) rfl)) (hw _ (List.mem_of_getElem? (i := 9) rfl)) (hw _ (List.mem_of_getElem? (i := 3) rfl)) (hw _ (List.mem_of_getElem? (i := 10) rfl)) (by decide) (rm3 l Z a0 hw b6 b4 b5 T8.heap n0 Z8 n (fun i => own_val (own_s3 q1 q3 q5 i) (own_s3 q2 q4 q6 i)) (fun i => own_lo (own_s3 q1 q3 q5 i)) (fun i => own_hi (own_s3 q1 q3 q5 i)) hn V_b6 V_b4 V_b5) e9 N9 0 (by decide) (by decide) (by decide) (by decide) (g := (mkF m 96 #[.val (.long q1), .second, .val (.long q2), .second, .val (.long q3), .second, .val (.long q4), .second, .val (.long q5), .second, .val (.long q6), .second, .val (.int zn), .val (.ref b1), .val (.ref b2), .val (.ref b3), .val (.ref b4), .val (.ref b5), .val (.ref b6), .val (.int (1 : Int32)), .unset, .unset, .unset] [(.ref b5), (.ref b4), (.ref b6)])) rfl (by rw [hml]; rfl) [(.ref b6), (.ref b4), (.ref b5)] [] (lenOf pd0_2 rfl) rfl rfl (by show 2 * 0 + _ ≤ _; exact Nat.le_of_eq rfl) (hb hby at_96) ?_
    intro T10 v10 L10 M10 X10 N10 hq10
    obtain ⟨rfl, N10q, e10⟩ := hq10
    replace N10 := N10 N10q
    show Go _ _ _ _ T10 (mkF m 99 #[.val (.long q1), .second, .val (.long q2), .second, .val (.long q3), .second, .val (.long q4), .second, .val (.long q5), .second, .val (.long q6), .second, .val (.int zn), .val (.ref b1), .val (.ref b2), .val (.ref b3), .val (.ref b4), .val (.ref b5), .val (.ref b6), .val (.int (1 : Int32)), .unset, .unset, .unset] [(.long (own_idx n (fun i => own_val (own_s3 q1 q3 q5 i) (own_s3 q2 q4 q6 i)) (fun i => own_lo (own_s3 q1 q3 q5 i)) (fun i => own_hi (own_s3 q1 q3 q5 i))))])
    refine Go.st (fun t k => XS.lstore X10.here hx rfl (hb hby at_99) rfl (l' := #[.val (.long q1), .second, .val (.long q2), .second, .val (.long q3), .second, .val (.long q4), .second, .val (.long q5), .second, .val (.long q6), .second, .val (.int zn), .val (.ref b1), .val (.ref b2), .val (.ref b3), .val (.ref b4), .val (.ref b5), .val (.ref b6), .val (.int (1 : Int32)), .val (.long (own_idx n (fun i => own_val (own_s3 q1 q3 q5 i) (own_s3 q2 q4 q6 i)) (fun i => own_lo (own_s3 q1 q3 q5 i)) (fun i => own_hi (own_s3 q1 q3 q5 i)))), .second, .unset]) rfl k) ?_
    show Go _ _ _ _ T10 (mkF m 101 #[.val (.long q1), .second, .val (.long q2), .second, .val (.long q3), .second, .val (.long q4), .second, .val (.long q5), .second, .val (.long q6), .second, .val (.int zn), .val (.ref b1), .val (.ref b2), .val (.ref b3), .val (.ref b4), .val (.ref b5), .val (.ref b6), .val (.int (1 : Int32)), .val (.long (own_idx n (fun i => own_val (own_s3 q1 q3 q5 i) (own_s3 q2 q4 q6 i)) (fun i => own_lo (own_s3 q1 q3 q5 i)) (fun i => own_hi (own_s3 q1 q3 q5 i)))), .second, .unset] [])
    refine Go.st (fun t k => XS.aload X10.here hx rfl (hb hby at_101) rfl rfl k) ?_
    show Go _ _ _ _ T10 (mkF m 103 #[.val (.long q1), .second, .val (.long q2), .second, .val (.long q3), .second, .val (.long q4), .second, .val (.long q5), .second, .val (.long q6), .second, .val (.int zn), .val (.ref b1), .val (.ref b2), .val (.ref b3), .val (.ref b4), .val (.ref b5), .val (.ref b6), .val (.int (1 : Int32)), .val (.long (own_idx n (fun i => own_val (own_s3 q1 q3 q5 i) (own_s3 q2 q4 q6 i)) (fun i => own_lo (own_s3 q1 q3 q5 i)) (fun i => own_hi (own_s3 q1 q3 q5 i)))), .second, .unset] [(.ref b3)])
    refine Go.st (fun t k => XS.aload X10.here hx rfl (hb hby at_103) rfl rfl k) ?_
    show Go _ _ _ _ T10 (mkF m 105 #[.val (.long q1), .second, .val (.long q2), .second, .val (.long q3), .second, .val (.long q4), .second, .val (.long q5), .second, .val (.long q6), .second, .val (.int zn), .val (.ref b1), .val (.ref b2), .val (.ref b3), .val (.ref b4), .val (.ref b5), .val (.ref b6), .val (.int (1 : Int32)), .val (.long (own_idx n (fun i => own_val (own_s3 q1 q3 q5 i) (own_s3 q2 q4 q6 i)) (fun i => own_lo (own_s3 q1 q3 q5 i)) (fun i => own_hi (own_s3 q1 q3 q5 i)))), .second, .unset] [(.ref b1), (.ref b3)])
    refine Go.st (fun t k => XS.aload X10.here hx rfl (hb hby at_105) rfl rfl k) ?_
    show Go _ _ _ _ T10 (mkF m 107 #[.val (.long q1), .second, .val (.long q2), .second, .val (.long q3), .second, .val (.long q4), .second, .val (.long q5), .second, .val (.long q6), .second, .val (.int zn), .val (.ref b1), .val (.ref b2), .val (.ref b3), .val (.ref b4), .val (.ref b5), .val (.ref b6), .val (.int (1 : Int32)), .val (.long (own_idx n (fun i => own_val (own_s3 q1 q3 q5 i) (own_s3 q2 q4 q6 i)) (fun i => own_lo (own_s3 q1 q3 q5 i)) (fun i => own_hi (own_s3 q1 q3 q5 i)))), .second, .unset] [(.ref b2), (.ref b1), (.ref b3)])
    refine goS X10 hx hZ (y := (⟨"com/example/counterpath/counterpath/util/Combinations", "next", "([I[I[I)Z"⟩ : MethodName)) hown (hw _ (List.mem_of_getElem? (i := 11) rfl)) (hw _ (List.mem_of_getElem? (i := 12) rfl)) (hw _ (List.mem_of_getElem? (i := 13) rfl)) (hw _ (List.mem_of_getElem? (i := 14) rfl)) (by decide) (rm4 l Z a0 hw b3 b1 b2 T8.heap n0 Z8 n (fun i => own_val (own_s3 q1 q3 q5 i) (own_s3 q2 q4 q6 i)) (fun i => own_lo (own_s3 q1 q3 q5 i)) (fun i => own_hi (own_s3 q1 q3 q5 i)) hn V_b3 V_b1 V_b2 g_b3 (Ne.symm ne_b1_b3) (Ne.symm ne_b2_b3)) e10 N10 0 (by decide) (by decide) (by decide) (by decide) (g := (mkF m 107 #[.val (.long q1), .second, .val (.long q2), .second, .val (.long q3), .second, .val (.long q4), .second, .val (.long q5), .second, .val (.long q6), .second, .val (.int zn), .val (.ref b1), .val (.ref b2), .val (.ref b3), .val (.ref b4), .val (.ref b5), .val (.ref b6), .val (.int (1 : Int32)), .val (.long (own_idx n (fun i => own_val (own_s3 q1 q3 q5 i) (own_s3 q2 q4 q6 i)) (fun i => own_lo (own_s3 q1 q3 q5 i)) (fun i => own_hi (own_s3 q1 q3 q5 i)))), .second, .unset] [(.ref b2), (.ref b1), (.ref b3)])) rfl (by rw [hml]; rfl) [(.ref b3), (.ref b1), (.ref b2)] [] (lenOf pd0_3 rfl) rfl rfl (by show 2 * 0 + _ ≤ _; exact Nat.le_of_eq rfl) (hb hby at_107) ?_
    intro T11 v11 L11 M11 X11 N11 hq11
    obtain ⟨N11q, K11, hq11⟩ := hq11
    replace N11 := N11 N11q
    have Z11 := Nat.le_trans Z8 K11.1
    have V_b1 := V_b1.keep K11 (ninS ne_b1_b3 nin0)
    have V_b2 := V_b2.keep K11 (ninS ne_b2_b3 nin0)
    have V_b4 := V_b4.keep K11 (ninS (Ne.symm ne_b3_b4) nin0)
    have V_b5 := V_b5.keep K11 (ninS (Ne.symm ne_b3_b5) nin0)
    have V_b6 := V_b6.keep K11 (ninS (Ne.symm ne_b3_b6) nin0)
    rcases hq11 with ⟨kk, hk1, hk2, hk3, rfl, V_b3⟩ | ⟨hall, rfl, V_b3⟩
    ·
      exact absurd (hr9 kk hk1) hk3
    ·
      show Go _ _ _ _ T11 (mkF m 110 #[.val (.long q1), .second, .val (.long q2), .second, .val (.long q3), .second, .val (.long q4), .second, .val (.long q5), .second, .val (.long q6), .second, .val (.int zn), .val (.ref b1), .val (.ref b2), .val (.ref b3), .val (.ref b4), .val (.ref b5), .val (.ref b6), .val (.int (1 : Int32)), .val (.long (own_idx n (fun i => own_val (own_s3 q1 q3 q5 i) (own_s3 q2 q4 q6 i)) (fun i => own_lo (own_s3 q1 q3 q5 i)) (fun i => own_hi (own_s3 q1 q3 q5 i)))), .second, .unset] [(.int (0 : Int32))])
      refine Go.st (fun t k => XS.istore X11.here hx rfl (hb hby at_110) rfl (l' := #[.val (.long q1), .second, .val (.long q2), .second, .val (.long q3), .second, .val (.long q4), .second, .val (.long q5), .second, .val (.long q6), .second, .val (.int zn), .val (.ref b1), .val (.ref b2), .val (.ref b3), .val (.ref b4), .val (.ref b5), .val (.ref b6), .val (.int (1 : Int32)), .val (.long (own_idx n (fun i => own_val (own_s3 q1 q3 q5 i) (own_s3 q2 q4 q6 i)) (fun i => own_lo (own_s3 q1 q3 q5 i)) (fun i => own_hi (own_s3 q1 q3 q5 i)))), .second, .val (.int (0 : Int32))]) rfl k) ?_
      show Go _ _ _ _ T11 (mkF m 112 #[.val (.long q1), .second, .val (.long q2), .second, .val (.long q3), .second, .val (.long q4), .second, .val (.long q5), .second, .val (.long q6), .second, .val (.int zn), .val (.ref b1), .val (.ref b2), .val (.ref b3), .val (.ref b4), .val (.ref b5), .val (.ref b6), .val (.int (1 : Int32)), .val (.long (own_idx n (fun i => own_val (own_s3 q1 q3 q5 i) (own_s3 q2 q4 q6 i)) (fun i => own_lo (own_s3 q1 q3 q5 i)) (fun i => own_hi (own_s3 q1 q3 q5 i)))), .second, .val (.int (0 : Int32))] [])
      refine Go.st (fun t k => XS.aload X11.here hx rfl (hb hby at_112) rfl rfl k) ?_
      show Go _ _ _ _ T11 (mkF m 114 #[.val (.long q1), .second, .val (.long q2), .second, .val (.long q3), .second, .val (.long q4), .second, .val (.long q5), .second, .val (.long q6), .second, .val (.int zn), .val (.ref b1), .val (.ref b2), .val (.ref b3), .val (.ref b4), .val (.ref b5), .val (.ref b6), .val (.int (1 : Int32)), .val (.long (own_idx n (fun i => own_val (own_s3 q1 q3 q5 i) (own_s3 q2 q4 q6 i)) (fun i => own_lo (own_s3 q1 q3 q5 i)) (fun i => own_hi (own_s3 q1 q3 q5 i)))), .second, .val (.int (0 : Int32))] [(.ref b1)])
      refine Go.st (fun t k => XS.aload X11.here hx rfl (hb hby at_114) rfl rfl k) ?_
      show Go _ _ _ _ T11 (mkF m 116 #[.val (.long q1), .second, .val (.long q2), .second, .val (.long q3), .second, .val (.long q4), .second, .val (.long q5), .second, .val (.long q6), .second, .val (.int zn), .val (.ref b1), .val (.ref b2), .val (.ref b3), .val (.ref b4), .val (.ref b5), .val (.ref b6), .val (.int (1 : Int32)), .val (.long (own_idx n (fun i => own_val (own_s3 q1 q3 q5 i) (own_s3 q2 q4 q6 i)) (fun i => own_lo (own_s3 q1 q3 q5 i)) (fun i => own_hi (own_s3 q1 q3 q5 i)))), .second, .val (.int (0 : Int32))] [(.ref b4), (.ref b1)])
      refine goS X11 hx hZ (y := (⟨"com/example/counterpath/counterpath/util/CombinationsNextPinLaw", "same", "([I[I)Z"⟩ : MethodName)) hown (hw _ (List.mem_of_getElem? (i := 5) rfl)) (hw _ (List.mem_of_getElem? (i := 6) rfl)) (hw _ (List.mem_of_getElem? (i := 3) rfl)) (hw _ (List.mem_of_getElem? (i := 7) rfl)) (by decide) (rm2 l Z a0 hw b1 b4 T11.heap n0 Z11 n (fun i => own_lo (own_s3 q1 q3 q5 i)) (fun i => own_lo (own_s3 q1 q3 q5 i)) hn V_b1 V_b4) rfl N11 0 (by decide) (by decide) (by decide) (by decide) (g := (mkF m 116 #[.val (.long q1), .second, .val (.long q2), .second, .val (.long q3), .second, .val (.long q4), .second, .val (.long q5), .second, .val (.long q6), .second, .val (.int zn), .val (.ref b1), .val (.ref b2), .val (.ref b3), .val (.ref b4), .val (.ref b5), .val (.ref b6), .val (.int (1 : Int32)), .val (.long (own_idx n (fun i => own_val (own_s3 q1 q3 q5 i) (own_s3 q2 q4 q6 i)) (fun i => own_lo (own_s3 q1 q3 q5 i)) (fun i => own_hi (own_s3 q1 q3 q5 i)))), .second, .val (.int (0 : Int32))] [(.ref b4), (.ref b1)])) rfl (by rw [hml]; rfl) [(.ref b1), (.ref b4)] [] (lenOf pd0_1 rfl) rfl rfl (by show 2 * 0 + _ ≤ _; exact Nat.le_of_eq rfl) (hb hby at_116) ?_
      intro T12 v12 L12 M12 X12 N12 hq12
      obtain ⟨hq12, N12q, e12⟩ := hq12
      replace N12 := N12 N12q
      rcases hq12 with ⟨hr12, rfl⟩ | ⟨hr12, rfl⟩
      ·
        show Go _ _ _ _ T12 (mkF m 119 #[.val (.long q1), .second, .val (.long q2), .second, .val (.long q3), .second, .val (.long q4), .second, .val (.long q5), .second, .val (.long q6), .second, .val (.int zn), .val (.ref b1), .val (.ref b2), .val (.ref b3), .val (.ref b4), .val (.ref b5), .val (.ref b6), .val (.int (1 : Int32)), .val (.long (own_idx n (fun i => own_val (own_s3 q1 q3 q5 i) (own_s3 q2 q4 q6 i)) (fun i => own_lo (own_s3 q1 q3 q5 i)) (fun i => own_hi (own_s3 q1 q3 q5 i)))), .second, .val (.int (0 : Int32))] [(.int (1 : Int32))])
        refine Go.st (fun t k => XS.ifNo X12.here hx rfl (hb hby at_119) rfl (by decide) k) ?_
        show Go _ _ _ _ T12 (mkF m 122 #[.val (.long q1), .second, .val (.long q2), .second, .val (.long q3), .second, .val (.long q4), .second, .val (.long q5), .second, .val (.long q6), .second, .val (.int zn), .val (.ref b1), .val (.ref b2), .val (.ref b3), .val (.ref b4), .val (.ref b5), .val (.ref b6), .val (.int (1 : Int32)), .val (.long (own_idx n (fun i => own_val (own_s3 q1 q3 q5 i) (own_s3 q2 q4 q6 i)) (fun i => own_lo (own_s3 q1 q3 q5 i)) (fun i => own_hi (own_s3 q1 q3 q5 i)))), .second, .val (.int (0 : Int32))] [])
        refine Go.st (fun t k => XS.aload X12.here hx rfl (hb hby at_122) rfl rfl k) ?_
        show Go _ _ _ _ T12 (mkF m 124 #[.val (.long q1), .second, .val (.long q2), .second, .val (.long q3), .second, .val (.long q4), .second, .val (.long q5), .second, .val (.long q6), .second, .val (.int zn), .val (.ref b1), .val (.ref b2), .val (.ref b3), .val (.ref b4), .val (.ref b5), .val (.ref b6), .val (.int (1 : Int32)), .val (.long (own_idx n (fun i => own_val (own_s3 q1 q3 q5 i) (own_s3 q2 q4 q6 i)) (fun i => own_lo (own_s3 q1 q3 q5 i)) (fun i => own_hi (own_s3 q1 q3 q5 i)))), .second, .val (.int (0 : Int32))] [(.ref b2)])
        refine Go.st (fun t k => XS.aload X12.here hx rfl (hb hby at_124) rfl rfl k) ?_
        show Go _ _ _ _ T12 (mkF m 126 #[.val (.long q1), .second, .val (.long q2), .second, .val (.long q3), .second, .val (.long q4), .second, .val (.long q5), .second, .val (.long q6), .second, .val (.int zn), .val (.ref b1), .val (.ref b2), .val (.ref b3), .val (.ref b4), .val (.ref b5), .val (.ref b6), .val (.int (1 : Int32)), .val (.long (own_idx n (fun i => own_val (own_s3 q1 q3 q5 i) (own_s3 q2 q4 q6 i)) (fun i => own_lo (own_s3 q1 q3 q5 i)) (fun i => own_hi (own_s3 q1 q3 q5 i)))), .second, .val (.int (0 : Int32))] [(.ref b5), (.ref b2)])
        refine goS X12 hx hZ (y := (⟨"com/example/counterpath/counterpath/util/CombinationsNextPinLaw", "same", "([I[I)Z"⟩ : MethodName)) hown (hw _ (List.mem_of_getElem? (i := 5) rfl)) (hw _ (List.mem_of_getElem? (i := 6) rfl)) (hw _ (List.mem_of_getElem? (i := 3) rfl)) (hw _ (List.mem_of_getElem? (i := 7) rfl)) (by decide) (rm2 l Z a0 hw b2 b5 T11.heap n0 Z11 n (fun i => own_hi (own_s3 q1 q3 q5 i)) (fun i => own_hi (own_s3 q1 q3 q5 i)) hn V_b2 V_b5) e12 N12 0 (by decide) (by decide) (by decide) (by decide) (g := (mkF m 126 #[.val (.long q1), .second, .val (.long q2), .second, .val (.long q3), .second, .val (.long q4), .second, .val (.long q5), .second, .val (.long q6), .second, .val (.int zn), .val (.ref b1), .val (.ref b2), .val (.ref b3), .val (.ref b4), .val (.ref b5), .val (.ref b6), .val (.int (1 : Int32)), .val (.long (own_idx n (fun i => own_val (own_s3 q1 q3 q5 i) (own_s3 q2 q4 q6 i)) (fun i => own_lo (own_s3 q1 q3 q5 i)) (fun i => own_hi (own_s3 q1 q3 q5 i)))), .second, .val (.int (0 : Int32))] [(.ref b5), (.ref b2)])) rfl (by rw [hml]; rfl) [(.ref b2), (.ref b5)] [] (lenOf pd0_1 rfl) rfl rfl (by show 2 * 0 + _ ≤ _; exact Nat.le_of_eq rfl) (hb hby at_126) ?_
        intro T13 v13 L13 M13 X13 N13 hq13
        obtain ⟨hq13, N13q, e13⟩ := hq13
        replace N13 := N13 N13q
        rcases hq13 with ⟨hr13, rfl⟩ | ⟨hr13, rfl⟩
        ·
          show Go _ _ _ _ T13 (mkF m 129 #[.val (.long q1), .second, .val (.long q2), .second, .val (.long q3), .second, .val (.long q4), .second, .val (.long q5), .second, .val (.long q6), .second, .val (.int zn), .val (.ref b1), .val (.ref b2), .val (.ref b3), .val (.ref b4), .val (.ref b5), .val (.ref b6), .val (.int (1 : Int32)), .val (.long (own_idx n (fun i => own_val (own_s3 q1 q3 q5 i) (own_s3 q2 q4 q6 i)) (fun i => own_lo (own_s3 q1 q3 q5 i)) (fun i => own_hi (own_s3 q1 q3 q5 i)))), .second, .val (.int (0 : Int32))] [(.int (1 : Int32))])
          refine Go.st (fun t k => XS.ifYes X13.here hx rfl (pc0 := 129) (pc' := 134) rfl (hb hby at_129) rfl (by decide) (by decide) (by decide) k) ?_
          show Go _ _ _ _ T13 (mkF m 134 #[.val (.long q1), .second, .val (.long q2), .second, .val (.long q3), .second, .val (.long q4), .second, .val (.long q5), .second, .val (.long q6), .second, .val (.int zn), .val (.ref b1), .val (.ref b2), .val (.ref b3), .val (.ref b4), .val (.ref b5), .val (.ref b6), .val (.int (1 : Int32)), .val (.long (own_idx n (fun i => own_val (own_s3 q1 q3 q5 i) (own_s3 q2 q4 q6 i)) (fun i => own_lo (own_s3 q1 q3 q5 i)) (fun i => own_hi (own_s3 q1 q3 q5 i)))), .second, .val (.int (0 : Int32))] [])
          refine Go.st (fun t k => XS.aload X13.here hx rfl (hb hby at_134) rfl rfl k) ?_
          show Go _ _ _ _ T13 (mkF m 136 #[.val (.long q1), .second, .val (.long q2), .second, .val (.long q3), .second, .val (.long q4), .second, .val (.long q5), .second, .val (.long q6), .second, .val (.int zn), .val (.ref b1), .val (.ref b2), .val (.ref b3), .val (.ref b4), .val (.ref b5), .val (.ref b6), .val (.int (1 : Int32)), .val (.long (own_idx n (fun i => own_val (own_s3 q1 q3 q5 i) (own_s3 q2 q4 q6 i)) (fun i => own_lo (own_s3 q1 q3 q5 i)) (fun i => own_hi (own_s3 q1 q3 q5 i)))), .second, .val (.int (0 : Int32))] [(.ref b3)])
          refine Go.st (fun t k => XS.aload X13.here hx rfl (hb hby at_136) rfl rfl k) ?_
          show Go _ _ _ _ T13 (mkF m 138 #[.val (.long q1), .second, .val (.long q2), .second, .val (.long q3), .second, .val (.long q4), .second, .val (.long q5), .second, .val (.long q6), .second, .val (.int zn), .val (.ref b1), .val (.ref b2), .val (.ref b3), .val (.ref b4), .val (.ref b5), .val (.ref b6), .val (.int (1 : Int32)), .val (.long (own_idx n (fun i => own_val (own_s3 q1 q3 q5 i) (own_s3 q2 q4 q6 i)) (fun i => own_lo (own_s3 q1 q3 q5 i)) (fun i => own_hi (own_s3 q1 q3 q5 i)))), .second, .val (.int (0 : Int32))] [(.ref b4), (.ref b3)])
          refine Go.st (fun t k => XS.aload X13.here hx rfl (hb hby at_138) rfl rfl k) ?_
          show Go _ _ _ _ T13 (mkF m 140 #[.val (.long q1), .second, .val (.long q2), .second, .val (.long q3), .second, .val (.long q4), .second, .val (.long q5), .second, .val (.long q6), .second, .val (.int zn), .val (.ref b1), .val (.ref b2), .val (.ref b3), .val (.ref b4), .val (.ref b5), .val (.ref b6), .val (.int (1 : Int32)), .val (.long (own_idx n (fun i => own_val (own_s3 q1 q3 q5 i) (own_s3 q2 q4 q6 i)) (fun i => own_lo (own_s3 q1 q3 q5 i)) (fun i => own_hi (own_s3 q1 q3 q5 i)))), .second, .val (.int (0 : Int32))] [(.ref b5), (.ref b4), (.ref b3)])
          refine goS X13 hx hZ (y := (⟨"com/example/counterpath/counterpath/util/CombinationsNextPinLaw", "inRange", "([I[I[I)Z"⟩ : MethodName)) hown (hw _ (List.mem_of_getElem? (i := 15) rfl)) (hw _ (List.mem_of_getElem? (i := 16) rfl)) (hw _ (List.mem_of_getElem? (i := 3) rfl)) (hw _ (List.mem_of_getElem? (i := 17) rfl)) (by decide) (rm5 l Z a0 hw b3 b4 b5 T11.heap n0 Z11 n (fun i => own_lo (own_s3 q1 q3 q5 i)) (fun i => own_lo (own_s3 q1 q3 q5 i)) (fun i => own_hi (own_s3 q1 q3 q5 i)) hn V_b3 V_b4 V_b5) e13 N13 0 (by decide) (by decide) (by decide) (by decide) (g := (mkF m 140 #[.val (.long q1), .second, .val (.long q2), .second, .val (.long q3), .second, .val (.long q4), .second, .val (.long q5), .second, .val (.long q6), .second, .val (.int zn), .val (.ref b1), .val (.ref b2), .val (.ref b3), .val (.ref b4), .val (.ref b5), .val (.ref b6), .val (.int (1 : Int32)), .val (.long (own_idx n (fun i => own_val (own_s3 q1 q3 q5 i) (own_s3 q2 q4 q6 i)) (fun i => own_lo (own_s3 q1 q3 q5 i)) (fun i => own_hi (own_s3 q1 q3 q5 i)))), .second, .val (.int (0 : Int32))] [(.ref b5), (.ref b4), (.ref b3)])) rfl (by rw [hml]; rfl) [(.ref b3), (.ref b4), (.ref b5)] [] (lenOf pd0_3 rfl) rfl rfl (by show 2 * 0 + _ ≤ _; exact Nat.le_of_eq rfl) (hb hby at_140) ?_
          intro T14 v14 L14 M14 X14 N14 hq14
          obtain ⟨hq14, N14q, e14⟩ := hq14
          replace N14 := N14 N14q
          rcases hq14 with ⟨hr14, rfl⟩ | ⟨hr14, rfl⟩
          ·
            show Go _ _ _ _ T14 (mkF m 143 #[.val (.long q1), .second, .val (.long q2), .second, .val (.long q3), .second, .val (.long q4), .second, .val (.long q5), .second, .val (.long q6), .second, .val (.int zn), .val (.ref b1), .val (.ref b2), .val (.ref b3), .val (.ref b4), .val (.ref b5), .val (.ref b6), .val (.int (1 : Int32)), .val (.long (own_idx n (fun i => own_val (own_s3 q1 q3 q5 i) (own_s3 q2 q4 q6 i)) (fun i => own_lo (own_s3 q1 q3 q5 i)) (fun i => own_hi (own_s3 q1 q3 q5 i)))), .second, .val (.int (0 : Int32))] [(.int (1 : Int32))])
            refine Go.st (fun t k => XS.ifYes X14.here hx rfl (pc0 := 143) (pc' := 148) rfl (hb hby at_143) rfl (by decide) (by decide) (by decide) k) ?_
            show Go _ _ _ _ T14 (mkF m 148 #[.val (.long q1), .second, .val (.long q2), .second, .val (.long q3), .second, .val (.long q4), .second, .val (.long q5), .second, .val (.long q6), .second, .val (.int zn), .val (.ref b1), .val (.ref b2), .val (.ref b3), .val (.ref b4), .val (.ref b5), .val (.ref b6), .val (.int (1 : Int32)), .val (.long (own_idx n (fun i => own_val (own_s3 q1 q3 q5 i) (own_s3 q2 q4 q6 i)) (fun i => own_lo (own_s3 q1 q3 q5 i)) (fun i => own_hi (own_s3 q1 q3 q5 i)))), .second, .val (.int (0 : Int32))] [])
            refine Go.st (fun t k => XS.iload X14.here hx rfl (hb hby at_148) rfl k) ?_
            show Go _ _ _ _ T14 (mkF m 150 #[.val (.long q1), .second, .val (.long q2), .second, .val (.long q3), .second, .val (.long q4), .second, .val (.long q5), .second, .val (.long q6), .second, .val (.int zn), .val (.ref b1), .val (.ref b2), .val (.ref b3), .val (.ref b4), .val (.ref b5), .val (.ref b6), .val (.int (1 : Int32)), .val (.long (own_idx n (fun i => own_val (own_s3 q1 q3 q5 i) (own_s3 q2 q4 q6 i)) (fun i => own_lo (own_s3 q1 q3 q5 i)) (fun i => own_hi (own_s3 q1 q3 q5 i)))), .second, .val (.int (0 : Int32))] [(.int (0 : Int32))])
            refine Go.st (fun t k => XS.ifNo X14.here hx rfl (hb hby at_150) rfl (by decide) k) ?_
            show Go _ _ _ _ T14 (mkF m 153 #[.val (.long q1), .second, .val (.long q2), .second, .val (.long q3), .second, .val (.long q4), .second, .val (.long q5), .second, .val (.long q6), .second, .val (.int zn), .val (.ref b1), .val (.ref b2), .val (.ref b3), .val (.ref b4), .val (.ref b5), .val (.ref b6), .val (.int (1 : Int32)), .val (.long (own_idx n (fun i => own_val (own_s3 q1 q3 q5 i) (own_s3 q2 q4 q6 i)) (fun i => own_lo (own_s3 q1 q3 q5 i)) (fun i => own_hi (own_s3 q1 q3 q5 i)))), .second, .val (.int (0 : Int32))] [])
            refine Go.st (fun t k => XS.iload X14.here hx rfl (hb hby at_153) rfl k) ?_
            show Go _ _ _ _ T14 (mkF m 155 #[.val (.long q1), .second, .val (.long q2), .second, .val (.long q3), .second, .val (.long q4), .second, .val (.long q5), .second, .val (.long q6), .second, .val (.int zn), .val (.ref b1), .val (.ref b2), .val (.ref b3), .val (.ref b4), .val (.ref b5), .val (.ref b6), .val (.int (1 : Int32)), .val (.long (own_idx n (fun i => own_val (own_s3 q1 q3 q5 i) (own_s3 q2 q4 q6 i)) (fun i => own_lo (own_s3 q1 q3 q5 i)) (fun i => own_hi (own_s3 q1 q3 q5 i)))), .second, .val (.int (0 : Int32))] [(.int (1 : Int32))])
            refine Go.st (fun t k => XS.ifNo X14.here hx rfl (hb hby at_155) rfl (by decide) k) ?_
            show Go _ _ _ _ T14 (mkF m 158 #[.val (.long q1), .second, .val (.long q2), .second, .val (.long q3), .second, .val (.long q4), .second, .val (.long q5), .second, .val (.long q6), .second, .val (.int zn), .val (.ref b1), .val (.ref b2), .val (.ref b3), .val (.ref b4), .val (.ref b5), .val (.ref b6), .val (.int (1 : Int32)), .val (.long (own_idx n (fun i => own_val (own_s3 q1 q3 q5 i) (own_s3 q2 q4 q6 i)) (fun i => own_lo (own_s3 q1 q3 q5 i)) (fun i => own_hi (own_s3 q1 q3 q5 i)))), .second, .val (.int (0 : Int32))] [])
            refine Go.st (fun t k => XS.aload X14.here hx rfl (hb hby at_158) rfl rfl k) ?_
            show Go _ _ _ _ T14 (mkF m 160 #[.val (.long q1), .second, .val (.long q2), .second, .val (.long q3), .second, .val (.long q4), .second, .val (.long q5), .second, .val (.long q6), .second, .val (.int zn), .val (.ref b1), .val (.ref b2), .val (.ref b3), .val (.ref b4), .val (.ref b5), .val (.ref b6), .val (.int (1 : Int32)), .val (.long (own_idx n (fun i => own_val (own_s3 q1 q3 q5 i) (own_s3 q2 q4 q6 i)) (fun i => own_lo (own_s3 q1 q3 q5 i)) (fun i => own_hi (own_s3 q1 q3 q5 i)))), .second, .val (.int (0 : Int32))] [(.ref b3)])
            refine Go.st (fun t k => XS.aload X14.here hx rfl (hb hby at_160) rfl rfl k) ?_
            show Go _ _ _ _ T14 (mkF m 162 #[.val (.long q1), .second, .val (.long q2), .second, .val (.long q3), .second, .val (.long q4), .second, .val (.long q5), .second, .val (.long q6), .second, .val (.int zn), .val (.ref b1), .val (.ref b2), .val (.ref b3), .val (.ref b4), .val (.ref b5), .val (.ref b6), .val (.int (1 : Int32)), .val (.long (own_idx n (fun i => own_val (own_s3 q1 q3 q5 i) (own_s3 q2 q4 q6 i)) (fun i => own_lo (own_s3 q1 q3 q5 i)) (fun i => own_hi (own_s3 q1 q3 q5 i)))), .second, .val (.int (0 : Int32))] [(.ref b4), (.ref b3)])
            refine goS X14 hx hZ (y := (⟨"com/example/counterpath/counterpath/util/CombinationsNextPinLaw", "same", "([I[I)Z"⟩ : MethodName)) hown (hw _ (List.mem_of_getElem? (i := 5) rfl)) (hw _ (List.mem_of_getElem? (i := 6) rfl)) (hw _ (List.mem_of_getElem? (i := 3) rfl)) (hw _ (List.mem_of_getElem? (i := 7) rfl)) (by decide) (rm2 l Z a0 hw b3 b4 T11.heap n0 Z11 n (fun i => own_lo (own_s3 q1 q3 q5 i)) (fun i => own_lo (own_s3 q1 q3 q5 i)) hn V_b3 V_b4) e14 N14 0 (by decide) (by decide) (by decide) (by decide) (g := (mkF m 162 #[.val (.long q1), .second, .val (.long q2), .second, .val (.long q3), .second, .val (.long q4), .second, .val (.long q5), .second, .val (.long q6), .second, .val (.int zn), .val (.ref b1), .val (.ref b2), .val (.ref b3), .val (.ref b4), .val (.ref b5), .val (.ref b6), .val (.int (1 : Int32)), .val (.long (own_idx n (fun i => own_val (own_s3 q1 q3 q5 i) (own_s3 q2 q4 q6 i)) (fun i => own_lo (own_s3 q1 q3 q5 i)) (fun i => own_hi (own_s3 q1 q3 q5 i)))), .second, .val (.int (0 : Int32))] [(.ref b4), (.ref b3)])) rfl (by rw [hml]; rfl) [(.ref b3), (.ref b4)] [] (lenOf pd0_1 rfl) rfl rfl (by show 2 * 0 + _ ≤ _; exact Nat.le_of_eq rfl) (hb hby at_162) ?_
            intro T15 v15 L15 M15 X15 N15 hq15
            obtain ⟨hq15, N15q, e15⟩ := hq15
            replace N15 := N15 N15q
            rcases hq15 with ⟨hr15, rfl⟩ | ⟨hr15, rfl⟩
            ·
              show Go _ _ _ _ T15 (mkF m 165 #[.val (.long q1), .second, .val (.long q2), .second, .val (.long q3), .second, .val (.long q4), .second, .val (.long q5), .second, .val (.long q6), .second, .val (.int zn), .val (.ref b1), .val (.ref b2), .val (.ref b3), .val (.ref b4), .val (.ref b5), .val (.ref b6), .val (.int (1 : Int32)), .val (.long (own_idx n (fun i => own_val (own_s3 q1 q3 q5 i) (own_s3 q2 q4 q6 i)) (fun i => own_lo (own_s3 q1 q3 q5 i)) (fun i => own_hi (own_s3 q1 q3 q5 i)))), .second, .val (.int (0 : Int32))] [(.int (1 : Int32))])
              refine Go.st (fun t k => XS.ifNo X15.here hx rfl (hb hby at_165) rfl (by decide) k) ?_
              show Go _ _ _ _ T15 (mkF m 168 #[.val (.long q1), .second, .val (.long q2), .second, .val (.long q3), .second, .val (.long q4), .second, .val (.long q5), .second, .val (.long q6), .second, .val (.int zn), .val (.ref b1), .val (.ref b2), .val (.ref b3), .val (.ref b4), .val (.ref b5), .val (.ref b6), .val (.int (1 : Int32)), .val (.long (own_idx n (fun i => own_val (own_s3 q1 q3 q5 i) (own_s3 q2 q4 q6 i)) (fun i => own_lo (own_s3 q1 q3 q5 i)) (fun i => own_hi (own_s3 q1 q3 q5 i)))), .second, .val (.int (0 : Int32))] [])
              refine Go.st (fun t k => XS.iconst X15.here hx rfl (hb hby at_168) k) ?_
              show Go _ _ _ _ T15 (mkF m 169 #[.val (.long q1), .second, .val (.long q2), .second, .val (.long q3), .second, .val (.long q4), .second, .val (.long q5), .second, .val (.long q6), .second, .val (.int zn), .val (.ref b1), .val (.ref b2), .val (.ref b3), .val (.ref b4), .val (.ref b5), .val (.ref b6), .val (.int (1 : Int32)), .val (.long (own_idx n (fun i => own_val (own_s3 q1 q3 q5 i) (own_s3 q2 q4 q6 i)) (fun i => own_lo (own_s3 q1 q3 q5 i)) (fun i => own_hi (own_s3 q1 q3 q5 i)))), .second, .val (.int (0 : Int32))] [(.int (1 : Int32))])
              refine Go.st (fun t k => XS.goto X15.here hx rfl (pc0 := 169) (pc' := 173) rfl (hb hby at_169) (by decide) (by decide) k) ?_
              show Go _ _ _ _ T15 (mkF m 173 #[.val (.long q1), .second, .val (.long q2), .second, .val (.long q3), .second, .val (.long q4), .second, .val (.long q5), .second, .val (.long q6), .second, .val (.int zn), .val (.ref b1), .val (.ref b2), .val (.ref b3), .val (.ref b4), .val (.ref b5), .val (.ref b6), .val (.int (1 : Int32)), .val (.long (own_idx n (fun i => own_val (own_s3 q1 q3 q5 i) (own_s3 q2 q4 q6 i)) (fun i => own_lo (own_s3 q1 q3 q5 i)) (fun i => own_hi (own_s3 q1 q3 q5 i)))), .second, .val (.int (0 : Int32))] [(.int (1 : Int32))])
              exact goN X15 hx hret hlk (by simp) (hb hby at_173) (by decide) (by decide) ⟨rfl, N15⟩
            ·
              exact absurd (fun _ _ => rfl) hr15
          ·
            exact absurd (own_rng0 n (own_s3 q1 q3 q5)) hr14
        ·
          exact absurd (fun _ _ => rfl) hr13
      ·
        exact absurd (fun _ _ => rfl) hr12
  ·
    show Go _ _ _ _ T9 (mkF m 88 #[.val (.long q1), .second, .val (.long q2), .second, .val (.long q3), .second, .val (.long q4), .second, .val (.long q5), .second, .val (.long q6), .second, .val (.int zn), .val (.ref b1), .val (.ref b2), .val (.ref b3), .val (.ref b4), .val (.ref b5), .val (.ref b6), .unset, .unset, .unset, .unset] [(.int (0 : Int32))])
    refine Go.st (fun t k => XS.istore X9.here hx rfl (hb hby at_88) rfl (l' := #[.val (.long q1), .second, .val (.long q2), .second, .val (.long q3), .second, .val (.long q4), .second, .val (.long q5), .second, .val (.long q6), .second, .val (.int zn), .val (.ref b1), .val (.ref b2), .val (.ref b3), .val (.ref b4), .val (.ref b5), .val (.ref b6), .val (.int (0 : Int32)), .unset, .unset, .unset]) rfl k) ?_
    show Go _ _ _ _ T9 (mkF m 90 #[.val (.long q1), .second, .val (.long q2), .second, .val (.long q3), .second, .val (.long q4), .second, .val (.long q5), .second, .val (.long q6), .second, .val (.int zn), .val (.ref b1), .val (.ref b2), .val (.ref b3), .val (.ref b4), .val (.ref b5), .val (.ref b6), .val (.int (0 : Int32)), .unset, .unset, .unset] [])
    refine Go.st (fun t k => XS.aload X9.here hx rfl (hb hby at_90) rfl rfl k) ?_
    show Go _ _ _ _ T9 (mkF m 92 #[.val (.long q1), .second, .val (.long q2), .second, .val (.long q3), .second, .val (.long q4), .second, .val (.long q5), .second, .val (.long q6), .second, .val (.int zn), .val (.ref b1), .val (.ref b2), .val (.ref b3), .val (.ref b4), .val (.ref b5), .val (.ref b6), .val (.int (0 : Int32)), .unset, .unset, .unset] [(.ref b6)])
    refine Go.st (fun t k => XS.aload X9.here hx rfl (hb hby at_92) rfl rfl k) ?_
    show Go _ _ _ _ T9 (mkF m 94 #[.val (.long q1), .second, .val (.long q2), .second, .val (.long q3), .second, .val (.long q4), .second, .val (.long q5), .second, .val (.long q6), .second, .val (.int zn), .val (.ref b1), .val (.ref b2), .val (.ref b3), .val (.ref b4), .val (.ref b5), .val (.ref b6), .val (.int (0 : Int32)), .unset, .unset, .unset] [(.ref b4), (.ref b6)])
    refine Go.st (fun t k => XS.aload X9.here hx rfl (hb hby at_94) rfl rfl k) ?_
    show Go _ _ _ _ T9 (mkF m 96 #[.val (.long q1), .second, .val (.long q2), .second, .val (.long q3), .second, .val (.long q4), .second, .val (.long q5), .second, .val (.long q6), .second, .val (.int zn), .val (.ref b1), .val (.ref b2), .val (.ref b3), .val (.ref b4), .val (.ref b5), .val (.ref b6), .val (.int (0 : Int32)), .unset, .unset, .unset] [(.ref b5), (.ref b4), (.ref b6)])
    refine goS X9 hx hZ (y := (⟨"com/example/counterpath/counterpath/util/CombinationsNextPinLaw", "index", "([I[I[I)J"⟩ : MethodName)) hown (hw _ (List.mem_of_getElem? (i := 8) rfl)) (hw _ (List.mem_of_getElem? (i := 9) rfl)) (hw _ (List.mem_of_getElem? (i := 3) rfl)) (hw _ (List.mem_of_getElem? (i := 10) rfl)) (by decide) (rm3 l Z a0 hw b6 b4 b5 T8.heap n0 Z8 n (fun i => own_val (own_s3 q1 q3 q5 i) (own_s3 q2 q4 q6 i)) (fun i => own_lo (own_s3 q1 q3 q5 i)) (fun i => own_hi (own_s3 q1 q3 q5 i)) hn V_b6 V_b4 V_b5) e9 N9 0 (by decide) (by decide) (by decide) (by decide) (g := (mkF m 96 #[.val (.long q1), .second, .val (.long q2), .second, .val (.long q3), .second, .val (.long q4), .second, .val (.long q5), .second, .val (.long q6), .second, .val (.int zn), .val (.ref b1), .val (.ref b2), .val (.ref b3), .val (.ref b4), .val (.ref b5), .val (.ref b6), .val (.int (0 : Int32)), .unset, .unset, .unset] [(.ref b5), (.ref b4), (.ref b6)])) rfl (by rw [hml]; rfl) [(.ref b6), (.ref b4), (.ref b5)] [] (lenOf pd0_2 rfl) rfl rfl (by show 2 * 0 + _ ≤ _; exact Nat.le_of_eq rfl) (hb hby at_96) ?_
    intro T16 v16 L16 M16 X16 N16 hq16
    obtain ⟨rfl, N16q, e16⟩ := hq16
    replace N16 := N16 N16q
    show Go _ _ _ _ T16 (mkF m 99 #[.val (.long q1), .second, .val (.long q2), .second, .val (.long q3), .second, .val (.long q4), .second, .val (.long q5), .second, .val (.long q6), .second, .val (.int zn), .val (.ref b1), .val (.ref b2), .val (.ref b3), .val (.ref b4), .val (.ref b5), .val (.ref b6), .val (.int (0 : Int32)), .unset, .unset, .unset] [(.long (own_idx n (fun i => own_val (own_s3 q1 q3 q5 i) (own_s3 q2 q4 q6 i)) (fun i => own_lo (own_s3 q1 q3 q5 i)) (fun i => own_hi (own_s3 q1 q3 q5 i))))])
    refine Go.st (fun t k => XS.lstore X16.here hx rfl (hb hby at_99) rfl (l' := #[.val (.long q1), .second, .val (.long q2), .second, .val (.long q3), .second, .val (.long q4), .second, .val (.long q5), .second, .val (.long q6), .second, .val (.int zn), .val (.ref b1), .val (.ref b2), .val (.ref b3), .val (.ref b4), .val (.ref b5), .val (.ref b6), .val (.int (0 : Int32)), .val (.long (own_idx n (fun i => own_val (own_s3 q1 q3 q5 i) (own_s3 q2 q4 q6 i)) (fun i => own_lo (own_s3 q1 q3 q5 i)) (fun i => own_hi (own_s3 q1 q3 q5 i)))), .second, .unset]) rfl k) ?_
    show Go _ _ _ _ T16 (mkF m 101 #[.val (.long q1), .second, .val (.long q2), .second, .val (.long q3), .second, .val (.long q4), .second, .val (.long q5), .second, .val (.long q6), .second, .val (.int zn), .val (.ref b1), .val (.ref b2), .val (.ref b3), .val (.ref b4), .val (.ref b5), .val (.ref b6), .val (.int (0 : Int32)), .val (.long (own_idx n (fun i => own_val (own_s3 q1 q3 q5 i) (own_s3 q2 q4 q6 i)) (fun i => own_lo (own_s3 q1 q3 q5 i)) (fun i => own_hi (own_s3 q1 q3 q5 i)))), .second, .unset] [])
    refine Go.st (fun t k => XS.aload X16.here hx rfl (hb hby at_101) rfl rfl k) ?_
    show Go _ _ _ _ T16 (mkF m 103 #[.val (.long q1), .second, .val (.long q2), .second, .val (.long q3), .second, .val (.long q4), .second, .val (.long q5), .second, .val (.long q6), .second, .val (.int zn), .val (.ref b1), .val (.ref b2), .val (.ref b3), .val (.ref b4), .val (.ref b5), .val (.ref b6), .val (.int (0 : Int32)), .val (.long (own_idx n (fun i => own_val (own_s3 q1 q3 q5 i) (own_s3 q2 q4 q6 i)) (fun i => own_lo (own_s3 q1 q3 q5 i)) (fun i => own_hi (own_s3 q1 q3 q5 i)))), .second, .unset] [(.ref b3)])
    refine Go.st (fun t k => XS.aload X16.here hx rfl (hb hby at_103) rfl rfl k) ?_
    show Go _ _ _ _ T16 (mkF m 105 #[.val (.long q1), .second, .val (.long q2), .second, .val (.long q3), .second, .val (.long q4), .second, .val (.long q5), .second, .val (.long q6), .second, .val (.int zn), .val (.ref b1), .val (.ref b2), .val (.ref b3), .val (.ref b4), .val (.ref b5), .val (.ref b6), .val (.int (0 : Int32)), .val (.long (own_idx n (fun i => own_val (own_s3 q1 q3 q5 i) (own_s3 q2 q4 q6 i)) (fun i => own_lo (own_s3 q1 q3 q5 i)) (fun i => own_hi (own_s3 q1 q3 q5 i)))), .second, .unset] [(.ref b1), (.ref b3)])
    refine Go.st (fun t k => XS.aload X16.here hx rfl (hb hby at_105) rfl rfl k) ?_
    show Go _ _ _ _ T16 (mkF m 107 #[.val (.long q1), .second, .val (.long q2), .second, .val (.long q3), .second, .val (.long q4), .second, .val (.long q5), .second, .val (.long q6), .second, .val (.int zn), .val (.ref b1), .val (.ref b2), .val (.ref b3), .val (.ref b4), .val (.ref b5), .val (.ref b6), .val (.int (0 : Int32)), .val (.long (own_idx n (fun i => own_val (own_s3 q1 q3 q5 i) (own_s3 q2 q4 q6 i)) (fun i => own_lo (own_s3 q1 q3 q5 i)) (fun i => own_hi (own_s3 q1 q3 q5 i)))), .second, .unset] [(.ref b2), (.ref b1), (.ref b3)])
    refine goS X16 hx hZ (y := (⟨"com/example/counterpath/counterpath/util/Combinations", "next", "([I[I[I)Z"⟩ : MethodName)) hown (hw _ (List.mem_of_getElem? (i := 11) rfl)) (hw _ (List.mem_of_getElem? (i := 12) rfl)) (hw _ (List.mem_of_getElem? (i := 13) rfl)) (hw _ (List.mem_of_getElem? (i := 14) rfl)) (by decide) (rm4 l Z a0 hw b3 b1 b2 T8.heap n0 Z8 n (fun i => own_val (own_s3 q1 q3 q5 i) (own_s3 q2 q4 q6 i)) (fun i => own_lo (own_s3 q1 q3 q5 i)) (fun i => own_hi (own_s3 q1 q3 q5 i)) hn V_b3 V_b1 V_b2 g_b3 (Ne.symm ne_b1_b3) (Ne.symm ne_b2_b3)) e16 N16 0 (by decide) (by decide) (by decide) (by decide) (g := (mkF m 107 #[.val (.long q1), .second, .val (.long q2), .second, .val (.long q3), .second, .val (.long q4), .second, .val (.long q5), .second, .val (.long q6), .second, .val (.int zn), .val (.ref b1), .val (.ref b2), .val (.ref b3), .val (.ref b4), .val (.ref b5), .val (.ref b6), .val (.int (0 : Int32)), .val (.long (own_idx n (fun i => own_val (own_s3 q1 q3 q5 i) (own_s3 q2 q4 q6 i)) (fun i => own_lo (own_s3 q1 q3 q5 i)) (fun i => own_hi (own_s3 q1 q3 q5 i)))), .second, .unset] [(.ref b2), (.ref b1), (.ref b3)])) rfl (by rw [hml]; rfl) [(.ref b3), (.ref b1), (.ref b2)] [] (lenOf pd0_3 rfl) rfl rfl (by show 2 * 0 + _ ≤ _; exact Nat.le_of_eq rfl) (hb hby at_107) ?_
    intro T17 v17 L17 M17 X17 N17 hq17
    obtain ⟨N17q, K17, hq17⟩ := hq17
    replace N17 := N17 N17q
    have Z17 := Nat.le_trans Z8 K17.1
    have V_b1 := V_b1.keep K17 (ninS ne_b1_b3 nin0)
    have V_b2 := V_b2.keep K17 (ninS ne_b2_b3 nin0)
    have V_b4 := V_b4.keep K17 (ninS (Ne.symm ne_b3_b4) nin0)
    have V_b5 := V_b5.keep K17 (ninS (Ne.symm ne_b3_b5) nin0)
    have V_b6 := V_b6.keep K17 (ninS (Ne.symm ne_b3_b6) nin0)
    rcases hq17 with ⟨kk, hk1, hk2, hk3, rfl, V_b3⟩ | ⟨hall, rfl, V_b3⟩
    ·
      show Go _ _ _ _ T17 (mkF m 110 #[.val (.long q1), .second, .val (.long q2), .second, .val (.long q3), .second, .val (.long q4), .second, .val (.long q5), .second, .val (.long q6), .second, .val (.int zn), .val (.ref b1), .val (.ref b2), .val (.ref b3), .val (.ref b4), .val (.ref b5), .val (.ref b6), .val (.int (0 : Int32)), .val (.long (own_idx n (fun i => own_val (own_s3 q1 q3 q5 i) (own_s3 q2 q4 q6 i)) (fun i => own_lo (own_s3 q1 q3 q5 i)) (fun i => own_hi (own_s3 q1 q3 q5 i)))), .second, .unset] [(.int (1 : Int32))])
      refine Go.st (fun t k => XS.istore X17.here hx rfl (hb hby at_110) rfl (l' := #[.val (.long q1), .second, .val (.long q2), .second, .val (.long q3), .second, .val (.long q4), .second, .val (.long q5), .second, .val (.long q6), .second, .val (.int zn), .val (.ref b1), .val (.ref b2), .val (.ref b3), .val (.ref b4), .val (.ref b5), .val (.ref b6), .val (.int (0 : Int32)), .val (.long (own_idx n (fun i => own_val (own_s3 q1 q3 q5 i) (own_s3 q2 q4 q6 i)) (fun i => own_lo (own_s3 q1 q3 q5 i)) (fun i => own_hi (own_s3 q1 q3 q5 i)))), .second, .val (.int (1 : Int32))]) rfl k) ?_
      show Go _ _ _ _ T17 (mkF m 112 #[.val (.long q1), .second, .val (.long q2), .second, .val (.long q3), .second, .val (.long q4), .second, .val (.long q5), .second, .val (.long q6), .second, .val (.int zn), .val (.ref b1), .val (.ref b2), .val (.ref b3), .val (.ref b4), .val (.ref b5), .val (.ref b6), .val (.int (0 : Int32)), .val (.long (own_idx n (fun i => own_val (own_s3 q1 q3 q5 i) (own_s3 q2 q4 q6 i)) (fun i => own_lo (own_s3 q1 q3 q5 i)) (fun i => own_hi (own_s3 q1 q3 q5 i)))), .second, .val (.int (1 : Int32))] [])
      refine Go.st (fun t k => XS.aload X17.here hx rfl (hb hby at_112) rfl rfl k) ?_
      show Go _ _ _ _ T17 (mkF m 114 #[.val (.long q1), .second, .val (.long q2), .second, .val (.long q3), .second, .val (.long q4), .second, .val (.long q5), .second, .val (.long q6), .second, .val (.int zn), .val (.ref b1), .val (.ref b2), .val (.ref b3), .val (.ref b4), .val (.ref b5), .val (.ref b6), .val (.int (0 : Int32)), .val (.long (own_idx n (fun i => own_val (own_s3 q1 q3 q5 i) (own_s3 q2 q4 q6 i)) (fun i => own_lo (own_s3 q1 q3 q5 i)) (fun i => own_hi (own_s3 q1 q3 q5 i)))), .second, .val (.int (1 : Int32))] [(.ref b1)])
      refine Go.st (fun t k => XS.aload X17.here hx rfl (hb hby at_114) rfl rfl k) ?_
      show Go _ _ _ _ T17 (mkF m 116 #[.val (.long q1), .second, .val (.long q2), .second, .val (.long q3), .second, .val (.long q4), .second, .val (.long q5), .second, .val (.long q6), .second, .val (.int zn), .val (.ref b1), .val (.ref b2), .val (.ref b3), .val (.ref b4), .val (.ref b5), .val (.ref b6), .val (.int (0 : Int32)), .val (.long (own_idx n (fun i => own_val (own_s3 q1 q3 q5 i) (own_s3 q2 q4 q6 i)) (fun i => own_lo (own_s3 q1 q3 q5 i)) (fun i => own_hi (own_s3 q1 q3 q5 i)))), .second, .val (.int (1 : Int32))] [(.ref b4), (.ref b1)])
      refine goS X17 hx hZ (y := (⟨"com/example/counterpath/counterpath/util/CombinationsNextPinLaw", "same", "([I[I)Z"⟩ : MethodName)) hown (hw _ (List.mem_of_getElem? (i := 5) rfl)) (hw _ (List.mem_of_getElem? (i := 6) rfl)) (hw _ (List.mem_of_getElem? (i := 3) rfl)) (hw _ (List.mem_of_getElem? (i := 7) rfl)) (by decide) (rm2 l Z a0 hw b1 b4 T17.heap n0 Z17 n (fun i => own_lo (own_s3 q1 q3 q5 i)) (fun i => own_lo (own_s3 q1 q3 q5 i)) hn V_b1 V_b4) rfl N17 0 (by decide) (by decide) (by decide) (by decide) (g := (mkF m 116 #[.val (.long q1), .second, .val (.long q2), .second, .val (.long q3), .second, .val (.long q4), .second, .val (.long q5), .second, .val (.long q6), .second, .val (.int zn), .val (.ref b1), .val (.ref b2), .val (.ref b3), .val (.ref b4), .val (.ref b5), .val (.ref b6), .val (.int (0 : Int32)), .val (.long (own_idx n (fun i => own_val (own_s3 q1 q3 q5 i) (own_s3 q2 q4 q6 i)) (fun i => own_lo (own_s3 q1 q3 q5 i)) (fun i => own_hi (own_s3 q1 q3 q5 i)))), .second, .val (.int (1 : Int32))] [(.ref b4), (.ref b1)])) rfl (by rw [hml]; rfl) [(.ref b1), (.ref b4)] [] (lenOf pd0_1 rfl) rfl rfl (by show 2 * 0 + _ ≤ _; exact Nat.le_of_eq rfl) (hb hby at_116) ?_
      intro T18 v18 L18 M18 X18 N18 hq18
      obtain ⟨hq18, N18q, e18⟩ := hq18
      replace N18 := N18 N18q
      rcases hq18 with ⟨hr18, rfl⟩ | ⟨hr18, rfl⟩
      ·
        show Go _ _ _ _ T18 (mkF m 119 #[.val (.long q1), .second, .val (.long q2), .second, .val (.long q3), .second, .val (.long q4), .second, .val (.long q5), .second, .val (.long q6), .second, .val (.int zn), .val (.ref b1), .val (.ref b2), .val (.ref b3), .val (.ref b4), .val (.ref b5), .val (.ref b6), .val (.int (0 : Int32)), .val (.long (own_idx n (fun i => own_val (own_s3 q1 q3 q5 i) (own_s3 q2 q4 q6 i)) (fun i => own_lo (own_s3 q1 q3 q5 i)) (fun i => own_hi (own_s3 q1 q3 q5 i)))), .second, .val (.int (1 : Int32))] [(.int (1 : Int32))])
        refine Go.st (fun t k => XS.ifNo X18.here hx rfl (hb hby at_119) rfl (by decide) k) ?_
        show Go _ _ _ _ T18 (mkF m 122 #[.val (.long q1), .second, .val (.long q2), .second, .val (.long q3), .second, .val (.long q4), .second, .val (.long q5), .second, .val (.long q6), .second, .val (.int zn), .val (.ref b1), .val (.ref b2), .val (.ref b3), .val (.ref b4), .val (.ref b5), .val (.ref b6), .val (.int (0 : Int32)), .val (.long (own_idx n (fun i => own_val (own_s3 q1 q3 q5 i) (own_s3 q2 q4 q6 i)) (fun i => own_lo (own_s3 q1 q3 q5 i)) (fun i => own_hi (own_s3 q1 q3 q5 i)))), .second, .val (.int (1 : Int32))] [])
        refine Go.st (fun t k => XS.aload X18.here hx rfl (hb hby at_122) rfl rfl k) ?_
        show Go _ _ _ _ T18 (mkF m 124 #[.val (.long q1), .second, .val (.long q2), .second, .val (.long q3), .second, .val (.long q4), .second, .val (.long q5), .second, .val (.long q6), .second, .val (.int zn), .val (.ref b1), .val (.ref b2), .val (.ref b3), .val (.ref b4), .val (.ref b5), .val (.ref b6), .val (.int (0 : Int32)), .val (.long (own_idx n (fun i => own_val (own_s3 q1 q3 q5 i) (own_s3 q2 q4 q6 i)) (fun i => own_lo (own_s3 q1 q3 q5 i)) (fun i => own_hi (own_s3 q1 q3 q5 i)))), .second, .val (.int (1 : Int32))] [(.ref b2)])
        refine Go.st (fun t k => XS.aload X18.here hx rfl (hb hby at_124) rfl rfl k) ?_
        show Go _ _ _ _ T18 (mkF m 126 #[.val (.long q1), .second, .val (.long q2), .second, .val (.long q3), .second, .val (.long q4), .second, .val (.long q5), .second, .val (.long q6), .second, .val (.int zn), .val (.ref b1), .val (.ref b2), .val (.ref b3), .val (.ref b4), .val (.ref b5), .val (.ref b6), .val (.int (0 : Int32)), .val (.long (own_idx n (fun i => own_val (own_s3 q1 q3 q5 i) (own_s3 q2 q4 q6 i)) (fun i => own_lo (own_s3 q1 q3 q5 i)) (fun i => own_hi (own_s3 q1 q3 q5 i)))), .second, .val (.int (1 : Int32))] [(.ref b5), (.ref b2)])
        refine goS X18 hx hZ (y := (⟨"com/example/counterpath/counterpath/util/CombinationsNextPinLaw", "same", "([I[I)Z"⟩ : MethodName)) hown (hw _ (List.mem_of_getElem? (i := 5) rfl)) (hw _ (List.mem_of_getElem? (i := 6) rfl)) (hw _ (List.mem_of_getElem? (i := 3) rfl)) (hw _ (List.mem_of_getElem? (i := 7) rfl)) (by decide) (rm2 l Z a0 hw b2 b5 T17.heap n0 Z17 n (fun i => own_hi (own_s3 q1 q3 q5 i)) (fun i => own_hi (own_s3 q1 q3 q5 i)) hn V_b2 V_b5) e18 N18 0 (by decide) (by decide) (by decide) (by decide) (g := (mkF m 126 #[.val (.long q1), .second, .val (.long q2), .second, .val (.long q3), .second, .val (.long q4), .second, .val (.long q5), .second, .val (.long q6), .second, .val (.int zn), .val (.ref b1), .val (.ref b2), .val (.ref b3), .val (.ref b4), .val (.ref b5), .val (.ref b6), .val (.int (0 : Int32)), .val (.long (own_idx n (fun i => own_val (own_s3 q1 q3 q5 i) (own_s3 q2 q4 q6 i)) (fun i => own_lo (own_s3 q1 q3 q5 i)) (fun i => own_hi (own_s3 q1 q3 q5 i)))), .second, .val (.int (1 : Int32))] [(.ref b5), (.ref b2)])) rfl (by rw [hml]; rfl) [(.ref b2), (.ref b5)] [] (lenOf pd0_1 rfl) rfl rfl (by show 2 * 0 + _ ≤ _; exact Nat.le_of_eq rfl) (hb hby at_126) ?_
        intro T19 v19 L19 M19 X19 N19 hq19
        obtain ⟨hq19, N19q, e19⟩ := hq19
        replace N19 := N19 N19q
        rcases hq19 with ⟨hr19, rfl⟩ | ⟨hr19, rfl⟩
        ·
          show Go _ _ _ _ T19 (mkF m 129 #[.val (.long q1), .second, .val (.long q2), .second, .val (.long q3), .second, .val (.long q4), .second, .val (.long q5), .second, .val (.long q6), .second, .val (.int zn), .val (.ref b1), .val (.ref b2), .val (.ref b3), .val (.ref b4), .val (.ref b5), .val (.ref b6), .val (.int (0 : Int32)), .val (.long (own_idx n (fun i => own_val (own_s3 q1 q3 q5 i) (own_s3 q2 q4 q6 i)) (fun i => own_lo (own_s3 q1 q3 q5 i)) (fun i => own_hi (own_s3 q1 q3 q5 i)))), .second, .val (.int (1 : Int32))] [(.int (1 : Int32))])
          refine Go.st (fun t k => XS.ifYes X19.here hx rfl (pc0 := 129) (pc' := 134) rfl (hb hby at_129) rfl (by decide) (by decide) (by decide) k) ?_
          show Go _ _ _ _ T19 (mkF m 134 #[.val (.long q1), .second, .val (.long q2), .second, .val (.long q3), .second, .val (.long q4), .second, .val (.long q5), .second, .val (.long q6), .second, .val (.int zn), .val (.ref b1), .val (.ref b2), .val (.ref b3), .val (.ref b4), .val (.ref b5), .val (.ref b6), .val (.int (0 : Int32)), .val (.long (own_idx n (fun i => own_val (own_s3 q1 q3 q5 i) (own_s3 q2 q4 q6 i)) (fun i => own_lo (own_s3 q1 q3 q5 i)) (fun i => own_hi (own_s3 q1 q3 q5 i)))), .second, .val (.int (1 : Int32))] [])
          refine Go.st (fun t k => XS.aload X19.here hx rfl (hb hby at_134) rfl rfl k) ?_
          show Go _ _ _ _ T19 (mkF m 136 #[.val (.long q1), .second, .val (.long q2), .second, .val (.long q3), .second, .val (.long q4), .second, .val (.long q5), .second, .val (.long q6), .second, .val (.int zn), .val (.ref b1), .val (.ref b2), .val (.ref b3), .val (.ref b4), .val (.ref b5), .val (.ref b6), .val (.int (0 : Int32)), .val (.long (own_idx n (fun i => own_val (own_s3 q1 q3 q5 i) (own_s3 q2 q4 q6 i)) (fun i => own_lo (own_s3 q1 q3 q5 i)) (fun i => own_hi (own_s3 q1 q3 q5 i)))), .second, .val (.int (1 : Int32))] [(.ref b3)])
          refine Go.st (fun t k => XS.aload X19.here hx rfl (hb hby at_136) rfl rfl k) ?_
          show Go _ _ _ _ T19 (mkF m 138 #[.val (.long q1), .second, .val (.long q2), .second, .val (.long q3), .second, .val (.long q4), .second, .val (.long q5), .second, .val (.long q6), .second, .val (.int zn), .val (.ref b1), .val (.ref b2), .val (.ref b3), .val (.ref b4), .val (.ref b5), .val (.ref b6), .val (.int (0 : Int32)), .val (.long (own_idx n (fun i => own_val (own_s3 q1 q3 q5 i) (own_s3 q2 q4 q6 i)) (fun i => own_lo (own_s3 q1 q3 q5 i)) (fun i => own_hi (own_s3 q1 q3 q5 i)))), .second, .val (.int (1 : Int32))] [(.ref b4), (.ref b3)])
          refine Go.st (fun t k => XS.aload X19.here hx rfl (hb hby at_138) rfl rfl k) ?_
          show Go _ _ _ _ T19 (mkF m 140 #[.val (.long q1), .second, .val (.long q2), .second, .val (.long q3), .second, .val (.long q4), .second, .val (.long q5), .second, .val (.long q6), .second, .val (.int zn), .val (.ref b1), .val (.ref b2), .val (.ref b3), .val (.ref b4), .val (.ref b5), .val (.ref b6), .val (.int (0 : Int32)), .val (.long (own_idx n (fun i => own_val (own_s3 q1 q3 q5 i) (own_s3 q2 q4 q6 i)) (fun i => own_lo (own_s3 q1 q3 q5 i)) (fun i => own_hi (own_s3 q1 q3 q5 i)))), .second, .val (.int (1 : Int32))] [(.ref b5), (.ref b4), (.ref b3)])
          refine goS X19 hx hZ (y := (⟨"com/example/counterpath/counterpath/util/CombinationsNextPinLaw", "inRange", "([I[I[I)Z"⟩ : MethodName)) hown (hw _ (List.mem_of_getElem? (i := 15) rfl)) (hw _ (List.mem_of_getElem? (i := 16) rfl)) (hw _ (List.mem_of_getElem? (i := 3) rfl)) (hw _ (List.mem_of_getElem? (i := 17) rfl)) (by decide) (rm5 l Z a0 hw b3 b4 b5 T17.heap n0 Z17 n (own_up (fun i => own_val (own_s3 q1 q3 q5 i) (own_s3 q2 q4 q6 i)) (fun i => own_lo (own_s3 q1 q3 q5 i)) kk) (fun i => own_lo (own_s3 q1 q3 q5 i)) (fun i => own_hi (own_s3 q1 q3 q5 i)) hn V_b3 V_b4 V_b5) e19 N19 0 (by decide) (by decide) (by decide) (by decide) (g := (mkF m 140 #[.val (.long q1), .second, .val (.long q2), .second, .val (.long q3), .second, .val (.long q4), .second, .val (.long q5), .second, .val (.long q6), .second, .val (.int zn), .val (.ref b1), .val (.ref b2), .val (.ref b3), .val (.ref b4), .val (.ref b5), .val (.ref b6), .val (.int (0 : Int32)), .val (.long (own_idx n (fun i => own_val (own_s3 q1 q3 q5 i) (own_s3 q2 q4 q6 i)) (fun i => own_lo (own_s3 q1 q3 q5 i)) (fun i => own_hi (own_s3 q1 q3 q5 i)))), .second, .val (.int (1 : Int32))] [(.ref b5), (.ref b4), (.ref b3)])) rfl (by rw [hml]; rfl) [(.ref b3), (.ref b4), (.ref b5)] [] (lenOf pd0_3 rfl) rfl rfl (by show 2 * 0 + _ ≤ _; exact Nat.le_of_eq rfl) (hb hby at_140) ?_
          intro T20 v20 L20 M20 X20 N20 hq20
          obtain ⟨hq20, N20q, e20⟩ := hq20
          replace N20 := N20 N20q
          rcases hq20 with ⟨hr20, rfl⟩ | ⟨hr20, rfl⟩
          ·
            show Go _ _ _ _ T20 (mkF m 143 #[.val (.long q1), .second, .val (.long q2), .second, .val (.long q3), .second, .val (.long q4), .second, .val (.long q5), .second, .val (.long q6), .second, .val (.int zn), .val (.ref b1), .val (.ref b2), .val (.ref b3), .val (.ref b4), .val (.ref b5), .val (.ref b6), .val (.int (0 : Int32)), .val (.long (own_idx n (fun i => own_val (own_s3 q1 q3 q5 i) (own_s3 q2 q4 q6 i)) (fun i => own_lo (own_s3 q1 q3 q5 i)) (fun i => own_hi (own_s3 q1 q3 q5 i)))), .second, .val (.int (1 : Int32))] [(.int (1 : Int32))])
            refine Go.st (fun t k => XS.ifYes X20.here hx rfl (pc0 := 143) (pc' := 148) rfl (hb hby at_143) rfl (by decide) (by decide) (by decide) k) ?_
            show Go _ _ _ _ T20 (mkF m 148 #[.val (.long q1), .second, .val (.long q2), .second, .val (.long q3), .second, .val (.long q4), .second, .val (.long q5), .second, .val (.long q6), .second, .val (.int zn), .val (.ref b1), .val (.ref b2), .val (.ref b3), .val (.ref b4), .val (.ref b5), .val (.ref b6), .val (.int (0 : Int32)), .val (.long (own_idx n (fun i => own_val (own_s3 q1 q3 q5 i) (own_s3 q2 q4 q6 i)) (fun i => own_lo (own_s3 q1 q3 q5 i)) (fun i => own_hi (own_s3 q1 q3 q5 i)))), .second, .val (.int (1 : Int32))] [])
            refine Go.st (fun t k => XS.iload X20.here hx rfl (hb hby at_148) rfl k) ?_
            show Go _ _ _ _ T20 (mkF m 150 #[.val (.long q1), .second, .val (.long q2), .second, .val (.long q3), .second, .val (.long q4), .second, .val (.long q5), .second, .val (.long q6), .second, .val (.int zn), .val (.ref b1), .val (.ref b2), .val (.ref b3), .val (.ref b4), .val (.ref b5), .val (.ref b6), .val (.int (0 : Int32)), .val (.long (own_idx n (fun i => own_val (own_s3 q1 q3 q5 i) (own_s3 q2 q4 q6 i)) (fun i => own_lo (own_s3 q1 q3 q5 i)) (fun i => own_hi (own_s3 q1 q3 q5 i)))), .second, .val (.int (1 : Int32))] [(.int (1 : Int32))])
            refine Go.st (fun t k => XS.ifYes X20.here hx rfl (pc0 := 150) (pc' := 174) rfl (hb hby at_150) rfl (by decide) (by decide) (by decide) k) ?_
            show Go _ _ _ _ T20 (mkF m 174 #[.val (.long q1), .second, .val (.long q2), .second, .val (.long q3), .second, .val (.long q4), .second, .val (.long q5), .second, .val (.long q6), .second, .val (.int zn), .val (.ref b1), .val (.ref b2), .val (.ref b3), .val (.ref b4), .val (.ref b5), .val (.ref b6), .val (.int (0 : Int32)), .val (.long (own_idx n (fun i => own_val (own_s3 q1 q3 q5 i) (own_s3 q2 q4 q6 i)) (fun i => own_lo (own_s3 q1 q3 q5 i)) (fun i => own_hi (own_s3 q1 q3 q5 i)))), .second, .val (.int (1 : Int32))] [])
            refine Go.st (fun t k => XS.iload X20.here hx rfl (hb hby at_174) rfl k) ?_
            show Go _ _ _ _ T20 (mkF m 176 #[.val (.long q1), .second, .val (.long q2), .second, .val (.long q3), .second, .val (.long q4), .second, .val (.long q5), .second, .val (.long q6), .second, .val (.int zn), .val (.ref b1), .val (.ref b2), .val (.ref b3), .val (.ref b4), .val (.ref b5), .val (.ref b6), .val (.int (0 : Int32)), .val (.long (own_idx n (fun i => own_val (own_s3 q1 q3 q5 i) (own_s3 q2 q4 q6 i)) (fun i => own_lo (own_s3 q1 q3 q5 i)) (fun i => own_hi (own_s3 q1 q3 q5 i)))), .second, .val (.int (1 : Int32))] [(.int (0 : Int32))])
            refine Go.st (fun t k => XS.ifNo X20.here hx rfl (hb hby at_176) rfl (by decide) k) ?_
            show Go _ _ _ _ T20 (mkF m 179 #[.val (.long q1), .second, .val (.long q2), .second, .val (.long q3), .second, .val (.long q4), .second, .val (.long q5), .second, .val (.long q6), .second, .val (.int zn), .val (.ref b1), .val (.ref b2), .val (.ref b3), .val (.ref b4), .val (.ref b5), .val (.ref b6), .val (.int (0 : Int32)), .val (.long (own_idx n (fun i => own_val (own_s3 q1 q3 q5 i) (own_s3 q2 q4 q6 i)) (fun i => own_lo (own_s3 q1 q3 q5 i)) (fun i => own_hi (own_s3 q1 q3 q5 i)))), .second, .val (.int (1 : Int32))] [])
            refine Go.st (fun t k => XS.aload X20.here hx rfl (hb hby at_179) rfl rfl k) ?_
            show Go _ _ _ _ T20 (mkF m 181 #[.val (.long q1), .second, .val (.long q2), .second, .val (.long q3), .second, .val (.long q4), .second, .val (.long q5), .second, .val (.long q6), .second, .val (.int zn), .val (.ref b1), .val (.ref b2), .val (.ref b3), .val (.ref b4), .val (.ref b5), .val (.ref b6), .val (.int (0 : Int32)), .val (.long (own_idx n (fun i => own_val (own_s3 q1 q3 q5 i) (own_s3 q2 q4 q6 i)) (fun i => own_lo (own_s3 q1 q3 q5 i)) (fun i => own_hi (own_s3 q1 q3 q5 i)))), .second, .val (.int (1 : Int32))] [(.ref b3)])
            refine Go.st (fun t k => XS.aload X20.here hx rfl (hb hby at_181) rfl rfl k) ?_
            show Go _ _ _ _ T20 (mkF m 183 #[.val (.long q1), .second, .val (.long q2), .second, .val (.long q3), .second, .val (.long q4), .second, .val (.long q5), .second, .val (.long q6), .second, .val (.int zn), .val (.ref b1), .val (.ref b2), .val (.ref b3), .val (.ref b4), .val (.ref b5), .val (.ref b6), .val (.int (0 : Int32)), .val (.long (own_idx n (fun i => own_val (own_s3 q1 q3 q5 i) (own_s3 q2 q4 q6 i)) (fun i => own_lo (own_s3 q1 q3 q5 i)) (fun i => own_hi (own_s3 q1 q3 q5 i)))), .second, .val (.int (1 : Int32))] [(.ref b4), (.ref b3)])
            refine Go.st (fun t k => XS.aload X20.here hx rfl (hb hby at_183) rfl rfl k) ?_
            show Go _ _ _ _ T20 (mkF m 185 #[.val (.long q1), .second, .val (.long q2), .second, .val (.long q3), .second, .val (.long q4), .second, .val (.long q5), .second, .val (.long q6), .second, .val (.int zn), .val (.ref b1), .val (.ref b2), .val (.ref b3), .val (.ref b4), .val (.ref b5), .val (.ref b6), .val (.int (0 : Int32)), .val (.long (own_idx n (fun i => own_val (own_s3 q1 q3 q5 i) (own_s3 q2 q4 q6 i)) (fun i => own_lo (own_s3 q1 q3 q5 i)) (fun i => own_hi (own_s3 q1 q3 q5 i)))), .second, .val (.int (1 : Int32))] [(.ref b5), (.ref b4), (.ref b3)])
            refine goS X20 hx hZ (y := (⟨"com/example/counterpath/counterpath/util/CombinationsNextPinLaw", "index", "([I[I[I)J"⟩ : MethodName)) hown (hw _ (List.mem_of_getElem? (i := 8) rfl)) (hw _ (List.mem_of_getElem? (i := 9) rfl)) (hw _ (List.mem_of_getElem? (i := 3) rfl)) (hw _ (List.mem_of_getElem? (i := 10) rfl)) (by decide) (rm3 l Z a0 hw b3 b4 b5 T17.heap n0 Z17 n (own_up (fun i => own_val (own_s3 q1 q3 q5 i) (own_s3 q2 q4 q6 i)) (fun i => own_lo (own_s3 q1 q3 q5 i)) kk) (fun i => own_lo (own_s3 q1 q3 q5 i)) (fun i => own_hi (own_s3 q1 q3 q5 i)) hn V_b3 V_b4 V_b5) e20 N20 0 (by decide) (by decide) (by decide) (by decide) (g := (mkF m 185 #[.val (.long q1), .second, .val (.long q2), .second, .val (.long q3), .second, .val (.long q4), .second, .val (.long q5), .second, .val (.long q6), .second, .val (.int zn), .val (.ref b1), .val (.ref b2), .val (.ref b3), .val (.ref b4), .val (.ref b5), .val (.ref b6), .val (.int (0 : Int32)), .val (.long (own_idx n (fun i => own_val (own_s3 q1 q3 q5 i) (own_s3 q2 q4 q6 i)) (fun i => own_lo (own_s3 q1 q3 q5 i)) (fun i => own_hi (own_s3 q1 q3 q5 i)))), .second, .val (.int (1 : Int32))] [(.ref b5), (.ref b4), (.ref b3)])) rfl (by rw [hml]; rfl) [(.ref b3), (.ref b4), (.ref b5)] [] (lenOf pd0_2 rfl) rfl rfl (by show 2 * 0 + _ ≤ _; exact Nat.le_of_eq rfl) (hb hby at_185) ?_
            intro T21 v21 L21 M21 X21 N21 hq21
            obtain ⟨rfl, N21q, e21⟩ := hq21
            replace N21 := N21 N21q
            show Go _ _ _ _ T21 (mkF m 188 #[.val (.long q1), .second, .val (.long q2), .second, .val (.long q3), .second, .val (.long q4), .second, .val (.long q5), .second, .val (.long q6), .second, .val (.int zn), .val (.ref b1), .val (.ref b2), .val (.ref b3), .val (.ref b4), .val (.ref b5), .val (.ref b6), .val (.int (0 : Int32)), .val (.long (own_idx n (fun i => own_val (own_s3 q1 q3 q5 i) (own_s3 q2 q4 q6 i)) (fun i => own_lo (own_s3 q1 q3 q5 i)) (fun i => own_hi (own_s3 q1 q3 q5 i)))), .second, .val (.int (1 : Int32))] [(.long (own_idx n (own_up (fun i => own_val (own_s3 q1 q3 q5 i) (own_s3 q2 q4 q6 i)) (fun i => own_lo (own_s3 q1 q3 q5 i)) kk) (fun i => own_lo (own_s3 q1 q3 q5 i)) (fun i => own_hi (own_s3 q1 q3 q5 i))))])
            refine Go.st (fun t k => XS.lload X21.here hx rfl (hb hby at_188) rfl k) ?_
            show Go _ _ _ _ T21 (mkF m 190 #[.val (.long q1), .second, .val (.long q2), .second, .val (.long q3), .second, .val (.long q4), .second, .val (.long q5), .second, .val (.long q6), .second, .val (.int zn), .val (.ref b1), .val (.ref b2), .val (.ref b3), .val (.ref b4), .val (.ref b5), .val (.ref b6), .val (.int (0 : Int32)), .val (.long (own_idx n (fun i => own_val (own_s3 q1 q3 q5 i) (own_s3 q2 q4 q6 i)) (fun i => own_lo (own_s3 q1 q3 q5 i)) (fun i => own_hi (own_s3 q1 q3 q5 i)))), .second, .val (.int (1 : Int32))] [(.long (own_idx n (fun i => own_val (own_s3 q1 q3 q5 i) (own_s3 q2 q4 q6 i)) (fun i => own_lo (own_s3 q1 q3 q5 i)) (fun i => own_hi (own_s3 q1 q3 q5 i)))), (.long (own_idx n (own_up (fun i => own_val (own_s3 q1 q3 q5 i) (own_s3 q2 q4 q6 i)) (fun i => own_lo (own_s3 q1 q3 q5 i)) kk) (fun i => own_lo (own_s3 q1 q3 q5 i)) (fun i => own_hi (own_s3 q1 q3 q5 i))))])
            refine Go.st (fun t k => XS.lconst X21.here hx rfl (hb hby at_190) k) ?_
            show Go _ _ _ _ T21 (mkF m 191 #[.val (.long q1), .second, .val (.long q2), .second, .val (.long q3), .second, .val (.long q4), .second, .val (.long q5), .second, .val (.long q6), .second, .val (.int zn), .val (.ref b1), .val (.ref b2), .val (.ref b3), .val (.ref b4), .val (.ref b5), .val (.ref b6), .val (.int (0 : Int32)), .val (.long (own_idx n (fun i => own_val (own_s3 q1 q3 q5 i) (own_s3 q2 q4 q6 i)) (fun i => own_lo (own_s3 q1 q3 q5 i)) (fun i => own_hi (own_s3 q1 q3 q5 i)))), .second, .val (.int (1 : Int32))] [(.long (1 : Int64)), (.long (own_idx n (fun i => own_val (own_s3 q1 q3 q5 i) (own_s3 q2 q4 q6 i)) (fun i => own_lo (own_s3 q1 q3 q5 i)) (fun i => own_hi (own_s3 q1 q3 q5 i)))), (.long (own_idx n (own_up (fun i => own_val (own_s3 q1 q3 q5 i) (own_s3 q2 q4 q6 i)) (fun i => own_lo (own_s3 q1 q3 q5 i)) kk) (fun i => own_lo (own_s3 q1 q3 q5 i)) (fun i => own_hi (own_s3 q1 q3 q5 i))))])
            refine Go.st (fun t k => XS.ladd X21.here hx rfl (hb hby at_191) rfl k) ?_
            show Go _ _ _ _ T21 (mkF m 192 #[.val (.long q1), .second, .val (.long q2), .second, .val (.long q3), .second, .val (.long q4), .second, .val (.long q5), .second, .val (.long q6), .second, .val (.int zn), .val (.ref b1), .val (.ref b2), .val (.ref b3), .val (.ref b4), .val (.ref b5), .val (.ref b6), .val (.int (0 : Int32)), .val (.long (own_idx n (fun i => own_val (own_s3 q1 q3 q5 i) (own_s3 q2 q4 q6 i)) (fun i => own_lo (own_s3 q1 q3 q5 i)) (fun i => own_hi (own_s3 q1 q3 q5 i)))), .second, .val (.int (1 : Int32))] [(.long ((own_idx n (fun i => own_val (own_s3 q1 q3 q5 i) (own_s3 q2 q4 q6 i)) (fun i => own_lo (own_s3 q1 q3 q5 i)) (fun i => own_hi (own_s3 q1 q3 q5 i))) + (1 : Int64))), (.long (own_idx n (own_up (fun i => own_val (own_s3 q1 q3 q5 i) (own_s3 q2 q4 q6 i)) (fun i => own_lo (own_s3 q1 q3 q5 i)) kk) (fun i => own_lo (own_s3 q1 q3 q5 i)) (fun i => own_hi (own_s3 q1 q3 q5 i))))])
            refine Go.st (fun t k => XS.lcmp X21.here hx rfl (hb hby at_192) rfl k) ?_
            show Go _ _ _ _ T21 (mkF m 193 #[.val (.long q1), .second, .val (.long q2), .second, .val (.long q3), .second, .val (.long q4), .second, .val (.long q5), .second, .val (.long q6), .second, .val (.int zn), .val (.ref b1), .val (.ref b2), .val (.ref b3), .val (.ref b4), .val (.ref b5), .val (.ref b6), .val (.int (0 : Int32)), .val (.long (own_idx n (fun i => own_val (own_s3 q1 q3 q5 i) (own_s3 q2 q4 q6 i)) (fun i => own_lo (own_s3 q1 q3 q5 i)) (fun i => own_hi (own_s3 q1 q3 q5 i)))), .second, .val (.int (1 : Int32))] [(.int (lcmpW (own_idx n (own_up (fun i => own_val (own_s3 q1 q3 q5 i) (own_s3 q2 q4 q6 i)) (fun i => own_lo (own_s3 q1 q3 q5 i)) kk) (fun i => own_lo (own_s3 q1 q3 q5 i)) (fun i => own_hi (own_s3 q1 q3 q5 i))) ((own_idx n (fun i => own_val (own_s3 q1 q3 q5 i) (own_s3 q2 q4 q6 i)) (fun i => own_lo (own_s3 q1 q3 q5 i)) (fun i => own_hi (own_s3 q1 q3 q5 i))) + (1 : Int64))))])
            refine Go.st (fun t k => XS.ifNo X21.here hx rfl (hb hby at_193) rfl ((if0 _ _).trans (teq ((lw_eq _ _).mpr (own_step (own_s3 q1 q3 q5) (own_s3 q2 q4 q6) hn hk1 hk2 hk3))).2) k) ?_
            show Go _ _ _ _ T21 (mkF m 196 #[.val (.long q1), .second, .val (.long q2), .second, .val (.long q3), .second, .val (.long q4), .second, .val (.long q5), .second, .val (.long q6), .second, .val (.int zn), .val (.ref b1), .val (.ref b2), .val (.ref b3), .val (.ref b4), .val (.ref b5), .val (.ref b6), .val (.int (0 : Int32)), .val (.long (own_idx n (fun i => own_val (own_s3 q1 q3 q5 i) (own_s3 q2 q4 q6 i)) (fun i => own_lo (own_s3 q1 q3 q5 i)) (fun i => own_hi (own_s3 q1 q3 q5 i)))), .second, .val (.int (1 : Int32))] [])
            refine Go.st (fun t k => XS.iconst X21.here hx rfl (hb hby at_196) k) ?_
            show Go _ _ _ _ T21 (mkF m 197 #[.val (.long q1), .second, .val (.long q2), .second, .val (.long q3), .second, .val (.long q4), .second, .val (.long q5), .second, .val (.long q6), .second, .val (.int zn), .val (.ref b1), .val (.ref b2), .val (.ref b3), .val (.ref b4), .val (.ref b5), .val (.ref b6), .val (.int (0 : Int32)), .val (.long (own_idx n (fun i => own_val (own_s3 q1 q3 q5 i) (own_s3 q2 q4 q6 i)) (fun i => own_lo (own_s3 q1 q3 q5 i)) (fun i => own_hi (own_s3 q1 q3 q5 i)))), .second, .val (.int (1 : Int32))] [(.int (1 : Int32))])
            refine Go.st (fun t k => XS.goto X21.here hx rfl (pc0 := 197) (pc' := 201) rfl (hb hby at_197) (by decide) (by decide) k) ?_
            show Go _ _ _ _ T21 (mkF m 201 #[.val (.long q1), .second, .val (.long q2), .second, .val (.long q3), .second, .val (.long q4), .second, .val (.long q5), .second, .val (.long q6), .second, .val (.int zn), .val (.ref b1), .val (.ref b2), .val (.ref b3), .val (.ref b4), .val (.ref b5), .val (.ref b6), .val (.int (0 : Int32)), .val (.long (own_idx n (fun i => own_val (own_s3 q1 q3 q5 i) (own_s3 q2 q4 q6 i)) (fun i => own_lo (own_s3 q1 q3 q5 i)) (fun i => own_hi (own_s3 q1 q3 q5 i)))), .second, .val (.int (1 : Int32))] [(.int (1 : Int32))])
            exact goN X21 hx hret hlk (by simp) (hb hby at_201) (by decide) (by decide) ⟨rfl, N21⟩
          ·
            exact absurd (own_rng1 (own_s3 q1 q3 q5) (own_s3 q2 q4 q6) hk1 hk3) hr20
        ·
          exact absurd (fun _ _ => rfl) hr19
      ·
        exact absurd (fun _ _ => rfl) hr18
    ·
      exact absurd hall hr9
set_option maxRecDepth 65536 in
set_option maxHeartbeats 40000000 in
theorem comes_1 {Post : Tables → Env → Array Value → State → Outcome → State → Prop} (hpost : ∀ tb e args s v u, (limb_1_1.after args s (.returned v) u = true ∧ limb_1_2.after args s (.returned v) u = true ∧ True) → FrameEnd s (.returned v) u (Jvm.fieldLocs frame_1_writes args s ++ Jvm.arrayLocs frame_1_arrays args s ++ Jvm.staticLocs frame_1_statics s) 24 128 → Post tb e args s (.returned v) u) :
    ArmFor flags0 classFile x code maxLocals ret World_1 tables_1 room_1 Calls_1 rest_1 Pre_1 Post := by
  intro l hfl _ _ p e ha hc hk s m args below hf hA hF happ hP
  obtain ⟨hcalls, hrest, hpre⟩ := hP
  obtain ⟨-, -, -, hnamed, -, -, -, hat⟩ := (Spec.applies_iff hf).mp happ
  obtain ⟨hg, hn⟩ := and_e (Cond.before_iff.mp (show (Jvm.Cond.and given_1 narrow_1).before args s = true from hpre))
  obtain ⟨ga1, gb1⟩ := and_e hg
  obtain ⟨ga2, gb2⟩ := and_e gb1
  obtain ⟨ga3, gb3⟩ := and_e gb2
  obtain ⟨ga4, gb4⟩ := and_e gb3
  obtain ⟨ga5, gb5⟩ := and_e gb4
  obtain ⟨ga6, gb6⟩ := and_e gb5
  obtain ⟨w0, w1, w2, w3, w4, w5, rfl⟩ : ∃ w0 w1 w2 w3 w4 w5 : Value, args = #[w0, w1, w2, w3, w4, w5] := by
    have hs : args.size = 6 := by simpa [Cond.value, given_1] using ga1
    obtain ⟨L⟩ := args
    match L, hs with
    | [w0, w1, w2, w3, w4, w5], _ => exact ⟨w0, w1, w2, w3, w4, w5, rfl⟩
  have hw := fun d (hd : d ∈ tables_1) => atoms_spec (ws := Jvm.Cond.code x code maxLocals ret :: tables_1) hat d (List.mem_cons_of_mem _ hd)
  obtain ⟨i0, ei0⟩ := isL_v ga2
  obtain rfl : w0 = (.long i0) := Option.some.inj ei0
  obtain ⟨i1, ei1⟩ := isL_v ga3
  obtain rfl : w1 = (.long i1) := Option.some.inj ei1
  obtain ⟨i2, ei2⟩ := isL_v ga4
  obtain rfl : w2 = (.long i2) := Option.some.inj ei2
  obtain ⟨i3, ei3⟩ := isL_v ga5
  obtain rfl : w3 = (.long i3) := Option.some.inj ei3
  obtain ⟨i4, ei4⟩ := isL_v ga6
  obtain rfl : w4 = (.long i4) := Option.some.inj ei4
  obtain ⟨i5, ei5⟩ := isL_v gb6
  obtain rfl : w5 = (.long i5) := Option.some.inj ei5
  obtain ⟨n, o, h1, h2, h3, _, L, rfl, ⟨rfl, N⟩, hq⟩ := rm0 l s _ hw i0 i1 i2 i3 i4 i5 s.heap s.heap.size (Nat.le_refl _)  tables_1 p e ha hc hk s m _ below hf ((Spec.applies_iff_loose hf).mp happ).1 ⟨rfl, State.Warmed39.refl s, rfl⟩ trivial
  refine ⟨n, _, h1, h2, h3, hpost _ _ _ _ _ _ ⟨Cond.after_iff.mpr rfl, Cond.after_iff.mpr (eq_i res_at (Term.int_eval (1)) rfl), trivial⟩ ⟨hq.1, hq.2.1, (hq.2.2.sift fun y hy => Or.inr (N y hy)).mono (by decide) (by decide)⟩⟩
theorem main_1_1 : Claimed_1_1 := comes_1 fun _ _ _ _ _ _ h hF => ⟨h.1, hF⟩
theorem main_1_2 : Claimed_1_2 := comes_1 fun _ _ _ _ _ _ h hF => ⟨h.2.1, hF⟩
end Jvm.Pilot.@@N@@
namespace Jvm.Pilot.@@N@@
open Jvm Jvm.ClassFile Sem Op Lib Jvm.Free Jvm.Stand Jvm.Pilot.@@N@@.Jvm.D
/-! MADE BY PROGRAM (witnessworld.py) out of the Statement's table words and the real class files: 10 classes; the members and pool entries that the words name. The judged class is class 1, her method 8. -/
namespace start1
open Jvm.ClassFile
def u (s : String) : CpInfo := .utf8 (stringToUtf16 s)
/-- a pool by its gaps: so many unusable entries, then the entry; so many at the end -/
def gap : Nat → List CpInfo → List CpInfo
  | 0, r => r
  | n + 1, r => .unusable :: gap n r
def poolList (es : List (Nat × CpInfo)) (last : Nat) : List CpInfo := es.foldr (fun e r => gap e.1 (e.2 :: r)) (gap last [])
def pool (es : List (Nat × CpInfo)) (last : Nat) : Array CpInfo := ⟨poolList es last⟩
def fileOf (pool : Array CpInfo) (this : Nat) (attrs : Array Attribute := #[]) (ms : Array MethodInfo := #[]) (fl : Nat := 33) (sup : Nat := 0) (ifs : Array Nat := #[]) (fds : Array FieldInfo := #[]) : ClassFile where
  minorVersion := 0
  majorVersion := 65
  constantPool := pool
  accessFlags := fl
  thisClass := this
  superClass := sup
  interfaces := ifs
  fields := fds
  methods := ms
  attributes := attrs
def plain (name : String) (sup : Option ClassId) : Class where
  name := name
  kind := .ordinary
  loader := none
  accessFlags := 33
  super := sup
  interfaces := #[]
  cf := none
  fields := #[]
  methods := #[]
  instanceTypes := #[]
  staticTypes := #[]
  resolved := #[]
  callSites := []
  init := .initialized
  statics := none
  mirror := none

def pool0 : Array CpInfo := pool [(5, u "<init>"), (0, u "()V"), (1, .class_ 10), (1, u "java/lang/Object")] 113

def k0m0 : Method := { name := "<init>", desc := "()V", sig := { parameters := [], returnType := none }, accessFlags := 1, code := none }
/-- java/lang/Object -/
def k0 : Class := { plain "java/lang/Object" none with
  accessFlags := 33
  interfaces := #[]
  cf := some (fileOf pool0 8 #[] #[{ accessFlags := 1, nameIndex := 5, descriptorIndex := 6, attributes := #[] }] 33 0 #[] #[])
  fields := #[]
  methods := #[k0m0]
  instanceTypes := #[]
  staticTypes := #[]
  resolved := Array.replicate 124 none
  statics := none }

def pool1 : Array CpInfo := pool [(2, .class_ 4), (1, u "java/lang/Object"), (0, u "<init>"), (0, u "()V"), (0, .methodref 8 9), (0, .class_ 10), (0, .nameAndType 11 12), (0, u "java/lang/Math"), (0, u "min"), (0, u "(II)I"), (0, .methodref 8 14), (0, .nameAndType 15 12), (0, u "max"), (0, .methodref 17 18), (0, .class_ 19), (0, .nameAndType 20 21), (0, u "com/example/counterpath/counterpath/util/CombinationsNextPinLaw"), (0, u "lo"), (0, u "(J)I"), (0, .methodref 17 23), (0, .nameAndType 24 21), (0, u "hi"), (0, .long 3), (1, .methodref 17 28), (0, .nameAndType 29 30), (0, u "val"), (0, u "(JJ)I"), (0, .methodref 17 32), (0, .nameAndType 33 34), (0, u "fill"), (0, u "([I[I[IJJJJJJ)V"), (0, .methodref 17 36), (0, .nameAndType 37 38), (0, u "same"), (0, u "([I[I)Z"), (0, .methodref 17 40), (0, .nameAndType 41 42), (0, u "index"), (0, u "([I[I[I)J"), (0, .methodref 44 45), (0, .class_ 46), (0, .nameAndType 47 48), (0, u "com/example/counterpath/counterpath/util/Combinations"), (0, u "next"), (0, u "([I[I[I)Z"), (0, .methodref 17 50), (0, .nameAndType 51 48), (0, u "inRange"), (3, u "law"), (0, u "(JJJJJJ)Z")] 4

def k1m0 : Method := { name := "<init>", desc := "()V", sig := { parameters := [], returnType := none }, accessFlags := 2, code := none }
def k1c1 : Code := { maxStack := 3, maxLocals := 2, code := method_2_code, exceptionTable := #[], attributes := #[] }
def k1m1 : Method := { name := "lo", desc := "(J)I", sig := { parameters := [.long], returnType := some .int }, accessFlags := 10, code := some k1c1 }
def k1c2 : Code := { maxStack := 3, maxLocals := 2, code := method_3_code, exceptionTable := #[], attributes := #[] }
def k1m2 : Method := { name := "hi", desc := "(J)I", sig := { parameters := [.long], returnType := some .int }, accessFlags := 10, code := some k1c2 }
def k1c3 : Code := { maxStack := 6, maxLocals := 9, code := method_4_code, exceptionTable := #[], attributes := #[] }
def k1m3 : Method := { name := "val", desc := "(JJ)I", sig := { parameters := [.long, .long], returnType := some .int }, accessFlags := 10, code := some k1c3 }
def k1c4 : Code := { maxStack := 6, maxLocals := 16, code := method_5_code, exceptionTable := #[], attributes := #[] }
def k1m4 : Method := { name := "fill", desc := "([I[I[IJJJJJJ)V", sig := { parameters := [(.array .int), (.array .int), (.array .int), .long, .long, .long, .long, .long, .long], returnType := none }, accessFlags := 10, code := some k1c4 }
def k1c5 : Code := { maxStack := 3, maxLocals := 3, code := method_6_code, exceptionTable := #[], attributes := #[] }
def k1m5 : Method := { name := "same", desc := "([I[I)Z", sig := { parameters := [(.array .int), (.array .int)], returnType := some .boolean }, accessFlags := 10, code := some k1c5 }
def k1c6 : Code := { maxStack := 3, maxLocals := 4, code := method_7_code, exceptionTable := #[], attributes := #[] }
def k1m6 : Method := { name := "inRange", desc := "([I[I[I)Z", sig := { parameters := [(.array .int), (.array .int), (.array .int)], returnType := some .boolean }, accessFlags := 10, code := some k1c6 }
def k1c7 : Code := { maxStack := 6, maxLocals := 6, code := method_8_code, exceptionTable := #[], attributes := #[] }
def k1m7 : Method := { name := "index", desc := "([I[I[I)J", sig := { parameters := [(.array .int), (.array .int), (.array .int)], returnType := some .long }, accessFlags := 10, code := some k1c7 }
def k1c8 : Code := { maxStack := 15, maxLocals := 23, code := code, exceptionTable := #[], attributes := #[] }
def k1m8 : Method := { name := "law", desc := "(JJJJJJ)Z", sig := { parameters := [.long, .long, .long, .long, .long, .long], returnType := some .boolean }, accessFlags := 9, code := some k1c8 }
/-- com/example/counterpath/counterpath/util/CombinationsNextPinLaw -/
def k1 : Class := { plain "com/example/counterpath/counterpath/util/CombinationsNextPinLaw" (some 0) with
  accessFlags := 49
  interfaces := #[]
  cf := some (fileOf pool1 17 #[] #[{ accessFlags := 2, nameIndex := 5, descriptorIndex := 6, attributes := #[] }, { accessFlags := 10, nameIndex := 20, descriptorIndex := 21, attributes := #[] }, { accessFlags := 10, nameIndex := 24, descriptorIndex := 21, attributes := #[] }, { accessFlags := 10, nameIndex := 29, descriptorIndex := 30, attributes := #[] }, { accessFlags := 10, nameIndex := 33, descriptorIndex := 34, attributes := #[] }, { accessFlags := 10, nameIndex := 37, descriptorIndex := 38, attributes := #[] }, { accessFlags := 10, nameIndex := 51, descriptorIndex := 48, attributes := #[] }, { accessFlags := 10, nameIndex := 41, descriptorIndex := 42, attributes := #[] }, { accessFlags := 9, nameIndex := 55, descriptorIndex := 56, attributes := #[] }] 49 2 #[] #[])
  fields := #[]
  methods := #[k1m0, k1m1, k1m2, k1m3, k1m4, k1m5, k1m6, k1m7, k1m8]
  instanceTypes := #[]
  staticTypes := #[]
  resolved := Array.replicate 61 none
  statics := none }

def pool2 : Array CpInfo := pool [(2, .class_ 4), (1, u "java/lang/Object"), (0, u "<init>"), (0, u "()V"), (0, .class_ 8), (0, u "com/example/counterpath/counterpath/util/Combinations"), (2, u "next"), (0, u "([I[I[I)Z")] 3

def k2m0 : Method := { name := "<init>", desc := "()V", sig := { parameters := [], returnType := none }, accessFlags := 2, code := none }
def k2c1 : Code := { maxStack := 4, maxLocals := 4, code := prog_352_method_2_code, exceptionTable := #[], attributes := #[] }
def k2m1 : Method := { name := "next", desc := "([I[I[I)Z", sig := { parameters := [(.array .int), (.array .int), (.array .int)], returnType := some .boolean }, accessFlags := 9, code := some k2c1 }
/-- com/example/counterpath/counterpath/util/Combinations -/
def k2 : Class := { plain "com/example/counterpath/counterpath/util/Combinations" (some 0) with
  accessFlags := 49
  interfaces := #[]
  cf := some (fileOf pool2 7 #[] #[{ accessFlags := 2, nameIndex := 5, descriptorIndex := 6, attributes := #[] }, { accessFlags := 9, nameIndex := 11, descriptorIndex := 12, attributes := #[] }] 49 2 #[] #[])
  fields := #[]
  methods := #[k2m0, k2m1]
  instanceTypes := #[]
  staticTypes := #[]
  resolved := Array.replicate 16 none
  statics := none }

def pool3 : Array CpInfo := pool [(1, .class_ 2), (0, u "java/lang/Math"), (1, .class_ 6), (1, u "java/lang/Object"), (0, u "<init>"), (0, u "()V"), (89, .class_ 100), (1, u "java/lang/Math$RandomNumberGeneratorHolder"), (71, u "negativeZeroFloatBits"), (0, u "J"), (2, u "negativeZeroDoubleBits"), (21, u "max"), (2, u "min"), (43, u "$assertionsDisabled"), (0, u "Z"), (88, u "(II)I"), (2, u "twoToTheDoubleScaleDown"), (0, u "D"), (4, u "twoToTheDoubleScaleUp"), (9, u "E"), (3, u "PI"), (2, u "TAU"), (2, u "DEGREES_TO_RADIANS"), (0, u "RADIANS_TO_DEGREES")] 94

def k3m0 : Method := { name := "<init>", desc := "()V", sig := { parameters := [], returnType := none }, accessFlags := 2, code := none }
def k3c1 : Code := { maxStack := 2, maxLocals := 2, code := jdk_29_method_65_code, exceptionTable := #[], attributes := #[] }
def k3m1 : Method := { name := "max", desc := "(II)I", sig := { parameters := [.int, .int], returnType := some .int }, accessFlags := 9, code := some k3c1 }
def k3c2 : Code := { maxStack := 2, maxLocals := 2, code := jdk_29_method_69_code, exceptionTable := #[], attributes := #[] }
def k3m2 : Method := { name := "min", desc := "(II)I", sig := { parameters := [.int, .int], returnType := some .int }, accessFlags := 9, code := some k3c2 }
/-- java/lang/Math -/
def k3 : Class := { plain "java/lang/Math" (some 0) with
  accessFlags := 49
  interfaces := #[]
  cf := some (fileOf pool3 1 #[.nestMembers #[98]] #[{ accessFlags := 2, nameIndex := 7, descriptorIndex := 8, attributes := #[] }, { accessFlags := 9, nameIndex := 198, descriptorIndex := 335, attributes := #[] }, { accessFlags := 9, nameIndex := 201, descriptorIndex := 335, attributes := #[] }] 49 4 #[] #[{ accessFlags := 25, nameIndex := 354, descriptorIndex := 339, attributes := #[] }, { accessFlags := 25, nameIndex := 358, descriptorIndex := 339, attributes := #[] }, { accessFlags := 25, nameIndex := 361, descriptorIndex := 339, attributes := #[] }, { accessFlags := 26, nameIndex := 364, descriptorIndex := 339, attributes := #[] }, { accessFlags := 26, nameIndex := 365, descriptorIndex := 339, attributes := #[] }, { accessFlags := 26, nameIndex := 172, descriptorIndex := 173, attributes := #[] }, { accessFlags := 26, nameIndex := 176, descriptorIndex := 173, attributes := #[] }, { accessFlags := 8, nameIndex := 344, descriptorIndex := 339, attributes := #[] }, { accessFlags := 8, nameIndex := 338, descriptorIndex := 339, attributes := #[] }, { accessFlags := 4120, nameIndex := 245, descriptorIndex := 246, attributes := #[] }])
  fields := #[{ name := "E", type := .double, accessFlags := 25, slot := 0, constantValue := 0 }, { name := "PI", type := .double, accessFlags := 25, slot := 1, constantValue := 0 }, { name := "TAU", type := .double, accessFlags := 25, slot := 2, constantValue := 0 }, { name := "DEGREES_TO_RADIANS", type := .double, accessFlags := 26, slot := 3, constantValue := 0 }, { name := "RADIANS_TO_DEGREES", type := .double, accessFlags := 26, slot := 4, constantValue := 0 }, { name := "negativeZeroFloatBits", type := .long, accessFlags := 26, slot := 5, constantValue := 0 }, { name := "negativeZeroDoubleBits", type := .long, accessFlags := 26, slot := 6, constantValue := 0 }, { name := "twoToTheDoubleScaleUp", type := .double, accessFlags := 8, slot := 7, constantValue := 0 }, { name := "twoToTheDoubleScaleDown", type := .double, accessFlags := 8, slot := 8, constantValue := 0 }, { name := "$assertionsDisabled", type := .boolean, accessFlags := 4120, slot := 9, constantValue := 0 }]
  methods := #[k3m0, k3m1, k3m2]
  instanceTypes := #[]
  staticTypes := #[.double, .double, .double, .double, .double, .long, .long, .double, .double, .boolean]
  resolved := Array.replicate 460 none
  statics := none }

def pool4 : Array CpInfo := pool [(1, u "java/lang/Cloneable"), (0, .class_ 1), (0, u "java/lang/Object"), (0, .class_ 3)] 3

/-- java/lang/Cloneable -/
def k4 : Class := { plain "java/lang/Cloneable" (some 0) with
  accessFlags := 1537
  interfaces := #[]
  cf := some (fileOf pool4 2 #[] #[] 1537 4 #[] #[])
  fields := #[]
  methods := #[]
  instanceTypes := #[]
  staticTypes := #[]
  resolved := Array.replicate 8 none
  statics := none }

def pool5 : Array CpInfo := pool [(1, u "java/io/Serializable"), (0, .class_ 1), (0, u "java/lang/Object"), (0, .class_ 3)] 3

/-- java/io/Serializable -/
def k5 : Class := { plain "java/io/Serializable" (some 0) with
  accessFlags := 1537
  interfaces := #[]
  cf := some (fileOf pool5 2 #[] #[] 1537 4 #[] #[])
  fields := #[]
  methods := #[]
  instanceTypes := #[]
  staticTypes := #[]
  resolved := Array.replicate 8 none
  statics := none }

/-- the primitive byte -/
def k6 : Class := { plain "byte" none with kind := .primitive 'B', accessFlags := 0x411 }
/-- [B -/
def k7 : Class := { plain "[B" (some 0) with kind := .array 6 .byte, interfaces := #[4, 5], accessFlags := 1041 }

/-- the primitive int -/
def k8 : Class := { plain "int" none with kind := .primitive 'I', accessFlags := 0x411 }
/-- [I -/
def k9 : Class := { plain "[I" (some 0) with kind := .array 8 .int, interfaces := #[4, 5], accessFlags := 1041 }

def heap : Heap := #[]
def classes : Array Class := #[k0, k1, k2, k3, k4, k5, k6, k7, k8, k9]
def interned : List (Array UInt16 × Addr) := []
def slotsUsed : Nat := 0
def theMethod : MethodId := ⟨1, 8⟩
def args0 : Array Value := #[.long 5, .long 7, .long 6, .long 3, .long 40, .long 1]
def aboutOver (below : List Frame) : State where
  vm := { classes := classes, interned := interned.toArray }
  heap := heap
  slotsUsed := slotsUsed
  threads := #[{ frames := .invoking theMethod args0 :: below }]
def below0 : List Frame := [.native { method := ⟨0, 0⟩, args := #[] }]
def about1 : State := aboutOver below0
def p0 : Program := .bare "" "" ""
def e0 : Env := launch0.env 0 0 0
theorem w_frames : about1.frames = Frame.invoking theMethod args0 :: below0 := rfl
set_option maxRecDepth 65536 in
theorem w_args : argsFit about1.vm theMethod args0 = true := by decide +kernel
set_option maxRecDepth 65536 in
theorem w_heap : heapFits about1 = true := by decide +kernel
set_option maxRecDepth 65536 in
theorem w_runnable : about1.curStatus? = some .runnable := by decide +kernel
set_option maxRecDepth 65536 in
theorem w_alone : about1.alone = true := by decide +kernel
set_option maxRecDepth 65536 in
theorem w_named : about1.methodNamed? x = some theMethod := by decide +kernel
set_option maxRecDepth 65536 in
theorem w_hears : about1.hears theMethod below0 = true := by decide +kernel
set_option maxRecDepth 65536 in
theorem w_ripe : about1.ripe theMethod args0 below0 = true := by decide +kernel
theorem w_running : about1.status = .running := rfl
set_option maxRecDepth 65536 in
theorem w_room : about1.hasRoom e0.platform room_1 = true :=
  launch0.hasRoom_least _ room_1 (by decide +kernel) (by decide +kernel) (by decide +kernel) (by decide +kernel) (by decide +kernel) (by decide +kernel)
theorem allAtoms_all (ts : List Jvm.Cond) (a : Array Jvm.Value) (st : Jvm.State) : (allAtoms ts).before a st = ts.all (fun c => c.before a st) := by
  induction ts with
  | nil => rfl
  | cons c t ih =>
    show (Jvm.Cond.and c (allAtoms t)).before a st = _
    rw [Jvm.Cond.before_and, ih, List.all_cons]
def words1 : List Jvm.Cond := Jvm.Cond.code x code maxLocals ret :: tables_1
/-- a 'code' word, met by the world's own term for the bytes: nothing is compared byte by byte -/
theorem code_word {y : MethodName} {bytes : ByteArray} {mx : Nat} {rt : Option FieldType} {a : Array Value} {s : State} {m : MethodId} {meth : Method} {c : Code} (h1 : s.methodNamed? y = some m) (h2 : s.vm.method? m = some meth) (h3 : meth.code = some c) (h4 : c.code = bytes)
    (h5 : (c.maxLocals == mx && c.exceptionTable.isEmpty && decide (c.maxStack ≤ mostOperands) && decide (meth.sig.returnType = rt) && !meth.locks && decide (parseMethodDescriptor y.desc = some meth.sig)) = true) : (Jvm.Cond.code y bytes mx rt).before a s = true := by
  simp only [Bool.and_eq_true, beq_iff_eq, Bool.not_eq_true', decide_eq_true_eq] at h5
  obtain ⟨⟨⟨⟨⟨g1, g2⟩, g3⟩, g4⟩, g5⟩, g6⟩ := h5
  simp [Cond.before, Cond.holds, Cond.value, h1, h2, h3, h4, g1, g2, g3, g4, g5, g6]
def isCode : Jvm.Cond → Bool
  | .code _ _ _ _ => true
  | _ => false
theorem all_split {L : List Jvm.Cond} {P : Jvm.Cond → Bool} (h1 : L.all (fun c => isCode c || P c) = true) (h2 : ∀ c ∈ L.filter isCode, P c = true) : L.all P = true := by
  refine List.all_eq_true.mpr fun c hc => ?_
  have h := List.all_eq_true.mp h1 c hc
  rcases Bool.eq_false_or_eq_true (isCode c) with hi | hi
  · exact h2 c (List.mem_filter.mpr ⟨hc, hi⟩)
  · simpa [hi] using h
set_option maxRecDepth 65536 in
theorem w_c0 : (Jvm.Cond.code x code maxLocals ret).before args0 about1 = true := code_word (m := ⟨1, 8⟩) (meth := k1m8) (c := k1c8) (by decide +kernel) rfl rfl rfl (by decide +kernel)
set_option maxRecDepth 65536 in
theorem w_c1 : (Jvm.Cond.code ({ cls := "com/example/counterpath/counterpath/util/CombinationsNextPinLaw", name := "fill", desc := "([I[I[IJJJJJJ)V" } : Jvm.MethodName) method_5_code (16 : Nat) (Option.none : Option Jvm.ClassFile.FieldType)).before args0 about1 = true := code_word (m := ⟨1, 4⟩) (meth := k1m4) (c := k1c4) (by decide +kernel) rfl rfl rfl (by decide +kernel)
set_option maxRecDepth 65536 in
theorem w_c2 : (Jvm.Cond.code ({ cls := "com/example/counterpath/counterpath/util/CombinationsNextPinLaw", name := "same", desc := "([I[I)Z" } : Jvm.MethodName) method_6_code (3 : Nat) (Option.some Jvm.ClassFile.FieldType.boolean)).before args0 about1 = true := code_word (m := ⟨1, 5⟩) (meth := k1m5) (c := k1c5) (by decide +kernel) rfl rfl rfl (by decide +kernel)
set_option maxRecDepth 65536 in
theorem w_c3 : (Jvm.Cond.code ({ cls := "com/example/counterpath/counterpath/util/CombinationsNextPinLaw", name := "index", desc := "([I[I[I)J" } : Jvm.MethodName) method_8_code (6 : Nat) (Option.some Jvm.ClassFile.FieldType.long)).before args0 about1 = true := code_word (m := ⟨1, 7⟩) (meth := k1m7) (c := k1c7) (by decide +kernel) rfl rfl rfl (by decide +kernel)
set_option maxRecDepth 65536 in
theorem w_c4 : (Jvm.Cond.code ({ cls := "com/example/counterpath/counterpath/util/Combinations", name := "next", desc := "([I[I[I)Z" } : Jvm.MethodName) prog_352_method_2_code (4 : Nat) (Option.some Jvm.ClassFile.FieldType.boolean)).before args0 about1 = true := code_word (m := ⟨2, 1⟩) (meth := k2m1) (c := k2c1) (by decide +kernel) rfl rfl rfl (by decide +kernel)
set_option maxRecDepth 65536 in
theorem w_c5 : (Jvm.Cond.code ({ cls := "com/example/counterpath/counterpath/util/CombinationsNextPinLaw", name := "inRange", desc := "([I[I[I)Z" } : Jvm.MethodName) method_7_code (4 : Nat) (Option.some Jvm.ClassFile.FieldType.boolean)).before args0 about1 = true := code_word (m := ⟨1, 6⟩) (meth := k1m6) (c := k1c6) (by decide +kernel) rfl rfl rfl (by decide +kernel)
set_option maxRecDepth 65536 in
theorem w_c6 : (Jvm.Cond.code ({ cls := "com/example/counterpath/counterpath/util/CombinationsNextPinLaw", name := "lo", desc := "(J)I" } : Jvm.MethodName) method_2_code (2 : Nat) (Option.some Jvm.ClassFile.FieldType.int)).before args0 about1 = true := code_word (m := ⟨1, 1⟩) (meth := k1m1) (c := k1c1) (by decide +kernel) rfl rfl rfl (by decide +kernel)
set_option maxRecDepth 65536 in
theorem w_c7 : (Jvm.Cond.code ({ cls := "java/lang/Math", name := "min", desc := "(II)I" } : Jvm.MethodName) jdk_29_method_69_code (2 : Nat) (Option.some Jvm.ClassFile.FieldType.int)).before args0 about1 = true := code_word (m := ⟨3, 2⟩) (meth := k3m2) (c := k3c2) (by decide +kernel) rfl rfl rfl (by decide +kernel)
set_option maxRecDepth 65536 in
theorem w_c8 : (Jvm.Cond.code ({ cls := "com/example/counterpath/counterpath/util/CombinationsNextPinLaw", name := "hi", desc := "(J)I" } : Jvm.MethodName) method_3_code (2 : Nat) (Option.some Jvm.ClassFile.FieldType.int)).before args0 about1 = true := code_word (m := ⟨1, 2⟩) (meth := k1m2) (c := k1c2) (by decide +kernel) rfl rfl rfl (by decide +kernel)
set_option maxRecDepth 65536 in
theorem w_c9 : (Jvm.Cond.code ({ cls := "java/lang/Math", name := "max", desc := "(II)I" } : Jvm.MethodName) jdk_29_method_65_code (2 : Nat) (Option.some Jvm.ClassFile.FieldType.int)).before args0 about1 = true := code_word (m := ⟨3, 1⟩) (meth := k3m1) (c := k3c1) (by decide +kernel) rfl rfl rfl (by decide +kernel)
set_option maxRecDepth 65536 in
theorem w_c10 : (Jvm.Cond.code ({ cls := "com/example/counterpath/counterpath/util/CombinationsNextPinLaw", name := "val", desc := "(JJ)I" } : Jvm.MethodName) method_4_code (9 : Nat) (Option.some Jvm.ClassFile.FieldType.int)).before args0 about1 = true := code_word (m := ⟨1, 3⟩) (meth := k1m3) (c := k1c3) (by decide +kernel) rfl rfl rfl (by decide +kernel)
def codes1 : List Jvm.Cond := [Jvm.Cond.code x code maxLocals ret, Jvm.Cond.code ({ cls := "com/example/counterpath/counterpath/util/CombinationsNextPinLaw", name := "fill", desc := "([I[I[IJJJJJJ)V" } : Jvm.MethodName) method_5_code (16 : Nat) (Option.none : Option Jvm.ClassFile.FieldType), Jvm.Cond.code ({ cls := "com/example/counterpath/counterpath/util/CombinationsNextPinLaw", name := "same", desc := "([I[I)Z" } : Jvm.MethodName) method_6_code (3 : Nat) (Option.some Jvm.ClassFile.FieldType.boolean), Jvm.Cond.code ({ cls := "com/example/counterpath/counterpath/util/CombinationsNextPinLaw", name := "index", desc := "([I[I[I)J" } : Jvm.MethodName) method_8_code (6 : Nat) (Option.some Jvm.ClassFile.FieldType.long), Jvm.Cond.code ({ cls := "com/example/counterpath/counterpath/util/Combinations", name := "next", desc := "([I[I[I)Z" } : Jvm.MethodName) prog_352_method_2_code (4 : Nat) (Option.some Jvm.ClassFile.FieldType.boolean), Jvm.Cond.code ({ cls := "com/example/counterpath/counterpath/util/CombinationsNextPinLaw", name := "inRange", desc := "([I[I[I)Z" } : Jvm.MethodName) method_7_code (4 : Nat) (Option.some Jvm.ClassFile.FieldType.boolean), Jvm.Cond.code ({ cls := "com/example/counterpath/counterpath/util/CombinationsNextPinLaw", name := "lo", desc := "(J)I" } : Jvm.MethodName) method_2_code (2 : Nat) (Option.some Jvm.ClassFile.FieldType.int), Jvm.Cond.code ({ cls := "java/lang/Math", name := "min", desc := "(II)I" } : Jvm.MethodName) jdk_29_method_69_code (2 : Nat) (Option.some Jvm.ClassFile.FieldType.int), Jvm.Cond.code ({ cls := "com/example/counterpath/counterpath/util/CombinationsNextPinLaw", name := "hi", desc := "(J)I" } : Jvm.MethodName) method_3_code (2 : Nat) (Option.some Jvm.ClassFile.FieldType.int), Jvm.Cond.code ({ cls := "java/lang/Math", name := "max", desc := "(II)I" } : Jvm.MethodName) jdk_29_method_65_code (2 : Nat) (Option.some Jvm.ClassFile.FieldType.int), Jvm.Cond.code ({ cls := "com/example/counterpath/counterpath/util/CombinationsNextPinLaw", name := "val", desc := "(JJ)I" } : Jvm.MethodName) method_4_code (9 : Nat) (Option.some Jvm.ClassFile.FieldType.int)]
set_option maxRecDepth 65536 in
theorem codes_eq : words1.filter isCode = codes1 := rfl
theorem w_codes : ∀ c ∈ words1.filter isCode, c.before args0 about1 = true := by
  rw [codes_eq]
  intro c hc
  simp only [codes1, List.mem_cons, List.not_mem_nil, or_false] at hc
  rcases hc with rfl | rfl | rfl | rfl | rfl | rfl | rfl | rfl | rfl | rfl | rfl
  · exact w_c0
  · exact w_c1
  · exact w_c2
  · exact w_c3
  · exact w_c4
  · exact w_c5
  · exact w_c6
  · exact w_c7
  · exact w_c8
  · exact w_c9
  · exact w_c10
set_option maxRecDepth 65536 in
theorem w_t1 : (words1.take 24).all (fun c => isCode c || c.before args0 about1) = true := by decide +kernel
set_option maxRecDepth 65536 in
theorem w_t2 : (words1.drop 24).all (fun c => isCode c || c.before args0 about1) = true := by decide +kernel
theorem w_tables : (allAtoms (Jvm.Cond.code x code maxLocals ret :: tables_1)).before args0 about1 = true := by
  rw [allAtoms_all]
  show words1.all (fun c => c.before args0 about1) = true
  refine all_split ?_ w_codes
  rw [← List.take_append_drop 24 words1, List.all_append, w_t1, w_t2]
  rfl
set_option maxRecDepth 65536 in
theorem w_case : (Jvm.Cond.and given_1 narrow_1).before args0 about1 = true := by decide +kernel
theorem w_applies : (headSpec (Jvm.Cond.code x code maxLocals ret :: tables_1) room_1).applies x e0.platform about1 = true :=
  (Spec.applies_iff w_frames).mpr ⟨w_running, w_runnable, w_alone, w_named, w_hears, w_ripe, w_room, w_tables⟩
theorem atStart : AtStart classFile x code maxLocals ret World_1 tables_1 room_1 Calls_1 rest_1 Pre_1 launch0 p0 e0 about1 theMethod args0 below0 :=
  ⟨lists_1, trivial, launch0.admits_env _ _ _, launch0.least_env, fairChoices_fair.cas, fairChoices_fair.clock, w_frames, w_args, w_heap, w_applies, trivial, trivial, w_case⟩
end start1
theorem witness_1 : WitnessClaimed_1 := ⟨start1.p0, start1.e0, start1.about1, start1.theMethod, start1.args0, start1.below0, start1.atStart⟩
end Jvm.Pilot.@@N@@
