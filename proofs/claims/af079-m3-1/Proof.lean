import JvmDerived
import JvmDerived.Pilot.@@N@@Statement
import JvmDerived.Pilot.@@N@@Code
set_option linter.unusedVariables false
set_option linter.unusedSimpArgs false
@@BLOCK:NumsL.lean.txt@@
namespace Jvm.Pilot.@@N@@
open Jvm Jvm.ClassFile Sem Op Lib Jvm.Free Jvm.Stand Jvm.LawKit Jvm.RoadKit Bundle Jvm.Pilot.@@N@@.Jvm.D

/-! OWN KIT: the walk in continuation form; arrays by their cell as functions of the place -/
section OwnKit
variable {p : Program} {l : Launch} {e : Env} {R : Room} {s : State} {m : MethodId} {args : Array Value} {below : List Frame} {meth : Method} {c : Code} {T : State} {locs : List Loc} {cells slots : Nat} {Z : State} {a0 : Array Value} {h h' h0 : Heap} {a b : Addr} {v : Value} {sl : Nat} {ty : FieldType} {n k : Nat} {f f' : Nat → Value} {n0 : Nat} {ws : List Addr}
/-- from this state with this top frame the run ends as F says -/
def Go (tb : Tables) (e : Env) (below : List Frame) (F : Outcome → State → Prop) (T : State) (g : JFrame) : Prop :=
  ∃ s₂ o, Steps tb e below (T.setTop g) s₂ ∧ s₂.status = .running ∧ Ended s₂ below o ∧ F o s₂
theorem Go.st {tb : Tables} {F : Outcome → State → Prop} {T T' : State} {g g' : JFrame} (st : ∀ t, Steps tb e below (T'.setTop g') t → Steps tb e below (T.setTop g) t) (k : Go tb e below F T' g') : Go tb e below F T g := by
  obtain ⟨s₂, o, h1, h2⟩ := k
  exact ⟨s₂, o, st _ h1, h2⟩
theorem Go.frame {tb : Tables} {F : Outcome → State → Prop} {T : State} {g g' : JFrame} (q : g = g') (k : Go tb e below F T g') : Go tb e below F T g := q ▸ k
theorem own_join {α : Type} {tb : Tables} {F : Outcome → State → Prop} {T T2 : State} {g : α → JFrame} {g2 : JFrame} (J : ∀ z, Go tb e below F T (g z)) (k : (∀ z, Go tb e below F T (g z)) → Go tb e below F T2 g2) : Go tb e below F T2 g2 := k J
/-- what a body's end must say -/
def Fi (s : State) (Q : Option Value → Heap → List Loc → Prop) (k n : Nat) (o : Outcome) (U : State) : Prop :=
  ∃ v L, o = .returned v ∧ Q v U.heap L ∧ FrameEnd s o U L k n
/-- a body's contract: called with these values at this heap it returns and Q holds -/
def Does (l : Launch) (Z : State) (y : MethodName) (bytes : ByteArray) (mx : Nat) (ret : Option FieldType) (rm : Room) (as' : Array Value) (h : Heap) (Q : Option Value → Heap → List Loc → Prop) : Prop :=
  ∀ ws, MetFree l y (head1 (Jvm.Cond.code y bytes mx ret :: ws) rm) (fun a U => a = as' ∧ Z.Warmed39 U.vm ∧ U.heap = h) (fun _ _ _ _ _ => True) (fun _ U o U' => Fi U Q rm.cells rm.slots o U')
theorem Does.body {y : MethodName} {bytes : ByteArray} {mx : Nat} {ret : Option FieldType} {rm : Room} {as' : Array Value} {h : Heap} {Q : Option Value → Heap → List Loc → Prop} (hy : plainFor y = true)
    (B : ∀ (p : Program) (e : Env) (s : State) (m : MethodId) (below : List Frame) (meth : Method) (c : Code) (T : State), Stand p l e rm s m as' below meth c T [] 0 0 → p.tables.exec = Jvm.exec → Z.Warmed39 s.vm → c.code = bytes → c.maxLocals = mx → s.vm.findClass y.cls = some m.cls → meth.name = y.name → meth.sig.returnType = ret → meth.locks = false → T.heap = h → Go p.tables e below (Fi s Q rm.cells rm.slots) T (entryFrame m as' mx)) : Does l Z y bytes mx ret rm as' h Q := fun ws => by
  refine MetFree.of_bodySF hy hisR ?_
  intro p e s m args below meth c s₁ Bd hml0 hP hK
  obtain ⟨ha, hZ, hh⟩ := hP
  subst ha
  exact B p e s m below meth c s₁ (Stand.of_body Bd) Bd.exec hZ Bd.bytes hml0 (findClass_of_methodNamed Bd.named) (name_of_methodNamed Bd.named Bd.method).1 Bd.returns Bd.notSynchronized (by rw [← hh, Bd.state]; rfl)
/-! the returns -/
theorem goI (X : Stand p l e R s m args below meth c T locs cells slots) (hx : p.tables.exec = Jvm.exec) (hret : meth.sig.returnType = some .int) (hlk : meth.locks = false) {pc : Nat} {Ls : Array Slot} {z : Int32} {rest : List Value} (hd : decode c.code pc = .ok (.ireturn, 1)) {Q : Option Value → Heap → List Loc → Prop} {k n : Nat} (hk : cells ≤ k) (hn : slots ≤ n) (q : Q (some (.int z)) T.heap locs) :
    Go p.tables e below (Fi s Q k n) T (mkF m pc Ls (.int z :: rest)) := by
  obtain ⟨fs, hr, hrun, hended, hW, hsame⟩ := X.leave (v := some (.int z)) (fun h => by rw [hret] at h; cases h) hlk
  exact ⟨_, _, retOut X hx hret rfl (Or.inl ⟨rfl, Or.inl rfl, z, rfl⟩) hd hr, hrun, hended, _, _, rfl, q, ⟨_, rfl⟩, hW, hsame.mono hk hn⟩
theorem goN (X : Stand p l e R s m args below meth c T locs cells slots) (hx : p.tables.exec = Jvm.exec) {t : FieldType} (hret : meth.sig.returnType = some t) (hlk : meth.locks = false) (ht : t = .boolean ∨ t = .byte ∨ t = .char ∨ t = .short) {pc : Nat} {Ls : Array Slot} {z : Int32} {rest : List Value} (hd : decode c.code pc = .ok (.ireturn, 1)) {Q : Option Value → Heap → List Loc → Prop} {k n : Nat} (hk : cells ≤ k) (hn : slots ≤ n) (q : Q (some (.int (nar t z))) T.heap locs) :
    Go p.tables e below (Fi s Q k n) T (mkF m pc Ls (.int z :: rest)) := by
  obtain ⟨fs, hr, hrun, hended, hW, hsame⟩ := X.leave (v := some (.int (nar t z))) (fun h => by rw [hret] at h; cases h) hlk
  exact ⟨_, _, retN X hx hret ht hd hr, hrun, hended, _, _, rfl, q, ⟨_, rfl⟩, hW, hsame.mono hk hn⟩
theorem goJ (X : Stand p l e R s m args below meth c T locs cells slots) (hx : p.tables.exec = Jvm.exec) (hret : meth.sig.returnType = some .long) (hlk : meth.locks = false) {pc : Nat} {Ls : Array Slot} {z : Int64} {rest : List Value} (hd : decode c.code pc = .ok (.lreturn, 1)) {Q : Option Value → Heap → List Loc → Prop} {k n : Nat} (hk : cells ≤ k) (hn : slots ≤ n) (q : Q (some (.long z)) T.heap locs) :
    Go p.tables e below (Fi s Q k n) T (mkF m pc Ls (.long z :: rest)) := by
  obtain ⟨fs, hr, hrun, hended, hW, hsame⟩ := X.leave (v := some (.long z)) (fun h => by rw [hret] at h; cases h) hlk
  exact ⟨_, _, retOut X hx hret rfl (Or.inr (Or.inl ⟨rfl, rfl, z, rfl⟩)) hd hr, hrun, hended, _, _, rfl, q, ⟨_, rfl⟩, hW, hsame.mono hk hn⟩
theorem goA (X : Stand p l e R s m args below meth c T locs cells slots) (hx : p.tables.exec = Jvm.exec) {t : FieldType} (hret : meth.sig.returnType = some t) (hlk : meth.locks = false) (ht : t.isReference = true) (hnr : ∀ z : Addr, narrow t (.ref z) = .ref z) {pc : Nat} {Ls : Array Slot} {z : Addr} {rest : List Value} (hd : decode c.code pc = .ok (.areturn, 1)) {Q : Option Value → Heap → List Loc → Prop} {k n : Nat} (hk : cells ≤ k) (hn : slots ≤ n) (q : Q (some (.ref z)) T.heap locs) :
    Go p.tables e below (Fi s Q k n) T (mkF m pc Ls (.ref z :: rest)) := by
  obtain ⟨fs, hr, hrun, hended, hW, hsame⟩ := X.leave (v := some (.ref z)) (fun h => by rw [hret] at h; cases h) hlk
  exact ⟨_, _, retOut X hx hret (hnr z) (Or.inr (Or.inr (Or.inr (Or.inr ⟨rfl, ht, rfl⟩)))) hd hr, hrun, hended, _, _, rfl, q, ⟨_, rfl⟩, hW, hsame.mono hk hn⟩
theorem goV (X : Stand p l e R s m args below meth c T locs cells slots) (hx : p.tables.exec = Jvm.exec) (hret : meth.sig.returnType = none) (hlk : meth.locks = false) {pc : Nat} {Ls : Array Slot} (hd : decode c.code pc = .ok (.return_, 1)) {Q : Option Value → Heap → List Loc → Prop} {k n : Nat} (hk : cells ≤ k) (hn : slots ≤ n) (q : Q none T.heap locs) :
    Go p.tables e below (Fi s Q k n) T (mkF m pc Ls []) := by
  obtain ⟨fs, hr, hrun, hended, hW, hsame⟩ := X.leave (v := none) (fun _ => rfl) hlk
  exact ⟨_, _, X.returnOut hx hret hd hr, hrun, hended, _, _, rfl, q, ⟨_, rfl⟩, hW, hsame.mono hk hn⟩
/-! the calls -/
theorem own_one {k : Nat} {L : List Loc} (N : Fr k L) (q : k ≤ a) : Fr k (L ++ [⟨a, sl⟩]) := N.app fun y hy => by cases List.mem_singleton.mp hy; exact q
theorem goS (X : Stand p l e R s m args below meth c T locs cells slots) (hx : p.tables.exec = Jvm.exec) (hZ : Z.Warmed39 s.vm) {own : String} {index : Nat} {y : MethodName} {bytes : ByteArray} {mx : Nat} {ret : Option FieldType} (hown : s.vm.findClass own = some m.cls)
    (w1 : (Jvm.Cond.methodLink own index y).before a0 Z = true) (w2 : (Jvm.Cond.static y).before a0 Z = true) (w3 : (Jvm.Cond.initialized y.cls).before a0 Z = true) (w4 : (Jvm.Cond.code y bytes mx ret).before a0 Z = true) (hy : y.cls ≠ "java/lang/invoke/MethodHandle" ∧ y.cls ≠ "java/lang/invoke/VarHandle")
    {rm : Room} {as' : Array Value} {Q : Option Value → Heap → List Loc → Prop} (D : Does l Z y bytes mx ret rm as' h Q) (eT : T.heap = h) (N : Fr n0 locs) (W : Nat) (hf : rm.frames + 1 ≤ R.frames) (hl : W + (mx + 11) + rm.locals ≤ R.locals) (hc : cells + rm.cells ≤ R.cells) (hs : slots + rm.slots ≤ R.slots)
    {g : JFrame} (hg : g.method = m) (hsize : g.locals.size = c.maxLocals) (argsL rest : List Value) (hlen : ∀ sig, parseMethodDescriptor y.desc = some sig → argsL.length = sig.parameters.length) (has : argsL.toArray = as')
    (hstack : g.stack = argsL.reverse ++ rest) (hW : 2 * g.monitorRoom + (rest.map fun v => v.category).sum ≤ W) (hd : decode c.code g.pc = .ok (.invokestatic index, 3)) {F : Outcome → State → Prop}
    (kk : ∀ (T' : State) (v : Option Value) (L L' : List Loc), Stand p l e R s m args below meth c T' L' (cells + rm.cells) (slots + rm.slots) → (Fr n0 L → Fr n0 L') → Q v T'.heap L → Go p.tables e below F T' { g with pc := g.pc + 3, stack := v.toList ++ rest }) : Go p.tables e below F T g := by
  obtain ⟨v, _, ⟨T', L', k', n'⟩, -, X', ⟨L, hq, e1, e2, e3⟩, st⟩ := Jvm.LawKit.callS X hx hown (mvT hZ w1) (mvT hZ w2) (mvT hZ w3) (mvT hZ w4) hy (backOf (W := W) (Q := Q) (D []) hZ w4 w3 hf hl) hg hsize hlen hstack hW hd (fun _ _ => ⟨has, eT, hc, hs⟩)
  dsimp only [Pt.U, Pt.locs, Pt.cells, Pt.slots] at X' e1 e2 e3 st hq
  subst e1 e2 e3
  exact Go.st st (kk T' v L _ X' (fun q => N.app q) hq)
theorem goM (X : Stand p l e R s m args below meth c T locs cells slots) (hx : p.tables.exec = Jvm.exec) (hZ : Z.Warmed39 s.vm) {own C : String} {index : Nat} {y z : MethodName} {bytes : ByteArray} {mx : Nat} {ret : Option FieldType} (hown : s.vm.findClass own = some m.cls)
    (w1 : (Jvm.Cond.methodLink own index y).before a0 Z = true) (w2 : (Jvm.Cond.declares y).before a0 Z = true) (w3 : (Jvm.Cond.selects C y z).before a0 Z = true) (w4 : (Jvm.Cond.instanceMethod z).before a0 Z = true) (w5 : (Jvm.Cond.code z bytes mx ret).before a0 Z = true) (w6 : (Jvm.Cond.initialized z.cls).before a0 Z = true) (hnf : NotFace s y) (hy : y.cls ≠ "java/lang/invoke/MethodHandle" ∧ y.cls ≠ "java/lang/invoke/VarHandle")
    {rm : Room} {as' : Array Value} {Q : Option Value → Heap → List Loc → Prop} (D : Does l Z z bytes mx ret rm as' h Q) (eT : T.heap = h) (N : Fr n0 locs) (E : Exa Z h b C) (W : Nat) (hf : rm.frames + 1 ≤ R.frames) (hl : W + (mx + 11) + rm.locals ≤ R.locals) (hc : cells + rm.cells ≤ R.cells) (hs : slots + rm.slots ≤ R.slots)
    {g : JFrame} (hg : g.method = m) (hsize : g.locals.size = c.maxLocals) (argsL rest : List Value) (hlen : ∀ sig, parseMethodDescriptor y.desc = some sig → argsL.length = sig.parameters.length) (has : (.ref b :: argsL).toArray = as')
    (hstack : g.stack = argsL.reverse ++ .ref b :: rest) (hW : 2 * g.monitorRoom + (rest.map fun v => v.category).sum ≤ W) (hd : decode c.code g.pc = .ok (.invokevirtual index, 3)) {F : Outcome → State → Prop}
    (kk : ∀ (T' : State) (v : Option Value) (L L' : List Loc), Stand p l e R s m args below meth c T' L' (cells + rm.cells) (slots + rm.slots) → (Fr n0 L → Fr n0 L') → Q v T'.heap L → Go p.tables e below F T' { g with pc := g.pc + 3, stack := v.toList ++ rest }) : Go p.tables e below F T g := by
  obtain ⟨cq, kq, qa, qb, qc⟩ := isOf hZ eT E
  obtain ⟨v, _, ⟨T', L', k', n'⟩, -, X', ⟨L, hq, e1, e2, e3⟩, st⟩ := X.virtualBack hx hown (mvT hZ w1) (mvT hZ w2) hnf (mvT hZ w3) (mvT hZ w4) hy (backOf (W := W) (Q := Q) (D []) hZ w5 w6 hf hl) qa qc hg hsize (Steps.refl _) hlen hstack hW hd (fun _ _ => ⟨has, eT, hc, hs⟩)
  dsimp only [Pt.U, Pt.locs, Pt.cells, Pt.slots] at X' e1 e2 e3 st hq
  subst e1 e2 e3
  exact Go.st (fun t k => st.trans k) (kk T' v L _ X' (fun q => N.app q) hq)
theorem goC (X : Stand p l e R s m args below meth c T locs cells slots) (hx : p.tables.exec = Jvm.exec) (hZ : Z.Warmed39 s.vm) {own : String} {index : Nat} {y : MethodName} {bytes : ByteArray} {mx : Nat} (hy1 : y.name = "<init>") (hown : s.vm.findClass own = some m.cls)
    (w1 : (Jvm.Cond.methodLink own index y).before a0 Z = true) (w2 : (Jvm.Cond.instanceMethod y).before a0 Z = true) (w3 : (Jvm.Cond.initialized y.cls).before a0 Z = true) (w4 : (Jvm.Cond.code y bytes mx none).before a0 Z = true) (hy : y.cls ≠ "java/lang/invoke/MethodHandle" ∧ y.cls ≠ "java/lang/invoke/VarHandle")
    {rm : Room} {as' : Array Value} {Q : Option Value → Heap → List Loc → Prop} (D : Does l Z y bytes mx none rm as' h Q) (eT : T.heap = h) (N : Fr n0 locs) (W : Nat) (hf : rm.frames + 1 ≤ R.frames) (hl : W + (mx + 11) + rm.locals ≤ R.locals) (hc : cells + rm.cells ≤ R.cells) (hs : slots + rm.slots ≤ R.slots)
    {g : JFrame} (hg : g.method = m) (hsize : g.locals.size = c.maxLocals) (argsL rest : List Value) (hlen : ∀ sig, parseMethodDescriptor y.desc = some sig → argsL.length = sig.parameters.length) (has : (.ref b :: argsL).toArray = as')
    (hstack : g.stack = argsL.reverse ++ .ref b :: rest) (hW : 2 * g.monitorRoom + (rest.map fun v => v.category).sum ≤ W) (hd : decode c.code g.pc = .ok (.invokespecial index, 3)) {F : Outcome → State → Prop}
    (kk : ∀ (T' : State) (v : Option Value) (L L' : List Loc), Stand p l e R s m args below meth c T' L' (cells + rm.cells) (slots + rm.slots) → (Fr n0 L → Fr n0 L') → Q v T'.heap L → Go p.tables e below F T' { g with pc := g.pc + 3, stack := v.toList ++ rest }) : Go p.tables e below F T g := by
  obtain ⟨v, _, ⟨T', L', k', n'⟩, -, X', ⟨L, hq, e1, e2, e3⟩, st⟩ := X.specialBack hx hy1 hown (mvT hZ w1) (mvT hZ w2) (mvT hZ w4) hy (backOf (W := W) (Q := Q) (D []) hZ w4 w3 hf hl) hg hsize (Steps.refl _) hlen hstack hW hd (fun _ _ => ⟨has, eT, hc, hs⟩)
  dsimp only [Pt.U, Pt.locs, Pt.cells, Pt.slots] at X' e1 e2 e3 st hq
  subst e1 e2 e3
  exact Go.st (fun t k => st.trans k) (kk T' v L _ X' (fun q => N.app q) hq)
/-! arrays -/
/-- the array at a has n places, place i holds f i -/
def BA (Z : State) (h : Heap) (a : Addr) (ty : FieldType) (n : Nat) (f : Nat → Value) : Prop := ∃ c : Cell, Arr Z h a c ty ∧ c.slots.size = n ∧ ∀ i, i < n → c.slots[i]? = some (f i)
theorem BA.lt (V : BA Z h a ty n f) : a < h.size := by obtain ⟨c, A, -⟩ := V; exact A.lt
theorem BA.ext (V : BA Z h a ty n f) (E : Ext h h') : BA Z h' a ty n f := by obtain ⟨c, A, r⟩ := V; exact ⟨c, A.ext E, r⟩
theorem BA.other (V : BA Z h b ty n f) (W : Wr h h' a sl v) (q : b ≠ a) : BA Z h' b ty n f := by obtain ⟨c, A, r⟩ := V; exact ⟨c, A.other W q, r⟩
theorem BA.keep (V : BA Z h a ty n f) (K : Keep h h' ws) (q : a ∉ ws) : BA Z h' a ty n f := by obtain ⟨c, A, r⟩ := V; exact ⟨c, ⟨K.2.1 a c A.1 q, A.2⟩, r⟩
theorem BA.set (V : BA Z h a ty n f) (W : Wr h h' a k v) : BA Z h' a ty n (fun i => if i = k then v else f i) := by
  obtain ⟨c, A, S, H⟩ := V
  refine ⟨_, A.same W, by rw [sz_set]; exact S, fun i hi => ?_⟩
  show _ = some (if i = k then v else f i)
  by_cases q : i = k
  · subst q; rw [if_pos rfl]; simp [Cell.setSlot, S, hi]
  · rw [if_neg q]; simp only [Cell.setSlot]; rw [Array.getElem?_setIfInBounds_ne (fun z => q z.symm)]; exact H i hi
theorem BA.to (V : BA Z h a ty n f) (q : ∀ i, i < n → f i = f' i) : BA Z h a ty n f' := by
  obtain ⟨c, A, S, H⟩ := V
  exact ⟨c, A, S, fun i hi => by rw [H i hi, q i hi]⟩
theorem BA.new {kc : ClassId} {z : Int32} (A : Arr Z h a (newA kc ty z) ty) (hz : z.toNatClampNeg = n) : BA Z h a ty n (fun _ => defaultValue ty) := ⟨_, A, by rw [sz_new]; exact hz, fun i hi => by
  have : i < z.toNatClampNeg := by rw [hz]; exact hi
  simp [newA, this]⟩
/-- the int j is the place k of n -/
def Ix (j : Int32) (k n : Nat) : Prop := ¬ j < 0 ∧ j.toNatClampNeg = k ∧ k < n
theorem Ix.hin {j : Int32} {c : Cell} (I : Ix j k n) (S : c.slots.size = n) : ¬ (j < 0 ∨ c.slots.size ≤ j.toNatClampNeg) := by
  obtain ⟨h1, h2, h3⟩ := I
  rw [S, h2]; intro q; rcases q with q | q
  · exact h1 q
  · omega
theorem goStB (X : Stand p l e R s m args below meth c T locs cells slots) (hx : p.tables.exec = Jvm.exec) (hZ : Z.Warmed39 s.vm) (eT : T.heap = h) (N : Fr n0 locs) (V : BA Z h a .byte n f) (ga : n0 ≤ a) {j x : Int32} {g : JFrame} (hg : g.method = m) {rest : List Value} (hs : g.stack = .int x :: .int j :: .ref a :: rest) (hd : decode c.code g.pc = .ok (.bastore, 1)) (I : Ix j k n) {F : Outcome → State → Prop}
    (kk : ∀ (T' : State) (h' : Heap) (L : List Loc), Stand p l e R s m args below meth c T' L cells slots → T'.heap = h' → Fr n0 L → Wr h h' a k (.int x.toInt8.toInt32) → BA Z h' a .byte n (fun i => if i = k then .int x.toInt8.toInt32 else f i) → Go p.tables e below F T' { g with pc := g.pc + 1, stack := rest }) : Go p.tables e below F T g := by
  have V0 := V
  obtain ⟨cl, A, S, H⟩ := V
  obtain ⟨T', h', X', e', W, st⟩ := stB X hx hZ eT A (I.hin S) hg hs hd
  obtain ⟨h1, h2, h3⟩ := I
  subst h2
  exact Go.st st (kk T' h' _ X' e' (own_one N ga) W (V0.set W))
theorem goStI (X : Stand p l e R s m args below meth c T locs cells slots) (hx : p.tables.exec = Jvm.exec) (hZ : Z.Warmed39 s.vm) (eT : T.heap = h) (N : Fr n0 locs) (V : BA Z h a .int n f) (ga : n0 ≤ a) {j x : Int32} {g : JFrame} (hg : g.method = m) {rest : List Value} (hs : g.stack = .int x :: .int j :: .ref a :: rest) (hd : decode c.code g.pc = .ok (.iastore, 1)) (I : Ix j k n) {F : Outcome → State → Prop}
    (kk : ∀ (T' : State) (h' : Heap) (L : List Loc), Stand p l e R s m args below meth c T' L cells slots → T'.heap = h' → Fr n0 L → Wr h h' a k (.int x) → BA Z h' a .int n (fun i => if i = k then .int x else f i) → Go p.tables e below F T' { g with pc := g.pc + 1, stack := rest }) : Go p.tables e below F T g := by
  have V0 := V
  obtain ⟨cl, A, S, H⟩ := V
  obtain ⟨T', h', X', e', W, st⟩ := stI X hx hZ eT A (I.hin S) hg hs hd
  obtain ⟨h1, h2, h3⟩ := I
  subst h2
  exact Go.st st (kk T' h' _ X' e' (own_one N ga) W (V0.set W))
theorem goStJ (X : Stand p l e R s m args below meth c T locs cells slots) (hx : p.tables.exec = Jvm.exec) (hZ : Z.Warmed39 s.vm) (eT : T.heap = h) (N : Fr n0 locs) (V : BA Z h a .long n f) (ga : n0 ≤ a) {j : Int32} {x : Int64} {g : JFrame} (hg : g.method = m) {rest : List Value} (hs : g.stack = .long x :: .int j :: .ref a :: rest) (hd : decode c.code g.pc = .ok (.lastore, 1)) (I : Ix j k n) {F : Outcome → State → Prop}
    (kk : ∀ (T' : State) (h' : Heap) (L : List Loc), Stand p l e R s m args below meth c T' L cells slots → T'.heap = h' → Fr n0 L → Wr h h' a k (.long x) → BA Z h' a .long n (fun i => if i = k then .long x else f i) → Go p.tables e below F T' { g with pc := g.pc + 1, stack := rest }) : Go p.tables e below F T g := by
  have V0 := V
  obtain ⟨cl, A, S, H⟩ := V
  obtain ⟨T', h', X', e', W, st⟩ := stJ X hx hZ eT A (I.hin S) hg hs hd
  obtain ⟨h1, h2, h3⟩ := I
  subst h2
  exact Go.st st (kk T' h' _ X' e' (own_one N ga) W (V0.set W))
theorem goLdB (X : Stand p l e R s m args below meth c T locs cells slots) (hx : p.tables.exec = Jvm.exec) (hZ : Z.Warmed39 s.vm) (eT : T.heap = h) (V : BA Z h a .byte n f) {j : Int32} {v : Value} {g : JFrame} (hg : g.method = m) {rest : List Value} (hs : g.stack = .int j :: .ref a :: rest) (hd : decode c.code g.pc = .ok (.baload, 1)) (I : Ix j k n) (hv : f k = v) {F : Outcome → State → Prop}
    (kk : Go p.tables e below F T { g with pc := g.pc + 1, stack := v :: rest }) : Go p.tables e below F T g := by
  obtain ⟨cl, A, S, H⟩ := V
  exact Go.st (fun t q => X.baloadBytes hx (by rw [eT]; exact A.1) (State.isArrayOf_alike hZ.alike A.2.1) A.2.2 (I.hin S) (by rw [I.2.1, H k I.2.2, hv]) hg hs hd t q) kk
theorem goLdI (X : Stand p l e R s m args below meth c T locs cells slots) (hx : p.tables.exec = Jvm.exec) (hZ : Z.Warmed39 s.vm) (eT : T.heap = h) (V : BA Z h a .int n f) {j : Int32} {v : Value} {g : JFrame} (hg : g.method = m) {rest : List Value} (hs : g.stack = .int j :: .ref a :: rest) (hd : decode c.code g.pc = .ok (.iaload, 1)) (I : Ix j k n) (hv : f k = v) {F : Outcome → State → Prop}
    (kk : Go p.tables e below F T { g with pc := g.pc + 1, stack := v :: rest }) : Go p.tables e below F T g := by
  obtain ⟨cl, A, S, H⟩ := V
  exact Go.st (fun t q => X.iaload hx (by rw [eT]; exact A.1) (State.isArrayOf_alike hZ.alike A.2.1) A.2.2 (I.hin S) (by rw [I.2.1, H k I.2.2, hv]) hg hs hd t q) kk
theorem goLdJ (X : Stand p l e R s m args below meth c T locs cells slots) (hx : p.tables.exec = Jvm.exec) (hZ : Z.Warmed39 s.vm) (eT : T.heap = h) (V : BA Z h a .long n f) {j : Int32} {v : Value} {g : JFrame} (hg : g.method = m) {rest : List Value} (hs : g.stack = .int j :: .ref a :: rest) (hd : decode c.code g.pc = .ok (.laload, 1)) (I : Ix j k n) (hv : f k = v) {F : Outcome → State → Prop}
    (kk : Go p.tables e below F T { g with pc := g.pc + 1, stack := v :: rest }) : Go p.tables e below F T g := by
  obtain ⟨cl, A, S, H⟩ := V
  exact Go.st (fun t q => X.laload hx (by rw [eT]; exact A.1) (State.isArrayOf_alike hZ.alike A.2.1) A.2.2 (I.hin S) (by rw [I.2.1, H k I.2.2, hv]) hg hs hd t q) kk
theorem goLen (X : Stand p l e R s m args below meth c T locs cells slots) (hx : p.tables.exec = Jvm.exec) (hZ : Z.Warmed39 s.vm) (eT : T.heap = h) (V : BA Z h a ty n f) {z : Int32} (hz : n.toInt32 = z) {g : JFrame} (hg : g.method = m) {rest : List Value} (hs : g.stack = .ref a :: rest) (hd : decode c.code g.pc = .ok (.arraylength, 1)) {F : Outcome → State → Prop}
    (kk : Go p.tables e below F T { g with pc := g.pc + 1, stack := .int z :: rest }) : Go p.tables e below F T g := by
  obtain ⟨cl, A, S, H⟩ := V
  exact Go.st (fun t q => X.arraylength hx (by rw [eT]; exact A.1) (State.isArrayOf_alike hZ.alike A.2.1) hg hs hd t (by rw [S, hz]; exact q)) kk
theorem goNew (X : Stand p l e R s m args below meth c T locs cells slots) (hx : p.tables.exec = Jvm.exec) (hZ : Z.Warmed39 s.vm) {aty : ArrayType} (w : (Jvm.Cond.arrayClass (newarray.typeOf aty)).before a0 Z = true) (eT : T.heap = h) (Zs : n0 ≤ h.size) {z : Int32} (hz : ¬ z < 0) (hn : z.toNatClampNeg = n) (cap : Nat) (hcap : n ≤ cap) (hb : cap * 8 ≤ 536870912) (hc : cells + 1 ≤ R.cells) (hl : slots + cap ≤ R.slots)
    {g : JFrame} (hg : g.method = m) {rest : List Value} (hs : g.stack = .int z :: rest) (hd : decode c.code g.pc = .ok (.newarray aty, 2)) {F : Outcome → State → Prop}
    (kk : ∀ (T' : State) (h' : Heap) (b : Addr), Stand p l e R s m args below meth c T' locs (cells + 1) (slots + cap) → T'.heap = h' → Ext h h' → b = h.size → n0 ≤ b → n0 ≤ h'.size → BA Z h' b (newarray.typeOf aty) n (fun _ => defaultValue (newarray.typeOf aty)) → Go p.tables e below F T' { g with pc := g.pc + 2, stack := .ref b :: rest }) : Go p.tables e below F T g := by
  obtain ⟨T', h', cA, X', e', E, A, st⟩ := newP X hx hZ w eT hg hd hs hz (cap := cap) (by rw [hn]; exact hcap) hb hc hl
  exact Go.st st (kk T' h' _ X' e' E rfl Zs (Nat.le_trans Zs E.1) (BA.new A hn))
theorem own_sz (W : Wr h h' a sl v) (q : n0 ≤ h.size) : n0 ≤ h'.size := by rw [W.size]; exact q
end OwnKit

/-! PLAIN LAW: within a range, said by one comparison without sign -/
theorem own_flip (x : Int64) : (x ^^^ (-9223372036854775808 : Int64)).toInt = (x.toBitVec.toNat : Int) - 2 ^ 63 := by
  have e : (x ^^^ (-9223372036854775808 : Int64)).toBitVec.toNat = x.toBitVec.toNat ^^^ 2 ^ 63 := by
    rw [Int64.toBitVec_xor, BitVec.toNat_xor]; rfl
  have hb := x.toBitVec.isLt
  have d1 : (x.toBitVec.toNat ^^^ 2 ^ 63) / 2 ^ 63 = (x.toBitVec.toNat / 2 ^ 63) ^^^ 1 := by rw [Nat.xor_div_two_pow]
  have d2 : (x.toBitVec.toNat ^^^ 2 ^ 63) % 2 ^ 63 = x.toBitVec.toNat % 2 ^ 63 := by rw [Nat.xor_mod_two_pow]; simp
  have t : (x ^^^ (-9223372036854775808 : Int64)).toInt = (x ^^^ (-9223372036854775808 : Int64)).toBitVec.toInt := rfl
  rw [t, BitVec.toInt_eq_toNat_cond, e]
  have q : x.toBitVec.toNat / 2 ^ 63 = 0 ∨ x.toBitVec.toNat / 2 ^ 63 = 1 := by omega
  rcases q with q | q <;> rw [q] at d1
  · have : (0 : Nat) ^^^ 1 = 1 := rfl
    rw [this] at d1
    split <;> omega
  · have : (1 : Nat) ^^^ 1 = 0 := rfl
    rw [this] at d1
    split <;> omega
theorem own_sub (x y : Int64) : ((x - y).toBitVec.toNat : Int) = (x.toInt - y.toInt) % 2 ^ 64 := by
  have h : (x - y).toInt = (x.toInt - y.toInt).bmod (2 ^ 64) := Int64.toInt_sub x y
  have t : (x - y).toInt = (x - y).toBitVec.toInt := rfl
  rw [t, BitVec.toInt_eq_toNat_cond, Int.bmod_def] at h
  have hb := (x - y).toBitVec.isLt
  split at h <;> split at h <;> omega
theorem own_iv (lo up z : Int64) : (¬ z < lo ∧ ¬ up < z) ↔ (¬ up < lo ∧ ¬ ((up - lo) ^^^ (-9223372036854775808 : Int64)) < ((z - lo) ^^^ (-9223372036854775808 : Int64))) := by
  simp only [Int64.lt_iff_toInt_lt, own_flip, own_sub]
  have a1 := lo.toInt_lt; have a2 := lo.le_toInt
  have b1 := up.toInt_lt; have b2 := up.le_toInt
  have c1 := z.toInt_lt; have c2 := z.le_toInt
  omega

theorem d2_0 : decode jdk_30_method_1_code 0 = .ok (.aload_n 0, 1) := by decide +kernel
theorem d2_1 : decode jdk_30_method_1_code 1 = .ok (.invokespecial 1, 3) := by decide +kernel
theorem d2_4 : decode jdk_30_method_1_code 4 = .ok (.return_, 1) := by decide +kernel
theorem pn_2 : plainName "java/lang/Record" = true := by first | (simp [plainName, overriddenIn]; done) | decide +kernel
theorem ef_2 (m : MethodId) (x0 : Addr) : entryFrame m #[(.ref x0)] 1 = mkF m 0 #[.val (.ref x0)] [] := by first | (simp [entryFrame, mkF, argsToLocals, Value.category]; done) | rfl
set_option maxRecDepth 65536 in
set_option maxHeartbeats 40000000 in
theorem rm2 (l : Launch) (Z : State) (a0 : Array Value) (hw : ∀ d ∈ tables_1, d.before a0 Z = true) (a1 : Addr) (h0 : Heap) (n0 : Nat) (Z0 : n0 ≤ h0.size)   :
    Does l Z (⟨"java/lang/Record", "<init>", "()V"⟩ : MethodName) jdk_30_method_1_code 1 none ({ frames := 1, cells := 0, slots := 0, locals := 12 } : Room) #[(.ref a1)] h0 (fun v h L => v = none ∧ Fr n0 L ∧ h = h0) := by
  refine Does.body (plainFor_of_name pn_2) ?_
  intro p e s m below meth c T0 X0 hx hZ hby hml hown hnm hret hlk e0
  replace hown : s.vm.findClass "java/lang/Record" = some m.cls := hown
  have N0 := Fr.nil n0
  refine Go.frame (ef_2 m a1) ?_
  show Go _ _ _ _ T0 (mkF m 0 #[.val (.ref a1)] [])
  refine Go.st (fun t k => XS.aloadN X0.here hx rfl (hb hby d2_0) rfl rfl k) ?_
  show Go _ _ _ _ T0 (mkF m 1 #[.val (.ref a1)] [(.ref a1)])
  obtain ⟨T1, X1, e1, st1⟩ := initO X0 hx hZ hown (hw _ (List.mem_of_getElem? (i := 12) rfl)) (hw _ (List.mem_of_getElem? (i := 13) rfl)) (hw _ (List.mem_of_getElem? (i := 14) rfl)) e0 (g := (mkF m 1 #[.val (.ref a1)] [(.ref a1)])) rfl (by rw [hml]; rfl) rfl (hb hby d2_1) (by decide) (W := 0) (by show 2 * 0 + _ ≤ _; exact Nat.le_of_eq rfl) (by decide)
  refine Go.st st1 ?_
  show Go _ _ _ _ T1 (mkF m 4 #[.val (.ref a1)] [])
  exact goV X1 hx hret hlk (hb hby d2_4) (by decide) (by decide) ⟨rfl, N0, e1⟩
theorem d1_0 : decode prog_163_method_1_code 0 = .ok (.aload_n 0, 1) := by decide +kernel
theorem d1_1 : decode prog_163_method_1_code 1 = .ok (.invokespecial 1, 3) := by decide +kernel
theorem d1_4 : decode prog_163_method_1_code 4 = .ok (.aload_n 0, 1) := by decide +kernel
theorem d1_5 : decode prog_163_method_1_code 5 = .ok (.lload_n 1, 1) := by decide +kernel
theorem d1_6 : decode prog_163_method_1_code 6 = .ok (.putfield 7, 3) := by decide +kernel
theorem d1_9 : decode prog_163_method_1_code 9 = .ok (.aload_n 0, 1) := by decide +kernel
theorem d1_10 : decode prog_163_method_1_code 10 = .ok (.lload_n 3, 1) := by decide +kernel
theorem d1_11 : decode prog_163_method_1_code 11 = .ok (.putfield 13, 3) := by decide +kernel
theorem d1_14 : decode prog_163_method_1_code 14 = .ok (.return_, 1) := by decide +kernel
theorem pn_1 : plainName "com/example/counterpath/counterpath/model/Interval" = true := by first | (simp [plainName, overriddenIn]; done) | decide +kernel
theorem pd1_0 : parseMethodDescriptor "()V" = some ⟨[], none⟩ := by decide +kernel
theorem ef_1 (m : MethodId) (x0 : Addr) (x1 : Int64) (x2 : Int64) : entryFrame m #[(.ref x0), (.long x1), (.long x2)] 5 = mkF m 0 #[.val (.ref x0), .val (.long x1), .second, .val (.long x2), .second] [] := by first | (simp [entryFrame, mkF, argsToLocals, Value.category]; done) | rfl
set_option maxRecDepth 65536 in
set_option maxHeartbeats 40000000 in
theorem rm1 (l : Launch) (Z : State) (a0 : Array Value) (hw : ∀ d ∈ tables_1, d.before a0 Z = true) (a1 : Addr) (q2 : Int64) (q3 : Int64) (h0 : Heap) (n0 : Nat) (Z0 : n0 ≤ h0.size)  (E_a1 : Exa Z h0 a1 "com/example/counterpath/counterpath/model/Interval") (F_lower : Fld Z h0 a1 "com/example/counterpath/counterpath/model/Interval" "lower" "J" (.long 0)) (F_upper : Fld Z h0 a1 "com/example/counterpath/counterpath/model/Interval" "upper" "J" (.long 0)) (g_a1 : n0 ≤ a1) :
    Does l Z (⟨"com/example/counterpath/counterpath/model/Interval", "<init>", "(JJ)V"⟩ : MethodName) prog_163_method_1_code 5 none ({ frames := 2, cells := 0, slots := 0, locals := 24 } : Room) #[(.ref a1), (.long q2), (.long q3)] h0 (fun v h L => v = none ∧ Fr n0 L ∧ Keep h0 h [a1] ∧ Exa Z h a1 "com/example/counterpath/counterpath/model/Interval" ∧ Fld Z h a1 "com/example/counterpath/counterpath/model/Interval" "lower" "J" (.long q2) ∧ Fld Z h a1 "com/example/counterpath/counterpath/model/Interval" "upper" "J" (.long q3)) := by
  refine Does.body (plainFor_of_name pn_1) ?_
  intro p e s m below meth c T0 X0 hx hZ hby hml hown hnm hret hlk e0
  replace hown : s.vm.findClass "com/example/counterpath/counterpath/model/Interval" = some m.cls := hown
  have N0 := Fr.nil n0
  refine Go.frame (ef_1 m a1 q2 q3) ?_
  have K0 : Keep h0 h0 [a1] := Keep.refl _ _
  show Go _ _ _ _ T0 (mkF m 0 #[.val (.ref a1), .val (.long q2), .second, .val (.long q3), .second] [])
  refine Go.st (fun t k => XS.aloadN X0.here hx rfl (hb hby d1_0) rfl rfl k) ?_
  show Go _ _ _ _ T0 (mkF m 1 #[.val (.ref a1), .val (.long q2), .second, .val (.long q3), .second] [(.ref a1)])
  refine goC X0 hx hZ (y := (⟨"java/lang/Record", "<init>", "()V"⟩ : MethodName)) rfl hown (hw _ (List.mem_of_getElem? (i := 7) rfl)) (hw _ (List.mem_of_getElem? (i := 8) rfl)) (hw _ (List.mem_of_getElem? (i := 10) rfl)) (hw _ (List.mem_of_getElem? (i := 11) rfl)) (by decide) (rm2 l Z a0 hw a1 h0 n0 Z0) e0 N0 0 (by decide) (by decide) (by decide) (by decide) (g := (mkF m 1 #[.val (.ref a1), .val (.long q2), .second, .val (.long q3), .second] [(.ref a1)])) rfl (by rw [hml]; rfl) [] [] (lenOf pd1_0 rfl) rfl rfl (by show 2 * 0 + _ ≤ _; exact Nat.le_of_eq rfl) (hb hby d1_1) ?_
  intro T1 v1 L1 M1 X1 N1 hq1
  obtain ⟨rfl, N1q, e1⟩ := hq1
  replace N1 := N1 N1q
  show Go _ _ _ _ T1 (mkF m 4 #[.val (.ref a1), .val (.long q2), .second, .val (.long q3), .second] [])
  refine Go.st (fun t k => XS.aloadN X1.here hx rfl (hb hby d1_4) rfl rfl k) ?_
  show Go _ _ _ _ T1 (mkF m 5 #[.val (.ref a1), .val (.long q2), .second, .val (.long q3), .second] [(.ref a1)])
  refine Go.st (fun t k => XS.lloadN X1.here hx rfl (hb hby d1_5) rfl k) ?_
  show Go _ _ _ _ T1 (mkF m 6 #[.val (.ref a1), .val (.long q2), .second, .val (.long q3), .second] [(.long q2), (.ref a1)])
  obtain ⟨T2, h2, X2, e2, W2, st2⟩ := putF X1 hx hZ hown (host := "") (Or.inl (hw _ (List.mem_of_getElem? (i := 15) rfl))) Via.refl e1 F_lower E_a1 (Or.inr ⟨(hw _ (List.mem_of_getElem? (i := 16) rfl)), rfl, hnm⟩) (hw _ (List.mem_of_getElem? (i := 2) rfl)) (ty := .long) (by decide) rfl rfl (g := (mkF m 6 #[.val (.ref a1), .val (.long q2), .second, .val (.long q3), .second] [(.long q2), (.ref a1)])) rfl rfl (hb hby d1_6)
  have N2 := own_one (sl := Jvm.RoadKit.slotOf Z "com/example/counterpath/counterpath/model/Interval" "lower" "J") N1 g_a1
  have Z2 := own_sz W2 Z0
  have E_a1 := E_a1.wr W2
  have F_upper := F_upper.other W2 (Or.inr (Jvm.RoadKit.slot_ne (Or.inr (hw _ (List.mem_of_getElem? (i := 18) rfl))) (Or.inr (hw _ (List.mem_of_getElem? (i := 16) rfl))) (by decide) (t := .long) (t' := .long) (by decide) (by decide)))
  have F_lower := F_lower.same W2
  have K0 := K0.wr W2 (Or.inl (List.mem_of_getElem? (i := 0) rfl))
  refine Go.st st2 ?_
  show Go _ _ _ _ T2 (mkF m 9 #[.val (.ref a1), .val (.long q2), .second, .val (.long q3), .second] [])
  refine Go.st (fun t k => XS.aloadN X2.here hx rfl (hb hby d1_9) rfl rfl k) ?_
  show Go _ _ _ _ T2 (mkF m 10 #[.val (.ref a1), .val (.long q2), .second, .val (.long q3), .second] [(.ref a1)])
  refine Go.st (fun t k => XS.lloadN X2.here hx rfl (hb hby d1_10) rfl k) ?_
  show Go _ _ _ _ T2 (mkF m 11 #[.val (.ref a1), .val (.long q2), .second, .val (.long q3), .second] [(.long q3), (.ref a1)])
  obtain ⟨T3, h3, X3, e3, W3, st3⟩ := putF X2 hx hZ hown (host := "") (Or.inl (hw _ (List.mem_of_getElem? (i := 17) rfl))) Via.refl e2 F_upper E_a1 (Or.inr ⟨(hw _ (List.mem_of_getElem? (i := 18) rfl)), rfl, hnm⟩) (hw _ (List.mem_of_getElem? (i := 2) rfl)) (ty := .long) (by decide) rfl rfl (g := (mkF m 11 #[.val (.ref a1), .val (.long q2), .second, .val (.long q3), .second] [(.long q3), (.ref a1)])) rfl rfl (hb hby d1_11)
  have N3 := own_one (sl := Jvm.RoadKit.slotOf Z "com/example/counterpath/counterpath/model/Interval" "upper" "J") N2 g_a1
  have Z3 := own_sz W3 Z2
  have E_a1 := E_a1.wr W3
  have F_lower := F_lower.other W3 (Or.inr (Jvm.RoadKit.slot_ne (Or.inr (hw _ (List.mem_of_getElem? (i := 16) rfl))) (Or.inr (hw _ (List.mem_of_getElem? (i := 18) rfl))) (by decide) (t := .long) (t' := .long) (by decide) (by decide)))
  have F_upper := F_upper.same W3
  have K0 := K0.wr W3 (Or.inl (List.mem_of_getElem? (i := 0) rfl))
  refine Go.st st3 ?_
  show Go _ _ _ _ T3 (mkF m 14 #[.val (.ref a1), .val (.long q2), .second, .val (.long q3), .second] [])
  exact goV X3 hx hret hlk (hb hby d1_14) (by decide) (by decide) (by rw [e3]; exact ⟨rfl, N3, K0, E_a1, F_lower, F_upper⟩)
theorem d4_0 : decode prog_163_method_2_code 0 = .ok (.aload_n 0, 1) := by decide +kernel
theorem d4_1 : decode prog_163_method_2_code 1 = .ok (.getfield 7, 3) := by decide +kernel
theorem d4_4 : decode prog_163_method_2_code 4 = .ok (.lload_n 1, 1) := by decide +kernel
theorem d4_5 : decode prog_163_method_2_code 5 = .ok (.lcmp, 1) := by decide +kernel
theorem d4_6 : decode prog_163_method_2_code 6 = .ok (.ifCond .gt 16, 3) := by decide +kernel
theorem d4_9 : decode prog_163_method_2_code 9 = .ok (.lload_n 1, 1) := by decide +kernel
theorem d4_10 : decode prog_163_method_2_code 10 = .ok (.aload_n 0, 1) := by decide +kernel
theorem d4_11 : decode prog_163_method_2_code 11 = .ok (.getfield 13, 3) := by decide +kernel
theorem d4_14 : decode prog_163_method_2_code 14 = .ok (.lcmp, 1) := by decide +kernel
theorem d4_15 : decode prog_163_method_2_code 15 = .ok (.ifCond .gt 7, 3) := by decide +kernel
theorem d4_18 : decode prog_163_method_2_code 18 = .ok (.iconst 1, 1) := by decide +kernel
theorem d4_19 : decode prog_163_method_2_code 19 = .ok (.goto 4, 3) := by decide +kernel
theorem d4_22 : decode prog_163_method_2_code 22 = .ok (.iconst 0, 1) := by decide +kernel
theorem d4_23 : decode prog_163_method_2_code 23 = .ok (.ireturn, 1) := by decide +kernel
theorem pn_4 : plainName "com/example/counterpath/counterpath/model/Interval" = true := by first | (simp [plainName, overriddenIn]; done) | decide +kernel
theorem ef_4 (m : MethodId) (x0 : Addr) (x1 : Int64) : entryFrame m #[(.ref x0), (.long x1)] 3 = mkF m 0 #[.val (.ref x0), .val (.long x1), .second] [] := by first | (simp [entryFrame, mkF, argsToLocals, Value.category]; done) | rfl
set_option maxRecDepth 65536 in
set_option maxHeartbeats 40000000 in
theorem rm4 (l : Launch) (Z : State) (a0 : Array Value) (hw : ∀ d ∈ tables_1, d.before a0 Z = true) (a1 : Addr) (q2 : Int64) (h0 : Heap) (n0 : Nat) (Z0 : n0 ≤ h0.size) (lo up : Int64) (F_lower : Fld Z h0 a1 "com/example/counterpath/counterpath/model/Interval" "lower" "J" (.long lo)) (F_upper : Fld Z h0 a1 "com/example/counterpath/counterpath/model/Interval" "upper" "J" (.long up)) :
    Does l Z (⟨"com/example/counterpath/counterpath/model/Interval", "contains", "(J)Z"⟩ : MethodName) prog_163_method_2_code 3 (some .boolean) ({ frames := 0, cells := 0, slots := 0, locals := 0 } : Room) #[(.ref a1), (.long q2)] h0 (fun v h L => (((¬ q2 < lo ∧ ¬ up < q2) ∧ v = some (.int 1)) ∨ (¬ (¬ q2 < lo ∧ ¬ up < q2) ∧ v = some (.int 0))) ∧ Fr n0 L ∧ h = h0) := by
  refine Does.body (plainFor_of_name pn_4) ?_
  intro p e s m below meth c T0 X0 hx hZ hby hml hown hnm hret hlk e0
  replace hown : s.vm.findClass "com/example/counterpath/counterpath/model/Interval" = some m.cls := hown
  have N0 := Fr.nil n0
  refine Go.frame (ef_4 m a1 q2) ?_
  show Go _ _ _ _ T0 (mkF m 0 #[.val (.ref a1), .val (.long q2), .second] [])
  refine Go.st (fun t k => XS.aloadN X0.here hx rfl (hb hby d4_0) rfl rfl k) ?_
  show Go _ _ _ _ T0 (mkF m 1 #[.val (.ref a1), .val (.long q2), .second] [(.ref a1)])
  obtain ⟨T1, X1, e1, st1⟩ := getF X0 hx hZ hown (host := "") (Or.inl (hw _ (List.mem_of_getElem? (i := 15) rfl))) Via.refl e0 F_lower (g := (mkF m 1 #[.val (.ref a1), .val (.long q2), .second] [(.ref a1)])) rfl rfl (hb hby d4_1)
  refine Go.st st1 ?_
  show Go _ _ _ _ T1 (mkF m 4 #[.val (.ref a1), .val (.long q2), .second] [(.long lo)])
  refine Go.st (fun t k => XS.lloadN X1.here hx rfl (hb hby d4_4) rfl k) ?_
  show Go _ _ _ _ T1 (mkF m 5 #[.val (.ref a1), .val (.long q2), .second] [(.long q2), (.long lo)])
  refine Go.st (fun t k => XS.lcmp X1.here hx rfl (hb hby d4_5) rfl k) ?_
  show Go _ _ _ _ T1 (mkF m 6 #[.val (.ref a1), .val (.long q2), .second] [(.int (lcmpW lo q2))])
  by_cases hA : (0 : Int32) < (lcmpW lo q2)
  ·
    refine Go.st (fun t k => XS.ifYes X1.here hx rfl (pc0 := 6) (pc' := 22) rfl (hb hby d4_6) rfl ((if0 _ _).trans (tlt hA).2.2.1) (by decide) (by decide) k) ?_
    show Go _ _ _ _ T1 (mkF m 22 #[.val (.ref a1), .val (.long q2), .second] [])
    refine Go.st (fun t k => XS.iconst X1.here hx rfl (hb hby d4_22) k) ?_
    show Go _ _ _ _ T1 (mkF m 23 #[.val (.ref a1), .val (.long q2), .second] [(.int (0 : Int32))])
    exact goN X1 hx hret hlk (by simp) (hb hby d4_23) (by decide) (by decide) ⟨Or.inr ⟨fun q => q.1 ((lw_gt _ _).mp hA), rfl⟩, N0, e1⟩
  ·
    refine Go.st (fun t k => XS.ifNo X1.here hx rfl (hb hby d4_6) rfl ((if0 _ _).trans (flt hA).2.2.1) k) ?_
    show Go _ _ _ _ T1 (mkF m 9 #[.val (.ref a1), .val (.long q2), .second] [])
    refine Go.st (fun t k => XS.lloadN X1.here hx rfl (hb hby d4_9) rfl k) ?_
    show Go _ _ _ _ T1 (mkF m 10 #[.val (.ref a1), .val (.long q2), .second] [(.long q2)])
    refine Go.st (fun t k => XS.aloadN X1.here hx rfl (hb hby d4_10) rfl rfl k) ?_
    show Go _ _ _ _ T1 (mkF m 11 #[.val (.ref a1), .val (.long q2), .second] [(.ref a1), (.long q2)])
    obtain ⟨T3, X3, e3, st3⟩ := getF X1 hx hZ hown (host := "") (Or.inl (hw _ (List.mem_of_getElem? (i := 17) rfl))) Via.refl e1 F_upper (g := (mkF m 11 #[.val (.ref a1), .val (.long q2), .second] [(.ref a1), (.long q2)])) rfl rfl (hb hby d4_11)
    refine Go.st st3 ?_
    show Go _ _ _ _ T3 (mkF m 14 #[.val (.ref a1), .val (.long q2), .second] [(.long up), (.long q2)])
    refine Go.st (fun t k => XS.lcmp X3.here hx rfl (hb hby d4_14) rfl k) ?_
    show Go _ _ _ _ T3 (mkF m 15 #[.val (.ref a1), .val (.long q2), .second] [(.int (lcmpW q2 up))])
    by_cases hB : (0 : Int32) < (lcmpW q2 up)
    ·
      refine Go.st (fun t k => XS.ifYes X3.here hx rfl (pc0 := 15) (pc' := 22) rfl (hb hby d4_15) rfl ((if0 _ _).trans (tlt hB).2.2.1) (by decide) (by decide) k) ?_
      show Go _ _ _ _ T3 (mkF m 22 #[.val (.ref a1), .val (.long q2), .second] [])
      refine Go.st (fun t k => XS.iconst X3.here hx rfl (hb hby d4_22) k) ?_
      show Go _ _ _ _ T3 (mkF m 23 #[.val (.ref a1), .val (.long q2), .second] [(.int (0 : Int32))])
      exact goN X3 hx hret hlk (by simp) (hb hby d4_23) (by decide) (by decide) ⟨Or.inr ⟨fun q => q.2 ((lw_gt _ _).mp hB), rfl⟩, N0, e3⟩
    ·
      refine Go.st (fun t k => XS.ifNo X3.here hx rfl (hb hby d4_15) rfl ((if0 _ _).trans (flt hB).2.2.1) k) ?_
      show Go _ _ _ _ T3 (mkF m 18 #[.val (.ref a1), .val (.long q2), .second] [])
      refine Go.st (fun t k => XS.iconst X3.here hx rfl (hb hby d4_18) k) ?_
      show Go _ _ _ _ T3 (mkF m 19 #[.val (.ref a1), .val (.long q2), .second] [(.int (1 : Int32))])
      refine Go.st (fun t k => XS.goto X3.here hx rfl (pc0 := 19) (pc' := 23) rfl (hb hby d4_19) (by decide) (by decide) k) ?_
      show Go _ _ _ _ T3 (mkF m 23 #[.val (.ref a1), .val (.long q2), .second] [(.int (1 : Int32))])
      exact goN X3 hx hret hlk (by simp) (hb hby d4_23) (by decide) (by decide) ⟨Or.inl ⟨⟨fun q => hA ((lw_gt _ _).mpr q), fun q => hB ((lw_gt _ _).mpr q)⟩, rfl⟩, N0, e3⟩
theorem d5_0 : decode method_2_code 0 = .ok (.lload_n 0, 1) := by decide +kernel
theorem d5_1 : decode method_2_code 1 = .ok (.ldc2_w 9, 3) := by decide +kernel
theorem d5_4 : decode method_2_code 4 = .ok (.lxor, 1) := by decide +kernel
theorem d5_5 : decode method_2_code 5 = .ok (.lload_n 2, 1) := by decide +kernel
theorem d5_6 : decode method_2_code 6 = .ok (.ldc2_w 9, 3) := by decide +kernel
theorem d5_9 : decode method_2_code 9 = .ok (.lxor, 1) := by decide +kernel
theorem d5_10 : decode method_2_code 10 = .ok (.lcmp, 1) := by decide +kernel
theorem d5_11 : decode method_2_code 11 = .ok (.ifCond .gt 7, 3) := by decide +kernel
theorem d5_14 : decode method_2_code 14 = .ok (.iconst 1, 1) := by decide +kernel
theorem d5_15 : decode method_2_code 15 = .ok (.goto 4, 3) := by decide +kernel
theorem d5_18 : decode method_2_code 18 = .ok (.iconst 0, 1) := by decide +kernel
theorem d5_19 : decode method_2_code 19 = .ok (.ireturn, 1) := by decide +kernel
theorem pn_5 : plainName "com/example/counterpath/counterpath/model/IntervalContainsPinLaw" = true := by first | (simp [plainName, overriddenIn]; done) | decide +kernel
theorem ef_5 (m : MethodId) (x0 : Int64) (x1 : Int64) : entryFrame m #[(.long x0), (.long x1)] 4 = mkF m 0 #[.val (.long x0), .second, .val (.long x1), .second] [] := by first | (simp [entryFrame, mkF, argsToLocals, Value.category]; done) | rfl
set_option maxRecDepth 65536 in
set_option maxHeartbeats 40000000 in
theorem rm5 (l : Launch) (Z : State) (a0 : Array Value) (hw : ∀ d ∈ tables_1, d.before a0 Z = true) (q1 : Int64) (q2 : Int64) (h0 : Heap) (n0 : Nat) (Z0 : n0 ≤ h0.size)   :
    Does l Z (⟨"com/example/counterpath/counterpath/model/IntervalContainsPinLaw", "unsignedLe", "(JJ)Z"⟩ : MethodName) method_2_code 4 (some .boolean) ({ frames := 0, cells := 0, slots := 0, locals := 0 } : Room) #[(.long q1), (.long q2)] h0 (fun v h L => ((¬ (q2 ^^^ (-9223372036854775808 : Int64)) < (q1 ^^^ (-9223372036854775808 : Int64)) ∧ v = some (.int 1)) ∨ ((q2 ^^^ (-9223372036854775808 : Int64)) < (q1 ^^^ (-9223372036854775808 : Int64)) ∧ v = some (.int 0))) ∧ Fr n0 L ∧ h = h0) := by
  refine Does.body (plainFor_of_name pn_5) ?_
  intro p e s m below meth c T0 X0 hx hZ hby hml hown hnm hret hlk e0
  replace hown : s.vm.findClass "com/example/counterpath/counterpath/model/IntervalContainsPinLaw" = some m.cls := hown
  have N0 := Fr.nil n0
  refine Go.frame (ef_5 m q1 q2) ?_
  show Go _ _ _ _ T0 (mkF m 0 #[.val (.long q1), .second, .val (.long q2), .second] [])
  refine Go.st (fun t k => XS.lloadN X0.here hx rfl (hb hby d5_0) rfl k) ?_
  show Go _ _ _ _ T0 (mkF m 1 #[.val (.long q1), .second, .val (.long q2), .second] [(.long q1)])
  refine Go.st (X0.ldc2Long hx hown (mvT hZ (hw _ (List.mem_of_getElem? (i := 28) rfl))) (g := (mkF m 1 #[.val (.long q1), .second, .val (.long q2), .second] [(.long q1)])) rfl (hb hby d5_1)) ?_
  show Go _ _ _ _ T0 (mkF m 4 #[.val (.long q1), .second, .val (.long q2), .second] [(.long (-9223372036854775808 : Int64)), (.long q1)])
  refine Go.st (fun t k => XS.lxor X0.here hx rfl (hb hby d5_4) rfl k) ?_
  show Go _ _ _ _ T0 (mkF m 5 #[.val (.long q1), .second, .val (.long q2), .second] [(.long (q1 ^^^ (-9223372036854775808 : Int64)))])
  refine Go.st (fun t k => XS.lloadN X0.here hx rfl (hb hby d5_5) rfl k) ?_
  show Go _ _ _ _ T0 (mkF m 6 #[.val (.long q1), .second, .val (.long q2), .second] [(.long q2), (.long (q1 ^^^ (-9223372036854775808 : Int64)))])
  refine Go.st (X0.ldc2Long hx hown (mvT hZ (hw _ (List.mem_of_getElem? (i := 28) rfl))) (g := (mkF m 6 #[.val (.long q1), .second, .val (.long q2), .second] [(.long q2), (.long (q1 ^^^ (-9223372036854775808 : Int64)))])) rfl (hb hby d5_6)) ?_
  show Go _ _ _ _ T0 (mkF m 9 #[.val (.long q1), .second, .val (.long q2), .second] [(.long (-9223372036854775808 : Int64)), (.long q2), (.long (q1 ^^^ (-9223372036854775808 : Int64)))])
  refine Go.st (fun t k => XS.lxor X0.here hx rfl (hb hby d5_9) rfl k) ?_
  show Go _ _ _ _ T0 (mkF m 10 #[.val (.long q1), .second, .val (.long q2), .second] [(.long (q2 ^^^ (-9223372036854775808 : Int64))), (.long (q1 ^^^ (-9223372036854775808 : Int64)))])
  refine Go.st (fun t k => XS.lcmp X0.here hx rfl (hb hby d5_10) rfl k) ?_
  show Go _ _ _ _ T0 (mkF m 11 #[.val (.long q1), .second, .val (.long q2), .second] [(.int (lcmpW (q1 ^^^ (-9223372036854775808 : Int64)) (q2 ^^^ (-9223372036854775808 : Int64))))])
  by_cases hA : (0 : Int32) < (lcmpW (q1 ^^^ (-9223372036854775808 : Int64)) (q2 ^^^ (-9223372036854775808 : Int64)))
  ·
    refine Go.st (fun t k => XS.ifYes X0.here hx rfl (pc0 := 11) (pc' := 18) rfl (hb hby d5_11) rfl ((if0 _ _).trans (tlt hA).2.2.1) (by decide) (by decide) k) ?_
    show Go _ _ _ _ T0 (mkF m 18 #[.val (.long q1), .second, .val (.long q2), .second] [])
    refine Go.st (fun t k => XS.iconst X0.here hx rfl (hb hby d5_18) k) ?_
    show Go _ _ _ _ T0 (mkF m 19 #[.val (.long q1), .second, .val (.long q2), .second] [(.int (0 : Int32))])
    exact goN X0 hx hret hlk (by simp) (hb hby d5_19) (by decide) (by decide) ⟨Or.inr ⟨(lw_gt _ _).mp hA, rfl⟩, N0, e0⟩
  ·
    refine Go.st (fun t k => XS.ifNo X0.here hx rfl (hb hby d5_11) rfl ((if0 _ _).trans (flt hA).2.2.1) k) ?_
    show Go _ _ _ _ T0 (mkF m 14 #[.val (.long q1), .second, .val (.long q2), .second] [])
    refine Go.st (fun t k => XS.iconst X0.here hx rfl (hb hby d5_14) k) ?_
    show Go _ _ _ _ T0 (mkF m 15 #[.val (.long q1), .second, .val (.long q2), .second] [(.int (1 : Int32))])
    refine Go.st (fun t k => XS.goto X0.here hx rfl (pc0 := 15) (pc' := 19) rfl (hb hby d5_15) (by decide) (by decide) k) ?_
    show Go _ _ _ _ T0 (mkF m 19 #[.val (.long q1), .second, .val (.long q2), .second] [(.int (1 : Int32))])
    exact goN X0 hx hret hlk (by simp) (hb hby d5_19) (by decide) (by decide) ⟨Or.inl ⟨fun q => hA ((lw_gt _ _).mpr q), rfl⟩, N0, e0⟩
theorem pn_0 : plainName "com/example/counterpath/counterpath/model/IntervalContainsPinLaw" = true := by first | (simp [plainName, overriddenIn]; done) | decide +kernel
theorem pd0_0 : parseMethodDescriptor "(JJ)V" = some ⟨[.long, .long], none⟩ := by decide +kernel
theorem pd0_1 : parseMethodDescriptor "(J)Z" = some ⟨[.long], some .boolean⟩ := by decide +kernel
theorem pd0_2 : parseMethodDescriptor "(JJ)Z" = some ⟨[.long, .long], some .boolean⟩ := by decide +kernel
theorem ef_0 (m : MethodId) (x0 : Int64) (x1 : Int64) (x2 : Int64) (x3 : Int32) : entryFrame m #[(.long x0), (.long x1), (.long x2), (.int x3)] maxLocals = mkF m 0 #[.val (.long x0), .second, .val (.long x1), .second, .val (.long x2), .second, .val (.int x3), .unset, .unset, .unset, .unset, .unset, .unset] [] := by first | (simp [entryFrame, mkF, argsToLocals, Value.category, maxLocals]; done) | rfl
set_option maxRecDepth 65536 in
set_option maxHeartbeats 40000000 in
theorem rm0 (l : Launch) (Z : State) (a0 : Array Value) (hw : ∀ d ∈ tables_1, d.before a0 Z = true) (q1 : Int64) (q2 : Int64) (q3 : Int64) (p4 : Int32) (h0 : Heap) (n0 : Nat) (Z0 : n0 ≤ h0.size)   :
    Does l Z x code maxLocals ret room_1 #[(.long q1), (.long q2), (.long q3), (.int p4)] h0 (fun v h L => v = some (.int 1) ∧ Fr n0 L) := by
  refine Does.body (plainFor_of_name pn_0) ?_
  intro p e s m below meth c T0 X0 hx hZ hby hml hown hnm hret hlk e0
  replace hown : s.vm.findClass "com/example/counterpath/counterpath/model/IntervalContainsPinLaw" = some m.cls := hown
  have N0 := Fr.nil n0
  refine Go.frame (ef_0 m q1 q2 q3 p4) ?_
  show Go _ _ _ _ T0 (mkF m 0 #[.val (.long q1), .second, .val (.long q2), .second, .val (.long q3), .second, .val (.int p4), .unset, .unset, .unset, .unset, .unset, .unset] [])
  refine Go.st (fun t k => XS.iload X0.here hx rfl (hb hby at_0) rfl k) ?_
  show Go _ _ _ _ T0 (mkF m 2 #[.val (.long q1), .second, .val (.long q2), .second, .val (.long q3), .second, .val (.int p4), .unset, .unset, .unset, .unset, .unset, .unset] [(.int p4)])
  refine Go.st (fun t k => XS.iconst X0.here hx rfl (hb hby at_2) k) ?_
  show Go _ _ _ _ T0 (mkF m 3 #[.val (.long q1), .second, .val (.long q2), .second, .val (.long q3), .second, .val (.int p4), .unset, .unset, .unset, .unset, .unset, .unset] [(.int (3 : Int32)), (.int p4)])
  refine Go.st (fun t k => XS.iand X0.here hx rfl (hb hby at_3) rfl k) ?_
  show Go _ _ _ _ T0 (mkF m 4 #[.val (.long q1), .second, .val (.long q2), .second, .val (.long q3), .second, .val (.int p4), .unset, .unset, .unset, .unset, .unset, .unset] [(.int (p4 &&& (3 : Int32)))])
  refine Go.st (fun t k => XS.istore X0.here hx rfl (hb hby at_4) rfl (l' := #[.val (.long q1), .second, .val (.long q2), .second, .val (.long q3), .second, .val (.int p4), .val (.int (p4 &&& (3 : Int32))), .unset, .unset, .unset, .unset, .unset]) rfl k) ?_
  show Go _ _ _ _ T0 (mkF m 6 #[.val (.long q1), .second, .val (.long q2), .second, .val (.long q3), .second, .val (.int p4), .val (.int (p4 &&& (3 : Int32))), .unset, .unset, .unset, .unset, .unset] [])
  refine own_join (T := T0) (g := fun z : Int64 => (mkF m 52 #[.val (.long q1), .second, .val (.long q2), .second, .val (.long q3), .second, .val (.int p4), .val (.int (p4 &&& (3 : Int32))), .val (.long z), .second, .unset, .unset, .unset] [])) ?_ ?_
  ·
    intro z
    show Go _ _ _ _ T0 (mkF m 52 #[.val (.long q1), .second, .val (.long q2), .second, .val (.long q3), .second, .val (.int p4), .val (.int (p4 &&& (3 : Int32))), .val (.long z), .second, .unset, .unset, .unset] [])
    obtain ⟨T1, h1, X1, e1, E1, A1, D1, -, st1⟩ := newO X0 hx hZ hown (hw _ (List.mem_of_getElem? (i := 1) rfl)) (hw _ (List.mem_of_getElem? (i := 2) rfl)) (hw _ (List.mem_of_getElem? (i := 3) rfl)) e0 (g := (mkF m 52 #[.val (.long q1), .second, .val (.long q2), .second, .val (.long q3), .second, .val (.int p4), .val (.int (p4 &&& (3 : Int32))), .val (.long z), .second, .unset, .unset, .unset] [])) rfl (hb hby at_52) (by decide) (by decide)
    obtain ⟨b1, qz1⟩ : ∃ z, z = h0.size := ⟨_, rfl⟩
    rw [← qz1] at A1 D1 st1
    have g_b1 : n0 ≤ b1 := Nat.le_trans Z0 (Nat.le_of_eq qz1.symm)
    have Z1 := Nat.le_trans Z0 E1.1
    have E_b1 := A1
    have F_lower_b1 : Fld Z h1 b1 "com/example/counterpath/counterpath/model/Interval" "lower" "J" (.long (0 : Int64)) := D1 (Or.inr (hw _ (List.mem_of_getElem? (i := 16) rfl))) (ty := .long) (by decide)
    have F_upper_b1 : Fld Z h1 b1 "com/example/counterpath/counterpath/model/Interval" "upper" "J" (.long (0 : Int64)) := D1 (Or.inr (hw _ (List.mem_of_getElem? (i := 18) rfl))) (ty := .long) (by decide)
    refine Go.st st1 ?_
    show Go _ _ _ _ T1 (mkF m 55 #[.val (.long q1), .second, .val (.long q2), .second, .val (.long q3), .second, .val (.int p4), .val (.int (p4 &&& (3 : Int32))), .val (.long z), .second, .unset, .unset, .unset] [(.ref b1)])
    refine Go.st (fun t k => XS.dup X1.here hx rfl (hb hby at_55) rfl rfl k) ?_
    show Go _ _ _ _ T1 (mkF m 56 #[.val (.long q1), .second, .val (.long q2), .second, .val (.long q3), .second, .val (.int p4), .val (.int (p4 &&& (3 : Int32))), .val (.long z), .second, .unset, .unset, .unset] [(.ref b1), (.ref b1)])
    refine Go.st (fun t k => XS.lloadN X1.here hx rfl (hb hby at_56) rfl k) ?_
    show Go _ _ _ _ T1 (mkF m 57 #[.val (.long q1), .second, .val (.long q2), .second, .val (.long q3), .second, .val (.int p4), .val (.int (p4 &&& (3 : Int32))), .val (.long z), .second, .unset, .unset, .unset] [(.long q1), (.ref b1), (.ref b1)])
    refine Go.st (fun t k => XS.lloadN X1.here hx rfl (hb hby at_57) rfl k) ?_
    show Go _ _ _ _ T1 (mkF m 58 #[.val (.long q1), .second, .val (.long q2), .second, .val (.long q3), .second, .val (.int p4), .val (.int (p4 &&& (3 : Int32))), .val (.long z), .second, .unset, .unset, .unset] [(.long q2), (.long q1), (.ref b1), (.ref b1)])
    refine goC X1 hx hZ (y := (⟨"com/example/counterpath/counterpath/model/Interval", "<init>", "(JJ)V"⟩ : MethodName)) rfl hown (hw _ (List.mem_of_getElem? (i := 4) rfl)) (hw _ (List.mem_of_getElem? (i := 5) rfl)) (hw _ (List.mem_of_getElem? (i := 3) rfl)) (hw _ (List.mem_of_getElem? (i := 6) rfl)) (by decide) (rm1 l Z a0 hw b1 q1 q2 h1 n0 Z1 E_b1 F_lower_b1 F_upper_b1 g_b1) e1 N0 1 (by decide) (by decide) (by decide) (by decide) (g := (mkF m 58 #[.val (.long q1), .second, .val (.long q2), .second, .val (.long q3), .second, .val (.int p4), .val (.int (p4 &&& (3 : Int32))), .val (.long z), .second, .unset, .unset, .unset] [(.long q2), (.long q1), (.ref b1), (.ref b1)])) rfl (by rw [hml]; rfl) [(.long q1), (.long q2)] [(.ref b1)] (lenOf pd0_0 rfl) rfl rfl (by show 2 * 0 + _ ≤ _; exact Nat.le_of_eq rfl) (hb hby at_58) ?_
    intro T2 v2 L2 M2 X2 N2 hq2
    obtain ⟨rfl, N2q, K2, E_b1, F_lower_b1, F_upper_b1⟩ := hq2
    replace N2 := N2 N2q
    have Z2 := Nat.le_trans Z1 K2.1
    show Go _ _ _ _ T2 (mkF m 61 #[.val (.long q1), .second, .val (.long q2), .second, .val (.long q3), .second, .val (.int p4), .val (.int (p4 &&& (3 : Int32))), .val (.long z), .second, .unset, .unset, .unset] [(.ref b1)])
    refine Go.st (fun t k => XS.astore X2.here hx rfl (hb hby at_61) rfl rfl (l' := #[.val (.long q1), .second, .val (.long q2), .second, .val (.long q3), .second, .val (.int p4), .val (.int (p4 &&& (3 : Int32))), .val (.long z), .second, .val (.ref b1), .unset, .unset]) rfl k) ?_
    show Go _ _ _ _ T2 (mkF m 63 #[.val (.long q1), .second, .val (.long q2), .second, .val (.long q3), .second, .val (.int p4), .val (.int (p4 &&& (3 : Int32))), .val (.long z), .second, .val (.ref b1), .unset, .unset] [])
    refine Go.st (fun t k => XS.aload X2.here hx rfl (hb hby at_63) rfl rfl k) ?_
    show Go _ _ _ _ T2 (mkF m 65 #[.val (.long q1), .second, .val (.long q2), .second, .val (.long q3), .second, .val (.int p4), .val (.int (p4 &&& (3 : Int32))), .val (.long z), .second, .val (.ref b1), .unset, .unset] [(.ref b1)])
    refine Go.st (fun t k => XS.lload X2.here hx rfl (hb hby at_65) rfl k) ?_
    show Go _ _ _ _ T2 (mkF m 67 #[.val (.long q1), .second, .val (.long q2), .second, .val (.long q3), .second, .val (.int p4), .val (.int (p4 &&& (3 : Int32))), .val (.long z), .second, .val (.ref b1), .unset, .unset] [(.long z), (.ref b1)])
    refine goM X2 hx hZ (y := (⟨"com/example/counterpath/counterpath/model/Interval", "contains", "(J)Z"⟩ : MethodName)) (z := (⟨"com/example/counterpath/counterpath/model/Interval", "contains", "(J)Z"⟩ : MethodName)) hown (hw _ (List.mem_of_getElem? (i := 19) rfl)) (hw _ (List.mem_of_getElem? (i := 20) rfl)) (hw _ (List.mem_of_getElem? (i := 22) rfl)) (hw _ (List.mem_of_getElem? (i := 21) rfl)) (hw _ (List.mem_of_getElem? (i := 23) rfl)) (hw _ (List.mem_of_getElem? (i := 3) rfl)) (notFace_of_selects (args := #[]) (mvT hZ (hw _ (List.mem_of_getElem? (i := 22) rfl)))) (by decide) (rm4 l Z a0 hw b1 z T2.heap n0 Z2 q1 q2 F_lower_b1 F_upper_b1) rfl N2 E_b1 0 (by decide) (by decide) (by decide) (by decide) (g := (mkF m 67 #[.val (.long q1), .second, .val (.long q2), .second, .val (.long q3), .second, .val (.int p4), .val (.int (p4 &&& (3 : Int32))), .val (.long z), .second, .val (.ref b1), .unset, .unset] [(.long z), (.ref b1)])) rfl (by rw [hml]; rfl) [(.long z)] [] (lenOf pd0_1 rfl) rfl rfl (by show 2 * 0 + _ ≤ _; exact Nat.le_of_eq rfl) (hb hby at_67) ?_
    intro T3 v3 L3 M3 X3 N3 hq3
    obtain ⟨hq3, N3q, e3⟩ := hq3
    replace N3 := N3 N3q
    rcases hq3 with ⟨hr3, rfl⟩ | ⟨hr3, rfl⟩
    ·
      show Go _ _ _ _ T3 (mkF m 70 #[.val (.long q1), .second, .val (.long q2), .second, .val (.long q3), .second, .val (.int p4), .val (.int (p4 &&& (3 : Int32))), .val (.long z), .second, .val (.ref b1), .unset, .unset] [(.int (1 : Int32))])
      refine Go.st (fun t k => XS.istore X3.here hx rfl (hb hby at_70) rfl (l' := #[.val (.long q1), .second, .val (.long q2), .second, .val (.long q3), .second, .val (.int p4), .val (.int (p4 &&& (3 : Int32))), .val (.long z), .second, .val (.ref b1), .val (.int (1 : Int32)), .unset]) rfl k) ?_
      show Go _ _ _ _ T3 (mkF m 72 #[.val (.long q1), .second, .val (.long q2), .second, .val (.long q3), .second, .val (.int p4), .val (.int (p4 &&& (3 : Int32))), .val (.long z), .second, .val (.ref b1), .val (.int (1 : Int32)), .unset] [])
      refine Go.st (fun t k => XS.lloadN X3.here hx rfl (hb hby at_72) rfl k) ?_
      show Go _ _ _ _ T3 (mkF m 73 #[.val (.long q1), .second, .val (.long q2), .second, .val (.long q3), .second, .val (.int p4), .val (.int (p4 &&& (3 : Int32))), .val (.long z), .second, .val (.ref b1), .val (.int (1 : Int32)), .unset] [(.long q1)])
      refine Go.st (fun t k => XS.lloadN X3.here hx rfl (hb hby at_73) rfl k) ?_
      show Go _ _ _ _ T3 (mkF m 74 #[.val (.long q1), .second, .val (.long q2), .second, .val (.long q3), .second, .val (.int p4), .val (.int (p4 &&& (3 : Int32))), .val (.long z), .second, .val (.ref b1), .val (.int (1 : Int32)), .unset] [(.long q2), (.long q1)])
      refine Go.st (fun t k => XS.lcmp X3.here hx rfl (hb hby at_74) rfl k) ?_
      show Go _ _ _ _ T3 (mkF m 75 #[.val (.long q1), .second, .val (.long q2), .second, .val (.long q3), .second, .val (.int p4), .val (.int (p4 &&& (3 : Int32))), .val (.long z), .second, .val (.ref b1), .val (.int (1 : Int32)), .unset] [(.int (lcmpW q1 q2))])
      by_cases hG : (0 : Int32) < (lcmpW q1 q2)
      ·
        refine Go.st (fun t k => XS.ifYes X3.here hx rfl (pc0 := 75) (pc' := 95) rfl (hb hby at_75) rfl ((if0 _ _).trans (tlt hG).2.2.1) (by decide) (by decide) k) ?_
        show Go _ _ _ _ T3 (mkF m 95 #[.val (.long q1), .second, .val (.long q2), .second, .val (.long q3), .second, .val (.int p4), .val (.int (p4 &&& (3 : Int32))), .val (.long z), .second, .val (.ref b1), .val (.int (1 : Int32)), .unset] [])
        refine Go.st (fun t k => XS.iconst X3.here hx rfl (hb hby at_95) k) ?_
        show Go _ _ _ _ T3 (mkF m 96 #[.val (.long q1), .second, .val (.long q2), .second, .val (.long q3), .second, .val (.int p4), .val (.int (p4 &&& (3 : Int32))), .val (.long z), .second, .val (.ref b1), .val (.int (1 : Int32)), .unset] [(.int (0 : Int32))])
        refine Go.st (fun t k => XS.istore X3.here hx rfl (hb hby at_96) rfl (l' := #[.val (.long q1), .second, .val (.long q2), .second, .val (.long q3), .second, .val (.int p4), .val (.int (p4 &&& (3 : Int32))), .val (.long z), .second, .val (.ref b1), .val (.int (1 : Int32)), .val (.int (0 : Int32))]) rfl k) ?_
        show Go _ _ _ _ T3 (mkF m 98 #[.val (.long q1), .second, .val (.long q2), .second, .val (.long q3), .second, .val (.int p4), .val (.int (p4 &&& (3 : Int32))), .val (.long z), .second, .val (.ref b1), .val (.int (1 : Int32)), .val (.int (0 : Int32))] [])
        exact absurd ((own_iv q1 q2 z).mp hr3) (fun q => q.1 ((lw_gt _ _).mp hG))
      ·
        refine Go.st (fun t k => XS.ifNo X3.here hx rfl (hb hby at_75) rfl ((if0 _ _).trans (flt hG).2.2.1) k) ?_
        show Go _ _ _ _ T3 (mkF m 78 #[.val (.long q1), .second, .val (.long q2), .second, .val (.long q3), .second, .val (.int p4), .val (.int (p4 &&& (3 : Int32))), .val (.long z), .second, .val (.ref b1), .val (.int (1 : Int32)), .unset] [])
        refine Go.st (fun t k => XS.lload X3.here hx rfl (hb hby at_78) rfl k) ?_
        show Go _ _ _ _ T3 (mkF m 80 #[.val (.long q1), .second, .val (.long q2), .second, .val (.long q3), .second, .val (.int p4), .val (.int (p4 &&& (3 : Int32))), .val (.long z), .second, .val (.ref b1), .val (.int (1 : Int32)), .unset] [(.long z)])
        refine Go.st (fun t k => XS.lloadN X3.here hx rfl (hb hby at_80) rfl k) ?_
        show Go _ _ _ _ T3 (mkF m 81 #[.val (.long q1), .second, .val (.long q2), .second, .val (.long q3), .second, .val (.int p4), .val (.int (p4 &&& (3 : Int32))), .val (.long z), .second, .val (.ref b1), .val (.int (1 : Int32)), .unset] [(.long q1), (.long z)])
        refine Go.st (fun t k => XS.lsub X3.here hx rfl (hb hby at_81) rfl k) ?_
        show Go _ _ _ _ T3 (mkF m 82 #[.val (.long q1), .second, .val (.long q2), .second, .val (.long q3), .second, .val (.int p4), .val (.int (p4 &&& (3 : Int32))), .val (.long z), .second, .val (.ref b1), .val (.int (1 : Int32)), .unset] [(.long (z - q1))])
        refine Go.st (fun t k => XS.lloadN X3.here hx rfl (hb hby at_82) rfl k) ?_
        show Go _ _ _ _ T3 (mkF m 83 #[.val (.long q1), .second, .val (.long q2), .second, .val (.long q3), .second, .val (.int p4), .val (.int (p4 &&& (3 : Int32))), .val (.long z), .second, .val (.ref b1), .val (.int (1 : Int32)), .unset] [(.long q2), (.long (z - q1))])
        refine Go.st (fun t k => XS.lloadN X3.here hx rfl (hb hby at_83) rfl k) ?_
        show Go _ _ _ _ T3 (mkF m 84 #[.val (.long q1), .second, .val (.long q2), .second, .val (.long q3), .second, .val (.int p4), .val (.int (p4 &&& (3 : Int32))), .val (.long z), .second, .val (.ref b1), .val (.int (1 : Int32)), .unset] [(.long q1), (.long q2), (.long (z - q1))])
        refine Go.st (fun t k => XS.lsub X3.here hx rfl (hb hby at_84) rfl k) ?_
        show Go _ _ _ _ T3 (mkF m 85 #[.val (.long q1), .second, .val (.long q2), .second, .val (.long q3), .second, .val (.int p4), .val (.int (p4 &&& (3 : Int32))), .val (.long z), .second, .val (.ref b1), .val (.int (1 : Int32)), .unset] [(.long (q2 - q1)), (.long (z - q1))])
        refine goS X3 hx hZ (y := (⟨"com/example/counterpath/counterpath/model/IntervalContainsPinLaw", "unsignedLe", "(JJ)Z"⟩ : MethodName)) hown (hw _ (List.mem_of_getElem? (i := 24) rfl)) (hw _ (List.mem_of_getElem? (i := 25) rfl)) (hw _ (List.mem_of_getElem? (i := 26) rfl)) (hw _ (List.mem_of_getElem? (i := 27) rfl)) (by decide) (rm5 l Z a0 hw (z - q1) (q2 - q1) T2.heap n0 Z2) e3 N3 0 (by decide) (by decide) (by decide) (by decide) (g := (mkF m 85 #[.val (.long q1), .second, .val (.long q2), .second, .val (.long q3), .second, .val (.int p4), .val (.int (p4 &&& (3 : Int32))), .val (.long z), .second, .val (.ref b1), .val (.int (1 : Int32)), .unset] [(.long (q2 - q1)), (.long (z - q1))])) rfl (by rw [hml]; rfl) [(.long (z - q1)), (.long (q2 - q1))] [] (lenOf pd0_2 rfl) rfl rfl (by show 2 * 0 + _ ≤ _; exact Nat.le_of_eq rfl) (hb hby at_85) ?_
        intro T5 v5 L5 M5 X5 N5 hq5
        obtain ⟨hq5, N5q, e5⟩ := hq5
        replace N5 := N5 N5q
        rcases hq5 with ⟨hr5, rfl⟩ | ⟨hr5, rfl⟩
        ·
          show Go _ _ _ _ T5 (mkF m 88 #[.val (.long q1), .second, .val (.long q2), .second, .val (.long q3), .second, .val (.int p4), .val (.int (p4 &&& (3 : Int32))), .val (.long z), .second, .val (.ref b1), .val (.int (1 : Int32)), .unset] [(.int (1 : Int32))])
          refine Go.st (fun t k => XS.ifNo X5.here hx rfl (hb hby at_88) rfl (by decide) k) ?_
          show Go _ _ _ _ T5 (mkF m 91 #[.val (.long q1), .second, .val (.long q2), .second, .val (.long q3), .second, .val (.int p4), .val (.int (p4 &&& (3 : Int32))), .val (.long z), .second, .val (.ref b1), .val (.int (1 : Int32)), .unset] [])
          refine Go.st (fun t k => XS.iconst X5.here hx rfl (hb hby at_91) k) ?_
          show Go _ _ _ _ T5 (mkF m 92 #[.val (.long q1), .second, .val (.long q2), .second, .val (.long q3), .second, .val (.int p4), .val (.int (p4 &&& (3 : Int32))), .val (.long z), .second, .val (.ref b1), .val (.int (1 : Int32)), .unset] [(.int (1 : Int32))])
          refine Go.st (fun t k => XS.goto X5.here hx rfl (pc0 := 92) (pc' := 96) rfl (hb hby at_92) (by decide) (by decide) k) ?_
          show Go _ _ _ _ T5 (mkF m 96 #[.val (.long q1), .second, .val (.long q2), .second, .val (.long q3), .second, .val (.int p4), .val (.int (p4 &&& (3 : Int32))), .val (.long z), .second, .val (.ref b1), .val (.int (1 : Int32)), .unset] [(.int (1 : Int32))])
          refine Go.st (fun t k => XS.istore X5.here hx rfl (hb hby at_96) rfl (l' := #[.val (.long q1), .second, .val (.long q2), .second, .val (.long q3), .second, .val (.int p4), .val (.int (p4 &&& (3 : Int32))), .val (.long z), .second, .val (.ref b1), .val (.int (1 : Int32)), .val (.int (1 : Int32))]) rfl k) ?_
          show Go _ _ _ _ T5 (mkF m 98 #[.val (.long q1), .second, .val (.long q2), .second, .val (.long q3), .second, .val (.int p4), .val (.int (p4 &&& (3 : Int32))), .val (.long z), .second, .val (.ref b1), .val (.int (1 : Int32)), .val (.int (1 : Int32))] [])
          refine Go.st (fun t k => XS.iload X5.here hx rfl (hb hby at_98) rfl k) ?_
          show Go _ _ _ _ T5 (mkF m 100 #[.val (.long q1), .second, .val (.long q2), .second, .val (.long q3), .second, .val (.int p4), .val (.int (p4 &&& (3 : Int32))), .val (.long z), .second, .val (.ref b1), .val (.int (1 : Int32)), .val (.int (1 : Int32))] [(.int (1 : Int32))])
          refine Go.st (fun t k => XS.iload X5.here hx rfl (hb hby at_100) rfl k) ?_
          show Go _ _ _ _ T5 (mkF m 102 #[.val (.long q1), .second, .val (.long q2), .second, .val (.long q3), .second, .val (.int p4), .val (.int (p4 &&& (3 : Int32))), .val (.long z), .second, .val (.ref b1), .val (.int (1 : Int32)), .val (.int (1 : Int32))] [(.int (1 : Int32)), (.int (1 : Int32))])
          refine Go.st (fun t k => XS.icmpNo X5.here hx rfl (hb hby at_102) rfl (by decide) k) ?_
          show Go _ _ _ _ T5 (mkF m 105 #[.val (.long q1), .second, .val (.long q2), .second, .val (.long q3), .second, .val (.int p4), .val (.int (p4 &&& (3 : Int32))), .val (.long z), .second, .val (.ref b1), .val (.int (1 : Int32)), .val (.int (1 : Int32))] [])
          refine Go.st (fun t k => XS.iconst X5.here hx rfl (hb hby at_105) k) ?_
          show Go _ _ _ _ T5 (mkF m 106 #[.val (.long q1), .second, .val (.long q2), .second, .val (.long q3), .second, .val (.int p4), .val (.int (p4 &&& (3 : Int32))), .val (.long z), .second, .val (.ref b1), .val (.int (1 : Int32)), .val (.int (1 : Int32))] [(.int (1 : Int32))])
          refine Go.st (fun t k => XS.goto X5.here hx rfl (pc0 := 106) (pc' := 110) rfl (hb hby at_106) (by decide) (by decide) k) ?_
          show Go _ _ _ _ T5 (mkF m 110 #[.val (.long q1), .second, .val (.long q2), .second, .val (.long q3), .second, .val (.int p4), .val (.int (p4 &&& (3 : Int32))), .val (.long z), .second, .val (.ref b1), .val (.int (1 : Int32)), .val (.int (1 : Int32))] [(.int (1 : Int32))])
          exact goN X5 hx hret hlk (by simp) (hb hby at_110) (by decide) (by decide) ⟨rfl, N5⟩
        ·
          show Go _ _ _ _ T5 (mkF m 88 #[.val (.long q1), .second, .val (.long q2), .second, .val (.long q3), .second, .val (.int p4), .val (.int (p4 &&& (3 : Int32))), .val (.long z), .second, .val (.ref b1), .val (.int (1 : Int32)), .unset] [(.int (0 : Int32))])
          refine Go.st (fun t k => XS.ifYes X5.here hx rfl (pc0 := 88) (pc' := 95) rfl (hb hby at_88) rfl (by decide) (by decide) (by decide) k) ?_
          show Go _ _ _ _ T5 (mkF m 95 #[.val (.long q1), .second, .val (.long q2), .second, .val (.long q3), .second, .val (.int p4), .val (.int (p4 &&& (3 : Int32))), .val (.long z), .second, .val (.ref b1), .val (.int (1 : Int32)), .unset] [])
          refine Go.st (fun t k => XS.iconst X5.here hx rfl (hb hby at_95) k) ?_
          show Go _ _ _ _ T5 (mkF m 96 #[.val (.long q1), .second, .val (.long q2), .second, .val (.long q3), .second, .val (.int p4), .val (.int (p4 &&& (3 : Int32))), .val (.long z), .second, .val (.ref b1), .val (.int (1 : Int32)), .unset] [(.int (0 : Int32))])
          refine Go.st (fun t k => XS.istore X5.here hx rfl (hb hby at_96) rfl (l' := #[.val (.long q1), .second, .val (.long q2), .second, .val (.long q3), .second, .val (.int p4), .val (.int (p4 &&& (3 : Int32))), .val (.long z), .second, .val (.ref b1), .val (.int (1 : Int32)), .val (.int (0 : Int32))]) rfl k) ?_
          show Go _ _ _ _ T5 (mkF m 98 #[.val (.long q1), .second, .val (.long q2), .second, .val (.long q3), .second, .val (.int p4), .val (.int (p4 &&& (3 : Int32))), .val (.long z), .second, .val (.ref b1), .val (.int (1 : Int32)), .val (.int (0 : Int32))] [])
          exact absurd ((own_iv q1 q2 z).mp hr3) (fun q => q.2 hr5)
    ·
      show Go _ _ _ _ T3 (mkF m 70 #[.val (.long q1), .second, .val (.long q2), .second, .val (.long q3), .second, .val (.int p4), .val (.int (p4 &&& (3 : Int32))), .val (.long z), .second, .val (.ref b1), .unset, .unset] [(.int (0 : Int32))])
      refine Go.st (fun t k => XS.istore X3.here hx rfl (hb hby at_70) rfl (l' := #[.val (.long q1), .second, .val (.long q2), .second, .val (.long q3), .second, .val (.int p4), .val (.int (p4 &&& (3 : Int32))), .val (.long z), .second, .val (.ref b1), .val (.int (0 : Int32)), .unset]) rfl k) ?_
      show Go _ _ _ _ T3 (mkF m 72 #[.val (.long q1), .second, .val (.long q2), .second, .val (.long q3), .second, .val (.int p4), .val (.int (p4 &&& (3 : Int32))), .val (.long z), .second, .val (.ref b1), .val (.int (0 : Int32)), .unset] [])
      refine Go.st (fun t k => XS.lloadN X3.here hx rfl (hb hby at_72) rfl k) ?_
      show Go _ _ _ _ T3 (mkF m 73 #[.val (.long q1), .second, .val (.long q2), .second, .val (.long q3), .second, .val (.int p4), .val (.int (p4 &&& (3 : Int32))), .val (.long z), .second, .val (.ref b1), .val (.int (0 : Int32)), .unset] [(.long q1)])
      refine Go.st (fun t k => XS.lloadN X3.here hx rfl (hb hby at_73) rfl k) ?_
      show Go _ _ _ _ T3 (mkF m 74 #[.val (.long q1), .second, .val (.long q2), .second, .val (.long q3), .second, .val (.int p4), .val (.int (p4 &&& (3 : Int32))), .val (.long z), .second, .val (.ref b1), .val (.int (0 : Int32)), .unset] [(.long q2), (.long q1)])
      refine Go.st (fun t k => XS.lcmp X3.here hx rfl (hb hby at_74) rfl k) ?_
      show Go _ _ _ _ T3 (mkF m 75 #[.val (.long q1), .second, .val (.long q2), .second, .val (.long q3), .second, .val (.int p4), .val (.int (p4 &&& (3 : Int32))), .val (.long z), .second, .val (.ref b1), .val (.int (0 : Int32)), .unset] [(.int (lcmpW q1 q2))])
      by_cases hG : (0 : Int32) < (lcmpW q1 q2)
      ·
        refine Go.st (fun t k => XS.ifYes X3.here hx rfl (pc0 := 75) (pc' := 95) rfl (hb hby at_75) rfl ((if0 _ _).trans (tlt hG).2.2.1) (by decide) (by decide) k) ?_
        show Go _ _ _ _ T3 (mkF m 95 #[.val (.long q1), .second, .val (.long q2), .second, .val (.long q3), .second, .val (.int p4), .val (.int (p4 &&& (3 : Int32))), .val (.long z), .second, .val (.ref b1), .val (.int (0 : Int32)), .unset] [])
        refine Go.st (fun t k => XS.iconst X3.here hx rfl (hb hby at_95) k) ?_
        show Go _ _ _ _ T3 (mkF m 96 #[.val (.long q1), .second, .val (.long q2), .second, .val (.long q3), .second, .val (.int p4), .val (.int (p4 &&& (3 : Int32))), .val (.long z), .second, .val (.ref b1), .val (.int (0 : Int32)), .unset] [(.int (0 : Int32))])
        refine Go.st (fun t k => XS.istore X3.here hx rfl (hb hby at_96) rfl (l' := #[.val (.long q1), .second, .val (.long q2), .second, .val (.long q3), .second, .val (.int p4), .val (.int (p4 &&& (3 : Int32))), .val (.long z), .second, .val (.ref b1), .val (.int (0 : Int32)), .val (.int (0 : Int32))]) rfl k) ?_
        show Go _ _ _ _ T3 (mkF m 98 #[.val (.long q1), .second, .val (.long q2), .second, .val (.long q3), .second, .val (.int p4), .val (.int (p4 &&& (3 : Int32))), .val (.long z), .second, .val (.ref b1), .val (.int (0 : Int32)), .val (.int (0 : Int32))] [])
        refine Go.st (fun t k => XS.iload X3.here hx rfl (hb hby at_98) rfl k) ?_
        show Go _ _ _ _ T3 (mkF m 100 #[.val (.long q1), .second, .val (.long q2), .second, .val (.long q3), .second, .val (.int p4), .val (.int (p4 &&& (3 : Int32))), .val (.long z), .second, .val (.ref b1), .val (.int (0 : Int32)), .val (.int (0 : Int32))] [(.int (0 : Int32))])
        refine Go.st (fun t k => XS.iload X3.here hx rfl (hb hby at_100) rfl k) ?_
        show Go _ _ _ _ T3 (mkF m 102 #[.val (.long q1), .second, .val (.long q2), .second, .val (.long q3), .second, .val (.int p4), .val (.int (p4 &&& (3 : Int32))), .val (.long z), .second, .val (.ref b1), .val (.int (0 : Int32)), .val (.int (0 : Int32))] [(.int (0 : Int32)), (.int (0 : Int32))])
        refine Go.st (fun t k => XS.icmpNo X3.here hx rfl (hb hby at_102) rfl (by decide) k) ?_
        show Go _ _ _ _ T3 (mkF m 105 #[.val (.long q1), .second, .val (.long q2), .second, .val (.long q3), .second, .val (.int p4), .val (.int (p4 &&& (3 : Int32))), .val (.long z), .second, .val (.ref b1), .val (.int (0 : Int32)), .val (.int (0 : Int32))] [])
        refine Go.st (fun t k => XS.iconst X3.here hx rfl (hb hby at_105) k) ?_
        show Go _ _ _ _ T3 (mkF m 106 #[.val (.long q1), .second, .val (.long q2), .second, .val (.long q3), .second, .val (.int p4), .val (.int (p4 &&& (3 : Int32))), .val (.long z), .second, .val (.ref b1), .val (.int (0 : Int32)), .val (.int (0 : Int32))] [(.int (1 : Int32))])
        refine Go.st (fun t k => XS.goto X3.here hx rfl (pc0 := 106) (pc' := 110) rfl (hb hby at_106) (by decide) (by decide) k) ?_
        show Go _ _ _ _ T3 (mkF m 110 #[.val (.long q1), .second, .val (.long q2), .second, .val (.long q3), .second, .val (.int p4), .val (.int (p4 &&& (3 : Int32))), .val (.long z), .second, .val (.ref b1), .val (.int (0 : Int32)), .val (.int (0 : Int32))] [(.int (1 : Int32))])
        exact goN X3 hx hret hlk (by simp) (hb hby at_110) (by decide) (by decide) ⟨rfl, N3⟩
      ·
        refine Go.st (fun t k => XS.ifNo X3.here hx rfl (hb hby at_75) rfl ((if0 _ _).trans (flt hG).2.2.1) k) ?_
        show Go _ _ _ _ T3 (mkF m 78 #[.val (.long q1), .second, .val (.long q2), .second, .val (.long q3), .second, .val (.int p4), .val (.int (p4 &&& (3 : Int32))), .val (.long z), .second, .val (.ref b1), .val (.int (0 : Int32)), .unset] [])
        refine Go.st (fun t k => XS.lload X3.here hx rfl (hb hby at_78) rfl k) ?_
        show Go _ _ _ _ T3 (mkF m 80 #[.val (.long q1), .second, .val (.long q2), .second, .val (.long q3), .second, .val (.int p4), .val (.int (p4 &&& (3 : Int32))), .val (.long z), .second, .val (.ref b1), .val (.int (0 : Int32)), .unset] [(.long z)])
        refine Go.st (fun t k => XS.lloadN X3.here hx rfl (hb hby at_80) rfl k) ?_
        show Go _ _ _ _ T3 (mkF m 81 #[.val (.long q1), .second, .val (.long q2), .second, .val (.long q3), .second, .val (.int p4), .val (.int (p4 &&& (3 : Int32))), .val (.long z), .second, .val (.ref b1), .val (.int (0 : Int32)), .unset] [(.long q1), (.long z)])
        refine Go.st (fun t k => XS.lsub X3.here hx rfl (hb hby at_81) rfl k) ?_
        show Go _ _ _ _ T3 (mkF m 82 #[.val (.long q1), .second, .val (.long q2), .second, .val (.long q3), .second, .val (.int p4), .val (.int (p4 &&& (3 : Int32))), .val (.long z), .second, .val (.ref b1), .val (.int (0 : Int32)), .unset] [(.long (z - q1))])
        refine Go.st (fun t k => XS.lloadN X3.here hx rfl (hb hby at_82) rfl k) ?_
        show Go _ _ _ _ T3 (mkF m 83 #[.val (.long q1), .second, .val (.long q2), .second, .val (.long q3), .second, .val (.int p4), .val (.int (p4 &&& (3 : Int32))), .val (.long z), .second, .val (.ref b1), .val (.int (0 : Int32)), .unset] [(.long q2), (.long (z - q1))])
        refine Go.st (fun t k => XS.lloadN X3.here hx rfl (hb hby at_83) rfl k) ?_
        show Go _ _ _ _ T3 (mkF m 84 #[.val (.long q1), .second, .val (.long q2), .second, .val (.long q3), .second, .val (.int p4), .val (.int (p4 &&& (3 : Int32))), .val (.long z), .second, .val (.ref b1), .val (.int (0 : Int32)), .unset] [(.long q1), (.long q2), (.long (z - q1))])
        refine Go.st (fun t k => XS.lsub X3.here hx rfl (hb hby at_84) rfl k) ?_
        show Go _ _ _ _ T3 (mkF m 85 #[.val (.long q1), .second, .val (.long q2), .second, .val (.long q3), .second, .val (.int p4), .val (.int (p4 &&& (3 : Int32))), .val (.long z), .second, .val (.ref b1), .val (.int (0 : Int32)), .unset] [(.long (q2 - q1)), (.long (z - q1))])
        refine goS X3 hx hZ (y := (⟨"com/example/counterpath/counterpath/model/IntervalContainsPinLaw", "unsignedLe", "(JJ)Z"⟩ : MethodName)) hown (hw _ (List.mem_of_getElem? (i := 24) rfl)) (hw _ (List.mem_of_getElem? (i := 25) rfl)) (hw _ (List.mem_of_getElem? (i := 26) rfl)) (hw _ (List.mem_of_getElem? (i := 27) rfl)) (by decide) (rm5 l Z a0 hw (z - q1) (q2 - q1) T2.heap n0 Z2) e3 N3 0 (by decide) (by decide) (by decide) (by decide) (g := (mkF m 85 #[.val (.long q1), .second, .val (.long q2), .second, .val (.long q3), .second, .val (.int p4), .val (.int (p4 &&& (3 : Int32))), .val (.long z), .second, .val (.ref b1), .val (.int (0 : Int32)), .unset] [(.long (q2 - q1)), (.long (z - q1))])) rfl (by rw [hml]; rfl) [(.long (z - q1)), (.long (q2 - q1))] [] (lenOf pd0_2 rfl) rfl rfl (by show 2 * 0 + _ ≤ _; exact Nat.le_of_eq rfl) (hb hby at_85) ?_
        intro T7 v7 L7 M7 X7 N7 hq7
        obtain ⟨hq7, N7q, e7⟩ := hq7
        replace N7 := N7 N7q
        rcases hq7 with ⟨hr7, rfl⟩ | ⟨hr7, rfl⟩
        ·
          show Go _ _ _ _ T7 (mkF m 88 #[.val (.long q1), .second, .val (.long q2), .second, .val (.long q3), .second, .val (.int p4), .val (.int (p4 &&& (3 : Int32))), .val (.long z), .second, .val (.ref b1), .val (.int (0 : Int32)), .unset] [(.int (1 : Int32))])
          refine Go.st (fun t k => XS.ifNo X7.here hx rfl (hb hby at_88) rfl (by decide) k) ?_
          show Go _ _ _ _ T7 (mkF m 91 #[.val (.long q1), .second, .val (.long q2), .second, .val (.long q3), .second, .val (.int p4), .val (.int (p4 &&& (3 : Int32))), .val (.long z), .second, .val (.ref b1), .val (.int (0 : Int32)), .unset] [])
          refine Go.st (fun t k => XS.iconst X7.here hx rfl (hb hby at_91) k) ?_
          show Go _ _ _ _ T7 (mkF m 92 #[.val (.long q1), .second, .val (.long q2), .second, .val (.long q3), .second, .val (.int p4), .val (.int (p4 &&& (3 : Int32))), .val (.long z), .second, .val (.ref b1), .val (.int (0 : Int32)), .unset] [(.int (1 : Int32))])
          refine Go.st (fun t k => XS.goto X7.here hx rfl (pc0 := 92) (pc' := 96) rfl (hb hby at_92) (by decide) (by decide) k) ?_
          show Go _ _ _ _ T7 (mkF m 96 #[.val (.long q1), .second, .val (.long q2), .second, .val (.long q3), .second, .val (.int p4), .val (.int (p4 &&& (3 : Int32))), .val (.long z), .second, .val (.ref b1), .val (.int (0 : Int32)), .unset] [(.int (1 : Int32))])
          refine Go.st (fun t k => XS.istore X7.here hx rfl (hb hby at_96) rfl (l' := #[.val (.long q1), .second, .val (.long q2), .second, .val (.long q3), .second, .val (.int p4), .val (.int (p4 &&& (3 : Int32))), .val (.long z), .second, .val (.ref b1), .val (.int (0 : Int32)), .val (.int (1 : Int32))]) rfl k) ?_
          show Go _ _ _ _ T7 (mkF m 98 #[.val (.long q1), .second, .val (.long q2), .second, .val (.long q3), .second, .val (.int p4), .val (.int (p4 &&& (3 : Int32))), .val (.long z), .second, .val (.ref b1), .val (.int (0 : Int32)), .val (.int (1 : Int32))] [])
          exact absurd ((own_iv q1 q2 z).mpr ⟨fun q => hG ((lw_gt _ _).mpr q), hr7⟩) hr3
        ·
          show Go _ _ _ _ T7 (mkF m 88 #[.val (.long q1), .second, .val (.long q2), .second, .val (.long q3), .second, .val (.int p4), .val (.int (p4 &&& (3 : Int32))), .val (.long z), .second, .val (.ref b1), .val (.int (0 : Int32)), .unset] [(.int (0 : Int32))])
          refine Go.st (fun t k => XS.ifYes X7.here hx rfl (pc0 := 88) (pc' := 95) rfl (hb hby at_88) rfl (by decide) (by decide) (by decide) k) ?_
          show Go _ _ _ _ T7 (mkF m 95 #[.val (.long q1), .second, .val (.long q2), .second, .val (.long q3), .second, .val (.int p4), .val (.int (p4 &&& (3 : Int32))), .val (.long z), .second, .val (.ref b1), .val (.int (0 : Int32)), .unset] [])
          refine Go.st (fun t k => XS.iconst X7.here hx rfl (hb hby at_95) k) ?_
          show Go _ _ _ _ T7 (mkF m 96 #[.val (.long q1), .second, .val (.long q2), .second, .val (.long q3), .second, .val (.int p4), .val (.int (p4 &&& (3 : Int32))), .val (.long z), .second, .val (.ref b1), .val (.int (0 : Int32)), .unset] [(.int (0 : Int32))])
          refine Go.st (fun t k => XS.istore X7.here hx rfl (hb hby at_96) rfl (l' := #[.val (.long q1), .second, .val (.long q2), .second, .val (.long q3), .second, .val (.int p4), .val (.int (p4 &&& (3 : Int32))), .val (.long z), .second, .val (.ref b1), .val (.int (0 : Int32)), .val (.int (0 : Int32))]) rfl k) ?_
          show Go _ _ _ _ T7 (mkF m 98 #[.val (.long q1), .second, .val (.long q2), .second, .val (.long q3), .second, .val (.int p4), .val (.int (p4 &&& (3 : Int32))), .val (.long z), .second, .val (.ref b1), .val (.int (0 : Int32)), .val (.int (0 : Int32))] [])
          refine Go.st (fun t k => XS.iload X7.here hx rfl (hb hby at_98) rfl k) ?_
          show Go _ _ _ _ T7 (mkF m 100 #[.val (.long q1), .second, .val (.long q2), .second, .val (.long q3), .second, .val (.int p4), .val (.int (p4 &&& (3 : Int32))), .val (.long z), .second, .val (.ref b1), .val (.int (0 : Int32)), .val (.int (0 : Int32))] [(.int (0 : Int32))])
          refine Go.st (fun t k => XS.iload X7.here hx rfl (hb hby at_100) rfl k) ?_
          show Go _ _ _ _ T7 (mkF m 102 #[.val (.long q1), .second, .val (.long q2), .second, .val (.long q3), .second, .val (.int p4), .val (.int (p4 &&& (3 : Int32))), .val (.long z), .second, .val (.ref b1), .val (.int (0 : Int32)), .val (.int (0 : Int32))] [(.int (0 : Int32)), (.int (0 : Int32))])
          refine Go.st (fun t k => XS.icmpNo X7.here hx rfl (hb hby at_102) rfl (by decide) k) ?_
          show Go _ _ _ _ T7 (mkF m 105 #[.val (.long q1), .second, .val (.long q2), .second, .val (.long q3), .second, .val (.int p4), .val (.int (p4 &&& (3 : Int32))), .val (.long z), .second, .val (.ref b1), .val (.int (0 : Int32)), .val (.int (0 : Int32))] [])
          refine Go.st (fun t k => XS.iconst X7.here hx rfl (hb hby at_105) k) ?_
          show Go _ _ _ _ T7 (mkF m 106 #[.val (.long q1), .second, .val (.long q2), .second, .val (.long q3), .second, .val (.int p4), .val (.int (p4 &&& (3 : Int32))), .val (.long z), .second, .val (.ref b1), .val (.int (0 : Int32)), .val (.int (0 : Int32))] [(.int (1 : Int32))])
          refine Go.st (fun t k => XS.goto X7.here hx rfl (pc0 := 106) (pc' := 110) rfl (hb hby at_106) (by decide) (by decide) k) ?_
          show Go _ _ _ _ T7 (mkF m 110 #[.val (.long q1), .second, .val (.long q2), .second, .val (.long q3), .second, .val (.int p4), .val (.int (p4 &&& (3 : Int32))), .val (.long z), .second, .val (.ref b1), .val (.int (0 : Int32)), .val (.int (0 : Int32))] [(.int (1 : Int32))])
          exact goN X7 hx hret hlk (by simp) (hb hby at_110) (by decide) (by decide) ⟨rfl, N7⟩
  ·
    intro J52
    show Go _ _ _ _ T0 (mkF m 6 #[.val (.long q1), .second, .val (.long q2), .second, .val (.long q3), .second, .val (.int p4), .val (.int (p4 &&& (3 : Int32))), .unset, .unset, .unset, .unset, .unset] [])
    refine Go.st (fun t k => XS.iload X0.here hx rfl (hb hby at_6) rfl k) ?_
    show Go _ _ _ _ T0 (mkF m 8 #[.val (.long q1), .second, .val (.long q2), .second, .val (.long q3), .second, .val (.int p4), .val (.int (p4 &&& (3 : Int32))), .unset, .unset, .unset, .unset, .unset] [(.int (p4 &&& (3 : Int32)))])
    refine Go.st (fun t k => XS.iconst X0.here hx rfl (hb hby at_8) k) ?_
    show Go _ _ _ _ T0 (mkF m 9 #[.val (.long q1), .second, .val (.long q2), .second, .val (.long q3), .second, .val (.int p4), .val (.int (p4 &&& (3 : Int32))), .unset, .unset, .unset, .unset, .unset] [(.int (1 : Int32)), (.int (p4 &&& (3 : Int32)))])
    by_cases hM1 : (p4 &&& (3 : Int32)) = (1 : Int32)
    ·
      refine Go.st (fun t k => XS.icmpNo X0.here hx rfl (hb hby at_9) rfl (teq hM1).2 k) ?_
      show Go _ _ _ _ T0 (mkF m 12 #[.val (.long q1), .second, .val (.long q2), .second, .val (.long q3), .second, .val (.int p4), .val (.int (p4 &&& (3 : Int32))), .unset, .unset, .unset, .unset, .unset] [])
      refine Go.st (fun t k => XS.lloadN X0.here hx rfl (hb hby at_12) rfl k) ?_
      show Go _ _ _ _ T0 (mkF m 13 #[.val (.long q1), .second, .val (.long q2), .second, .val (.long q3), .second, .val (.int p4), .val (.int (p4 &&& (3 : Int32))), .unset, .unset, .unset, .unset, .unset] [(.long q1)])
      refine Go.st (fun t k => XS.lconst X0.here hx rfl (hb hby at_13) k) ?_
      show Go _ _ _ _ T0 (mkF m 14 #[.val (.long q1), .second, .val (.long q2), .second, .val (.long q3), .second, .val (.int p4), .val (.int (p4 &&& (3 : Int32))), .unset, .unset, .unset, .unset, .unset] [(.long (1 : Int64)), (.long q1)])
      refine Go.st (fun t k => XS.lsub X0.here hx rfl (hb hby at_14) rfl k) ?_
      show Go _ _ _ _ T0 (mkF m 15 #[.val (.long q1), .second, .val (.long q2), .second, .val (.long q3), .second, .val (.int p4), .val (.int (p4 &&& (3 : Int32))), .unset, .unset, .unset, .unset, .unset] [(.long (q1 - (1 : Int64)))])
      refine Go.st (fun t k => XS.lload X0.here hx rfl (hb hby at_15) rfl k) ?_
      show Go _ _ _ _ T0 (mkF m 17 #[.val (.long q1), .second, .val (.long q2), .second, .val (.long q3), .second, .val (.int p4), .val (.int (p4 &&& (3 : Int32))), .unset, .unset, .unset, .unset, .unset] [(.long q3), (.long (q1 - (1 : Int64)))])
      refine Go.st (X0.ldc2Long hx hown (mvT hZ (hw _ (List.mem_of_getElem? (i := 0) rfl))) (g := (mkF m 17 #[.val (.long q1), .second, .val (.long q2), .second, .val (.long q3), .second, .val (.int p4), .val (.int (p4 &&& (3 : Int32))), .unset, .unset, .unset, .unset, .unset] [(.long q3), (.long (q1 - (1 : Int64)))])) rfl (hb hby at_17)) ?_
      show Go _ _ _ _ T0 (mkF m 20 #[.val (.long q1), .second, .val (.long q2), .second, .val (.long q3), .second, .val (.int p4), .val (.int (p4 &&& (3 : Int32))), .unset, .unset, .unset, .unset, .unset] [(.long (3 : Int64)), (.long q3), (.long (q1 - (1 : Int64)))])
      refine Go.st (fun t k => XS.land X0.here hx rfl (hb hby at_20) rfl k) ?_
      show Go _ _ _ _ T0 (mkF m 21 #[.val (.long q1), .second, .val (.long q2), .second, .val (.long q3), .second, .val (.int p4), .val (.int (p4 &&& (3 : Int32))), .unset, .unset, .unset, .unset, .unset] [(.long (q3 &&& (3 : Int64))), (.long (q1 - (1 : Int64)))])
      refine Go.st (fun t k => XS.ladd X0.here hx rfl (hb hby at_21) rfl k) ?_
      show Go _ _ _ _ T0 (mkF m 22 #[.val (.long q1), .second, .val (.long q2), .second, .val (.long q3), .second, .val (.int p4), .val (.int (p4 &&& (3 : Int32))), .unset, .unset, .unset, .unset, .unset] [(.long ((q1 - (1 : Int64)) + (q3 &&& (3 : Int64))))])
      refine Go.st (fun t k => XS.lstore X0.here hx rfl (hb hby at_22) rfl (l' := #[.val (.long q1), .second, .val (.long q2), .second, .val (.long q3), .second, .val (.int p4), .val (.int (p4 &&& (3 : Int32))), .val (.long ((q1 - (1 : Int64)) + (q3 &&& (3 : Int64)))), .second, .unset, .unset, .unset]) rfl k) ?_
      show Go _ _ _ _ T0 (mkF m 24 #[.val (.long q1), .second, .val (.long q2), .second, .val (.long q3), .second, .val (.int p4), .val (.int (p4 &&& (3 : Int32))), .val (.long ((q1 - (1 : Int64)) + (q3 &&& (3 : Int64)))), .second, .unset, .unset, .unset] [])
      refine Go.st (fun t k => XS.goto X0.here hx rfl (pc0 := 24) (pc' := 52) rfl (hb hby at_24) (by decide) (by decide) k) ?_
      show Go _ _ _ _ T0 (mkF m 52 #[.val (.long q1), .second, .val (.long q2), .second, .val (.long q3), .second, .val (.int p4), .val (.int (p4 &&& (3 : Int32))), .val (.long ((q1 - (1 : Int64)) + (q3 &&& (3 : Int64)))), .second, .unset, .unset, .unset] [])
      exact J52 _
    ·
      refine Go.st (fun t k => XS.icmpYes X0.here hx rfl (pc0 := 9) (pc' := 27) rfl (hb hby at_9) rfl (feq hM1).2 (by decide) (by decide) k) ?_
      show Go _ _ _ _ T0 (mkF m 27 #[.val (.long q1), .second, .val (.long q2), .second, .val (.long q3), .second, .val (.int p4), .val (.int (p4 &&& (3 : Int32))), .unset, .unset, .unset, .unset, .unset] [])
      refine Go.st (fun t k => XS.iload X0.here hx rfl (hb hby at_27) rfl k) ?_
      show Go _ _ _ _ T0 (mkF m 29 #[.val (.long q1), .second, .val (.long q2), .second, .val (.long q3), .second, .val (.int p4), .val (.int (p4 &&& (3 : Int32))), .unset, .unset, .unset, .unset, .unset] [(.int (p4 &&& (3 : Int32)))])
      refine Go.st (fun t k => XS.iconst X0.here hx rfl (hb hby at_29) k) ?_
      show Go _ _ _ _ T0 (mkF m 30 #[.val (.long q1), .second, .val (.long q2), .second, .val (.long q3), .second, .val (.int p4), .val (.int (p4 &&& (3 : Int32))), .unset, .unset, .unset, .unset, .unset] [(.int (2 : Int32)), (.int (p4 &&& (3 : Int32)))])
      by_cases hM2 : (p4 &&& (3 : Int32)) = (2 : Int32)
      ·
        refine Go.st (fun t k => XS.icmpNo X0.here hx rfl (hb hby at_30) rfl (teq hM2).2 k) ?_
        show Go _ _ _ _ T0 (mkF m 33 #[.val (.long q1), .second, .val (.long q2), .second, .val (.long q3), .second, .val (.int p4), .val (.int (p4 &&& (3 : Int32))), .unset, .unset, .unset, .unset, .unset] [])
        refine Go.st (fun t k => XS.lloadN X0.here hx rfl (hb hby at_33) rfl k) ?_
        show Go _ _ _ _ T0 (mkF m 34 #[.val (.long q1), .second, .val (.long q2), .second, .val (.long q3), .second, .val (.int p4), .val (.int (p4 &&& (3 : Int32))), .unset, .unset, .unset, .unset, .unset] [(.long q2)])
        refine Go.st (fun t k => XS.lconst X0.here hx rfl (hb hby at_34) k) ?_
        show Go _ _ _ _ T0 (mkF m 35 #[.val (.long q1), .second, .val (.long q2), .second, .val (.long q3), .second, .val (.int p4), .val (.int (p4 &&& (3 : Int32))), .unset, .unset, .unset, .unset, .unset] [(.long (1 : Int64)), (.long q2)])
        refine Go.st (fun t k => XS.lsub X0.here hx rfl (hb hby at_35) rfl k) ?_
        show Go _ _ _ _ T0 (mkF m 36 #[.val (.long q1), .second, .val (.long q2), .second, .val (.long q3), .second, .val (.int p4), .val (.int (p4 &&& (3 : Int32))), .unset, .unset, .unset, .unset, .unset] [(.long (q2 - (1 : Int64)))])
        refine Go.st (fun t k => XS.lload X0.here hx rfl (hb hby at_36) rfl k) ?_
        show Go _ _ _ _ T0 (mkF m 38 #[.val (.long q1), .second, .val (.long q2), .second, .val (.long q3), .second, .val (.int p4), .val (.int (p4 &&& (3 : Int32))), .unset, .unset, .unset, .unset, .unset] [(.long q3), (.long (q2 - (1 : Int64)))])
        refine Go.st (X0.ldc2Long hx hown (mvT hZ (hw _ (List.mem_of_getElem? (i := 0) rfl))) (g := (mkF m 38 #[.val (.long q1), .second, .val (.long q2), .second, .val (.long q3), .second, .val (.int p4), .val (.int (p4 &&& (3 : Int32))), .unset, .unset, .unset, .unset, .unset] [(.long q3), (.long (q2 - (1 : Int64)))])) rfl (hb hby at_38)) ?_
        show Go _ _ _ _ T0 (mkF m 41 #[.val (.long q1), .second, .val (.long q2), .second, .val (.long q3), .second, .val (.int p4), .val (.int (p4 &&& (3 : Int32))), .unset, .unset, .unset, .unset, .unset] [(.long (3 : Int64)), (.long q3), (.long (q2 - (1 : Int64)))])
        refine Go.st (fun t k => XS.land X0.here hx rfl (hb hby at_41) rfl k) ?_
        show Go _ _ _ _ T0 (mkF m 42 #[.val (.long q1), .second, .val (.long q2), .second, .val (.long q3), .second, .val (.int p4), .val (.int (p4 &&& (3 : Int32))), .unset, .unset, .unset, .unset, .unset] [(.long (q3 &&& (3 : Int64))), (.long (q2 - (1 : Int64)))])
        refine Go.st (fun t k => XS.ladd X0.here hx rfl (hb hby at_42) rfl k) ?_
        show Go _ _ _ _ T0 (mkF m 43 #[.val (.long q1), .second, .val (.long q2), .second, .val (.long q3), .second, .val (.int p4), .val (.int (p4 &&& (3 : Int32))), .unset, .unset, .unset, .unset, .unset] [(.long ((q2 - (1 : Int64)) + (q3 &&& (3 : Int64))))])
        refine Go.st (fun t k => XS.lstore X0.here hx rfl (hb hby at_43) rfl (l' := #[.val (.long q1), .second, .val (.long q2), .second, .val (.long q3), .second, .val (.int p4), .val (.int (p4 &&& (3 : Int32))), .val (.long ((q2 - (1 : Int64)) + (q3 &&& (3 : Int64)))), .second, .unset, .unset, .unset]) rfl k) ?_
        show Go _ _ _ _ T0 (mkF m 45 #[.val (.long q1), .second, .val (.long q2), .second, .val (.long q3), .second, .val (.int p4), .val (.int (p4 &&& (3 : Int32))), .val (.long ((q2 - (1 : Int64)) + (q3 &&& (3 : Int64)))), .second, .unset, .unset, .unset] [])
        refine Go.st (fun t k => XS.goto X0.here hx rfl (pc0 := 45) (pc' := 52) rfl (hb hby at_45) (by decide) (by decide) k) ?_
        show Go _ _ _ _ T0 (mkF m 52 #[.val (.long q1), .second, .val (.long q2), .second, .val (.long q3), .second, .val (.int p4), .val (.int (p4 &&& (3 : Int32))), .val (.long ((q2 - (1 : Int64)) + (q3 &&& (3 : Int64)))), .second, .unset, .unset, .unset] [])
        exact J52 _
      ·
        refine Go.st (fun t k => XS.icmpYes X0.here hx rfl (pc0 := 30) (pc' := 48) rfl (hb hby at_30) rfl (feq hM2).2 (by decide) (by decide) k) ?_
        show Go _ _ _ _ T0 (mkF m 48 #[.val (.long q1), .second, .val (.long q2), .second, .val (.long q3), .second, .val (.int p4), .val (.int (p4 &&& (3 : Int32))), .unset, .unset, .unset, .unset, .unset] [])
        refine Go.st (fun t k => XS.lload X0.here hx rfl (hb hby at_48) rfl k) ?_
        show Go _ _ _ _ T0 (mkF m 50 #[.val (.long q1), .second, .val (.long q2), .second, .val (.long q3), .second, .val (.int p4), .val (.int (p4 &&& (3 : Int32))), .unset, .unset, .unset, .unset, .unset] [(.long q3)])
        refine Go.st (fun t k => XS.lstore X0.here hx rfl (hb hby at_50) rfl (l' := #[.val (.long q1), .second, .val (.long q2), .second, .val (.long q3), .second, .val (.int p4), .val (.int (p4 &&& (3 : Int32))), .val (.long q3), .second, .unset, .unset, .unset]) rfl k) ?_
        show Go _ _ _ _ T0 (mkF m 52 #[.val (.long q1), .second, .val (.long q2), .second, .val (.long q3), .second, .val (.int p4), .val (.int (p4 &&& (3 : Int32))), .val (.long q3), .second, .unset, .unset, .unset] [])
        exact J52 _
set_option maxRecDepth 65536 in
set_option maxHeartbeats 40000000 in
theorem comes_1 {Post : Tables → Env → Array Value → State → Outcome → State → Prop} (hpost : ∀ tb e args s v u, (limb_1_1.after args s (.returned v) u = true ∧ limb_1_2.after args s (.returned v) u = true ∧ True) → FrameEnd s (.returned v) u (Jvm.fieldLocs frame_1_writes args s ++ Jvm.arrayLocs frame_1_arrays args s ++ Jvm.staticLocs frame_1_statics s) 16 128 → Post tb e args s (.returned v) u) :
    ArmFor flags0 classFile x code maxLocals ret World_1 tables_1 room_1 Calls_1 rest_1 Pre_1 Post := by
  intro l hfl _ _ p e ha hc hk s m args below hf hA hF happ hP
  obtain ⟨hcalls, hrest, hpre⟩ := hP
  obtain ⟨-, -, -, hnamed, -, -, -, hat⟩ := (Spec.applies_iff hf).mp happ
  obtain ⟨hg, hn⟩ := and_e (Cond.before_iff.mp (show (Jvm.Cond.and given_1 narrow_1).before args s = true from hpre))
  obtain ⟨ga1, gb1⟩ := and_e hg
  obtain ⟨ga2, gb2⟩ := and_e gb1
  obtain ⟨ga3, gb3⟩ := and_e gb2
  obtain ⟨ga4, gb4⟩ := and_e gb3
  obtain ⟨w0, w1, w2, w3, rfl⟩ : ∃ w0 w1 w2 w3 : Value, args = #[w0, w1, w2, w3] := by
    have hs : args.size = 4 := by simpa [Cond.value, given_1] using ga1
    obtain ⟨L⟩ := args
    match L, hs with
    | [w0, w1, w2, w3], _ => exact ⟨w0, w1, w2, w3, rfl⟩
  have hw := fun d (hd : d ∈ tables_1) => atoms_spec (ws := Jvm.Cond.code x code maxLocals ret :: tables_1) hat d (List.mem_cons_of_mem _ hd)
  obtain ⟨i0, ei0⟩ := isL_v ga2
  obtain rfl : w0 = (.long i0) := Option.some.inj ei0
  obtain ⟨i1, ei1⟩ := isL_v ga3
  obtain rfl : w1 = (.long i1) := Option.some.inj ei1
  obtain ⟨i2, ei2⟩ := isL_v ga4
  obtain rfl : w2 = (.long i2) := Option.some.inj ei2
  obtain ⟨i3, ei3⟩ := is_v gb4
  obtain rfl : w3 = (.int i3) := Option.some.inj ei3
  obtain ⟨n, o, h1, h2, h3, _, L, rfl, ⟨rfl, N⟩, hq⟩ := rm0 l s _ hw i0 i1 i2 i3 s.heap s.heap.size (Nat.le_refl _)  tables_1 p e ha hc hk s m _ below hf ((Spec.applies_iff_loose hf).mp happ).1 ⟨rfl, State.Warmed39.refl s, rfl⟩ trivial
  refine ⟨n, _, h1, h2, h3, hpost _ _ _ _ _ _ ⟨Cond.after_iff.mpr rfl, Cond.after_iff.mpr (eq_i res_at (Term.int_eval (1)) rfl), trivial⟩ ⟨hq.1, hq.2.1, (hq.2.2.sift fun y hy => Or.inr (N y hy)).mono (by decide) (by decide)⟩⟩
theorem main_1_1 : Claimed_1_1 := comes_1 fun _ _ _ _ _ _ h hF => ⟨h.1, hF⟩
theorem main_1_2 : Claimed_1_2 := comes_1 fun _ _ _ _ _ _ h hF => ⟨h.2.1, hF⟩
end Jvm.Pilot.@@N@@
namespace Jvm.Pilot.@@N@@
open Jvm Jvm.ClassFile Sem Op Lib Jvm.Free Jvm.Stand Jvm.Pilot.@@N@@.Jvm.D
/-! MADE BY PROGRAM (witnessworld.py) out of the Statement's table words and the real class files: 10 classes; the members and pool entries that the words name. The judged class is class 1, her method 2. -/
namespace start1
open Jvm.ClassFile
def u (s : String) : CpInfo := .utf8 (stringToUtf16 s)
/-- a pool by its gaps: so many unusable entries, then the entry; so many at the end -/
def gap : Nat → List CpInfo → List CpInfo
  | 0, r => r
  | n + 1, r => .unusable :: gap n r
def poolList (es : List (Nat × CpInfo)) (last : Nat) : List CpInfo := es.foldr (fun e r => gap e.1 (e.2 :: r)) (gap last [])
def pool (es : List (Nat × CpInfo)) (last : Nat) : Array CpInfo := ⟨poolList es last⟩
def fileOf (pool : Array CpInfo) (this : Nat) (attrs : Array Attribute := #[]) (ms : Array MethodInfo := #[]) (fl : Nat := 33) (sup : Nat := 0) (ifs : Array Nat := #[]) (fds : Array FieldInfo := #[]) : ClassFile where
  minorVersion := 0
  majorVersion := 65
  constantPool := pool
  accessFlags := fl
  thisClass := this
  superClass := sup
  interfaces := ifs
  fields := fds
  methods := ms
  attributes := attrs
def plain (name : String) (sup : Option ClassId) : Class where
  name := name
  kind := .ordinary
  loader := none
  accessFlags := 33
  super := sup
  interfaces := #[]
  cf := none
  fields := #[]
  methods := #[]
  instanceTypes := #[]
  staticTypes := #[]
  resolved := #[]
  callSites := []
  init := .initialized
  statics := none
  mirror := none

def pool0 : Array CpInfo := pool [(5, u "<init>"), (0, u "()V"), (1, .class_ 10), (1, u "java/lang/Object")] 113

def k0c0 : Code := { maxStack := 0, maxLocals := 1, code := object_method_1_code, exceptionTable := #[], attributes := #[] }
def k0m0 : Method := { name := "<init>", desc := "()V", sig := { parameters := [], returnType := none }, accessFlags := 1, code := some k0c0 }
/-- java/lang/Object -/
def k0 : Class := { plain "java/lang/Object" none with
  accessFlags := 33
  interfaces := #[]
  cf := some (fileOf pool0 8 #[] #[{ accessFlags := 1, nameIndex := 5, descriptorIndex := 6, attributes := #[] }] 33 0 #[] #[])
  fields := #[]
  methods := #[k0m0]
  instanceTypes := #[]
  staticTypes := #[]
  resolved := Array.replicate 124 none
  statics := none }

def pool1 : Array CpInfo := pool [(2, .class_ 4), (1, u "java/lang/Object"), (0, u "<init>"), (0, u "()V"), (2, .long 9223372036854775808), (1, .long 3), (1, .class_ 14), (0, u "com/example/counterpath/counterpath/model/Interval"), (0, .methodref 13 16), (0, .nameAndType 5 17), (0, u "(JJ)V"), (0, .methodref 13 19), (0, .nameAndType 20 21), (0, u "contains"), (0, u "(J)Z"), (0, .methodref 23 24), (0, .class_ 25), (0, .nameAndType 26 27), (0, u "com/example/counterpath/counterpath/model/IntervalContainsPinLaw"), (0, u "unsignedLe"), (0, u "(JJ)Z"), (3, u "law"), (0, u "(JJJI)Z")] 2

def k1m0 : Method := { name := "<init>", desc := "()V", sig := { parameters := [], returnType := none }, accessFlags := 1, code := none }
def k1c1 : Code := { maxStack := 6, maxLocals := 4, code := method_2_code, exceptionTable := #[], attributes := #[] }
def k1m1 : Method := { name := "unsignedLe", desc := "(JJ)Z", sig := { parameters := [.long, .long], returnType := some .boolean }, accessFlags := 10, code := some k1c1 }
def k1c2 : Code := { maxStack := 6, maxLocals := 13, code := code, exceptionTable := #[], attributes := #[] }
def k1m2 : Method := { name := "law", desc := "(JJJI)Z", sig := { parameters := [.long, .long, .long, .int], returnType := some .boolean }, accessFlags := 9, code := some k1c2 }
/-- com/example/counterpath/counterpath/model/IntervalContainsPinLaw -/
def k1 : Class := { plain "com/example/counterpath/counterpath/model/IntervalContainsPinLaw" (some 0) with
  accessFlags := 49
  interfaces := #[]
  cf := some (fileOf pool1 23 #[] #[{ accessFlags := 1, nameIndex := 5, descriptorIndex := 6, attributes := #[] }, { accessFlags := 10, nameIndex := 26, descriptorIndex := 27, attributes := #[] }, { accessFlags := 9, nameIndex := 31, descriptorIndex := 32, attributes := #[] }] 49 2 #[] #[])
  fields := #[]
  methods := #[k1m0, k1m1, k1m2]
  instanceTypes := #[]
  staticTypes := #[]
  resolved := Array.replicate 35 none
  statics := none }

def pool2 : Array CpInfo := pool [(1, .methodref 2 3), (0, .class_ 4), (0, .nameAndType 5 6), (0, u "java/lang/Object"), (0, u "<init>"), (0, u "()V"), (0, .class_ 8), (0, u "java/lang/Record")] 13

def k2c0 : Code := { maxStack := 1, maxLocals := 1, code := jdk_30_method_1_code, exceptionTable := #[], attributes := #[] }
def k2m0 : Method := { name := "<init>", desc := "()V", sig := { parameters := [], returnType := none }, accessFlags := 4, code := some k2c0 }
/-- java/lang/Record -/
def k2 : Class := { plain "java/lang/Record" (some 0) with
  accessFlags := 1057
  interfaces := #[]
  cf := some (fileOf pool2 7 #[] #[{ accessFlags := 4, nameIndex := 5, descriptorIndex := 6, attributes := #[] }] 1057 2 #[] #[])
  fields := #[]
  methods := #[k2m0]
  instanceTypes := #[]
  staticTypes := #[]
  resolved := Array.replicate 22 none
  statics := none }

def pool3 : Array CpInfo := pool [(1, .methodref 2 3), (0, .class_ 4), (0, .nameAndType 5 6), (0, u "java/lang/Record"), (0, u "<init>"), (0, u "()V"), (0, .fieldref 8 9), (0, .class_ 10), (0, .nameAndType 11 12), (0, u "com/example/counterpath/counterpath/model/Interval"), (0, u "lower"), (0, u "J"), (0, .fieldref 8 14), (0, .nameAndType 15 12), (0, u "upper"), (2, u "contains"), (0, u "(J)Z"), (8, u "(JJ)V"), (41, u "BOOLEAN"), (0, u "Lcom/example/counterpath/counterpath/model/Interval;")] 48

def k3c0 : Code := { maxStack := 3, maxLocals := 5, code := prog_163_method_1_code, exceptionTable := #[], attributes := #[] }
def k3m0 : Method := { name := "<init>", desc := "(JJ)V", sig := { parameters := [.long, .long], returnType := none }, accessFlags := 1, code := some k3c0 }
def k3c1 : Code := { maxStack := 4, maxLocals := 3, code := prog_163_method_2_code, exceptionTable := #[], attributes := #[] }
def k3m1 : Method := { name := "contains", desc := "(J)Z", sig := { parameters := [.long], returnType := some .boolean }, accessFlags := 1, code := some k3c1 }
/-- com/example/counterpath/counterpath/model/Interval -/
def k3 : Class := { plain "com/example/counterpath/counterpath/model/Interval" (some 2) with
  accessFlags := 49
  interfaces := #[]
  cf := some (fileOf pool3 8 #[] #[{ accessFlags := 1, nameIndex := 5, descriptorIndex := 28, attributes := #[] }, { accessFlags := 1, nameIndex := 18, descriptorIndex := 19, attributes := #[] }] 49 2 #[] #[{ accessFlags := 18, nameIndex := 11, descriptorIndex := 12, attributes := #[] }, { accessFlags := 18, nameIndex := 15, descriptorIndex := 12, attributes := #[] }, { accessFlags := 25, nameIndex := 70, descriptorIndex := 71, attributes := #[] }])
  fields := #[{ name := "lower", type := .long, accessFlags := 18, slot := 0, constantValue := 0 }, { name := "upper", type := .long, accessFlags := 18, slot := 1, constantValue := 0 }, { name := "BOOLEAN", type := (.object "com/example/counterpath/counterpath/model/Interval"), accessFlags := 25, slot := 0, constantValue := 0 }]
  methods := #[k3m0, k3m1]
  instanceTypes := #[.long, .long]
  staticTypes := #[(.object "com/example/counterpath/counterpath/model/Interval")]
  resolved := Array.replicate 120 none
  statics := none }

def pool4 : Array CpInfo := pool [(1, u "java/lang/Cloneable"), (0, .class_ 1), (0, u "java/lang/Object"), (0, .class_ 3)] 3

/-- java/lang/Cloneable -/
def k4 : Class := { plain "java/lang/Cloneable" (some 0) with
  accessFlags := 1537
  interfaces := #[]
  cf := some (fileOf pool4 2 #[] #[] 1537 4 #[] #[])
  fields := #[]
  methods := #[]
  instanceTypes := #[]
  staticTypes := #[]
  resolved := Array.replicate 8 none
  statics := none }

def pool5 : Array CpInfo := pool [(1, u "java/io/Serializable"), (0, .class_ 1), (0, u "java/lang/Object"), (0, .class_ 3)] 3

/-- java/io/Serializable -/
def k5 : Class := { plain "java/io/Serializable" (some 0) with
  accessFlags := 1537
  interfaces := #[]
  cf := some (fileOf pool5 2 #[] #[] 1537 4 #[] #[])
  fields := #[]
  methods := #[]
  instanceTypes := #[]
  staticTypes := #[]
  resolved := Array.replicate 8 none
  statics := none }

/-- the primitive byte -/
def k6 : Class := { plain "byte" none with kind := .primitive 'B', accessFlags := 0x411 }
/-- [B -/
def k7 : Class := { plain "[B" (some 0) with kind := .array 6 .byte, interfaces := #[4, 5], accessFlags := 1041 }

/-- the primitive int -/
def k8 : Class := { plain "int" none with kind := .primitive 'I', accessFlags := 0x411 }
/-- [I -/
def k9 : Class := { plain "[I" (some 0) with kind := .array 8 .int, interfaces := #[4, 5], accessFlags := 1041 }

def heap : Heap := #[]
def classes : Array Class := #[k0, k1, k2, k3, k4, k5, k6, k7, k8, k9]
def interned : List (Array UInt16 × Addr) := []
def slotsUsed : Nat := 0
def theMethod : MethodId := ⟨1, 2⟩
def args0 : Array Value := #[.long 5, .long 7, .long 6, .int 0]
def aboutOver (below : List Frame) : State where
  vm := { classes := classes, interned := interned.toArray }
  heap := heap
  slotsUsed := slotsUsed
  threads := #[{ frames := .invoking theMethod args0 :: below }]
def below0 : List Frame := [.native { method := ⟨0, 0⟩, args := #[] }]
def about1 : State := aboutOver below0
def p0 : Program := .bare "" "" ""
def e0 : Env := launch0.env 0 0 0
theorem w_frames : about1.frames = Frame.invoking theMethod args0 :: below0 := rfl
set_option maxRecDepth 65536 in
theorem w_args : argsFit about1.vm theMethod args0 = true := by decide +kernel
set_option maxRecDepth 65536 in
theorem w_heap : heapFits about1 = true := by decide +kernel
set_option maxRecDepth 65536 in
theorem w_runnable : about1.curStatus? = some .runnable := by decide +kernel
set_option maxRecDepth 65536 in
theorem w_alone : about1.alone = true := by decide +kernel
set_option maxRecDepth 65536 in
theorem w_named : about1.methodNamed? x = some theMethod := by decide +kernel
set_option maxRecDepth 65536 in
theorem w_hears : about1.hears theMethod below0 = true := by decide +kernel
set_option maxRecDepth 65536 in
theorem w_ripe : about1.ripe theMethod args0 below0 = true := by decide +kernel
theorem w_running : about1.status = .running := rfl
set_option maxRecDepth 65536 in
theorem w_room : about1.hasRoom e0.platform room_1 = true :=
  launch0.hasRoom_least _ room_1 (by decide +kernel) (by decide +kernel) (by decide +kernel) (by decide +kernel) (by decide +kernel) (by decide +kernel)
theorem allAtoms_all (ts : List Jvm.Cond) (a : Array Jvm.Value) (st : Jvm.State) : (allAtoms ts).before a st = ts.all (fun c => c.before a st) := by
  induction ts with
  | nil => rfl
  | cons c t ih =>
    show (Jvm.Cond.and c (allAtoms t)).before a st = _
    rw [Jvm.Cond.before_and, ih, List.all_cons]
def words1 : List Jvm.Cond := Jvm.Cond.code x code maxLocals ret :: tables_1
/-- a 'code' word, met by the world's own term for the bytes: nothing is compared byte by byte -/
theorem code_word {y : MethodName} {bytes : ByteArray} {mx : Nat} {rt : Option FieldType} {a : Array Value} {s : State} {m : MethodId} {meth : Method} {c : Code} (h1 : s.methodNamed? y = some m) (h2 : s.vm.method? m = some meth) (h3 : meth.code = some c) (h4 : c.code = bytes)
    (h5 : (c.maxLocals == mx && c.exceptionTable.isEmpty && decide (c.maxStack ≤ mostOperands) && decide (meth.sig.returnType = rt) && !meth.locks && decide (parseMethodDescriptor y.desc = some meth.sig)) = true) : (Jvm.Cond.code y bytes mx rt).before a s = true := by
  simp only [Bool.and_eq_true, beq_iff_eq, Bool.not_eq_true', decide_eq_true_eq] at h5
  obtain ⟨⟨⟨⟨⟨g1, g2⟩, g3⟩, g4⟩, g5⟩, g6⟩ := h5
  simp [Cond.before, Cond.holds, Cond.value, h1, h2, h3, h4, g1, g2, g3, g4, g5, g6]
def isCode : Jvm.Cond → Bool
  | .code _ _ _ _ => true
  | _ => false
theorem all_split {L : List Jvm.Cond} {P : Jvm.Cond → Bool} (h1 : L.all (fun c => isCode c || P c) = true) (h2 : ∀ c ∈ L.filter isCode, P c = true) : L.all P = true := by
  refine List.all_eq_true.mpr fun c hc => ?_
  have h := List.all_eq_true.mp h1 c hc
  rcases Bool.eq_false_or_eq_true (isCode c) with hi | hi
  · exact h2 c (List.mem_filter.mpr ⟨hc, hi⟩)
  · simpa [hi] using h
set_option maxRecDepth 65536 in
theorem w_c0 : (Jvm.Cond.code x code maxLocals ret).before args0 about1 = true := code_word (m := ⟨1, 2⟩) (meth := k1m2) (c := k1c2) (by decide +kernel) rfl rfl rfl (by decide +kernel)
set_option maxRecDepth 65536 in
theorem w_c1 : (Jvm.Cond.code ({ cls := "com/example/counterpath/counterpath/model/Interval", name := "<init>", desc := "(JJ)V" } : Jvm.MethodName) prog_163_method_1_code (5 : Nat) (Option.none : Option Jvm.ClassFile.FieldType)).before args0 about1 = true := code_word (m := ⟨3, 0⟩) (meth := k3m0) (c := k3c0) (by decide +kernel) rfl rfl rfl (by decide +kernel)
set_option maxRecDepth 65536 in
theorem w_c2 : (Jvm.Cond.code ({ cls := "java/lang/Record", name := "<init>", desc := "()V" } : Jvm.MethodName) jdk_30_method_1_code (1 : Nat) (Option.none : Option Jvm.ClassFile.FieldType)).before args0 about1 = true := code_word (m := ⟨2, 0⟩) (meth := k2m0) (c := k2c0) (by decide +kernel) rfl rfl rfl (by decide +kernel)
set_option maxRecDepth 65536 in
theorem w_c3 : (Jvm.Cond.code ({ cls := "java/lang/Object", name := "<init>", desc := "()V" } : Jvm.MethodName) object_method_1_code (1 : Nat) (Option.none : Option Jvm.ClassFile.FieldType)).before args0 about1 = true := code_word (m := ⟨0, 0⟩) (meth := k0m0) (c := k0c0) (by decide +kernel) rfl rfl rfl (by decide +kernel)
set_option maxRecDepth 65536 in
theorem w_c4 : (Jvm.Cond.code ({ cls := "com/example/counterpath/counterpath/model/Interval", name := "contains", desc := "(J)Z" } : Jvm.MethodName) prog_163_method_2_code (3 : Nat) (Option.some Jvm.ClassFile.FieldType.boolean)).before args0 about1 = true := code_word (m := ⟨3, 1⟩) (meth := k3m1) (c := k3c1) (by decide +kernel) rfl rfl rfl (by decide +kernel)
set_option maxRecDepth 65536 in
theorem w_c5 : (Jvm.Cond.code ({ cls := "com/example/counterpath/counterpath/model/IntervalContainsPinLaw", name := "unsignedLe", desc := "(JJ)Z" } : Jvm.MethodName) method_2_code (4 : Nat) (Option.some Jvm.ClassFile.FieldType.boolean)).before args0 about1 = true := code_word (m := ⟨1, 1⟩) (meth := k1m1) (c := k1c1) (by decide +kernel) rfl rfl rfl (by decide +kernel)
def codes1 : List Jvm.Cond := [Jvm.Cond.code x code maxLocals ret, Jvm.Cond.code ({ cls := "com/example/counterpath/counterpath/model/Interval", name := "<init>", desc := "(JJ)V" } : Jvm.MethodName) prog_163_method_1_code (5 : Nat) (Option.none : Option Jvm.ClassFile.FieldType), Jvm.Cond.code ({ cls := "java/lang/Record", name := "<init>", desc := "()V" } : Jvm.MethodName) jdk_30_method_1_code (1 : Nat) (Option.none : Option Jvm.ClassFile.FieldType), Jvm.Cond.code ({ cls := "java/lang/Object", name := "<init>", desc := "()V" } : Jvm.MethodName) object_method_1_code (1 : Nat) (Option.none : Option Jvm.ClassFile.FieldType), Jvm.Cond.code ({ cls := "com/example/counterpath/counterpath/model/Interval", name := "contains", desc := "(J)Z" } : Jvm.MethodName) prog_163_method_2_code (3 : Nat) (Option.some Jvm.ClassFile.FieldType.boolean), Jvm.Cond.code ({ cls := "com/example/counterpath/counterpath/model/IntervalContainsPinLaw", name := "unsignedLe", desc := "(JJ)Z" } : Jvm.MethodName) method_2_code (4 : Nat) (Option.some Jvm.ClassFile.FieldType.boolean)]
set_option maxRecDepth 65536 in
theorem codes_eq : words1.filter isCode = codes1 := rfl
theorem w_codes : ∀ c ∈ words1.filter isCode, c.before args0 about1 = true := by
  rw [codes_eq]
  intro c hc
  simp only [codes1, List.mem_cons, List.not_mem_nil, or_false] at hc
  rcases hc with rfl | rfl | rfl | rfl | rfl | rfl
  · exact w_c0
  · exact w_c1
  · exact w_c2
  · exact w_c3
  · exact w_c4
  · exact w_c5
set_option maxRecDepth 65536 in
theorem w_t1 : (words1.take 24).all (fun c => isCode c || c.before args0 about1) = true := by decide +kernel
set_option maxRecDepth 65536 in
theorem w_t2 : (words1.drop 24).all (fun c => isCode c || c.before args0 about1) = true := by decide +kernel
theorem w_tables : (allAtoms (Jvm.Cond.code x code maxLocals ret :: tables_1)).before args0 about1 = true := by
  rw [allAtoms_all]
  show words1.all (fun c => c.before args0 about1) = true
  refine all_split ?_ w_codes
  rw [← List.take_append_drop 24 words1, List.all_append, w_t1, w_t2]
  rfl
set_option maxRecDepth 65536 in
theorem w_case : (Jvm.Cond.and given_1 narrow_1).before args0 about1 = true := by decide +kernel
theorem w_applies : (headSpec (Jvm.Cond.code x code maxLocals ret :: tables_1) room_1).applies x e0.platform about1 = true :=
  (Spec.applies_iff w_frames).mpr ⟨w_running, w_runnable, w_alone, w_named, w_hears, w_ripe, w_room, w_tables⟩
theorem atStart : AtStart classFile x code maxLocals ret World_1 tables_1 room_1 Calls_1 rest_1 Pre_1 launch0 p0 e0 about1 theMethod args0 below0 :=
  ⟨lists_1, trivial, launch0.admits_env _ _ _, launch0.least_env, fairChoices_fair.cas, fairChoices_fair.clock, w_frames, w_args, w_heap, w_applies, trivial, trivial, w_case⟩
end start1
theorem witness_1 : WitnessClaimed_1 := ⟨start1.p0, start1.e0, start1.about1, start1.theMethod, start1.args0, start1.below0, start1.atStart⟩
end Jvm.Pilot.@@N@@
