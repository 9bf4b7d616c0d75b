import JvmDerived
import JvmDerived.Pilot.@@N@@Statement
import JvmDerived.Pilot.@@N@@Code
set_option linter.unusedVariables false
set_option linter.unusedSimpArgs false
@@BLOCK:HandJ.lean.txt@@
@@BLOCK:SymMore.lean.txt@@
@@BLOCK:NumsL.lean.txt@@
namespace Jvm.Pilot.@@N@@
open Jvm Jvm.ClassFile Sem Op Lib Jvm.Free Jvm.Stand Jvm.LawKit Jvm.RoadKit Bundle Jvm.Pilot.@@N@@.Jvm.D

/-! OWN KIT: the walk in continuation form; arrays by their cell as functions of the place -/
section OwnKit
variable {p : Program} {l : Launch} {e : Env} {R : Room} {s : State} {m : MethodId} {args : Array Value} {below : List Frame} {meth : Method} {c : Code} {T : State} {locs : List Loc} {cells slots : Nat} {Z : State} {a0 : Array Value} {h h' h0 : Heap} {a b : Addr} {v : Value} {sl : Nat} {ty : FieldType} {n k : Nat} {f f' : Nat → Value} {n0 : Nat} {ws : List Addr}
/-- from this state with this top frame the run ends as F says -/
def Go (tb : Tables) (e : Env) (below : List Frame) (F : Outcome → State → Prop) (T : State) (g : JFrame) : Prop :=
  ∃ s₂ o, Steps tb e below (T.setTop g) s₂ ∧ s₂.status = .running ∧ Ended s₂ below o ∧ F o s₂
theorem Go.st {tb : Tables} {F : Outcome → State → Prop} {T T' : State} {g g' : JFrame} (st : ∀ t, Steps tb e below (T'.setTop g') t → Steps tb e below (T.setTop g) t) (k : Go tb e below F T' g') : Go tb e below F T g := by
  obtain ⟨s₂, o, h1, h2⟩ := k
  exact ⟨s₂, o, st _ h1, h2⟩
theorem Go.frame {tb : Tables} {F : Outcome → State → Prop} {T : State} {g g' : JFrame} (q : g = g') (k : Go tb e below F T g') : Go tb e below F T g := q ▸ k
theorem own_join {α : Type} {tb : Tables} {F : Outcome → State → Prop} {T T2 : State} {g : α → JFrame} {g2 : JFrame} (J : ∀ z, Go tb e below F T (g z)) (k : (∀ z, Go tb e below F T (g z)) → Go tb e below F T2 g2) : Go tb e below F T2 g2 := k J
/-- what a body's end must say -/
def Fi (s : State) (Q : Option Value → Heap → List Loc → Prop) (k n : Nat) (o : Outcome) (U : State) : Prop :=
  ∃ v L, o = .returned v ∧ Q v U.heap L ∧ FrameEnd s o U L k n
/-- a body's contract: called with these values at this heap it returns and Q holds -/
def Does (l : Launch) (Z : State) (y : MethodName) (bytes : ByteArray) (mx : Nat) (ret : Option FieldType) (rm : Room) (as' : Array Value) (h : Heap) (Q : Option Value → Heap → List Loc → Prop) : Prop :=
  ∀ ws, MetFree l y (head1 (Jvm.Cond.code y bytes mx ret :: ws) rm) (fun a U => a = as' ∧ Z.Warmed39 U.vm ∧ U.heap = h) (fun _ _ _ _ _ => True) (fun _ U o U' => Fi U Q rm.cells rm.slots o U')
theorem Does.body {y : MethodName} {bytes : ByteArray} {mx : Nat} {ret : Option FieldType} {rm : Room} {as' : Array Value} {h : Heap} {Q : Option Value → Heap → List Loc → Prop} (hy : plainFor y = true)
    (B : ∀ (p : Program) (e : Env) (s : State) (m : MethodId) (below : List Frame) (meth : Method) (c : Code) (T : State), Stand p l e rm s m as' below meth c T [] 0 0 → p.tables.exec = Jvm.exec → Z.Warmed39 s.vm → c.code = bytes → c.maxLocals = mx → s.vm.findClass y.cls = some m.cls → meth.name = y.name → meth.sig.returnType = ret → meth.locks = false → T.heap = h → Go p.tables e below (Fi s Q rm.cells rm.slots) T (entryFrame m as' mx)) : Does l Z y bytes mx ret rm as' h Q := fun ws => by
  refine MetFree.of_bodySF hy hisR ?_
  intro p e s m args below meth c s₁ Bd hml0 hP hK
  obtain ⟨ha, hZ, hh⟩ := hP
  subst ha
  exact B p e s m below meth c s₁ (Stand.of_body Bd) Bd.exec hZ Bd.bytes hml0 (findClass_of_methodNamed Bd.named) (name_of_methodNamed Bd.named Bd.method).1 Bd.returns Bd.notSynchronized (by rw [← hh, Bd.state]; rfl)
/-! the returns -/
theorem goI (X : Stand p l e R s m args below meth c T locs cells slots) (hx : p.tables.exec = Jvm.exec) (hret : meth.sig.returnType = some .int) (hlk : meth.locks = false) {pc : Nat} {Ls : Array Slot} {z : Int32} {rest : List Value} (hd : decode c.code pc = .ok (.ireturn, 1)) {Q : Option Value → Heap → List Loc → Prop} {k n : Nat} (hk : cells ≤ k) (hn : slots ≤ n) (q : Q (some (.int z)) T.heap locs) :
    Go p.tables e below (Fi s Q k n) T (mkF m pc Ls (.int z :: rest)) := by
  obtain ⟨fs, hr, hrun, hended, hW, hsame⟩ := X.leave (v := some (.int z)) (fun h => by rw [hret] at h; cases h) hlk
  exact ⟨_, _, retOut X hx hret rfl (Or.inl ⟨rfl, Or.inl rfl, z, rfl⟩) hd hr, hrun, hended, _, _, rfl, q, ⟨_, rfl⟩, hW, hsame.mono hk hn⟩
theorem goN (X : Stand p l e R s m args below meth c T locs cells slots) (hx : p.tables.exec = Jvm.exec) {t : FieldType} (hret : meth.sig.returnType = some t) (hlk : meth.locks = false) (ht : t = .boolean ∨ t = .byte ∨ t = .char ∨ t = .short) {pc : Nat} {Ls : Array Slot} {z : Int32} {rest : List Value} (hd : decode c.code pc = .ok (.ireturn, 1)) {Q : Option Value → Heap → List Loc → Prop} {k n : Nat} (hk : cells ≤ k) (hn : slots ≤ n) (q : Q (some (.int (nar t z))) T.heap locs) :
    Go p.tables e below (Fi s Q k n) T (mkF m pc Ls (.int z :: rest)) := by
  obtain ⟨fs, hr, hrun, hended, hW, hsame⟩ := X.leave (v := some (.int (nar t z))) (fun h => by rw [hret] at h; cases h) hlk
  exact ⟨_, _, retN X hx hret ht hd hr, hrun, hended, _, _, rfl, q, ⟨_, rfl⟩, hW, hsame.mono hk hn⟩
theorem goJ (X : Stand p l e R s m args below meth c T locs cells slots) (hx : p.tables.exec = Jvm.exec) (hret : meth.sig.returnType = some .long) (hlk : meth.locks = false) {pc : Nat} {Ls : Array Slot} {z : Int64} {rest : List Value} (hd : decode c.code pc = .ok (.lreturn, 1)) {Q : Option Value → Heap → List Loc → Prop} {k n : Nat} (hk : cells ≤ k) (hn : slots ≤ n) (q : Q (some (.long z)) T.heap locs) :
    Go p.tables e below (Fi s Q k n) T (mkF m pc Ls (.long z :: rest)) := by
  obtain ⟨fs, hr, hrun, hended, hW, hsame⟩ := X.leave (v := some (.long z)) (fun h => by rw [hret] at h; cases h) hlk
  exact ⟨_, _, retOut X hx hret rfl (Or.inr (Or.inl ⟨rfl, rfl, z, rfl⟩)) hd hr, hrun, hended, _, _, rfl, q, ⟨_, rfl⟩, hW, hsame.mono hk hn⟩
theorem goA (X : Stand p l e R s m args below meth c T locs cells slots) (hx : p.tables.exec = Jvm.exec) {t : FieldType} (hret : meth.sig.returnType = some t) (hlk : meth.locks = false) (ht : t.isReference = true) (hnr : ∀ z : Addr, narrow t (.ref z) = .ref z) {pc : Nat} {Ls : Array Slot} {z : Addr} {rest : List Value} (hd : decode c.code pc = .ok (.areturn, 1)) {Q : Option Value → Heap → List Loc → Prop} {k n : Nat} (hk : cells ≤ k) (hn : slots ≤ n) (q : Q (some (.ref z)) T.heap locs) :
    Go p.tables e below (Fi s Q k n) T (mkF m pc Ls (.ref z :: rest)) := by
  obtain ⟨fs, hr, hrun, hended, hW, hsame⟩ := X.leave (v := some (.ref z)) (fun h => by rw [hret] at h; cases h) hlk
  exact ⟨_, _, retOut X hx hret (hnr z) (Or.inr (Or.inr (Or.inr (Or.inr ⟨rfl, ht, rfl⟩)))) hd hr, hrun, hended, _, _, rfl, q, ⟨_, rfl⟩, hW, hsame.mono hk hn⟩
theorem goV (X : Stand p l e R s m args below meth c T locs cells slots) (hx : p.tables.exec = Jvm.exec) (hret : meth.sig.returnType = none) (hlk : meth.locks = false) {pc : Nat} {Ls : Array Slot} (hd : decode c.code pc = .ok (.return_, 1)) {Q : Option Value → Heap → List Loc → Prop} {k n : Nat} (hk : cells ≤ k) (hn : slots ≤ n) (q : Q none T.heap locs) :
    Go p.tables e below (Fi s Q k n) T (mkF m pc Ls []) := by
  obtain ⟨fs, hr, hrun, hended, hW, hsame⟩ := X.leave (v := none) (fun _ => rfl) hlk
  exact ⟨_, _, X.returnOut hx hret hd hr, hrun, hended, _, _, rfl, q, ⟨_, rfl⟩, hW, hsame.mono hk hn⟩
/-! the calls -/
theorem own_one {k : Nat} {L : List Loc} (N : Fr k L) (q : k ≤ a) : Fr k (L ++ [⟨a, sl⟩]) := N.app fun y hy => by cases List.mem_singleton.mp hy; exact q
theorem goS (X : Stand p l e R s m args below meth c T locs cells slots) (hx : p.tables.exec = Jvm.exec) (hZ : Z.Warmed39 s.vm) {own : String} {index : Nat} {y : MethodName} {bytes : ByteArray} {mx : Nat} {ret : Option FieldType} (hown : s.vm.findClass own = some m.cls)
    (w1 : (Jvm.Cond.methodLink own index y).before a0 Z = true) (w2 : (Jvm.Cond.static y).before a0 Z = true) (w3 : (Jvm.Cond.initialized y.cls).before a0 Z = true) (w4 : (Jvm.Cond.code y bytes mx ret).before a0 Z = true) (hy : y.cls ≠ "java/lang/invoke/MethodHandle" ∧ y.cls ≠ "java/lang/invoke/VarHandle")
    {rm : Room} {as' : Array Value} {Q : Option Value → Heap → List Loc → Prop} (D : Does l Z y bytes mx ret rm as' h Q) (eT : T.heap = h) (N : Fr n0 locs) (W : Nat) (hf : rm.frames + 1 ≤ R.frames) (hl : W + (mx + 11) + rm.locals ≤ R.locals) (hc : cells + rm.cells ≤ R.cells) (hs : slots + rm.slots ≤ R.slots)
    {g : JFrame} (hg : g.method = m) (hsize : g.locals.size = c.maxLocals) (argsL rest : List Value) (hlen : ∀ sig, parseMethodDescriptor y.desc = some sig → argsL.length = sig.parameters.length) (has : argsL.toArray = as')
    (hstack : g.stack = argsL.reverse ++ rest) (hW : 2 * g.monitorRoom + (rest.map fun v => v.category).sum ≤ W) (hd : decode c.code g.pc = .ok (.invokestatic index, 3)) {F : Outcome → State → Prop}
    (kk : ∀ (T' : State) (v : Option Value) (L L' : List Loc), Stand p l e R s m args below meth c T' L' (cells + rm.cells) (slots + rm.slots) → (Fr n0 L → Fr n0 L') → Q v T'.heap L → Go p.tables e below F T' { g with pc := g.pc + 3, stack := v.toList ++ rest }) : Go p.tables e below F T g := by
  obtain ⟨v, _, ⟨T', L', k', n'⟩, -, X', ⟨L, hq, e1, e2, e3⟩, st⟩ := Jvm.LawKit.callS X hx hown (mvT hZ w1) (mvT hZ w2) (mvT hZ w3) (mvT hZ w4) hy (backOf (W := W) (Q := Q) (D []) hZ w4 w3 hf hl) hg hsize hlen hstack hW hd (fun _ _ => ⟨has, eT, hc, hs⟩)
  dsimp only [Pt.U, Pt.locs, Pt.cells, Pt.slots] at X' e1 e2 e3 st hq
  subst e1 e2 e3
  exact Go.st st (kk T' v L _ X' (fun q => N.app q) hq)
theorem goM (X : Stand p l e R s m args below meth c T locs cells slots) (hx : p.tables.exec = Jvm.exec) (hZ : Z.Warmed39 s.vm) {own C : String} {index : Nat} {y z : MethodName} {bytes : ByteArray} {mx : Nat} {ret : Option FieldType} (hown : s.vm.findClass own = some m.cls)
    (w1 : (Jvm.Cond.methodLink own index y).before a0 Z = true) (w2 : (Jvm.Cond.declares y).before a0 Z = true) (w3 : (Jvm.Cond.selects C y z).before a0 Z = true) (w4 : (Jvm.Cond.instanceMethod z).before a0 Z = true) (w5 : (Jvm.Cond.code z bytes mx ret).before a0 Z = true) (w6 : (Jvm.Cond.initialized z.cls).before a0 Z = true) (hnf : NotFace s y) (hy : y.cls ≠ "java/lang/invoke/MethodHandle" ∧ y.cls ≠ "java/lang/invoke/VarHandle")
    {rm : Room} {as' : Array Value} {Q : Option Value → Heap → List Loc → Prop} (D : Does l Z z bytes mx ret rm as' h Q) (eT : T.heap = h) (N : Fr n0 locs) (E : Exa Z h b C) (W : Nat) (hf : rm.frames + 1 ≤ R.frames) (hl : W + (mx + 11) + rm.locals ≤ R.locals) (hc : cells + rm.cells ≤ R.cells) (hs : slots + rm.slots ≤ R.slots)
    {g : JFrame} (hg : g.method = m) (hsize : g.locals.size = c.maxLocals) (argsL rest : List Value) (hlen : ∀ sig, parseMethodDescriptor y.desc = some sig → argsL.length = sig.parameters.length) (has : (.ref b :: argsL).toArray = as')
    (hstack : g.stack = argsL.reverse ++ .ref b :: rest) (hW : 2 * g.monitorRoom + (rest.map fun v => v.category).sum ≤ W) (hd : decode c.code g.pc = .ok (.invokevirtual index, 3)) {F : Outcome → State → Prop}
    (kk : ∀ (T' : State) (v : Option Value) (L L' : List Loc), Stand p l e R s m args below meth c T' L' (cells + rm.cells) (slots + rm.slots) → (Fr n0 L → Fr n0 L') → Q v T'.heap L → Go p.tables e below F T' { g with pc := g.pc + 3, stack := v.toList ++ rest }) : Go p.tables e below F T g := by
  obtain ⟨cq, kq, qa, qb, qc⟩ := isOf hZ eT E
  obtain ⟨v, _, ⟨T', L', k', n'⟩, -, X', ⟨L, hq, e1, e2, e3⟩, st⟩ := X.virtualBack hx hown (mvT hZ w1) (mvT hZ w2) hnf (mvT hZ w3) (mvT hZ w4) hy (backOf (W := W) (Q := Q) (D []) hZ w5 w6 hf hl) qa qc hg hsize (Steps.refl _) hlen hstack hW hd (fun _ _ => ⟨has, eT, hc, hs⟩)
  dsimp only [Pt.U, Pt.locs, Pt.cells, Pt.slots] at X' e1 e2 e3 st hq
  subst e1 e2 e3
  exact Go.st (fun t k => st.trans k) (kk T' v L _ X' (fun q => N.app q) hq)
theorem goC (X : Stand p l e R s m args below meth c T locs cells slots) (hx : p.tables.exec = Jvm.exec) (hZ : Z.Warmed39 s.vm) {own : String} {index : Nat} {y : MethodName} {bytes : ByteArray} {mx : Nat} (hy1 : y.name = "<init>") (hown : s.vm.findClass own = some m.cls)
    (w1 : (Jvm.Cond.methodLink own index y).before a0 Z = true) (w2 : (Jvm.Cond.instanceMethod y).before a0 Z = true) (w3 : (Jvm.Cond.initialized y.cls).before a0 Z = true) (w4 : (Jvm.Cond.code y bytes mx none).before a0 Z = true) (hy : y.cls ≠ "java/lang/invoke/MethodHandle" ∧ y.cls ≠ "java/lang/invoke/VarHandle")
    {rm : Room} {as' : Array Value} {Q : Option Value → Heap → List Loc → Prop} (D : Does l Z y bytes mx none rm as' h Q) (eT : T.heap = h) (N : Fr n0 locs) (W : Nat) (hf : rm.frames + 1 ≤ R.frames) (hl : W + (mx + 11) + rm.locals ≤ R.locals) (hc : cells + rm.cells ≤ R.cells) (hs : slots + rm.slots ≤ R.slots)
    {g : JFrame} (hg : g.method = m) (hsize : g.locals.size = c.maxLocals) (argsL rest : List Value) (hlen : ∀ sig, parseMethodDescriptor y.desc = some sig → argsL.length = sig.parameters.length) (has : (.ref b :: argsL).toArray = as')
    (hstack : g.stack = argsL.reverse ++ .ref b :: rest) (hW : 2 * g.monitorRoom + (rest.map fun v => v.category).sum ≤ W) (hd : decode c.code g.pc = .ok (.invokespecial index, 3)) {F : Outcome → State → Prop}
    (kk : ∀ (T' : State) (v : Option Value) (L L' : List Loc), Stand p l e R s m args below meth c T' L' (cells + rm.cells) (slots + rm.slots) → (Fr n0 L → Fr n0 L') → Q v T'.heap L → Go p.tables e below F T' { g with pc := g.pc + 3, stack := v.toList ++ rest }) : Go p.tables e below F T g := by
  obtain ⟨v, _, ⟨T', L', k', n'⟩, -, X', ⟨L, hq, e1, e2, e3⟩, st⟩ := X.specialBack hx hy1 hown (mvT hZ w1) (mvT hZ w2) (mvT hZ w4) hy (backOf (W := W) (Q := Q) (D []) hZ w4 w3 hf hl) hg hsize (Steps.refl _) hlen hstack hW hd (fun _ _ => ⟨has, eT, hc, hs⟩)
  dsimp only [Pt.U, Pt.locs, Pt.cells, Pt.slots] at X' e1 e2 e3 st hq
  subst e1 e2 e3
  exact Go.st (fun t k => st.trans k) (kk T' v L _ X' (fun q => N.app q) hq)
/-! arrays -/
/-- the array at a has n places, place i holds f i -/
def BA (Z : State) (h : Heap) (a : Addr) (ty : FieldType) (n : Nat) (f : Nat → Value) : Prop := ∃ c : Cell, Arr Z h a c ty ∧ c.slots.size = n ∧ ∀ i, i < n → c.slots[i]? = some (f i)
theorem BA.lt (V : BA Z h a ty n f) : a < h.size := by obtain ⟨c, A, -⟩ := V; exact A.lt
theorem BA.ext (V : BA Z h a ty n f) (E : Ext h h') : BA Z h' a ty n f := by obtain ⟨c, A, r⟩ := V; exact ⟨c, A.ext E, r⟩
theorem BA.other (V : BA Z h b ty n f) (W : Wr h h' a sl v) (q : b ≠ a) : BA Z h' b ty n f := by obtain ⟨c, A, r⟩ := V; exact ⟨c, A.other W q, r⟩
theorem BA.keep (V : BA Z h a ty n f) (K : Keep h h' ws) (q : a ∉ ws) : BA Z h' a ty n f := by obtain ⟨c, A, r⟩ := V; exact ⟨c, ⟨K.2.1 a c A.1 q, A.2⟩, r⟩
theorem BA.set (V : BA Z h a ty n f) (W : Wr h h' a k v) : BA Z h' a ty n (fun i => if i = k then v else f i) := by
  obtain ⟨c, A, S, H⟩ := V
  refine ⟨_, A.same W, by rw [sz_set]; exact S, fun i hi => ?_⟩
  show _ = some (if i = k then v else f i)
  by_cases q : i = k
  · subst q; rw [if_pos rfl]; simp [Cell.setSlot, S, hi]
  · rw [if_neg q]; simp only [Cell.setSlot]; rw [Array.getElem?_setIfInBounds_ne (fun z => q z.symm)]; exact H i hi
theorem BA.to (V : BA Z h a ty n f) (q : ∀ i, i < n → f i = f' i) : BA Z h a ty n f' := by
  obtain ⟨c, A, S, H⟩ := V
  exact ⟨c, A, S, fun i hi => by rw [H i hi, q i hi]⟩
theorem BA.new {kc : ClassId} {z : Int32} (A : Arr Z h a (newA kc ty z) ty) (hz : z.toNatClampNeg = n) : BA Z h a ty n (fun _ => defaultValue ty) := ⟨_, A, by rw [sz_new]; exact hz, fun i hi => by
  have : i < z.toNatClampNeg := by rw [hz]; exact hi
  simp [newA, this]⟩
/-- the int j is the place k of n -/
def Ix (j : Int32) (k n : Nat) : Prop := ¬ j < 0 ∧ j.toNatClampNeg = k ∧ k < n
theorem Ix.hin {j : Int32} {c : Cell} (I : Ix j k n) (S : c.slots.size = n) : ¬ (j < 0 ∨ c.slots.size ≤ j.toNatClampNeg) := by
  obtain ⟨h1, h2, h3⟩ := I
  rw [S, h2]; intro q; rcases q with q | q
  · exact h1 q
  · omega
theorem goStB (X : Stand p l e R s m args below meth c T locs cells slots) (hx : p.tables.exec = Jvm.exec) (hZ : Z.Warmed39 s.vm) (eT : T.heap = h) (N : Fr n0 locs) (V : BA Z h a .byte n f) (ga : n0 ≤ a) {j x : Int32} {g : JFrame} (hg : g.method = m) {rest : List Value} (hs : g.stack = .int x :: .int j :: .ref a :: rest) (hd : decode c.code g.pc = .ok (.bastore, 1)) (I : Ix j k n) {F : Outcome → State → Prop}
    (kk : ∀ (T' : State) (h' : Heap) (L : List Loc), Stand p l e R s m args below meth c T' L cells slots → T'.heap = h' → Fr n0 L → Wr h h' a k (.int x.toInt8.toInt32) → BA Z h' a .byte n (fun i => if i = k then .int x.toInt8.toInt32 else f i) → Go p.tables e below F T' { g with pc := g.pc + 1, stack := rest }) : Go p.tables e below F T g := by
  have V0 := V
  obtain ⟨cl, A, S, H⟩ := V
  obtain ⟨T', h', X', e', W, st⟩ := stB X hx hZ eT A (I.hin S) hg hs hd
  obtain ⟨h1, h2, h3⟩ := I
  subst h2
  exact Go.st st (kk T' h' _ X' e' (own_one N ga) W (V0.set W))
theorem goStI (X : Stand p l e R s m args below meth c T locs cells slots) (hx : p.tables.exec = Jvm.exec) (hZ : Z.Warmed39 s.vm) (eT : T.heap = h) (N : Fr n0 locs) (V : BA Z h a .int n f) (ga : n0 ≤ a) {j x : Int32} {g : JFrame} (hg : g.method = m) {rest : List Value} (hs : g.stack = .int x :: .int j :: .ref a :: rest) (hd : decode c.code g.pc = .ok (.iastore, 1)) (I : Ix j k n) {F : Outcome → State → Prop}
    (kk : ∀ (T' : State) (h' : Heap) (L : List Loc), Stand p l e R s m args below meth c T' L cells slots → T'.heap = h' → Fr n0 L → Wr h h' a k (.int x) → BA Z h' a .int n (fun i => if i = k then .int x else f i) → Go p.tables e below F T' { g with pc := g.pc + 1, stack := rest }) : Go p.tables e below F T g := by
  have V0 := V
  obtain ⟨cl, A, S, H⟩ := V
  obtain ⟨T', h', X', e', W, st⟩ := stI X hx hZ eT A (I.hin S) hg hs hd
  obtain ⟨h1, h2, h3⟩ := I
  subst h2
  exact Go.st st (kk T' h' _ X' e' (own_one N ga) W (V0.set W))
theorem goStJ (X : Stand p l e R s m args below meth c T locs cells slots) (hx : p.tables.exec = Jvm.exec) (hZ : Z.Warmed39 s.vm) (eT : T.heap = h) (N : Fr n0 locs) (V : BA Z h a .long n f) (ga : n0 ≤ a) {j : Int32} {x : Int64} {g : JFrame} (hg : g.method = m) {rest : List Value} (hs : g.stack = .long x :: .int j :: .ref a :: rest) (hd : decode c.code g.pc = .ok (.lastore, 1)) (I : Ix j k n) {F : Outcome → State → Prop}
    (kk : ∀ (T' : State) (h' : Heap) (L : List Loc), Stand p l e R s m args below meth c T' L cells slots → T'.heap = h' → Fr n0 L → Wr h h' a k (.long x) → BA Z h' a .long n (fun i => if i = k then .long x else f i) → Go p.tables e below F T' { g with pc := g.pc + 1, stack := rest }) : Go p.tables e below F T g := by
  have V0 := V
  obtain ⟨cl, A, S, H⟩ := V
  obtain ⟨T', h', X', e', W, st⟩ := stJ X hx hZ eT A (I.hin S) hg hs hd
  obtain ⟨h1, h2, h3⟩ := I
  subst h2
  exact Go.st st (kk T' h' _ X' e' (own_one N ga) W (V0.set W))
theorem goLdB (X : Stand p l e R s m args below meth c T locs cells slots) (hx : p.tables.exec = Jvm.exec) (hZ : Z.Warmed39 s.vm) (eT : T.heap = h) (V : BA Z h a .byte n f) {j : Int32} {v : Value} {g : JFrame} (hg : g.method = m) {rest : List Value} (hs : g.stack = .int j :: .ref a :: rest) (hd : decode c.code g.pc = .ok (.baload, 1)) (I : Ix j k n) (hv : f k = v) {F : Outcome → State → Prop}
    (kk : Go p.tables e below F T { g with pc := g.pc + 1, stack := v :: rest }) : Go p.tables e below F T g := by
  obtain ⟨cl, A, S, H⟩ := V
  exact Go.st (fun t q => X.baloadBytes hx (by rw [eT]; exact A.1) (State.isArrayOf_alike hZ.alike A.2.1) A.2.2 (I.hin S) (by rw [I.2.1, H k I.2.2, hv]) hg hs hd t q) kk
theorem goLdI (X : Stand p l e R s m args below meth c T locs cells slots) (hx : p.tables.exec = Jvm.exec) (hZ : Z.Warmed39 s.vm) (eT : T.heap = h) (V : BA Z h a .int n f) {j : Int32} {v : Value} {g : JFrame} (hg : g.method = m) {rest : List Value} (hs : g.stack = .int j :: .ref a :: rest) (hd : decode c.code g.pc = .ok (.iaload, 1)) (I : Ix j k n) (hv : f k = v) {F : Outcome → State → Prop}
    (kk : Go p.tables e below F T { g with pc := g.pc + 1, stack := v :: rest }) : Go p.tables e below F T g := by
  obtain ⟨cl, A, S, H⟩ := V
  exact Go.st (fun t q => X.iaload hx (by rw [eT]; exact A.1) (State.isArrayOf_alike hZ.alike A.2.1) A.2.2 (I.hin S) (by rw [I.2.1, H k I.2.2, hv]) hg hs hd t q) kk
theorem goLdJ (X : Stand p l e R s m args below meth c T locs cells slots) (hx : p.tables.exec = Jvm.exec) (hZ : Z.Warmed39 s.vm) (eT : T.heap = h) (V : BA Z h a .long n f) {j : Int32} {v : Value} {g : JFrame} (hg : g.method = m) {rest : List Value} (hs : g.stack = .int j :: .ref a :: rest) (hd : decode c.code g.pc = .ok (.laload, 1)) (I : Ix j k n) (hv : f k = v) {F : Outcome → State → Prop}
    (kk : Go p.tables e below F T { g with pc := g.pc + 1, stack := v :: rest }) : Go p.tables e below F T g := by
  obtain ⟨cl, A, S, H⟩ := V
  exact Go.st (fun t q => X.laload hx (by rw [eT]; exact A.1) (State.isArrayOf_alike hZ.alike A.2.1) A.2.2 (I.hin S) (by rw [I.2.1, H k I.2.2, hv]) hg hs hd t q) kk
theorem goLen (X : Stand p l e R s m args below meth c T locs cells slots) (hx : p.tables.exec = Jvm.exec) (hZ : Z.Warmed39 s.vm) (eT : T.heap = h) (V : BA Z h a ty n f) {z : Int32} (hz : n.toInt32 = z) {g : JFrame} (hg : g.method = m) {rest : List Value} (hs : g.stack = .ref a :: rest) (hd : decode c.code g.pc = .ok (.arraylength, 1)) {F : Outcome → State → Prop}
    (kk : Go p.tables e below F T { g with pc := g.pc + 1, stack := .int z :: rest }) : Go p.tables e below F T g := by
  obtain ⟨cl, A, S, H⟩ := V
  exact Go.st (fun t q => X.arraylength hx (by rw [eT]; exact A.1) (State.isArrayOf_alike hZ.alike A.2.1) hg hs hd t (by rw [S, hz]; exact q)) kk
theorem goNew (X : Stand p l e R s m args below meth c T locs cells slots) (hx : p.tables.exec = Jvm.exec) (hZ : Z.Warmed39 s.vm) {aty : ArrayType} (w : (Jvm.Cond.arrayClass (newarray.typeOf aty)).before a0 Z = true) (eT : T.heap = h) (Zs : n0 ≤ h.size) {z : Int32} (hz : ¬ z < 0) (hn : z.toNatClampNeg = n) (cap : Nat) (hcap : n ≤ cap) (hb : cap * 8 ≤ 536870912) (hc : cells + 1 ≤ R.cells) (hl : slots + cap ≤ R.slots)
    {g : JFrame} (hg : g.method = m) {rest : List Value} (hs : g.stack = .int z :: rest) (hd : decode c.code g.pc = .ok (.newarray aty, 2)) {F : Outcome → State → Prop}
    (kk : ∀ (T' : State) (h' : Heap) (b : Addr), Stand p l e R s m args below meth c T' locs (cells + 1) (slots + cap) → T'.heap = h' → Ext h h' → b = h.size → n0 ≤ b → n0 ≤ h'.size → BA Z h' b (newarray.typeOf aty) n (fun _ => defaultValue (newarray.typeOf aty)) → Go p.tables e below F T' { g with pc := g.pc + 2, stack := .ref b :: rest }) : Go p.tables e below F T g := by
  obtain ⟨T', h', cA, X', e', E, A, st⟩ := newP X hx hZ w eT hg hd hs hz (cap := cap) (by rw [hn]; exact hcap) hb hc hl
  exact Go.st st (kk T' h' _ X' e' E rfl Zs (Nat.le_trans Zs E.1) (BA.new A hn))
theorem own_sz (W : Wr h h' a sl v) (q : n0 ≤ h.size) : n0 ≤ h'.size := by rw [W.size]; exact q
end OwnKit

/-! a private method's call; System.arraycopy between two arrays of bytes -/
section OwnPriv
variable {p : Program} {l : Launch} {e : Env} {R : Room} {s : State} {m : MethodId} {args : Array Value} {below : List Frame} {meth : Method} {c : Code} {T : State} {locs : List Loc} {cells slots : Nat} {Z : State} {a0 : Array Value} {h h' h0 : Heap} {a b : Addr} {n n' : Nat} {f f' : Nat → Value} {n0 : Nat}
theorem goP (X : Stand p l e R s m args below meth c T locs cells slots) (hx : p.tables.exec = Jvm.exec) (hZ : Z.Warmed39 s.vm) {own C : String} {index : Nat} {y : MethodName} {bytes : ByteArray} {mx : Nat} {ret : Option FieldType} (hown : s.vm.findClass own = some m.cls)
    (w1 : (Jvm.Cond.methodLink own index y).before a0 Z = true) (w2 : (Jvm.Cond.instanceMethod y).before a0 Z = true) (w3 : (Jvm.Cond.selects y.cls y y).before a0 Z = true) (w4 : (Jvm.Cond.privateMethod y).before a0 Z = true) (w5 : (Jvm.Cond.code y bytes mx ret).before a0 Z = true) (w6 : (Jvm.Cond.initialized y.cls).before a0 Z = true) (hy : y.cls ≠ "java/lang/invoke/MethodHandle" ∧ y.cls ≠ "java/lang/invoke/VarHandle")
    {rm : Room} {as' : Array Value} {Q : Option Value → Heap → List Loc → Prop} (D : Does l Z y bytes mx ret rm as' h Q) (eT : T.heap = h) (N : Fr n0 locs) (E : Exa Z h b C) (W : Nat) (hf : rm.frames + 1 ≤ R.frames) (hl : W + (mx + 11) + rm.locals ≤ R.locals) (hc : cells + rm.cells ≤ R.cells) (hs : slots + rm.slots ≤ R.slots)
    {g : JFrame} (hg : g.method = m) (hsize : g.locals.size = c.maxLocals) (argsL rest : List Value) (hlen : ∀ sig, parseMethodDescriptor y.desc = some sig → argsL.length = sig.parameters.length) (has : (.ref b :: argsL).toArray = as')
    (hstack : g.stack = argsL.reverse ++ .ref b :: rest) (hW : 2 * g.monitorRoom + (rest.map fun v => v.category).sum ≤ W) (hd : decode c.code g.pc = .ok (.invokevirtual index, 3)) {F : Outcome → State → Prop}
    (kk : ∀ (T' : State) (v : Option Value) (L L' : List Loc), Stand p l e R s m args below meth c T' L' (cells + rm.cells) (slots + rm.slots) → (Fr n0 L → Fr n0 L') → Q v T'.heap L → Go p.tables e below F T' { g with pc := g.pc + 3, stack := v.toList ++ rest }) : Go p.tables e below F T g := by
  obtain ⟨cq, q1, q2⟩ := E.cell
  obtain ⟨v, _, ⟨T', L', k', n'⟩, -, X', ⟨L, hq, e1, e2, e3⟩, st⟩ := X.privateBack hx hown (mvT hZ w1) (mvT hZ w2) (mvT hZ w3) (Cond.privateMethod_at (mvP hZ w4 (args := #[]))) (mvT hZ w5) hy (backOf (W := W) (Q := Q) (D []) hZ w5 w6 hf hl) hg hsize (Steps.refl _) (by rw [eT]; exact q1) q2 hlen hstack hW hd (fun _ _ => ⟨has, eT, hc, hs⟩)
  dsimp only [Pt.U, Pt.locs, Pt.cells, Pt.slots] at X' e1 e2 e3 st hq
  subst e1 e2 e3
  exact Go.st (fun t k => st.trans k) (kk T' v L _ X' (fun q => N.app q) hq)
theorem own_arv (V : BA Z h a .byte n f) {z : Int32} (hz : ¬ z < 0) (hn : z.toNatClampNeg = n) (hf : ∀ i, i < n → fits .byte (f i) = true) : ∃ k, Arv Z h a k .byte z ((List.range n).map f) (.int 0) := by
  obtain ⟨cl, A, S, H⟩ := V
  have e : ∀ i, i < n → ((List.range n).map f).getD i (.int 0) = f i := fun i hi => by
    simp [List.getD_eq_getElem?_getD, hi]
  refine ⟨cl.cls, cl, A, rfl, by rw [S, hn], hz, fun i hi => ?_, fun i hi => ?_⟩
  · rw [S] at hi; rw [e i hi]; exact H i hi
  · rw [S] at hi; rw [e i hi]; exact hf i hi
theorem goCopy (X : Stand p l e R s m args below meth c T locs cells slots) (hx : p.tables.exec = Jvm.exec) (hZ : Z.Warmed39 s.vm) {own : String} {index : Nat} (hown : s.vm.findClass own = some m.cls)
    (w1 : (Jvm.Cond.methodLink own index Jvm.Stand.acN).before a0 Z = true) (w2 : (Jvm.Cond.native Jvm.Stand.acN).before a0 Z = true) (w3 : (Jvm.Cond.static Jvm.Stand.acN).before a0 Z = true) (w4 : (Jvm.Cond.initialized "java/lang/System").before a0 Z = true) (eT : T.heap = h) (N : Fr n0 locs) (ge : n0 ≤ b)
    (A : BA Z h a .byte n f) (fa : ∀ i, i < n → fits .byte (f i) = true) (B : BA Z h b .byte n' f') (fb : ∀ i, i < n' → fits .byte (f' i) = true) (z z' : Int32) {sp dp nn : Int32} (hz : ¬ z < 0) (hn : z.toNatClampNeg = n) (hz' : ¬ z' < 0) (hn' : z'.toNatClampNeg = n')
    (h1 : ¬ sp < 0) (h2 : ¬ dp < 0) (h3 : ¬ nn < 0) (h4 : sp.toNatClampNeg + nn.toNatClampNeg ≤ n) (h5 : dp.toNatClampNeg + nn.toNatClampNeg ≤ n')
    {g : JFrame} (hg : g.method = m) (hsize : g.locals.size = c.maxLocals) {rest : List Value} (hs : g.stack = .int nn :: .int dp :: .ref b :: .int sp :: .ref a :: rest) (hd : decode c.code g.pc = .ok (.invokestatic index, 3)) (hf : 1 ≤ R.frames) (W : Nat) (hW : 2 * g.monitorRoom + (rest.map fun v => v.category).sum ≤ W) (hlo : W + (nativeFrameWords "java/lang/System" "arraycopy" 5 + 11) ≤ R.locals) {F : Outcome → State → Prop}
    (kk : ∀ (T' : State) (h' : Heap) (L : List Loc), Stand p l e R s m args below meth c T' L cells slots → T'.heap = h' → Fr n0 L → Keep h h' [b] → Go p.tables e below F T' { g with pc := g.pc + 3, stack := rest }) : Go p.tables e below F T g := by
  obtain ⟨k1, A1⟩ := own_arv A hz hn fa
  obtain ⟨k2, B1⟩ := own_arv B hz' hn' fb
  obtain ⟨T', h', L, X', e', N', K, -, st⟩ := cpA X hx hZ hown w1 w2 w3 w4 eT A1 B1 (Or.inl ⟨rfl, rfl⟩) h1 h2 h3 (by rw [hn]; exact h4) (by rw [hn']; exact h5) rfl (by simpa using h5) N ge hg hsize hs hd hf hW hlo
  exact Go.st st (kk T' h' L X' e' N' K)
end OwnPriv

/-! PLAIN LAW: bytes of an int and of a long, bit by bit -/
theorem own_ext32 {x y : Int32} (h : ∀ i, i < 32 → x.toBitVec.getLsbD i = y.toBitVec.getLsbD i) : x = y := Int32.toBitVec_inj.mp (BitVec.eq_of_getLsbD_eq h)
theorem own_ext64 {x y : Int64} (h : ∀ i, i < 64 → x.toBitVec.getLsbD i = y.toBitVec.getLsbD i) : x = y := Int64.toBitVec_inj.mp (BitVec.eq_of_getLsbD_eq h)
theorem own_nn (x : Int32) : x.toInt8.toInt32.toInt8.toInt32 = x.toInt8.toInt32 := by rw [Int8.toInt8_toInt32]
/-- the low byte's bits stay -/
theorem own_nb (x : Int32) {i : Nat} (hi : i < 8) : x.toInt8.toInt32.toBitVec.getLsbD i = x.toBitVec.getLsbD i := by
  show ((x.toBitVec.signExtend 8).signExtend 32).getLsbD i = _
  rw [BitVec.getLsbD_signExtend, if_pos hi, BitVec.getLsbD_signExtend, if_pos (by omega)]
  simp [hi, show i < 32 by omega]
theorem own_nb2 (x : Int32) {i : Nat} (hi : i < 8) : x.toInt8.toInt32.toInt8.toInt32.toBitVec.getLsbD i = x.toBitVec.getLsbD i := by rw [own_nn]; exact own_nb x hi
theorem own_w (x : Int32) {i : Nat} (hi : i < 32) : x.toInt64.toBitVec.getLsbD i = x.toBitVec.getLsbD i := by
  show (x.toBitVec.signExtend 64).getLsbD i = _
  rw [BitVec.getLsbD_signExtend, if_pos hi]
  simp [show i < 64 by omega]
theorem own_lo32 (x : Int64) {i : Nat} (hi : i < 32) : x.toInt32.toBitVec.getLsbD i = x.toBitVec.getLsbD i := by
  show (x.toBitVec.signExtend 32).getLsbD i = _
  rw [BitVec.getLsbD_signExtend, if_pos (by omega)]
  simp [hi]
theorem own_255 : ∀ i, i < 32 → (255 : Int32).toBitVec.getLsbD i = decide (i < 8) := by decide
theorem own_255l : ∀ i, i < 64 → (255 : Int64).toBitVec.getLsbD i = decide (i < 8) := by decide
theorem own_ff : ∀ i, i < 64 → (4294967295 : Int64).toBitVec.getLsbD i = decide (i < 32) := by decide
/-- bits of x >>> s, as the code spells it -/
theorem own_us {x : Int32} {r : Int32} {s : Nat} (e : r.toBitVec = x.toBitVec >>> s) {j i : Nat} (h : s + j = i) : r.toBitVec.getLsbD j = x.toBitVec.getLsbD i := by
  rw [e, BitVec.getLsbD_ushiftRight, h]
theorem own_usl {x r : Int64} {s : Nat} (e : r.toBitVec = x.toBitVec >>> s) {j i : Nat} (h : s + j = i) : r.toBitVec.getLsbD j = x.toBitVec.getLsbD i := by
  rw [e, BitVec.getLsbD_ushiftRight, h]
theorem own_m (x : Int32) : (x.toInt8.toInt32.toInt8.toInt32 &&& (255 : Int32)) = (x &&& (255 : Int32)) := by
  apply own_ext32
  intro i hi
  show (x.toInt8.toInt32.toInt8.toInt32.toBitVec &&& (255 : Int32).toBitVec).getLsbD i = (x.toBitVec &&& (255 : Int32).toBitVec).getLsbD i
  rw [BitVec.getLsbD_and, BitVec.getLsbD_and, own_255 i hi]
  by_cases c : i < 8
  · rw [own_nb2 x c]
  · simp [c]
theorem own_lt2 {i : Nat} (h : i < 2) : i = 0 ∨ i = 1 := by omega
theorem own_lt3 {i : Nat} (h : i < 3) : i = 0 ∨ i = 1 ∨ i = 2 := by omega
def own_K (n : Nat) (zn sk p2 p3 : Int32) : Prop := (n = 2 ∧ zn = 2 ∧ sk = 0 ∧ p2 = 2 ∧ p3 = 2) ∨ (n = 3 ∧ zn = 3 ∧ sk = 0 ∧ p2 = 2 ∧ p3 = 2) ∨ (n = 3 ∧ zn = 3 ∧ sk = 1 ∧ p2 = 2 ∧ p3 = 3)
theorem own_and3 (p : Int32) : (p &&& (3 : Int32)) = 0 ∨ (p &&& (3 : Int32)) = 1 ∨ (p &&& (3 : Int32)) = 2 ∨ (p &&& (3 : Int32)) = 3 := by
  have h1 : (p &&& (3 : Int32)).toInt = p.toInt % 2 ^ 2 := Jvm.Kit.i32_mask p 3 (k := 2) (by decide) (by decide)
  generalize (p &&& (3 : Int32)) = r at *
  have h3 : r.toInt = 0 ∨ r.toInt = 1 ∨ r.toInt = 2 ∨ r.toInt = 3 := by omega
  rcases h3 with h | h | h | h
  · exact Or.inl (Int32.toInt_inj.mp h)
  · exact Or.inr (Or.inl (Int32.toInt_inj.mp h))
  · exact Or.inr (Or.inr (Or.inl (Int32.toInt_inj.mp h)))
  · exact Or.inr (Or.inr (Or.inr (Int32.toInt_inj.mp h)))

theorem d1_0 : decode prog_10_method_1_code 0 = .ok (.aload_n 0, 1) := by decide +kernel
theorem d1_1 : decode prog_10_method_1_code 1 = .ok (.invokespecial 1, 3) := by decide +kernel
theorem d1_4 : decode prog_10_method_1_code 4 = .ok (.aload_n 0, 1) := by decide +kernel
theorem d1_5 : decode prog_10_method_1_code 5 = .ok (.aload_n 1, 1) := by decide +kernel
theorem d1_6 : decode prog_10_method_1_code 6 = .ok (.putfield 7, 3) := by decide +kernel
theorem d1_9 : decode prog_10_method_1_code 9 = .ok (.return_, 1) := by decide +kernel
theorem pn_1 : plainName "com/example/vetter/vetter/io/DerReader" = true := by first | (simp [plainName, overriddenIn]; done) | decide +kernel
theorem ef_1 (m : MethodId) (x0 : Addr) (x1 : Addr) : entryFrame m #[(.ref x0), (.ref x1)] 2 = mkF m 0 #[.val (.ref x0), .val (.ref x1)] [] := by first | (simp [entryFrame, mkF, argsToLocals, Value.category]; done) | rfl
set_option maxRecDepth 65536 in
set_option maxHeartbeats 40000000 in
theorem rm1 (l : Launch) (Z : State) (a0 : Array Value) (hw : ∀ d ∈ tables_1, d.before a0 Z = true) (a1 : Addr) (a2 : Addr) (h0 : Heap) (n0 : Nat) (Z0 : n0 ≤ h0.size)  (E_a1 : Exa Z h0 a1 "com/example/vetter/vetter/io/DerReader") (F_data : Fld Z h0 a1 "com/example/vetter/vetter/io/DerReader" "data" "[B" .null) (F_position : Fld Z h0 a1 "com/example/vetter/vetter/io/DerReader" "position" "I" (.int 0)) (g_a1 : n0 ≤ a1) :
    Does l Z (⟨"com/example/vetter/vetter/io/DerReader", "<init>", "([B)V"⟩ : MethodName) prog_10_method_1_code 2 none ({ frames := 1, cells := 0, slots := 0, locals := 12 } : Room) #[(.ref a1), (.ref a2)] h0 (fun v h L => v = none ∧ Fr n0 L ∧ Keep h0 h [a1] ∧ Exa Z h a1 "com/example/vetter/vetter/io/DerReader" ∧ Fld Z h a1 "com/example/vetter/vetter/io/DerReader" "data" "[B" (.ref a2) ∧ Fld Z h a1 "com/example/vetter/vetter/io/DerReader" "position" "I" (.int 0)) := by
  refine Does.body (plainFor_of_name pn_1) ?_
  intro p e s m below meth c T0 X0 hx hZ hby hml hown hnm hret hlk e0
  replace hown : s.vm.findClass "com/example/vetter/vetter/io/DerReader" = some m.cls := hown
  have N0 := Fr.nil n0
  refine Go.frame (ef_1 m a1 a2) ?_
  have K0 : Keep h0 h0 [a1] := Keep.refl _ _
  show Go _ _ _ _ T0 (mkF m 0 #[.val (.ref a1), .val (.ref a2)] [])
  refine Go.st (fun t k => XS.aloadN X0.here hx rfl (hb hby d1_0) rfl rfl k) ?_
  show Go _ _ _ _ T0 (mkF m 1 #[.val (.ref a1), .val (.ref a2)] [(.ref a1)])
  obtain ⟨T1, X1, e1, st1⟩ := initO X0 hx hZ hown (hw _ (List.mem_of_getElem? (i := 7) rfl)) (hw _ (List.mem_of_getElem? (i := 8) rfl)) (hw _ (List.mem_of_getElem? (i := 9) rfl)) e0 (g := (mkF m 1 #[.val (.ref a1), .val (.ref a2)] [(.ref a1)])) rfl (by rw [hml]; rfl) rfl (hb hby d1_1) (by decide) (W := 0) (by show 2 * 0 + _ ≤ _; exact Nat.le_of_eq rfl) (by decide)
  refine Go.st st1 ?_
  show Go _ _ _ _ T1 (mkF m 4 #[.val (.ref a1), .val (.ref a2)] [])
  refine Go.st (fun t k => XS.aloadN X1.here hx rfl (hb hby d1_4) rfl rfl k) ?_
  show Go _ _ _ _ T1 (mkF m 5 #[.val (.ref a1), .val (.ref a2)] [(.ref a1)])
  refine Go.st (fun t k => XS.aloadN X1.here hx rfl (hb hby d1_5) rfl rfl k) ?_
  show Go _ _ _ _ T1 (mkF m 6 #[.val (.ref a1), .val (.ref a2)] [(.ref a2), (.ref a1)])
  obtain ⟨T2, h2, X2, e2, W2, st2⟩ := putF X1 hx hZ hown (host := "") (Or.inl (hw _ (List.mem_of_getElem? (i := 10) rfl))) Via.refl e1 F_data E_a1 (Or.inr ⟨(hw _ (List.mem_of_getElem? (i := 11) rfl)), rfl, hnm⟩) (hw _ (List.mem_of_getElem? (i := 2) rfl)) (ty := (.array .byte)) (by decide) rfl rfl (g := (mkF m 6 #[.val (.ref a1), .val (.ref a2)] [(.ref a2), (.ref a1)])) rfl rfl (hb hby d1_6)
  have N2 := own_one (sl := Jvm.RoadKit.slotOf Z "com/example/vetter/vetter/io/DerReader" "data" "[B") N0 g_a1
  have Z2 := own_sz W2 Z0
  have E_a1 := E_a1.wr W2
  have F_position := F_position.other W2 (Or.inr (Jvm.RoadKit.slot_ne (Or.inl (hw _ (List.mem_of_getElem? (i := 18) rfl))) (Or.inr (hw _ (List.mem_of_getElem? (i := 11) rfl))) (by decide) (t := .int) (t' := (.array .byte)) (by decide) (by decide)))
  have F_data := F_data.same W2
  have K0 := K0.wr W2 (Or.inl (List.mem_of_getElem? (i := 0) rfl))
  refine Go.st st2 ?_
  show Go _ _ _ _ T2 (mkF m 9 #[.val (.ref a1), .val (.ref a2)] [])
  exact goV X2 hx hret hlk (hb hby d1_9) (by decide) (by decide) (by rw [e2]; exact ⟨rfl, N2, K0, E_a1, F_data, F_position⟩)
theorem d3_0 : decode prog_10_method_3_code 0 = .ok (.aload_n 0, 1) := by decide +kernel
theorem d3_1 : decode prog_10_method_3_code 1 = .ok (.getfield 13, 3) := by decide +kernel
theorem d3_4 : decode prog_10_method_3_code 4 = .ok (.aload_n 0, 1) := by decide +kernel
theorem d3_5 : decode prog_10_method_3_code 5 = .ok (.getfield 7, 3) := by decide +kernel
theorem d3_8 : decode prog_10_method_3_code 8 = .ok (.arraylength, 1) := by decide +kernel
theorem d3_9 : decode prog_10_method_3_code 9 = .ok (.if_icmp .ge 24, 3) := by decide +kernel
theorem d3_12 : decode prog_10_method_3_code 12 = .ok (.aload_n 0, 1) := by decide +kernel
theorem d3_13 : decode prog_10_method_3_code 13 = .ok (.getfield 7, 3) := by decide +kernel
theorem d3_16 : decode prog_10_method_3_code 16 = .ok (.aload_n 0, 1) := by decide +kernel
theorem d3_17 : decode prog_10_method_3_code 17 = .ok (.getfield 13, 3) := by decide +kernel
theorem d3_20 : decode prog_10_method_3_code 20 = .ok (.baload, 1) := by decide +kernel
theorem d3_21 : decode prog_10_method_3_code 21 = .ok (.sipush 255, 3) := by decide +kernel
theorem d3_24 : decode prog_10_method_3_code 24 = .ok (.iand, 1) := by decide +kernel
theorem d3_25 : decode prog_10_method_3_code 25 = .ok (.iload_n 1, 1) := by decide +kernel
theorem d3_26 : decode prog_10_method_3_code 26 = .ok (.if_icmp .ne 7, 3) := by decide +kernel
theorem d3_29 : decode prog_10_method_3_code 29 = .ok (.iconst 1, 1) := by decide +kernel
theorem d3_30 : decode prog_10_method_3_code 30 = .ok (.goto 4, 3) := by decide +kernel
theorem d3_33 : decode prog_10_method_3_code 33 = .ok (.iconst 0, 1) := by decide +kernel
theorem d3_34 : decode prog_10_method_3_code 34 = .ok (.ireturn, 1) := by decide +kernel
theorem pn_3 : plainName "com/example/vetter/vetter/io/DerReader" = true := by first | (simp [plainName, overriddenIn]; done) | decide +kernel
theorem ef_3 (m : MethodId) (x0 : Addr) (x1 : Int32) : entryFrame m #[(.ref x0), (.int x1)] 2 = mkF m 0 #[.val (.ref x0), .val (.int x1)] [] := by first | (simp [entryFrame, mkF, argsToLocals, Value.category]; done) | rfl
set_option maxRecDepth 65536 in
set_option maxHeartbeats 40000000 in
theorem rm3 (l : Launch) (Z : State) (a0 : Array Value) (hw : ∀ d ∈ tables_1, d.before a0 Z = true) (a1 : Addr) (p2 : Int32) (h0 : Heap) (n0 : Nat) (Z0 : n0 ≤ h0.size) (ps : Int32) (da : Addr) (n : Nat) (f : Nat → Value) (zn w3 : Int32) (F_position : Fld Z h0 a1 "com/example/vetter/vetter/io/DerReader" "position" "I" (.int ps)) (F_data : Fld Z h0 a1 "com/example/vetter/vetter/io/DerReader" "data" "[B" (.ref da)) (V_da : BA Z h0 da .byte n f) (hz : n.toInt32 = zn) (Hin : ps < zn → ∃ k, Ix ps k n ∧ f k = .int w3) :
    Does l Z (⟨"com/example/vetter/vetter/io/DerReader", "nextIs", "(I)Z"⟩ : MethodName) prog_10_method_3_code 2 (some .boolean) ({ frames := 0, cells := 0, slots := 0, locals := 0 } : Room) #[(.ref a1), (.int p2)] h0 (fun v h L => ((ps < zn ∧ (w3 &&& (255 : Int32)) = p2 ∧ v = some (.int 1)) ∨ (¬ (ps < zn ∧ (w3 &&& (255 : Int32)) = p2) ∧ v = some (.int 0))) ∧ Fr n0 L ∧ h = h0) := by
  refine Does.body (plainFor_of_name pn_3) ?_
  intro p e s m below meth c T0 X0 hx hZ hby hml hown hnm hret hlk e0
  replace hown : s.vm.findClass "com/example/vetter/vetter/io/DerReader" = some m.cls := hown
  have N0 := Fr.nil n0
  refine Go.frame (ef_3 m a1 p2) ?_
  show Go _ _ _ _ T0 (mkF m 0 #[.val (.ref a1), .val (.int p2)] [])
  refine Go.st (fun t k => XS.aloadN X0.here hx rfl (hb hby d3_0) rfl rfl k) ?_
  show Go _ _ _ _ T0 (mkF m 1 #[.val (.ref a1), .val (.int p2)] [(.ref a1)])
  obtain ⟨T1, X1, e1, st1⟩ := getF X0 hx hZ hown (host := "") (Or.inl (hw _ (List.mem_of_getElem? (i := 17) rfl))) Via.refl e0 F_position (g := (mkF m 1 #[.val (.ref a1), .val (.int p2)] [(.ref a1)])) rfl rfl (hb hby d3_1)
  refine Go.st st1 ?_
  show Go _ _ _ _ T1 (mkF m 4 #[.val (.ref a1), .val (.int p2)] [(.int ps)])
  refine Go.st (fun t k => XS.aloadN X1.here hx rfl (hb hby d3_4) rfl rfl k) ?_
  show Go _ _ _ _ T1 (mkF m 5 #[.val (.ref a1), .val (.int p2)] [(.ref a1), (.int ps)])
  obtain ⟨T2, X2, e2, st2⟩ := getF X1 hx hZ hown (host := "") (Or.inl (hw _ (List.mem_of_getElem? (i := 10) rfl))) Via.refl e1 F_data (g := (mkF m 5 #[.val (.ref a1), .val (.int p2)] [(.ref a1), (.int ps)])) rfl rfl (hb hby d3_5)
  refine Go.st st2 ?_
  show Go _ _ _ _ T2 (mkF m 8 #[.val (.ref a1), .val (.int p2)] [(.ref da), (.int ps)])
  refine goLen X2 hx hZ e2 V_da (z := zn) hz (g := (mkF m 8 #[.val (.ref a1), .val (.int p2)] [(.ref da), (.int ps)])) rfl rfl (hb hby d3_8) ?_
  show Go _ _ _ _ T2 (mkF m 9 #[.val (.ref a1), .val (.int p2)] [(.int zn), (.int ps)])
  by_cases hA : ps < zn
  ·
    refine Go.st (fun t k => XS.icmpNo X2.here hx rfl (hb hby d3_9) rfl (tlt hA).2.1 k) ?_
    show Go _ _ _ _ T2 (mkF m 12 #[.val (.ref a1), .val (.int p2)] [])
    obtain ⟨k, Ik, Hk⟩ := Hin hA
    refine Go.st (fun t k => XS.aloadN X2.here hx rfl (hb hby d3_12) rfl rfl k) ?_
    show Go _ _ _ _ T2 (mkF m 13 #[.val (.ref a1), .val (.int p2)] [(.ref a1)])
    obtain ⟨T4, X4, e4, st4⟩ := getF X2 hx hZ hown (host := "") (Or.inl (hw _ (List.mem_of_getElem? (i := 10) rfl))) Via.refl e2 F_data (g := (mkF m 13 #[.val (.ref a1), .val (.int p2)] [(.ref a1)])) rfl rfl (hb hby d3_13)
    refine Go.st st4 ?_
    show Go _ _ _ _ T4 (mkF m 16 #[.val (.ref a1), .val (.int p2)] [(.ref da)])
    refine Go.st (fun t k => XS.aloadN X4.here hx rfl (hb hby d3_16) rfl rfl k) ?_
    show Go _ _ _ _ T4 (mkF m 17 #[.val (.ref a1), .val (.int p2)] [(.ref a1), (.ref da)])
    obtain ⟨T5, X5, e5, st5⟩ := getF X4 hx hZ hown (host := "") (Or.inl (hw _ (List.mem_of_getElem? (i := 17) rfl))) Via.refl e4 F_position (g := (mkF m 17 #[.val (.ref a1), .val (.int p2)] [(.ref a1), (.ref da)])) rfl rfl (hb hby d3_17)
    refine Go.st st5 ?_
    show Go _ _ _ _ T5 (mkF m 20 #[.val (.ref a1), .val (.int p2)] [(.int ps), (.ref da)])
    refine goLdB X5 hx hZ e5 V_da (v := (.int w3)) (g := (mkF m 20 #[.val (.ref a1), .val (.int p2)] [(.int ps), (.ref da)])) rfl rfl (hb hby d3_20) Ik Hk ?_
    show Go _ _ _ _ T5 (mkF m 21 #[.val (.ref a1), .val (.int p2)] [(.int w3)])
    refine Go.st (fun t k => XS.sipush X5.here hx rfl (hb hby d3_21) k) ?_
    show Go _ _ _ _ T5 (mkF m 24 #[.val (.ref a1), .val (.int p2)] [(.int (255 : Int32)), (.int w3)])
    refine Go.st (fun t k => XS.iand X5.here hx rfl (hb hby d3_24) rfl k) ?_
    show Go _ _ _ _ T5 (mkF m 25 #[.val (.ref a1), .val (.int p2)] [(.int (w3 &&& (255 : Int32)))])
    refine Go.st (fun t k => XS.iloadN X5.here hx rfl (hb hby d3_25) rfl k) ?_
    show Go _ _ _ _ T5 (mkF m 26 #[.val (.ref a1), .val (.int p2)] [(.int p2), (.int (w3 &&& (255 : Int32)))])
    by_cases hB : (w3 &&& (255 : Int32)) = p2
    ·
      refine Go.st (fun t k => XS.icmpNo X5.here hx rfl (hb hby d3_26) rfl (teq hB).2 k) ?_
      show Go _ _ _ _ T5 (mkF m 29 #[.val (.ref a1), .val (.int p2)] [])
      refine Go.st (fun t k => XS.iconst X5.here hx rfl (hb hby d3_29) k) ?_
      show Go _ _ _ _ T5 (mkF m 30 #[.val (.ref a1), .val (.int p2)] [(.int (1 : Int32))])
      refine Go.st (fun t k => XS.goto X5.here hx rfl (pc0 := 30) (pc' := 34) rfl (hb hby d3_30) (by decide) (by decide) k) ?_
      show Go _ _ _ _ T5 (mkF m 34 #[.val (.ref a1), .val (.int p2)] [(.int (1 : Int32))])
      exact goN X5 hx hret hlk (by simp) (hb hby d3_34) (by decide) (by decide) ⟨Or.inl ⟨hA, hB, rfl⟩, N0, e5⟩
    ·
      refine Go.st (fun t k => XS.icmpYes X5.here hx rfl (pc0 := 26) (pc' := 33) rfl (hb hby d3_26) rfl (feq hB).2 (by decide) (by decide) k) ?_
      show Go _ _ _ _ T5 (mkF m 33 #[.val (.ref a1), .val (.int p2)] [])
      refine Go.st (fun t k => XS.iconst X5.here hx rfl (hb hby d3_33) k) ?_
      show Go _ _ _ _ T5 (mkF m 34 #[.val (.ref a1), .val (.int p2)] [(.int (0 : Int32))])
      exact goN X5 hx hret hlk (by simp) (hb hby d3_34) (by decide) (by decide) ⟨Or.inr ⟨by simp [hB], rfl⟩, N0, e5⟩
  ·
    refine Go.st (fun t k => XS.icmpYes X2.here hx rfl (pc0 := 9) (pc' := 33) rfl (hb hby d3_9) rfl (flt hA).2.1 (by decide) (by decide) k) ?_
    show Go _ _ _ _ T2 (mkF m 33 #[.val (.ref a1), .val (.int p2)] [])
    refine Go.st (fun t k => XS.iconst X2.here hx rfl (hb hby d3_33) k) ?_
    show Go _ _ _ _ T2 (mkF m 34 #[.val (.ref a1), .val (.int p2)] [(.int (0 : Int32))])
    exact goN X2 hx hret hlk (by simp) (hb hby d3_34) (by decide) (by decide) ⟨Or.inr ⟨by simp [hA], rfl⟩, N0, e2⟩
theorem d9_0 : decode jdk_29_method_69_code 0 = .ok (.iload_n 0, 1) := by decide +kernel
theorem d9_1 : decode jdk_29_method_69_code 1 = .ok (.iload_n 1, 1) := by decide +kernel
theorem d9_2 : decode jdk_29_method_69_code 2 = .ok (.if_icmp .gt 7, 3) := by decide +kernel
theorem d9_5 : decode jdk_29_method_69_code 5 = .ok (.iload_n 0, 1) := by decide +kernel
theorem d9_6 : decode jdk_29_method_69_code 6 = .ok (.goto 4, 3) := by decide +kernel
theorem d9_9 : decode jdk_29_method_69_code 9 = .ok (.iload_n 1, 1) := by decide +kernel
theorem d9_10 : decode jdk_29_method_69_code 10 = .ok (.ireturn, 1) := by decide +kernel
theorem ef_9 (m : MethodId) (x0 : Int32) (x1 : Int32) : entryFrame m #[(.int x0), (.int x1)] 2 = mkF m 0 #[.val (.int x0), .val (.int x1)] [] := by first | (simp [entryFrame, mkF, argsToLocals, Value.category]; done) | rfl
set_option maxRecDepth 65536 in
set_option maxHeartbeats 40000000 in
theorem rm9 (l : Launch) (Z : State) (a0 : Array Value) (hw : ∀ d ∈ tables_1, d.before a0 Z = true) (p1 : Int32) (p2 : Int32) (h0 : Heap) (n0 : Nat) (Z0 : n0 ≤ h0.size)   :
    Does l Z (⟨"java/lang/Math", "min", "(II)I"⟩ : MethodName) jdk_29_method_69_code 2 (some .int) ({ frames := 0, cells := 0, slots := 0, locals := 0 } : Room) #[(.int p1), (.int p2)] h0 (fun v h L => ((p2 < p1 ∧ v = some (.int p2)) ∨ (¬ p2 < p1 ∧ v = some (.int p1))) ∧ Fr n0 L ∧ h = h0) := by
  refine Does.body (Jvm.Free.JP.mathPlain rfl (by decide +kernel)) ?_
  intro p e s m below meth c T0 X0 hx hZ hby hml hown hnm hret hlk e0
  replace hown : s.vm.findClass "java/lang/Math" = some m.cls := hown
  have N0 := Fr.nil n0
  refine Go.frame (ef_9 m p1 p2) ?_
  show Go _ _ _ _ T0 (mkF m 0 #[.val (.int p1), .val (.int p2)] [])
  refine Go.st (fun t k => XS.iloadN X0.here hx rfl (hb hby d9_0) rfl k) ?_
  show Go _ _ _ _ T0 (mkF m 1 #[.val (.int p1), .val (.int p2)] [(.int p1)])
  refine Go.st (fun t k => XS.iloadN X0.here hx rfl (hb hby d9_1) rfl k) ?_
  show Go _ _ _ _ T0 (mkF m 2 #[.val (.int p1), .val (.int p2)] [(.int p2), (.int p1)])
  by_cases hc : p2 < p1
  ·
    refine Go.st (fun t k => XS.icmpYes X0.here hx rfl (pc0 := 2) (pc' := 9) rfl (hb hby d9_2) rfl (tlt hc).2.2.1 (by decide) (by decide) k) ?_
    show Go _ _ _ _ T0 (mkF m 9 #[.val (.int p1), .val (.int p2)] [])
    refine Go.st (fun t k => XS.iloadN X0.here hx rfl (hb hby d9_9) rfl k) ?_
    show Go _ _ _ _ T0 (mkF m 10 #[.val (.int p1), .val (.int p2)] [(.int p2)])
    exact goI X0 hx hret hlk (hb hby d9_10) (by decide) (by decide) ⟨Or.inl ⟨hc, rfl⟩, N0, e0⟩
  ·
    refine Go.st (fun t k => XS.icmpNo X0.here hx rfl (hb hby d9_2) rfl (flt hc).2.2.1 k) ?_
    show Go _ _ _ _ T0 (mkF m 5 #[.val (.int p1), .val (.int p2)] [])
    refine Go.st (fun t k => XS.iloadN X0.here hx rfl (hb hby d9_5) rfl k) ?_
    show Go _ _ _ _ T0 (mkF m 6 #[.val (.int p1), .val (.int p2)] [(.int p1)])
    refine Go.st (fun t k => XS.goto X0.here hx rfl (pc0 := 6) (pc' := 10) rfl (hb hby d9_6) (by decide) (by decide) k) ?_
    show Go _ _ _ _ T0 (mkF m 10 #[.val (.int p1), .val (.int p2)] [(.int p1)])
    exact goI X0 hx hret hlk (hb hby d9_10) (by decide) (by decide) ⟨Or.inr ⟨hc, rfl⟩, N0, e0⟩
theorem d8_0 : decode jdk_65_method_131_code 0 = .ok (.iload_n 1, 1) := by decide +kernel
theorem d8_1 : decode jdk_65_method_131_code 1 = .ok (.iload_n 0, 1) := by decide +kernel
theorem d8_2 : decode jdk_65_method_131_code 2 = .ok (.if_icmp .ge 35, 3) := by decide +kernel
theorem d8_37 : decode jdk_65_method_131_code 37 = .ok (.return_, 1) := by decide +kernel
theorem pn_8 : plainName "java/util/Arrays" = true := by first | (simp [plainName, overriddenIn]; done) | decide +kernel
theorem ef_8 (m : MethodId) (x0 : Int32) (x1 : Int32) : entryFrame m #[(.int x0), (.int x1)] 2 = mkF m 0 #[.val (.int x0), .val (.int x1)] [] := by first | (simp [entryFrame, mkF, argsToLocals, Value.category]; done) | rfl
set_option maxRecDepth 65536 in
set_option maxHeartbeats 40000000 in
theorem rm8 (l : Launch) (Z : State) (a0 : Array Value) (hw : ∀ d ∈ tables_1, d.before a0 Z = true) (p1 : Int32) (p2 : Int32) (h0 : Heap) (n0 : Nat) (Z0 : n0 ≤ h0.size)  (hge : ¬ p2 < p1) :
    Does l Z (⟨"java/util/Arrays", "checkLength", "(II)V"⟩ : MethodName) jdk_65_method_131_code 2 none ({ frames := 0, cells := 0, slots := 0, locals := 0 } : Room) #[(.int p1), (.int p2)] h0 (fun v h L => v = none ∧ Fr n0 L ∧ h = h0) := by
  refine Does.body (plainFor_of_name pn_8) ?_
  intro p e s m below meth c T0 X0 hx hZ hby hml hown hnm hret hlk e0
  replace hown : s.vm.findClass "java/util/Arrays" = some m.cls := hown
  have N0 := Fr.nil n0
  refine Go.frame (ef_8 m p1 p2) ?_
  show Go _ _ _ _ T0 (mkF m 0 #[.val (.int p1), .val (.int p2)] [])
  refine Go.st (fun t k => XS.iloadN X0.here hx rfl (hb hby d8_0) rfl k) ?_
  show Go _ _ _ _ T0 (mkF m 1 #[.val (.int p1), .val (.int p2)] [(.int p2)])
  refine Go.st (fun t k => XS.iloadN X0.here hx rfl (hb hby d8_1) rfl k) ?_
  show Go _ _ _ _ T0 (mkF m 2 #[.val (.int p1), .val (.int p2)] [(.int p1), (.int p2)])
  refine Go.st (fun t k => XS.icmpYes X0.here hx rfl (pc0 := 2) (pc' := 37) rfl (hb hby d8_2) rfl (flt hge).2.1 (by decide) (by decide) k) ?_
  show Go _ _ _ _ T0 (mkF m 37 #[.val (.int p1), .val (.int p2)] [])
  exact goV X0 hx hret hlk (hb hby d8_37) (by decide) (by decide) ⟨rfl, N0, e0⟩
theorem d7_0 : decode jdk_65_method_133_code 0 = .ok (.iload_n 1, 1) := by decide +kernel
theorem d7_1 : decode jdk_65_method_133_code 1 = .ok (.iload_n 2, 1) := by decide +kernel
theorem d7_2 : decode jdk_65_method_133_code 2 = .ok (.invokestatic 343, 3) := by decide +kernel
theorem d7_5 : decode jdk_65_method_133_code 5 = .ok (.iload_n 2, 1) := by decide +kernel
theorem d7_6 : decode jdk_65_method_133_code 6 = .ok (.iload_n 1, 1) := by decide +kernel
theorem d7_7 : decode jdk_65_method_133_code 7 = .ok (.isub, 1) := by decide +kernel
theorem d7_8 : decode jdk_65_method_133_code 8 = .ok (.istore_n 3, 1) := by decide +kernel
theorem d7_9 : decode jdk_65_method_133_code 9 = .ok (.iload_n 3, 1) := by decide +kernel
theorem d7_10 : decode jdk_65_method_133_code 10 = .ok (.newarray .byte, 2) := by decide +kernel
theorem d7_12 : decode jdk_65_method_133_code 12 = .ok (.astore 4, 2) := by decide +kernel
theorem d7_14 : decode jdk_65_method_133_code 14 = .ok (.aload_n 0, 1) := by decide +kernel
theorem d7_15 : decode jdk_65_method_133_code 15 = .ok (.iload_n 1, 1) := by decide +kernel
theorem d7_16 : decode jdk_65_method_133_code 16 = .ok (.aload 4, 2) := by decide +kernel
theorem d7_18 : decode jdk_65_method_133_code 18 = .ok (.iconst 0, 1) := by decide +kernel
theorem d7_19 : decode jdk_65_method_133_code 19 = .ok (.aload_n 0, 1) := by decide +kernel
theorem d7_20 : decode jdk_65_method_133_code 20 = .ok (.arraylength, 1) := by decide +kernel
theorem d7_21 : decode jdk_65_method_133_code 21 = .ok (.iload_n 1, 1) := by decide +kernel
theorem d7_22 : decode jdk_65_method_133_code 22 = .ok (.isub, 1) := by decide +kernel
theorem d7_23 : decode jdk_65_method_133_code 23 = .ok (.iload_n 3, 1) := by decide +kernel
theorem d7_24 : decode jdk_65_method_133_code 24 = .ok (.invokestatic 304, 3) := by decide +kernel
theorem d7_27 : decode jdk_65_method_133_code 27 = .ok (.invokestatic 150, 3) := by decide +kernel
theorem d7_30 : decode jdk_65_method_133_code 30 = .ok (.aload 4, 2) := by decide +kernel
theorem d7_32 : decode jdk_65_method_133_code 32 = .ok (.areturn, 1) := by decide +kernel
theorem pn_7 : plainName "java/util/Arrays" = true := by first | (simp [plainName, overriddenIn]; done) | decide +kernel
theorem pd7_0 : parseMethodDescriptor "(II)V" = some ⟨[.int, .int], none⟩ := by decide +kernel
theorem pd7_1 : parseMethodDescriptor "(II)I" = some ⟨[.int, .int], some .int⟩ := by decide +kernel
theorem ef_7 (m : MethodId) (x0 : Addr) (x1 : Int32) (x2 : Int32) : entryFrame m #[(.ref x0), (.int x1), (.int x2)] 5 = mkF m 0 #[.val (.ref x0), .val (.int x1), .val (.int x2), .unset, .unset] [] := by first | (simp [entryFrame, mkF, argsToLocals, Value.category]; done) | rfl
set_option maxRecDepth 65536 in
set_option maxHeartbeats 40000000 in
theorem rm7 (l : Launch) (Z : State) (a0 : Array Value) (hw : ∀ d ∈ tables_1, d.before a0 Z = true) (a1 : Addr) (p2 : Int32) (p3 : Int32) (h0 : Heap) (n0 : Nat) (Z0 : n0 ≤ h0.size) (n : Nat) (f : Nat → Value) (zn sk : Int32) (hK : own_K n zn sk p2 p3) (V_a1 : BA Z h0 a1 .byte n f) (fa : ∀ i, i < n → fits .byte (f i) = true) :
    Does l Z (⟨"java/util/Arrays", "copyOfRangeByte", "([BII)[B"⟩ : MethodName) jdk_65_method_133_code 5 (some (.array .byte)) ({ frames := 1, cells := 1, slots := 1, locals := 40 } : Room) #[(.ref a1), (.int p2), (.int p3)] h0 (fun v h L => (∃ b, v = some (.ref b)) ∧ Fr n0 L ∧ Keep h0 h []) := by
  refine Does.body (plainFor_of_name pn_7) ?_
  intro p e s m below meth c T0 X0 hx hZ hby hml hown hnm hret hlk e0
  replace hown : s.vm.findClass "java/util/Arrays" = some m.cls := hown
  have N0 := Fr.nil n0
  refine Go.frame (ef_7 m a1 p2 p3) ?_
  have K0 : Keep h0 h0 [] := Keep.refl _ _
  show Go _ _ _ _ T0 (mkF m 0 #[.val (.ref a1), .val (.int p2), .val (.int p3), .unset, .unset] [])
  rcases hK with ⟨rfl, rfl, rfl, rfl, rfl⟩ | ⟨rfl, rfl, rfl, rfl, rfl⟩ | ⟨rfl, rfl, rfl, rfl, rfl⟩
  ·
    show Go _ _ _ _ T0 (mkF m 0 #[.val (.ref a1), .val (.int (2 : Int32)), .val (.int (2 : Int32)), .unset, .unset] [])
    show Go _ _ _ _ T0 (mkF m 0 #[.val (.ref a1), .val (.int (2 : Int32)), .val (.int (2 : Int32)), .unset, .unset] [])
    refine Go.st (fun t k => XS.iloadN X0.here hx rfl (hb hby d7_0) rfl k) ?_
    show Go _ _ _ _ T0 (mkF m 1 #[.val (.ref a1), .val (.int (2 : Int32)), .val (.int (2 : Int32)), .unset, .unset] [(.int (2 : Int32))])
    refine Go.st (fun t k => XS.iloadN X0.here hx rfl (hb hby d7_1) rfl k) ?_
    show Go _ _ _ _ T0 (mkF m 2 #[.val (.ref a1), .val (.int (2 : Int32)), .val (.int (2 : Int32)), .unset, .unset] [(.int (2 : Int32)), (.int (2 : Int32))])
    refine goS X0 hx hZ (y := (⟨"java/util/Arrays", "checkLength", "(II)V"⟩ : MethodName)) hown (hw _ (List.mem_of_getElem? (i := 36) rfl)) (hw _ (List.mem_of_getElem? (i := 37) rfl)) (hw _ (List.mem_of_getElem? (i := 31) rfl)) (hw _ (List.mem_of_getElem? (i := 38) rfl)) (by decide) (rm8 l Z a0 hw (2 : Int32) (2 : Int32) h0 n0 Z0 (by decide)) e0 N0 0 (by decide) (by decide) (by decide) (by decide) (g := (mkF m 2 #[.val (.ref a1), .val (.int (2 : Int32)), .val (.int (2 : Int32)), .unset, .unset] [(.int (2 : Int32)), (.int (2 : Int32))])) rfl (by rw [hml]; rfl) [(.int (2 : Int32)), (.int (2 : Int32))] [] (lenOf pd7_0 rfl) rfl rfl (by show 2 * 0 + _ ≤ _; exact Nat.le_of_eq rfl) (hb hby d7_2) ?_
    intro T1 v1 L1 M1 X1 N1 hq1
    obtain ⟨rfl, N1q, e1⟩ := hq1
    replace N1 := N1 N1q
    show Go _ _ _ _ T1 (mkF m 5 #[.val (.ref a1), .val (.int (2 : Int32)), .val (.int (2 : Int32)), .unset, .unset] [])
    refine Go.st (fun t k => XS.iloadN X1.here hx rfl (hb hby d7_5) rfl k) ?_
    show Go _ _ _ _ T1 (mkF m 6 #[.val (.ref a1), .val (.int (2 : Int32)), .val (.int (2 : Int32)), .unset, .unset] [(.int (2 : Int32))])
    refine Go.st (fun t k => XS.iloadN X1.here hx rfl (hb hby d7_6) rfl k) ?_
    show Go _ _ _ _ T1 (mkF m 7 #[.val (.ref a1), .val (.int (2 : Int32)), .val (.int (2 : Int32)), .unset, .unset] [(.int (2 : Int32)), (.int (2 : Int32))])
    refine Go.st (fun t k => XS.isub X1.here hx rfl (hb hby d7_7) rfl k) ?_
    show Go _ _ _ _ T1 (mkF m 8 #[.val (.ref a1), .val (.int (2 : Int32)), .val (.int (2 : Int32)), .unset, .unset] [(.int (0 : Int32))])
    refine Go.st (fun t k => XS.istoreN X1.here hx rfl (hb hby d7_8) rfl (l' := #[.val (.ref a1), .val (.int (2 : Int32)), .val (.int (2 : Int32)), .val (.int (0 : Int32)), .unset]) rfl k) ?_
    show Go _ _ _ _ T1 (mkF m 9 #[.val (.ref a1), .val (.int (2 : Int32)), .val (.int (2 : Int32)), .val (.int (0 : Int32)), .unset] [])
    refine Go.st (fun t k => XS.iloadN X1.here hx rfl (hb hby d7_9) rfl k) ?_
    show Go _ _ _ _ T1 (mkF m 10 #[.val (.ref a1), .val (.int (2 : Int32)), .val (.int (2 : Int32)), .val (.int (0 : Int32)), .unset] [(.int (0 : Int32))])
    refine goNew X1 hx hZ (hw _ (List.mem_of_getElem? (i := 0) rfl)) e1 Z0 (by decide) (show Int32.toNatClampNeg (0 : Int32) = 0 from rfl) 0 (by decide) (by decide) (by decide) (by decide) (g := (mkF m 10 #[.val (.ref a1), .val (.int (2 : Int32)), .val (.int (2 : Int32)), .val (.int (0 : Int32)), .unset] [(.int (0 : Int32))])) rfl rfl (hb hby d7_10) ?_
    intro T2 h2 b2 X2 e2 E2 qz2 g_b2 Z2 V_b2
    replace V_b2 : BA Z h2 b2 .byte 0 (fun _ => (.int (0 : Int32))) := V_b2
    have ne_a1_b2 : a1 ≠ b2 := fun z => absurd V_a1.lt (by rw [z, qz2]; exact Nat.lt_irrefl _)
    have V_a1 := V_a1.ext E2
    have K0 := K0.ext E2
    have qz_b2 : h0.size = b2 := qz2.symm
    show Go _ _ _ _ T2 (mkF m 12 #[.val (.ref a1), .val (.int (2 : Int32)), .val (.int (2 : Int32)), .val (.int (0 : Int32)), .unset] [(.ref b2)])
    refine Go.st (fun t k => XS.astore X2.here hx rfl (hb hby d7_12) rfl rfl (l' := #[.val (.ref a1), .val (.int (2 : Int32)), .val (.int (2 : Int32)), .val (.int (0 : Int32)), .val (.ref b2)]) rfl k) ?_
    show Go _ _ _ _ T2 (mkF m 14 #[.val (.ref a1), .val (.int (2 : Int32)), .val (.int (2 : Int32)), .val (.int (0 : Int32)), .val (.ref b2)] [])
    refine Go.st (fun t k => XS.aloadN X2.here hx rfl (hb hby d7_14) rfl rfl k) ?_
    show Go _ _ _ _ T2 (mkF m 15 #[.val (.ref a1), .val (.int (2 : Int32)), .val (.int (2 : Int32)), .val (.int (0 : Int32)), .val (.ref b2)] [(.ref a1)])
    refine Go.st (fun t k => XS.iloadN X2.here hx rfl (hb hby d7_15) rfl k) ?_
    show Go _ _ _ _ T2 (mkF m 16 #[.val (.ref a1), .val (.int (2 : Int32)), .val (.int (2 : Int32)), .val (.int (0 : Int32)), .val (.ref b2)] [(.int (2 : Int32)), (.ref a1)])
    refine Go.st (fun t k => XS.aload X2.here hx rfl (hb hby d7_16) rfl rfl k) ?_
    show Go _ _ _ _ T2 (mkF m 18 #[.val (.ref a1), .val (.int (2 : Int32)), .val (.int (2 : Int32)), .val (.int (0 : Int32)), .val (.ref b2)] [(.ref b2), (.int (2 : Int32)), (.ref a1)])
    refine Go.st (fun t k => XS.iconst X2.here hx rfl (hb hby d7_18) k) ?_
    show Go _ _ _ _ T2 (mkF m 19 #[.val (.ref a1), .val (.int (2 : Int32)), .val (.int (2 : Int32)), .val (.int (0 : Int32)), .val (.ref b2)] [(.int (0 : Int32)), (.ref b2), (.int (2 : Int32)), (.ref a1)])
    refine Go.st (fun t k => XS.aloadN X2.here hx rfl (hb hby d7_19) rfl rfl k) ?_
    show Go _ _ _ _ T2 (mkF m 20 #[.val (.ref a1), .val (.int (2 : Int32)), .val (.int (2 : Int32)), .val (.int (0 : Int32)), .val (.ref b2)] [(.ref a1), (.int (0 : Int32)), (.ref b2), (.int (2 : Int32)), (.ref a1)])
    refine goLen X2 hx hZ e2 V_a1 (z := (2 : Int32)) rfl (g := (mkF m 20 #[.val (.ref a1), .val (.int (2 : Int32)), .val (.int (2 : Int32)), .val (.int (0 : Int32)), .val (.ref b2)] [(.ref a1), (.int (0 : Int32)), (.ref b2), (.int (2 : Int32)), (.ref a1)])) rfl rfl (hb hby d7_20) ?_
    show Go _ _ _ _ T2 (mkF m 21 #[.val (.ref a1), .val (.int (2 : Int32)), .val (.int (2 : Int32)), .val (.int (0 : Int32)), .val (.ref b2)] [(.int (2 : Int32)), (.int (0 : Int32)), (.ref b2), (.int (2 : Int32)), (.ref a1)])
    refine Go.st (fun t k => XS.iloadN X2.here hx rfl (hb hby d7_21) rfl k) ?_
    show Go _ _ _ _ T2 (mkF m 22 #[.val (.ref a1), .val (.int (2 : Int32)), .val (.int (2 : Int32)), .val (.int (0 : Int32)), .val (.ref b2)] [(.int (2 : Int32)), (.int (2 : Int32)), (.int (0 : Int32)), (.ref b2), (.int (2 : Int32)), (.ref a1)])
    refine Go.st (fun t k => XS.isub X2.here hx rfl (hb hby d7_22) rfl k) ?_
    show Go _ _ _ _ T2 (mkF m 23 #[.val (.ref a1), .val (.int (2 : Int32)), .val (.int (2 : Int32)), .val (.int (0 : Int32)), .val (.ref b2)] [(.int (0 : Int32)), (.int (0 : Int32)), (.ref b2), (.int (2 : Int32)), (.ref a1)])
    refine Go.st (fun t k => XS.iloadN X2.here hx rfl (hb hby d7_23) rfl k) ?_
    show Go _ _ _ _ T2 (mkF m 24 #[.val (.ref a1), .val (.int (2 : Int32)), .val (.int (2 : Int32)), .val (.int (0 : Int32)), .val (.ref b2)] [(.int (0 : Int32)), (.int (0 : Int32)), (.int (0 : Int32)), (.ref b2), (.int (2 : Int32)), (.ref a1)])
    refine goS X2 hx hZ (y := (⟨"java/lang/Math", "min", "(II)I"⟩ : MethodName)) hown (hw _ (List.mem_of_getElem? (i := 39) rfl)) (hw _ (List.mem_of_getElem? (i := 40) rfl)) (hw _ (List.mem_of_getElem? (i := 41) rfl)) (hw _ (List.mem_of_getElem? (i := 42) rfl)) (by decide) (rm9 l Z a0 hw (0 : Int32) (0 : Int32) h2 n0 Z2) e2 N1 4 (by decide) (by decide) (by decide) (by decide) (g := (mkF m 24 #[.val (.ref a1), .val (.int (2 : Int32)), .val (.int (2 : Int32)), .val (.int (0 : Int32)), .val (.ref b2)] [(.int (0 : Int32)), (.int (0 : Int32)), (.int (0 : Int32)), (.ref b2), (.int (2 : Int32)), (.ref a1)])) rfl (by rw [hml]; rfl) [(.int (0 : Int32)), (.int (0 : Int32))] [(.int (0 : Int32)), (.ref b2), (.int (2 : Int32)), (.ref a1)] (lenOf pd7_1 rfl) rfl rfl (by show 2 * 0 + _ ≤ _; exact Nat.le_of_eq rfl) (hb hby d7_24) ?_
    intro T3 v3 L3 M3 X3 N3 hq3
    obtain ⟨hq3, N3q, e3⟩ := hq3
    replace N3 := N3 N3q
    rcases hq3 with ⟨hr3, rfl⟩ | ⟨hr3, rfl⟩
    ·
      exact absurd hr3 (by decide)
    ·
      show Go _ _ _ _ T3 (mkF m 27 #[.val (.ref a1), .val (.int (2 : Int32)), .val (.int (2 : Int32)), .val (.int (0 : Int32)), .val (.ref b2)] [(.int (0 : Int32)), (.int (0 : Int32)), (.ref b2), (.int (2 : Int32)), (.ref a1)])
      refine goCopy X3 hx hZ hown (hw _ (List.mem_of_getElem? (i := 43) rfl)) (hw _ (List.mem_of_getElem? (i := 46) rfl)) (hw _ (List.mem_of_getElem? (i := 44) rfl)) (hw _ (List.mem_of_getElem? (i := 45) rfl)) e3 N3 g_b2 V_a1 fa V_b2 (fun _ _ => rfl) (2 : Int32) (0 : Int32) (by decide) rfl (by decide) rfl (by decide) (by decide) (by decide) (by decide) (by decide) (g := (mkF m 27 #[.val (.ref a1), .val (.int (2 : Int32)), .val (.int (2 : Int32)), .val (.int (0 : Int32)), .val (.ref b2)] [(.int (0 : Int32)), (.int (0 : Int32)), (.ref b2), (.int (2 : Int32)), (.ref a1)])) rfl (by rw [hml]; rfl) rfl (hb hby d7_27) (by decide) 0 (by show 2 * 0 + _ ≤ _; exact Nat.le_of_eq rfl) (by decide) ?_
      intro T4 h4 L4 X4 e4 N4 C4
      have K0 := K0.trans C4 (allS (Or.inr (Nat.le_of_eq qz_b2)) all0)
      show Go _ _ _ _ T4 (mkF m 30 #[.val (.ref a1), .val (.int (2 : Int32)), .val (.int (2 : Int32)), .val (.int (0 : Int32)), .val (.ref b2)] [])
      refine Go.st (fun t k => XS.aload X4.here hx rfl (hb hby d7_30) rfl rfl k) ?_
      show Go _ _ _ _ T4 (mkF m 32 #[.val (.ref a1), .val (.int (2 : Int32)), .val (.int (2 : Int32)), .val (.int (0 : Int32)), .val (.ref b2)] [(.ref b2)])
      exact goA X4 hx hret hlk rfl (fun _ => rfl) (hb hby d7_32) (by decide) (by decide) (by rw [e4]; exact ⟨⟨_, rfl⟩, N4, K0⟩)
  ·
    show Go _ _ _ _ T0 (mkF m 0 #[.val (.ref a1), .val (.int (2 : Int32)), .val (.int (2 : Int32)), .unset, .unset] [])
    show Go _ _ _ _ T0 (mkF m 0 #[.val (.ref a1), .val (.int (2 : Int32)), .val (.int (2 : Int32)), .unset, .unset] [])
    refine Go.st (fun t k => XS.iloadN X0.here hx rfl (hb hby d7_0) rfl k) ?_
    show Go _ _ _ _ T0 (mkF m 1 #[.val (.ref a1), .val (.int (2 : Int32)), .val (.int (2 : Int32)), .unset, .unset] [(.int (2 : Int32))])
    refine Go.st (fun t k => XS.iloadN X0.here hx rfl (hb hby d7_1) rfl k) ?_
    show Go _ _ _ _ T0 (mkF m 2 #[.val (.ref a1), .val (.int (2 : Int32)), .val (.int (2 : Int32)), .unset, .unset] [(.int (2 : Int32)), (.int (2 : Int32))])
    refine goS X0 hx hZ (y := (⟨"java/util/Arrays", "checkLength", "(II)V"⟩ : MethodName)) hown (hw _ (List.mem_of_getElem? (i := 36) rfl)) (hw _ (List.mem_of_getElem? (i := 37) rfl)) (hw _ (List.mem_of_getElem? (i := 31) rfl)) (hw _ (List.mem_of_getElem? (i := 38) rfl)) (by decide) (rm8 l Z a0 hw (2 : Int32) (2 : Int32) h0 n0 Z0 (by decide)) e0 N0 0 (by decide) (by decide) (by decide) (by decide) (g := (mkF m 2 #[.val (.ref a1), .val (.int (2 : Int32)), .val (.int (2 : Int32)), .unset, .unset] [(.int (2 : Int32)), (.int (2 : Int32))])) rfl (by rw [hml]; rfl) [(.int (2 : Int32)), (.int (2 : Int32))] [] (lenOf pd7_0 rfl) rfl rfl (by show 2 * 0 + _ ≤ _; exact Nat.le_of_eq rfl) (hb hby d7_2) ?_
    intro T5 v5 L5 M5 X5 N5 hq5
    obtain ⟨rfl, N5q, e5⟩ := hq5
    replace N5 := N5 N5q
    show Go _ _ _ _ T5 (mkF m 5 #[.val (.ref a1), .val (.int (2 : Int32)), .val (.int (2 : Int32)), .unset, .unset] [])
    refine Go.st (fun t k => XS.iloadN X5.here hx rfl (hb hby d7_5) rfl k) ?_
    show Go _ _ _ _ T5 (mkF m 6 #[.val (.ref a1), .val (.int (2 : Int32)), .val (.int (2 : Int32)), .unset, .unset] [(.int (2 : Int32))])
    refine Go.st (fun t k => XS.iloadN X5.here hx rfl (hb hby d7_6) rfl k) ?_
    show Go _ _ _ _ T5 (mkF m 7 #[.val (.ref a1), .val (.int (2 : Int32)), .val (.int (2 : Int32)), .unset, .unset] [(.int (2 : Int32)), (.int (2 : Int32))])
    refine Go.st (fun t k => XS.isub X5.here hx rfl (hb hby d7_7) rfl k) ?_
    show Go _ _ _ _ T5 (mkF m 8 #[.val (.ref a1), .val (.int (2 : Int32)), .val (.int (2 : Int32)), .unset, .unset] [(.int (0 : Int32))])
    refine Go.st (fun t k => XS.istoreN X5.here hx rfl (hb hby d7_8) rfl (l' := #[.val (.ref a1), .val (.int (2 : Int32)), .val (.int (2 : Int32)), .val (.int (0 : Int32)), .unset]) rfl k) ?_
    show Go _ _ _ _ T5 (mkF m 9 #[.val (.ref a1), .val (.int (2 : Int32)), .val (.int (2 : Int32)), .val (.int (0 : Int32)), .unset] [])
    refine Go.st (fun t k => XS.iloadN X5.here hx rfl (hb hby d7_9) rfl k) ?_
    show Go _ _ _ _ T5 (mkF m 10 #[.val (.ref a1), .val (.int (2 : Int32)), .val (.int (2 : Int32)), .val (.int (0 : Int32)), .unset] [(.int (0 : Int32))])
    refine goNew X5 hx hZ (hw _ (List.mem_of_getElem? (i := 0) rfl)) e5 Z0 (by decide) (show Int32.toNatClampNeg (0 : Int32) = 0 from rfl) 0 (by decide) (by decide) (by decide) (by decide) (g := (mkF m 10 #[.val (.ref a1), .val (.int (2 : Int32)), .val (.int (2 : Int32)), .val (.int (0 : Int32)), .unset] [(.int (0 : Int32))])) rfl rfl (hb hby d7_10) ?_
    intro T6 h6 b6 X6 e6 E6 qz6 g_b6 Z6 V_b6
    replace V_b6 : BA Z h6 b6 .byte 0 (fun _ => (.int (0 : Int32))) := V_b6
    have ne_a1_b6 : a1 ≠ b6 := fun z => absurd V_a1.lt (by rw [z, qz6]; exact Nat.lt_irrefl _)
    have V_a1 := V_a1.ext E6
    have K0 := K0.ext E6
    have qz_b6 : h0.size = b6 := qz6.symm
    show Go _ _ _ _ T6 (mkF m 12 #[.val (.ref a1), .val (.int (2 : Int32)), .val (.int (2 : Int32)), .val (.int (0 : Int32)), .unset] [(.ref b6)])
    refine Go.st (fun t k => XS.astore X6.here hx rfl (hb hby d7_12) rfl rfl (l' := #[.val (.ref a1), .val (.int (2 : Int32)), .val (.int (2 : Int32)), .val (.int (0 : Int32)), .val (.ref b6)]) rfl k) ?_
    show Go _ _ _ _ T6 (mkF m 14 #[.val (.ref a1), .val (.int (2 : Int32)), .val (.int (2 : Int32)), .val (.int (0 : Int32)), .val (.ref b6)] [])
    refine Go.st (fun t k => XS.aloadN X6.here hx rfl (hb hby d7_14) rfl rfl k) ?_
    show Go _ _ _ _ T6 (mkF m 15 #[.val (.ref a1), .val (.int (2 : Int32)), .val (.int (2 : Int32)), .val (.int (0 : Int32)), .val (.ref b6)] [(.ref a1)])
    refine Go.st (fun t k => XS.iloadN X6.here hx rfl (hb hby d7_15) rfl k) ?_
    show Go _ _ _ _ T6 (mkF m 16 #[.val (.ref a1), .val (.int (2 : Int32)), .val (.int (2 : Int32)), .val (.int (0 : Int32)), .val (.ref b6)] [(.int (2 : Int32)), (.ref a1)])
    refine Go.st (fun t k => XS.aload X6.here hx rfl (hb hby d7_16) rfl rfl k) ?_
    show Go _ _ _ _ T6 (mkF m 18 #[.val (.ref a1), .val (.int (2 : Int32)), .val (.int (2 : Int32)), .val (.int (0 : Int32)), .val (.ref b6)] [(.ref b6), (.int (2 : Int32)), (.ref a1)])
    refine Go.st (fun t k => XS.iconst X6.here hx rfl (hb hby d7_18) k) ?_
    show Go _ _ _ _ T6 (mkF m 19 #[.val (.ref a1), .val (.int (2 : Int32)), .val (.int (2 : Int32)), .val (.int (0 : Int32)), .val (.ref b6)] [(.int (0 : Int32)), (.ref b6), (.int (2 : Int32)), (.ref a1)])
    refine Go.st (fun t k => XS.aloadN X6.here hx rfl (hb hby d7_19) rfl rfl k) ?_
    show Go _ _ _ _ T6 (mkF m 20 #[.val (.ref a1), .val (.int (2 : Int32)), .val (.int (2 : Int32)), .val (.int (0 : Int32)), .val (.ref b6)] [(.ref a1), (.int (0 : Int32)), (.ref b6), (.int (2 : Int32)), (.ref a1)])
    refine goLen X6 hx hZ e6 V_a1 (z := (3 : Int32)) rfl (g := (mkF m 20 #[.val (.ref a1), .val (.int (2 : Int32)), .val (.int (2 : Int32)), .val (.int (0 : Int32)), .val (.ref b6)] [(.ref a1), (.int (0 : Int32)), (.ref b6), (.int (2 : Int32)), (.ref a1)])) rfl rfl (hb hby d7_20) ?_
    show Go _ _ _ _ T6 (mkF m 21 #[.val (.ref a1), .val (.int (2 : Int32)), .val (.int (2 : Int32)), .val (.int (0 : Int32)), .val (.ref b6)] [(.int (3 : Int32)), (.int (0 : Int32)), (.ref b6), (.int (2 : Int32)), (.ref a1)])
    refine Go.st (fun t k => XS.iloadN X6.here hx rfl (hb hby d7_21) rfl k) ?_
    show Go _ _ _ _ T6 (mkF m 22 #[.val (.ref a1), .val (.int (2 : Int32)), .val (.int (2 : Int32)), .val (.int (0 : Int32)), .val (.ref b6)] [(.int (2 : Int32)), (.int (3 : Int32)), (.int (0 : Int32)), (.ref b6), (.int (2 : Int32)), (.ref a1)])
    refine Go.st (fun t k => XS.isub X6.here hx rfl (hb hby d7_22) rfl k) ?_
    show Go _ _ _ _ T6 (mkF m 23 #[.val (.ref a1), .val (.int (2 : Int32)), .val (.int (2 : Int32)), .val (.int (0 : Int32)), .val (.ref b6)] [(.int (1 : Int32)), (.int (0 : Int32)), (.ref b6), (.int (2 : Int32)), (.ref a1)])
    refine Go.st (fun t k => XS.iloadN X6.here hx rfl (hb hby d7_23) rfl k) ?_
    show Go _ _ _ _ T6 (mkF m 24 #[.val (.ref a1), .val (.int (2 : Int32)), .val (.int (2 : Int32)), .val (.int (0 : Int32)), .val (.ref b6)] [(.int (0 : Int32)), (.int (1 : Int32)), (.int (0 : Int32)), (.ref b6), (.int (2 : Int32)), (.ref a1)])
    refine goS X6 hx hZ (y := (⟨"java/lang/Math", "min", "(II)I"⟩ : MethodName)) hown (hw _ (List.mem_of_getElem? (i := 39) rfl)) (hw _ (List.mem_of_getElem? (i := 40) rfl)) (hw _ (List.mem_of_getElem? (i := 41) rfl)) (hw _ (List.mem_of_getElem? (i := 42) rfl)) (by decide) (rm9 l Z a0 hw (1 : Int32) (0 : Int32) h6 n0 Z6) e6 N5 4 (by decide) (by decide) (by decide) (by decide) (g := (mkF m 24 #[.val (.ref a1), .val (.int (2 : Int32)), .val (.int (2 : Int32)), .val (.int (0 : Int32)), .val (.ref b6)] [(.int (0 : Int32)), (.int (1 : Int32)), (.int (0 : Int32)), (.ref b6), (.int (2 : Int32)), (.ref a1)])) rfl (by rw [hml]; rfl) [(.int (1 : Int32)), (.int (0 : Int32))] [(.int (0 : Int32)), (.ref b6), (.int (2 : Int32)), (.ref a1)] (lenOf pd7_1 rfl) rfl rfl (by show 2 * 0 + _ ≤ _; exact Nat.le_of_eq rfl) (hb hby d7_24) ?_
    intro T7 v7 L7 M7 X7 N7 hq7
    obtain ⟨hq7, N7q, e7⟩ := hq7
    replace N7 := N7 N7q
    rcases hq7 with ⟨hr7, rfl⟩ | ⟨hr7, rfl⟩
    ·
      show Go _ _ _ _ T7 (mkF m 27 #[.val (.ref a1), .val (.int (2 : Int32)), .val (.int (2 : Int32)), .val (.int (0 : Int32)), .val (.ref b6)] [(.int (0 : Int32)), (.int (0 : Int32)), (.ref b6), (.int (2 : Int32)), (.ref a1)])
      refine goCopy X7 hx hZ hown (hw _ (List.mem_of_getElem? (i := 43) rfl)) (hw _ (List.mem_of_getElem? (i := 46) rfl)) (hw _ (List.mem_of_getElem? (i := 44) rfl)) (hw _ (List.mem_of_getElem? (i := 45) rfl)) e7 N7 g_b6 V_a1 fa V_b6 (fun _ _ => rfl) (3 : Int32) (0 : Int32) (by decide) rfl (by decide) rfl (by decide) (by decide) (by decide) (by decide) (by decide) (g := (mkF m 27 #[.val (.ref a1), .val (.int (2 : Int32)), .val (.int (2 : Int32)), .val (.int (0 : Int32)), .val (.ref b6)] [(.int (0 : Int32)), (.int (0 : Int32)), (.ref b6), (.int (2 : Int32)), (.ref a1)])) rfl (by rw [hml]; rfl) rfl (hb hby d7_27) (by decide) 0 (by show 2 * 0 + _ ≤ _; exact Nat.le_of_eq rfl) (by decide) ?_
      intro T8 h8 L8 X8 e8 N8 C8
      have K0 := K0.trans C8 (allS (Or.inr (Nat.le_of_eq qz_b6)) all0)
      show Go _ _ _ _ T8 (mkF m 30 #[.val (.ref a1), .val (.int (2 : Int32)), .val (.int (2 : Int32)), .val (.int (0 : Int32)), .val (.ref b6)] [])
      refine Go.st (fun t k => XS.aload X8.here hx rfl (hb hby d7_30) rfl rfl k) ?_
      show Go _ _ _ _ T8 (mkF m 32 #[.val (.ref a1), .val (.int (2 : Int32)), .val (.int (2 : Int32)), .val (.int (0 : Int32)), .val (.ref b6)] [(.ref b6)])
      exact goA X8 hx hret hlk rfl (fun _ => rfl) (hb hby d7_32) (by decide) (by decide) (by rw [e8]; exact ⟨⟨_, rfl⟩, N8, K0⟩)
    ·
      exact absurd (by decide) hr7
  ·
    show Go _ _ _ _ T0 (mkF m 0 #[.val (.ref a1), .val (.int (2 : Int32)), .val (.int (3 : Int32)), .unset, .unset] [])
    show Go _ _ _ _ T0 (mkF m 0 #[.val (.ref a1), .val (.int (2 : Int32)), .val (.int (3 : Int32)), .unset, .unset] [])
    refine Go.st (fun t k => XS.iloadN X0.here hx rfl (hb hby d7_0) rfl k) ?_
    show Go _ _ _ _ T0 (mkF m 1 #[.val (.ref a1), .val (.int (2 : Int32)), .val (.int (3 : Int32)), .unset, .unset] [(.int (2 : Int32))])
    refine Go.st (fun t k => XS.iloadN X0.here hx rfl (hb hby d7_1) rfl k) ?_
    show Go _ _ _ _ T0 (mkF m 2 #[.val (.ref a1), .val (.int (2 : Int32)), .val (.int (3 : Int32)), .unset, .unset] [(.int (3 : Int32)), (.int (2 : Int32))])
    refine goS X0 hx hZ (y := (⟨"java/util/Arrays", "checkLength", "(II)V"⟩ : MethodName)) hown (hw _ (List.mem_of_getElem? (i := 36) rfl)) (hw _ (List.mem_of_getElem? (i := 37) rfl)) (hw _ (List.mem_of_getElem? (i := 31) rfl)) (hw _ (List.mem_of_getElem? (i := 38) rfl)) (by decide) (rm8 l Z a0 hw (2 : Int32) (3 : Int32) h0 n0 Z0 (by decide)) e0 N0 0 (by decide) (by decide) (by decide) (by decide) (g := (mkF m 2 #[.val (.ref a1), .val (.int (2 : Int32)), .val (.int (3 : Int32)), .unset, .unset] [(.int (3 : Int32)), (.int (2 : Int32))])) rfl (by rw [hml]; rfl) [(.int (2 : Int32)), (.int (3 : Int32))] [] (lenOf pd7_0 rfl) rfl rfl (by show 2 * 0 + _ ≤ _; exact Nat.le_of_eq rfl) (hb hby d7_2) ?_
    intro T9 v9 L9 M9 X9 N9 hq9
    obtain ⟨rfl, N9q, e9⟩ := hq9
    replace N9 := N9 N9q
    show Go _ _ _ _ T9 (mkF m 5 #[.val (.ref a1), .val (.int (2 : Int32)), .val (.int (3 : Int32)), .unset, .unset] [])
    refine Go.st (fun t k => XS.iloadN X9.here hx rfl (hb hby d7_5) rfl k) ?_
    show Go _ _ _ _ T9 (mkF m 6 #[.val (.ref a1), .val (.int (2 : Int32)), .val (.int (3 : Int32)), .unset, .unset] [(.int (3 : Int32))])
    refine Go.st (fun t k => XS.iloadN X9.here hx rfl (hb hby d7_6) rfl k) ?_
    show Go _ _ _ _ T9 (mkF m 7 #[.val (.ref a1), .val (.int (2 : Int32)), .val (.int (3 : Int32)), .unset, .unset] [(.int (2 : Int32)), (.int (3 : Int32))])
    refine Go.st (fun t k => XS.isub X9.here hx rfl (hb hby d7_7) rfl k) ?_
    show Go _ _ _ _ T9 (mkF m 8 #[.val (.ref a1), .val (.int (2 : Int32)), .val (.int (3 : Int32)), .unset, .unset] [(.int (1 : Int32))])
    refine Go.st (fun t k => XS.istoreN X9.here hx rfl (hb hby d7_8) rfl (l' := #[.val (.ref a1), .val (.int (2 : Int32)), .val (.int (3 : Int32)), .val (.int (1 : Int32)), .unset]) rfl k) ?_
    show Go _ _ _ _ T9 (mkF m 9 #[.val (.ref a1), .val (.int (2 : Int32)), .val (.int (3 : Int32)), .val (.int (1 : Int32)), .unset] [])
    refine Go.st (fun t k => XS.iloadN X9.here hx rfl (hb hby d7_9) rfl k) ?_
    show Go _ _ _ _ T9 (mkF m 10 #[.val (.ref a1), .val (.int (2 : Int32)), .val (.int (3 : Int32)), .val (.int (1 : Int32)), .unset] [(.int (1 : Int32))])
    refine goNew X9 hx hZ (hw _ (List.mem_of_getElem? (i := 0) rfl)) e9 Z0 (by decide) (show Int32.toNatClampNeg (1 : Int32) = 1 from rfl) 1 (by decide) (by decide) (by decide) (by decide) (g := (mkF m 10 #[.val (.ref a1), .val (.int (2 : Int32)), .val (.int (3 : Int32)), .val (.int (1 : Int32)), .unset] [(.int (1 : Int32))])) rfl rfl (hb hby d7_10) ?_
    intro T10 h10 b10 X10 e10 E10 qz10 g_b10 Z10 V_b10
    replace V_b10 : BA Z h10 b10 .byte 1 (fun _ => (.int (0 : Int32))) := V_b10
    have ne_a1_b10 : a1 ≠ b10 := fun z => absurd V_a1.lt (by rw [z, qz10]; exact Nat.lt_irrefl _)
    have V_a1 := V_a1.ext E10
    have K0 := K0.ext E10
    have qz_b10 : h0.size = b10 := qz10.symm
    show Go _ _ _ _ T10 (mkF m 12 #[.val (.ref a1), .val (.int (2 : Int32)), .val (.int (3 : Int32)), .val (.int (1 : Int32)), .unset] [(.ref b10)])
    refine Go.st (fun t k => XS.astore X10.here hx rfl (hb hby d7_12) rfl rfl (l' := #[.val (.ref a1), .val (.int (2 : Int32)), .val (.int (3 : Int32)), .val (.int (1 : Int32)), .val (.ref b10)]) rfl k) ?_
    show Go _ _ _ _ T10 (mkF m 14 #[.val (.ref a1), .val (.int (2 : Int32)), .val (.int (3 : Int32)), .val (.int (1 : Int32)), .val (.ref b10)] [])
    refine Go.st (fun t k => XS.aloadN X10.here hx rfl (hb hby d7_14) rfl rfl k) ?_
    show Go _ _ _ _ T10 (mkF m 15 #[.val (.ref a1), .val (.int (2 : Int32)), .val (.int (3 : Int32)), .val (.int (1 : Int32)), .val (.ref b10)] [(.ref a1)])
    refine Go.st (fun t k => XS.iloadN X10.here hx rfl (hb hby d7_15) rfl k) ?_
    show Go _ _ _ _ T10 (mkF m 16 #[.val (.ref a1), .val (.int (2 : Int32)), .val (.int (3 : Int32)), .val (.int (1 : Int32)), .val (.ref b10)] [(.int (2 : Int32)), (.ref a1)])
    refine Go.st (fun t k => XS.aload X10.here hx rfl (hb hby d7_16) rfl rfl k) ?_
    show Go _ _ _ _ T10 (mkF m 18 #[.val (.ref a1), .val (.int (2 : Int32)), .val (.int (3 : Int32)), .val (.int (1 : Int32)), .val (.ref b10)] [(.ref b10), (.int (2 : Int32)), (.ref a1)])
    refine Go.st (fun t k => XS.iconst X10.here hx rfl (hb hby d7_18) k) ?_
    show Go _ _ _ _ T10 (mkF m 19 #[.val (.ref a1), .val (.int (2 : Int32)), .val (.int (3 : Int32)), .val (.int (1 : Int32)), .val (.ref b10)] [(.int (0 : Int32)), (.ref b10), (.int (2 : Int32)), (.ref a1)])
    refine Go.st (fun t k => XS.aloadN X10.here hx rfl (hb hby d7_19) rfl rfl k) ?_
    show Go _ _ _ _ T10 (mkF m 20 #[.val (.ref a1), .val (.int (2 : Int32)), .val (.int (3 : Int32)), .val (.int (1 : Int32)), .val (.ref b10)] [(.ref a1), (.int (0 : Int32)), (.ref b10), (.int (2 : Int32)), (.ref a1)])
    refine goLen X10 hx hZ e10 V_a1 (z := (3 : Int32)) rfl (g := (mkF m 20 #[.val (.ref a1), .val (.int (2 : Int32)), .val (.int (3 : Int32)), .val (.int (1 : Int32)), .val (.ref b10)] [(.ref a1), (.int (0 : Int32)), (.ref b10), (.int (2 : Int32)), (.ref a1)])) rfl rfl (hb hby d7_20) ?_
    show Go _ _ _ _ T10 (mkF m 21 #[.val (.ref a1), .val (.int (2 : Int32)), .val (.int (3 : Int32)), .val (.int (1 : Int32)), .val (.ref b10)] [(.int (3 : Int32)), (.int (0 : Int32)), (.ref b10), (.int (2 : Int32)), (.ref a1)])
    refine Go.st (fun t k => XS.iloadN X10.here hx rfl (hb hby d7_21) rfl k) ?_
    show Go _ _ _ _ T10 (mkF m 22 #[.val (.ref a1), .val (.int (2 : Int32)), .val (.int (3 : Int32)), .val (.int (1 : Int32)), .val (.ref b10)] [(.int (2 : Int32)), (.int (3 : Int32)), (.int (0 : Int32)), (.ref b10), (.int (2 : Int32)), (.ref a1)])
    refine Go.st (fun t k => XS.isub X10.here hx rfl (hb hby d7_22) rfl k) ?_
    show Go _ _ _ _ T10 (mkF m 23 #[.val (.ref a1), .val (.int (2 : Int32)), .val (.int (3 : Int32)), .val (.int (1 : Int32)), .val (.ref b10)] [(.int (1 : Int32)), (.int (0 : Int32)), (.ref b10), (.int (2 : Int32)), (.ref a1)])
    refine Go.st (fun t k => XS.iloadN X10.here hx rfl (hb hby d7_23) rfl k) ?_
    show Go _ _ _ _ T10 (mkF m 24 #[.val (.ref a1), .val (.int (2 : Int32)), .val (.int (3 : Int32)), .val (.int (1 : Int32)), .val (.ref b10)] [(.int (1 : Int32)), (.int (1 : Int32)), (.int (0 : Int32)), (.ref b10), (.int (2 : Int32)), (.ref a1)])
    refine goS X10 hx hZ (y := (⟨"java/lang/Math", "min", "(II)I"⟩ : MethodName)) hown (hw _ (List.mem_of_getElem? (i := 39) rfl)) (hw _ (List.mem_of_getElem? (i := 40) rfl)) (hw _ (List.mem_of_getElem? (i := 41) rfl)) (hw _ (List.mem_of_getElem? (i := 42) rfl)) (by decide) (rm9 l Z a0 hw (1 : Int32) (1 : Int32) h10 n0 Z10) e10 N9 4 (by decide) (by decide) (by decide) (by decide) (g := (mkF m 24 #[.val (.ref a1), .val (.int (2 : Int32)), .val (.int (3 : Int32)), .val (.int (1 : Int32)), .val (.ref b10)] [(.int (1 : Int32)), (.int (1 : Int32)), (.int (0 : Int32)), (.ref b10), (.int (2 : Int32)), (.ref a1)])) rfl (by rw [hml]; rfl) [(.int (1 : Int32)), (.int (1 : Int32))] [(.int (0 : Int32)), (.ref b10), (.int (2 : Int32)), (.ref a1)] (lenOf pd7_1 rfl) rfl rfl (by show 2 * 0 + _ ≤ _; exact Nat.le_of_eq rfl) (hb hby d7_24) ?_
    intro T11 v11 L11 M11 X11 N11 hq11
    obtain ⟨hq11, N11q, e11⟩ := hq11
    replace N11 := N11 N11q
    rcases hq11 with ⟨hr11, rfl⟩ | ⟨hr11, rfl⟩
    ·
      exact absurd hr11 (by decide)
    ·
      show Go _ _ _ _ T11 (mkF m 27 #[.val (.ref a1), .val (.int (2 : Int32)), .val (.int (3 : Int32)), .val (.int (1 : Int32)), .val (.ref b10)] [(.int (1 : Int32)), (.int (0 : Int32)), (.ref b10), (.int (2 : Int32)), (.ref a1)])
      refine goCopy X11 hx hZ hown (hw _ (List.mem_of_getElem? (i := 43) rfl)) (hw _ (List.mem_of_getElem? (i := 46) rfl)) (hw _ (List.mem_of_getElem? (i := 44) rfl)) (hw _ (List.mem_of_getElem? (i := 45) rfl)) e11 N11 g_b10 V_a1 fa V_b10 (fun _ _ => rfl) (3 : Int32) (1 : Int32) (by decide) rfl (by decide) rfl (by decide) (by decide) (by decide) (by decide) (by decide) (g := (mkF m 27 #[.val (.ref a1), .val (.int (2 : Int32)), .val (.int (3 : Int32)), .val (.int (1 : Int32)), .val (.ref b10)] [(.int (1 : Int32)), (.int (0 : Int32)), (.ref b10), (.int (2 : Int32)), (.ref a1)])) rfl (by rw [hml]; rfl) rfl (hb hby d7_27) (by decide) 0 (by show 2 * 0 + _ ≤ _; exact Nat.le_of_eq rfl) (by decide) ?_
      intro T12 h12 L12 X12 e12 N12 C12
      have K0 := K0.trans C12 (allS (Or.inr (Nat.le_of_eq qz_b10)) all0)
      show Go _ _ _ _ T12 (mkF m 30 #[.val (.ref a1), .val (.int (2 : Int32)), .val (.int (3 : Int32)), .val (.int (1 : Int32)), .val (.ref b10)] [])
      refine Go.st (fun t k => XS.aload X12.here hx rfl (hb hby d7_30) rfl rfl k) ?_
      show Go _ _ _ _ T12 (mkF m 32 #[.val (.ref a1), .val (.int (2 : Int32)), .val (.int (3 : Int32)), .val (.int (1 : Int32)), .val (.ref b10)] [(.ref b10)])
      exact goA X12 hx hret hlk rfl (fun _ => rfl) (hb hby d7_32) (by decide) (by decide) (by rw [e12]; exact ⟨⟨_, rfl⟩, N12, K0⟩)
theorem d6_0 : decode jdk_65_method_132_code 0 = .ok (.iload_n 1, 1) := by decide +kernel
theorem d6_1 : decode jdk_65_method_132_code 1 = .ok (.ifCond .ne 9, 3) := by decide +kernel
theorem d6_10 : decode jdk_65_method_132_code 10 = .ok (.aload_n 0, 1) := by decide +kernel
theorem d6_11 : decode jdk_65_method_132_code 11 = .ok (.iload_n 1, 1) := by decide +kernel
theorem d6_12 : decode jdk_65_method_132_code 12 = .ok (.iload_n 2, 1) := by decide +kernel
theorem d6_13 : decode jdk_65_method_132_code 13 = .ok (.invokestatic 339, 3) := by decide +kernel
theorem d6_16 : decode jdk_65_method_132_code 16 = .ok (.areturn, 1) := by decide +kernel
theorem pn_6 : plainName "java/util/Arrays" = true := by first | (simp [plainName, overriddenIn]; done) | decide +kernel
theorem pd6_0 : parseMethodDescriptor "([BII)[B" = some ⟨[(.array .byte), .int, .int], some (.array .byte)⟩ := by decide +kernel
theorem ef_6 (m : MethodId) (x0 : Addr) (x1 : Int32) (x2 : Int32) : entryFrame m #[(.ref x0), (.int x1), (.int x2)] 3 = mkF m 0 #[.val (.ref x0), .val (.int x1), .val (.int x2)] [] := by first | (simp [entryFrame, mkF, argsToLocals, Value.category]; done) | rfl
set_option maxRecDepth 65536 in
set_option maxHeartbeats 40000000 in
theorem rm6 (l : Launch) (Z : State) (a0 : Array Value) (hw : ∀ d ∈ tables_1, d.before a0 Z = true) (a1 : Addr) (p2 : Int32) (p3 : Int32) (h0 : Heap) (n0 : Nat) (Z0 : n0 ≤ h0.size) (n : Nat) (f : Nat → Value) (zn sk : Int32) (hK : own_K n zn sk p2 p3) (V_a1 : BA Z h0 a1 .byte n f) (fa : ∀ i, i < n → fits .byte (f i) = true) :
    Does l Z (⟨"java/util/Arrays", "copyOfRange", "([BII)[B"⟩ : MethodName) jdk_65_method_132_code 3 (some (.array .byte)) ({ frames := 2, cells := 1, slots := 1, locals := 56 } : Room) #[(.ref a1), (.int p2), (.int p3)] h0 (fun v h L => (∃ b, v = some (.ref b)) ∧ Fr n0 L ∧ Keep h0 h []) := by
  refine Does.body (plainFor_of_name pn_6) ?_
  intro p e s m below meth c T0 X0 hx hZ hby hml hown hnm hret hlk e0
  replace hown : s.vm.findClass "java/util/Arrays" = some m.cls := hown
  have N0 := Fr.nil n0
  refine Go.frame (ef_6 m a1 p2 p3) ?_
  show Go _ _ _ _ T0 (mkF m 0 #[.val (.ref a1), .val (.int p2), .val (.int p3)] [])
  rcases hK with ⟨rfl, rfl, rfl, rfl, rfl⟩ | ⟨rfl, rfl, rfl, rfl, rfl⟩ | ⟨rfl, rfl, rfl, rfl, rfl⟩
  ·
    show Go _ _ _ _ T0 (mkF m 0 #[.val (.ref a1), .val (.int (2 : Int32)), .val (.int (2 : Int32))] [])
    show Go _ _ _ _ T0 (mkF m 0 #[.val (.ref a1), .val (.int (2 : Int32)), .val (.int (2 : Int32))] [])
    refine Go.st (fun t k => XS.iloadN X0.here hx rfl (hb hby d6_0) rfl k) ?_
    show Go _ _ _ _ T0 (mkF m 1 #[.val (.ref a1), .val (.int (2 : Int32)), .val (.int (2 : Int32))] [(.int (2 : Int32))])
    refine Go.st (fun t k => XS.ifYes X0.here hx rfl (pc0 := 1) (pc' := 10) rfl (hb hby d6_1) rfl (by decide) (by decide) (by decide) k) ?_
    show Go _ _ _ _ T0 (mkF m 10 #[.val (.ref a1), .val (.int (2 : Int32)), .val (.int (2 : Int32))] [])
    refine Go.st (fun t k => XS.aloadN X0.here hx rfl (hb hby d6_10) rfl rfl k) ?_
    show Go _ _ _ _ T0 (mkF m 11 #[.val (.ref a1), .val (.int (2 : Int32)), .val (.int (2 : Int32))] [(.ref a1)])
    refine Go.st (fun t k => XS.iloadN X0.here hx rfl (hb hby d6_11) rfl k) ?_
    show Go _ _ _ _ T0 (mkF m 12 #[.val (.ref a1), .val (.int (2 : Int32)), .val (.int (2 : Int32))] [(.int (2 : Int32)), (.ref a1)])
    refine Go.st (fun t k => XS.iloadN X0.here hx rfl (hb hby d6_12) rfl k) ?_
    show Go _ _ _ _ T0 (mkF m 13 #[.val (.ref a1), .val (.int (2 : Int32)), .val (.int (2 : Int32))] [(.int (2 : Int32)), (.int (2 : Int32)), (.ref a1)])
    refine goS X0 hx hZ (y := (⟨"java/util/Arrays", "copyOfRangeByte", "([BII)[B"⟩ : MethodName)) hown (hw _ (List.mem_of_getElem? (i := 33) rfl)) (hw _ (List.mem_of_getElem? (i := 34) rfl)) (hw _ (List.mem_of_getElem? (i := 31) rfl)) (hw _ (List.mem_of_getElem? (i := 35) rfl)) (by decide) (rm7 l Z a0 hw a1 (2 : Int32) (2 : Int32) h0 n0 Z0 2 f (2 : Int32) (0 : Int32) (by simp [own_K]) V_a1 fa) e0 N0 0 (by decide) (by decide) (by decide) (by decide) (g := (mkF m 13 #[.val (.ref a1), .val (.int (2 : Int32)), .val (.int (2 : Int32))] [(.int (2 : Int32)), (.int (2 : Int32)), (.ref a1)])) rfl (by rw [hml]; rfl) [(.ref a1), (.int (2 : Int32)), (.int (2 : Int32))] [] (lenOf pd6_0 rfl) rfl rfl (by show 2 * 0 + _ ≤ _; exact Nat.le_of_eq rfl) (hb hby d6_13) ?_
    intro T1 v1 L1 M1 X1 N1 hq1
    obtain ⟨⟨b1, rfl⟩, N1q, K1⟩ := hq1
    replace N1 := N1 N1q
    show Go _ _ _ _ T1 (mkF m 16 #[.val (.ref a1), .val (.int (2 : Int32)), .val (.int (2 : Int32))] [(.ref b1)])
    exact goA X1 hx hret hlk rfl (fun _ => rfl) (hb hby d6_16) (by decide) (by decide) ⟨⟨_, rfl⟩, N1, K1⟩
  ·
    show Go _ _ _ _ T0 (mkF m 0 #[.val (.ref a1), .val (.int (2 : Int32)), .val (.int (2 : Int32))] [])
    show Go _ _ _ _ T0 (mkF m 0 #[.val (.ref a1), .val (.int (2 : Int32)), .val (.int (2 : Int32))] [])
    refine Go.st (fun t k => XS.iloadN X0.here hx rfl (hb hby d6_0) rfl k) ?_
    show Go _ _ _ _ T0 (mkF m 1 #[.val (.ref a1), .val (.int (2 : Int32)), .val (.int (2 : Int32))] [(.int (2 : Int32))])
    refine Go.st (fun t k => XS.ifYes X0.here hx rfl (pc0 := 1) (pc' := 10) rfl (hb hby d6_1) rfl (by decide) (by decide) (by decide) k) ?_
    show Go _ _ _ _ T0 (mkF m 10 #[.val (.ref a1), .val (.int (2 : Int32)), .val (.int (2 : Int32))] [])
    refine Go.st (fun t k => XS.aloadN X0.here hx rfl (hb hby d6_10) rfl rfl k) ?_
    show Go _ _ _ _ T0 (mkF m 11 #[.val (.ref a1), .val (.int (2 : Int32)), .val (.int (2 : Int32))] [(.ref a1)])
    refine Go.st (fun t k => XS.iloadN X0.here hx rfl (hb hby d6_11) rfl k) ?_
    show Go _ _ _ _ T0 (mkF m 12 #[.val (.ref a1), .val (.int (2 : Int32)), .val (.int (2 : Int32))] [(.int (2 : Int32)), (.ref a1)])
    refine Go.st (fun t k => XS.iloadN X0.here hx rfl (hb hby d6_12) rfl k) ?_
    show Go _ _ _ _ T0 (mkF m 13 #[.val (.ref a1), .val (.int (2 : Int32)), .val (.int (2 : Int32))] [(.int (2 : Int32)), (.int (2 : Int32)), (.ref a1)])
    refine goS X0 hx hZ (y := (⟨"java/util/Arrays", "copyOfRangeByte", "([BII)[B"⟩ : MethodName)) hown (hw _ (List.mem_of_getElem? (i := 33) rfl)) (hw _ (List.mem_of_getElem? (i := 34) rfl)) (hw _ (List.mem_of_getElem? (i := 31) rfl)) (hw _ (List.mem_of_getElem? (i := 35) rfl)) (by decide) (rm7 l Z a0 hw a1 (2 : Int32) (2 : Int32) h0 n0 Z0 3 f (3 : Int32) (0 : Int32) (by simp [own_K]) V_a1 fa) e0 N0 0 (by decide) (by decide) (by decide) (by decide) (g := (mkF m 13 #[.val (.ref a1), .val (.int (2 : Int32)), .val (.int (2 : Int32))] [(.int (2 : Int32)), (.int (2 : Int32)), (.ref a1)])) rfl (by rw [hml]; rfl) [(.ref a1), (.int (2 : Int32)), (.int (2 : Int32))] [] (lenOf pd6_0 rfl) rfl rfl (by show 2 * 0 + _ ≤ _; exact Nat.le_of_eq rfl) (hb hby d6_13) ?_
    intro T2 v2 L2 M2 X2 N2 hq2
    obtain ⟨⟨b2, rfl⟩, N2q, K2⟩ := hq2
    replace N2 := N2 N2q
    show Go _ _ _ _ T2 (mkF m 16 #[.val (.ref a1), .val (.int (2 : Int32)), .val (.int (2 : Int32))] [(.ref b2)])
    exact goA X2 hx hret hlk rfl (fun _ => rfl) (hb hby d6_16) (by decide) (by decide) ⟨⟨_, rfl⟩, N2, K2⟩
  ·
    show Go _ _ _ _ T0 (mkF m 0 #[.val (.ref a1), .val (.int (2 : Int32)), .val (.int (3 : Int32))] [])
    show Go _ _ _ _ T0 (mkF m 0 #[.val (.ref a1), .val (.int (2 : Int32)), .val (.int (3 : Int32))] [])
    refine Go.st (fun t k => XS.iloadN X0.here hx rfl (hb hby d6_0) rfl k) ?_
    show Go _ _ _ _ T0 (mkF m 1 #[.val (.ref a1), .val (.int (2 : Int32)), .val (.int (3 : Int32))] [(.int (2 : Int32))])
    refine Go.st (fun t k => XS.ifYes X0.here hx rfl (pc0 := 1) (pc' := 10) rfl (hb hby d6_1) rfl (by decide) (by decide) (by decide) k) ?_
    show Go _ _ _ _ T0 (mkF m 10 #[.val (.ref a1), .val (.int (2 : Int32)), .val (.int (3 : Int32))] [])
    refine Go.st (fun t k => XS.aloadN X0.here hx rfl (hb hby d6_10) rfl rfl k) ?_
    show Go _ _ _ _ T0 (mkF m 11 #[.val (.ref a1), .val (.int (2 : Int32)), .val (.int (3 : Int32))] [(.ref a1)])
    refine Go.st (fun t k => XS.iloadN X0.here hx rfl (hb hby d6_11) rfl k) ?_
    show Go _ _ _ _ T0 (mkF m 12 #[.val (.ref a1), .val (.int (2 : Int32)), .val (.int (3 : Int32))] [(.int (2 : Int32)), (.ref a1)])
    refine Go.st (fun t k => XS.iloadN X0.here hx rfl (hb hby d6_12) rfl k) ?_
    show Go _ _ _ _ T0 (mkF m 13 #[.val (.ref a1), .val (.int (2 : Int32)), .val (.int (3 : Int32))] [(.int (3 : Int32)), (.int (2 : Int32)), (.ref a1)])
    refine goS X0 hx hZ (y := (⟨"java/util/Arrays", "copyOfRangeByte", "([BII)[B"⟩ : MethodName)) hown (hw _ (List.mem_of_getElem? (i := 33) rfl)) (hw _ (List.mem_of_getElem? (i := 34) rfl)) (hw _ (List.mem_of_getElem? (i := 31) rfl)) (hw _ (List.mem_of_getElem? (i := 35) rfl)) (by decide) (rm7 l Z a0 hw a1 (2 : Int32) (3 : Int32) h0 n0 Z0 3 f (3 : Int32) (1 : Int32) (by simp [own_K]) V_a1 fa) e0 N0 0 (by decide) (by decide) (by decide) (by decide) (g := (mkF m 13 #[.val (.ref a1), .val (.int (2 : Int32)), .val (.int (3 : Int32))] [(.int (3 : Int32)), (.int (2 : Int32)), (.ref a1)])) rfl (by rw [hml]; rfl) [(.ref a1), (.int (2 : Int32)), (.int (3 : Int32))] [] (lenOf pd6_0 rfl) rfl rfl (by show 2 * 0 + _ ≤ _; exact Nat.le_of_eq rfl) (hb hby d6_13) ?_
    intro T3 v3 L3 M3 X3 N3 hq3
    obtain ⟨⟨b3, rfl⟩, N3q, K3⟩ := hq3
    replace N3 := N3 N3q
    show Go _ _ _ _ T3 (mkF m 16 #[.val (.ref a1), .val (.int (2 : Int32)), .val (.int (3 : Int32))] [(.ref b3)])
    exact goA X3 hx hret hlk rfl (fun _ => rfl) (hb hby d6_16) (by decide) (by decide) ⟨⟨_, rfl⟩, N3, K3⟩
theorem d5_0 : decode prog_10_method_11_code 0 = .ok (.aload_n 0, 1) := by decide +kernel
theorem d5_1 : decode prog_10_method_11_code 1 = .ok (.getfield 13, 3) := by decide +kernel
theorem d5_4 : decode prog_10_method_11_code 4 = .ok (.aload_n 0, 1) := by decide +kernel
theorem d5_5 : decode prog_10_method_11_code 5 = .ok (.getfield 7, 3) := by decide +kernel
theorem d5_8 : decode prog_10_method_11_code 8 = .ok (.arraylength, 1) := by decide +kernel
theorem d5_9 : decode prog_10_method_11_code 9 = .ok (.if_icmp .lt 13, 3) := by decide +kernel
theorem d5_22 : decode prog_10_method_11_code 22 = .ok (.aload_n 0, 1) := by decide +kernel
theorem d5_23 : decode prog_10_method_11_code 23 = .ok (.getfield 7, 3) := by decide +kernel
theorem d5_26 : decode prog_10_method_11_code 26 = .ok (.aload_n 0, 1) := by decide +kernel
theorem d5_27 : decode prog_10_method_11_code 27 = .ok (.dup, 1) := by decide +kernel
theorem d5_28 : decode prog_10_method_11_code 28 = .ok (.getfield 13, 3) := by decide +kernel
theorem d5_31 : decode prog_10_method_11_code 31 = .ok (.dup_x1, 1) := by decide +kernel
theorem d5_32 : decode prog_10_method_11_code 32 = .ok (.iconst 1, 1) := by decide +kernel
theorem d5_33 : decode prog_10_method_11_code 33 = .ok (.iadd, 1) := by decide +kernel
theorem d5_34 : decode prog_10_method_11_code 34 = .ok (.putfield 13, 3) := by decide +kernel
theorem d5_37 : decode prog_10_method_11_code 37 = .ok (.baload, 1) := by decide +kernel
theorem d5_38 : decode prog_10_method_11_code 38 = .ok (.sipush 255, 3) := by decide +kernel
theorem d5_41 : decode prog_10_method_11_code 41 = .ok (.iand, 1) := by decide +kernel
theorem d5_42 : decode prog_10_method_11_code 42 = .ok (.istore_n 1, 1) := by decide +kernel
theorem d5_43 : decode prog_10_method_11_code 43 = .ok (.iload_n 1, 1) := by decide +kernel
theorem d5_44 : decode prog_10_method_11_code 44 = .ok (.istore_n 2, 1) := by decide +kernel
theorem d5_45 : decode prog_10_method_11_code 45 = .ok (.iload_n 1, 1) := by decide +kernel
theorem d5_46 : decode prog_10_method_11_code 46 = .ok (.sipush 128, 3) := by decide +kernel
theorem d5_49 : decode prog_10_method_11_code 49 = .ok (.if_icmp .lt 85, 3) := by decide +kernel
theorem d5_134 : decode prog_10_method_11_code 134 = .ok (.iload_n 2, 1) := by decide +kernel
theorem d5_135 : decode prog_10_method_11_code 135 = .ok (.aload_n 0, 1) := by decide +kernel
theorem d5_136 : decode prog_10_method_11_code 136 = .ok (.getfield 7, 3) := by decide +kernel
theorem d5_139 : decode prog_10_method_11_code 139 = .ok (.arraylength, 1) := by decide +kernel
theorem d5_140 : decode prog_10_method_11_code 140 = .ok (.aload_n 0, 1) := by decide +kernel
theorem d5_141 : decode prog_10_method_11_code 141 = .ok (.getfield 13, 3) := by decide +kernel
theorem d5_144 : decode prog_10_method_11_code 144 = .ok (.isub, 1) := by decide +kernel
theorem d5_145 : decode prog_10_method_11_code 145 = .ok (.if_icmp .le 13, 3) := by decide +kernel
theorem d5_158 : decode prog_10_method_11_code 158 = .ok (.iload_n 2, 1) := by decide +kernel
theorem d5_159 : decode prog_10_method_11_code 159 = .ok (.ireturn, 1) := by decide +kernel
theorem pn_5 : plainName "com/example/vetter/vetter/io/DerReader" = true := by first | (simp [plainName, overriddenIn]; done) | decide +kernel
theorem ef_5 (m : MethodId) (x0 : Addr) : entryFrame m #[(.ref x0)] 5 = mkF m 0 #[.val (.ref x0), .unset, .unset, .unset, .unset] [] := by first | (simp [entryFrame, mkF, argsToLocals, Value.category]; done) | rfl
set_option maxRecDepth 65536 in
set_option maxHeartbeats 40000000 in
theorem rm5 (l : Launch) (Z : State) (a0 : Array Value) (hw : ∀ d ∈ tables_1, d.before a0 Z = true) (a1 : Addr) (h0 : Heap) (n0 : Nat) (Z0 : n0 ≤ h0.size) (da : Addr) (n : Nat) (f : Nat → Value) (zn sk pz : Int32) (hK : own_K n zn sk 2 pz) (E_a1 : Exa Z h0 a1 "com/example/vetter/vetter/io/DerReader") (F_data : Fld Z h0 a1 "com/example/vetter/vetter/io/DerReader" "data" "[B" (.ref da)) (V_da : BA Z h0 da .byte n f) (g_a1 : n0 ≤ a1) (ne_da : da ≠ a1) (F_position : Fld Z h0 a1 "com/example/vetter/vetter/io/DerReader" "position" "I" (.int 1)) (H1 : f 1 = .int sk) :
    Does l Z (⟨"com/example/vetter/vetter/io/DerReader", "readLength", "()I"⟩ : MethodName) prog_10_method_11_code 5 (some .int) ({ frames := 0, cells := 0, slots := 0, locals := 0 } : Room) #[(.ref a1)] h0 (fun v h L => v = some (.int sk) ∧ Fr n0 L ∧ Keep h0 h [a1] ∧ Exa Z h a1 "com/example/vetter/vetter/io/DerReader" ∧ Fld Z h a1 "com/example/vetter/vetter/io/DerReader" "data" "[B" (.ref da) ∧ Fld Z h a1 "com/example/vetter/vetter/io/DerReader" "position" "I" (.int 2)) := by
  refine Does.body (plainFor_of_name pn_5) ?_
  intro p e s m below meth c T0 X0 hx hZ hby hml hown hnm hret hlk e0
  replace hown : s.vm.findClass "com/example/vetter/vetter/io/DerReader" = some m.cls := hown
  have N0 := Fr.nil n0
  refine Go.frame (ef_5 m a1) ?_
  have K0 : Keep h0 h0 [a1] := Keep.refl _ _
  show Go _ _ _ _ T0 (mkF m 0 #[.val (.ref a1), .unset, .unset, .unset, .unset] [])
  rcases hK with ⟨rfl, rfl, rfl, -, rfl⟩ | ⟨rfl, rfl, rfl, -, rfl⟩ | ⟨rfl, rfl, rfl, -, rfl⟩
  ·
    show Go _ _ _ _ T0 (mkF m 0 #[.val (.ref a1), .unset, .unset, .unset, .unset] [])
    show Go _ _ _ _ T0 (mkF m 0 #[.val (.ref a1), .unset, .unset, .unset, .unset] [])
    refine Go.st (fun t k => XS.aloadN X0.here hx rfl (hb hby d5_0) rfl rfl k) ?_
    show Go _ _ _ _ T0 (mkF m 1 #[.val (.ref a1), .unset, .unset, .unset, .unset] [(.ref a1)])
    obtain ⟨T1, X1, e1, st1⟩ := getF X0 hx hZ hown (host := "") (Or.inl (hw _ (List.mem_of_getElem? (i := 17) rfl))) Via.refl e0 F_position (g := (mkF m 1 #[.val (.ref a1), .unset, .unset, .unset, .unset] [(.ref a1)])) rfl rfl (hb hby d5_1)
    refine Go.st st1 ?_
    show Go _ _ _ _ T1 (mkF m 4 #[.val (.ref a1), .unset, .unset, .unset, .unset] [(.int (1 : Int32))])
    refine Go.st (fun t k => XS.aloadN X1.here hx rfl (hb hby d5_4) rfl rfl k) ?_
    show Go _ _ _ _ T1 (mkF m 5 #[.val (.ref a1), .unset, .unset, .unset, .unset] [(.ref a1), (.int (1 : Int32))])
    obtain ⟨T2, X2, e2, st2⟩ := getF X1 hx hZ hown (host := "") (Or.inl (hw _ (List.mem_of_getElem? (i := 10) rfl))) Via.refl e1 F_data (g := (mkF m 5 #[.val (.ref a1), .unset, .unset, .unset, .unset] [(.ref a1), (.int (1 : Int32))])) rfl rfl (hb hby d5_5)
    refine Go.st st2 ?_
    show Go _ _ _ _ T2 (mkF m 8 #[.val (.ref a1), .unset, .unset, .unset, .unset] [(.ref da), (.int (1 : Int32))])
    refine goLen X2 hx hZ e2 V_da (z := (2 : Int32)) rfl (g := (mkF m 8 #[.val (.ref a1), .unset, .unset, .unset, .unset] [(.ref da), (.int (1 : Int32))])) rfl rfl (hb hby d5_8) ?_
    show Go _ _ _ _ T2 (mkF m 9 #[.val (.ref a1), .unset, .unset, .unset, .unset] [(.int (2 : Int32)), (.int (1 : Int32))])
    refine Go.st (fun t k => XS.icmpYes X2.here hx rfl (pc0 := 9) (pc' := 22) rfl (hb hby d5_9) rfl (by decide) (by decide) (by decide) k) ?_
    show Go _ _ _ _ T2 (mkF m 22 #[.val (.ref a1), .unset, .unset, .unset, .unset] [])
    refine Go.st (fun t k => XS.aloadN X2.here hx rfl (hb hby d5_22) rfl rfl k) ?_
    show Go _ _ _ _ T2 (mkF m 23 #[.val (.ref a1), .unset, .unset, .unset, .unset] [(.ref a1)])
    obtain ⟨T3, X3, e3, st3⟩ := getF X2 hx hZ hown (host := "") (Or.inl (hw _ (List.mem_of_getElem? (i := 10) rfl))) Via.refl e2 F_data (g := (mkF m 23 #[.val (.ref a1), .unset, .unset, .unset, .unset] [(.ref a1)])) rfl rfl (hb hby d5_23)
    refine Go.st st3 ?_
    show Go _ _ _ _ T3 (mkF m 26 #[.val (.ref a1), .unset, .unset, .unset, .unset] [(.ref da)])
    refine Go.st (fun t k => XS.aloadN X3.here hx rfl (hb hby d5_26) rfl rfl k) ?_
    show Go _ _ _ _ T3 (mkF m 27 #[.val (.ref a1), .unset, .unset, .unset, .unset] [(.ref a1), (.ref da)])
    refine Go.st (fun t k => XS.dup X3.here hx rfl (hb hby d5_27) rfl rfl k) ?_
    show Go _ _ _ _ T3 (mkF m 28 #[.val (.ref a1), .unset, .unset, .unset, .unset] [(.ref a1), (.ref a1), (.ref da)])
    obtain ⟨T4, X4, e4, st4⟩ := getF X3 hx hZ hown (host := "") (Or.inl (hw _ (List.mem_of_getElem? (i := 17) rfl))) Via.refl e3 F_position (g := (mkF m 28 #[.val (.ref a1), .unset, .unset, .unset, .unset] [(.ref a1), (.ref a1), (.ref da)])) rfl rfl (hb hby d5_28)
    refine Go.st st4 ?_
    show Go _ _ _ _ T4 (mkF m 31 #[.val (.ref a1), .unset, .unset, .unset, .unset] [(.int (1 : Int32)), (.ref a1), (.ref da)])
    refine Go.st (fun t k => XS.dupX1 X4.here hx rfl (hb hby d5_31) rfl rfl rfl k) ?_
    show Go _ _ _ _ T4 (mkF m 32 #[.val (.ref a1), .unset, .unset, .unset, .unset] [(.int (1 : Int32)), (.ref a1), (.int (1 : Int32)), (.ref da)])
    refine Go.st (fun t k => XS.iconst X4.here hx rfl (hb hby d5_32) k) ?_
    show Go _ _ _ _ T4 (mkF m 33 #[.val (.ref a1), .unset, .unset, .unset, .unset] [(.int (1 : Int32)), (.int (1 : Int32)), (.ref a1), (.int (1 : Int32)), (.ref da)])
    refine Go.st (fun t k => XS.iadd X4.here hx rfl (hb hby d5_33) rfl k) ?_
    show Go _ _ _ _ T4 (mkF m 34 #[.val (.ref a1), .unset, .unset, .unset, .unset] [(.int (2 : Int32)), (.ref a1), (.int (1 : Int32)), (.ref da)])
    obtain ⟨T5, h5, X5, e5, W5, st5⟩ := putF X4 hx hZ hown (host := "") (Or.inl (hw _ (List.mem_of_getElem? (i := 17) rfl))) Via.refl e4 F_position E_a1 (Or.inl (hw _ (List.mem_of_getElem? (i := 18) rfl))) (hw _ (List.mem_of_getElem? (i := 2) rfl)) (ty := .int) (by decide) rfl rfl (g := (mkF m 34 #[.val (.ref a1), .unset, .unset, .unset, .unset] [(.int (2 : Int32)), (.ref a1), (.int (1 : Int32)), (.ref da)])) rfl rfl (hb hby d5_34)
    have N5 := own_one (sl := Jvm.RoadKit.slotOf Z "com/example/vetter/vetter/io/DerReader" "position" "I") N0 g_a1
    have Z5 := own_sz W5 Z0
    have E_a1 := E_a1.wr W5
    have F_data := F_data.other W5 (Or.inr (Jvm.RoadKit.slot_ne (Or.inr (hw _ (List.mem_of_getElem? (i := 11) rfl))) (Or.inl (hw _ (List.mem_of_getElem? (i := 18) rfl))) (by decide) (t := (.array .byte)) (t' := .int) (by decide) (by decide)))
    have F_position := F_position.same W5
    have V_da := V_da.other W5 ne_da
    have K0 := K0.wr W5 (Or.inl (List.mem_of_getElem? (i := 0) rfl))
    refine Go.st st5 ?_
    show Go _ _ _ _ T5 (mkF m 37 #[.val (.ref a1), .unset, .unset, .unset, .unset] [(.int (1 : Int32)), (.ref da)])
    refine goLdB X5 hx hZ e5 V_da (v := (.int (0 : Int32))) (g := (mkF m 37 #[.val (.ref a1), .unset, .unset, .unset, .unset] [(.int (1 : Int32)), (.ref da)])) rfl rfl (hb hby d5_37) (k := 1) ⟨by decide, rfl, by decide⟩ H1 ?_
    show Go _ _ _ _ T5 (mkF m 38 #[.val (.ref a1), .unset, .unset, .unset, .unset] [(.int (0 : Int32))])
    refine Go.st (fun t k => XS.sipush X5.here hx rfl (hb hby d5_38) k) ?_
    show Go _ _ _ _ T5 (mkF m 41 #[.val (.ref a1), .unset, .unset, .unset, .unset] [(.int (255 : Int32)), (.int (0 : Int32))])
    refine Go.st (fun t k => XS.iand X5.here hx rfl (hb hby d5_41) rfl k) ?_
    show Go _ _ _ _ T5 (mkF m 42 #[.val (.ref a1), .unset, .unset, .unset, .unset] [(.int (0 : Int32))])
    refine Go.st (fun t k => XS.istoreN X5.here hx rfl (hb hby d5_42) rfl (l' := #[.val (.ref a1), .val (.int (0 : Int32)), .unset, .unset, .unset]) rfl k) ?_
    show Go _ _ _ _ T5 (mkF m 43 #[.val (.ref a1), .val (.int (0 : Int32)), .unset, .unset, .unset] [])
    refine Go.st (fun t k => XS.iloadN X5.here hx rfl (hb hby d5_43) rfl k) ?_
    show Go _ _ _ _ T5 (mkF m 44 #[.val (.ref a1), .val (.int (0 : Int32)), .unset, .unset, .unset] [(.int (0 : Int32))])
    refine Go.st (fun t k => XS.istoreN X5.here hx rfl (hb hby d5_44) rfl (l' := #[.val (.ref a1), .val (.int (0 : Int32)), .val (.int (0 : Int32)), .unset, .unset]) rfl k) ?_
    show Go _ _ _ _ T5 (mkF m 45 #[.val (.ref a1), .val (.int (0 : Int32)), .val (.int (0 : Int32)), .unset, .unset] [])
    refine Go.st (fun t k => XS.iloadN X5.here hx rfl (hb hby d5_45) rfl k) ?_
    show Go _ _ _ _ T5 (mkF m 46 #[.val (.ref a1), .val (.int (0 : Int32)), .val (.int (0 : Int32)), .unset, .unset] [(.int (0 : Int32))])
    refine Go.st (fun t k => XS.sipush X5.here hx rfl (hb hby d5_46) k) ?_
    show Go _ _ _ _ T5 (mkF m 49 #[.val (.ref a1), .val (.int (0 : Int32)), .val (.int (0 : Int32)), .unset, .unset] [(.int (128 : Int32)), (.int (0 : Int32))])
    refine Go.st (fun t k => XS.icmpYes X5.here hx rfl (pc0 := 49) (pc' := 134) rfl (hb hby d5_49) rfl (by decide) (by decide) (by decide) k) ?_
    show Go _ _ _ _ T5 (mkF m 134 #[.val (.ref a1), .val (.int (0 : Int32)), .val (.int (0 : Int32)), .unset, .unset] [])
    refine Go.st (fun t k => XS.iloadN X5.here hx rfl (hb hby d5_134) rfl k) ?_
    show Go _ _ _ _ T5 (mkF m 135 #[.val (.ref a1), .val (.int (0 : Int32)), .val (.int (0 : Int32)), .unset, .unset] [(.int (0 : Int32))])
    refine Go.st (fun t k => XS.aloadN X5.here hx rfl (hb hby d5_135) rfl rfl k) ?_
    show Go _ _ _ _ T5 (mkF m 136 #[.val (.ref a1), .val (.int (0 : Int32)), .val (.int (0 : Int32)), .unset, .unset] [(.ref a1), (.int (0 : Int32))])
    obtain ⟨T6, X6, e6, st6⟩ := getF X5 hx hZ hown (host := "") (Or.inl (hw _ (List.mem_of_getElem? (i := 10) rfl))) Via.refl e5 F_data (g := (mkF m 136 #[.val (.ref a1), .val (.int (0 : Int32)), .val (.int (0 : Int32)), .unset, .unset] [(.ref a1), (.int (0 : Int32))])) rfl rfl (hb hby d5_136)
    refine Go.st st6 ?_
    show Go _ _ _ _ T6 (mkF m 139 #[.val (.ref a1), .val (.int (0 : Int32)), .val (.int (0 : Int32)), .unset, .unset] [(.ref da), (.int (0 : Int32))])
    refine goLen X6 hx hZ e6 V_da (z := (2 : Int32)) rfl (g := (mkF m 139 #[.val (.ref a1), .val (.int (0 : Int32)), .val (.int (0 : Int32)), .unset, .unset] [(.ref da), (.int (0 : Int32))])) rfl rfl (hb hby d5_139) ?_
    show Go _ _ _ _ T6 (mkF m 140 #[.val (.ref a1), .val (.int (0 : Int32)), .val (.int (0 : Int32)), .unset, .unset] [(.int (2 : Int32)), (.int (0 : Int32))])
    refine Go.st (fun t k => XS.aloadN X6.here hx rfl (hb hby d5_140) rfl rfl k) ?_
    show Go _ _ _ _ T6 (mkF m 141 #[.val (.ref a1), .val (.int (0 : Int32)), .val (.int (0 : Int32)), .unset, .unset] [(.ref a1), (.int (2 : Int32)), (.int (0 : Int32))])
    obtain ⟨T7, X7, e7, st7⟩ := getF X6 hx hZ hown (host := "") (Or.inl (hw _ (List.mem_of_getElem? (i := 17) rfl))) Via.refl e6 F_position (g := (mkF m 141 #[.val (.ref a1), .val (.int (0 : Int32)), .val (.int (0 : Int32)), .unset, .unset] [(.ref a1), (.int (2 : Int32)), (.int (0 : Int32))])) rfl rfl (hb hby d5_141)
    refine Go.st st7 ?_
    show Go _ _ _ _ T7 (mkF m 144 #[.val (.ref a1), .val (.int (0 : Int32)), .val (.int (0 : Int32)), .unset, .unset] [(.int (2 : Int32)), (.int (2 : Int32)), (.int (0 : Int32))])
    refine Go.st (fun t k => XS.isub X7.here hx rfl (hb hby d5_144) rfl k) ?_
    show Go _ _ _ _ T7 (mkF m 145 #[.val (.ref a1), .val (.int (0 : Int32)), .val (.int (0 : Int32)), .unset, .unset] [(.int (0 : Int32)), (.int (0 : Int32))])
    refine Go.st (fun t k => XS.icmpYes X7.here hx rfl (pc0 := 145) (pc' := 158) rfl (hb hby d5_145) rfl (by decide) (by decide) (by decide) k) ?_
    show Go _ _ _ _ T7 (mkF m 158 #[.val (.ref a1), .val (.int (0 : Int32)), .val (.int (0 : Int32)), .unset, .unset] [])
    refine Go.st (fun t k => XS.iloadN X7.here hx rfl (hb hby d5_158) rfl k) ?_
    show Go _ _ _ _ T7 (mkF m 159 #[.val (.ref a1), .val (.int (0 : Int32)), .val (.int (0 : Int32)), .unset, .unset] [(.int (0 : Int32))])
    exact goI X7 hx hret hlk (hb hby d5_159) (by decide) (by decide) (by rw [e7]; exact ⟨rfl, N5, K0, E_a1, F_data, F_position⟩)
  ·
    show Go _ _ _ _ T0 (mkF m 0 #[.val (.ref a1), .unset, .unset, .unset, .unset] [])
    show Go _ _ _ _ T0 (mkF m 0 #[.val (.ref a1), .unset, .unset, .unset, .unset] [])
    refine Go.st (fun t k => XS.aloadN X0.here hx rfl (hb hby d5_0) rfl rfl k) ?_
    show Go _ _ _ _ T0 (mkF m 1 #[.val (.ref a1), .unset, .unset, .unset, .unset] [(.ref a1)])
    obtain ⟨T8, X8, e8, st8⟩ := getF X0 hx hZ hown (host := "") (Or.inl (hw _ (List.mem_of_getElem? (i := 17) rfl))) Via.refl e0 F_position (g := (mkF m 1 #[.val (.ref a1), .unset, .unset, .unset, .unset] [(.ref a1)])) rfl rfl (hb hby d5_1)
    refine Go.st st8 ?_
    show Go _ _ _ _ T8 (mkF m 4 #[.val (.ref a1), .unset, .unset, .unset, .unset] [(.int (1 : Int32))])
    refine Go.st (fun t k => XS.aloadN X8.here hx rfl (hb hby d5_4) rfl rfl k) ?_
    show Go _ _ _ _ T8 (mkF m 5 #[.val (.ref a1), .unset, .unset, .unset, .unset] [(.ref a1), (.int (1 : Int32))])
    obtain ⟨T9, X9, e9, st9⟩ := getF X8 hx hZ hown (host := "") (Or.inl (hw _ (List.mem_of_getElem? (i := 10) rfl))) Via.refl e8 F_data (g := (mkF m 5 #[.val (.ref a1), .unset, .unset, .unset, .unset] [(.ref a1), (.int (1 : Int32))])) rfl rfl (hb hby d5_5)
    refine Go.st st9 ?_
    show Go _ _ _ _ T9 (mkF m 8 #[.val (.ref a1), .unset, .unset, .unset, .unset] [(.ref da), (.int (1 : Int32))])
    refine goLen X9 hx hZ e9 V_da (z := (3 : Int32)) rfl (g := (mkF m 8 #[.val (.ref a1), .unset, .unset, .unset, .unset] [(.ref da), (.int (1 : Int32))])) rfl rfl (hb hby d5_8) ?_
    show Go _ _ _ _ T9 (mkF m 9 #[.val (.ref a1), .unset, .unset, .unset, .unset] [(.int (3 : Int32)), (.int (1 : Int32))])
    refine Go.st (fun t k => XS.icmpYes X9.here hx rfl (pc0 := 9) (pc' := 22) rfl (hb hby d5_9) rfl (by decide) (by decide) (by decide) k) ?_
    show Go _ _ _ _ T9 (mkF m 22 #[.val (.ref a1), .unset, .unset, .unset, .unset] [])
    refine Go.st (fun t k => XS.aloadN X9.here hx rfl (hb hby d5_22) rfl rfl k) ?_
    show Go _ _ _ _ T9 (mkF m 23 #[.val (.ref a1), .unset, .unset, .unset, .unset] [(.ref a1)])
    obtain ⟨T10, X10, e10, st10⟩ := getF X9 hx hZ hown (host := "") (Or.inl (hw _ (List.mem_of_getElem? (i := 10) rfl))) Via.refl e9 F_data (g := (mkF m 23 #[.val (.ref a1), .unset, .unset, .unset, .unset] [(.ref a1)])) rfl rfl (hb hby d5_23)
    refine Go.st st10 ?_
    show Go _ _ _ _ T10 (mkF m 26 #[.val (.ref a1), .unset, .unset, .unset, .unset] [(.ref da)])
    refine Go.st (fun t k => XS.aloadN X10.here hx rfl (hb hby d5_26) rfl rfl k) ?_
    show Go _ _ _ _ T10 (mkF m 27 #[.val (.ref a1), .unset, .unset, .unset, .unset] [(.ref a1), (.ref da)])
    refine Go.st (fun t k => XS.dup X10.here hx rfl (hb hby d5_27) rfl rfl k) ?_
    show Go _ _ _ _ T10 (mkF m 28 #[.val (.ref a1), .unset, .unset, .unset, .unset] [(.ref a1), (.ref a1), (.ref da)])
    obtain ⟨T11, X11, e11, st11⟩ := getF X10 hx hZ hown (host := "") (Or.inl (hw _ (List.mem_of_getElem? (i := 17) rfl))) Via.refl e10 F_position (g := (mkF m 28 #[.val (.ref a1), .unset, .unset, .unset, .unset] [(.ref a1), (.ref a1), (.ref da)])) rfl rfl (hb hby d5_28)
    refine Go.st st11 ?_
    show Go _ _ _ _ T11 (mkF m 31 #[.val (.ref a1), .unset, .unset, .unset, .unset] [(.int (1 : Int32)), (.ref a1), (.ref da)])
    refine Go.st (fun t k => XS.dupX1 X11.here hx rfl (hb hby d5_31) rfl rfl rfl k) ?_
    show Go _ _ _ _ T11 (mkF m 32 #[.val (.ref a1), .unset, .unset, .unset, .unset] [(.int (1 : Int32)), (.ref a1), (.int (1 : Int32)), (.ref da)])
    refine Go.st (fun t k => XS.iconst X11.here hx rfl (hb hby d5_32) k) ?_
    show Go _ _ _ _ T11 (mkF m 33 #[.val (.ref a1), .unset, .unset, .unset, .unset] [(.int (1 : Int32)), (.int (1 : Int32)), (.ref a1), (.int (1 : Int32)), (.ref da)])
    refine Go.st (fun t k => XS.iadd X11.here hx rfl (hb hby d5_33) rfl k) ?_
    show Go _ _ _ _ T11 (mkF m 34 #[.val (.ref a1), .unset, .unset, .unset, .unset] [(.int (2 : Int32)), (.ref a1), (.int (1 : Int32)), (.ref da)])
    obtain ⟨T12, h12, X12, e12, W12, st12⟩ := putF X11 hx hZ hown (host := "") (Or.inl (hw _ (List.mem_of_getElem? (i := 17) rfl))) Via.refl e11 F_position E_a1 (Or.inl (hw _ (List.mem_of_getElem? (i := 18) rfl))) (hw _ (List.mem_of_getElem? (i := 2) rfl)) (ty := .int) (by decide) rfl rfl (g := (mkF m 34 #[.val (.ref a1), .unset, .unset, .unset, .unset] [(.int (2 : Int32)), (.ref a1), (.int (1 : Int32)), (.ref da)])) rfl rfl (hb hby d5_34)
    have N12 := own_one (sl := Jvm.RoadKit.slotOf Z "com/example/vetter/vetter/io/DerReader" "position" "I") N0 g_a1
    have Z12 := own_sz W12 Z0
    have E_a1 := E_a1.wr W12
    have F_data := F_data.other W12 (Or.inr (Jvm.RoadKit.slot_ne (Or.inr (hw _ (List.mem_of_getElem? (i := 11) rfl))) (Or.inl (hw _ (List.mem_of_getElem? (i := 18) rfl))) (by decide) (t := (.array .byte)) (t' := .int) (by decide) (by decide)))
    have F_position := F_position.same W12
    have V_da := V_da.other W12 ne_da
    have K0 := K0.wr W12 (Or.inl (List.mem_of_getElem? (i := 0) rfl))
    refine Go.st st12 ?_
    show Go _ _ _ _ T12 (mkF m 37 #[.val (.ref a1), .unset, .unset, .unset, .unset] [(.int (1 : Int32)), (.ref da)])
    refine goLdB X12 hx hZ e12 V_da (v := (.int (0 : Int32))) (g := (mkF m 37 #[.val (.ref a1), .unset, .unset, .unset, .unset] [(.int (1 : Int32)), (.ref da)])) rfl rfl (hb hby d5_37) (k := 1) ⟨by decide, rfl, by decide⟩ H1 ?_
    show Go _ _ _ _ T12 (mkF m 38 #[.val (.ref a1), .unset, .unset, .unset, .unset] [(.int (0 : Int32))])
    refine Go.st (fun t k => XS.sipush X12.here hx rfl (hb hby d5_38) k) ?_
    show Go _ _ _ _ T12 (mkF m 41 #[.val (.ref a1), .unset, .unset, .unset, .unset] [(.int (255 : Int32)), (.int (0 : Int32))])
    refine Go.st (fun t k => XS.iand X12.here hx rfl (hb hby d5_41) rfl k) ?_
    show Go _ _ _ _ T12 (mkF m 42 #[.val (.ref a1), .unset, .unset, .unset, .unset] [(.int (0 : Int32))])
    refine Go.st (fun t k => XS.istoreN X12.here hx rfl (hb hby d5_42) rfl (l' := #[.val (.ref a1), .val (.int (0 : Int32)), .unset, .unset, .unset]) rfl k) ?_
    show Go _ _ _ _ T12 (mkF m 43 #[.val (.ref a1), .val (.int (0 : Int32)), .unset, .unset, .unset] [])
    refine Go.st (fun t k => XS.iloadN X12.here hx rfl (hb hby d5_43) rfl k) ?_
    show Go _ _ _ _ T12 (mkF m 44 #[.val (.ref a1), .val (.int (0 : Int32)), .unset, .unset, .unset] [(.int (0 : Int32))])
    refine Go.st (fun t k => XS.istoreN X12.here hx rfl (hb hby d5_44) rfl (l' := #[.val (.ref a1), .val (.int (0 : Int32)), .val (.int (0 : Int32)), .unset, .unset]) rfl k) ?_
    show Go _ _ _ _ T12 (mkF m 45 #[.val (.ref a1), .val (.int (0 : Int32)), .val (.int (0 : Int32)), .unset, .unset] [])
    refine Go.st (fun t k => XS.iloadN X12.here hx rfl (hb hby d5_45) rfl k) ?_
    show Go _ _ _ _ T12 (mkF m 46 #[.val (.ref a1), .val (.int (0 : Int32)), .val (.int (0 : Int32)), .unset, .unset] [(.int (0 : Int32))])
    refine Go.st (fun t k => XS.sipush X12.here hx rfl (hb hby d5_46) k) ?_
    show Go _ _ _ _ T12 (mkF m 49 #[.val (.ref a1), .val (.int (0 : Int32)), .val (.int (0 : Int32)), .unset, .unset] [(.int (128 : Int32)), (.int (0 : Int32))])
    refine Go.st (fun t k => XS.icmpYes X12.here hx rfl (pc0 := 49) (pc' := 134) rfl (hb hby d5_49) rfl (by decide) (by decide) (by decide) k) ?_
    show Go _ _ _ _ T12 (mkF m 134 #[.val (.ref a1), .val (.int (0 : Int32)), .val (.int (0 : Int32)), .unset, .unset] [])
    refine Go.st (fun t k => XS.iloadN X12.here hx rfl (hb hby d5_134) rfl k) ?_
    show Go _ _ _ _ T12 (mkF m 135 #[.val (.ref a1), .val (.int (0 : Int32)), .val (.int (0 : Int32)), .unset, .unset] [(.int (0 : Int32))])
    refine Go.st (fun t k => XS.aloadN X12.here hx rfl (hb hby d5_135) rfl rfl k) ?_
    show Go _ _ _ _ T12 (mkF m 136 #[.val (.ref a1), .val (.int (0 : Int32)), .val (.int (0 : Int32)), .unset, .unset] [(.ref a1), (.int (0 : Int32))])
    obtain ⟨T13, X13, e13, st13⟩ := getF X12 hx hZ hown (host := "") (Or.inl (hw _ (List.mem_of_getElem? (i := 10) rfl))) Via.refl e12 F_data (g := (mkF m 136 #[.val (.ref a1), .val (.int (0 : Int32)), .val (.int (0 : Int32)), .unset, .unset] [(.ref a1), (.int (0 : Int32))])) rfl rfl (hb hby d5_136)
    refine Go.st st13 ?_
    show Go _ _ _ _ T13 (mkF m 139 #[.val (.ref a1), .val (.int (0 : Int32)), .val (.int (0 : Int32)), .unset, .unset] [(.ref da), (.int (0 : Int32))])
    refine goLen X13 hx hZ e13 V_da (z := (3 : Int32)) rfl (g := (mkF m 139 #[.val (.ref a1), .val (.int (0 : Int32)), .val (.int (0 : Int32)), .unset, .unset] [(.ref da), (.int (0 : Int32))])) rfl rfl (hb hby d5_139) ?_
    show Go _ _ _ _ T13 (mkF m 140 #[.val (.ref a1), .val (.int (0 : Int32)), .val (.int (0 : Int32)), .unset, .unset] [(.int (3 : Int32)), (.int (0 : Int32))])
    refine Go.st (fun t k => XS.aloadN X13.here hx rfl (hb hby d5_140) rfl rfl k) ?_
    show Go _ _ _ _ T13 (mkF m 141 #[.val (.ref a1), .val (.int (0 : Int32)), .val (.int (0 : Int32)), .unset, .unset] [(.ref a1), (.int (3 : Int32)), (.int (0 : Int32))])
    obtain ⟨T14, X14, e14, st14⟩ := getF X13 hx hZ hown (host := "") (Or.inl (hw _ (List.mem_of_getElem? (i := 17) rfl))) Via.refl e13 F_position (g := (mkF m 141 #[.val (.ref a1), .val (.int (0 : Int32)), .val (.int (0 : Int32)), .unset, .unset] [(.ref a1), (.int (3 : Int32)), (.int (0 : Int32))])) rfl rfl (hb hby d5_141)
    refine Go.st st14 ?_
    show Go _ _ _ _ T14 (mkF m 144 #[.val (.ref a1), .val (.int (0 : Int32)), .val (.int (0 : Int32)), .unset, .unset] [(.int (2 : Int32)), (.int (3 : Int32)), (.int (0 : Int32))])
    refine Go.st (fun t k => XS.isub X14.here hx rfl (hb hby d5_144) rfl k) ?_
    show Go _ _ _ _ T14 (mkF m 145 #[.val (.ref a1), .val (.int (0 : Int32)), .val (.int (0 : Int32)), .unset, .unset] [(.int (1 : Int32)), (.int (0 : Int32))])
    refine Go.st (fun t k => XS.icmpYes X14.here hx rfl (pc0 := 145) (pc' := 158) rfl (hb hby d5_145) rfl (by decide) (by decide) (by decide) k) ?_
    show Go _ _ _ _ T14 (mkF m 158 #[.val (.ref a1), .val (.int (0 : Int32)), .val (.int (0 : Int32)), .unset, .unset] [])
    refine Go.st (fun t k => XS.iloadN X14.here hx rfl (hb hby d5_158) rfl k) ?_
    show Go _ _ _ _ T14 (mkF m 159 #[.val (.ref a1), .val (.int (0 : Int32)), .val (.int (0 : Int32)), .unset, .unset] [(.int (0 : Int32))])
    exact goI X14 hx hret hlk (hb hby d5_159) (by decide) (by decide) (by rw [e14]; exact ⟨rfl, N12, K0, E_a1, F_data, F_position⟩)
  ·
    show Go _ _ _ _ T0 (mkF m 0 #[.val (.ref a1), .unset, .unset, .unset, .unset] [])
    show Go _ _ _ _ T0 (mkF m 0 #[.val (.ref a1), .unset, .unset, .unset, .unset] [])
    refine Go.st (fun t k => XS.aloadN X0.here hx rfl (hb hby d5_0) rfl rfl k) ?_
    show Go _ _ _ _ T0 (mkF m 1 #[.val (.ref a1), .unset, .unset, .unset, .unset] [(.ref a1)])
    obtain ⟨T15, X15, e15, st15⟩ := getF X0 hx hZ hown (host := "") (Or.inl (hw _ (List.mem_of_getElem? (i := 17) rfl))) Via.refl e0 F_position (g := (mkF m 1 #[.val (.ref a1), .unset, .unset, .unset, .unset] [(.ref a1)])) rfl rfl (hb hby d5_1)
    refine Go.st st15 ?_
    show Go _ _ _ _ T15 (mkF m 4 #[.val (.ref a1), .unset, .unset, .unset, .unset] [(.int (1 : Int32))])
    refine Go.st (fun t k => XS.aloadN X15.here hx rfl (hb hby d5_4) rfl rfl k) ?_
    show Go _ _ _ _ T15 (mkF m 5 #[.val (.ref a1), .unset, .unset, .unset, .unset] [(.ref a1), (.int (1 : Int32))])
    obtain ⟨T16, X16, e16, st16⟩ := getF X15 hx hZ hown (host := "") (Or.inl (hw _ (List.mem_of_getElem? (i := 10) rfl))) Via.refl e15 F_data (g := (mkF m 5 #[.val (.ref a1), .unset, .unset, .unset, .unset] [(.ref a1), (.int (1 : Int32))])) rfl rfl (hb hby d5_5)
    refine Go.st st16 ?_
    show Go _ _ _ _ T16 (mkF m 8 #[.val (.ref a1), .unset, .unset, .unset, .unset] [(.ref da), (.int (1 : Int32))])
    refine goLen X16 hx hZ e16 V_da (z := (3 : Int32)) rfl (g := (mkF m 8 #[.val (.ref a1), .unset, .unset, .unset, .unset] [(.ref da), (.int (1 : Int32))])) rfl rfl (hb hby d5_8) ?_
    show Go _ _ _ _ T16 (mkF m 9 #[.val (.ref a1), .unset, .unset, .unset, .unset] [(.int (3 : Int32)), (.int (1 : Int32))])
    refine Go.st (fun t k => XS.icmpYes X16.here hx rfl (pc0 := 9) (pc' := 22) rfl (hb hby d5_9) rfl (by decide) (by decide) (by decide) k) ?_
    show Go _ _ _ _ T16 (mkF m 22 #[.val (.ref a1), .unset, .unset, .unset, .unset] [])
    refine Go.st (fun t k => XS.aloadN X16.here hx rfl (hb hby d5_22) rfl rfl k) ?_
    show Go _ _ _ _ T16 (mkF m 23 #[.val (.ref a1), .unset, .unset, .unset, .unset] [(.ref a1)])
    obtain ⟨T17, X17, e17, st17⟩ := getF X16 hx hZ hown (host := "") (Or.inl (hw _ (List.mem_of_getElem? (i := 10) rfl))) Via.refl e16 F_data (g := (mkF m 23 #[.val (.ref a1), .unset, .unset, .unset, .unset] [(.ref a1)])) rfl rfl (hb hby d5_23)
    refine Go.st st17 ?_
    show Go _ _ _ _ T17 (mkF m 26 #[.val (.ref a1), .unset, .unset, .unset, .unset] [(.ref da)])
    refine Go.st (fun t k => XS.aloadN X17.here hx rfl (hb hby d5_26) rfl rfl k) ?_
    show Go _ _ _ _ T17 (mkF m 27 #[.val (.ref a1), .unset, .unset, .unset, .unset] [(.ref a1), (.ref da)])
    refine Go.st (fun t k => XS.dup X17.here hx rfl (hb hby d5_27) rfl rfl k) ?_
    show Go _ _ _ _ T17 (mkF m 28 #[.val (.ref a1), .unset, .unset, .unset, .unset] [(.ref a1), (.ref a1), (.ref da)])
    obtain ⟨T18, X18, e18, st18⟩ := getF X17 hx hZ hown (host := "") (Or.inl (hw _ (List.mem_of_getElem? (i := 17) rfl))) Via.refl e17 F_position (g := (mkF m 28 #[.val (.ref a1), .unset, .unset, .unset, .unset] [(.ref a1), (.ref a1), (.ref da)])) rfl rfl (hb hby d5_28)
    refine Go.st st18 ?_
    show Go _ _ _ _ T18 (mkF m 31 #[.val (.ref a1), .unset, .unset, .unset, .unset] [(.int (1 : Int32)), (.ref a1), (.ref da)])
    refine Go.st (fun t k => XS.dupX1 X18.here hx rfl (hb hby d5_31) rfl rfl rfl k) ?_
    show Go _ _ _ _ T18 (mkF m 32 #[.val (.ref a1), .unset, .unset, .unset, .unset] [(.int (1 : Int32)), (.ref a1), (.int (1 : Int32)), (.ref da)])
    refine Go.st (fun t k => XS.iconst X18.here hx rfl (hb hby d5_32) k) ?_
    show Go _ _ _ _ T18 (mkF m 33 #[.val (.ref a1), .unset, .unset, .unset, .unset] [(.int (1 : Int32)), (.int (1 : Int32)), (.ref a1), (.int (1 : Int32)), (.ref da)])
    refine Go.st (fun t k => XS.iadd X18.here hx rfl (hb hby d5_33) rfl k) ?_
    show Go _ _ _ _ T18 (mkF m 34 #[.val (.ref a1), .unset, .unset, .unset, .unset] [(.int (2 : Int32)), (.ref a1), (.int (1 : Int32)), (.ref da)])
    obtain ⟨T19, h19, X19, e19, W19, st19⟩ := putF X18 hx hZ hown (host := "") (Or.inl (hw _ (List.mem_of_getElem? (i := 17) rfl))) Via.refl e18 F_position E_a1 (Or.inl (hw _ (List.mem_of_getElem? (i := 18) rfl))) (hw _ (List.mem_of_getElem? (i := 2) rfl)) (ty := .int) (by decide) rfl rfl (g := (mkF m 34 #[.val (.ref a1), .unset, .unset, .unset, .unset] [(.int (2 : Int32)), (.ref a1), (.int (1 : Int32)), (.ref da)])) rfl rfl (hb hby d5_34)
    have N19 := own_one (sl := Jvm.RoadKit.slotOf Z "com/example/vetter/vetter/io/DerReader" "position" "I") N0 g_a1
    have Z19 := own_sz W19 Z0
    have E_a1 := E_a1.wr W19
    have F_data := F_data.other W19 (Or.inr (Jvm.RoadKit.slot_ne (Or.inr (hw _ (List.mem_of_getElem? (i := 11) rfl))) (Or.inl (hw _ (List.mem_of_getElem? (i := 18) rfl))) (by decide) (t := (.array .byte)) (t' := .int) (by decide) (by decide)))
    have F_position := F_position.same W19
    have V_da := V_da.other W19 ne_da
    have K0 := K0.wr W19 (Or.inl (List.mem_of_getElem? (i := 0) rfl))
    refine Go.st st19 ?_
    show Go _ _ _ _ T19 (mkF m 37 #[.val (.ref a1), .unset, .unset, .unset, .unset] [(.int (1 : Int32)), (.ref da)])
    refine goLdB X19 hx hZ e19 V_da (v := (.int (1 : Int32))) (g := (mkF m 37 #[.val (.ref a1), .unset, .unset, .unset, .unset] [(.int (1 : Int32)), (.ref da)])) rfl rfl (hb hby d5_37) (k := 1) ⟨by decide, rfl, by decide⟩ H1 ?_
    show Go _ _ _ _ T19 (mkF m 38 #[.val (.ref a1), .unset, .unset, .unset, .unset] [(.int (1 : Int32))])
    refine Go.st (fun t k => XS.sipush X19.here hx rfl (hb hby d5_38) k) ?_
    show Go _ _ _ _ T19 (mkF m 41 #[.val (.ref a1), .unset, .unset, .unset, .unset] [(.int (255 : Int32)), (.int (1 : Int32))])
    refine Go.st (fun t k => XS.iand X19.here hx rfl (hb hby d5_41) rfl k) ?_
    show Go _ _ _ _ T19 (mkF m 42 #[.val (.ref a1), .unset, .unset, .unset, .unset] [(.int (1 : Int32))])
    refine Go.st (fun t k => XS.istoreN X19.here hx rfl (hb hby d5_42) rfl (l' := #[.val (.ref a1), .val (.int (1 : Int32)), .unset, .unset, .unset]) rfl k) ?_
    show Go _ _ _ _ T19 (mkF m 43 #[.val (.ref a1), .val (.int (1 : Int32)), .unset, .unset, .unset] [])
    refine Go.st (fun t k => XS.iloadN X19.here hx rfl (hb hby d5_43) rfl k) ?_
    show Go _ _ _ _ T19 (mkF m 44 #[.val (.ref a1), .val (.int (1 : Int32)), .unset, .unset, .unset] [(.int (1 : Int32))])
    refine Go.st (fun t k => XS.istoreN X19.here hx rfl (hb hby d5_44) rfl (l' := #[.val (.ref a1), .val (.int (1 : Int32)), .val (.int (1 : Int32)), .unset, .unset]) rfl k) ?_
    show Go _ _ _ _ T19 (mkF m 45 #[.val (.ref a1), .val (.int (1 : Int32)), .val (.int (1 : Int32)), .unset, .unset] [])
    refine Go.st (fun t k => XS.iloadN X19.here hx rfl (hb hby d5_45) rfl k) ?_
    show Go _ _ _ _ T19 (mkF m 46 #[.val (.ref a1), .val (.int (1 : Int32)), .val (.int (1 : Int32)), .unset, .unset] [(.int (1 : Int32))])
    refine Go.st (fun t k => XS.sipush X19.here hx rfl (hb hby d5_46) k) ?_
    show Go _ _ _ _ T19 (mkF m 49 #[.val (.ref a1), .val (.int (1 : Int32)), .val (.int (1 : Int32)), .unset, .unset] [(.int (128 : Int32)), (.int (1 : Int32))])
    refine Go.st (fun t k => XS.icmpYes X19.here hx rfl (pc0 := 49) (pc' := 134) rfl (hb hby d5_49) rfl (by decide) (by decide) (by decide) k) ?_
    show Go _ _ _ _ T19 (mkF m 134 #[.val (.ref a1), .val (.int (1 : Int32)), .val (.int (1 : Int32)), .unset, .unset] [])
    refine Go.st (fun t k => XS.iloadN X19.here hx rfl (hb hby d5_134) rfl k) ?_
    show Go _ _ _ _ T19 (mkF m 135 #[.val (.ref a1), .val (.int (1 : Int32)), .val (.int (1 : Int32)), .unset, .unset] [(.int (1 : Int32))])
    refine Go.st (fun t k => XS.aloadN X19.here hx rfl (hb hby d5_135) rfl rfl k) ?_
    show Go _ _ _ _ T19 (mkF m 136 #[.val (.ref a1), .val (.int (1 : Int32)), .val (.int (1 : Int32)), .unset, .unset] [(.ref a1), (.int (1 : Int32))])
    obtain ⟨T20, X20, e20, st20⟩ := getF X19 hx hZ hown (host := "") (Or.inl (hw _ (List.mem_of_getElem? (i := 10) rfl))) Via.refl e19 F_data (g := (mkF m 136 #[.val (.ref a1), .val (.int (1 : Int32)), .val (.int (1 : Int32)), .unset, .unset] [(.ref a1), (.int (1 : Int32))])) rfl rfl (hb hby d5_136)
    refine Go.st st20 ?_
    show Go _ _ _ _ T20 (mkF m 139 #[.val (.ref a1), .val (.int (1 : Int32)), .val (.int (1 : Int32)), .unset, .unset] [(.ref da), (.int (1 : Int32))])
    refine goLen X20 hx hZ e20 V_da (z := (3 : Int32)) rfl (g := (mkF m 139 #[.val (.ref a1), .val (.int (1 : Int32)), .val (.int (1 : Int32)), .unset, .unset] [(.ref da), (.int (1 : Int32))])) rfl rfl (hb hby d5_139) ?_
    show Go _ _ _ _ T20 (mkF m 140 #[.val (.ref a1), .val (.int (1 : Int32)), .val (.int (1 : Int32)), .unset, .unset] [(.int (3 : Int32)), (.int (1 : Int32))])
    refine Go.st (fun t k => XS.aloadN X20.here hx rfl (hb hby d5_140) rfl rfl k) ?_
    show Go _ _ _ _ T20 (mkF m 141 #[.val (.ref a1), .val (.int (1 : Int32)), .val (.int (1 : Int32)), .unset, .unset] [(.ref a1), (.int (3 : Int32)), (.int (1 : Int32))])
    obtain ⟨T21, X21, e21, st21⟩ := getF X20 hx hZ hown (host := "") (Or.inl (hw _ (List.mem_of_getElem? (i := 17) rfl))) Via.refl e20 F_position (g := (mkF m 141 #[.val (.ref a1), .val (.int (1 : Int32)), .val (.int (1 : Int32)), .unset, .unset] [(.ref a1), (.int (3 : Int32)), (.int (1 : Int32))])) rfl rfl (hb hby d5_141)
    refine Go.st st21 ?_
    show Go _ _ _ _ T21 (mkF m 144 #[.val (.ref a1), .val (.int (1 : Int32)), .val (.int (1 : Int32)), .unset, .unset] [(.int (2 : Int32)), (.int (3 : Int32)), (.int (1 : Int32))])
    refine Go.st (fun t k => XS.isub X21.here hx rfl (hb hby d5_144) rfl k) ?_
    show Go _ _ _ _ T21 (mkF m 145 #[.val (.ref a1), .val (.int (1 : Int32)), .val (.int (1 : Int32)), .unset, .unset] [(.int (1 : Int32)), (.int (1 : Int32))])
    refine Go.st (fun t k => XS.icmpYes X21.here hx rfl (pc0 := 145) (pc' := 158) rfl (hb hby d5_145) rfl (by decide) (by decide) (by decide) k) ?_
    show Go _ _ _ _ T21 (mkF m 158 #[.val (.ref a1), .val (.int (1 : Int32)), .val (.int (1 : Int32)), .unset, .unset] [])
    refine Go.st (fun t k => XS.iloadN X21.here hx rfl (hb hby d5_158) rfl k) ?_
    show Go _ _ _ _ T21 (mkF m 159 #[.val (.ref a1), .val (.int (1 : Int32)), .val (.int (1 : Int32)), .unset, .unset] [(.int (1 : Int32))])
    exact goI X21 hx hret hlk (hb hby d5_159) (by decide) (by decide) (by rw [e21]; exact ⟨rfl, N19, K0, E_a1, F_data, F_position⟩)
theorem d4_0 : decode prog_10_method_4_code 0 = .ok (.aload_n 0, 1) := by decide +kernel
theorem d4_1 : decode prog_10_method_4_code 1 = .ok (.iload_n 1, 1) := by decide +kernel
theorem d4_2 : decode prog_10_method_4_code 2 = .ok (.invokevirtual 17, 3) := by decide +kernel
theorem d4_5 : decode prog_10_method_4_code 5 = .ok (.ifCond .ne 30, 3) := by decide +kernel
theorem d4_35 : decode prog_10_method_4_code 35 = .ok (.aload_n 0, 1) := by decide +kernel
theorem d4_36 : decode prog_10_method_4_code 36 = .ok (.dup, 1) := by decide +kernel
theorem d4_37 : decode prog_10_method_4_code 37 = .ok (.getfield 13, 3) := by decide +kernel
theorem d4_40 : decode prog_10_method_4_code 40 = .ok (.iconst 1, 1) := by decide +kernel
theorem d4_41 : decode prog_10_method_4_code 41 = .ok (.iadd, 1) := by decide +kernel
theorem d4_42 : decode prog_10_method_4_code 42 = .ok (.putfield 13, 3) := by decide +kernel
theorem d4_45 : decode prog_10_method_4_code 45 = .ok (.aload_n 0, 1) := by decide +kernel
theorem d4_46 : decode prog_10_method_4_code 46 = .ok (.invokevirtual 30, 3) := by decide +kernel
theorem d4_49 : decode prog_10_method_4_code 49 = .ok (.istore_n 2, 1) := by decide +kernel
theorem d4_50 : decode prog_10_method_4_code 50 = .ok (.aload_n 0, 1) := by decide +kernel
theorem d4_51 : decode prog_10_method_4_code 51 = .ok (.getfield 7, 3) := by decide +kernel
theorem d4_54 : decode prog_10_method_4_code 54 = .ok (.aload_n 0, 1) := by decide +kernel
theorem d4_55 : decode prog_10_method_4_code 55 = .ok (.getfield 13, 3) := by decide +kernel
theorem d4_58 : decode prog_10_method_4_code 58 = .ok (.aload_n 0, 1) := by decide +kernel
theorem d4_59 : decode prog_10_method_4_code 59 = .ok (.getfield 13, 3) := by decide +kernel
theorem d4_62 : decode prog_10_method_4_code 62 = .ok (.iload_n 2, 1) := by decide +kernel
theorem d4_63 : decode prog_10_method_4_code 63 = .ok (.iadd, 1) := by decide +kernel
theorem d4_64 : decode prog_10_method_4_code 64 = .ok (.invokestatic 34, 3) := by decide +kernel
theorem d4_67 : decode prog_10_method_4_code 67 = .ok (.astore_n 3, 1) := by decide +kernel
theorem d4_68 : decode prog_10_method_4_code 68 = .ok (.aload_n 0, 1) := by decide +kernel
theorem d4_69 : decode prog_10_method_4_code 69 = .ok (.dup, 1) := by decide +kernel
theorem d4_70 : decode prog_10_method_4_code 70 = .ok (.getfield 13, 3) := by decide +kernel
theorem d4_73 : decode prog_10_method_4_code 73 = .ok (.iload_n 2, 1) := by decide +kernel
theorem d4_74 : decode prog_10_method_4_code 74 = .ok (.iadd, 1) := by decide +kernel
theorem d4_75 : decode prog_10_method_4_code 75 = .ok (.putfield 13, 3) := by decide +kernel
theorem d4_78 : decode prog_10_method_4_code 78 = .ok (.aload_n 3, 1) := by decide +kernel
theorem d4_79 : decode prog_10_method_4_code 79 = .ok (.areturn, 1) := by decide +kernel
theorem pn_4 : plainName "com/example/vetter/vetter/io/DerReader" = true := by first | (simp [plainName, overriddenIn]; done) | decide +kernel
theorem pd4_0 : parseMethodDescriptor "(I)Z" = some ⟨[.int], some .boolean⟩ := by decide +kernel
theorem pd4_1 : parseMethodDescriptor "()I" = some ⟨[], some .int⟩ := by decide +kernel
theorem pd4_2 : parseMethodDescriptor "([BII)[B" = some ⟨[(.array .byte), .int, .int], some (.array .byte)⟩ := by decide +kernel
theorem ef_4 (m : MethodId) (x0 : Addr) (x1 : Int32) : entryFrame m #[(.ref x0), (.int x1)] 4 = mkF m 0 #[.val (.ref x0), .val (.int x1), .unset, .unset] [] := by first | (simp [entryFrame, mkF, argsToLocals, Value.category]; done) | rfl
set_option maxRecDepth 65536 in
set_option maxHeartbeats 40000000 in
theorem rm4 (l : Launch) (Z : State) (a0 : Array Value) (hw : ∀ d ∈ tables_1, d.before a0 Z = true) (a1 : Addr) (p2 : Int32) (h0 : Heap) (n0 : Nat) (Z0 : n0 ≤ h0.size) (da : Addr) (n : Nat) (f : Nat → Value) (zn sk pz w0 : Int32) (hK : own_K n zn sk 2 pz) (E_a1 : Exa Z h0 a1 "com/example/vetter/vetter/io/DerReader") (F_data : Fld Z h0 a1 "com/example/vetter/vetter/io/DerReader" "data" "[B" (.ref da)) (V_da : BA Z h0 da .byte n f) (g_a1 : n0 ≤ a1) (ne_da : da ≠ a1) (F_position : Fld Z h0 a1 "com/example/vetter/vetter/io/DerReader" "position" "I" (.int 0)) (H0 : f 0 = .int w0) (hw0 : (w0 &&& (255 : Int32)) = p2) (H1 : f 1 = .int sk) (fa : ∀ i, i < n → fits .byte (f i) = true) :
    Does l Z (⟨"com/example/vetter/vetter/io/DerReader", "read", "(I)[B"⟩ : MethodName) prog_10_method_4_code 4 (some (.array .byte)) ({ frames := 3, cells := 1, slots := 1, locals := 70 } : Room) #[(.ref a1), (.int p2)] h0 (fun v h L => (∃ b, v = some (.ref b)) ∧ Fr n0 L ∧ Keep h0 h [a1] ∧ Exa Z h a1 "com/example/vetter/vetter/io/DerReader" ∧ Fld Z h a1 "com/example/vetter/vetter/io/DerReader" "data" "[B" (.ref da) ∧ Fld Z h a1 "com/example/vetter/vetter/io/DerReader" "position" "I" (.int pz)) := by
  refine Does.body (plainFor_of_name pn_4) ?_
  intro p e s m below meth c T0 X0 hx hZ hby hml hown hnm hret hlk e0
  replace hown : s.vm.findClass "com/example/vetter/vetter/io/DerReader" = some m.cls := hown
  have N0 := Fr.nil n0
  refine Go.frame (ef_4 m a1 p2) ?_
  have K0 : Keep h0 h0 [a1] := Keep.refl _ _
  show Go _ _ _ _ T0 (mkF m 0 #[.val (.ref a1), .val (.int p2), .unset, .unset] [])
  rcases hK with ⟨rfl, rfl, rfl, -, rfl⟩ | ⟨rfl, rfl, rfl, -, rfl⟩ | ⟨rfl, rfl, rfl, -, rfl⟩
  ·
    show Go _ _ _ _ T0 (mkF m 0 #[.val (.ref a1), .val (.int p2), .unset, .unset] [])
    show Go _ _ _ _ T0 (mkF m 0 #[.val (.ref a1), .val (.int p2), .unset, .unset] [])
    refine Go.st (fun t k => XS.aloadN X0.here hx rfl (hb hby d4_0) rfl rfl k) ?_
    show Go _ _ _ _ T0 (mkF m 1 #[.val (.ref a1), .val (.int p2), .unset, .unset] [(.ref a1)])
    refine Go.st (fun t k => XS.iloadN X0.here hx rfl (hb hby d4_1) rfl k) ?_
    show Go _ _ _ _ T0 (mkF m 2 #[.val (.ref a1), .val (.int p2), .unset, .unset] [(.int p2), (.ref a1)])
    refine goM X0 hx hZ (y := (⟨"com/example/vetter/vetter/io/DerReader", "nextIs", "(I)Z"⟩ : MethodName)) (z := (⟨"com/example/vetter/vetter/io/DerReader", "nextIs", "(I)Z"⟩ : MethodName)) hown (hw _ (List.mem_of_getElem? (i := 24) rfl)) (hw _ (List.mem_of_getElem? (i := 13) rfl)) (hw _ (List.mem_of_getElem? (i := 15) rfl)) (hw _ (List.mem_of_getElem? (i := 14) rfl)) (hw _ (List.mem_of_getElem? (i := 16) rfl)) (hw _ (List.mem_of_getElem? (i := 3) rfl)) (notFace_of_selects (args := #[]) (mvT hZ (hw _ (List.mem_of_getElem? (i := 15) rfl)))) (by decide) (rm3 l Z a0 hw a1 p2 h0 n0 Z0 0 da 2 f (2 : Int32) w0 F_position F_data V_da rfl (fun _ => ⟨0, ⟨by decide, rfl, by decide⟩, H0⟩)) e0 N0 E_a1 0 (by decide) (by decide) (by decide) (by decide) (g := (mkF m 2 #[.val (.ref a1), .val (.int p2), .unset, .unset] [(.int p2), (.ref a1)])) rfl (by rw [hml]; rfl) [(.int p2)] [] (lenOf pd4_0 rfl) rfl rfl (by show 2 * 0 + _ ≤ _; exact Nat.le_of_eq rfl) (hb hby d4_2) ?_
    intro T1 v1 L1 M1 X1 N1 hq1
    obtain ⟨hq1, N1q, e1⟩ := hq1
    replace N1 := N1 N1q
    rcases hq1 with ⟨-, -, rfl⟩ | ⟨hr1, rfl⟩
    ·
      show Go _ _ _ _ T1 (mkF m 5 #[.val (.ref a1), .val (.int p2), .unset, .unset] [(.int (1 : Int32))])
      refine Go.st (fun t k => XS.ifYes X1.here hx rfl (pc0 := 5) (pc' := 35) rfl (hb hby d4_5) rfl (by decide) (by decide) (by decide) k) ?_
      show Go _ _ _ _ T1 (mkF m 35 #[.val (.ref a1), .val (.int p2), .unset, .unset] [])
      refine Go.st (fun t k => XS.aloadN X1.here hx rfl (hb hby d4_35) rfl rfl k) ?_
      show Go _ _ _ _ T1 (mkF m 36 #[.val (.ref a1), .val (.int p2), .unset, .unset] [(.ref a1)])
      refine Go.st (fun t k => XS.dup X1.here hx rfl (hb hby d4_36) rfl rfl k) ?_
      show Go _ _ _ _ T1 (mkF m 37 #[.val (.ref a1), .val (.int p2), .unset, .unset] [(.ref a1), (.ref a1)])
      obtain ⟨T2, X2, e2, st2⟩ := getF X1 hx hZ hown (host := "") (Or.inl (hw _ (List.mem_of_getElem? (i := 17) rfl))) Via.refl e1 F_position (g := (mkF m 37 #[.val (.ref a1), .val (.int p2), .unset, .unset] [(.ref a1), (.ref a1)])) rfl rfl (hb hby d4_37)
      refine Go.st st2 ?_
      show Go _ _ _ _ T2 (mkF m 40 #[.val (.ref a1), .val (.int p2), .unset, .unset] [(.int (0 : Int32)), (.ref a1)])
      refine Go.st (fun t k => XS.iconst X2.here hx rfl (hb hby d4_40) k) ?_
      show Go _ _ _ _ T2 (mkF m 41 #[.val (.ref a1), .val (.int p2), .unset, .unset] [(.int (1 : Int32)), (.int (0 : Int32)), (.ref a1)])
      refine Go.st (fun t k => XS.iadd X2.here hx rfl (hb hby d4_41) rfl k) ?_
      show Go _ _ _ _ T2 (mkF m 42 #[.val (.ref a1), .val (.int p2), .unset, .unset] [(.int (1 : Int32)), (.ref a1)])
      obtain ⟨T3, h3, X3, e3, W3, st3⟩ := putF X2 hx hZ hown (host := "") (Or.inl (hw _ (List.mem_of_getElem? (i := 17) rfl))) Via.refl e2 F_position E_a1 (Or.inl (hw _ (List.mem_of_getElem? (i := 18) rfl))) (hw _ (List.mem_of_getElem? (i := 2) rfl)) (ty := .int) (by decide) rfl rfl (g := (mkF m 42 #[.val (.ref a1), .val (.int p2), .unset, .unset] [(.int (1 : Int32)), (.ref a1)])) rfl rfl (hb hby d4_42)
      have N3 := own_one (sl := Jvm.RoadKit.slotOf Z "com/example/vetter/vetter/io/DerReader" "position" "I") N1 g_a1
      have Z3 := own_sz W3 Z0
      have E_a1 := E_a1.wr W3
      have F_data := F_data.other W3 (Or.inr (Jvm.RoadKit.slot_ne (Or.inr (hw _ (List.mem_of_getElem? (i := 11) rfl))) (Or.inl (hw _ (List.mem_of_getElem? (i := 18) rfl))) (by decide) (t := (.array .byte)) (t' := .int) (by decide) (by decide)))
      have F_position := F_position.same W3
      have V_da := V_da.other W3 ne_da
      have K0 := K0.wr W3 (Or.inl (List.mem_of_getElem? (i := 0) rfl))
      refine Go.st st3 ?_
      show Go _ _ _ _ T3 (mkF m 45 #[.val (.ref a1), .val (.int p2), .unset, .unset] [])
      refine Go.st (fun t k => XS.aloadN X3.here hx rfl (hb hby d4_45) rfl rfl k) ?_
      show Go _ _ _ _ T3 (mkF m 46 #[.val (.ref a1), .val (.int p2), .unset, .unset] [(.ref a1)])
      refine goP X3 hx hZ (y := (⟨"com/example/vetter/vetter/io/DerReader", "readLength", "()I"⟩ : MethodName)) hown (hw _ (List.mem_of_getElem? (i := 25) rfl)) (hw _ (List.mem_of_getElem? (i := 26) rfl)) (Jvm.Kit.selects_private (by decide) (hw _ (List.mem_of_getElem? (i := 2) rfl)) (hw _ (List.mem_of_getElem? (i := 27) rfl)) (hw _ (List.mem_of_getElem? (i := 26) rfl))) (hw _ (List.mem_of_getElem? (i := 27) rfl)) (hw _ (List.mem_of_getElem? (i := 28) rfl)) (hw _ (List.mem_of_getElem? (i := 3) rfl)) (by decide) (rm5 l Z a0 hw a1 h3 n0 Z3 da 2 f (2 : Int32) (0 : Int32) (2 : Int32) (by simp [own_K]) E_a1 F_data V_da g_a1 ne_da F_position H1) e3 N3 E_a1 0 (by decide) (by decide) (by decide) (by decide) (g := (mkF m 46 #[.val (.ref a1), .val (.int p2), .unset, .unset] [(.ref a1)])) rfl (by rw [hml]; rfl) [] [] (lenOf pd4_1 rfl) rfl rfl (by show 2 * 0 + _ ≤ _; exact Nat.le_of_eq rfl) (hb hby d4_46) ?_
      intro T4 v4 L4 M4 X4 N4 hq4
      obtain ⟨rfl, N4q, K4, E_a1, F_data, F_position⟩ := hq4
      replace N4 := N4 N4q
      have Z4 := Nat.le_trans Z3 K4.1
      have V_da := V_da.keep K4 (ninS ne_da nin0)
      have K0 := K0.trans K4 (allS (Or.inl (List.mem_of_getElem? (i := 0) rfl)) all0)
      show Go _ _ _ _ T4 (mkF m 49 #[.val (.ref a1), .val (.int p2), .unset, .unset] [(.int (0 : Int32))])
      refine Go.st (fun t k => XS.istoreN X4.here hx rfl (hb hby d4_49) rfl (l' := #[.val (.ref a1), .val (.int p2), .val (.int (0 : Int32)), .unset]) rfl k) ?_
      show Go _ _ _ _ T4 (mkF m 50 #[.val (.ref a1), .val (.int p2), .val (.int (0 : Int32)), .unset] [])
      refine Go.st (fun t k => XS.aloadN X4.here hx rfl (hb hby d4_50) rfl rfl k) ?_
      show Go _ _ _ _ T4 (mkF m 51 #[.val (.ref a1), .val (.int p2), .val (.int (0 : Int32)), .unset] [(.ref a1)])
      obtain ⟨T5, X5, e5, st5⟩ := getF X4 hx hZ hown (host := "") (Or.inl (hw _ (List.mem_of_getElem? (i := 10) rfl))) Via.refl rfl F_data (g := (mkF m 51 #[.val (.ref a1), .val (.int p2), .val (.int (0 : Int32)), .unset] [(.ref a1)])) rfl rfl (hb hby d4_51)
      refine Go.st st5 ?_
      show Go _ _ _ _ T5 (mkF m 54 #[.val (.ref a1), .val (.int p2), .val (.int (0 : Int32)), .unset] [(.ref da)])
      refine Go.st (fun t k => XS.aloadN X5.here hx rfl (hb hby d4_54) rfl rfl k) ?_
      show Go _ _ _ _ T5 (mkF m 55 #[.val (.ref a1), .val (.int p2), .val (.int (0 : Int32)), .unset] [(.ref a1), (.ref da)])
      obtain ⟨T6, X6, e6, st6⟩ := getF X5 hx hZ hown (host := "") (Or.inl (hw _ (List.mem_of_getElem? (i := 17) rfl))) Via.refl e5 F_position (g := (mkF m 55 #[.val (.ref a1), .val (.int p2), .val (.int (0 : Int32)), .unset] [(.ref a1), (.ref da)])) rfl rfl (hb hby d4_55)
      refine Go.st st6 ?_
      show Go _ _ _ _ T6 (mkF m 58 #[.val (.ref a1), .val (.int p2), .val (.int (0 : Int32)), .unset] [(.int (2 : Int32)), (.ref da)])
      refine Go.st (fun t k => XS.aloadN X6.here hx rfl (hb hby d4_58) rfl rfl k) ?_
      show Go _ _ _ _ T6 (mkF m 59 #[.val (.ref a1), .val (.int p2), .val (.int (0 : Int32)), .unset] [(.ref a1), (.int (2 : Int32)), (.ref da)])
      obtain ⟨T7, X7, e7, st7⟩ := getF X6 hx hZ hown (host := "") (Or.inl (hw _ (List.mem_of_getElem? (i := 17) rfl))) Via.refl e6 F_position (g := (mkF m 59 #[.val (.ref a1), .val (.int p2), .val (.int (0 : Int32)), .unset] [(.ref a1), (.int (2 : Int32)), (.ref da)])) rfl rfl (hb hby d4_59)
      refine Go.st st7 ?_
      show Go _ _ _ _ T7 (mkF m 62 #[.val (.ref a1), .val (.int p2), .val (.int (0 : Int32)), .unset] [(.int (2 : Int32)), (.int (2 : Int32)), (.ref da)])
      refine Go.st (fun t k => XS.iloadN X7.here hx rfl (hb hby d4_62) rfl k) ?_
      show Go _ _ _ _ T7 (mkF m 63 #[.val (.ref a1), .val (.int p2), .val (.int (0 : Int32)), .unset] [(.int (0 : Int32)), (.int (2 : Int32)), (.int (2 : Int32)), (.ref da)])
      refine Go.st (fun t k => XS.iadd X7.here hx rfl (hb hby d4_63) rfl k) ?_
      show Go _ _ _ _ T7 (mkF m 64 #[.val (.ref a1), .val (.int p2), .val (.int (0 : Int32)), .unset] [(.int (2 : Int32)), (.int (2 : Int32)), (.ref da)])
      refine goS X7 hx hZ (y := (⟨"java/util/Arrays", "copyOfRange", "([BII)[B"⟩ : MethodName)) hown (hw _ (List.mem_of_getElem? (i := 29) rfl)) (hw _ (List.mem_of_getElem? (i := 30) rfl)) (hw _ (List.mem_of_getElem? (i := 31) rfl)) (hw _ (List.mem_of_getElem? (i := 32) rfl)) (by decide) (rm6 l Z a0 hw da (2 : Int32) (2 : Int32) T4.heap n0 Z4 2 f (2 : Int32) (0 : Int32) (by simp [own_K]) V_da fa) e7 N4 0 (by decide) (by decide) (by decide) (by decide) (g := (mkF m 64 #[.val (.ref a1), .val (.int p2), .val (.int (0 : Int32)), .unset] [(.int (2 : Int32)), (.int (2 : Int32)), (.ref da)])) rfl (by rw [hml]; rfl) [(.ref da), (.int (2 : Int32)), (.int (2 : Int32))] [] (lenOf pd4_2 rfl) rfl rfl (by show 2 * 0 + _ ≤ _; exact Nat.le_of_eq rfl) (hb hby d4_64) ?_
      intro T8 v8 L8 M8 X8 N8 hq8
      obtain ⟨⟨b8, rfl⟩, N8q, K8⟩ := hq8
      replace N8 := N8 N8q
      have Z8 := Nat.le_trans Z4 K8.1
      have E_a1 := E_a1.keep K8
      have F_data := F_data.keep K8 nin0
      have F_position := F_position.keep K8 nin0
      have V_da := V_da.keep K8 nin0
      have K0 := K0.trans K8 all0
      show Go _ _ _ _ T8 (mkF m 67 #[.val (.ref a1), .val (.int p2), .val (.int (0 : Int32)), .unset] [(.ref b8)])
      refine Go.st (fun t k => XS.astoreN X8.here hx rfl (hb hby d4_67) rfl rfl (l' := #[.val (.ref a1), .val (.int p2), .val (.int (0 : Int32)), .val (.ref b8)]) rfl k) ?_
      show Go _ _ _ _ T8 (mkF m 68 #[.val (.ref a1), .val (.int p2), .val (.int (0 : Int32)), .val (.ref b8)] [])
      refine Go.st (fun t k => XS.aloadN X8.here hx rfl (hb hby d4_68) rfl rfl k) ?_
      show Go _ _ _ _ T8 (mkF m 69 #[.val (.ref a1), .val (.int p2), .val (.int (0 : Int32)), .val (.ref b8)] [(.ref a1)])
      refine Go.st (fun t k => XS.dup X8.here hx rfl (hb hby d4_69) rfl rfl k) ?_
      show Go _ _ _ _ T8 (mkF m 70 #[.val (.ref a1), .val (.int p2), .val (.int (0 : Int32)), .val (.ref b8)] [(.ref a1), (.ref a1)])
      obtain ⟨T9, X9, e9, st9⟩ := getF X8 hx hZ hown (host := "") (Or.inl (hw _ (List.mem_of_getElem? (i := 17) rfl))) Via.refl rfl F_position (g := (mkF m 70 #[.val (.ref a1), .val (.int p2), .val (.int (0 : Int32)), .val (.ref b8)] [(.ref a1), (.ref a1)])) rfl rfl (hb hby d4_70)
      refine Go.st st9 ?_
      show Go _ _ _ _ T9 (mkF m 73 #[.val (.ref a1), .val (.int p2), .val (.int (0 : Int32)), .val (.ref b8)] [(.int (2 : Int32)), (.ref a1)])
      refine Go.st (fun t k => XS.iloadN X9.here hx rfl (hb hby d4_73) rfl k) ?_
      show Go _ _ _ _ T9 (mkF m 74 #[.val (.ref a1), .val (.int p2), .val (.int (0 : Int32)), .val (.ref b8)] [(.int (0 : Int32)), (.int (2 : Int32)), (.ref a1)])
      refine Go.st (fun t k => XS.iadd X9.here hx rfl (hb hby d4_74) rfl k) ?_
      show Go _ _ _ _ T9 (mkF m 75 #[.val (.ref a1), .val (.int p2), .val (.int (0 : Int32)), .val (.ref b8)] [(.int (2 : Int32)), (.ref a1)])
      obtain ⟨T10, h10, X10, e10, W10, st10⟩ := putF X9 hx hZ hown (host := "") (Or.inl (hw _ (List.mem_of_getElem? (i := 17) rfl))) Via.refl e9 F_position E_a1 (Or.inl (hw _ (List.mem_of_getElem? (i := 18) rfl))) (hw _ (List.mem_of_getElem? (i := 2) rfl)) (ty := .int) (by decide) rfl rfl (g := (mkF m 75 #[.val (.ref a1), .val (.int p2), .val (.int (0 : Int32)), .val (.ref b8)] [(.int (2 : Int32)), (.ref a1)])) rfl rfl (hb hby d4_75)
      have N10 := own_one (sl := Jvm.RoadKit.slotOf Z "com/example/vetter/vetter/io/DerReader" "position" "I") N8 g_a1
      have Z10 := own_sz W10 Z8
      have E_a1 := E_a1.wr W10
      have F_data := F_data.other W10 (Or.inr (Jvm.RoadKit.slot_ne (Or.inr (hw _ (List.mem_of_getElem? (i := 11) rfl))) (Or.inl (hw _ (List.mem_of_getElem? (i := 18) rfl))) (by decide) (t := (.array .byte)) (t' := .int) (by decide) (by decide)))
      have F_position := F_position.same W10
      have V_da := V_da.other W10 ne_da
      have K0 := K0.wr W10 (Or.inl (List.mem_of_getElem? (i := 0) rfl))
      refine Go.st st10 ?_
      show Go _ _ _ _ T10 (mkF m 78 #[.val (.ref a1), .val (.int p2), .val (.int (0 : Int32)), .val (.ref b8)] [])
      refine Go.st (fun t k => XS.aloadN X10.here hx rfl (hb hby d4_78) rfl rfl k) ?_
      show Go _ _ _ _ T10 (mkF m 79 #[.val (.ref a1), .val (.int p2), .val (.int (0 : Int32)), .val (.ref b8)] [(.ref b8)])
      exact goA X10 hx hret hlk rfl (fun _ => rfl) (hb hby d4_79) (by decide) (by decide) (by rw [e10]; exact ⟨⟨_, rfl⟩, N10, K0, E_a1, F_data, F_position⟩)
    ·
      exact absurd ⟨by decide, hw0⟩ hr1
  ·
    show Go _ _ _ _ T0 (mkF m 0 #[.val (.ref a1), .val (.int p2), .unset, .unset] [])
    show Go _ _ _ _ T0 (mkF m 0 #[.val (.ref a1), .val (.int p2), .unset, .unset] [])
    refine Go.st (fun t k => XS.aloadN X0.here hx rfl (hb hby d4_0) rfl rfl k) ?_
    show Go _ _ _ _ T0 (mkF m 1 #[.val (.ref a1), .val (.int p2), .unset, .unset] [(.ref a1)])
    refine Go.st (fun t k => XS.iloadN X0.here hx rfl (hb hby d4_1) rfl k) ?_
    show Go _ _ _ _ T0 (mkF m 2 #[.val (.ref a1), .val (.int p2), .unset, .unset] [(.int p2), (.ref a1)])
    refine goM X0 hx hZ (y := (⟨"com/example/vetter/vetter/io/DerReader", "nextIs", "(I)Z"⟩ : MethodName)) (z := (⟨"com/example/vetter/vetter/io/DerReader", "nextIs", "(I)Z"⟩ : MethodName)) hown (hw _ (List.mem_of_getElem? (i := 24) rfl)) (hw _ (List.mem_of_getElem? (i := 13) rfl)) (hw _ (List.mem_of_getElem? (i := 15) rfl)) (hw _ (List.mem_of_getElem? (i := 14) rfl)) (hw _ (List.mem_of_getElem? (i := 16) rfl)) (hw _ (List.mem_of_getElem? (i := 3) rfl)) (notFace_of_selects (args := #[]) (mvT hZ (hw _ (List.mem_of_getElem? (i := 15) rfl)))) (by decide) (rm3 l Z a0 hw a1 p2 h0 n0 Z0 0 da 3 f (3 : Int32) w0 F_position F_data V_da rfl (fun _ => ⟨0, ⟨by decide, rfl, by decide⟩, H0⟩)) e0 N0 E_a1 0 (by decide) (by decide) (by decide) (by decide) (g := (mkF m 2 #[.val (.ref a1), .val (.int p2), .unset, .unset] [(.int p2), (.ref a1)])) rfl (by rw [hml]; rfl) [(.int p2)] [] (lenOf pd4_0 rfl) rfl rfl (by show 2 * 0 + _ ≤ _; exact Nat.le_of_eq rfl) (hb hby d4_2) ?_
    intro T11 v11 L11 M11 X11 N11 hq11
    obtain ⟨hq11, N11q, e11⟩ := hq11
    replace N11 := N11 N11q
    rcases hq11 with ⟨-, -, rfl⟩ | ⟨hr11, rfl⟩
    ·
      show Go _ _ _ _ T11 (mkF m 5 #[.val (.ref a1), .val (.int p2), .unset, .unset] [(.int (1 : Int32))])
      refine Go.st (fun t k => XS.ifYes X11.here hx rfl (pc0 := 5) (pc' := 35) rfl (hb hby d4_5) rfl (by decide) (by decide) (by decide) k) ?_
      show Go _ _ _ _ T11 (mkF m 35 #[.val (.ref a1), .val (.int p2), .unset, .unset] [])
      refine Go.st (fun t k => XS.aloadN X11.here hx rfl (hb hby d4_35) rfl rfl k) ?_
      show Go _ _ _ _ T11 (mkF m 36 #[.val (.ref a1), .val (.int p2), .unset, .unset] [(.ref a1)])
      refine Go.st (fun t k => XS.dup X11.here hx rfl (hb hby d4_36) rfl rfl k) ?_
      show Go _ _ _ _ T11 (mkF m 37 #[.val (.ref a1), .val (.int p2), .unset, .unset] [(.ref a1), (.ref a1)])
      obtain ⟨T12, X12, e12, st12⟩ := getF X11 hx hZ hown (host := "") (Or.inl (hw _ (List.mem_of_getElem? (i := 17) rfl))) Via.refl e11 F_position (g := (mkF m 37 #[.val (.ref a1), .val (.int p2), .unset, .unset] [(.ref a1), (.ref a1)])) rfl rfl (hb hby d4_37)
      refine Go.st st12 ?_
      show Go _ _ _ _ T12 (mkF m 40 #[.val (.ref a1), .val (.int p2), .unset, .unset] [(.int (0 : Int32)), (.ref a1)])
      refine Go.st (fun t k => XS.iconst X12.here hx rfl (hb hby d4_40) k) ?_
      show Go _ _ _ _ T12 (mkF m 41 #[.val (.ref a1), .val (.int p2), .unset, .unset] [(.int (1 : Int32)), (.int (0 : Int32)), (.ref a1)])
      refine Go.st (fun t k => XS.iadd X12.here hx rfl (hb hby d4_41) rfl k) ?_
      show Go _ _ _ _ T12 (mkF m 42 #[.val (.ref a1), .val (.int p2), .unset, .unset] [(.int (1 : Int32)), (.ref a1)])
      obtain ⟨T13, h13, X13, e13, W13, st13⟩ := putF X12 hx hZ hown (host := "") (Or.inl (hw _ (List.mem_of_getElem? (i := 17) rfl))) Via.refl e12 F_position E_a1 (Or.inl (hw _ (List.mem_of_getElem? (i := 18) rfl))) (hw _ (List.mem_of_getElem? (i := 2) rfl)) (ty := .int) (by decide) rfl rfl (g := (mkF m 42 #[.val (.ref a1), .val (.int p2), .unset, .unset] [(.int (1 : Int32)), (.ref a1)])) rfl rfl (hb hby d4_42)
      have N13 := own_one (sl := Jvm.RoadKit.slotOf Z "com/example/vetter/vetter/io/DerReader" "position" "I") N11 g_a1
      have Z13 := own_sz W13 Z0
      have E_a1 := E_a1.wr W13
      have F_data := F_data.other W13 (Or.inr (Jvm.RoadKit.slot_ne (Or.inr (hw _ (List.mem_of_getElem? (i := 11) rfl))) (Or.inl (hw _ (List.mem_of_getElem? (i := 18) rfl))) (by decide) (t := (.array .byte)) (t' := .int) (by decide) (by decide)))
      have F_position := F_position.same W13
      have V_da := V_da.other W13 ne_da
      have K0 := K0.wr W13 (Or.inl (List.mem_of_getElem? (i := 0) rfl))
      refine Go.st st13 ?_
      show Go _ _ _ _ T13 (mkF m 45 #[.val (.ref a1), .val (.int p2), .unset, .unset] [])
      refine Go.st (fun t k => XS.aloadN X13.here hx rfl (hb hby d4_45) rfl rfl k) ?_
      show Go _ _ _ _ T13 (mkF m 46 #[.val (.ref a1), .val (.int p2), .unset, .unset] [(.ref a1)])
      refine goP X13 hx hZ (y := (⟨"com/example/vetter/vetter/io/DerReader", "readLength", "()I"⟩ : MethodName)) hown (hw _ (List.mem_of_getElem? (i := 25) rfl)) (hw _ (List.mem_of_getElem? (i := 26) rfl)) (Jvm.Kit.selects_private (by decide) (hw _ (List.mem_of_getElem? (i := 2) rfl)) (hw _ (List.mem_of_getElem? (i := 27) rfl)) (hw _ (List.mem_of_getElem? (i := 26) rfl))) (hw _ (List.mem_of_getElem? (i := 27) rfl)) (hw _ (List.mem_of_getElem? (i := 28) rfl)) (hw _ (List.mem_of_getElem? (i := 3) rfl)) (by decide) (rm5 l Z a0 hw a1 h13 n0 Z13 da 3 f (3 : Int32) (0 : Int32) (2 : Int32) (by simp [own_K]) E_a1 F_data V_da g_a1 ne_da F_position H1) e13 N13 E_a1 0 (by decide) (by decide) (by decide) (by decide) (g := (mkF m 46 #[.val (.ref a1), .val (.int p2), .unset, .unset] [(.ref a1)])) rfl (by rw [hml]; rfl) [] [] (lenOf pd4_1 rfl) rfl rfl (by show 2 * 0 + _ ≤ _; exact Nat.le_of_eq rfl) (hb hby d4_46) ?_
      intro T14 v14 L14 M14 X14 N14 hq14
      obtain ⟨rfl, N14q, K14, E_a1, F_data, F_position⟩ := hq14
      replace N14 := N14 N14q
      have Z14 := Nat.le_trans Z13 K14.1
      have V_da := V_da.keep K14 (ninS ne_da nin0)
      have K0 := K0.trans K14 (allS (Or.inl (List.mem_of_getElem? (i := 0) rfl)) all0)
      show Go _ _ _ _ T14 (mkF m 49 #[.val (.ref a1), .val (.int p2), .unset, .unset] [(.int (0 : Int32))])
      refine Go.st (fun t k => XS.istoreN X14.here hx rfl (hb hby d4_49) rfl (l' := #[.val (.ref a1), .val (.int p2), .val (.int (0 : Int32)), .unset]) rfl k) ?_
      show Go _ _ _ _ T14 (mkF m 50 #[.val (.ref a1), .val (.int p2), .val (.int (0 : Int32)), .unset] [])
      refine Go.st (fun t k => XS.aloadN X14.here hx rfl (hb hby d4_50) rfl rfl k) ?_
      show Go _ _ _ _ T14 (mkF m 51 #[.val (.ref a1), .val (.int p2), .val (.int (0 : Int32)), .unset] [(.ref a1)])
      obtain ⟨T15, X15, e15, st15⟩ := getF X14 hx hZ hown (host := "") (Or.inl (hw _ (List.mem_of_getElem? (i := 10) rfl))) Via.refl rfl F_data (g := (mkF m 51 #[.val (.ref a1), .val (.int p2), .val (.int (0 : Int32)), .unset] [(.ref a1)])) rfl rfl (hb hby d4_51)
      refine Go.st st15 ?_
      show Go _ _ _ _ T15 (mkF m 54 #[.val (.ref a1), .val (.int p2), .val (.int (0 : Int32)), .unset] [(.ref da)])
      refine Go.st (fun t k => XS.aloadN X15.here hx rfl (hb hby d4_54) rfl rfl k) ?_
      show Go _ _ _ _ T15 (mkF m 55 #[.val (.ref a1), .val (.int p2), .val (.int (0 : Int32)), .unset] [(.ref a1), (.ref da)])
      obtain ⟨T16, X16, e16, st16⟩ := getF X15 hx hZ hown (host := "") (Or.inl (hw _ (List.mem_of_getElem? (i := 17) rfl))) Via.refl e15 F_position (g := (mkF m 55 #[.val (.ref a1), .val (.int p2), .val (.int (0 : Int32)), .unset] [(.ref a1), (.ref da)])) rfl rfl (hb hby d4_55)
      refine Go.st st16 ?_
      show Go _ _ _ _ T16 (mkF m 58 #[.val (.ref a1), .val (.int p2), .val (.int (0 : Int32)), .unset] [(.int (2 : Int32)), (.ref da)])
      refine Go.st (fun t k => XS.aloadN X16.here hx rfl (hb hby d4_58) rfl rfl k) ?_
      show Go _ _ _ _ T16 (mkF m 59 #[.val (.ref a1), .val (.int p2), .val (.int (0 : Int32)), .unset] [(.ref a1), (.int (2 : Int32)), (.ref da)])
      obtain ⟨T17, X17, e17, st17⟩ := getF X16 hx hZ hown (host := "") (Or.inl (hw _ (List.mem_of_getElem? (i := 17) rfl))) Via.refl e16 F_position (g := (mkF m 59 #[.val (.ref a1), .val (.int p2), .val (.int (0 : Int32)), .unset] [(.ref a1), (.int (2 : Int32)), (.ref da)])) rfl rfl (hb hby d4_59)
      refine Go.st st17 ?_
      show Go _ _ _ _ T17 (mkF m 62 #[.val (.ref a1), .val (.int p2), .val (.int (0 : Int32)), .unset] [(.int (2 : Int32)), (.int (2 : Int32)), (.ref da)])
      refine Go.st (fun t k => XS.iloadN X17.here hx rfl (hb hby d4_62) rfl k) ?_
      show Go _ _ _ _ T17 (mkF m 63 #[.val (.ref a1), .val (.int p2), .val (.int (0 : Int32)), .unset] [(.int (0 : Int32)), (.int (2 : Int32)), (.int (2 : Int32)), (.ref da)])
      refine Go.st (fun t k => XS.iadd X17.here hx rfl (hb hby d4_63) rfl k) ?_
      show Go _ _ _ _ T17 (mkF m 64 #[.val (.ref a1), .val (.int p2), .val (.int (0 : Int32)), .unset] [(.int (2 : Int32)), (.int (2 : Int32)), (.ref da)])
      refine goS X17 hx hZ (y := (⟨"java/util/Arrays", "copyOfRange", "([BII)[B"⟩ : MethodName)) hown (hw _ (List.mem_of_getElem? (i := 29) rfl)) (hw _ (List.mem_of_getElem? (i := 30) rfl)) (hw _ (List.mem_of_getElem? (i := 31) rfl)) (hw _ (List.mem_of_getElem? (i := 32) rfl)) (by decide) (rm6 l Z a0 hw da (2 : Int32) (2 : Int32) T14.heap n0 Z14 3 f (3 : Int32) (0 : Int32) (by simp [own_K]) V_da fa) e17 N14 0 (by decide) (by decide) (by decide) (by decide) (g := (mkF m 64 #[.val (.ref a1), .val (.int p2), .val (.int (0 : Int32)), .unset] [(.int (2 : Int32)), (.int (2 : Int32)), (.ref da)])) rfl (by rw [hml]; rfl) [(.ref da), (.int (2 : Int32)), (.int (2 : Int32))] [] (lenOf pd4_2 rfl) rfl rfl (by show 2 * 0 + _ ≤ _; exact Nat.le_of_eq rfl) (hb hby d4_64) ?_
      intro T18 v18 L18 M18 X18 N18 hq18
      obtain ⟨⟨b18, rfl⟩, N18q, K18⟩ := hq18
      replace N18 := N18 N18q
      have Z18 := Nat.le_trans Z14 K18.1
      have E_a1 := E_a1.keep K18
      have F_data := F_data.keep K18 nin0
      have F_position := F_position.keep K18 nin0
      have V_da := V_da.keep K18 nin0
      have K0 := K0.trans K18 all0
      show Go _ _ _ _ T18 (mkF m 67 #[.val (.ref a1), .val (.int p2), .val (.int (0 : Int32)), .unset] [(.ref b18)])
      refine Go.st (fun t k => XS.astoreN X18.here hx rfl (hb hby d4_67) rfl rfl (l' := #[.val (.ref a1), .val (.int p2), .val (.int (0 : Int32)), .val (.ref b18)]) rfl k) ?_
      show Go _ _ _ _ T18 (mkF m 68 #[.val (.ref a1), .val (.int p2), .val (.int (0 : Int32)), .val (.ref b18)] [])
      refine Go.st (fun t k => XS.aloadN X18.here hx rfl (hb hby d4_68) rfl rfl k) ?_
      show Go _ _ _ _ T18 (mkF m 69 #[.val (.ref a1), .val (.int p2), .val (.int (0 : Int32)), .val (.ref b18)] [(.ref a1)])
      refine Go.st (fun t k => XS.dup X18.here hx rfl (hb hby d4_69) rfl rfl k) ?_
      show Go _ _ _ _ T18 (mkF m 70 #[.val (.ref a1), .val (.int p2), .val (.int (0 : Int32)), .val (.ref b18)] [(.ref a1), (.ref a1)])
      obtain ⟨T19, X19, e19, st19⟩ := getF X18 hx hZ hown (host := "") (Or.inl (hw _ (List.mem_of_getElem? (i := 17) rfl))) Via.refl rfl F_position (g := (mkF m 70 #[.val (.ref a1), .val (.int p2), .val (.int (0 : Int32)), .val (.ref b18)] [(.ref a1), (.ref a1)])) rfl rfl (hb hby d4_70)
      refine Go.st st19 ?_
      show Go _ _ _ _ T19 (mkF m 73 #[.val (.ref a1), .val (.int p2), .val (.int (0 : Int32)), .val (.ref b18)] [(.int (2 : Int32)), (.ref a1)])
      refine Go.st (fun t k => XS.iloadN X19.here hx rfl (hb hby d4_73) rfl k) ?_
      show Go _ _ _ _ T19 (mkF m 74 #[.val (.ref a1), .val (.int p2), .val (.int (0 : Int32)), .val (.ref b18)] [(.int (0 : Int32)), (.int (2 : Int32)), (.ref a1)])
      refine Go.st (fun t k => XS.iadd X19.here hx rfl (hb hby d4_74) rfl k) ?_
      show Go _ _ _ _ T19 (mkF m 75 #[.val (.ref a1), .val (.int p2), .val (.int (0 : Int32)), .val (.ref b18)] [(.int (2 : Int32)), (.ref a1)])
      obtain ⟨T20, h20, X20, e20, W20, st20⟩ := putF X19 hx hZ hown (host := "") (Or.inl (hw _ (List.mem_of_getElem? (i := 17) rfl))) Via.refl e19 F_position E_a1 (Or.inl (hw _ (List.mem_of_getElem? (i := 18) rfl))) (hw _ (List.mem_of_getElem? (i := 2) rfl)) (ty := .int) (by decide) rfl rfl (g := (mkF m 75 #[.val (.ref a1), .val (.int p2), .val (.int (0 : Int32)), .val (.ref b18)] [(.int (2 : Int32)), (.ref a1)])) rfl rfl (hb hby d4_75)
      have N20 := own_one (sl := Jvm.RoadKit.slotOf Z "com/example/vetter/vetter/io/DerReader" "position" "I") N18 g_a1
      have Z20 := own_sz W20 Z18
      have E_a1 := E_a1.wr W20
      have F_data := F_data.other W20 (Or.inr (Jvm.RoadKit.slot_ne (Or.inr (hw _ (List.mem_of_getElem? (i := 11) rfl))) (Or.inl (hw _ (List.mem_of_getElem? (i := 18) rfl))) (by decide) (t := (.array .byte)) (t' := .int) (by decide) (by decide)))
      have F_position := F_position.same W20
      have V_da := V_da.other W20 ne_da
      have K0 := K0.wr W20 (Or.inl (List.mem_of_getElem? (i := 0) rfl))
      refine Go.st st20 ?_
      show Go _ _ _ _ T20 (mkF m 78 #[.val (.ref a1), .val (.int p2), .val (.int (0 : Int32)), .val (.ref b18)] [])
      refine Go.st (fun t k => XS.aloadN X20.here hx rfl (hb hby d4_78) rfl rfl k) ?_
      show Go _ _ _ _ T20 (mkF m 79 #[.val (.ref a1), .val (.int p2), .val (.int (0 : Int32)), .val (.ref b18)] [(.ref b18)])
      exact goA X20 hx hret hlk rfl (fun _ => rfl) (hb hby d4_79) (by decide) (by decide) (by rw [e20]; exact ⟨⟨_, rfl⟩, N20, K0, E_a1, F_data, F_position⟩)
    ·
      exact absurd ⟨by decide, hw0⟩ hr11
  ·
    show Go _ _ _ _ T0 (mkF m 0 #[.val (.ref a1), .val (.int p2), .unset, .unset] [])
    show Go _ _ _ _ T0 (mkF m 0 #[.val (.ref a1), .val (.int p2), .unset, .unset] [])
    refine Go.st (fun t k => XS.aloadN X0.here hx rfl (hb hby d4_0) rfl rfl k) ?_
    show Go _ _ _ _ T0 (mkF m 1 #[.val (.ref a1), .val (.int p2), .unset, .unset] [(.ref a1)])
    refine Go.st (fun t k => XS.iloadN X0.here hx rfl (hb hby d4_1) rfl k) ?_
    show Go _ _ _ _ T0 (mkF m 2 #[.val (.ref a1), .val (.int p2), .unset, .unset] [(.int p2), (.ref a1)])
    refine goM X0 hx hZ (y := (⟨"com/example/vetter/vetter/io/DerReader", "nextIs", "(I)Z"⟩ : MethodName)) (z := (⟨"com/example/vetter/vetter/io/DerReader", "nextIs", "(I)Z"⟩ : MethodName)) hown (hw _ (List.mem_of_getElem? (i := 24) rfl)) (hw _ (List.mem_of_getElem? (i := 13) rfl)) (hw _ (List.mem_of_getElem? (i := 15) rfl)) (hw _ (List.mem_of_getElem? (i := 14) rfl)) (hw _ (List.mem_of_getElem? (i := 16) rfl)) (hw _ (List.mem_of_getElem? (i := 3) rfl)) (notFace_of_selects (args := #[]) (mvT hZ (hw _ (List.mem_of_getElem? (i := 15) rfl)))) (by decide) (rm3 l Z a0 hw a1 p2 h0 n0 Z0 0 da 3 f (3 : Int32) w0 F_position F_data V_da rfl (fun _ => ⟨0, ⟨by decide, rfl, by decide⟩, H0⟩)) e0 N0 E_a1 0 (by decide) (by decide) (by decide) (by decide) (g := (mkF m 2 #[.val (.ref a1), .val (.int p2), .unset, .unset] [(.int p2), (.ref a1)])) rfl (by rw [hml]; rfl) [(.int p2)] [] (lenOf pd4_0 rfl) rfl rfl (by show 2 * 0 + _ ≤ _; exact Nat.le_of_eq rfl) (hb hby d4_2) ?_
    intro T21 v21 L21 M21 X21 N21 hq21
    obtain ⟨hq21, N21q, e21⟩ := hq21
    replace N21 := N21 N21q
    rcases hq21 with ⟨-, -, rfl⟩ | ⟨hr21, rfl⟩
    ·
      show Go _ _ _ _ T21 (mkF m 5 #[.val (.ref a1), .val (.int p2), .unset, .unset] [(.int (1 : Int32))])
      refine Go.st (fun t k => XS.ifYes X21.here hx rfl (pc0 := 5) (pc' := 35) rfl (hb hby d4_5) rfl (by decide) (by decide) (by decide) k) ?_
      show Go _ _ _ _ T21 (mkF m 35 #[.val (.ref a1), .val (.int p2), .unset, .unset] [])
      refine Go.st (fun t k => XS.aloadN X21.here hx rfl (hb hby d4_35) rfl rfl k) ?_
      show Go _ _ _ _ T21 (mkF m 36 #[.val (.ref a1), .val (.int p2), .unset, .unset] [(.ref a1)])
      refine Go.st (fun t k => XS.dup X21.here hx rfl (hb hby d4_36) rfl rfl k) ?_
      show Go _ _ _ _ T21 (mkF m 37 #[.val (.ref a1), .val (.int p2), .unset, .unset] [(.ref a1), (.ref a1)])
      obtain ⟨T22, X22, e22, st22⟩ := getF X21 hx hZ hown (host := "") (Or.inl (hw _ (List.mem_of_getElem? (i := 17) rfl))) Via.refl e21 F_position (g := (mkF m 37 #[.val (.ref a1), .val (.int p2), .unset, .unset] [(.ref a1), (.ref a1)])) rfl rfl (hb hby d4_37)
      refine Go.st st22 ?_
      show Go _ _ _ _ T22 (mkF m 40 #[.val (.ref a1), .val (.int p2), .unset, .unset] [(.int (0 : Int32)), (.ref a1)])
      refine Go.st (fun t k => XS.iconst X22.here hx rfl (hb hby d4_40) k) ?_
      show Go _ _ _ _ T22 (mkF m 41 #[.val (.ref a1), .val (.int p2), .unset, .unset] [(.int (1 : Int32)), (.int (0 : Int32)), (.ref a1)])
      refine Go.st (fun t k => XS.iadd X22.here hx rfl (hb hby d4_41) rfl k) ?_
      show Go _ _ _ _ T22 (mkF m 42 #[.val (.ref a1), .val (.int p2), .unset, .unset] [(.int (1 : Int32)), (.ref a1)])
      obtain ⟨T23, h23, X23, e23, W23, st23⟩ := putF X22 hx hZ hown (host := "") (Or.inl (hw _ (List.mem_of_getElem? (i := 17) rfl))) Via.refl e22 F_position E_a1 (Or.inl (hw _ (List.mem_of_getElem? (i := 18) rfl))) (hw _ (List.mem_of_getElem? (i := 2) rfl)) (ty := .int) (by decide) rfl rfl (g := (mkF m 42 #[.val (.ref a1), .val (.int p2), .unset, .unset] [(.int (1 : Int32)), (.ref a1)])) rfl rfl (hb hby d4_42)
      have N23 := own_one (sl := Jvm.RoadKit.slotOf Z "com/example/vetter/vetter/io/DerReader" "position" "I") N21 g_a1
      have Z23 := own_sz W23 Z0
      have E_a1 := E_a1.wr W23
      have F_data := F_data.other W23 (Or.inr (Jvm.RoadKit.slot_ne (Or.inr (hw _ (List.mem_of_getElem? (i := 11) rfl))) (Or.inl (hw _ (List.mem_of_getElem? (i := 18) rfl))) (by decide) (t := (.array .byte)) (t' := .int) (by decide) (by decide)))
      have F_position := F_position.same W23
      have V_da := V_da.other W23 ne_da
      have K0 := K0.wr W23 (Or.inl (List.mem_of_getElem? (i := 0) rfl))
      refine Go.st st23 ?_
      show Go _ _ _ _ T23 (mkF m 45 #[.val (.ref a1), .val (.int p2), .unset, .unset] [])
      refine Go.st (fun t k => XS.aloadN X23.here hx rfl (hb hby d4_45) rfl rfl k) ?_
      show Go _ _ _ _ T23 (mkF m 46 #[.val (.ref a1), .val (.int p2), .unset, .unset] [(.ref a1)])
      refine goP X23 hx hZ (y := (⟨"com/example/vetter/vetter/io/DerReader", "readLength", "()I"⟩ : MethodName)) hown (hw _ (List.mem_of_getElem? (i := 25) rfl)) (hw _ (List.mem_of_getElem? (i := 26) rfl)) (Jvm.Kit.selects_private (by decide) (hw _ (List.mem_of_getElem? (i := 2) rfl)) (hw _ (List.mem_of_getElem? (i := 27) rfl)) (hw _ (List.mem_of_getElem? (i := 26) rfl))) (hw _ (List.mem_of_getElem? (i := 27) rfl)) (hw _ (List.mem_of_getElem? (i := 28) rfl)) (hw _ (List.mem_of_getElem? (i := 3) rfl)) (by decide) (rm5 l Z a0 hw a1 h23 n0 Z23 da 3 f (3 : Int32) (1 : Int32) (3 : Int32) (by simp [own_K]) E_a1 F_data V_da g_a1 ne_da F_position H1) e23 N23 E_a1 0 (by decide) (by decide) (by decide) (by decide) (g := (mkF m 46 #[.val (.ref a1), .val (.int p2), .unset, .unset] [(.ref a1)])) rfl (by rw [hml]; rfl) [] [] (lenOf pd4_1 rfl) rfl rfl (by show 2 * 0 + _ ≤ _; exact Nat.le_of_eq rfl) (hb hby d4_46) ?_
      intro T24 v24 L24 M24 X24 N24 hq24
      obtain ⟨rfl, N24q, K24, E_a1, F_data, F_position⟩ := hq24
      replace N24 := N24 N24q
      have Z24 := Nat.le_trans Z23 K24.1
      have V_da := V_da.keep K24 (ninS ne_da nin0)
      have K0 := K0.trans K24 (allS (Or.inl (List.mem_of_getElem? (i := 0) rfl)) all0)
      show Go _ _ _ _ T24 (mkF m 49 #[.val (.ref a1), .val (.int p2), .unset, .unset] [(.int (1 : Int32))])
      refine Go.st (fun t k => XS.istoreN X24.here hx rfl (hb hby d4_49) rfl (l' := #[.val (.ref a1), .val (.int p2), .val (.int (1 : Int32)), .unset]) rfl k) ?_
      show Go _ _ _ _ T24 (mkF m 50 #[.val (.ref a1), .val (.int p2), .val (.int (1 : Int32)), .unset] [])
      refine Go.st (fun t k => XS.aloadN X24.here hx rfl (hb hby d4_50) rfl rfl k) ?_
      show Go _ _ _ _ T24 (mkF m 51 #[.val (.ref a1), .val (.int p2), .val (.int (1 : Int32)), .unset] [(.ref a1)])
      obtain ⟨T25, X25, e25, st25⟩ := getF X24 hx hZ hown (host := "") (Or.inl (hw _ (List.mem_of_getElem? (i := 10) rfl))) Via.refl rfl F_data (g := (mkF m 51 #[.val (.ref a1), .val (.int p2), .val (.int (1 : Int32)), .unset] [(.ref a1)])) rfl rfl (hb hby d4_51)
      refine Go.st st25 ?_
      show Go _ _ _ _ T25 (mkF m 54 #[.val (.ref a1), .val (.int p2), .val (.int (1 : Int32)), .unset] [(.ref da)])
      refine Go.st (fun t k => XS.aloadN X25.here hx rfl (hb hby d4_54) rfl rfl k) ?_
      show Go _ _ _ _ T25 (mkF m 55 #[.val (.ref a1), .val (.int p2), .val (.int (1 : Int32)), .unset] [(.ref a1), (.ref da)])
      obtain ⟨T26, X26, e26, st26⟩ := getF X25 hx hZ hown (host := "") (Or.inl (hw _ (List.mem_of_getElem? (i := 17) rfl))) Via.refl e25 F_position (g := (mkF m 55 #[.val (.ref a1), .val (.int p2), .val (.int (1 : Int32)), .unset] [(.ref a1), (.ref da)])) rfl rfl (hb hby d4_55)
      refine Go.st st26 ?_
      show Go _ _ _ _ T26 (mkF m 58 #[.val (.ref a1), .val (.int p2), .val (.int (1 : Int32)), .unset] [(.int (2 : Int32)), (.ref da)])
      refine Go.st (fun t k => XS.aloadN X26.here hx rfl (hb hby d4_58) rfl rfl k) ?_
      show Go _ _ _ _ T26 (mkF m 59 #[.val (.ref a1), .val (.int p2), .val (.int (1 : Int32)), .unset] [(.ref a1), (.int (2 : Int32)), (.ref da)])
      obtain ⟨T27, X27, e27, st27⟩ := getF X26 hx hZ hown (host := "") (Or.inl (hw _ (List.mem_of_getElem? (i := 17) rfl))) Via.refl e26 F_position (g := (mkF m 59 #[.val (.ref a1), .val (.int p2), .val (.int (1 : Int32)), .unset] [(.ref a1), (.int (2 : Int32)), (.ref da)])) rfl rfl (hb hby d4_59)
      refine Go.st st27 ?_
      show Go _ _ _ _ T27 (mkF m 62 #[.val (.ref a1), .val (.int p2), .val (.int (1 : Int32)), .unset] [(.int (2 : Int32)), (.int (2 : Int32)), (.ref da)])
      refine Go.st (fun t k => XS.iloadN X27.here hx rfl (hb hby d4_62) rfl k) ?_
      show Go _ _ _ _ T27 (mkF m 63 #[.val (.ref a1), .val (.int p2), .val (.int (1 : Int32)), .unset] [(.int (1 : Int32)), (.int (2 : Int32)), (.int (2 : Int32)), (.ref da)])
      refine Go.st (fun t k => XS.iadd X27.here hx rfl (hb hby d4_63) rfl k) ?_
      show Go _ _ _ _ T27 (mkF m 64 #[.val (.ref a1), .val (.int p2), .val (.int (1 : Int32)), .unset] [(.int (3 : Int32)), (.int (2 : Int32)), (.ref da)])
      refine goS X27 hx hZ (y := (⟨"java/util/Arrays", "copyOfRange", "([BII)[B"⟩ : MethodName)) hown (hw _ (List.mem_of_getElem? (i := 29) rfl)) (hw _ (List.mem_of_getElem? (i := 30) rfl)) (hw _ (List.mem_of_getElem? (i := 31) rfl)) (hw _ (List.mem_of_getElem? (i := 32) rfl)) (by decide) (rm6 l Z a0 hw da (2 : Int32) (3 : Int32) T24.heap n0 Z24 3 f (3 : Int32) (1 : Int32) (by simp [own_K]) V_da fa) e27 N24 0 (by decide) (by decide) (by decide) (by decide) (g := (mkF m 64 #[.val (.ref a1), .val (.int p2), .val (.int (1 : Int32)), .unset] [(.int (3 : Int32)), (.int (2 : Int32)), (.ref da)])) rfl (by rw [hml]; rfl) [(.ref da), (.int (2 : Int32)), (.int (3 : Int32))] [] (lenOf pd4_2 rfl) rfl rfl (by show 2 * 0 + _ ≤ _; exact Nat.le_of_eq rfl) (hb hby d4_64) ?_
      intro T28 v28 L28 M28 X28 N28 hq28
      obtain ⟨⟨b28, rfl⟩, N28q, K28⟩ := hq28
      replace N28 := N28 N28q
      have Z28 := Nat.le_trans Z24 K28.1
      have E_a1 := E_a1.keep K28
      have F_data := F_data.keep K28 nin0
      have F_position := F_position.keep K28 nin0
      have V_da := V_da.keep K28 nin0
      have K0 := K0.trans K28 all0
      show Go _ _ _ _ T28 (mkF m 67 #[.val (.ref a1), .val (.int p2), .val (.int (1 : Int32)), .unset] [(.ref b28)])
      refine Go.st (fun t k => XS.astoreN X28.here hx rfl (hb hby d4_67) rfl rfl (l' := #[.val (.ref a1), .val (.int p2), .val (.int (1 : Int32)), .val (.ref b28)]) rfl k) ?_
      show Go _ _ _ _ T28 (mkF m 68 #[.val (.ref a1), .val (.int p2), .val (.int (1 : Int32)), .val (.ref b28)] [])
      refine Go.st (fun t k => XS.aloadN X28.here hx rfl (hb hby d4_68) rfl rfl k) ?_
      show Go _ _ _ _ T28 (mkF m 69 #[.val (.ref a1), .val (.int p2), .val (.int (1 : Int32)), .val (.ref b28)] [(.ref a1)])
      refine Go.st (fun t k => XS.dup X28.here hx rfl (hb hby d4_69) rfl rfl k) ?_
      show Go _ _ _ _ T28 (mkF m 70 #[.val (.ref a1), .val (.int p2), .val (.int (1 : Int32)), .val (.ref b28)] [(.ref a1), (.ref a1)])
      obtain ⟨T29, X29, e29, st29⟩ := getF X28 hx hZ hown (host := "") (Or.inl (hw _ (List.mem_of_getElem? (i := 17) rfl))) Via.refl rfl F_position (g := (mkF m 70 #[.val (.ref a1), .val (.int p2), .val (.int (1 : Int32)), .val (.ref b28)] [(.ref a1), (.ref a1)])) rfl rfl (hb hby d4_70)
      refine Go.st st29 ?_
      show Go _ _ _ _ T29 (mkF m 73 #[.val (.ref a1), .val (.int p2), .val (.int (1 : Int32)), .val (.ref b28)] [(.int (2 : Int32)), (.ref a1)])
      refine Go.st (fun t k => XS.iloadN X29.here hx rfl (hb hby d4_73) rfl k) ?_
      show Go _ _ _ _ T29 (mkF m 74 #[.val (.ref a1), .val (.int p2), .val (.int (1 : Int32)), .val (.ref b28)] [(.int (1 : Int32)), (.int (2 : Int32)), (.ref a1)])
      refine Go.st (fun t k => XS.iadd X29.here hx rfl (hb hby d4_74) rfl k) ?_
      show Go _ _ _ _ T29 (mkF m 75 #[.val (.ref a1), .val (.int p2), .val (.int (1 : Int32)), .val (.ref b28)] [(.int (3 : Int32)), (.ref a1)])
      obtain ⟨T30, h30, X30, e30, W30, st30⟩ := putF X29 hx hZ hown (host := "") (Or.inl (hw _ (List.mem_of_getElem? (i := 17) rfl))) Via.refl e29 F_position E_a1 (Or.inl (hw _ (List.mem_of_getElem? (i := 18) rfl))) (hw _ (List.mem_of_getElem? (i := 2) rfl)) (ty := .int) (by decide) rfl rfl (g := (mkF m 75 #[.val (.ref a1), .val (.int p2), .val (.int (1 : Int32)), .val (.ref b28)] [(.int (3 : Int32)), (.ref a1)])) rfl rfl (hb hby d4_75)
      have N30 := own_one (sl := Jvm.RoadKit.slotOf Z "com/example/vetter/vetter/io/DerReader" "position" "I") N28 g_a1
      have Z30 := own_sz W30 Z28
      have E_a1 := E_a1.wr W30
      have F_data := F_data.other W30 (Or.inr (Jvm.RoadKit.slot_ne (Or.inr (hw _ (List.mem_of_getElem? (i := 11) rfl))) (Or.inl (hw _ (List.mem_of_getElem? (i := 18) rfl))) (by decide) (t := (.array .byte)) (t' := .int) (by decide) (by decide)))
      have F_position := F_position.same W30
      have V_da := V_da.other W30 ne_da
      have K0 := K0.wr W30 (Or.inl (List.mem_of_getElem? (i := 0) rfl))
      refine Go.st st30 ?_
      show Go _ _ _ _ T30 (mkF m 78 #[.val (.ref a1), .val (.int p2), .val (.int (1 : Int32)), .val (.ref b28)] [])
      refine Go.st (fun t k => XS.aloadN X30.here hx rfl (hb hby d4_78) rfl rfl k) ?_
      show Go _ _ _ _ T30 (mkF m 79 #[.val (.ref a1), .val (.int p2), .val (.int (1 : Int32)), .val (.ref b28)] [(.ref b28)])
      exact goA X30 hx hret hlk rfl (fun _ => rfl) (hb hby d4_79) (by decide) (by decide) (by rw [e30]; exact ⟨⟨_, rfl⟩, N30, K0, E_a1, F_data, F_position⟩)
    ·
      exact absurd ⟨by decide, hw0⟩ hr21
theorem pn_0 : plainName "com/example/vetter/vetter/io/DerReaderNextIsPinLaw" = true := by first | (simp [plainName, overriddenIn]; done) | decide +kernel
theorem pd0_0 : parseMethodDescriptor "([B)V" = some ⟨[(.array .byte)], none⟩ := by decide +kernel
theorem pd0_1 : parseMethodDescriptor "(I)Z" = some ⟨[.int], some .boolean⟩ := by decide +kernel
theorem pd0_2 : parseMethodDescriptor "(I)[B" = some ⟨[.int], some (.array .byte)⟩ := by decide +kernel
theorem ef_0 (m : MethodId) (x0 : Int32) (x1 : Int32) (x2 : Int32) (x3 : Int32) (x4 : Int32) (x5 : Int32) : entryFrame m #[(.int x0), (.int x1), (.int x2), (.int x3), (.int x4), (.int x5)] maxLocals = mkF m 0 #[.val (.int x0), .val (.int x1), .val (.int x2), .val (.int x3), .val (.int x4), .val (.int x5), .unset, .unset, .unset, .unset, .unset, .unset, .unset] [] := by first | (simp [entryFrame, mkF, argsToLocals, Value.category, maxLocals]; done) | rfl
set_option maxRecDepth 65536 in
set_option maxHeartbeats 40000000 in
theorem rm0 (l : Launch) (Z : State) (a0 : Array Value) (hw : ∀ d ∈ tables_1, d.before a0 Z = true) (p1 : Int32) (p2 : Int32) (p3 : Int32) (p4 : Int32) (p5 : Int32) (p6 : Int32) (h0 : Heap) (n0 : Nat) (Z0 : n0 ≤ h0.size)   :
    Does l Z x code maxLocals ret room_1 #[(.int p1), (.int p2), (.int p3), (.int p4), (.int p5), (.int p6)] h0 (fun v h L => v = some (.int 1) ∧ Fr n0 L) := by
  refine Does.body (plainFor_of_name pn_0) ?_
  intro p e s m below meth c T0 X0 hx hZ hby hml hown hnm hret hlk e0
  replace hown : s.vm.findClass "com/example/vetter/vetter/io/DerReaderNextIsPinLaw" = some m.cls := hown
  have N0 := Fr.nil n0
  refine Go.frame (ef_0 m p1 p2 p3 p4 p5 p6) ?_
  show Go _ _ _ _ T0 (mkF m 0 #[.val (.int p1), .val (.int p2), .val (.int p3), .val (.int p4), .val (.int p5), .val (.int p6), .unset, .unset, .unset, .unset, .unset, .unset, .unset] [])
  refine Go.st (fun t k => XS.iloadN X0.here hx rfl (hb hby at_0) rfl k) ?_
  show Go _ _ _ _ T0 (mkF m 1 #[.val (.int p1), .val (.int p2), .val (.int p3), .val (.int p4), .val (.int p5), .val (.int p6), .unset, .unset, .unset, .unset, .unset, .unset, .unset] [(.int p1)])
  refine Go.st (fun t k => XS.iconst X0.here hx rfl (hb hby at_1) k) ?_
  show Go _ _ _ _ T0 (mkF m 2 #[.val (.int p1), .val (.int p2), .val (.int p3), .val (.int p4), .val (.int p5), .val (.int p6), .unset, .unset, .unset, .unset, .unset, .unset, .unset] [(.int (3 : Int32)), (.int p1)])
  refine Go.st (fun t k => XS.iand X0.here hx rfl (hb hby at_2) rfl k) ?_
  show Go _ _ _ _ T0 (mkF m 3 #[.val (.int p1), .val (.int p2), .val (.int p3), .val (.int p4), .val (.int p5), .val (.int p6), .unset, .unset, .unset, .unset, .unset, .unset, .unset] [(.int (p1 &&& (3 : Int32)))])
  refine Go.st (fun t k => XS.istore X0.here hx rfl (hb hby at_3) rfl (l' := #[.val (.int p1), .val (.int p2), .val (.int p3), .val (.int p4), .val (.int p5), .val (.int p6), .val (.int (p1 &&& (3 : Int32))), .unset, .unset, .unset, .unset, .unset, .unset]) rfl k) ?_
  show Go _ _ _ _ T0 (mkF m 5 #[.val (.int p1), .val (.int p2), .val (.int p3), .val (.int p4), .val (.int p5), .val (.int p6), .val (.int (p1 &&& (3 : Int32))), .unset, .unset, .unset, .unset, .unset, .unset] [])
  refine Go.st (fun t k => XS.iloadN X0.here hx rfl (hb hby at_5) rfl k) ?_
  show Go _ _ _ _ T0 (mkF m 6 #[.val (.int p1), .val (.int p2), .val (.int p3), .val (.int p4), .val (.int p5), .val (.int p6), .val (.int (p1 &&& (3 : Int32))), .unset, .unset, .unset, .unset, .unset, .unset] [(.int p3)])
  refine Go.st (fun t k => XS.iconst X0.here hx rfl (hb hby at_6) k) ?_
  show Go _ _ _ _ T0 (mkF m 7 #[.val (.int p1), .val (.int p2), .val (.int p3), .val (.int p4), .val (.int p5), .val (.int p6), .val (.int (p1 &&& (3 : Int32))), .unset, .unset, .unset, .unset, .unset, .unset] [(.int (1 : Int32)), (.int p3)])
  refine Go.st (fun t k => XS.iand X0.here hx rfl (hb hby at_7) rfl k) ?_
  show Go _ _ _ _ T0 (mkF m 8 #[.val (.int p1), .val (.int p2), .val (.int p3), .val (.int p4), .val (.int p5), .val (.int p6), .val (.int (p1 &&& (3 : Int32))), .unset, .unset, .unset, .unset, .unset, .unset] [(.int (p3 &&& (1 : Int32)))])
  refine Go.st (fun t k => XS.istore X0.here hx rfl (hb hby at_8) rfl (l' := #[.val (.int p1), .val (.int p2), .val (.int p3), .val (.int p4), .val (.int p5), .val (.int p6), .val (.int (p1 &&& (3 : Int32))), .val (.int (p3 &&& (1 : Int32))), .unset, .unset, .unset, .unset, .unset]) rfl k) ?_
  show Go _ _ _ _ T0 (mkF m 10 #[.val (.int p1), .val (.int p2), .val (.int p3), .val (.int p4), .val (.int p5), .val (.int p6), .val (.int (p1 &&& (3 : Int32))), .val (.int (p3 &&& (1 : Int32))), .unset, .unset, .unset, .unset, .unset] [])
  rcases own_and3 p1 with hlen | hlen | hlen | hlen <;> rw [hlen]
  ·
    generalize (p3 &&& (1 : Int32)) = sk
    show Go _ _ _ _ T0 (mkF m 10 #[.val (.int p1), .val (.int p2), .val (.int p3), .val (.int p4), .val (.int p5), .val (.int p6), .val (.int (0 : Int32)), .val (.int sk), .unset, .unset, .unset, .unset, .unset] [])
    show Go _ _ _ _ T0 (mkF m 10 #[.val (.int p1), .val (.int p2), .val (.int p3), .val (.int p4), .val (.int p5), .val (.int p6), .val (.int (0 : Int32)), .val (.int sk), .unset, .unset, .unset, .unset, .unset] [])
    refine Go.st (fun t k => XS.iload X0.here hx rfl (hb hby at_10) rfl k) ?_
    show Go _ _ _ _ T0 (mkF m 12 #[.val (.int p1), .val (.int p2), .val (.int p3), .val (.int p4), .val (.int p5), .val (.int p6), .val (.int (0 : Int32)), .val (.int sk), .unset, .unset, .unset, .unset, .unset] [(.int (0 : Int32))])
    refine goNew X0 hx hZ (hw _ (List.mem_of_getElem? (i := 0) rfl)) e0 Z0 (by decide) (show Int32.toNatClampNeg (0 : Int32) = 0 from rfl) 0 (by decide) (by decide) (by decide) (by decide) (g := (mkF m 12 #[.val (.int p1), .val (.int p2), .val (.int p3), .val (.int p4), .val (.int p5), .val (.int p6), .val (.int (0 : Int32)), .val (.int sk), .unset, .unset, .unset, .unset, .unset] [(.int (0 : Int32))])) rfl rfl (hb hby at_12) ?_
    intro T1 h1 b1 X1 e1 E1 qz1 g_b1 Z1 V_b1
    replace V_b1 : BA Z h1 b1 .byte 0 (fun _ => (.int (0 : Int32))) := V_b1
    show Go _ _ _ _ T1 (mkF m 14 #[.val (.int p1), .val (.int p2), .val (.int p3), .val (.int p4), .val (.int p5), .val (.int p6), .val (.int (0 : Int32)), .val (.int sk), .unset, .unset, .unset, .unset, .unset] [(.ref b1)])
    refine Go.st (fun t k => XS.astore X1.here hx rfl (hb hby at_14) rfl rfl (l' := #[.val (.int p1), .val (.int p2), .val (.int p3), .val (.int p4), .val (.int p5), .val (.int p6), .val (.int (0 : Int32)), .val (.int sk), .val (.ref b1), .unset, .unset, .unset, .unset]) rfl k) ?_
    show Go _ _ _ _ T1 (mkF m 16 #[.val (.int p1), .val (.int p2), .val (.int p3), .val (.int p4), .val (.int p5), .val (.int p6), .val (.int (0 : Int32)), .val (.int sk), .val (.ref b1), .unset, .unset, .unset, .unset] [])
    refine Go.st (fun t k => XS.iload X1.here hx rfl (hb hby at_16) rfl k) ?_
    show Go _ _ _ _ T1 (mkF m 18 #[.val (.int p1), .val (.int p2), .val (.int p3), .val (.int p4), .val (.int p5), .val (.int p6), .val (.int (0 : Int32)), .val (.int sk), .val (.ref b1), .unset, .unset, .unset, .unset] [(.int (0 : Int32))])
    refine Go.st (fun t k => XS.ifYes X1.here hx rfl (pc0 := 18) (pc' := 27) rfl (hb hby at_18) rfl (by decide) (by decide) (by decide) k) ?_
    show Go _ _ _ _ T1 (mkF m 27 #[.val (.int p1), .val (.int p2), .val (.int p3), .val (.int p4), .val (.int p5), .val (.int p6), .val (.int (0 : Int32)), .val (.int sk), .val (.ref b1), .unset, .unset, .unset, .unset] [])
    refine Go.st (fun t k => XS.iload X1.here hx rfl (hb hby at_27) rfl k) ?_
    show Go _ _ _ _ T1 (mkF m 29 #[.val (.int p1), .val (.int p2), .val (.int p3), .val (.int p4), .val (.int p5), .val (.int p6), .val (.int (0 : Int32)), .val (.int sk), .val (.ref b1), .unset, .unset, .unset, .unset] [(.int (0 : Int32))])
    refine Go.st (fun t k => XS.iconst X1.here hx rfl (hb hby at_29) k) ?_
    show Go _ _ _ _ T1 (mkF m 30 #[.val (.int p1), .val (.int p2), .val (.int p3), .val (.int p4), .val (.int p5), .val (.int p6), .val (.int (0 : Int32)), .val (.int sk), .val (.ref b1), .unset, .unset, .unset, .unset] [(.int (1 : Int32)), (.int (0 : Int32))])
    refine Go.st (fun t k => XS.icmpYes X1.here hx rfl (pc0 := 30) (pc' := 40) rfl (hb hby at_30) rfl (by decide) (by decide) (by decide) k) ?_
    show Go _ _ _ _ T1 (mkF m 40 #[.val (.int p1), .val (.int p2), .val (.int p3), .val (.int p4), .val (.int p5), .val (.int p6), .val (.int (0 : Int32)), .val (.int sk), .val (.ref b1), .unset, .unset, .unset, .unset] [])
    refine Go.st (fun t k => XS.iload X1.here hx rfl (hb hby at_40) rfl k) ?_
    show Go _ _ _ _ T1 (mkF m 42 #[.val (.int p1), .val (.int p2), .val (.int p3), .val (.int p4), .val (.int p5), .val (.int p6), .val (.int (0 : Int32)), .val (.int sk), .val (.ref b1), .unset, .unset, .unset, .unset] [(.int (0 : Int32))])
    refine Go.st (fun t k => XS.iconst X1.here hx rfl (hb hby at_42) k) ?_
    show Go _ _ _ _ T1 (mkF m 43 #[.val (.int p1), .val (.int p2), .val (.int p3), .val (.int p4), .val (.int p5), .val (.int p6), .val (.int (0 : Int32)), .val (.int sk), .val (.ref b1), .unset, .unset, .unset, .unset] [(.int (2 : Int32)), (.int (0 : Int32))])
    refine Go.st (fun t k => XS.icmpYes X1.here hx rfl (pc0 := 43) (pc' := 52) rfl (hb hby at_43) rfl (by decide) (by decide) (by decide) k) ?_
    show Go _ _ _ _ T1 (mkF m 52 #[.val (.int p1), .val (.int p2), .val (.int p3), .val (.int p4), .val (.int p5), .val (.int p6), .val (.int (0 : Int32)), .val (.int sk), .val (.ref b1), .unset, .unset, .unset, .unset] [])
    obtain ⟨T2, h2, X2, e2, E2, A2, D2, -, st2⟩ := newO X1 hx hZ hown (hw _ (List.mem_of_getElem? (i := 1) rfl)) (hw _ (List.mem_of_getElem? (i := 2) rfl)) (hw _ (List.mem_of_getElem? (i := 3) rfl)) e1 (g := (mkF m 52 #[.val (.int p1), .val (.int p2), .val (.int p3), .val (.int p4), .val (.int p5), .val (.int p6), .val (.int (0 : Int32)), .val (.int sk), .val (.ref b1), .unset, .unset, .unset, .unset] [])) rfl (hb hby at_52) (by decide) (by decide)
    obtain ⟨b2, qz2⟩ : ∃ z, z = h1.size := ⟨_, rfl⟩
    rw [← qz2] at A2 D2 st2
    have g_b2 : n0 ≤ b2 := Nat.le_trans Z1 (Nat.le_of_eq qz2.symm)
    have Z2 := Nat.le_trans Z1 E2.1
    have ne_b1_b2 : b1 ≠ b2 := fun z => absurd V_b1.lt (by rw [z, qz2]; exact Nat.lt_irrefl _)
    have V_b1 := V_b1.ext E2
    have E_b2 := A2
    have F_data_b2 : Fld Z h2 b2 "com/example/vetter/vetter/io/DerReader" "data" "[B" .null := D2 (Or.inr (hw _ (List.mem_of_getElem? (i := 11) rfl))) (ty := (.array .byte)) (by decide)
    have F_position_b2 : Fld Z h2 b2 "com/example/vetter/vetter/io/DerReader" "position" "I" (.int (0 : Int32)) := D2 (Or.inl (hw _ (List.mem_of_getElem? (i := 18) rfl))) (ty := .int) (by decide)
    refine Go.st st2 ?_
    show Go _ _ _ _ T2 (mkF m 55 #[.val (.int p1), .val (.int p2), .val (.int p3), .val (.int p4), .val (.int p5), .val (.int p6), .val (.int (0 : Int32)), .val (.int sk), .val (.ref b1), .unset, .unset, .unset, .unset] [(.ref b2)])
    refine Go.st (fun t k => XS.dup X2.here hx rfl (hb hby at_55) rfl rfl k) ?_
    show Go _ _ _ _ T2 (mkF m 56 #[.val (.int p1), .val (.int p2), .val (.int p3), .val (.int p4), .val (.int p5), .val (.int p6), .val (.int (0 : Int32)), .val (.int sk), .val (.ref b1), .unset, .unset, .unset, .unset] [(.ref b2), (.ref b2)])
    refine Go.st (fun t k => XS.aload X2.here hx rfl (hb hby at_56) rfl rfl k) ?_
    show Go _ _ _ _ T2 (mkF m 58 #[.val (.int p1), .val (.int p2), .val (.int p3), .val (.int p4), .val (.int p5), .val (.int p6), .val (.int (0 : Int32)), .val (.int sk), .val (.ref b1), .unset, .unset, .unset, .unset] [(.ref b1), (.ref b2), (.ref b2)])
    refine goC X2 hx hZ (y := (⟨"com/example/vetter/vetter/io/DerReader", "<init>", "([B)V"⟩ : MethodName)) rfl hown (hw _ (List.mem_of_getElem? (i := 4) rfl)) (hw _ (List.mem_of_getElem? (i := 5) rfl)) (hw _ (List.mem_of_getElem? (i := 3) rfl)) (hw _ (List.mem_of_getElem? (i := 6) rfl)) (by decide) (rm1 l Z a0 hw b2 b1 h2 n0 Z2 E_b2 F_data_b2 F_position_b2 g_b2) e2 N0 1 (by decide) (by decide) (by decide) (by decide) (g := (mkF m 58 #[.val (.int p1), .val (.int p2), .val (.int p3), .val (.int p4), .val (.int p5), .val (.int p6), .val (.int (0 : Int32)), .val (.int sk), .val (.ref b1), .unset, .unset, .unset, .unset] [(.ref b1), (.ref b2), (.ref b2)])) rfl (by rw [hml]; rfl) [(.ref b1)] [(.ref b2)] (lenOf pd0_0 rfl) rfl rfl (by show 2 * 0 + _ ≤ _; exact Nat.le_of_eq rfl) (hb hby at_58) ?_
    intro T3 v3 L3 M3 X3 N3 hq3
    obtain ⟨rfl, N3q, K3, E_b2, F_data_b2, F_position_b2⟩ := hq3
    replace N3 := N3 N3q
    have Z3 := Nat.le_trans Z2 K3.1
    have V_b1 := V_b1.keep K3 (ninS ne_b1_b2 nin0)
    show Go _ _ _ _ T3 (mkF m 61 #[.val (.int p1), .val (.int p2), .val (.int p3), .val (.int p4), .val (.int p5), .val (.int p6), .val (.int (0 : Int32)), .val (.int sk), .val (.ref b1), .unset, .unset, .unset, .unset] [(.ref b2)])
    refine Go.st (fun t k => XS.astore X3.here hx rfl (hb hby at_61) rfl rfl (l' := #[.val (.int p1), .val (.int p2), .val (.int p3), .val (.int p4), .val (.int p5), .val (.int p6), .val (.int (0 : Int32)), .val (.int sk), .val (.ref b1), .val (.ref b2), .unset, .unset, .unset]) rfl k) ?_
    show Go _ _ _ _ T3 (mkF m 63 #[.val (.int p1), .val (.int p2), .val (.int p3), .val (.int p4), .val (.int p5), .val (.int p6), .val (.int (0 : Int32)), .val (.int sk), .val (.ref b1), .val (.ref b2), .unset, .unset, .unset] [])
    refine Go.st (fun t k => XS.iload X3.here hx rfl (hb hby at_63) rfl k) ?_
    show Go _ _ _ _ T3 (mkF m 65 #[.val (.int p1), .val (.int p2), .val (.int p3), .val (.int p4), .val (.int p5), .val (.int p6), .val (.int (0 : Int32)), .val (.int sk), .val (.ref b1), .val (.ref b2), .unset, .unset, .unset] [(.int (0 : Int32))])
    refine Go.st (fun t k => XS.ifYes X3.here hx rfl (pc0 := 65) (pc' := 82) rfl (hb hby at_65) rfl (by decide) (by decide) (by decide) k) ?_
    show Go _ _ _ _ T3 (mkF m 82 #[.val (.int p1), .val (.int p2), .val (.int p3), .val (.int p4), .val (.int p5), .val (.int p6), .val (.int (0 : Int32)), .val (.int sk), .val (.ref b1), .val (.ref b2), .unset, .unset, .unset] [])
    refine Go.st (fun t k => XS.iconst X3.here hx rfl (hb hby at_82) k) ?_
    show Go _ _ _ _ T3 (mkF m 83 #[.val (.int p1), .val (.int p2), .val (.int p3), .val (.int p4), .val (.int p5), .val (.int p6), .val (.int (0 : Int32)), .val (.int sk), .val (.ref b1), .val (.ref b2), .unset, .unset, .unset] [(.int (0 : Int32))])
    refine Go.st (fun t k => XS.istore X3.here hx rfl (hb hby at_83) rfl (l' := #[.val (.int p1), .val (.int p2), .val (.int p3), .val (.int p4), .val (.int p5), .val (.int p6), .val (.int (0 : Int32)), .val (.int sk), .val (.ref b1), .val (.ref b2), .val (.int (0 : Int32)), .unset, .unset]) rfl k) ?_
    show Go _ _ _ _ T3 (mkF m 85 #[.val (.int p1), .val (.int p2), .val (.int p3), .val (.int p4), .val (.int p5), .val (.int p6), .val (.int (0 : Int32)), .val (.int sk), .val (.ref b1), .val (.ref b2), .val (.int (0 : Int32)), .unset, .unset] [])
    refine Go.st (fun t k => XS.aload X3.here hx rfl (hb hby at_85) rfl rfl k) ?_
    show Go _ _ _ _ T3 (mkF m 87 #[.val (.int p1), .val (.int p2), .val (.int p3), .val (.int p4), .val (.int p5), .val (.int p6), .val (.int (0 : Int32)), .val (.int sk), .val (.ref b1), .val (.ref b2), .val (.int (0 : Int32)), .unset, .unset] [(.ref b2)])
    refine Go.st (fun t k => XS.iload X3.here hx rfl (hb hby at_87) rfl k) ?_
    show Go _ _ _ _ T3 (mkF m 89 #[.val (.int p1), .val (.int p2), .val (.int p3), .val (.int p4), .val (.int p5), .val (.int p6), .val (.int (0 : Int32)), .val (.int sk), .val (.ref b1), .val (.ref b2), .val (.int (0 : Int32)), .unset, .unset] [(.int p5), (.ref b2)])
    refine goM X3 hx hZ (y := (⟨"com/example/vetter/vetter/io/DerReader", "nextIs", "(I)Z"⟩ : MethodName)) (z := (⟨"com/example/vetter/vetter/io/DerReader", "nextIs", "(I)Z"⟩ : MethodName)) hown (hw _ (List.mem_of_getElem? (i := 12) rfl)) (hw _ (List.mem_of_getElem? (i := 13) rfl)) (hw _ (List.mem_of_getElem? (i := 15) rfl)) (hw _ (List.mem_of_getElem? (i := 14) rfl)) (hw _ (List.mem_of_getElem? (i := 16) rfl)) (hw _ (List.mem_of_getElem? (i := 3) rfl)) (notFace_of_selects (args := #[]) (mvT hZ (hw _ (List.mem_of_getElem? (i := 15) rfl)))) (by decide) (rm3 l Z a0 hw b2 p5 T3.heap n0 Z3 (0 : Int32) b1 0 _ (0 : Int32) ((p2.toInt8.toInt32).toInt8.toInt32) F_position_b2 F_data_b2 V_b1 rfl (fun q => absurd q (by decide))) rfl N3 E_b2 0 (by decide) (by decide) (by decide) (by decide) (g := (mkF m 89 #[.val (.int p1), .val (.int p2), .val (.int p3), .val (.int p4), .val (.int p5), .val (.int p6), .val (.int (0 : Int32)), .val (.int sk), .val (.ref b1), .val (.ref b2), .val (.int (0 : Int32)), .unset, .unset] [(.int p5), (.ref b2)])) rfl (by rw [hml]; rfl) [(.int p5)] [] (lenOf pd0_1 rfl) rfl rfl (by show 2 * 0 + _ ≤ _; exact Nat.le_of_eq rfl) (hb hby at_89) ?_
    intro T4 v4 L4 M4 X4 N4 hq4
    obtain ⟨hq4, N4q, e4⟩ := hq4
    replace N4 := N4 N4q
    rcases hq4 with ⟨hA4, hB4, rfl⟩ | ⟨hr4, rfl⟩
    ·
      exact absurd hA4 (by decide)
    ·
      show Go _ _ _ _ T4 (mkF m 92 #[.val (.int p1), .val (.int p2), .val (.int p3), .val (.int p4), .val (.int p5), .val (.int p6), .val (.int (0 : Int32)), .val (.int sk), .val (.ref b1), .val (.ref b2), .val (.int (0 : Int32)), .unset, .unset] [(.int (0 : Int32))])
      refine Go.st (fun t k => XS.iload X4.here hx rfl (hb hby at_92) rfl k) ?_
      show Go _ _ _ _ T4 (mkF m 94 #[.val (.int p1), .val (.int p2), .val (.int p3), .val (.int p4), .val (.int p5), .val (.int p6), .val (.int (0 : Int32)), .val (.int sk), .val (.ref b1), .val (.ref b2), .val (.int (0 : Int32)), .unset, .unset] [(.int (0 : Int32)), (.int (0 : Int32))])
      refine Go.st (fun t k => XS.icmpYes X4.here hx rfl (pc0 := 94) (pc' := 99) rfl (hb hby at_94) rfl (by decide) (by decide) (by decide) k) ?_
      show Go _ _ _ _ T4 (mkF m 99 #[.val (.int p1), .val (.int p2), .val (.int p3), .val (.int p4), .val (.int p5), .val (.int p6), .val (.int (0 : Int32)), .val (.int sk), .val (.ref b1), .val (.ref b2), .val (.int (0 : Int32)), .unset, .unset] [])
      refine Go.st (fun t k => XS.iconst X4.here hx rfl (hb hby at_99) k) ?_
      show Go _ _ _ _ T4 (mkF m 100 #[.val (.int p1), .val (.int p2), .val (.int p3), .val (.int p4), .val (.int p5), .val (.int p6), .val (.int (0 : Int32)), .val (.int sk), .val (.ref b1), .val (.ref b2), .val (.int (0 : Int32)), .unset, .unset] [(.int (0 : Int32))])
      refine Go.st (fun t k => XS.istore X4.here hx rfl (hb hby at_100) rfl (l' := #[.val (.int p1), .val (.int p2), .val (.int p3), .val (.int p4), .val (.int p5), .val (.int p6), .val (.int (0 : Int32)), .val (.int sk), .val (.ref b1), .val (.ref b2), .val (.int (0 : Int32)), .val (.int (0 : Int32)), .unset]) rfl k) ?_
      show Go _ _ _ _ T4 (mkF m 102 #[.val (.int p1), .val (.int p2), .val (.int p3), .val (.int p4), .val (.int p5), .val (.int p6), .val (.int (0 : Int32)), .val (.int sk), .val (.ref b1), .val (.ref b2), .val (.int (0 : Int32)), .val (.int (0 : Int32)), .unset] [])
      refine Go.st (fun t k => XS.iload X4.here hx rfl (hb hby at_102) rfl k) ?_
      show Go _ _ _ _ T4 (mkF m 104 #[.val (.int p1), .val (.int p2), .val (.int p3), .val (.int p4), .val (.int p5), .val (.int p6), .val (.int (0 : Int32)), .val (.int sk), .val (.ref b1), .val (.ref b2), .val (.int (0 : Int32)), .val (.int (0 : Int32)), .unset] [(.int (0 : Int32))])
      refine Go.st (fun t k => XS.iconst X4.here hx rfl (hb hby at_104) k) ?_
      show Go _ _ _ _ T4 (mkF m 105 #[.val (.int p1), .val (.int p2), .val (.int p3), .val (.int p4), .val (.int p5), .val (.int p6), .val (.int (0 : Int32)), .val (.int sk), .val (.ref b1), .val (.ref b2), .val (.int (0 : Int32)), .val (.int (0 : Int32)), .unset] [(.int (2 : Int32)), (.int (0 : Int32))])
      refine Go.st (fun t k => XS.icmpYes X4.here hx rfl (pc0 := 105) (pc' := 134) rfl (hb hby at_105) rfl (by decide) (by decide) (by decide) k) ?_
      show Go _ _ _ _ T4 (mkF m 134 #[.val (.int p1), .val (.int p2), .val (.int p3), .val (.int p4), .val (.int p5), .val (.int p6), .val (.int (0 : Int32)), .val (.int sk), .val (.ref b1), .val (.ref b2), .val (.int (0 : Int32)), .val (.int (0 : Int32)), .unset] [])
      refine Go.st (fun t k => XS.iload X4.here hx rfl (hb hby at_134) rfl k) ?_
      show Go _ _ _ _ T4 (mkF m 136 #[.val (.int p1), .val (.int p2), .val (.int p3), .val (.int p4), .val (.int p5), .val (.int p6), .val (.int (0 : Int32)), .val (.int sk), .val (.ref b1), .val (.ref b2), .val (.int (0 : Int32)), .val (.int (0 : Int32)), .unset] [(.int (0 : Int32))])
      refine Go.st (fun t k => XS.iload X4.here hx rfl (hb hby at_136) rfl k) ?_
      show Go _ _ _ _ T4 (mkF m 138 #[.val (.int p1), .val (.int p2), .val (.int p3), .val (.int p4), .val (.int p5), .val (.int p6), .val (.int (0 : Int32)), .val (.int sk), .val (.ref b1), .val (.ref b2), .val (.int (0 : Int32)), .val (.int (0 : Int32)), .unset] [(.int (0 : Int32)), (.int (0 : Int32))])
      refine Go.st (fun t k => XS.icmpNo X4.here hx rfl (hb hby at_138) rfl (by decide) k) ?_
      show Go _ _ _ _ T4 (mkF m 141 #[.val (.int p1), .val (.int p2), .val (.int p3), .val (.int p4), .val (.int p5), .val (.int p6), .val (.int (0 : Int32)), .val (.int sk), .val (.ref b1), .val (.ref b2), .val (.int (0 : Int32)), .val (.int (0 : Int32)), .unset] [])
      refine Go.st (fun t k => XS.iconst X4.here hx rfl (hb hby at_141) k) ?_
      show Go _ _ _ _ T4 (mkF m 142 #[.val (.int p1), .val (.int p2), .val (.int p3), .val (.int p4), .val (.int p5), .val (.int p6), .val (.int (0 : Int32)), .val (.int sk), .val (.ref b1), .val (.ref b2), .val (.int (0 : Int32)), .val (.int (0 : Int32)), .unset] [(.int (0 : Int32))])
      refine Go.st (fun t k => XS.istore X4.here hx rfl (hb hby at_142) rfl (l' := #[.val (.int p1), .val (.int p2), .val (.int p3), .val (.int p4), .val (.int p5), .val (.int p6), .val (.int (0 : Int32)), .val (.int sk), .val (.ref b1), .val (.ref b2), .val (.int (0 : Int32)), .val (.int (0 : Int32)), .val (.int (0 : Int32))]) rfl k) ?_
      show Go _ _ _ _ T4 (mkF m 144 #[.val (.int p1), .val (.int p2), .val (.int p3), .val (.int p4), .val (.int p5), .val (.int p6), .val (.int (0 : Int32)), .val (.int sk), .val (.ref b1), .val (.ref b2), .val (.int (0 : Int32)), .val (.int (0 : Int32)), .val (.int (0 : Int32))] [])
      refine Go.st (fun t k => XS.goto X4.here hx rfl (pc0 := 144) (pc' := 189) rfl (hb hby at_144) (by decide) (by decide) k) ?_
      show Go _ _ _ _ T4 (mkF m 189 #[.val (.int p1), .val (.int p2), .val (.int p3), .val (.int p4), .val (.int p5), .val (.int p6), .val (.int (0 : Int32)), .val (.int sk), .val (.ref b1), .val (.ref b2), .val (.int (0 : Int32)), .val (.int (0 : Int32)), .val (.int (0 : Int32))] [])
      refine Go.st (fun t k => XS.aload X4.here hx rfl (hb hby at_189) rfl rfl k) ?_
      show Go _ _ _ _ T4 (mkF m 191 #[.val (.int p1), .val (.int p2), .val (.int p3), .val (.int p4), .val (.int p5), .val (.int p6), .val (.int (0 : Int32)), .val (.int sk), .val (.ref b1), .val (.ref b2), .val (.int (0 : Int32)), .val (.int (0 : Int32)), .val (.int (0 : Int32))] [(.ref b2)])
      refine Go.st (fun t k => XS.iload X4.here hx rfl (hb hby at_191) rfl k) ?_
      show Go _ _ _ _ T4 (mkF m 193 #[.val (.int p1), .val (.int p2), .val (.int p3), .val (.int p4), .val (.int p5), .val (.int p6), .val (.int (0 : Int32)), .val (.int sk), .val (.ref b1), .val (.ref b2), .val (.int (0 : Int32)), .val (.int (0 : Int32)), .val (.int (0 : Int32))] [(.int p6), (.ref b2)])
      refine goM X4 hx hZ (y := (⟨"com/example/vetter/vetter/io/DerReader", "nextIs", "(I)Z"⟩ : MethodName)) (z := (⟨"com/example/vetter/vetter/io/DerReader", "nextIs", "(I)Z"⟩ : MethodName)) hown (hw _ (List.mem_of_getElem? (i := 12) rfl)) (hw _ (List.mem_of_getElem? (i := 13) rfl)) (hw _ (List.mem_of_getElem? (i := 15) rfl)) (hw _ (List.mem_of_getElem? (i := 14) rfl)) (hw _ (List.mem_of_getElem? (i := 16) rfl)) (hw _ (List.mem_of_getElem? (i := 3) rfl)) (notFace_of_selects (args := #[]) (mvT hZ (hw _ (List.mem_of_getElem? (i := 15) rfl)))) (by decide) (rm3 l Z a0 hw b2 p6 T3.heap n0 Z3 (0 : Int32) b1 0 _ (0 : Int32) ((p2.toInt8.toInt32).toInt8.toInt32) F_position_b2 F_data_b2 V_b1 rfl (fun q => absurd q (by decide))) e4 N4 E_b2 0 (by decide) (by decide) (by decide) (by decide) (g := (mkF m 193 #[.val (.int p1), .val (.int p2), .val (.int p3), .val (.int p4), .val (.int p5), .val (.int p6), .val (.int (0 : Int32)), .val (.int sk), .val (.ref b1), .val (.ref b2), .val (.int (0 : Int32)), .val (.int (0 : Int32)), .val (.int (0 : Int32))] [(.int p6), (.ref b2)])) rfl (by rw [hml]; rfl) [(.int p6)] [] (lenOf pd0_1 rfl) rfl rfl (by show 2 * 0 + _ ≤ _; exact Nat.le_of_eq rfl) (hb hby at_193) ?_
      intro T5 v5 L5 M5 X5 N5 hq5
      obtain ⟨hq5, N5q, e5⟩ := hq5
      replace N5 := N5 N5q
      rcases hq5 with ⟨hA5, hB5, rfl⟩ | ⟨hr5, rfl⟩
      ·
        exact absurd hA5 (by decide)
      ·
        show Go _ _ _ _ T5 (mkF m 196 #[.val (.int p1), .val (.int p2), .val (.int p3), .val (.int p4), .val (.int p5), .val (.int p6), .val (.int (0 : Int32)), .val (.int sk), .val (.ref b1), .val (.ref b2), .val (.int (0 : Int32)), .val (.int (0 : Int32)), .val (.int (0 : Int32))] [(.int (0 : Int32))])
        refine Go.st (fun t k => XS.iload X5.here hx rfl (hb hby at_196) rfl k) ?_
        show Go _ _ _ _ T5 (mkF m 198 #[.val (.int p1), .val (.int p2), .val (.int p3), .val (.int p4), .val (.int p5), .val (.int p6), .val (.int (0 : Int32)), .val (.int sk), .val (.ref b1), .val (.ref b2), .val (.int (0 : Int32)), .val (.int (0 : Int32)), .val (.int (0 : Int32))] [(.int (0 : Int32)), (.int (0 : Int32))])
        refine Go.st (fun t k => XS.icmpNo X5.here hx rfl (hb hby at_198) rfl (by decide) k) ?_
        show Go _ _ _ _ T5 (mkF m 201 #[.val (.int p1), .val (.int p2), .val (.int p3), .val (.int p4), .val (.int p5), .val (.int p6), .val (.int (0 : Int32)), .val (.int sk), .val (.ref b1), .val (.ref b2), .val (.int (0 : Int32)), .val (.int (0 : Int32)), .val (.int (0 : Int32))] [])
        refine Go.st (fun t k => XS.iconst X5.here hx rfl (hb hby at_201) k) ?_
        show Go _ _ _ _ T5 (mkF m 202 #[.val (.int p1), .val (.int p2), .val (.int p3), .val (.int p4), .val (.int p5), .val (.int p6), .val (.int (0 : Int32)), .val (.int sk), .val (.ref b1), .val (.ref b2), .val (.int (0 : Int32)), .val (.int (0 : Int32)), .val (.int (0 : Int32))] [(.int (1 : Int32))])
        refine Go.st (fun t k => XS.goto X5.here hx rfl (pc0 := 202) (pc' := 206) rfl (hb hby at_202) (by decide) (by decide) k) ?_
        show Go _ _ _ _ T5 (mkF m 206 #[.val (.int p1), .val (.int p2), .val (.int p3), .val (.int p4), .val (.int p5), .val (.int p6), .val (.int (0 : Int32)), .val (.int sk), .val (.ref b1), .val (.ref b2), .val (.int (0 : Int32)), .val (.int (0 : Int32)), .val (.int (0 : Int32))] [(.int (1 : Int32))])
        exact goN X5 hx hret hlk (by simp) (hb hby at_206) (by decide) (by decide) ⟨rfl, N5⟩
  ·
    generalize (p3 &&& (1 : Int32)) = sk
    show Go _ _ _ _ T0 (mkF m 10 #[.val (.int p1), .val (.int p2), .val (.int p3), .val (.int p4), .val (.int p5), .val (.int p6), .val (.int (1 : Int32)), .val (.int sk), .unset, .unset, .unset, .unset, .unset] [])
    show Go _ _ _ _ T0 (mkF m 10 #[.val (.int p1), .val (.int p2), .val (.int p3), .val (.int p4), .val (.int p5), .val (.int p6), .val (.int (1 : Int32)), .val (.int sk), .unset, .unset, .unset, .unset, .unset] [])
    refine Go.st (fun t k => XS.iload X0.here hx rfl (hb hby at_10) rfl k) ?_
    show Go _ _ _ _ T0 (mkF m 12 #[.val (.int p1), .val (.int p2), .val (.int p3), .val (.int p4), .val (.int p5), .val (.int p6), .val (.int (1 : Int32)), .val (.int sk), .unset, .unset, .unset, .unset, .unset] [(.int (1 : Int32))])
    refine goNew X0 hx hZ (hw _ (List.mem_of_getElem? (i := 0) rfl)) e0 Z0 (by decide) (show Int32.toNatClampNeg (1 : Int32) = 1 from rfl) 1 (by decide) (by decide) (by decide) (by decide) (g := (mkF m 12 #[.val (.int p1), .val (.int p2), .val (.int p3), .val (.int p4), .val (.int p5), .val (.int p6), .val (.int (1 : Int32)), .val (.int sk), .unset, .unset, .unset, .unset, .unset] [(.int (1 : Int32))])) rfl rfl (hb hby at_12) ?_
    intro T6 h6 b6 X6 e6 E6 qz6 g_b6 Z6 V_b6
    replace V_b6 : BA Z h6 b6 .byte 1 (fun _ => (.int (0 : Int32))) := V_b6
    show Go _ _ _ _ T6 (mkF m 14 #[.val (.int p1), .val (.int p2), .val (.int p3), .val (.int p4), .val (.int p5), .val (.int p6), .val (.int (1 : Int32)), .val (.int sk), .unset, .unset, .unset, .unset, .unset] [(.ref b6)])
    refine Go.st (fun t k => XS.astore X6.here hx rfl (hb hby at_14) rfl rfl (l' := #[.val (.int p1), .val (.int p2), .val (.int p3), .val (.int p4), .val (.int p5), .val (.int p6), .val (.int (1 : Int32)), .val (.int sk), .val (.ref b6), .unset, .unset, .unset, .unset]) rfl k) ?_
    show Go _ _ _ _ T6 (mkF m 16 #[.val (.int p1), .val (.int p2), .val (.int p3), .val (.int p4), .val (.int p5), .val (.int p6), .val (.int (1 : Int32)), .val (.int sk), .val (.ref b6), .unset, .unset, .unset, .unset] [])
    refine Go.st (fun t k => XS.iload X6.here hx rfl (hb hby at_16) rfl k) ?_
    show Go _ _ _ _ T6 (mkF m 18 #[.val (.int p1), .val (.int p2), .val (.int p3), .val (.int p4), .val (.int p5), .val (.int p6), .val (.int (1 : Int32)), .val (.int sk), .val (.ref b6), .unset, .unset, .unset, .unset] [(.int (1 : Int32))])
    refine Go.st (fun t k => XS.ifNo X6.here hx rfl (hb hby at_18) rfl (by decide) k) ?_
    show Go _ _ _ _ T6 (mkF m 21 #[.val (.int p1), .val (.int p2), .val (.int p3), .val (.int p4), .val (.int p5), .val (.int p6), .val (.int (1 : Int32)), .val (.int sk), .val (.ref b6), .unset, .unset, .unset, .unset] [])
    refine Go.st (fun t k => XS.aload X6.here hx rfl (hb hby at_21) rfl rfl k) ?_
    show Go _ _ _ _ T6 (mkF m 23 #[.val (.int p1), .val (.int p2), .val (.int p3), .val (.int p4), .val (.int p5), .val (.int p6), .val (.int (1 : Int32)), .val (.int sk), .val (.ref b6), .unset, .unset, .unset, .unset] [(.ref b6)])
    refine Go.st (fun t k => XS.iconst X6.here hx rfl (hb hby at_23) k) ?_
    show Go _ _ _ _ T6 (mkF m 24 #[.val (.int p1), .val (.int p2), .val (.int p3), .val (.int p4), .val (.int p5), .val (.int p6), .val (.int (1 : Int32)), .val (.int sk), .val (.ref b6), .unset, .unset, .unset, .unset] [(.int (0 : Int32)), (.ref b6)])
    refine Go.st (fun t k => XS.iloadN X6.here hx rfl (hb hby at_24) rfl k) ?_
    show Go _ _ _ _ T6 (mkF m 25 #[.val (.int p1), .val (.int p2), .val (.int p3), .val (.int p4), .val (.int p5), .val (.int p6), .val (.int (1 : Int32)), .val (.int sk), .val (.ref b6), .unset, .unset, .unset, .unset] [(.int p2), (.int (0 : Int32)), (.ref b6)])
    refine Go.st (fun t k => XS.i2b X6.here hx rfl (hb hby at_25) rfl k) ?_
    show Go _ _ _ _ T6 (mkF m 26 #[.val (.int p1), .val (.int p2), .val (.int p3), .val (.int p4), .val (.int p5), .val (.int p6), .val (.int (1 : Int32)), .val (.int sk), .val (.ref b6), .unset, .unset, .unset, .unset] [(.int (p2.toInt8.toInt32)), (.int (0 : Int32)), (.ref b6)])
    refine goStB X6 hx hZ e6 N0 V_b6 g_b6 (g := (mkF m 26 #[.val (.int p1), .val (.int p2), .val (.int p3), .val (.int p4), .val (.int p5), .val (.int p6), .val (.int (1 : Int32)), .val (.int sk), .val (.ref b6), .unset, .unset, .unset, .unset] [(.int (p2.toInt8.toInt32)), (.int (0 : Int32)), (.ref b6)])) rfl rfl (hb hby at_26) (k := 0) ⟨by decide, rfl, by decide⟩ ?_
    intro T7 h7 L7 X7 e7 N7 W7 V_b6
    have Z7 := own_sz W7 Z6
    show Go _ _ _ _ T7 (mkF m 27 #[.val (.int p1), .val (.int p2), .val (.int p3), .val (.int p4), .val (.int p5), .val (.int p6), .val (.int (1 : Int32)), .val (.int sk), .val (.ref b6), .unset, .unset, .unset, .unset] [])
    refine Go.st (fun t k => XS.iload X7.here hx rfl (hb hby at_27) rfl k) ?_
    show Go _ _ _ _ T7 (mkF m 29 #[.val (.int p1), .val (.int p2), .val (.int p3), .val (.int p4), .val (.int p5), .val (.int p6), .val (.int (1 : Int32)), .val (.int sk), .val (.ref b6), .unset, .unset, .unset, .unset] [(.int (1 : Int32))])
    refine Go.st (fun t k => XS.iconst X7.here hx rfl (hb hby at_29) k) ?_
    show Go _ _ _ _ T7 (mkF m 30 #[.val (.int p1), .val (.int p2), .val (.int p3), .val (.int p4), .val (.int p5), .val (.int p6), .val (.int (1 : Int32)), .val (.int sk), .val (.ref b6), .unset, .unset, .unset, .unset] [(.int (1 : Int32)), (.int (1 : Int32))])
    refine Go.st (fun t k => XS.icmpYes X7.here hx rfl (pc0 := 30) (pc' := 40) rfl (hb hby at_30) rfl (by decide) (by decide) (by decide) k) ?_
    show Go _ _ _ _ T7 (mkF m 40 #[.val (.int p1), .val (.int p2), .val (.int p3), .val (.int p4), .val (.int p5), .val (.int p6), .val (.int (1 : Int32)), .val (.int sk), .val (.ref b6), .unset, .unset, .unset, .unset] [])
    refine Go.st (fun t k => XS.iload X7.here hx rfl (hb hby at_40) rfl k) ?_
    show Go _ _ _ _ T7 (mkF m 42 #[.val (.int p1), .val (.int p2), .val (.int p3), .val (.int p4), .val (.int p5), .val (.int p6), .val (.int (1 : Int32)), .val (.int sk), .val (.ref b6), .unset, .unset, .unset, .unset] [(.int (1 : Int32))])
    refine Go.st (fun t k => XS.iconst X7.here hx rfl (hb hby at_42) k) ?_
    show Go _ _ _ _ T7 (mkF m 43 #[.val (.int p1), .val (.int p2), .val (.int p3), .val (.int p4), .val (.int p5), .val (.int p6), .val (.int (1 : Int32)), .val (.int sk), .val (.ref b6), .unset, .unset, .unset, .unset] [(.int (2 : Int32)), (.int (1 : Int32))])
    refine Go.st (fun t k => XS.icmpYes X7.here hx rfl (pc0 := 43) (pc' := 52) rfl (hb hby at_43) rfl (by decide) (by decide) (by decide) k) ?_
    show Go _ _ _ _ T7 (mkF m 52 #[.val (.int p1), .val (.int p2), .val (.int p3), .val (.int p4), .val (.int p5), .val (.int p6), .val (.int (1 : Int32)), .val (.int sk), .val (.ref b6), .unset, .unset, .unset, .unset] [])
    obtain ⟨T8, h8, X8, e8, E8, A8, D8, -, st8⟩ := newO X7 hx hZ hown (hw _ (List.mem_of_getElem? (i := 1) rfl)) (hw _ (List.mem_of_getElem? (i := 2) rfl)) (hw _ (List.mem_of_getElem? (i := 3) rfl)) e7 (g := (mkF m 52 #[.val (.int p1), .val (.int p2), .val (.int p3), .val (.int p4), .val (.int p5), .val (.int p6), .val (.int (1 : Int32)), .val (.int sk), .val (.ref b6), .unset, .unset, .unset, .unset] [])) rfl (hb hby at_52) (by decide) (by decide)
    obtain ⟨b8, qz8⟩ : ∃ z, z = h7.size := ⟨_, rfl⟩
    rw [← qz8] at A8 D8 st8
    have g_b8 : n0 ≤ b8 := Nat.le_trans Z7 (Nat.le_of_eq qz8.symm)
    have Z8 := Nat.le_trans Z7 E8.1
    have ne_b6_b8 : b6 ≠ b8 := fun z => absurd V_b6.lt (by rw [z, qz8]; exact Nat.lt_irrefl _)
    have V_b6 := V_b6.ext E8
    have E_b8 := A8
    have F_data_b8 : Fld Z h8 b8 "com/example/vetter/vetter/io/DerReader" "data" "[B" .null := D8 (Or.inr (hw _ (List.mem_of_getElem? (i := 11) rfl))) (ty := (.array .byte)) (by decide)
    have F_position_b8 : Fld Z h8 b8 "com/example/vetter/vetter/io/DerReader" "position" "I" (.int (0 : Int32)) := D8 (Or.inl (hw _ (List.mem_of_getElem? (i := 18) rfl))) (ty := .int) (by decide)
    refine Go.st st8 ?_
    show Go _ _ _ _ T8 (mkF m 55 #[.val (.int p1), .val (.int p2), .val (.int p3), .val (.int p4), .val (.int p5), .val (.int p6), .val (.int (1 : Int32)), .val (.int sk), .val (.ref b6), .unset, .unset, .unset, .unset] [(.ref b8)])
    refine Go.st (fun t k => XS.dup X8.here hx rfl (hb hby at_55) rfl rfl k) ?_
    show Go _ _ _ _ T8 (mkF m 56 #[.val (.int p1), .val (.int p2), .val (.int p3), .val (.int p4), .val (.int p5), .val (.int p6), .val (.int (1 : Int32)), .val (.int sk), .val (.ref b6), .unset, .unset, .unset, .unset] [(.ref b8), (.ref b8)])
    refine Go.st (fun t k => XS.aload X8.here hx rfl (hb hby at_56) rfl rfl k) ?_
    show Go _ _ _ _ T8 (mkF m 58 #[.val (.int p1), .val (.int p2), .val (.int p3), .val (.int p4), .val (.int p5), .val (.int p6), .val (.int (1 : Int32)), .val (.int sk), .val (.ref b6), .unset, .unset, .unset, .unset] [(.ref b6), (.ref b8), (.ref b8)])
    refine goC X8 hx hZ (y := (⟨"com/example/vetter/vetter/io/DerReader", "<init>", "([B)V"⟩ : MethodName)) rfl hown (hw _ (List.mem_of_getElem? (i := 4) rfl)) (hw _ (List.mem_of_getElem? (i := 5) rfl)) (hw _ (List.mem_of_getElem? (i := 3) rfl)) (hw _ (List.mem_of_getElem? (i := 6) rfl)) (by decide) (rm1 l Z a0 hw b8 b6 h8 n0 Z8 E_b8 F_data_b8 F_position_b8 g_b8) e8 N7 1 (by decide) (by decide) (by decide) (by decide) (g := (mkF m 58 #[.val (.int p1), .val (.int p2), .val (.int p3), .val (.int p4), .val (.int p5), .val (.int p6), .val (.int (1 : Int32)), .val (.int sk), .val (.ref b6), .unset, .unset, .unset, .unset] [(.ref b6), (.ref b8), (.ref b8)])) rfl (by rw [hml]; rfl) [(.ref b6)] [(.ref b8)] (lenOf pd0_0 rfl) rfl rfl (by show 2 * 0 + _ ≤ _; exact Nat.le_of_eq rfl) (hb hby at_58) ?_
    intro T9 v9 L9 M9 X9 N9 hq9
    obtain ⟨rfl, N9q, K9, E_b8, F_data_b8, F_position_b8⟩ := hq9
    replace N9 := N9 N9q
    have Z9 := Nat.le_trans Z8 K9.1
    have V_b6 := V_b6.keep K9 (ninS ne_b6_b8 nin0)
    show Go _ _ _ _ T9 (mkF m 61 #[.val (.int p1), .val (.int p2), .val (.int p3), .val (.int p4), .val (.int p5), .val (.int p6), .val (.int (1 : Int32)), .val (.int sk), .val (.ref b6), .unset, .unset, .unset, .unset] [(.ref b8)])
    refine Go.st (fun t k => XS.astore X9.here hx rfl (hb hby at_61) rfl rfl (l' := #[.val (.int p1), .val (.int p2), .val (.int p3), .val (.int p4), .val (.int p5), .val (.int p6), .val (.int (1 : Int32)), .val (.int sk), .val (.ref b6), .val (.ref b8), .unset, .unset, .unset]) rfl k) ?_
    show Go _ _ _ _ T9 (mkF m 63 #[.val (.int p1), .val (.int p2), .val (.int p3), .val (.int p4), .val (.int p5), .val (.int p6), .val (.int (1 : Int32)), .val (.int sk), .val (.ref b6), .val (.ref b8), .unset, .unset, .unset] [])
    refine Go.st (fun t k => XS.iload X9.here hx rfl (hb hby at_63) rfl k) ?_
    show Go _ _ _ _ T9 (mkF m 65 #[.val (.int p1), .val (.int p2), .val (.int p3), .val (.int p4), .val (.int p5), .val (.int p6), .val (.int (1 : Int32)), .val (.int sk), .val (.ref b6), .val (.ref b8), .unset, .unset, .unset] [(.int (1 : Int32))])
    refine Go.st (fun t k => XS.ifNo X9.here hx rfl (hb hby at_65) rfl (by decide) k) ?_
    show Go _ _ _ _ T9 (mkF m 68 #[.val (.int p1), .val (.int p2), .val (.int p3), .val (.int p4), .val (.int p5), .val (.int p6), .val (.int (1 : Int32)), .val (.int sk), .val (.ref b6), .val (.ref b8), .unset, .unset, .unset] [])
    refine Go.st (fun t k => XS.iloadN X9.here hx rfl (hb hby at_68) rfl k) ?_
    show Go _ _ _ _ T9 (mkF m 69 #[.val (.int p1), .val (.int p2), .val (.int p3), .val (.int p4), .val (.int p5), .val (.int p6), .val (.int (1 : Int32)), .val (.int sk), .val (.ref b6), .val (.ref b8), .unset, .unset, .unset] [(.int p2)])
    refine Go.st (fun t k => XS.sipush X9.here hx rfl (hb hby at_69) k) ?_
    show Go _ _ _ _ T9 (mkF m 72 #[.val (.int p1), .val (.int p2), .val (.int p3), .val (.int p4), .val (.int p5), .val (.int p6), .val (.int (1 : Int32)), .val (.int sk), .val (.ref b6), .val (.ref b8), .unset, .unset, .unset] [(.int (255 : Int32)), (.int p2)])
    refine Go.st (fun t k => XS.iand X9.here hx rfl (hb hby at_72) rfl k) ?_
    show Go _ _ _ _ T9 (mkF m 73 #[.val (.int p1), .val (.int p2), .val (.int p3), .val (.int p4), .val (.int p5), .val (.int p6), .val (.int (1 : Int32)), .val (.int sk), .val (.ref b6), .val (.ref b8), .unset, .unset, .unset] [(.int (p2 &&& (255 : Int32)))])
    refine Go.st (fun t k => XS.iload X9.here hx rfl (hb hby at_73) rfl k) ?_
    show Go _ _ _ _ T9 (mkF m 75 #[.val (.int p1), .val (.int p2), .val (.int p3), .val (.int p4), .val (.int p5), .val (.int p6), .val (.int (1 : Int32)), .val (.int sk), .val (.ref b6), .val (.ref b8), .unset, .unset, .unset] [(.int p5), (.int (p2 &&& (255 : Int32)))])
    by_cases hE1 : (p2 &&& (255 : Int32)) = p5
    ·
      refine Go.st (fun t k => XS.icmpNo X9.here hx rfl (hb hby at_75) rfl (teq hE1).2 k) ?_
      show Go _ _ _ _ T9 (mkF m 78 #[.val (.int p1), .val (.int p2), .val (.int p3), .val (.int p4), .val (.int p5), .val (.int p6), .val (.int (1 : Int32)), .val (.int sk), .val (.ref b6), .val (.ref b8), .unset, .unset, .unset] [])
      refine Go.st (fun t k => XS.iconst X9.here hx rfl (hb hby at_78) k) ?_
      show Go _ _ _ _ T9 (mkF m 79 #[.val (.int p1), .val (.int p2), .val (.int p3), .val (.int p4), .val (.int p5), .val (.int p6), .val (.int (1 : Int32)), .val (.int sk), .val (.ref b6), .val (.ref b8), .unset, .unset, .unset] [(.int (1 : Int32))])
      refine Go.st (fun t k => XS.goto X9.here hx rfl (pc0 := 79) (pc' := 83) rfl (hb hby at_79) (by decide) (by decide) k) ?_
      show Go _ _ _ _ T9 (mkF m 83 #[.val (.int p1), .val (.int p2), .val (.int p3), .val (.int p4), .val (.int p5), .val (.int p6), .val (.int (1 : Int32)), .val (.int sk), .val (.ref b6), .val (.ref b8), .unset, .unset, .unset] [(.int (1 : Int32))])
      refine Go.st (fun t k => XS.istore X9.here hx rfl (hb hby at_83) rfl (l' := #[.val (.int p1), .val (.int p2), .val (.int p3), .val (.int p4), .val (.int p5), .val (.int p6), .val (.int (1 : Int32)), .val (.int sk), .val (.ref b6), .val (.ref b8), .val (.int (1 : Int32)), .unset, .unset]) rfl k) ?_
      show Go _ _ _ _ T9 (mkF m 85 #[.val (.int p1), .val (.int p2), .val (.int p3), .val (.int p4), .val (.int p5), .val (.int p6), .val (.int (1 : Int32)), .val (.int sk), .val (.ref b6), .val (.ref b8), .val (.int (1 : Int32)), .unset, .unset] [])
      refine Go.st (fun t k => XS.aload X9.here hx rfl (hb hby at_85) rfl rfl k) ?_
      show Go _ _ _ _ T9 (mkF m 87 #[.val (.int p1), .val (.int p2), .val (.int p3), .val (.int p4), .val (.int p5), .val (.int p6), .val (.int (1 : Int32)), .val (.int sk), .val (.ref b6), .val (.ref b8), .val (.int (1 : Int32)), .unset, .unset] [(.ref b8)])
      refine Go.st (fun t k => XS.iload X9.here hx rfl (hb hby at_87) rfl k) ?_
      show Go _ _ _ _ T9 (mkF m 89 #[.val (.int p1), .val (.int p2), .val (.int p3), .val (.int p4), .val (.int p5), .val (.int p6), .val (.int (1 : Int32)), .val (.int sk), .val (.ref b6), .val (.ref b8), .val (.int (1 : Int32)), .unset, .unset] [(.int p5), (.ref b8)])
      refine goM X9 hx hZ (y := (⟨"com/example/vetter/vetter/io/DerReader", "nextIs", "(I)Z"⟩ : MethodName)) (z := (⟨"com/example/vetter/vetter/io/DerReader", "nextIs", "(I)Z"⟩ : MethodName)) hown (hw _ (List.mem_of_getElem? (i := 12) rfl)) (hw _ (List.mem_of_getElem? (i := 13) rfl)) (hw _ (List.mem_of_getElem? (i := 15) rfl)) (hw _ (List.mem_of_getElem? (i := 14) rfl)) (hw _ (List.mem_of_getElem? (i := 16) rfl)) (hw _ (List.mem_of_getElem? (i := 3) rfl)) (notFace_of_selects (args := #[]) (mvT hZ (hw _ (List.mem_of_getElem? (i := 15) rfl)))) (by decide) (rm3 l Z a0 hw b8 p5 T9.heap n0 Z9 (0 : Int32) b6 1 _ (1 : Int32) ((p2.toInt8.toInt32).toInt8.toInt32) F_position_b8 F_data_b8 V_b6 rfl (fun _ => ⟨0, ⟨by decide, rfl, by decide⟩, rfl⟩)) rfl N9 E_b8 0 (by decide) (by decide) (by decide) (by decide) (g := (mkF m 89 #[.val (.int p1), .val (.int p2), .val (.int p3), .val (.int p4), .val (.int p5), .val (.int p6), .val (.int (1 : Int32)), .val (.int sk), .val (.ref b6), .val (.ref b8), .val (.int (1 : Int32)), .unset, .unset] [(.int p5), (.ref b8)])) rfl (by rw [hml]; rfl) [(.int p5)] [] (lenOf pd0_1 rfl) rfl rfl (by show 2 * 0 + _ ≤ _; exact Nat.le_of_eq rfl) (hb hby at_89) ?_
      intro T11 v11 L11 M11 X11 N11 hq11
      obtain ⟨hq11, N11q, e11⟩ := hq11
      replace N11 := N11 N11q
      rcases hq11 with ⟨hA11, hB11, rfl⟩ | ⟨hr11, rfl⟩
      ·
        show Go _ _ _ _ T11 (mkF m 92 #[.val (.int p1), .val (.int p2), .val (.int p3), .val (.int p4), .val (.int p5), .val (.int p6), .val (.int (1 : Int32)), .val (.int sk), .val (.ref b6), .val (.ref b8), .val (.int (1 : Int32)), .unset, .unset] [(.int (1 : Int32))])
        refine Go.st (fun t k => XS.iload X11.here hx rfl (hb hby at_92) rfl k) ?_
        show Go _ _ _ _ T11 (mkF m 94 #[.val (.int p1), .val (.int p2), .val (.int p3), .val (.int p4), .val (.int p5), .val (.int p6), .val (.int (1 : Int32)), .val (.int sk), .val (.ref b6), .val (.ref b8), .val (.int (1 : Int32)), .unset, .unset] [(.int (1 : Int32)), (.int (1 : Int32))])
        refine Go.st (fun t k => XS.icmpYes X11.here hx rfl (pc0 := 94) (pc' := 99) rfl (hb hby at_94) rfl (by decide) (by decide) (by decide) k) ?_
        show Go _ _ _ _ T11 (mkF m 99 #[.val (.int p1), .val (.int p2), .val (.int p3), .val (.int p4), .val (.int p5), .val (.int p6), .val (.int (1 : Int32)), .val (.int sk), .val (.ref b6), .val (.ref b8), .val (.int (1 : Int32)), .unset, .unset] [])
        refine Go.st (fun t k => XS.iconst X11.here hx rfl (hb hby at_99) k) ?_
        show Go _ _ _ _ T11 (mkF m 100 #[.val (.int p1), .val (.int p2), .val (.int p3), .val (.int p4), .val (.int p5), .val (.int p6), .val (.int (1 : Int32)), .val (.int sk), .val (.ref b6), .val (.ref b8), .val (.int (1 : Int32)), .unset, .unset] [(.int (0 : Int32))])
        refine Go.st (fun t k => XS.istore X11.here hx rfl (hb hby at_100) rfl (l' := #[.val (.int p1), .val (.int p2), .val (.int p3), .val (.int p4), .val (.int p5), .val (.int p6), .val (.int (1 : Int32)), .val (.int sk), .val (.ref b6), .val (.ref b8), .val (.int (1 : Int32)), .val (.int (0 : Int32)), .unset]) rfl k) ?_
        show Go _ _ _ _ T11 (mkF m 102 #[.val (.int p1), .val (.int p2), .val (.int p3), .val (.int p4), .val (.int p5), .val (.int p6), .val (.int (1 : Int32)), .val (.int sk), .val (.ref b6), .val (.ref b8), .val (.int (1 : Int32)), .val (.int (0 : Int32)), .unset] [])
        refine Go.st (fun t k => XS.iload X11.here hx rfl (hb hby at_102) rfl k) ?_
        show Go _ _ _ _ T11 (mkF m 104 #[.val (.int p1), .val (.int p2), .val (.int p3), .val (.int p4), .val (.int p5), .val (.int p6), .val (.int (1 : Int32)), .val (.int sk), .val (.ref b6), .val (.ref b8), .val (.int (1 : Int32)), .val (.int (0 : Int32)), .unset] [(.int (1 : Int32))])
        refine Go.st (fun t k => XS.iconst X11.here hx rfl (hb hby at_104) k) ?_
        show Go _ _ _ _ T11 (mkF m 105 #[.val (.int p1), .val (.int p2), .val (.int p3), .val (.int p4), .val (.int p5), .val (.int p6), .val (.int (1 : Int32)), .val (.int sk), .val (.ref b6), .val (.ref b8), .val (.int (1 : Int32)), .val (.int (0 : Int32)), .unset] [(.int (2 : Int32)), (.int (1 : Int32))])
        refine Go.st (fun t k => XS.icmpYes X11.here hx rfl (pc0 := 105) (pc' := 134) rfl (hb hby at_105) rfl (by decide) (by decide) (by decide) k) ?_
        show Go _ _ _ _ T11 (mkF m 134 #[.val (.int p1), .val (.int p2), .val (.int p3), .val (.int p4), .val (.int p5), .val (.int p6), .val (.int (1 : Int32)), .val (.int sk), .val (.ref b6), .val (.ref b8), .val (.int (1 : Int32)), .val (.int (0 : Int32)), .unset] [])
        refine Go.st (fun t k => XS.iload X11.here hx rfl (hb hby at_134) rfl k) ?_
        show Go _ _ _ _ T11 (mkF m 136 #[.val (.int p1), .val (.int p2), .val (.int p3), .val (.int p4), .val (.int p5), .val (.int p6), .val (.int (1 : Int32)), .val (.int sk), .val (.ref b6), .val (.ref b8), .val (.int (1 : Int32)), .val (.int (0 : Int32)), .unset] [(.int (0 : Int32))])
        refine Go.st (fun t k => XS.iload X11.here hx rfl (hb hby at_136) rfl k) ?_
        show Go _ _ _ _ T11 (mkF m 138 #[.val (.int p1), .val (.int p2), .val (.int p3), .val (.int p4), .val (.int p5), .val (.int p6), .val (.int (1 : Int32)), .val (.int sk), .val (.ref b6), .val (.ref b8), .val (.int (1 : Int32)), .val (.int (0 : Int32)), .unset] [(.int (1 : Int32)), (.int (0 : Int32))])
        refine Go.st (fun t k => XS.icmpYes X11.here hx rfl (pc0 := 138) (pc' := 147) rfl (hb hby at_138) rfl (by decide) (by decide) (by decide) k) ?_
        show Go _ _ _ _ T11 (mkF m 147 #[.val (.int p1), .val (.int p2), .val (.int p3), .val (.int p4), .val (.int p5), .val (.int p6), .val (.int (1 : Int32)), .val (.int sk), .val (.ref b6), .val (.ref b8), .val (.int (1 : Int32)), .val (.int (0 : Int32)), .unset] [])
        refine Go.st (fun t k => XS.iload X11.here hx rfl (hb hby at_147) rfl k) ?_
        show Go _ _ _ _ T11 (mkF m 149 #[.val (.int p1), .val (.int p2), .val (.int p3), .val (.int p4), .val (.int p5), .val (.int p6), .val (.int (1 : Int32)), .val (.int sk), .val (.ref b6), .val (.ref b8), .val (.int (1 : Int32)), .val (.int (0 : Int32)), .unset] [(.int (0 : Int32))])
        refine Go.st (fun t k => XS.ifNo X11.here hx rfl (hb hby at_149) rfl (by decide) k) ?_
        show Go _ _ _ _ T11 (mkF m 152 #[.val (.int p1), .val (.int p2), .val (.int p3), .val (.int p4), .val (.int p5), .val (.int p6), .val (.int (1 : Int32)), .val (.int sk), .val (.ref b6), .val (.ref b8), .val (.int (1 : Int32)), .val (.int (0 : Int32)), .unset] [])
        refine Go.st (fun t k => XS.iloadN X11.here hx rfl (hb hby at_152) rfl k) ?_
        show Go _ _ _ _ T11 (mkF m 153 #[.val (.int p1), .val (.int p2), .val (.int p3), .val (.int p4), .val (.int p5), .val (.int p6), .val (.int (1 : Int32)), .val (.int sk), .val (.ref b6), .val (.ref b8), .val (.int (1 : Int32)), .val (.int (0 : Int32)), .unset] [(.int p2)])
        refine Go.st (fun t k => XS.sipush X11.here hx rfl (hb hby at_153) k) ?_
        show Go _ _ _ _ T11 (mkF m 156 #[.val (.int p1), .val (.int p2), .val (.int p3), .val (.int p4), .val (.int p5), .val (.int p6), .val (.int (1 : Int32)), .val (.int sk), .val (.ref b6), .val (.ref b8), .val (.int (1 : Int32)), .val (.int (0 : Int32)), .unset] [(.int (255 : Int32)), (.int p2)])
        refine Go.st (fun t k => XS.iand X11.here hx rfl (hb hby at_156) rfl k) ?_
        show Go _ _ _ _ T11 (mkF m 157 #[.val (.int p1), .val (.int p2), .val (.int p3), .val (.int p4), .val (.int p5), .val (.int p6), .val (.int (1 : Int32)), .val (.int sk), .val (.ref b6), .val (.ref b8), .val (.int (1 : Int32)), .val (.int (0 : Int32)), .unset] [(.int (p2 &&& (255 : Int32)))])
        refine Go.st (fun t k => XS.iload X11.here hx rfl (hb hby at_157) rfl k) ?_
        show Go _ _ _ _ T11 (mkF m 159 #[.val (.int p1), .val (.int p2), .val (.int p3), .val (.int p4), .val (.int p5), .val (.int p6), .val (.int (1 : Int32)), .val (.int sk), .val (.ref b6), .val (.ref b8), .val (.int (1 : Int32)), .val (.int (0 : Int32)), .unset] [(.int p6), (.int (p2 &&& (255 : Int32)))])
        by_cases hE2 : (p2 &&& (255 : Int32)) = p6
        ·
          refine Go.st (fun t k => XS.icmpNo X11.here hx rfl (hb hby at_159) rfl (teq hE2).2 k) ?_
          show Go _ _ _ _ T11 (mkF m 162 #[.val (.int p1), .val (.int p2), .val (.int p3), .val (.int p4), .val (.int p5), .val (.int p6), .val (.int (1 : Int32)), .val (.int sk), .val (.ref b6), .val (.ref b8), .val (.int (1 : Int32)), .val (.int (0 : Int32)), .unset] [])
          refine Go.st (fun t k => XS.iconst X11.here hx rfl (hb hby at_162) k) ?_
          show Go _ _ _ _ T11 (mkF m 163 #[.val (.int p1), .val (.int p2), .val (.int p3), .val (.int p4), .val (.int p5), .val (.int p6), .val (.int (1 : Int32)), .val (.int sk), .val (.ref b6), .val (.ref b8), .val (.int (1 : Int32)), .val (.int (0 : Int32)), .unset] [(.int (1 : Int32))])
          refine Go.st (fun t k => XS.goto X11.here hx rfl (pc0 := 163) (pc' := 167) rfl (hb hby at_163) (by decide) (by decide) k) ?_
          show Go _ _ _ _ T11 (mkF m 167 #[.val (.int p1), .val (.int p2), .val (.int p3), .val (.int p4), .val (.int p5), .val (.int p6), .val (.int (1 : Int32)), .val (.int sk), .val (.ref b6), .val (.ref b8), .val (.int (1 : Int32)), .val (.int (0 : Int32)), .unset] [(.int (1 : Int32))])
          refine Go.st (fun t k => XS.istore X11.here hx rfl (hb hby at_167) rfl (l' := #[.val (.int p1), .val (.int p2), .val (.int p3), .val (.int p4), .val (.int p5), .val (.int p6), .val (.int (1 : Int32)), .val (.int sk), .val (.ref b6), .val (.ref b8), .val (.int (1 : Int32)), .val (.int (0 : Int32)), .val (.int (1 : Int32))]) rfl k) ?_
          show Go _ _ _ _ T11 (mkF m 169 #[.val (.int p1), .val (.int p2), .val (.int p3), .val (.int p4), .val (.int p5), .val (.int p6), .val (.int (1 : Int32)), .val (.int sk), .val (.ref b6), .val (.ref b8), .val (.int (1 : Int32)), .val (.int (0 : Int32)), .val (.int (1 : Int32))] [])
          refine Go.st (fun t k => XS.goto X11.here hx rfl (pc0 := 169) (pc' := 189) rfl (hb hby at_169) (by decide) (by decide) k) ?_
          show Go _ _ _ _ T11 (mkF m 189 #[.val (.int p1), .val (.int p2), .val (.int p3), .val (.int p4), .val (.int p5), .val (.int p6), .val (.int (1 : Int32)), .val (.int sk), .val (.ref b6), .val (.ref b8), .val (.int (1 : Int32)), .val (.int (0 : Int32)), .val (.int (1 : Int32))] [])
          refine Go.st (fun t k => XS.aload X11.here hx rfl (hb hby at_189) rfl rfl k) ?_
          show Go _ _ _ _ T11 (mkF m 191 #[.val (.int p1), .val (.int p2), .val (.int p3), .val (.int p4), .val (.int p5), .val (.int p6), .val (.int (1 : Int32)), .val (.int sk), .val (.ref b6), .val (.ref b8), .val (.int (1 : Int32)), .val (.int (0 : Int32)), .val (.int (1 : Int32))] [(.ref b8)])
          refine Go.st (fun t k => XS.iload X11.here hx rfl (hb hby at_191) rfl k) ?_
          show Go _ _ _ _ T11 (mkF m 193 #[.val (.int p1), .val (.int p2), .val (.int p3), .val (.int p4), .val (.int p5), .val (.int p6), .val (.int (1 : Int32)), .val (.int sk), .val (.ref b6), .val (.ref b8), .val (.int (1 : Int32)), .val (.int (0 : Int32)), .val (.int (1 : Int32))] [(.int p6), (.ref b8)])
          refine goM X11 hx hZ (y := (⟨"com/example/vetter/vetter/io/DerReader", "nextIs", "(I)Z"⟩ : MethodName)) (z := (⟨"com/example/vetter/vetter/io/DerReader", "nextIs", "(I)Z"⟩ : MethodName)) hown (hw _ (List.mem_of_getElem? (i := 12) rfl)) (hw _ (List.mem_of_getElem? (i := 13) rfl)) (hw _ (List.mem_of_getElem? (i := 15) rfl)) (hw _ (List.mem_of_getElem? (i := 14) rfl)) (hw _ (List.mem_of_getElem? (i := 16) rfl)) (hw _ (List.mem_of_getElem? (i := 3) rfl)) (notFace_of_selects (args := #[]) (mvT hZ (hw _ (List.mem_of_getElem? (i := 15) rfl)))) (by decide) (rm3 l Z a0 hw b8 p6 T9.heap n0 Z9 (0 : Int32) b6 1 _ (1 : Int32) ((p2.toInt8.toInt32).toInt8.toInt32) F_position_b8 F_data_b8 V_b6 rfl (fun _ => ⟨0, ⟨by decide, rfl, by decide⟩, rfl⟩)) e11 N11 E_b8 0 (by decide) (by decide) (by decide) (by decide) (g := (mkF m 193 #[.val (.int p1), .val (.int p2), .val (.int p3), .val (.int p4), .val (.int p5), .val (.int p6), .val (.int (1 : Int32)), .val (.int sk), .val (.ref b6), .val (.ref b8), .val (.int (1 : Int32)), .val (.int (0 : Int32)), .val (.int (1 : Int32))] [(.int p6), (.ref b8)])) rfl (by rw [hml]; rfl) [(.int p6)] [] (lenOf pd0_1 rfl) rfl rfl (by show 2 * 0 + _ ≤ _; exact Nat.le_of_eq rfl) (hb hby at_193) ?_
          intro T13 v13 L13 M13 X13 N13 hq13
          obtain ⟨hq13, N13q, e13⟩ := hq13
          replace N13 := N13 N13q
          rcases hq13 with ⟨hA13, hB13, rfl⟩ | ⟨hr13, rfl⟩
          ·
            show Go _ _ _ _ T13 (mkF m 196 #[.val (.int p1), .val (.int p2), .val (.int p3), .val (.int p4), .val (.int p5), .val (.int p6), .val (.int (1 : Int32)), .val (.int sk), .val (.ref b6), .val (.ref b8), .val (.int (1 : Int32)), .val (.int (0 : Int32)), .val (.int (1 : Int32))] [(.int (1 : Int32))])
            refine Go.st (fun t k => XS.iload X13.here hx rfl (hb hby at_196) rfl k) ?_
            show Go _ _ _ _ T13 (mkF m 198 #[.val (.int p1), .val (.int p2), .val (.int p3), .val (.int p4), .val (.int p5), .val (.int p6), .val (.int (1 : Int32)), .val (.int sk), .val (.ref b6), .val (.ref b8), .val (.int (1 : Int32)), .val (.int (0 : Int32)), .val (.int (1 : Int32))] [(.int (1 : Int32)), (.int (1 : Int32))])
            refine Go.st (fun t k => XS.icmpNo X13.here hx rfl (hb hby at_198) rfl (by decide) k) ?_
            show Go _ _ _ _ T13 (mkF m 201 #[.val (.int p1), .val (.int p2), .val (.int p3), .val (.int p4), .val (.int p5), .val (.int p6), .val (.int (1 : Int32)), .val (.int sk), .val (.ref b6), .val (.ref b8), .val (.int (1 : Int32)), .val (.int (0 : Int32)), .val (.int (1 : Int32))] [])
            refine Go.st (fun t k => XS.iconst X13.here hx rfl (hb hby at_201) k) ?_
            show Go _ _ _ _ T13 (mkF m 202 #[.val (.int p1), .val (.int p2), .val (.int p3), .val (.int p4), .val (.int p5), .val (.int p6), .val (.int (1 : Int32)), .val (.int sk), .val (.ref b6), .val (.ref b8), .val (.int (1 : Int32)), .val (.int (0 : Int32)), .val (.int (1 : Int32))] [(.int (1 : Int32))])
            refine Go.st (fun t k => XS.goto X13.here hx rfl (pc0 := 202) (pc' := 206) rfl (hb hby at_202) (by decide) (by decide) k) ?_
            show Go _ _ _ _ T13 (mkF m 206 #[.val (.int p1), .val (.int p2), .val (.int p3), .val (.int p4), .val (.int p5), .val (.int p6), .val (.int (1 : Int32)), .val (.int sk), .val (.ref b6), .val (.ref b8), .val (.int (1 : Int32)), .val (.int (0 : Int32)), .val (.int (1 : Int32))] [(.int (1 : Int32))])
            exact goN X13 hx hret hlk (by simp) (hb hby at_206) (by decide) (by decide) ⟨rfl, N13⟩
          ·
            exact absurd ⟨by decide, (own_m _).trans hE2⟩ hr13
        ·
          refine Go.st (fun t k => XS.icmpYes X11.here hx rfl (pc0 := 159) (pc' := 166) rfl (hb hby at_159) rfl (feq hE2).2 (by decide) (by decide) k) ?_
          show Go _ _ _ _ T11 (mkF m 166 #[.val (.int p1), .val (.int p2), .val (.int p3), .val (.int p4), .val (.int p5), .val (.int p6), .val (.int (1 : Int32)), .val (.int sk), .val (.ref b6), .val (.ref b8), .val (.int (1 : Int32)), .val (.int (0 : Int32)), .unset] [])
          refine Go.st (fun t k => XS.iconst X11.here hx rfl (hb hby at_166) k) ?_
          show Go _ _ _ _ T11 (mkF m 167 #[.val (.int p1), .val (.int p2), .val (.int p3), .val (.int p4), .val (.int p5), .val (.int p6), .val (.int (1 : Int32)), .val (.int sk), .val (.ref b6), .val (.ref b8), .val (.int (1 : Int32)), .val (.int (0 : Int32)), .unset] [(.int (0 : Int32))])
          refine Go.st (fun t k => XS.istore X11.here hx rfl (hb hby at_167) rfl (l' := #[.val (.int p1), .val (.int p2), .val (.int p3), .val (.int p4), .val (.int p5), .val (.int p6), .val (.int (1 : Int32)), .val (.int sk), .val (.ref b6), .val (.ref b8), .val (.int (1 : Int32)), .val (.int (0 : Int32)), .val (.int (0 : Int32))]) rfl k) ?_
          show Go _ _ _ _ T11 (mkF m 169 #[.val (.int p1), .val (.int p2), .val (.int p3), .val (.int p4), .val (.int p5), .val (.int p6), .val (.int (1 : Int32)), .val (.int sk), .val (.ref b6), .val (.ref b8), .val (.int (1 : Int32)), .val (.int (0 : Int32)), .val (.int (0 : Int32))] [])
          refine Go.st (fun t k => XS.goto X11.here hx rfl (pc0 := 169) (pc' := 189) rfl (hb hby at_169) (by decide) (by decide) k) ?_
          show Go _ _ _ _ T11 (mkF m 189 #[.val (.int p1), .val (.int p2), .val (.int p3), .val (.int p4), .val (.int p5), .val (.int p6), .val (.int (1 : Int32)), .val (.int sk), .val (.ref b6), .val (.ref b8), .val (.int (1 : Int32)), .val (.int (0 : Int32)), .val (.int (0 : Int32))] [])
          refine Go.st (fun t k => XS.aload X11.here hx rfl (hb hby at_189) rfl rfl k) ?_
          show Go _ _ _ _ T11 (mkF m 191 #[.val (.int p1), .val (.int p2), .val (.int p3), .val (.int p4), .val (.int p5), .val (.int p6), .val (.int (1 : Int32)), .val (.int sk), .val (.ref b6), .val (.ref b8), .val (.int (1 : Int32)), .val (.int (0 : Int32)), .val (.int (0 : Int32))] [(.ref b8)])
          refine Go.st (fun t k => XS.iload X11.here hx rfl (hb hby at_191) rfl k) ?_
          show Go _ _ _ _ T11 (mkF m 193 #[.val (.int p1), .val (.int p2), .val (.int p3), .val (.int p4), .val (.int p5), .val (.int p6), .val (.int (1 : Int32)), .val (.int sk), .val (.ref b6), .val (.ref b8), .val (.int (1 : Int32)), .val (.int (0 : Int32)), .val (.int (0 : Int32))] [(.int p6), (.ref b8)])
          refine goM X11 hx hZ (y := (⟨"com/example/vetter/vetter/io/DerReader", "nextIs", "(I)Z"⟩ : MethodName)) (z := (⟨"com/example/vetter/vetter/io/DerReader", "nextIs", "(I)Z"⟩ : MethodName)) hown (hw _ (List.mem_of_getElem? (i := 12) rfl)) (hw _ (List.mem_of_getElem? (i := 13) rfl)) (hw _ (List.mem_of_getElem? (i := 15) rfl)) (hw _ (List.mem_of_getElem? (i := 14) rfl)) (hw _ (List.mem_of_getElem? (i := 16) rfl)) (hw _ (List.mem_of_getElem? (i := 3) rfl)) (notFace_of_selects (args := #[]) (mvT hZ (hw _ (List.mem_of_getElem? (i := 15) rfl)))) (by decide) (rm3 l Z a0 hw b8 p6 T9.heap n0 Z9 (0 : Int32) b6 1 _ (1 : Int32) ((p2.toInt8.toInt32).toInt8.toInt32) F_position_b8 F_data_b8 V_b6 rfl (fun _ => ⟨0, ⟨by decide, rfl, by decide⟩, rfl⟩)) e11 N11 E_b8 0 (by decide) (by decide) (by decide) (by decide) (g := (mkF m 193 #[.val (.int p1), .val (.int p2), .val (.int p3), .val (.int p4), .val (.int p5), .val (.int p6), .val (.int (1 : Int32)), .val (.int sk), .val (.ref b6), .val (.ref b8), .val (.int (1 : Int32)), .val (.int (0 : Int32)), .val (.int (0 : Int32))] [(.int p6), (.ref b8)])) rfl (by rw [hml]; rfl) [(.int p6)] [] (lenOf pd0_1 rfl) rfl rfl (by show 2 * 0 + _ ≤ _; exact Nat.le_of_eq rfl) (hb hby at_193) ?_
          intro T14 v14 L14 M14 X14 N14 hq14
          obtain ⟨hq14, N14q, e14⟩ := hq14
          replace N14 := N14 N14q
          rcases hq14 with ⟨hA14, hB14, rfl⟩ | ⟨hr14, rfl⟩
          ·
            exact absurd ((own_m _).symm.trans hB14) hE2
          ·
            show Go _ _ _ _ T14 (mkF m 196 #[.val (.int p1), .val (.int p2), .val (.int p3), .val (.int p4), .val (.int p5), .val (.int p6), .val (.int (1 : Int32)), .val (.int sk), .val (.ref b6), .val (.ref b8), .val (.int (1 : Int32)), .val (.int (0 : Int32)), .val (.int (0 : Int32))] [(.int (0 : Int32))])
            refine Go.st (fun t k => XS.iload X14.here hx rfl (hb hby at_196) rfl k) ?_
            show Go _ _ _ _ T14 (mkF m 198 #[.val (.int p1), .val (.int p2), .val (.int p3), .val (.int p4), .val (.int p5), .val (.int p6), .val (.int (1 : Int32)), .val (.int sk), .val (.ref b6), .val (.ref b8), .val (.int (1 : Int32)), .val (.int (0 : Int32)), .val (.int (0 : Int32))] [(.int (0 : Int32)), (.int (0 : Int32))])
            refine Go.st (fun t k => XS.icmpNo X14.here hx rfl (hb hby at_198) rfl (by decide) k) ?_
            show Go _ _ _ _ T14 (mkF m 201 #[.val (.int p1), .val (.int p2), .val (.int p3), .val (.int p4), .val (.int p5), .val (.int p6), .val (.int (1 : Int32)), .val (.int sk), .val (.ref b6), .val (.ref b8), .val (.int (1 : Int32)), .val (.int (0 : Int32)), .val (.int (0 : Int32))] [])
            refine Go.st (fun t k => XS.iconst X14.here hx rfl (hb hby at_201) k) ?_
            show Go _ _ _ _ T14 (mkF m 202 #[.val (.int p1), .val (.int p2), .val (.int p3), .val (.int p4), .val (.int p5), .val (.int p6), .val (.int (1 : Int32)), .val (.int sk), .val (.ref b6), .val (.ref b8), .val (.int (1 : Int32)), .val (.int (0 : Int32)), .val (.int (0 : Int32))] [(.int (1 : Int32))])
            refine Go.st (fun t k => XS.goto X14.here hx rfl (pc0 := 202) (pc' := 206) rfl (hb hby at_202) (by decide) (by decide) k) ?_
            show Go _ _ _ _ T14 (mkF m 206 #[.val (.int p1), .val (.int p2), .val (.int p3), .val (.int p4), .val (.int p5), .val (.int p6), .val (.int (1 : Int32)), .val (.int sk), .val (.ref b6), .val (.ref b8), .val (.int (1 : Int32)), .val (.int (0 : Int32)), .val (.int (0 : Int32))] [(.int (1 : Int32))])
            exact goN X14 hx hret hlk (by simp) (hb hby at_206) (by decide) (by decide) ⟨rfl, N14⟩
      ·
        exact absurd ⟨by decide, (own_m _).trans hE1⟩ hr11
    ·
      refine Go.st (fun t k => XS.icmpYes X9.here hx rfl (pc0 := 75) (pc' := 82) rfl (hb hby at_75) rfl (feq hE1).2 (by decide) (by decide) k) ?_
      show Go _ _ _ _ T9 (mkF m 82 #[.val (.int p1), .val (.int p2), .val (.int p3), .val (.int p4), .val (.int p5), .val (.int p6), .val (.int (1 : Int32)), .val (.int sk), .val (.ref b6), .val (.ref b8), .unset, .unset, .unset] [])
      refine Go.st (fun t k => XS.iconst X9.here hx rfl (hb hby at_82) k) ?_
      show Go _ _ _ _ T9 (mkF m 83 #[.val (.int p1), .val (.int p2), .val (.int p3), .val (.int p4), .val (.int p5), .val (.int p6), .val (.int (1 : Int32)), .val (.int sk), .val (.ref b6), .val (.ref b8), .unset, .unset, .unset] [(.int (0 : Int32))])
      refine Go.st (fun t k => XS.istore X9.here hx rfl (hb hby at_83) rfl (l' := #[.val (.int p1), .val (.int p2), .val (.int p3), .val (.int p4), .val (.int p5), .val (.int p6), .val (.int (1 : Int32)), .val (.int sk), .val (.ref b6), .val (.ref b8), .val (.int (0 : Int32)), .unset, .unset]) rfl k) ?_
      show Go _ _ _ _ T9 (mkF m 85 #[.val (.int p1), .val (.int p2), .val (.int p3), .val (.int p4), .val (.int p5), .val (.int p6), .val (.int (1 : Int32)), .val (.int sk), .val (.ref b6), .val (.ref b8), .val (.int (0 : Int32)), .unset, .unset] [])
      refine Go.st (fun t k => XS.aload X9.here hx rfl (hb hby at_85) rfl rfl k) ?_
      show Go _ _ _ _ T9 (mkF m 87 #[.val (.int p1), .val (.int p2), .val (.int p3), .val (.int p4), .val (.int p5), .val (.int p6), .val (.int (1 : Int32)), .val (.int sk), .val (.ref b6), .val (.ref b8), .val (.int (0 : Int32)), .unset, .unset] [(.ref b8)])
      refine Go.st (fun t k => XS.iload X9.here hx rfl (hb hby at_87) rfl k) ?_
      show Go _ _ _ _ T9 (mkF m 89 #[.val (.int p1), .val (.int p2), .val (.int p3), .val (.int p4), .val (.int p5), .val (.int p6), .val (.int (1 : Int32)), .val (.int sk), .val (.ref b6), .val (.ref b8), .val (.int (0 : Int32)), .unset, .unset] [(.int p5), (.ref b8)])
      refine goM X9 hx hZ (y := (⟨"com/example/vetter/vetter/io/DerReader", "nextIs", "(I)Z"⟩ : MethodName)) (z := (⟨"com/example/vetter/vetter/io/DerReader", "nextIs", "(I)Z"⟩ : MethodName)) hown (hw _ (List.mem_of_getElem? (i := 12) rfl)) (hw _ (List.mem_of_getElem? (i := 13) rfl)) (hw _ (List.mem_of_getElem? (i := 15) rfl)) (hw _ (List.mem_of_getElem? (i := 14) rfl)) (hw _ (List.mem_of_getElem? (i := 16) rfl)) (hw _ (List.mem_of_getElem? (i := 3) rfl)) (notFace_of_selects (args := #[]) (mvT hZ (hw _ (List.mem_of_getElem? (i := 15) rfl)))) (by decide) (rm3 l Z a0 hw b8 p5 T9.heap n0 Z9 (0 : Int32) b6 1 _ (1 : Int32) ((p2.toInt8.toInt32).toInt8.toInt32) F_position_b8 F_data_b8 V_b6 rfl (fun _ => ⟨0, ⟨by decide, rfl, by decide⟩, rfl⟩)) rfl N9 E_b8 0 (by decide) (by decide) (by decide) (by decide) (g := (mkF m 89 #[.val (.int p1), .val (.int p2), .val (.int p3), .val (.int p4), .val (.int p5), .val (.int p6), .val (.int (1 : Int32)), .val (.int sk), .val (.ref b6), .val (.ref b8), .val (.int (0 : Int32)), .unset, .unset] [(.int p5), (.ref b8)])) rfl (by rw [hml]; rfl) [(.int p5)] [] (lenOf pd0_1 rfl) rfl rfl (by show 2 * 0 + _ ≤ _; exact Nat.le_of_eq rfl) (hb hby at_89) ?_
      intro T15 v15 L15 M15 X15 N15 hq15
      obtain ⟨hq15, N15q, e15⟩ := hq15
      replace N15 := N15 N15q
      rcases hq15 with ⟨hA15, hB15, rfl⟩ | ⟨hr15, rfl⟩
      ·
        exact absurd ((own_m _).symm.trans hB15) hE1
      ·
        show Go _ _ _ _ T15 (mkF m 92 #[.val (.int p1), .val (.int p2), .val (.int p3), .val (.int p4), .val (.int p5), .val (.int p6), .val (.int (1 : Int32)), .val (.int sk), .val (.ref b6), .val (.ref b8), .val (.int (0 : Int32)), .unset, .unset] [(.int (0 : Int32))])
        refine Go.st (fun t k => XS.iload X15.here hx rfl (hb hby at_92) rfl k) ?_
        show Go _ _ _ _ T15 (mkF m 94 #[.val (.int p1), .val (.int p2), .val (.int p3), .val (.int p4), .val (.int p5), .val (.int p6), .val (.int (1 : Int32)), .val (.int sk), .val (.ref b6), .val (.ref b8), .val (.int (0 : Int32)), .unset, .unset] [(.int (0 : Int32)), (.int (0 : Int32))])
        refine Go.st (fun t k => XS.icmpYes X15.here hx rfl (pc0 := 94) (pc' := 99) rfl (hb hby at_94) rfl (by decide) (by decide) (by decide) k) ?_
        show Go _ _ _ _ T15 (mkF m 99 #[.val (.int p1), .val (.int p2), .val (.int p3), .val (.int p4), .val (.int p5), .val (.int p6), .val (.int (1 : Int32)), .val (.int sk), .val (.ref b6), .val (.ref b8), .val (.int (0 : Int32)), .unset, .unset] [])
        refine Go.st (fun t k => XS.iconst X15.here hx rfl (hb hby at_99) k) ?_
        show Go _ _ _ _ T15 (mkF m 100 #[.val (.int p1), .val (.int p2), .val (.int p3), .val (.int p4), .val (.int p5), .val (.int p6), .val (.int (1 : Int32)), .val (.int sk), .val (.ref b6), .val (.ref b8), .val (.int (0 : Int32)), .unset, .unset] [(.int (0 : Int32))])
        refine Go.st (fun t k => XS.istore X15.here hx rfl (hb hby at_100) rfl (l' := #[.val (.int p1), .val (.int p2), .val (.int p3), .val (.int p4), .val (.int p5), .val (.int p6), .val (.int (1 : Int32)), .val (.int sk), .val (.ref b6), .val (.ref b8), .val (.int (0 : Int32)), .val (.int (0 : Int32)), .unset]) rfl k) ?_
        show Go _ _ _ _ T15 (mkF m 102 #[.val (.int p1), .val (.int p2), .val (.int p3), .val (.int p4), .val (.int p5), .val (.int p6), .val (.int (1 : Int32)), .val (.int sk), .val (.ref b6), .val (.ref b8), .val (.int (0 : Int32)), .val (.int (0 : Int32)), .unset] [])
        refine Go.st (fun t k => XS.iload X15.here hx rfl (hb hby at_102) rfl k) ?_
        show Go _ _ _ _ T15 (mkF m 104 #[.val (.int p1), .val (.int p2), .val (.int p3), .val (.int p4), .val (.int p5), .val (.int p6), .val (.int (1 : Int32)), .val (.int sk), .val (.ref b6), .val (.ref b8), .val (.int (0 : Int32)), .val (.int (0 : Int32)), .unset] [(.int (1 : Int32))])
        refine Go.st (fun t k => XS.iconst X15.here hx rfl (hb hby at_104) k) ?_
        show Go _ _ _ _ T15 (mkF m 105 #[.val (.int p1), .val (.int p2), .val (.int p3), .val (.int p4), .val (.int p5), .val (.int p6), .val (.int (1 : Int32)), .val (.int sk), .val (.ref b6), .val (.ref b8), .val (.int (0 : Int32)), .val (.int (0 : Int32)), .unset] [(.int (2 : Int32)), (.int (1 : Int32))])
        refine Go.st (fun t k => XS.icmpYes X15.here hx rfl (pc0 := 105) (pc' := 134) rfl (hb hby at_105) rfl (by decide) (by decide) (by decide) k) ?_
        show Go _ _ _ _ T15 (mkF m 134 #[.val (.int p1), .val (.int p2), .val (.int p3), .val (.int p4), .val (.int p5), .val (.int p6), .val (.int (1 : Int32)), .val (.int sk), .val (.ref b6), .val (.ref b8), .val (.int (0 : Int32)), .val (.int (0 : Int32)), .unset] [])
        refine Go.st (fun t k => XS.iload X15.here hx rfl (hb hby at_134) rfl k) ?_
        show Go _ _ _ _ T15 (mkF m 136 #[.val (.int p1), .val (.int p2), .val (.int p3), .val (.int p4), .val (.int p5), .val (.int p6), .val (.int (1 : Int32)), .val (.int sk), .val (.ref b6), .val (.ref b8), .val (.int (0 : Int32)), .val (.int (0 : Int32)), .unset] [(.int (0 : Int32))])
        refine Go.st (fun t k => XS.iload X15.here hx rfl (hb hby at_136) rfl k) ?_
        show Go _ _ _ _ T15 (mkF m 138 #[.val (.int p1), .val (.int p2), .val (.int p3), .val (.int p4), .val (.int p5), .val (.int p6), .val (.int (1 : Int32)), .val (.int sk), .val (.ref b6), .val (.ref b8), .val (.int (0 : Int32)), .val (.int (0 : Int32)), .unset] [(.int (1 : Int32)), (.int (0 : Int32))])
        refine Go.st (fun t k => XS.icmpYes X15.here hx rfl (pc0 := 138) (pc' := 147) rfl (hb hby at_138) rfl (by decide) (by decide) (by decide) k) ?_
        show Go _ _ _ _ T15 (mkF m 147 #[.val (.int p1), .val (.int p2), .val (.int p3), .val (.int p4), .val (.int p5), .val (.int p6), .val (.int (1 : Int32)), .val (.int sk), .val (.ref b6), .val (.ref b8), .val (.int (0 : Int32)), .val (.int (0 : Int32)), .unset] [])
        refine Go.st (fun t k => XS.iload X15.here hx rfl (hb hby at_147) rfl k) ?_
        show Go _ _ _ _ T15 (mkF m 149 #[.val (.int p1), .val (.int p2), .val (.int p3), .val (.int p4), .val (.int p5), .val (.int p6), .val (.int (1 : Int32)), .val (.int sk), .val (.ref b6), .val (.ref b8), .val (.int (0 : Int32)), .val (.int (0 : Int32)), .unset] [(.int (0 : Int32))])
        refine Go.st (fun t k => XS.ifNo X15.here hx rfl (hb hby at_149) rfl (by decide) k) ?_
        show Go _ _ _ _ T15 (mkF m 152 #[.val (.int p1), .val (.int p2), .val (.int p3), .val (.int p4), .val (.int p5), .val (.int p6), .val (.int (1 : Int32)), .val (.int sk), .val (.ref b6), .val (.ref b8), .val (.int (0 : Int32)), .val (.int (0 : Int32)), .unset] [])
        refine Go.st (fun t k => XS.iloadN X15.here hx rfl (hb hby at_152) rfl k) ?_
        show Go _ _ _ _ T15 (mkF m 153 #[.val (.int p1), .val (.int p2), .val (.int p3), .val (.int p4), .val (.int p5), .val (.int p6), .val (.int (1 : Int32)), .val (.int sk), .val (.ref b6), .val (.ref b8), .val (.int (0 : Int32)), .val (.int (0 : Int32)), .unset] [(.int p2)])
        refine Go.st (fun t k => XS.sipush X15.here hx rfl (hb hby at_153) k) ?_
        show Go _ _ _ _ T15 (mkF m 156 #[.val (.int p1), .val (.int p2), .val (.int p3), .val (.int p4), .val (.int p5), .val (.int p6), .val (.int (1 : Int32)), .val (.int sk), .val (.ref b6), .val (.ref b8), .val (.int (0 : Int32)), .val (.int (0 : Int32)), .unset] [(.int (255 : Int32)), (.int p2)])
        refine Go.st (fun t k => XS.iand X15.here hx rfl (hb hby at_156) rfl k) ?_
        show Go _ _ _ _ T15 (mkF m 157 #[.val (.int p1), .val (.int p2), .val (.int p3), .val (.int p4), .val (.int p5), .val (.int p6), .val (.int (1 : Int32)), .val (.int sk), .val (.ref b6), .val (.ref b8), .val (.int (0 : Int32)), .val (.int (0 : Int32)), .unset] [(.int (p2 &&& (255 : Int32)))])
        refine Go.st (fun t k => XS.iload X15.here hx rfl (hb hby at_157) rfl k) ?_
        show Go _ _ _ _ T15 (mkF m 159 #[.val (.int p1), .val (.int p2), .val (.int p3), .val (.int p4), .val (.int p5), .val (.int p6), .val (.int (1 : Int32)), .val (.int sk), .val (.ref b6), .val (.ref b8), .val (.int (0 : Int32)), .val (.int (0 : Int32)), .unset] [(.int p6), (.int (p2 &&& (255 : Int32)))])
        by_cases hE2 : (p2 &&& (255 : Int32)) = p6
        ·
          refine Go.st (fun t k => XS.icmpNo X15.here hx rfl (hb hby at_159) rfl (teq hE2).2 k) ?_
          show Go _ _ _ _ T15 (mkF m 162 #[.val (.int p1), .val (.int p2), .val (.int p3), .val (.int p4), .val (.int p5), .val (.int p6), .val (.int (1 : Int32)), .val (.int sk), .val (.ref b6), .val (.ref b8), .val (.int (0 : Int32)), .val (.int (0 : Int32)), .unset] [])
          refine Go.st (fun t k => XS.iconst X15.here hx rfl (hb hby at_162) k) ?_
          show Go _ _ _ _ T15 (mkF m 163 #[.val (.int p1), .val (.int p2), .val (.int p3), .val (.int p4), .val (.int p5), .val (.int p6), .val (.int (1 : Int32)), .val (.int sk), .val (.ref b6), .val (.ref b8), .val (.int (0 : Int32)), .val (.int (0 : Int32)), .unset] [(.int (1 : Int32))])
          refine Go.st (fun t k => XS.goto X15.here hx rfl (pc0 := 163) (pc' := 167) rfl (hb hby at_163) (by decide) (by decide) k) ?_
          show Go _ _ _ _ T15 (mkF m 167 #[.val (.int p1), .val (.int p2), .val (.int p3), .val (.int p4), .val (.int p5), .val (.int p6), .val (.int (1 : Int32)), .val (.int sk), .val (.ref b6), .val (.ref b8), .val (.int (0 : Int32)), .val (.int (0 : Int32)), .unset] [(.int (1 : Int32))])
          refine Go.st (fun t k => XS.istore X15.here hx rfl (hb hby at_167) rfl (l' := #[.val (.int p1), .val (.int p2), .val (.int p3), .val (.int p4), .val (.int p5), .val (.int p6), .val (.int (1 : Int32)), .val (.int sk), .val (.ref b6), .val (.ref b8), .val (.int (0 : Int32)), .val (.int (0 : Int32)), .val (.int (1 : Int32))]) rfl k) ?_
          show Go _ _ _ _ T15 (mkF m 169 #[.val (.int p1), .val (.int p2), .val (.int p3), .val (.int p4), .val (.int p5), .val (.int p6), .val (.int (1 : Int32)), .val (.int sk), .val (.ref b6), .val (.ref b8), .val (.int (0 : Int32)), .val (.int (0 : Int32)), .val (.int (1 : Int32))] [])
          refine Go.st (fun t k => XS.goto X15.here hx rfl (pc0 := 169) (pc' := 189) rfl (hb hby at_169) (by decide) (by decide) k) ?_
          show Go _ _ _ _ T15 (mkF m 189 #[.val (.int p1), .val (.int p2), .val (.int p3), .val (.int p4), .val (.int p5), .val (.int p6), .val (.int (1 : Int32)), .val (.int sk), .val (.ref b6), .val (.ref b8), .val (.int (0 : Int32)), .val (.int (0 : Int32)), .val (.int (1 : Int32))] [])
          refine Go.st (fun t k => XS.aload X15.here hx rfl (hb hby at_189) rfl rfl k) ?_
          show Go _ _ _ _ T15 (mkF m 191 #[.val (.int p1), .val (.int p2), .val (.int p3), .val (.int p4), .val (.int p5), .val (.int p6), .val (.int (1 : Int32)), .val (.int sk), .val (.ref b6), .val (.ref b8), .val (.int (0 : Int32)), .val (.int (0 : Int32)), .val (.int (1 : Int32))] [(.ref b8)])
          refine Go.st (fun t k => XS.iload X15.here hx rfl (hb hby at_191) rfl k) ?_
          show Go _ _ _ _ T15 (mkF m 193 #[.val (.int p1), .val (.int p2), .val (.int p3), .val (.int p4), .val (.int p5), .val (.int p6), .val (.int (1 : Int32)), .val (.int sk), .val (.ref b6), .val (.ref b8), .val (.int (0 : Int32)), .val (.int (0 : Int32)), .val (.int (1 : Int32))] [(.int p6), (.ref b8)])
          refine goM X15 hx hZ (y := (⟨"com/example/vetter/vetter/io/DerReader", "nextIs", "(I)Z"⟩ : MethodName)) (z := (⟨"com/example/vetter/vetter/io/DerReader", "nextIs", "(I)Z"⟩ : MethodName)) hown (hw _ (List.mem_of_getElem? (i := 12) rfl)) (hw _ (List.mem_of_getElem? (i := 13) rfl)) (hw _ (List.mem_of_getElem? (i := 15) rfl)) (hw _ (List.mem_of_getElem? (i := 14) rfl)) (hw _ (List.mem_of_getElem? (i := 16) rfl)) (hw _ (List.mem_of_getElem? (i := 3) rfl)) (notFace_of_selects (args := #[]) (mvT hZ (hw _ (List.mem_of_getElem? (i := 15) rfl)))) (by decide) (rm3 l Z a0 hw b8 p6 T9.heap n0 Z9 (0 : Int32) b6 1 _ (1 : Int32) ((p2.toInt8.toInt32).toInt8.toInt32) F_position_b8 F_data_b8 V_b6 rfl (fun _ => ⟨0, ⟨by decide, rfl, by decide⟩, rfl⟩)) e15 N15 E_b8 0 (by decide) (by decide) (by decide) (by decide) (g := (mkF m 193 #[.val (.int p1), .val (.int p2), .val (.int p3), .val (.int p4), .val (.int p5), .val (.int p6), .val (.int (1 : Int32)), .val (.int sk), .val (.ref b6), .val (.ref b8), .val (.int (0 : Int32)), .val (.int (0 : Int32)), .val (.int (1 : Int32))] [(.int p6), (.ref b8)])) rfl (by rw [hml]; rfl) [(.int p6)] [] (lenOf pd0_1 rfl) rfl rfl (by show 2 * 0 + _ ≤ _; exact Nat.le_of_eq rfl) (hb hby at_193) ?_
          intro T17 v17 L17 M17 X17 N17 hq17
          obtain ⟨hq17, N17q, e17⟩ := hq17
          replace N17 := N17 N17q
          rcases hq17 with ⟨hA17, hB17, rfl⟩ | ⟨hr17, rfl⟩
          ·
            show Go _ _ _ _ T17 (mkF m 196 #[.val (.int p1), .val (.int p2), .val (.int p3), .val (.int p4), .val (.int p5), .val (.int p6), .val (.int (1 : Int32)), .val (.int sk), .val (.ref b6), .val (.ref b8), .val (.int (0 : Int32)), .val (.int (0 : Int32)), .val (.int (1 : Int32))] [(.int (1 : Int32))])
            refine Go.st (fun t k => XS.iload X17.here hx rfl (hb hby at_196) rfl k) ?_
            show Go _ _ _ _ T17 (mkF m 198 #[.val (.int p1), .val (.int p2), .val (.int p3), .val (.int p4), .val (.int p5), .val (.int p6), .val (.int (1 : Int32)), .val (.int sk), .val (.ref b6), .val (.ref b8), .val (.int (0 : Int32)), .val (.int (0 : Int32)), .val (.int (1 : Int32))] [(.int (1 : Int32)), (.int (1 : Int32))])
            refine Go.st (fun t k => XS.icmpNo X17.here hx rfl (hb hby at_198) rfl (by decide) k) ?_
            show Go _ _ _ _ T17 (mkF m 201 #[.val (.int p1), .val (.int p2), .val (.int p3), .val (.int p4), .val (.int p5), .val (.int p6), .val (.int (1 : Int32)), .val (.int sk), .val (.ref b6), .val (.ref b8), .val (.int (0 : Int32)), .val (.int (0 : Int32)), .val (.int (1 : Int32))] [])
            refine Go.st (fun t k => XS.iconst X17.here hx rfl (hb hby at_201) k) ?_
            show Go _ _ _ _ T17 (mkF m 202 #[.val (.int p1), .val (.int p2), .val (.int p3), .val (.int p4), .val (.int p5), .val (.int p6), .val (.int (1 : Int32)), .val (.int sk), .val (.ref b6), .val (.ref b8), .val (.int (0 : Int32)), .val (.int (0 : Int32)), .val (.int (1 : Int32))] [(.int (1 : Int32))])
            refine Go.st (fun t k => XS.goto X17.here hx rfl (pc0 := 202) (pc' := 206) rfl (hb hby at_202) (by decide) (by decide) k) ?_
            show Go _ _ _ _ T17 (mkF m 206 #[.val (.int p1), .val (.int p2), .val (.int p3), .val (.int p4), .val (.int p5), .val (.int p6), .val (.int (1 : Int32)), .val (.int sk), .val (.ref b6), .val (.ref b8), .val (.int (0 : Int32)), .val (.int (0 : Int32)), .val (.int (1 : Int32))] [(.int (1 : Int32))])
            exact goN X17 hx hret hlk (by simp) (hb hby at_206) (by decide) (by decide) ⟨rfl, N17⟩
          ·
            exact absurd ⟨by decide, (own_m _).trans hE2⟩ hr17
        ·
          refine Go.st (fun t k => XS.icmpYes X15.here hx rfl (pc0 := 159) (pc' := 166) rfl (hb hby at_159) rfl (feq hE2).2 (by decide) (by decide) k) ?_
          show Go _ _ _ _ T15 (mkF m 166 #[.val (.int p1), .val (.int p2), .val (.int p3), .val (.int p4), .val (.int p5), .val (.int p6), .val (.int (1 : Int32)), .val (.int sk), .val (.ref b6), .val (.ref b8), .val (.int (0 : Int32)), .val (.int (0 : Int32)), .unset] [])
          refine Go.st (fun t k => XS.iconst X15.here hx rfl (hb hby at_166) k) ?_
          show Go _ _ _ _ T15 (mkF m 167 #[.val (.int p1), .val (.int p2), .val (.int p3), .val (.int p4), .val (.int p5), .val (.int p6), .val (.int (1 : Int32)), .val (.int sk), .val (.ref b6), .val (.ref b8), .val (.int (0 : Int32)), .val (.int (0 : Int32)), .unset] [(.int (0 : Int32))])
          refine Go.st (fun t k => XS.istore X15.here hx rfl (hb hby at_167) rfl (l' := #[.val (.int p1), .val (.int p2), .val (.int p3), .val (.int p4), .val (.int p5), .val (.int p6), .val (.int (1 : Int32)), .val (.int sk), .val (.ref b6), .val (.ref b8), .val (.int (0 : Int32)), .val (.int (0 : Int32)), .val (.int (0 : Int32))]) rfl k) ?_
          show Go _ _ _ _ T15 (mkF m 169 #[.val (.int p1), .val (.int p2), .val (.int p3), .val (.int p4), .val (.int p5), .val (.int p6), .val (.int (1 : Int32)), .val (.int sk), .val (.ref b6), .val (.ref b8), .val (.int (0 : Int32)), .val (.int (0 : Int32)), .val (.int (0 : Int32))] [])
          refine Go.st (fun t k => XS.goto X15.here hx rfl (pc0 := 169) (pc' := 189) rfl (hb hby at_169) (by decide) (by decide) k) ?_
          show Go _ _ _ _ T15 (mkF m 189 #[.val (.int p1), .val (.int p2), .val (.int p3), .val (.int p4), .val (.int p5), .val (.int p6), .val (.int (1 : Int32)), .val (.int sk), .val (.ref b6), .val (.ref b8), .val (.int (0 : Int32)), .val (.int (0 : Int32)), .val (.int (0 : Int32))] [])
          refine Go.st (fun t k => XS.aload X15.here hx rfl (hb hby at_189) rfl rfl k) ?_
          show Go _ _ _ _ T15 (mkF m 191 #[.val (.int p1), .val (.int p2), .val (.int p3), .val (.int p4), .val (.int p5), .val (.int p6), .val (.int (1 : Int32)), .val (.int sk), .val (.ref b6), .val (.ref b8), .val (.int (0 : Int32)), .val (.int (0 : Int32)), .val (.int (0 : Int32))] [(.ref b8)])
          refine Go.st (fun t k => XS.iload X15.here hx rfl (hb hby at_191) rfl k) ?_
          show Go _ _ _ _ T15 (mkF m 193 #[.val (.int p1), .val (.int p2), .val (.int p3), .val (.int p4), .val (.int p5), .val (.int p6), .val (.int (1 : Int32)), .val (.int sk), .val (.ref b6), .val (.ref b8), .val (.int (0 : Int32)), .val (.int (0 : Int32)), .val (.int (0 : Int32))] [(.int p6), (.ref b8)])
          refine goM X15 hx hZ (y := (⟨"com/example/vetter/vetter/io/DerReader", "nextIs", "(I)Z"⟩ : MethodName)) (z := (⟨"com/example/vetter/vetter/io/DerReader", "nextIs", "(I)Z"⟩ : MethodName)) hown (hw _ (List.mem_of_getElem? (i := 12) rfl)) (hw _ (List.mem_of_getElem? (i := 13) rfl)) (hw _ (List.mem_of_getElem? (i := 15) rfl)) (hw _ (List.mem_of_getElem? (i := 14) rfl)) (hw _ (List.mem_of_getElem? (i := 16) rfl)) (hw _ (List.mem_of_getElem? (i := 3) rfl)) (notFace_of_selects (args := #[]) (mvT hZ (hw _ (List.mem_of_getElem? (i := 15) rfl)))) (by decide) (rm3 l Z a0 hw b8 p6 T9.heap n0 Z9 (0 : Int32) b6 1 _ (1 : Int32) ((p2.toInt8.toInt32).toInt8.toInt32) F_position_b8 F_data_b8 V_b6 rfl (fun _ => ⟨0, ⟨by decide, rfl, by decide⟩, rfl⟩)) e15 N15 E_b8 0 (by decide) (by decide) (by decide) (by decide) (g := (mkF m 193 #[.val (.int p1), .val (.int p2), .val (.int p3), .val (.int p4), .val (.int p5), .val (.int p6), .val (.int (1 : Int32)), .val (.int sk), .val (.ref b6), .val (.ref b8), .val (.int (0 : Int32)), .val (.int (0 : Int32)), .val (.int (0 : Int32))] [(.int p6), (.ref b8)])) rfl (by rw [hml]; rfl) [(.int p6)] [] (lenOf pd0_1 rfl) rfl rfl (by show 2 * 0 + _ ≤ _; exact Nat.le_of_eq rfl) (hb hby at_193) ?_
          intro T18 v18 L18 M18 X18 N18 hq18
          obtain ⟨hq18, N18q, e18⟩ := hq18
          replace N18 := N18 N18q
          rcases hq18 with ⟨hA18, hB18, rfl⟩ | ⟨hr18, rfl⟩
          ·
            exact absurd ((own_m _).symm.trans hB18) hE2
          ·
            show Go _ _ _ _ T18 (mkF m 196 #[.val (.int p1), .val (.int p2), .val (.int p3), .val (.int p4), .val (.int p5), .val (.int p6), .val (.int (1 : Int32)), .val (.int sk), .val (.ref b6), .val (.ref b8), .val (.int (0 : Int32)), .val (.int (0 : Int32)), .val (.int (0 : Int32))] [(.int (0 : Int32))])
            refine Go.st (fun t k => XS.iload X18.here hx rfl (hb hby at_196) rfl k) ?_
            show Go _ _ _ _ T18 (mkF m 198 #[.val (.int p1), .val (.int p2), .val (.int p3), .val (.int p4), .val (.int p5), .val (.int p6), .val (.int (1 : Int32)), .val (.int sk), .val (.ref b6), .val (.ref b8), .val (.int (0 : Int32)), .val (.int (0 : Int32)), .val (.int (0 : Int32))] [(.int (0 : Int32)), (.int (0 : Int32))])
            refine Go.st (fun t k => XS.icmpNo X18.here hx rfl (hb hby at_198) rfl (by decide) k) ?_
            show Go _ _ _ _ T18 (mkF m 201 #[.val (.int p1), .val (.int p2), .val (.int p3), .val (.int p4), .val (.int p5), .val (.int p6), .val (.int (1 : Int32)), .val (.int sk), .val (.ref b6), .val (.ref b8), .val (.int (0 : Int32)), .val (.int (0 : Int32)), .val (.int (0 : Int32))] [])
            refine Go.st (fun t k => XS.iconst X18.here hx rfl (hb hby at_201) k) ?_
            show Go _ _ _ _ T18 (mkF m 202 #[.val (.int p1), .val (.int p2), .val (.int p3), .val (.int p4), .val (.int p5), .val (.int p6), .val (.int (1 : Int32)), .val (.int sk), .val (.ref b6), .val (.ref b8), .val (.int (0 : Int32)), .val (.int (0 : Int32)), .val (.int (0 : Int32))] [(.int (1 : Int32))])
            refine Go.st (fun t k => XS.goto X18.here hx rfl (pc0 := 202) (pc' := 206) rfl (hb hby at_202) (by decide) (by decide) k) ?_
            show Go _ _ _ _ T18 (mkF m 206 #[.val (.int p1), .val (.int p2), .val (.int p3), .val (.int p4), .val (.int p5), .val (.int p6), .val (.int (1 : Int32)), .val (.int sk), .val (.ref b6), .val (.ref b8), .val (.int (0 : Int32)), .val (.int (0 : Int32)), .val (.int (0 : Int32))] [(.int (1 : Int32))])
            exact goN X18 hx hret hlk (by simp) (hb hby at_206) (by decide) (by decide) ⟨rfl, N18⟩
  ·
    rcases and_one p3 with hsk | hsk <;> rw [hsk]
    ·
      show Go _ _ _ _ T0 (mkF m 10 #[.val (.int p1), .val (.int p2), .val (.int p3), .val (.int p4), .val (.int p5), .val (.int p6), .val (.int (2 : Int32)), .val (.int (0 : Int32)), .unset, .unset, .unset, .unset, .unset] [])
      show Go _ _ _ _ T0 (mkF m 10 #[.val (.int p1), .val (.int p2), .val (.int p3), .val (.int p4), .val (.int p5), .val (.int p6), .val (.int (2 : Int32)), .val (.int (0 : Int32)), .unset, .unset, .unset, .unset, .unset] [])
      refine Go.st (fun t k => XS.iload X0.here hx rfl (hb hby at_10) rfl k) ?_
      show Go _ _ _ _ T0 (mkF m 12 #[.val (.int p1), .val (.int p2), .val (.int p3), .val (.int p4), .val (.int p5), .val (.int p6), .val (.int (2 : Int32)), .val (.int (0 : Int32)), .unset, .unset, .unset, .unset, .unset] [(.int (2 : Int32))])
      refine goNew X0 hx hZ (hw _ (List.mem_of_getElem? (i := 0) rfl)) e0 Z0 (by decide) (show Int32.toNatClampNeg (2 : Int32) = 2 from rfl) 2 (by decide) (by decide) (by decide) (by decide) (g := (mkF m 12 #[.val (.int p1), .val (.int p2), .val (.int p3), .val (.int p4), .val (.int p5), .val (.int p6), .val (.int (2 : Int32)), .val (.int (0 : Int32)), .unset, .unset, .unset, .unset, .unset] [(.int (2 : Int32))])) rfl rfl (hb hby at_12) ?_
      intro T19 h19 b19 X19 e19 E19 qz19 g_b19 Z19 V_b19
      replace V_b19 : BA Z h19 b19 .byte 2 (fun _ => (.int (0 : Int32))) := V_b19
      show Go _ _ _ _ T19 (mkF m 14 #[.val (.int p1), .val (.int p2), .val (.int p3), .val (.int p4), .val (.int p5), .val (.int p6), .val (.int (2 : Int32)), .val (.int (0 : Int32)), .unset, .unset, .unset, .unset, .unset] [(.ref b19)])
      refine Go.st (fun t k => XS.astore X19.here hx rfl (hb hby at_14) rfl rfl (l' := #[.val (.int p1), .val (.int p2), .val (.int p3), .val (.int p4), .val (.int p5), .val (.int p6), .val (.int (2 : Int32)), .val (.int (0 : Int32)), .val (.ref b19), .unset, .unset, .unset, .unset]) rfl k) ?_
      show Go _ _ _ _ T19 (mkF m 16 #[.val (.int p1), .val (.int p2), .val (.int p3), .val (.int p4), .val (.int p5), .val (.int p6), .val (.int (2 : Int32)), .val (.int (0 : Int32)), .val (.ref b19), .unset, .unset, .unset, .unset] [])
      refine Go.st (fun t k => XS.iload X19.here hx rfl (hb hby at_16) rfl k) ?_
      show Go _ _ _ _ T19 (mkF m 18 #[.val (.int p1), .val (.int p2), .val (.int p3), .val (.int p4), .val (.int p5), .val (.int p6), .val (.int (2 : Int32)), .val (.int (0 : Int32)), .val (.ref b19), .unset, .unset, .unset, .unset] [(.int (2 : Int32))])
      refine Go.st (fun t k => XS.ifNo X19.here hx rfl (hb hby at_18) rfl (by decide) k) ?_
      show Go _ _ _ _ T19 (mkF m 21 #[.val (.int p1), .val (.int p2), .val (.int p3), .val (.int p4), .val (.int p5), .val (.int p6), .val (.int (2 : Int32)), .val (.int (0 : Int32)), .val (.ref b19), .unset, .unset, .unset, .unset] [])
      refine Go.st (fun t k => XS.aload X19.here hx rfl (hb hby at_21) rfl rfl k) ?_
      show Go _ _ _ _ T19 (mkF m 23 #[.val (.int p1), .val (.int p2), .val (.int p3), .val (.int p4), .val (.int p5), .val (.int p6), .val (.int (2 : Int32)), .val (.int (0 : Int32)), .val (.ref b19), .unset, .unset, .unset, .unset] [(.ref b19)])
      refine Go.st (fun t k => XS.iconst X19.here hx rfl (hb hby at_23) k) ?_
      show Go _ _ _ _ T19 (mkF m 24 #[.val (.int p1), .val (.int p2), .val (.int p3), .val (.int p4), .val (.int p5), .val (.int p6), .val (.int (2 : Int32)), .val (.int (0 : Int32)), .val (.ref b19), .unset, .unset, .unset, .unset] [(.int (0 : Int32)), (.ref b19)])
      refine Go.st (fun t k => XS.iloadN X19.here hx rfl (hb hby at_24) rfl k) ?_
      show Go _ _ _ _ T19 (mkF m 25 #[.val (.int p1), .val (.int p2), .val (.int p3), .val (.int p4), .val (.int p5), .val (.int p6), .val (.int (2 : Int32)), .val (.int (0 : Int32)), .val (.ref b19), .unset, .unset, .unset, .unset] [(.int p2), (.int (0 : Int32)), (.ref b19)])
      refine Go.st (fun t k => XS.i2b X19.here hx rfl (hb hby at_25) rfl k) ?_
      show Go _ _ _ _ T19 (mkF m 26 #[.val (.int p1), .val (.int p2), .val (.int p3), .val (.int p4), .val (.int p5), .val (.int p6), .val (.int (2 : Int32)), .val (.int (0 : Int32)), .val (.ref b19), .unset, .unset, .unset, .unset] [(.int (p2.toInt8.toInt32)), (.int (0 : Int32)), (.ref b19)])
      refine goStB X19 hx hZ e19 N0 V_b19 g_b19 (g := (mkF m 26 #[.val (.int p1), .val (.int p2), .val (.int p3), .val (.int p4), .val (.int p5), .val (.int p6), .val (.int (2 : Int32)), .val (.int (0 : Int32)), .val (.ref b19), .unset, .unset, .unset, .unset] [(.int (p2.toInt8.toInt32)), (.int (0 : Int32)), (.ref b19)])) rfl rfl (hb hby at_26) (k := 0) ⟨by decide, rfl, by decide⟩ ?_
      intro T20 h20 L20 X20 e20 N20 W20 V_b19
      have Z20 := own_sz W20 Z19
      show Go _ _ _ _ T20 (mkF m 27 #[.val (.int p1), .val (.int p2), .val (.int p3), .val (.int p4), .val (.int p5), .val (.int p6), .val (.int (2 : Int32)), .val (.int (0 : Int32)), .val (.ref b19), .unset, .unset, .unset, .unset] [])
      refine Go.st (fun t k => XS.iload X20.here hx rfl (hb hby at_27) rfl k) ?_
      show Go _ _ _ _ T20 (mkF m 29 #[.val (.int p1), .val (.int p2), .val (.int p3), .val (.int p4), .val (.int p5), .val (.int p6), .val (.int (2 : Int32)), .val (.int (0 : Int32)), .val (.ref b19), .unset, .unset, .unset, .unset] [(.int (2 : Int32))])
      refine Go.st (fun t k => XS.iconst X20.here hx rfl (hb hby at_29) k) ?_
      show Go _ _ _ _ T20 (mkF m 30 #[.val (.int p1), .val (.int p2), .val (.int p3), .val (.int p4), .val (.int p5), .val (.int p6), .val (.int (2 : Int32)), .val (.int (0 : Int32)), .val (.ref b19), .unset, .unset, .unset, .unset] [(.int (1 : Int32)), (.int (2 : Int32))])
      refine Go.st (fun t k => XS.icmpNo X20.here hx rfl (hb hby at_30) rfl (by decide) k) ?_
      show Go _ _ _ _ T20 (mkF m 33 #[.val (.int p1), .val (.int p2), .val (.int p3), .val (.int p4), .val (.int p5), .val (.int p6), .val (.int (2 : Int32)), .val (.int (0 : Int32)), .val (.ref b19), .unset, .unset, .unset, .unset] [])
      refine Go.st (fun t k => XS.aload X20.here hx rfl (hb hby at_33) rfl rfl k) ?_
      show Go _ _ _ _ T20 (mkF m 35 #[.val (.int p1), .val (.int p2), .val (.int p3), .val (.int p4), .val (.int p5), .val (.int p6), .val (.int (2 : Int32)), .val (.int (0 : Int32)), .val (.ref b19), .unset, .unset, .unset, .unset] [(.ref b19)])
      refine Go.st (fun t k => XS.iconst X20.here hx rfl (hb hby at_35) k) ?_
      show Go _ _ _ _ T20 (mkF m 36 #[.val (.int p1), .val (.int p2), .val (.int p3), .val (.int p4), .val (.int p5), .val (.int p6), .val (.int (2 : Int32)), .val (.int (0 : Int32)), .val (.ref b19), .unset, .unset, .unset, .unset] [(.int (1 : Int32)), (.ref b19)])
      refine Go.st (fun t k => XS.iload X20.here hx rfl (hb hby at_36) rfl k) ?_
      show Go _ _ _ _ T20 (mkF m 38 #[.val (.int p1), .val (.int p2), .val (.int p3), .val (.int p4), .val (.int p5), .val (.int p6), .val (.int (2 : Int32)), .val (.int (0 : Int32)), .val (.ref b19), .unset, .unset, .unset, .unset] [(.int (0 : Int32)), (.int (1 : Int32)), (.ref b19)])
      refine Go.st (fun t k => XS.i2b X20.here hx rfl (hb hby at_38) rfl k) ?_
      show Go _ _ _ _ T20 (mkF m 39 #[.val (.int p1), .val (.int p2), .val (.int p3), .val (.int p4), .val (.int p5), .val (.int p6), .val (.int (2 : Int32)), .val (.int (0 : Int32)), .val (.ref b19), .unset, .unset, .unset, .unset] [(.int ((0 : Int32).toInt8.toInt32)), (.int (1 : Int32)), (.ref b19)])
      refine goStB X20 hx hZ e20 N20 V_b19 g_b19 (g := (mkF m 39 #[.val (.int p1), .val (.int p2), .val (.int p3), .val (.int p4), .val (.int p5), .val (.int p6), .val (.int (2 : Int32)), .val (.int (0 : Int32)), .val (.ref b19), .unset, .unset, .unset, .unset] [(.int ((0 : Int32).toInt8.toInt32)), (.int (1 : Int32)), (.ref b19)])) rfl rfl (hb hby at_39) (k := 1) ⟨by decide, rfl, by decide⟩ ?_
      intro T21 h21 L21 X21 e21 N21 W21 V_b19
      have Z21 := own_sz W21 Z20
      show Go _ _ _ _ T21 (mkF m 40 #[.val (.int p1), .val (.int p2), .val (.int p3), .val (.int p4), .val (.int p5), .val (.int p6), .val (.int (2 : Int32)), .val (.int (0 : Int32)), .val (.ref b19), .unset, .unset, .unset, .unset] [])
      refine Go.st (fun t k => XS.iload X21.here hx rfl (hb hby at_40) rfl k) ?_
      show Go _ _ _ _ T21 (mkF m 42 #[.val (.int p1), .val (.int p2), .val (.int p3), .val (.int p4), .val (.int p5), .val (.int p6), .val (.int (2 : Int32)), .val (.int (0 : Int32)), .val (.ref b19), .unset, .unset, .unset, .unset] [(.int (2 : Int32))])
      refine Go.st (fun t k => XS.iconst X21.here hx rfl (hb hby at_42) k) ?_
      show Go _ _ _ _ T21 (mkF m 43 #[.val (.int p1), .val (.int p2), .val (.int p3), .val (.int p4), .val (.int p5), .val (.int p6), .val (.int (2 : Int32)), .val (.int (0 : Int32)), .val (.ref b19), .unset, .unset, .unset, .unset] [(.int (2 : Int32)), (.int (2 : Int32))])
      refine Go.st (fun t k => XS.icmpYes X21.here hx rfl (pc0 := 43) (pc' := 52) rfl (hb hby at_43) rfl (by decide) (by decide) (by decide) k) ?_
      show Go _ _ _ _ T21 (mkF m 52 #[.val (.int p1), .val (.int p2), .val (.int p3), .val (.int p4), .val (.int p5), .val (.int p6), .val (.int (2 : Int32)), .val (.int (0 : Int32)), .val (.ref b19), .unset, .unset, .unset, .unset] [])
      obtain ⟨T22, h22, X22, e22, E22, A22, D22, -, st22⟩ := newO X21 hx hZ hown (hw _ (List.mem_of_getElem? (i := 1) rfl)) (hw _ (List.mem_of_getElem? (i := 2) rfl)) (hw _ (List.mem_of_getElem? (i := 3) rfl)) e21 (g := (mkF m 52 #[.val (.int p1), .val (.int p2), .val (.int p3), .val (.int p4), .val (.int p5), .val (.int p6), .val (.int (2 : Int32)), .val (.int (0 : Int32)), .val (.ref b19), .unset, .unset, .unset, .unset] [])) rfl (hb hby at_52) (by decide) (by decide)
      obtain ⟨b22, qz22⟩ : ∃ z, z = h21.size := ⟨_, rfl⟩
      rw [← qz22] at A22 D22 st22
      have g_b22 : n0 ≤ b22 := Nat.le_trans Z21 (Nat.le_of_eq qz22.symm)
      have Z22 := Nat.le_trans Z21 E22.1
      have ne_b19_b22 : b19 ≠ b22 := fun z => absurd V_b19.lt (by rw [z, qz22]; exact Nat.lt_irrefl _)
      have V_b19 := V_b19.ext E22
      have E_b22 := A22
      have F_data_b22 : Fld Z h22 b22 "com/example/vetter/vetter/io/DerReader" "data" "[B" .null := D22 (Or.inr (hw _ (List.mem_of_getElem? (i := 11) rfl))) (ty := (.array .byte)) (by decide)
      have F_position_b22 : Fld Z h22 b22 "com/example/vetter/vetter/io/DerReader" "position" "I" (.int (0 : Int32)) := D22 (Or.inl (hw _ (List.mem_of_getElem? (i := 18) rfl))) (ty := .int) (by decide)
      refine Go.st st22 ?_
      show Go _ _ _ _ T22 (mkF m 55 #[.val (.int p1), .val (.int p2), .val (.int p3), .val (.int p4), .val (.int p5), .val (.int p6), .val (.int (2 : Int32)), .val (.int (0 : Int32)), .val (.ref b19), .unset, .unset, .unset, .unset] [(.ref b22)])
      refine Go.st (fun t k => XS.dup X22.here hx rfl (hb hby at_55) rfl rfl k) ?_
      show Go _ _ _ _ T22 (mkF m 56 #[.val (.int p1), .val (.int p2), .val (.int p3), .val (.int p4), .val (.int p5), .val (.int p6), .val (.int (2 : Int32)), .val (.int (0 : Int32)), .val (.ref b19), .unset, .unset, .unset, .unset] [(.ref b22), (.ref b22)])
      refine Go.st (fun t k => XS.aload X22.here hx rfl (hb hby at_56) rfl rfl k) ?_
      show Go _ _ _ _ T22 (mkF m 58 #[.val (.int p1), .val (.int p2), .val (.int p3), .val (.int p4), .val (.int p5), .val (.int p6), .val (.int (2 : Int32)), .val (.int (0 : Int32)), .val (.ref b19), .unset, .unset, .unset, .unset] [(.ref b19), (.ref b22), (.ref b22)])
      refine goC X22 hx hZ (y := (⟨"com/example/vetter/vetter/io/DerReader", "<init>", "([B)V"⟩ : MethodName)) rfl hown (hw _ (List.mem_of_getElem? (i := 4) rfl)) (hw _ (List.mem_of_getElem? (i := 5) rfl)) (hw _ (List.mem_of_getElem? (i := 3) rfl)) (hw _ (List.mem_of_getElem? (i := 6) rfl)) (by decide) (rm1 l Z a0 hw b22 b19 h22 n0 Z22 E_b22 F_data_b22 F_position_b22 g_b22) e22 N21 1 (by decide) (by decide) (by decide) (by decide) (g := (mkF m 58 #[.val (.int p1), .val (.int p2), .val (.int p3), .val (.int p4), .val (.int p5), .val (.int p6), .val (.int (2 : Int32)), .val (.int (0 : Int32)), .val (.ref b19), .unset, .unset, .unset, .unset] [(.ref b19), (.ref b22), (.ref b22)])) rfl (by rw [hml]; rfl) [(.ref b19)] [(.ref b22)] (lenOf pd0_0 rfl) rfl rfl (by show 2 * 0 + _ ≤ _; exact Nat.le_of_eq rfl) (hb hby at_58) ?_
      intro T23 v23 L23 M23 X23 N23 hq23
      obtain ⟨rfl, N23q, K23, E_b22, F_data_b22, F_position_b22⟩ := hq23
      replace N23 := N23 N23q
      have Z23 := Nat.le_trans Z22 K23.1
      have V_b19 := V_b19.keep K23 (ninS ne_b19_b22 nin0)
      show Go _ _ _ _ T23 (mkF m 61 #[.val (.int p1), .val (.int p2), .val (.int p3), .val (.int p4), .val (.int p5), .val (.int p6), .val (.int (2 : Int32)), .val (.int (0 : Int32)), .val (.ref b19), .unset, .unset, .unset, .unset] [(.ref b22)])
      refine Go.st (fun t k => XS.astore X23.here hx rfl (hb hby at_61) rfl rfl (l' := #[.val (.int p1), .val (.int p2), .val (.int p3), .val (.int p4), .val (.int p5), .val (.int p6), .val (.int (2 : Int32)), .val (.int (0 : Int32)), .val (.ref b19), .val (.ref b22), .unset, .unset, .unset]) rfl k) ?_
      show Go _ _ _ _ T23 (mkF m 63 #[.val (.int p1), .val (.int p2), .val (.int p3), .val (.int p4), .val (.int p5), .val (.int p6), .val (.int (2 : Int32)), .val (.int (0 : Int32)), .val (.ref b19), .val (.ref b22), .unset, .unset, .unset] [])
      refine Go.st (fun t k => XS.iload X23.here hx rfl (hb hby at_63) rfl k) ?_
      show Go _ _ _ _ T23 (mkF m 65 #[.val (.int p1), .val (.int p2), .val (.int p3), .val (.int p4), .val (.int p5), .val (.int p6), .val (.int (2 : Int32)), .val (.int (0 : Int32)), .val (.ref b19), .val (.ref b22), .unset, .unset, .unset] [(.int (2 : Int32))])
      refine Go.st (fun t k => XS.ifNo X23.here hx rfl (hb hby at_65) rfl (by decide) k) ?_
      show Go _ _ _ _ T23 (mkF m 68 #[.val (.int p1), .val (.int p2), .val (.int p3), .val (.int p4), .val (.int p5), .val (.int p6), .val (.int (2 : Int32)), .val (.int (0 : Int32)), .val (.ref b19), .val (.ref b22), .unset, .unset, .unset] [])
      refine Go.st (fun t k => XS.iloadN X23.here hx rfl (hb hby at_68) rfl k) ?_
      show Go _ _ _ _ T23 (mkF m 69 #[.val (.int p1), .val (.int p2), .val (.int p3), .val (.int p4), .val (.int p5), .val (.int p6), .val (.int (2 : Int32)), .val (.int (0 : Int32)), .val (.ref b19), .val (.ref b22), .unset, .unset, .unset] [(.int p2)])
      refine Go.st (fun t k => XS.sipush X23.here hx rfl (hb hby at_69) k) ?_
      show Go _ _ _ _ T23 (mkF m 72 #[.val (.int p1), .val (.int p2), .val (.int p3), .val (.int p4), .val (.int p5), .val (.int p6), .val (.int (2 : Int32)), .val (.int (0 : Int32)), .val (.ref b19), .val (.ref b22), .unset, .unset, .unset] [(.int (255 : Int32)), (.int p2)])
      refine Go.st (fun t k => XS.iand X23.here hx rfl (hb hby at_72) rfl k) ?_
      show Go _ _ _ _ T23 (mkF m 73 #[.val (.int p1), .val (.int p2), .val (.int p3), .val (.int p4), .val (.int p5), .val (.int p6), .val (.int (2 : Int32)), .val (.int (0 : Int32)), .val (.ref b19), .val (.ref b22), .unset, .unset, .unset] [(.int (p2 &&& (255 : Int32)))])
      refine Go.st (fun t k => XS.iload X23.here hx rfl (hb hby at_73) rfl k) ?_
      show Go _ _ _ _ T23 (mkF m 75 #[.val (.int p1), .val (.int p2), .val (.int p3), .val (.int p4), .val (.int p5), .val (.int p6), .val (.int (2 : Int32)), .val (.int (0 : Int32)), .val (.ref b19), .val (.ref b22), .unset, .unset, .unset] [(.int p5), (.int (p2 &&& (255 : Int32)))])
      by_cases hE1 : (p2 &&& (255 : Int32)) = p5
      ·
        refine Go.st (fun t k => XS.icmpNo X23.here hx rfl (hb hby at_75) rfl (teq hE1).2 k) ?_
        show Go _ _ _ _ T23 (mkF m 78 #[.val (.int p1), .val (.int p2), .val (.int p3), .val (.int p4), .val (.int p5), .val (.int p6), .val (.int (2 : Int32)), .val (.int (0 : Int32)), .val (.ref b19), .val (.ref b22), .unset, .unset, .unset] [])
        refine Go.st (fun t k => XS.iconst X23.here hx rfl (hb hby at_78) k) ?_
        show Go _ _ _ _ T23 (mkF m 79 #[.val (.int p1), .val (.int p2), .val (.int p3), .val (.int p4), .val (.int p5), .val (.int p6), .val (.int (2 : Int32)), .val (.int (0 : Int32)), .val (.ref b19), .val (.ref b22), .unset, .unset, .unset] [(.int (1 : Int32))])
        refine Go.st (fun t k => XS.goto X23.here hx rfl (pc0 := 79) (pc' := 83) rfl (hb hby at_79) (by decide) (by decide) k) ?_
        show Go _ _ _ _ T23 (mkF m 83 #[.val (.int p1), .val (.int p2), .val (.int p3), .val (.int p4), .val (.int p5), .val (.int p6), .val (.int (2 : Int32)), .val (.int (0 : Int32)), .val (.ref b19), .val (.ref b22), .unset, .unset, .unset] [(.int (1 : Int32))])
        refine Go.st (fun t k => XS.istore X23.here hx rfl (hb hby at_83) rfl (l' := #[.val (.int p1), .val (.int p2), .val (.int p3), .val (.int p4), .val (.int p5), .val (.int p6), .val (.int (2 : Int32)), .val (.int (0 : Int32)), .val (.ref b19), .val (.ref b22), .val (.int (1 : Int32)), .unset, .unset]) rfl k) ?_
        show Go _ _ _ _ T23 (mkF m 85 #[.val (.int p1), .val (.int p2), .val (.int p3), .val (.int p4), .val (.int p5), .val (.int p6), .val (.int (2 : Int32)), .val (.int (0 : Int32)), .val (.ref b19), .val (.ref b22), .val (.int (1 : Int32)), .unset, .unset] [])
        refine Go.st (fun t k => XS.aload X23.here hx rfl (hb hby at_85) rfl rfl k) ?_
        show Go _ _ _ _ T23 (mkF m 87 #[.val (.int p1), .val (.int p2), .val (.int p3), .val (.int p4), .val (.int p5), .val (.int p6), .val (.int (2 : Int32)), .val (.int (0 : Int32)), .val (.ref b19), .val (.ref b22), .val (.int (1 : Int32)), .unset, .unset] [(.ref b22)])
        refine Go.st (fun t k => XS.iload X23.here hx rfl (hb hby at_87) rfl k) ?_
        show Go _ _ _ _ T23 (mkF m 89 #[.val (.int p1), .val (.int p2), .val (.int p3), .val (.int p4), .val (.int p5), .val (.int p6), .val (.int (2 : Int32)), .val (.int (0 : Int32)), .val (.ref b19), .val (.ref b22), .val (.int (1 : Int32)), .unset, .unset] [(.int p5), (.ref b22)])
        refine goM X23 hx hZ (y := (⟨"com/example/vetter/vetter/io/DerReader", "nextIs", "(I)Z"⟩ : MethodName)) (z := (⟨"com/example/vetter/vetter/io/DerReader", "nextIs", "(I)Z"⟩ : MethodName)) hown (hw _ (List.mem_of_getElem? (i := 12) rfl)) (hw _ (List.mem_of_getElem? (i := 13) rfl)) (hw _ (List.mem_of_getElem? (i := 15) rfl)) (hw _ (List.mem_of_getElem? (i := 14) rfl)) (hw _ (List.mem_of_getElem? (i := 16) rfl)) (hw _ (List.mem_of_getElem? (i := 3) rfl)) (notFace_of_selects (args := #[]) (mvT hZ (hw _ (List.mem_of_getElem? (i := 15) rfl)))) (by decide) (rm3 l Z a0 hw b22 p5 T23.heap n0 Z23 (0 : Int32) b19 2 _ (2 : Int32) ((p2.toInt8.toInt32).toInt8.toInt32) F_position_b22 F_data_b22 V_b19 rfl (fun _ => ⟨0, ⟨by decide, rfl, by decide⟩, rfl⟩)) rfl N23 E_b22 0 (by decide) (by decide) (by decide) (by decide) (g := (mkF m 89 #[.val (.int p1), .val (.int p2), .val (.int p3), .val (.int p4), .val (.int p5), .val (.int p6), .val (.int (2 : Int32)), .val (.int (0 : Int32)), .val (.ref b19), .val (.ref b22), .val (.int (1 : Int32)), .unset, .unset] [(.int p5), (.ref b22)])) rfl (by rw [hml]; rfl) [(.int p5)] [] (lenOf pd0_1 rfl) rfl rfl (by show 2 * 0 + _ ≤ _; exact Nat.le_of_eq rfl) (hb hby at_89) ?_
        intro T25 v25 L25 M25 X25 N25 hq25
        obtain ⟨hq25, N25q, e25⟩ := hq25
        replace N25 := N25 N25q
        rcases hq25 with ⟨hA25, hB25, rfl⟩ | ⟨hr25, rfl⟩
        ·
          show Go _ _ _ _ T25 (mkF m 92 #[.val (.int p1), .val (.int p2), .val (.int p3), .val (.int p4), .val (.int p5), .val (.int p6), .val (.int (2 : Int32)), .val (.int (0 : Int32)), .val (.ref b19), .val (.ref b22), .val (.int (1 : Int32)), .unset, .unset] [(.int (1 : Int32))])
          refine Go.st (fun t k => XS.iload X25.here hx rfl (hb hby at_92) rfl k) ?_
          show Go _ _ _ _ T25 (mkF m 94 #[.val (.int p1), .val (.int p2), .val (.int p3), .val (.int p4), .val (.int p5), .val (.int p6), .val (.int (2 : Int32)), .val (.int (0 : Int32)), .val (.ref b19), .val (.ref b22), .val (.int (1 : Int32)), .unset, .unset] [(.int (1 : Int32)), (.int (1 : Int32))])
          refine Go.st (fun t k => XS.icmpYes X25.here hx rfl (pc0 := 94) (pc' := 99) rfl (hb hby at_94) rfl (by decide) (by decide) (by decide) k) ?_
          show Go _ _ _ _ T25 (mkF m 99 #[.val (.int p1), .val (.int p2), .val (.int p3), .val (.int p4), .val (.int p5), .val (.int p6), .val (.int (2 : Int32)), .val (.int (0 : Int32)), .val (.ref b19), .val (.ref b22), .val (.int (1 : Int32)), .unset, .unset] [])
          refine Go.st (fun t k => XS.iconst X25.here hx rfl (hb hby at_99) k) ?_
          show Go _ _ _ _ T25 (mkF m 100 #[.val (.int p1), .val (.int p2), .val (.int p3), .val (.int p4), .val (.int p5), .val (.int p6), .val (.int (2 : Int32)), .val (.int (0 : Int32)), .val (.ref b19), .val (.ref b22), .val (.int (1 : Int32)), .unset, .unset] [(.int (0 : Int32))])
          refine Go.st (fun t k => XS.istore X25.here hx rfl (hb hby at_100) rfl (l' := #[.val (.int p1), .val (.int p2), .val (.int p3), .val (.int p4), .val (.int p5), .val (.int p6), .val (.int (2 : Int32)), .val (.int (0 : Int32)), .val (.ref b19), .val (.ref b22), .val (.int (1 : Int32)), .val (.int (0 : Int32)), .unset]) rfl k) ?_
          show Go _ _ _ _ T25 (mkF m 102 #[.val (.int p1), .val (.int p2), .val (.int p3), .val (.int p4), .val (.int p5), .val (.int p6), .val (.int (2 : Int32)), .val (.int (0 : Int32)), .val (.ref b19), .val (.ref b22), .val (.int (1 : Int32)), .val (.int (0 : Int32)), .unset] [])
          refine Go.st (fun t k => XS.iload X25.here hx rfl (hb hby at_102) rfl k) ?_
          show Go _ _ _ _ T25 (mkF m 104 #[.val (.int p1), .val (.int p2), .val (.int p3), .val (.int p4), .val (.int p5), .val (.int p6), .val (.int (2 : Int32)), .val (.int (0 : Int32)), .val (.ref b19), .val (.ref b22), .val (.int (1 : Int32)), .val (.int (0 : Int32)), .unset] [(.int (2 : Int32))])
          refine Go.st (fun t k => XS.iconst X25.here hx rfl (hb hby at_104) k) ?_
          show Go _ _ _ _ T25 (mkF m 105 #[.val (.int p1), .val (.int p2), .val (.int p3), .val (.int p4), .val (.int p5), .val (.int p6), .val (.int (2 : Int32)), .val (.int (0 : Int32)), .val (.ref b19), .val (.ref b22), .val (.int (1 : Int32)), .val (.int (0 : Int32)), .unset] [(.int (2 : Int32)), (.int (2 : Int32))])
          refine Go.st (fun t k => XS.icmpNo X25.here hx rfl (hb hby at_105) rfl (by decide) k) ?_
          show Go _ _ _ _ T25 (mkF m 108 #[.val (.int p1), .val (.int p2), .val (.int p3), .val (.int p4), .val (.int p5), .val (.int p6), .val (.int (2 : Int32)), .val (.int (0 : Int32)), .val (.ref b19), .val (.ref b22), .val (.int (1 : Int32)), .val (.int (0 : Int32)), .unset] [])
          refine Go.st (fun t k => XS.iload X25.here hx rfl (hb hby at_108) rfl k) ?_
          show Go _ _ _ _ T25 (mkF m 110 #[.val (.int p1), .val (.int p2), .val (.int p3), .val (.int p4), .val (.int p5), .val (.int p6), .val (.int (2 : Int32)), .val (.int (0 : Int32)), .val (.ref b19), .val (.ref b22), .val (.int (1 : Int32)), .val (.int (0 : Int32)), .unset] [(.int (0 : Int32))])
          refine Go.st (fun t k => XS.iload X25.here hx rfl (hb hby at_110) rfl k) ?_
          show Go _ _ _ _ T25 (mkF m 112 #[.val (.int p1), .val (.int p2), .val (.int p3), .val (.int p4), .val (.int p5), .val (.int p6), .val (.int (2 : Int32)), .val (.int (0 : Int32)), .val (.ref b19), .val (.ref b22), .val (.int (1 : Int32)), .val (.int (0 : Int32)), .unset] [(.int (2 : Int32)), (.int (0 : Int32))])
          refine Go.st (fun t k => XS.iconst X25.here hx rfl (hb hby at_112) k) ?_
          show Go _ _ _ _ T25 (mkF m 113 #[.val (.int p1), .val (.int p2), .val (.int p3), .val (.int p4), .val (.int p5), .val (.int p6), .val (.int (2 : Int32)), .val (.int (0 : Int32)), .val (.ref b19), .val (.ref b22), .val (.int (1 : Int32)), .val (.int (0 : Int32)), .unset] [(.int (2 : Int32)), (.int (2 : Int32)), (.int (0 : Int32))])
          refine Go.st (fun t k => XS.isub X25.here hx rfl (hb hby at_113) rfl k) ?_
          show Go _ _ _ _ T25 (mkF m 114 #[.val (.int p1), .val (.int p2), .val (.int p3), .val (.int p4), .val (.int p5), .val (.int p6), .val (.int (2 : Int32)), .val (.int (0 : Int32)), .val (.ref b19), .val (.ref b22), .val (.int (1 : Int32)), .val (.int (0 : Int32)), .unset] [(.int (0 : Int32)), (.int (0 : Int32))])
          refine Go.st (fun t k => XS.icmpNo X25.here hx rfl (hb hby at_114) rfl (by decide) k) ?_
          show Go _ _ _ _ T25 (mkF m 117 #[.val (.int p1), .val (.int p2), .val (.int p3), .val (.int p4), .val (.int p5), .val (.int p6), .val (.int (2 : Int32)), .val (.int (0 : Int32)), .val (.ref b19), .val (.ref b22), .val (.int (1 : Int32)), .val (.int (0 : Int32)), .unset] [])
          refine Go.st (fun t k => XS.aload X25.here hx rfl (hb hby at_117) rfl rfl k) ?_
          show Go _ _ _ _ T25 (mkF m 119 #[.val (.int p1), .val (.int p2), .val (.int p3), .val (.int p4), .val (.int p5), .val (.int p6), .val (.int (2 : Int32)), .val (.int (0 : Int32)), .val (.ref b19), .val (.ref b22), .val (.int (1 : Int32)), .val (.int (0 : Int32)), .unset] [(.ref b22)])
          refine Go.st (fun t k => XS.iloadN X25.here hx rfl (hb hby at_119) rfl k) ?_
          show Go _ _ _ _ T25 (mkF m 120 #[.val (.int p1), .val (.int p2), .val (.int p3), .val (.int p4), .val (.int p5), .val (.int p6), .val (.int (2 : Int32)), .val (.int (0 : Int32)), .val (.ref b19), .val (.ref b22), .val (.int (1 : Int32)), .val (.int (0 : Int32)), .unset] [(.int p2), (.ref b22)])
          refine Go.st (fun t k => XS.sipush X25.here hx rfl (hb hby at_120) k) ?_
          show Go _ _ _ _ T25 (mkF m 123 #[.val (.int p1), .val (.int p2), .val (.int p3), .val (.int p4), .val (.int p5), .val (.int p6), .val (.int (2 : Int32)), .val (.int (0 : Int32)), .val (.ref b19), .val (.ref b22), .val (.int (1 : Int32)), .val (.int (0 : Int32)), .unset] [(.int (255 : Int32)), (.int p2), (.ref b22)])
          refine Go.st (fun t k => XS.iand X25.here hx rfl (hb hby at_123) rfl k) ?_
          show Go _ _ _ _ T25 (mkF m 124 #[.val (.int p1), .val (.int p2), .val (.int p3), .val (.int p4), .val (.int p5), .val (.int p6), .val (.int (2 : Int32)), .val (.int (0 : Int32)), .val (.ref b19), .val (.ref b22), .val (.int (1 : Int32)), .val (.int (0 : Int32)), .unset] [(.int (p2 &&& (255 : Int32))), (.ref b22)])
          refine goM X25 hx hZ (y := (⟨"com/example/vetter/vetter/io/DerReader", "read", "(I)[B"⟩ : MethodName)) (z := (⟨"com/example/vetter/vetter/io/DerReader", "read", "(I)[B"⟩ : MethodName)) hown (hw _ (List.mem_of_getElem? (i := 19) rfl)) (hw _ (List.mem_of_getElem? (i := 20) rfl)) (hw _ (List.mem_of_getElem? (i := 22) rfl)) (hw _ (List.mem_of_getElem? (i := 21) rfl)) (hw _ (List.mem_of_getElem? (i := 23) rfl)) (hw _ (List.mem_of_getElem? (i := 3) rfl)) (notFace_of_selects (args := #[]) (mvT hZ (hw _ (List.mem_of_getElem? (i := 22) rfl)))) (by decide) (rm4 l Z a0 hw b22 (p2 &&& (255 : Int32)) T23.heap n0 Z23 b19 2 _ (2 : Int32) (0 : Int32) (2 : Int32) ((p2.toInt8.toInt32).toInt8.toInt32) (by simp [own_K]) E_b22 F_data_b22 V_b19 g_b22 ne_b19_b22 F_position_b22 rfl (own_m p2) rfl (fun i hi => by rcases own_lt2 hi with rfl | rfl <;> exact fits_nar_byte _)) e25 N25 E_b22 0 (by decide) (by decide) (by decide) (by decide) (g := (mkF m 124 #[.val (.int p1), .val (.int p2), .val (.int p3), .val (.int p4), .val (.int p5), .val (.int p6), .val (.int (2 : Int32)), .val (.int (0 : Int32)), .val (.ref b19), .val (.ref b22), .val (.int (1 : Int32)), .val (.int (0 : Int32)), .unset] [(.int (p2 &&& (255 : Int32))), (.ref b22)])) rfl (by rw [hml]; rfl) [(.int (p2 &&& (255 : Int32)))] [] (lenOf pd0_2 rfl) rfl rfl (by show 2 * 0 + _ ≤ _; exact Nat.le_of_eq rfl) (hb hby at_124) ?_
          intro T26 v26 L26 M26 X26 N26 hq26
          obtain ⟨⟨r26, rfl⟩, N26q, K26, E_b22, F_data_b22, F_position_b22⟩ := hq26
          replace N26 := N26 N26q
          have Z26 := Nat.le_trans Z23 K26.1
          have V_b19 := V_b19.keep K26 (ninS ne_b19_b22 nin0)
          show Go _ _ _ _ T26 (mkF m 127 #[.val (.int p1), .val (.int p2), .val (.int p3), .val (.int p4), .val (.int p5), .val (.int p6), .val (.int (2 : Int32)), .val (.int (0 : Int32)), .val (.ref b19), .val (.ref b22), .val (.int (1 : Int32)), .val (.int (0 : Int32)), .unset] [(.ref r26)])
          refine Go.st (fun t k => XS.pop X26.here hx rfl (hb hby at_127) rfl rfl k) ?_
          show Go _ _ _ _ T26 (mkF m 128 #[.val (.int p1), .val (.int p2), .val (.int p3), .val (.int p4), .val (.int p5), .val (.int p6), .val (.int (2 : Int32)), .val (.int (0 : Int32)), .val (.ref b19), .val (.ref b22), .val (.int (1 : Int32)), .val (.int (0 : Int32)), .unset] [])
          refine Go.st (fun t k => XS.iconst X26.here hx rfl (hb hby at_128) k) ?_
          show Go _ _ _ _ T26 (mkF m 129 #[.val (.int p1), .val (.int p2), .val (.int p3), .val (.int p4), .val (.int p5), .val (.int p6), .val (.int (2 : Int32)), .val (.int (0 : Int32)), .val (.ref b19), .val (.ref b22), .val (.int (1 : Int32)), .val (.int (0 : Int32)), .unset] [(.int (2 : Int32))])
          refine Go.st (fun t k => XS.iload X26.here hx rfl (hb hby at_129) rfl k) ?_
          show Go _ _ _ _ T26 (mkF m 131 #[.val (.int p1), .val (.int p2), .val (.int p3), .val (.int p4), .val (.int p5), .val (.int p6), .val (.int (2 : Int32)), .val (.int (0 : Int32)), .val (.ref b19), .val (.ref b22), .val (.int (1 : Int32)), .val (.int (0 : Int32)), .unset] [(.int (0 : Int32)), (.int (2 : Int32))])
          refine Go.st (fun t k => XS.iadd X26.here hx rfl (hb hby at_131) rfl k) ?_
          show Go _ _ _ _ T26 (mkF m 132 #[.val (.int p1), .val (.int p2), .val (.int p3), .val (.int p4), .val (.int p5), .val (.int p6), .val (.int (2 : Int32)), .val (.int (0 : Int32)), .val (.ref b19), .val (.ref b22), .val (.int (1 : Int32)), .val (.int (0 : Int32)), .unset] [(.int (2 : Int32))])
          refine Go.st (fun t k => XS.istore X26.here hx rfl (hb hby at_132) rfl (l' := #[.val (.int p1), .val (.int p2), .val (.int p3), .val (.int p4), .val (.int p5), .val (.int p6), .val (.int (2 : Int32)), .val (.int (0 : Int32)), .val (.ref b19), .val (.ref b22), .val (.int (1 : Int32)), .val (.int (2 : Int32)), .unset]) rfl k) ?_
          show Go _ _ _ _ T26 (mkF m 134 #[.val (.int p1), .val (.int p2), .val (.int p3), .val (.int p4), .val (.int p5), .val (.int p6), .val (.int (2 : Int32)), .val (.int (0 : Int32)), .val (.ref b19), .val (.ref b22), .val (.int (1 : Int32)), .val (.int (2 : Int32)), .unset] [])
          refine Go.st (fun t k => XS.iload X26.here hx rfl (hb hby at_134) rfl k) ?_
          show Go _ _ _ _ T26 (mkF m 136 #[.val (.int p1), .val (.int p2), .val (.int p3), .val (.int p4), .val (.int p5), .val (.int p6), .val (.int (2 : Int32)), .val (.int (0 : Int32)), .val (.ref b19), .val (.ref b22), .val (.int (1 : Int32)), .val (.int (2 : Int32)), .unset] [(.int (2 : Int32))])
          refine Go.st (fun t k => XS.iload X26.here hx rfl (hb hby at_136) rfl k) ?_
          show Go _ _ _ _ T26 (mkF m 138 #[.val (.int p1), .val (.int p2), .val (.int p3), .val (.int p4), .val (.int p5), .val (.int p6), .val (.int (2 : Int32)), .val (.int (0 : Int32)), .val (.ref b19), .val (.ref b22), .val (.int (1 : Int32)), .val (.int (2 : Int32)), .unset] [(.int (2 : Int32)), (.int (2 : Int32))])
          refine Go.st (fun t k => XS.icmpNo X26.here hx rfl (hb hby at_138) rfl (by decide) k) ?_
          show Go _ _ _ _ T26 (mkF m 141 #[.val (.int p1), .val (.int p2), .val (.int p3), .val (.int p4), .val (.int p5), .val (.int p6), .val (.int (2 : Int32)), .val (.int (0 : Int32)), .val (.ref b19), .val (.ref b22), .val (.int (1 : Int32)), .val (.int (2 : Int32)), .unset] [])
          refine Go.st (fun t k => XS.iconst X26.here hx rfl (hb hby at_141) k) ?_
          show Go _ _ _ _ T26 (mkF m 142 #[.val (.int p1), .val (.int p2), .val (.int p3), .val (.int p4), .val (.int p5), .val (.int p6), .val (.int (2 : Int32)), .val (.int (0 : Int32)), .val (.ref b19), .val (.ref b22), .val (.int (1 : Int32)), .val (.int (2 : Int32)), .unset] [(.int (0 : Int32))])
          refine Go.st (fun t k => XS.istore X26.here hx rfl (hb hby at_142) rfl (l' := #[.val (.int p1), .val (.int p2), .val (.int p3), .val (.int p4), .val (.int p5), .val (.int p6), .val (.int (2 : Int32)), .val (.int (0 : Int32)), .val (.ref b19), .val (.ref b22), .val (.int (1 : Int32)), .val (.int (2 : Int32)), .val (.int (0 : Int32))]) rfl k) ?_
          show Go _ _ _ _ T26 (mkF m 144 #[.val (.int p1), .val (.int p2), .val (.int p3), .val (.int p4), .val (.int p5), .val (.int p6), .val (.int (2 : Int32)), .val (.int (0 : Int32)), .val (.ref b19), .val (.ref b22), .val (.int (1 : Int32)), .val (.int (2 : Int32)), .val (.int (0 : Int32))] [])
          refine Go.st (fun t k => XS.goto X26.here hx rfl (pc0 := 144) (pc' := 189) rfl (hb hby at_144) (by decide) (by decide) k) ?_
          show Go _ _ _ _ T26 (mkF m 189 #[.val (.int p1), .val (.int p2), .val (.int p3), .val (.int p4), .val (.int p5), .val (.int p6), .val (.int (2 : Int32)), .val (.int (0 : Int32)), .val (.ref b19), .val (.ref b22), .val (.int (1 : Int32)), .val (.int (2 : Int32)), .val (.int (0 : Int32))] [])
          refine Go.st (fun t k => XS.aload X26.here hx rfl (hb hby at_189) rfl rfl k) ?_
          show Go _ _ _ _ T26 (mkF m 191 #[.val (.int p1), .val (.int p2), .val (.int p3), .val (.int p4), .val (.int p5), .val (.int p6), .val (.int (2 : Int32)), .val (.int (0 : Int32)), .val (.ref b19), .val (.ref b22), .val (.int (1 : Int32)), .val (.int (2 : Int32)), .val (.int (0 : Int32))] [(.ref b22)])
          refine Go.st (fun t k => XS.iload X26.here hx rfl (hb hby at_191) rfl k) ?_
          show Go _ _ _ _ T26 (mkF m 193 #[.val (.int p1), .val (.int p2), .val (.int p3), .val (.int p4), .val (.int p5), .val (.int p6), .val (.int (2 : Int32)), .val (.int (0 : Int32)), .val (.ref b19), .val (.ref b22), .val (.int (1 : Int32)), .val (.int (2 : Int32)), .val (.int (0 : Int32))] [(.int p6), (.ref b22)])
          refine goM X26 hx hZ (y := (⟨"com/example/vetter/vetter/io/DerReader", "nextIs", "(I)Z"⟩ : MethodName)) (z := (⟨"com/example/vetter/vetter/io/DerReader", "nextIs", "(I)Z"⟩ : MethodName)) hown (hw _ (List.mem_of_getElem? (i := 12) rfl)) (hw _ (List.mem_of_getElem? (i := 13) rfl)) (hw _ (List.mem_of_getElem? (i := 15) rfl)) (hw _ (List.mem_of_getElem? (i := 14) rfl)) (hw _ (List.mem_of_getElem? (i := 16) rfl)) (hw _ (List.mem_of_getElem? (i := 3) rfl)) (notFace_of_selects (args := #[]) (mvT hZ (hw _ (List.mem_of_getElem? (i := 15) rfl)))) (by decide) (rm3 l Z a0 hw b22 p6 T26.heap n0 Z26 (2 : Int32) b19 2 _ (2 : Int32) ((p4.toInt8.toInt32).toInt8.toInt32) F_position_b22 F_data_b22 V_b19 rfl (fun q => absurd q (by decide))) rfl N26 E_b22 0 (by decide) (by decide) (by decide) (by decide) (g := (mkF m 193 #[.val (.int p1), .val (.int p2), .val (.int p3), .val (.int p4), .val (.int p5), .val (.int p6), .val (.int (2 : Int32)), .val (.int (0 : Int32)), .val (.ref b19), .val (.ref b22), .val (.int (1 : Int32)), .val (.int (2 : Int32)), .val (.int (0 : Int32))] [(.int p6), (.ref b22)])) rfl (by rw [hml]; rfl) [(.int p6)] [] (lenOf pd0_1 rfl) rfl rfl (by show 2 * 0 + _ ≤ _; exact Nat.le_of_eq rfl) (hb hby at_193) ?_
          intro T27 v27 L27 M27 X27 N27 hq27
          obtain ⟨hq27, N27q, e27⟩ := hq27
          replace N27 := N27 N27q
          rcases hq27 with ⟨hA27, hB27, rfl⟩ | ⟨hr27, rfl⟩
          ·
            exact absurd hA27 (by decide)
          ·
            show Go _ _ _ _ T27 (mkF m 196 #[.val (.int p1), .val (.int p2), .val (.int p3), .val (.int p4), .val (.int p5), .val (.int p6), .val (.int (2 : Int32)), .val (.int (0 : Int32)), .val (.ref b19), .val (.ref b22), .val (.int (1 : Int32)), .val (.int (2 : Int32)), .val (.int (0 : Int32))] [(.int (0 : Int32))])
            refine Go.st (fun t k => XS.iload X27.here hx rfl (hb hby at_196) rfl k) ?_
            show Go _ _ _ _ T27 (mkF m 198 #[.val (.int p1), .val (.int p2), .val (.int p3), .val (.int p4), .val (.int p5), .val (.int p6), .val (.int (2 : Int32)), .val (.int (0 : Int32)), .val (.ref b19), .val (.ref b22), .val (.int (1 : Int32)), .val (.int (2 : Int32)), .val (.int (0 : Int32))] [(.int (0 : Int32)), (.int (0 : Int32))])
            refine Go.st (fun t k => XS.icmpNo X27.here hx rfl (hb hby at_198) rfl (by decide) k) ?_
            show Go _ _ _ _ T27 (mkF m 201 #[.val (.int p1), .val (.int p2), .val (.int p3), .val (.int p4), .val (.int p5), .val (.int p6), .val (.int (2 : Int32)), .val (.int (0 : Int32)), .val (.ref b19), .val (.ref b22), .val (.int (1 : Int32)), .val (.int (2 : Int32)), .val (.int (0 : Int32))] [])
            refine Go.st (fun t k => XS.iconst X27.here hx rfl (hb hby at_201) k) ?_
            show Go _ _ _ _ T27 (mkF m 202 #[.val (.int p1), .val (.int p2), .val (.int p3), .val (.int p4), .val (.int p5), .val (.int p6), .val (.int (2 : Int32)), .val (.int (0 : Int32)), .val (.ref b19), .val (.ref b22), .val (.int (1 : Int32)), .val (.int (2 : Int32)), .val (.int (0 : Int32))] [(.int (1 : Int32))])
            refine Go.st (fun t k => XS.goto X27.here hx rfl (pc0 := 202) (pc' := 206) rfl (hb hby at_202) (by decide) (by decide) k) ?_
            show Go _ _ _ _ T27 (mkF m 206 #[.val (.int p1), .val (.int p2), .val (.int p3), .val (.int p4), .val (.int p5), .val (.int p6), .val (.int (2 : Int32)), .val (.int (0 : Int32)), .val (.ref b19), .val (.ref b22), .val (.int (1 : Int32)), .val (.int (2 : Int32)), .val (.int (0 : Int32))] [(.int (1 : Int32))])
            exact goN X27 hx hret hlk (by simp) (hb hby at_206) (by decide) (by decide) ⟨rfl, N27⟩
        ·
          exact absurd ⟨by decide, (own_m _).trans hE1⟩ hr25
      ·
        refine Go.st (fun t k => XS.icmpYes X23.here hx rfl (pc0 := 75) (pc' := 82) rfl (hb hby at_75) rfl (feq hE1).2 (by decide) (by decide) k) ?_
        show Go _ _ _ _ T23 (mkF m 82 #[.val (.int p1), .val (.int p2), .val (.int p3), .val (.int p4), .val (.int p5), .val (.int p6), .val (.int (2 : Int32)), .val (.int (0 : Int32)), .val (.ref b19), .val (.ref b22), .unset, .unset, .unset] [])
        refine Go.st (fun t k => XS.iconst X23.here hx rfl (hb hby at_82) k) ?_
        show Go _ _ _ _ T23 (mkF m 83 #[.val (.int p1), .val (.int p2), .val (.int p3), .val (.int p4), .val (.int p5), .val (.int p6), .val (.int (2 : Int32)), .val (.int (0 : Int32)), .val (.ref b19), .val (.ref b22), .unset, .unset, .unset] [(.int (0 : Int32))])
        refine Go.st (fun t k => XS.istore X23.here hx rfl (hb hby at_83) rfl (l' := #[.val (.int p1), .val (.int p2), .val (.int p3), .val (.int p4), .val (.int p5), .val (.int p6), .val (.int (2 : Int32)), .val (.int (0 : Int32)), .val (.ref b19), .val (.ref b22), .val (.int (0 : Int32)), .unset, .unset]) rfl k) ?_
        show Go _ _ _ _ T23 (mkF m 85 #[.val (.int p1), .val (.int p2), .val (.int p3), .val (.int p4), .val (.int p5), .val (.int p6), .val (.int (2 : Int32)), .val (.int (0 : Int32)), .val (.ref b19), .val (.ref b22), .val (.int (0 : Int32)), .unset, .unset] [])
        refine Go.st (fun t k => XS.aload X23.here hx rfl (hb hby at_85) rfl rfl k) ?_
        show Go _ _ _ _ T23 (mkF m 87 #[.val (.int p1), .val (.int p2), .val (.int p3), .val (.int p4), .val (.int p5), .val (.int p6), .val (.int (2 : Int32)), .val (.int (0 : Int32)), .val (.ref b19), .val (.ref b22), .val (.int (0 : Int32)), .unset, .unset] [(.ref b22)])
        refine Go.st (fun t k => XS.iload X23.here hx rfl (hb hby at_87) rfl k) ?_
        show Go _ _ _ _ T23 (mkF m 89 #[.val (.int p1), .val (.int p2), .val (.int p3), .val (.int p4), .val (.int p5), .val (.int p6), .val (.int (2 : Int32)), .val (.int (0 : Int32)), .val (.ref b19), .val (.ref b22), .val (.int (0 : Int32)), .unset, .unset] [(.int p5), (.ref b22)])
        refine goM X23 hx hZ (y := (⟨"com/example/vetter/vetter/io/DerReader", "nextIs", "(I)Z"⟩ : MethodName)) (z := (⟨"com/example/vetter/vetter/io/DerReader", "nextIs", "(I)Z"⟩ : MethodName)) hown (hw _ (List.mem_of_getElem? (i := 12) rfl)) (hw _ (List.mem_of_getElem? (i := 13) rfl)) (hw _ (List.mem_of_getElem? (i := 15) rfl)) (hw _ (List.mem_of_getElem? (i := 14) rfl)) (hw _ (List.mem_of_getElem? (i := 16) rfl)) (hw _ (List.mem_of_getElem? (i := 3) rfl)) (notFace_of_selects (args := #[]) (mvT hZ (hw _ (List.mem_of_getElem? (i := 15) rfl)))) (by decide) (rm3 l Z a0 hw b22 p5 T23.heap n0 Z23 (0 : Int32) b19 2 _ (2 : Int32) ((p2.toInt8.toInt32).toInt8.toInt32) F_position_b22 F_data_b22 V_b19 rfl (fun _ => ⟨0, ⟨by decide, rfl, by decide⟩, rfl⟩)) rfl N23 E_b22 0 (by decide) (by decide) (by decide) (by decide) (g := (mkF m 89 #[.val (.int p1), .val (.int p2), .val (.int p3), .val (.int p4), .val (.int p5), .val (.int p6), .val (.int (2 : Int32)), .val (.int (0 : Int32)), .val (.ref b19), .val (.ref b22), .val (.int (0 : Int32)), .unset, .unset] [(.int p5), (.ref b22)])) rfl (by rw [hml]; rfl) [(.int p5)] [] (lenOf pd0_1 rfl) rfl rfl (by show 2 * 0 + _ ≤ _; exact Nat.le_of_eq rfl) (hb hby at_89) ?_
        intro T28 v28 L28 M28 X28 N28 hq28
        obtain ⟨hq28, N28q, e28⟩ := hq28
        replace N28 := N28 N28q
        rcases hq28 with ⟨hA28, hB28, rfl⟩ | ⟨hr28, rfl⟩
        ·
          exact absurd ((own_m _).symm.trans hB28) hE1
        ·
          show Go _ _ _ _ T28 (mkF m 92 #[.val (.int p1), .val (.int p2), .val (.int p3), .val (.int p4), .val (.int p5), .val (.int p6), .val (.int (2 : Int32)), .val (.int (0 : Int32)), .val (.ref b19), .val (.ref b22), .val (.int (0 : Int32)), .unset, .unset] [(.int (0 : Int32))])
          refine Go.st (fun t k => XS.iload X28.here hx rfl (hb hby at_92) rfl k) ?_
          show Go _ _ _ _ T28 (mkF m 94 #[.val (.int p1), .val (.int p2), .val (.int p3), .val (.int p4), .val (.int p5), .val (.int p6), .val (.int (2 : Int32)), .val (.int (0 : Int32)), .val (.ref b19), .val (.ref b22), .val (.int (0 : Int32)), .unset, .unset] [(.int (0 : Int32)), (.int (0 : Int32))])
          refine Go.st (fun t k => XS.icmpYes X28.here hx rfl (pc0 := 94) (pc' := 99) rfl (hb hby at_94) rfl (by decide) (by decide) (by decide) k) ?_
          show Go _ _ _ _ T28 (mkF m 99 #[.val (.int p1), .val (.int p2), .val (.int p3), .val (.int p4), .val (.int p5), .val (.int p6), .val (.int (2 : Int32)), .val (.int (0 : Int32)), .val (.ref b19), .val (.ref b22), .val (.int (0 : Int32)), .unset, .unset] [])
          refine Go.st (fun t k => XS.iconst X28.here hx rfl (hb hby at_99) k) ?_
          show Go _ _ _ _ T28 (mkF m 100 #[.val (.int p1), .val (.int p2), .val (.int p3), .val (.int p4), .val (.int p5), .val (.int p6), .val (.int (2 : Int32)), .val (.int (0 : Int32)), .val (.ref b19), .val (.ref b22), .val (.int (0 : Int32)), .unset, .unset] [(.int (0 : Int32))])
          refine Go.st (fun t k => XS.istore X28.here hx rfl (hb hby at_100) rfl (l' := #[.val (.int p1), .val (.int p2), .val (.int p3), .val (.int p4), .val (.int p5), .val (.int p6), .val (.int (2 : Int32)), .val (.int (0 : Int32)), .val (.ref b19), .val (.ref b22), .val (.int (0 : Int32)), .val (.int (0 : Int32)), .unset]) rfl k) ?_
          show Go _ _ _ _ T28 (mkF m 102 #[.val (.int p1), .val (.int p2), .val (.int p3), .val (.int p4), .val (.int p5), .val (.int p6), .val (.int (2 : Int32)), .val (.int (0 : Int32)), .val (.ref b19), .val (.ref b22), .val (.int (0 : Int32)), .val (.int (0 : Int32)), .unset] [])
          refine Go.st (fun t k => XS.iload X28.here hx rfl (hb hby at_102) rfl k) ?_
          show Go _ _ _ _ T28 (mkF m 104 #[.val (.int p1), .val (.int p2), .val (.int p3), .val (.int p4), .val (.int p5), .val (.int p6), .val (.int (2 : Int32)), .val (.int (0 : Int32)), .val (.ref b19), .val (.ref b22), .val (.int (0 : Int32)), .val (.int (0 : Int32)), .unset] [(.int (2 : Int32))])
          refine Go.st (fun t k => XS.iconst X28.here hx rfl (hb hby at_104) k) ?_
          show Go _ _ _ _ T28 (mkF m 105 #[.val (.int p1), .val (.int p2), .val (.int p3), .val (.int p4), .val (.int p5), .val (.int p6), .val (.int (2 : Int32)), .val (.int (0 : Int32)), .val (.ref b19), .val (.ref b22), .val (.int (0 : Int32)), .val (.int (0 : Int32)), .unset] [(.int (2 : Int32)), (.int (2 : Int32))])
          refine Go.st (fun t k => XS.icmpNo X28.here hx rfl (hb hby at_105) rfl (by decide) k) ?_
          show Go _ _ _ _ T28 (mkF m 108 #[.val (.int p1), .val (.int p2), .val (.int p3), .val (.int p4), .val (.int p5), .val (.int p6), .val (.int (2 : Int32)), .val (.int (0 : Int32)), .val (.ref b19), .val (.ref b22), .val (.int (0 : Int32)), .val (.int (0 : Int32)), .unset] [])
          refine Go.st (fun t k => XS.iload X28.here hx rfl (hb hby at_108) rfl k) ?_
          show Go _ _ _ _ T28 (mkF m 110 #[.val (.int p1), .val (.int p2), .val (.int p3), .val (.int p4), .val (.int p5), .val (.int p6), .val (.int (2 : Int32)), .val (.int (0 : Int32)), .val (.ref b19), .val (.ref b22), .val (.int (0 : Int32)), .val (.int (0 : Int32)), .unset] [(.int (0 : Int32))])
          refine Go.st (fun t k => XS.iload X28.here hx rfl (hb hby at_110) rfl k) ?_
          show Go _ _ _ _ T28 (mkF m 112 #[.val (.int p1), .val (.int p2), .val (.int p3), .val (.int p4), .val (.int p5), .val (.int p6), .val (.int (2 : Int32)), .val (.int (0 : Int32)), .val (.ref b19), .val (.ref b22), .val (.int (0 : Int32)), .val (.int (0 : Int32)), .unset] [(.int (2 : Int32)), (.int (0 : Int32))])
          refine Go.st (fun t k => XS.iconst X28.here hx rfl (hb hby at_112) k) ?_
          show Go _ _ _ _ T28 (mkF m 113 #[.val (.int p1), .val (.int p2), .val (.int p3), .val (.int p4), .val (.int p5), .val (.int p6), .val (.int (2 : Int32)), .val (.int (0 : Int32)), .val (.ref b19), .val (.ref b22), .val (.int (0 : Int32)), .val (.int (0 : Int32)), .unset] [(.int (2 : Int32)), (.int (2 : Int32)), (.int (0 : Int32))])
          refine Go.st (fun t k => XS.isub X28.here hx rfl (hb hby at_113) rfl k) ?_
          show Go _ _ _ _ T28 (mkF m 114 #[.val (.int p1), .val (.int p2), .val (.int p3), .val (.int p4), .val (.int p5), .val (.int p6), .val (.int (2 : Int32)), .val (.int (0 : Int32)), .val (.ref b19), .val (.ref b22), .val (.int (0 : Int32)), .val (.int (0 : Int32)), .unset] [(.int (0 : Int32)), (.int (0 : Int32))])
          refine Go.st (fun t k => XS.icmpNo X28.here hx rfl (hb hby at_114) rfl (by decide) k) ?_
          show Go _ _ _ _ T28 (mkF m 117 #[.val (.int p1), .val (.int p2), .val (.int p3), .val (.int p4), .val (.int p5), .val (.int p6), .val (.int (2 : Int32)), .val (.int (0 : Int32)), .val (.ref b19), .val (.ref b22), .val (.int (0 : Int32)), .val (.int (0 : Int32)), .unset] [])
          refine Go.st (fun t k => XS.aload X28.here hx rfl (hb hby at_117) rfl rfl k) ?_
          show Go _ _ _ _ T28 (mkF m 119 #[.val (.int p1), .val (.int p2), .val (.int p3), .val (.int p4), .val (.int p5), .val (.int p6), .val (.int (2 : Int32)), .val (.int (0 : Int32)), .val (.ref b19), .val (.ref b22), .val (.int (0 : Int32)), .val (.int (0 : Int32)), .unset] [(.ref b22)])
          refine Go.st (fun t k => XS.iloadN X28.here hx rfl (hb hby at_119) rfl k) ?_
          show Go _ _ _ _ T28 (mkF m 120 #[.val (.int p1), .val (.int p2), .val (.int p3), .val (.int p4), .val (.int p5), .val (.int p6), .val (.int (2 : Int32)), .val (.int (0 : Int32)), .val (.ref b19), .val (.ref b22), .val (.int (0 : Int32)), .val (.int (0 : Int32)), .unset] [(.int p2), (.ref b22)])
          refine Go.st (fun t k => XS.sipush X28.here hx rfl (hb hby at_120) k) ?_
          show Go _ _ _ _ T28 (mkF m 123 #[.val (.int p1), .val (.int p2), .val (.int p3), .val (.int p4), .val (.int p5), .val (.int p6), .val (.int (2 : Int32)), .val (.int (0 : Int32)), .val (.ref b19), .val (.ref b22), .val (.int (0 : Int32)), .val (.int (0 : Int32)), .unset] [(.int (255 : Int32)), (.int p2), (.ref b22)])
          refine Go.st (fun t k => XS.iand X28.here hx rfl (hb hby at_123) rfl k) ?_
          show Go _ _ _ _ T28 (mkF m 124 #[.val (.int p1), .val (.int p2), .val (.int p3), .val (.int p4), .val (.int p5), .val (.int p6), .val (.int (2 : Int32)), .val (.int (0 : Int32)), .val (.ref b19), .val (.ref b22), .val (.int (0 : Int32)), .val (.int (0 : Int32)), .unset] [(.int (p2 &&& (255 : Int32))), (.ref b22)])
          refine goM X28 hx hZ (y := (⟨"com/example/vetter/vetter/io/DerReader", "read", "(I)[B"⟩ : MethodName)) (z := (⟨"com/example/vetter/vetter/io/DerReader", "read", "(I)[B"⟩ : MethodName)) hown (hw _ (List.mem_of_getElem? (i := 19) rfl)) (hw _ (List.mem_of_getElem? (i := 20) rfl)) (hw _ (List.mem_of_getElem? (i := 22) rfl)) (hw _ (List.mem_of_getElem? (i := 21) rfl)) (hw _ (List.mem_of_getElem? (i := 23) rfl)) (hw _ (List.mem_of_getElem? (i := 3) rfl)) (notFace_of_selects (args := #[]) (mvT hZ (hw _ (List.mem_of_getElem? (i := 22) rfl)))) (by decide) (rm4 l Z a0 hw b22 (p2 &&& (255 : Int32)) T23.heap n0 Z23 b19 2 _ (2 : Int32) (0 : Int32) (2 : Int32) ((p2.toInt8.toInt32).toInt8.toInt32) (by simp [own_K]) E_b22 F_data_b22 V_b19 g_b22 ne_b19_b22 F_position_b22 rfl (own_m p2) rfl (fun i hi => by rcases own_lt2 hi with rfl | rfl <;> exact fits_nar_byte _)) e28 N28 E_b22 0 (by decide) (by decide) (by decide) (by decide) (g := (mkF m 124 #[.val (.int p1), .val (.int p2), .val (.int p3), .val (.int p4), .val (.int p5), .val (.int p6), .val (.int (2 : Int32)), .val (.int (0 : Int32)), .val (.ref b19), .val (.ref b22), .val (.int (0 : Int32)), .val (.int (0 : Int32)), .unset] [(.int (p2 &&& (255 : Int32))), (.ref b22)])) rfl (by rw [hml]; rfl) [(.int (p2 &&& (255 : Int32)))] [] (lenOf pd0_2 rfl) rfl rfl (by show 2 * 0 + _ ≤ _; exact Nat.le_of_eq rfl) (hb hby at_124) ?_
          intro T29 v29 L29 M29 X29 N29 hq29
          obtain ⟨⟨r29, rfl⟩, N29q, K29, E_b22, F_data_b22, F_position_b22⟩ := hq29
          replace N29 := N29 N29q
          have Z29 := Nat.le_trans Z23 K29.1
          have V_b19 := V_b19.keep K29 (ninS ne_b19_b22 nin0)
          show Go _ _ _ _ T29 (mkF m 127 #[.val (.int p1), .val (.int p2), .val (.int p3), .val (.int p4), .val (.int p5), .val (.int p6), .val (.int (2 : Int32)), .val (.int (0 : Int32)), .val (.ref b19), .val (.ref b22), .val (.int (0 : Int32)), .val (.int (0 : Int32)), .unset] [(.ref r29)])
          refine Go.st (fun t k => XS.pop X29.here hx rfl (hb hby at_127) rfl rfl k) ?_
          show Go _ _ _ _ T29 (mkF m 128 #[.val (.int p1), .val (.int p2), .val (.int p3), .val (.int p4), .val (.int p5), .val (.int p6), .val (.int (2 : Int32)), .val (.int (0 : Int32)), .val (.ref b19), .val (.ref b22), .val (.int (0 : Int32)), .val (.int (0 : Int32)), .unset] [])
          refine Go.st (fun t k => XS.iconst X29.here hx rfl (hb hby at_128) k) ?_
          show Go _ _ _ _ T29 (mkF m 129 #[.val (.int p1), .val (.int p2), .val (.int p3), .val (.int p4), .val (.int p5), .val (.int p6), .val (.int (2 : Int32)), .val (.int (0 : Int32)), .val (.ref b19), .val (.ref b22), .val (.int (0 : Int32)), .val (.int (0 : Int32)), .unset] [(.int (2 : Int32))])
          refine Go.st (fun t k => XS.iload X29.here hx rfl (hb hby at_129) rfl k) ?_
          show Go _ _ _ _ T29 (mkF m 131 #[.val (.int p1), .val (.int p2), .val (.int p3), .val (.int p4), .val (.int p5), .val (.int p6), .val (.int (2 : Int32)), .val (.int (0 : Int32)), .val (.ref b19), .val (.ref b22), .val (.int (0 : Int32)), .val (.int (0 : Int32)), .unset] [(.int (0 : Int32)), (.int (2 : Int32))])
          refine Go.st (fun t k => XS.iadd X29.here hx rfl (hb hby at_131) rfl k) ?_
          show Go _ _ _ _ T29 (mkF m 132 #[.val (.int p1), .val (.int p2), .val (.int p3), .val (.int p4), .val (.int p5), .val (.int p6), .val (.int (2 : Int32)), .val (.int (0 : Int32)), .val (.ref b19), .val (.ref b22), .val (.int (0 : Int32)), .val (.int (0 : Int32)), .unset] [(.int (2 : Int32))])
          refine Go.st (fun t k => XS.istore X29.here hx rfl (hb hby at_132) rfl (l' := #[.val (.int p1), .val (.int p2), .val (.int p3), .val (.int p4), .val (.int p5), .val (.int p6), .val (.int (2 : Int32)), .val (.int (0 : Int32)), .val (.ref b19), .val (.ref b22), .val (.int (0 : Int32)), .val (.int (2 : Int32)), .unset]) rfl k) ?_
          show Go _ _ _ _ T29 (mkF m 134 #[.val (.int p1), .val (.int p2), .val (.int p3), .val (.int p4), .val (.int p5), .val (.int p6), .val (.int (2 : Int32)), .val (.int (0 : Int32)), .val (.ref b19), .val (.ref b22), .val (.int (0 : Int32)), .val (.int (2 : Int32)), .unset] [])
          refine Go.st (fun t k => XS.iload X29.here hx rfl (hb hby at_134) rfl k) ?_
          show Go _ _ _ _ T29 (mkF m 136 #[.val (.int p1), .val (.int p2), .val (.int p3), .val (.int p4), .val (.int p5), .val (.int p6), .val (.int (2 : Int32)), .val (.int (0 : Int32)), .val (.ref b19), .val (.ref b22), .val (.int (0 : Int32)), .val (.int (2 : Int32)), .unset] [(.int (2 : Int32))])
          refine Go.st (fun t k => XS.iload X29.here hx rfl (hb hby at_136) rfl k) ?_
          show Go _ _ _ _ T29 (mkF m 138 #[.val (.int p1), .val (.int p2), .val (.int p3), .val (.int p4), .val (.int p5), .val (.int p6), .val (.int (2 : Int32)), .val (.int (0 : Int32)), .val (.ref b19), .val (.ref b22), .val (.int (0 : Int32)), .val (.int (2 : Int32)), .unset] [(.int (2 : Int32)), (.int (2 : Int32))])
          refine Go.st (fun t k => XS.icmpNo X29.here hx rfl (hb hby at_138) rfl (by decide) k) ?_
          show Go _ _ _ _ T29 (mkF m 141 #[.val (.int p1), .val (.int p2), .val (.int p3), .val (.int p4), .val (.int p5), .val (.int p6), .val (.int (2 : Int32)), .val (.int (0 : Int32)), .val (.ref b19), .val (.ref b22), .val (.int (0 : Int32)), .val (.int (2 : Int32)), .unset] [])
          refine Go.st (fun t k => XS.iconst X29.here hx rfl (hb hby at_141) k) ?_
          show Go _ _ _ _ T29 (mkF m 142 #[.val (.int p1), .val (.int p2), .val (.int p3), .val (.int p4), .val (.int p5), .val (.int p6), .val (.int (2 : Int32)), .val (.int (0 : Int32)), .val (.ref b19), .val (.ref b22), .val (.int (0 : Int32)), .val (.int (2 : Int32)), .unset] [(.int (0 : Int32))])
          refine Go.st (fun t k => XS.istore X29.here hx rfl (hb hby at_142) rfl (l' := #[.val (.int p1), .val (.int p2), .val (.int p3), .val (.int p4), .val (.int p5), .val (.int p6), .val (.int (2 : Int32)), .val (.int (0 : Int32)), .val (.ref b19), .val (.ref b22), .val (.int (0 : Int32)), .val (.int (2 : Int32)), .val (.int (0 : Int32))]) rfl k) ?_
          show Go _ _ _ _ T29 (mkF m 144 #[.val (.int p1), .val (.int p2), .val (.int p3), .val (.int p4), .val (.int p5), .val (.int p6), .val (.int (2 : Int32)), .val (.int (0 : Int32)), .val (.ref b19), .val (.ref b22), .val (.int (0 : Int32)), .val (.int (2 : Int32)), .val (.int (0 : Int32))] [])
          refine Go.st (fun t k => XS.goto X29.here hx rfl (pc0 := 144) (pc' := 189) rfl (hb hby at_144) (by decide) (by decide) k) ?_
          show Go _ _ _ _ T29 (mkF m 189 #[.val (.int p1), .val (.int p2), .val (.int p3), .val (.int p4), .val (.int p5), .val (.int p6), .val (.int (2 : Int32)), .val (.int (0 : Int32)), .val (.ref b19), .val (.ref b22), .val (.int (0 : Int32)), .val (.int (2 : Int32)), .val (.int (0 : Int32))] [])
          refine Go.st (fun t k => XS.aload X29.here hx rfl (hb hby at_189) rfl rfl k) ?_
          show Go _ _ _ _ T29 (mkF m 191 #[.val (.int p1), .val (.int p2), .val (.int p3), .val (.int p4), .val (.int p5), .val (.int p6), .val (.int (2 : Int32)), .val (.int (0 : Int32)), .val (.ref b19), .val (.ref b22), .val (.int (0 : Int32)), .val (.int (2 : Int32)), .val (.int (0 : Int32))] [(.ref b22)])
          refine Go.st (fun t k => XS.iload X29.here hx rfl (hb hby at_191) rfl k) ?_
          show Go _ _ _ _ T29 (mkF m 193 #[.val (.int p1), .val (.int p2), .val (.int p3), .val (.int p4), .val (.int p5), .val (.int p6), .val (.int (2 : Int32)), .val (.int (0 : Int32)), .val (.ref b19), .val (.ref b22), .val (.int (0 : Int32)), .val (.int (2 : Int32)), .val (.int (0 : Int32))] [(.int p6), (.ref b22)])
          refine goM X29 hx hZ (y := (⟨"com/example/vetter/vetter/io/DerReader", "nextIs", "(I)Z"⟩ : MethodName)) (z := (⟨"com/example/vetter/vetter/io/DerReader", "nextIs", "(I)Z"⟩ : MethodName)) hown (hw _ (List.mem_of_getElem? (i := 12) rfl)) (hw _ (List.mem_of_getElem? (i := 13) rfl)) (hw _ (List.mem_of_getElem? (i := 15) rfl)) (hw _ (List.mem_of_getElem? (i := 14) rfl)) (hw _ (List.mem_of_getElem? (i := 16) rfl)) (hw _ (List.mem_of_getElem? (i := 3) rfl)) (notFace_of_selects (args := #[]) (mvT hZ (hw _ (List.mem_of_getElem? (i := 15) rfl)))) (by decide) (rm3 l Z a0 hw b22 p6 T29.heap n0 Z29 (2 : Int32) b19 2 _ (2 : Int32) ((p4.toInt8.toInt32).toInt8.toInt32) F_position_b22 F_data_b22 V_b19 rfl (fun q => absurd q (by decide))) rfl N29 E_b22 0 (by decide) (by decide) (by decide) (by decide) (g := (mkF m 193 #[.val (.int p1), .val (.int p2), .val (.int p3), .val (.int p4), .val (.int p5), .val (.int p6), .val (.int (2 : Int32)), .val (.int (0 : Int32)), .val (.ref b19), .val (.ref b22), .val (.int (0 : Int32)), .val (.int (2 : Int32)), .val (.int (0 : Int32))] [(.int p6), (.ref b22)])) rfl (by rw [hml]; rfl) [(.int p6)] [] (lenOf pd0_1 rfl) rfl rfl (by show 2 * 0 + _ ≤ _; exact Nat.le_of_eq rfl) (hb hby at_193) ?_
          intro T30 v30 L30 M30 X30 N30 hq30
          obtain ⟨hq30, N30q, e30⟩ := hq30
          replace N30 := N30 N30q
          rcases hq30 with ⟨hA30, hB30, rfl⟩ | ⟨hr30, rfl⟩
          ·
            exact absurd hA30 (by decide)
          ·
            show Go _ _ _ _ T30 (mkF m 196 #[.val (.int p1), .val (.int p2), .val (.int p3), .val (.int p4), .val (.int p5), .val (.int p6), .val (.int (2 : Int32)), .val (.int (0 : Int32)), .val (.ref b19), .val (.ref b22), .val (.int (0 : Int32)), .val (.int (2 : Int32)), .val (.int (0 : Int32))] [(.int (0 : Int32))])
            refine Go.st (fun t k => XS.iload X30.here hx rfl (hb hby at_196) rfl k) ?_
            show Go _ _ _ _ T30 (mkF m 198 #[.val (.int p1), .val (.int p2), .val (.int p3), .val (.int p4), .val (.int p5), .val (.int p6), .val (.int (2 : Int32)), .val (.int (0 : Int32)), .val (.ref b19), .val (.ref b22), .val (.int (0 : Int32)), .val (.int (2 : Int32)), .val (.int (0 : Int32))] [(.int (0 : Int32)), (.int (0 : Int32))])
            refine Go.st (fun t k => XS.icmpNo X30.here hx rfl (hb hby at_198) rfl (by decide) k) ?_
            show Go _ _ _ _ T30 (mkF m 201 #[.val (.int p1), .val (.int p2), .val (.int p3), .val (.int p4), .val (.int p5), .val (.int p6), .val (.int (2 : Int32)), .val (.int (0 : Int32)), .val (.ref b19), .val (.ref b22), .val (.int (0 : Int32)), .val (.int (2 : Int32)), .val (.int (0 : Int32))] [])
            refine Go.st (fun t k => XS.iconst X30.here hx rfl (hb hby at_201) k) ?_
            show Go _ _ _ _ T30 (mkF m 202 #[.val (.int p1), .val (.int p2), .val (.int p3), .val (.int p4), .val (.int p5), .val (.int p6), .val (.int (2 : Int32)), .val (.int (0 : Int32)), .val (.ref b19), .val (.ref b22), .val (.int (0 : Int32)), .val (.int (2 : Int32)), .val (.int (0 : Int32))] [(.int (1 : Int32))])
            refine Go.st (fun t k => XS.goto X30.here hx rfl (pc0 := 202) (pc' := 206) rfl (hb hby at_202) (by decide) (by decide) k) ?_
            show Go _ _ _ _ T30 (mkF m 206 #[.val (.int p1), .val (.int p2), .val (.int p3), .val (.int p4), .val (.int p5), .val (.int p6), .val (.int (2 : Int32)), .val (.int (0 : Int32)), .val (.ref b19), .val (.ref b22), .val (.int (0 : Int32)), .val (.int (2 : Int32)), .val (.int (0 : Int32))] [(.int (1 : Int32))])
            exact goN X30 hx hret hlk (by simp) (hb hby at_206) (by decide) (by decide) ⟨rfl, N30⟩
    ·
      show Go _ _ _ _ T0 (mkF m 10 #[.val (.int p1), .val (.int p2), .val (.int p3), .val (.int p4), .val (.int p5), .val (.int p6), .val (.int (2 : Int32)), .val (.int (1 : Int32)), .unset, .unset, .unset, .unset, .unset] [])
      show Go _ _ _ _ T0 (mkF m 10 #[.val (.int p1), .val (.int p2), .val (.int p3), .val (.int p4), .val (.int p5), .val (.int p6), .val (.int (2 : Int32)), .val (.int (1 : Int32)), .unset, .unset, .unset, .unset, .unset] [])
      refine Go.st (fun t k => XS.iload X0.here hx rfl (hb hby at_10) rfl k) ?_
      show Go _ _ _ _ T0 (mkF m 12 #[.val (.int p1), .val (.int p2), .val (.int p3), .val (.int p4), .val (.int p5), .val (.int p6), .val (.int (2 : Int32)), .val (.int (1 : Int32)), .unset, .unset, .unset, .unset, .unset] [(.int (2 : Int32))])
      refine goNew X0 hx hZ (hw _ (List.mem_of_getElem? (i := 0) rfl)) e0 Z0 (by decide) (show Int32.toNatClampNeg (2 : Int32) = 2 from rfl) 2 (by decide) (by decide) (by decide) (by decide) (g := (mkF m 12 #[.val (.int p1), .val (.int p2), .val (.int p3), .val (.int p4), .val (.int p5), .val (.int p6), .val (.int (2 : Int32)), .val (.int (1 : Int32)), .unset, .unset, .unset, .unset, .unset] [(.int (2 : Int32))])) rfl rfl (hb hby at_12) ?_
      intro T31 h31 b31 X31 e31 E31 qz31 g_b31 Z31 V_b31
      replace V_b31 : BA Z h31 b31 .byte 2 (fun _ => (.int (0 : Int32))) := V_b31
      show Go _ _ _ _ T31 (mkF m 14 #[.val (.int p1), .val (.int p2), .val (.int p3), .val (.int p4), .val (.int p5), .val (.int p6), .val (.int (2 : Int32)), .val (.int (1 : Int32)), .unset, .unset, .unset, .unset, .unset] [(.ref b31)])
      refine Go.st (fun t k => XS.astore X31.here hx rfl (hb hby at_14) rfl rfl (l' := #[.val (.int p1), .val (.int p2), .val (.int p3), .val (.int p4), .val (.int p5), .val (.int p6), .val (.int (2 : Int32)), .val (.int (1 : Int32)), .val (.ref b31), .unset, .unset, .unset, .unset]) rfl k) ?_
      show Go _ _ _ _ T31 (mkF m 16 #[.val (.int p1), .val (.int p2), .val (.int p3), .val (.int p4), .val (.int p5), .val (.int p6), .val (.int (2 : Int32)), .val (.int (1 : Int32)), .val (.ref b31), .unset, .unset, .unset, .unset] [])
      refine Go.st (fun t k => XS.iload X31.here hx rfl (hb hby at_16) rfl k) ?_
      show Go _ _ _ _ T31 (mkF m 18 #[.val (.int p1), .val (.int p2), .val (.int p3), .val (.int p4), .val (.int p5), .val (.int p6), .val (.int (2 : Int32)), .val (.int (1 : Int32)), .val (.ref b31), .unset, .unset, .unset, .unset] [(.int (2 : Int32))])
      refine Go.st (fun t k => XS.ifNo X31.here hx rfl (hb hby at_18) rfl (by decide) k) ?_
      show Go _ _ _ _ T31 (mkF m 21 #[.val (.int p1), .val (.int p2), .val (.int p3), .val (.int p4), .val (.int p5), .val (.int p6), .val (.int (2 : Int32)), .val (.int (1 : Int32)), .val (.ref b31), .unset, .unset, .unset, .unset] [])
      refine Go.st (fun t k => XS.aload X31.here hx rfl (hb hby at_21) rfl rfl k) ?_
      show Go _ _ _ _ T31 (mkF m 23 #[.val (.int p1), .val (.int p2), .val (.int p3), .val (.int p4), .val (.int p5), .val (.int p6), .val (.int (2 : Int32)), .val (.int (1 : Int32)), .val (.ref b31), .unset, .unset, .unset, .unset] [(.ref b31)])
      refine Go.st (fun t k => XS.iconst X31.here hx rfl (hb hby at_23) k) ?_
      show Go _ _ _ _ T31 (mkF m 24 #[.val (.int p1), .val (.int p2), .val (.int p3), .val (.int p4), .val (.int p5), .val (.int p6), .val (.int (2 : Int32)), .val (.int (1 : Int32)), .val (.ref b31), .unset, .unset, .unset, .unset] [(.int (0 : Int32)), (.ref b31)])
      refine Go.st (fun t k => XS.iloadN X31.here hx rfl (hb hby at_24) rfl k) ?_
      show Go _ _ _ _ T31 (mkF m 25 #[.val (.int p1), .val (.int p2), .val (.int p3), .val (.int p4), .val (.int p5), .val (.int p6), .val (.int (2 : Int32)), .val (.int (1 : Int32)), .val (.ref b31), .unset, .unset, .unset, .unset] [(.int p2), (.int (0 : Int32)), (.ref b31)])
      refine Go.st (fun t k => XS.i2b X31.here hx rfl (hb hby at_25) rfl k) ?_
      show Go _ _ _ _ T31 (mkF m 26 #[.val (.int p1), .val (.int p2), .val (.int p3), .val (.int p4), .val (.int p5), .val (.int p6), .val (.int (2 : Int32)), .val (.int (1 : Int32)), .val (.ref b31), .unset, .unset, .unset, .unset] [(.int (p2.toInt8.toInt32)), (.int (0 : Int32)), (.ref b31)])
      refine goStB X31 hx hZ e31 N0 V_b31 g_b31 (g := (mkF m 26 #[.val (.int p1), .val (.int p2), .val (.int p3), .val (.int p4), .val (.int p5), .val (.int p6), .val (.int (2 : Int32)), .val (.int (1 : Int32)), .val (.ref b31), .unset, .unset, .unset, .unset] [(.int (p2.toInt8.toInt32)), (.int (0 : Int32)), (.ref b31)])) rfl rfl (hb hby at_26) (k := 0) ⟨by decide, rfl, by decide⟩ ?_
      intro T32 h32 L32 X32 e32 N32 W32 V_b31
      have Z32 := own_sz W32 Z31
      show Go _ _ _ _ T32 (mkF m 27 #[.val (.int p1), .val (.int p2), .val (.int p3), .val (.int p4), .val (.int p5), .val (.int p6), .val (.int (2 : Int32)), .val (.int (1 : Int32)), .val (.ref b31), .unset, .unset, .unset, .unset] [])
      refine Go.st (fun t k => XS.iload X32.here hx rfl (hb hby at_27) rfl k) ?_
      show Go _ _ _ _ T32 (mkF m 29 #[.val (.int p1), .val (.int p2), .val (.int p3), .val (.int p4), .val (.int p5), .val (.int p6), .val (.int (2 : Int32)), .val (.int (1 : Int32)), .val (.ref b31), .unset, .unset, .unset, .unset] [(.int (2 : Int32))])
      refine Go.st (fun t k => XS.iconst X32.here hx rfl (hb hby at_29) k) ?_
      show Go _ _ _ _ T32 (mkF m 30 #[.val (.int p1), .val (.int p2), .val (.int p3), .val (.int p4), .val (.int p5), .val (.int p6), .val (.int (2 : Int32)), .val (.int (1 : Int32)), .val (.ref b31), .unset, .unset, .unset, .unset] [(.int (1 : Int32)), (.int (2 : Int32))])
      refine Go.st (fun t k => XS.icmpNo X32.here hx rfl (hb hby at_30) rfl (by decide) k) ?_
      show Go _ _ _ _ T32 (mkF m 33 #[.val (.int p1), .val (.int p2), .val (.int p3), .val (.int p4), .val (.int p5), .val (.int p6), .val (.int (2 : Int32)), .val (.int (1 : Int32)), .val (.ref b31), .unset, .unset, .unset, .unset] [])
      refine Go.st (fun t k => XS.aload X32.here hx rfl (hb hby at_33) rfl rfl k) ?_
      show Go _ _ _ _ T32 (mkF m 35 #[.val (.int p1), .val (.int p2), .val (.int p3), .val (.int p4), .val (.int p5), .val (.int p6), .val (.int (2 : Int32)), .val (.int (1 : Int32)), .val (.ref b31), .unset, .unset, .unset, .unset] [(.ref b31)])
      refine Go.st (fun t k => XS.iconst X32.here hx rfl (hb hby at_35) k) ?_
      show Go _ _ _ _ T32 (mkF m 36 #[.val (.int p1), .val (.int p2), .val (.int p3), .val (.int p4), .val (.int p5), .val (.int p6), .val (.int (2 : Int32)), .val (.int (1 : Int32)), .val (.ref b31), .unset, .unset, .unset, .unset] [(.int (1 : Int32)), (.ref b31)])
      refine Go.st (fun t k => XS.iload X32.here hx rfl (hb hby at_36) rfl k) ?_
      show Go _ _ _ _ T32 (mkF m 38 #[.val (.int p1), .val (.int p2), .val (.int p3), .val (.int p4), .val (.int p5), .val (.int p6), .val (.int (2 : Int32)), .val (.int (1 : Int32)), .val (.ref b31), .unset, .unset, .unset, .unset] [(.int (1 : Int32)), (.int (1 : Int32)), (.ref b31)])
      refine Go.st (fun t k => XS.i2b X32.here hx rfl (hb hby at_38) rfl k) ?_
      show Go _ _ _ _ T32 (mkF m 39 #[.val (.int p1), .val (.int p2), .val (.int p3), .val (.int p4), .val (.int p5), .val (.int p6), .val (.int (2 : Int32)), .val (.int (1 : Int32)), .val (.ref b31), .unset, .unset, .unset, .unset] [(.int ((1 : Int32).toInt8.toInt32)), (.int (1 : Int32)), (.ref b31)])
      refine goStB X32 hx hZ e32 N32 V_b31 g_b31 (g := (mkF m 39 #[.val (.int p1), .val (.int p2), .val (.int p3), .val (.int p4), .val (.int p5), .val (.int p6), .val (.int (2 : Int32)), .val (.int (1 : Int32)), .val (.ref b31), .unset, .unset, .unset, .unset] [(.int ((1 : Int32).toInt8.toInt32)), (.int (1 : Int32)), (.ref b31)])) rfl rfl (hb hby at_39) (k := 1) ⟨by decide, rfl, by decide⟩ ?_
      intro T33 h33 L33 X33 e33 N33 W33 V_b31
      have Z33 := own_sz W33 Z32
      show Go _ _ _ _ T33 (mkF m 40 #[.val (.int p1), .val (.int p2), .val (.int p3), .val (.int p4), .val (.int p5), .val (.int p6), .val (.int (2 : Int32)), .val (.int (1 : Int32)), .val (.ref b31), .unset, .unset, .unset, .unset] [])
      refine Go.st (fun t k => XS.iload X33.here hx rfl (hb hby at_40) rfl k) ?_
      show Go _ _ _ _ T33 (mkF m 42 #[.val (.int p1), .val (.int p2), .val (.int p3), .val (.int p4), .val (.int p5), .val (.int p6), .val (.int (2 : Int32)), .val (.int (1 : Int32)), .val (.ref b31), .unset, .unset, .unset, .unset] [(.int (2 : Int32))])
      refine Go.st (fun t k => XS.iconst X33.here hx rfl (hb hby at_42) k) ?_
      show Go _ _ _ _ T33 (mkF m 43 #[.val (.int p1), .val (.int p2), .val (.int p3), .val (.int p4), .val (.int p5), .val (.int p6), .val (.int (2 : Int32)), .val (.int (1 : Int32)), .val (.ref b31), .unset, .unset, .unset, .unset] [(.int (2 : Int32)), (.int (2 : Int32))])
      refine Go.st (fun t k => XS.icmpYes X33.here hx rfl (pc0 := 43) (pc' := 52) rfl (hb hby at_43) rfl (by decide) (by decide) (by decide) k) ?_
      show Go _ _ _ _ T33 (mkF m 52 #[.val (.int p1), .val (.int p2), .val (.int p3), .val (.int p4), .val (.int p5), .val (.int p6), .val (.int (2 : Int32)), .val (.int (1 : Int32)), .val (.ref b31), .unset, .unset, .unset, .unset] [])
      obtain ⟨T34, h34, X34, e34, E34, A34, D34, -, st34⟩ := newO X33 hx hZ hown (hw _ (List.mem_of_getElem? (i := 1) rfl)) (hw _ (List.mem_of_getElem? (i := 2) rfl)) (hw _ (List.mem_of_getElem? (i := 3) rfl)) e33 (g := (mkF m 52 #[.val (.int p1), .val (.int p2), .val (.int p3), .val (.int p4), .val (.int p5), .val (.int p6), .val (.int (2 : Int32)), .val (.int (1 : Int32)), .val (.ref b31), .unset, .unset, .unset, .unset] [])) rfl (hb hby at_52) (by decide) (by decide)
      obtain ⟨b34, qz34⟩ : ∃ z, z = h33.size := ⟨_, rfl⟩
      rw [← qz34] at A34 D34 st34
      have g_b34 : n0 ≤ b34 := Nat.le_trans Z33 (Nat.le_of_eq qz34.symm)
      have Z34 := Nat.le_trans Z33 E34.1
      have ne_b31_b34 : b31 ≠ b34 := fun z => absurd V_b31.lt (by rw [z, qz34]; exact Nat.lt_irrefl _)
      have V_b31 := V_b31.ext E34
      have E_b34 := A34
      have F_data_b34 : Fld Z h34 b34 "com/example/vetter/vetter/io/DerReader" "data" "[B" .null := D34 (Or.inr (hw _ (List.mem_of_getElem? (i := 11) rfl))) (ty := (.array .byte)) (by decide)
      have F_position_b34 : Fld Z h34 b34 "com/example/vetter/vetter/io/DerReader" "position" "I" (.int (0 : Int32)) := D34 (Or.inl (hw _ (List.mem_of_getElem? (i := 18) rfl))) (ty := .int) (by decide)
      refine Go.st st34 ?_
      show Go _ _ _ _ T34 (mkF m 55 #[.val (.int p1), .val (.int p2), .val (.int p3), .val (.int p4), .val (.int p5), .val (.int p6), .val (.int (2 : Int32)), .val (.int (1 : Int32)), .val (.ref b31), .unset, .unset, .unset, .unset] [(.ref b34)])
      refine Go.st (fun t k => XS.dup X34.here hx rfl (hb hby at_55) rfl rfl k) ?_
      show Go _ _ _ _ T34 (mkF m 56 #[.val (.int p1), .val (.int p2), .val (.int p3), .val (.int p4), .val (.int p5), .val (.int p6), .val (.int (2 : Int32)), .val (.int (1 : Int32)), .val (.ref b31), .unset, .unset, .unset, .unset] [(.ref b34), (.ref b34)])
      refine Go.st (fun t k => XS.aload X34.here hx rfl (hb hby at_56) rfl rfl k) ?_
      show Go _ _ _ _ T34 (mkF m 58 #[.val (.int p1), .val (.int p2), .val (.int p3), .val (.int p4), .val (.int p5), .val (.int p6), .val (.int (2 : Int32)), .val (.int (1 : Int32)), .val (.ref b31), .unset, .unset, .unset, .unset] [(.ref b31), (.ref b34), (.ref b34)])
      refine goC X34 hx hZ (y := (⟨"com/example/vetter/vetter/io/DerReader", "<init>", "([B)V"⟩ : MethodName)) rfl hown (hw _ (List.mem_of_getElem? (i := 4) rfl)) (hw _ (List.mem_of_getElem? (i := 5) rfl)) (hw _ (List.mem_of_getElem? (i := 3) rfl)) (hw _ (List.mem_of_getElem? (i := 6) rfl)) (by decide) (rm1 l Z a0 hw b34 b31 h34 n0 Z34 E_b34 F_data_b34 F_position_b34 g_b34) e34 N33 1 (by decide) (by decide) (by decide) (by decide) (g := (mkF m 58 #[.val (.int p1), .val (.int p2), .val (.int p3), .val (.int p4), .val (.int p5), .val (.int p6), .val (.int (2 : Int32)), .val (.int (1 : Int32)), .val (.ref b31), .unset, .unset, .unset, .unset] [(.ref b31), (.ref b34), (.ref b34)])) rfl (by rw [hml]; rfl) [(.ref b31)] [(.ref b34)] (lenOf pd0_0 rfl) rfl rfl (by show 2 * 0 + _ ≤ _; exact Nat.le_of_eq rfl) (hb hby at_58) ?_
      intro T35 v35 L35 M35 X35 N35 hq35
      obtain ⟨rfl, N35q, K35, E_b34, F_data_b34, F_position_b34⟩ := hq35
      replace N35 := N35 N35q
      have Z35 := Nat.le_trans Z34 K35.1
      have V_b31 := V_b31.keep K35 (ninS ne_b31_b34 nin0)
      show Go _ _ _ _ T35 (mkF m 61 #[.val (.int p1), .val (.int p2), .val (.int p3), .val (.int p4), .val (.int p5), .val (.int p6), .val (.int (2 : Int32)), .val (.int (1 : Int32)), .val (.ref b31), .unset, .unset, .unset, .unset] [(.ref b34)])
      refine Go.st (fun t k => XS.astore X35.here hx rfl (hb hby at_61) rfl rfl (l' := #[.val (.int p1), .val (.int p2), .val (.int p3), .val (.int p4), .val (.int p5), .val (.int p6), .val (.int (2 : Int32)), .val (.int (1 : Int32)), .val (.ref b31), .val (.ref b34), .unset, .unset, .unset]) rfl k) ?_
      show Go _ _ _ _ T35 (mkF m 63 #[.val (.int p1), .val (.int p2), .val (.int p3), .val (.int p4), .val (.int p5), .val (.int p6), .val (.int (2 : Int32)), .val (.int (1 : Int32)), .val (.ref b31), .val (.ref b34), .unset, .unset, .unset] [])
      refine Go.st (fun t k => XS.iload X35.here hx rfl (hb hby at_63) rfl k) ?_
      show Go _ _ _ _ T35 (mkF m 65 #[.val (.int p1), .val (.int p2), .val (.int p3), .val (.int p4), .val (.int p5), .val (.int p6), .val (.int (2 : Int32)), .val (.int (1 : Int32)), .val (.ref b31), .val (.ref b34), .unset, .unset, .unset] [(.int (2 : Int32))])
      refine Go.st (fun t k => XS.ifNo X35.here hx rfl (hb hby at_65) rfl (by decide) k) ?_
      show Go _ _ _ _ T35 (mkF m 68 #[.val (.int p1), .val (.int p2), .val (.int p3), .val (.int p4), .val (.int p5), .val (.int p6), .val (.int (2 : Int32)), .val (.int (1 : Int32)), .val (.ref b31), .val (.ref b34), .unset, .unset, .unset] [])
      refine Go.st (fun t k => XS.iloadN X35.here hx rfl (hb hby at_68) rfl k) ?_
      show Go _ _ _ _ T35 (mkF m 69 #[.val (.int p1), .val (.int p2), .val (.int p3), .val (.int p4), .val (.int p5), .val (.int p6), .val (.int (2 : Int32)), .val (.int (1 : Int32)), .val (.ref b31), .val (.ref b34), .unset, .unset, .unset] [(.int p2)])
      refine Go.st (fun t k => XS.sipush X35.here hx rfl (hb hby at_69) k) ?_
      show Go _ _ _ _ T35 (mkF m 72 #[.val (.int p1), .val (.int p2), .val (.int p3), .val (.int p4), .val (.int p5), .val (.int p6), .val (.int (2 : Int32)), .val (.int (1 : Int32)), .val (.ref b31), .val (.ref b34), .unset, .unset, .unset] [(.int (255 : Int32)), (.int p2)])
      refine Go.st (fun t k => XS.iand X35.here hx rfl (hb hby at_72) rfl k) ?_
      show Go _ _ _ _ T35 (mkF m 73 #[.val (.int p1), .val (.int p2), .val (.int p3), .val (.int p4), .val (.int p5), .val (.int p6), .val (.int (2 : Int32)), .val (.int (1 : Int32)), .val (.ref b31), .val (.ref b34), .unset, .unset, .unset] [(.int (p2 &&& (255 : Int32)))])
      refine Go.st (fun t k => XS.iload X35.here hx rfl (hb hby at_73) rfl k) ?_
      show Go _ _ _ _ T35 (mkF m 75 #[.val (.int p1), .val (.int p2), .val (.int p3), .val (.int p4), .val (.int p5), .val (.int p6), .val (.int (2 : Int32)), .val (.int (1 : Int32)), .val (.ref b31), .val (.ref b34), .unset, .unset, .unset] [(.int p5), (.int (p2 &&& (255 : Int32)))])
      by_cases hE1 : (p2 &&& (255 : Int32)) = p5
      ·
        refine Go.st (fun t k => XS.icmpNo X35.here hx rfl (hb hby at_75) rfl (teq hE1).2 k) ?_
        show Go _ _ _ _ T35 (mkF m 78 #[.val (.int p1), .val (.int p2), .val (.int p3), .val (.int p4), .val (.int p5), .val (.int p6), .val (.int (2 : Int32)), .val (.int (1 : Int32)), .val (.ref b31), .val (.ref b34), .unset, .unset, .unset] [])
        refine Go.st (fun t k => XS.iconst X35.here hx rfl (hb hby at_78) k) ?_
        show Go _ _ _ _ T35 (mkF m 79 #[.val (.int p1), .val (.int p2), .val (.int p3), .val (.int p4), .val (.int p5), .val (.int p6), .val (.int (2 : Int32)), .val (.int (1 : Int32)), .val (.ref b31), .val (.ref b34), .unset, .unset, .unset] [(.int (1 : Int32))])
        refine Go.st (fun t k => XS.goto X35.here hx rfl (pc0 := 79) (pc' := 83) rfl (hb hby at_79) (by decide) (by decide) k) ?_
        show Go _ _ _ _ T35 (mkF m 83 #[.val (.int p1), .val (.int p2), .val (.int p3), .val (.int p4), .val (.int p5), .val (.int p6), .val (.int (2 : Int32)), .val (.int (1 : Int32)), .val (.ref b31), .val (.ref b34), .unset, .unset, .unset] [(.int (1 : Int32))])
        refine Go.st (fun t k => XS.istore X35.here hx rfl (hb hby at_83) rfl (l' := #[.val (.int p1), .val (.int p2), .val (.int p3), .val (.int p4), .val (.int p5), .val (.int p6), .val (.int (2 : Int32)), .val (.int (1 : Int32)), .val (.ref b31), .val (.ref b34), .val (.int (1 : Int32)), .unset, .unset]) rfl k) ?_
        show Go _ _ _ _ T35 (mkF m 85 #[.val (.int p1), .val (.int p2), .val (.int p3), .val (.int p4), .val (.int p5), .val (.int p6), .val (.int (2 : Int32)), .val (.int (1 : Int32)), .val (.ref b31), .val (.ref b34), .val (.int (1 : Int32)), .unset, .unset] [])
        refine Go.st (fun t k => XS.aload X35.here hx rfl (hb hby at_85) rfl rfl k) ?_
        show Go _ _ _ _ T35 (mkF m 87 #[.val (.int p1), .val (.int p2), .val (.int p3), .val (.int p4), .val (.int p5), .val (.int p6), .val (.int (2 : Int32)), .val (.int (1 : Int32)), .val (.ref b31), .val (.ref b34), .val (.int (1 : Int32)), .unset, .unset] [(.ref b34)])
        refine Go.st (fun t k => XS.iload X35.here hx rfl (hb hby at_87) rfl k) ?_
        show Go _ _ _ _ T35 (mkF m 89 #[.val (.int p1), .val (.int p2), .val (.int p3), .val (.int p4), .val (.int p5), .val (.int p6), .val (.int (2 : Int32)), .val (.int (1 : Int32)), .val (.ref b31), .val (.ref b34), .val (.int (1 : Int32)), .unset, .unset] [(.int p5), (.ref b34)])
        refine goM X35 hx hZ (y := (⟨"com/example/vetter/vetter/io/DerReader", "nextIs", "(I)Z"⟩ : MethodName)) (z := (⟨"com/example/vetter/vetter/io/DerReader", "nextIs", "(I)Z"⟩ : MethodName)) hown (hw _ (List.mem_of_getElem? (i := 12) rfl)) (hw _ (List.mem_of_getElem? (i := 13) rfl)) (hw _ (List.mem_of_getElem? (i := 15) rfl)) (hw _ (List.mem_of_getElem? (i := 14) rfl)) (hw _ (List.mem_of_getElem? (i := 16) rfl)) (hw _ (List.mem_of_getElem? (i := 3) rfl)) (notFace_of_selects (args := #[]) (mvT hZ (hw _ (List.mem_of_getElem? (i := 15) rfl)))) (by decide) (rm3 l Z a0 hw b34 p5 T35.heap n0 Z35 (0 : Int32) b31 2 _ (2 : Int32) ((p2.toInt8.toInt32).toInt8.toInt32) F_position_b34 F_data_b34 V_b31 rfl (fun _ => ⟨0, ⟨by decide, rfl, by decide⟩, rfl⟩)) rfl N35 E_b34 0 (by decide) (by decide) (by decide) (by decide) (g := (mkF m 89 #[.val (.int p1), .val (.int p2), .val (.int p3), .val (.int p4), .val (.int p5), .val (.int p6), .val (.int (2 : Int32)), .val (.int (1 : Int32)), .val (.ref b31), .val (.ref b34), .val (.int (1 : Int32)), .unset, .unset] [(.int p5), (.ref b34)])) rfl (by rw [hml]; rfl) [(.int p5)] [] (lenOf pd0_1 rfl) rfl rfl (by show 2 * 0 + _ ≤ _; exact Nat.le_of_eq rfl) (hb hby at_89) ?_
        intro T37 v37 L37 M37 X37 N37 hq37
        obtain ⟨hq37, N37q, e37⟩ := hq37
        replace N37 := N37 N37q
        rcases hq37 with ⟨hA37, hB37, rfl⟩ | ⟨hr37, rfl⟩
        ·
          show Go _ _ _ _ T37 (mkF m 92 #[.val (.int p1), .val (.int p2), .val (.int p3), .val (.int p4), .val (.int p5), .val (.int p6), .val (.int (2 : Int32)), .val (.int (1 : Int32)), .val (.ref b31), .val (.ref b34), .val (.int (1 : Int32)), .unset, .unset] [(.int (1 : Int32))])
          refine Go.st (fun t k => XS.iload X37.here hx rfl (hb hby at_92) rfl k) ?_
          show Go _ _ _ _ T37 (mkF m 94 #[.val (.int p1), .val (.int p2), .val (.int p3), .val (.int p4), .val (.int p5), .val (.int p6), .val (.int (2 : Int32)), .val (.int (1 : Int32)), .val (.ref b31), .val (.ref b34), .val (.int (1 : Int32)), .unset, .unset] [(.int (1 : Int32)), (.int (1 : Int32))])
          refine Go.st (fun t k => XS.icmpYes X37.here hx rfl (pc0 := 94) (pc' := 99) rfl (hb hby at_94) rfl (by decide) (by decide) (by decide) k) ?_
          show Go _ _ _ _ T37 (mkF m 99 #[.val (.int p1), .val (.int p2), .val (.int p3), .val (.int p4), .val (.int p5), .val (.int p6), .val (.int (2 : Int32)), .val (.int (1 : Int32)), .val (.ref b31), .val (.ref b34), .val (.int (1 : Int32)), .unset, .unset] [])
          refine Go.st (fun t k => XS.iconst X37.here hx rfl (hb hby at_99) k) ?_
          show Go _ _ _ _ T37 (mkF m 100 #[.val (.int p1), .val (.int p2), .val (.int p3), .val (.int p4), .val (.int p5), .val (.int p6), .val (.int (2 : Int32)), .val (.int (1 : Int32)), .val (.ref b31), .val (.ref b34), .val (.int (1 : Int32)), .unset, .unset] [(.int (0 : Int32))])
          refine Go.st (fun t k => XS.istore X37.here hx rfl (hb hby at_100) rfl (l' := #[.val (.int p1), .val (.int p2), .val (.int p3), .val (.int p4), .val (.int p5), .val (.int p6), .val (.int (2 : Int32)), .val (.int (1 : Int32)), .val (.ref b31), .val (.ref b34), .val (.int (1 : Int32)), .val (.int (0 : Int32)), .unset]) rfl k) ?_
          show Go _ _ _ _ T37 (mkF m 102 #[.val (.int p1), .val (.int p2), .val (.int p3), .val (.int p4), .val (.int p5), .val (.int p6), .val (.int (2 : Int32)), .val (.int (1 : Int32)), .val (.ref b31), .val (.ref b34), .val (.int (1 : Int32)), .val (.int (0 : Int32)), .unset] [])
          refine Go.st (fun t k => XS.iload X37.here hx rfl (hb hby at_102) rfl k) ?_
          show Go _ _ _ _ T37 (mkF m 104 #[.val (.int p1), .val (.int p2), .val (.int p3), .val (.int p4), .val (.int p5), .val (.int p6), .val (.int (2 : Int32)), .val (.int (1 : Int32)), .val (.ref b31), .val (.ref b34), .val (.int (1 : Int32)), .val (.int (0 : Int32)), .unset] [(.int (2 : Int32))])
          refine Go.st (fun t k => XS.iconst X37.here hx rfl (hb hby at_104) k) ?_
          show Go _ _ _ _ T37 (mkF m 105 #[.val (.int p1), .val (.int p2), .val (.int p3), .val (.int p4), .val (.int p5), .val (.int p6), .val (.int (2 : Int32)), .val (.int (1 : Int32)), .val (.ref b31), .val (.ref b34), .val (.int (1 : Int32)), .val (.int (0 : Int32)), .unset] [(.int (2 : Int32)), (.int (2 : Int32))])
          refine Go.st (fun t k => XS.icmpNo X37.here hx rfl (hb hby at_105) rfl (by decide) k) ?_
          show Go _ _ _ _ T37 (mkF m 108 #[.val (.int p1), .val (.int p2), .val (.int p3), .val (.int p4), .val (.int p5), .val (.int p6), .val (.int (2 : Int32)), .val (.int (1 : Int32)), .val (.ref b31), .val (.ref b34), .val (.int (1 : Int32)), .val (.int (0 : Int32)), .unset] [])
          refine Go.st (fun t k => XS.iload X37.here hx rfl (hb hby at_108) rfl k) ?_
          show Go _ _ _ _ T37 (mkF m 110 #[.val (.int p1), .val (.int p2), .val (.int p3), .val (.int p4), .val (.int p5), .val (.int p6), .val (.int (2 : Int32)), .val (.int (1 : Int32)), .val (.ref b31), .val (.ref b34), .val (.int (1 : Int32)), .val (.int (0 : Int32)), .unset] [(.int (1 : Int32))])
          refine Go.st (fun t k => XS.iload X37.here hx rfl (hb hby at_110) rfl k) ?_
          show Go _ _ _ _ T37 (mkF m 112 #[.val (.int p1), .val (.int p2), .val (.int p3), .val (.int p4), .val (.int p5), .val (.int p6), .val (.int (2 : Int32)), .val (.int (1 : Int32)), .val (.ref b31), .val (.ref b34), .val (.int (1 : Int32)), .val (.int (0 : Int32)), .unset] [(.int (2 : Int32)), (.int (1 : Int32))])
          refine Go.st (fun t k => XS.iconst X37.here hx rfl (hb hby at_112) k) ?_
          show Go _ _ _ _ T37 (mkF m 113 #[.val (.int p1), .val (.int p2), .val (.int p3), .val (.int p4), .val (.int p5), .val (.int p6), .val (.int (2 : Int32)), .val (.int (1 : Int32)), .val (.ref b31), .val (.ref b34), .val (.int (1 : Int32)), .val (.int (0 : Int32)), .unset] [(.int (2 : Int32)), (.int (2 : Int32)), (.int (1 : Int32))])
          refine Go.st (fun t k => XS.isub X37.here hx rfl (hb hby at_113) rfl k) ?_
          show Go _ _ _ _ T37 (mkF m 114 #[.val (.int p1), .val (.int p2), .val (.int p3), .val (.int p4), .val (.int p5), .val (.int p6), .val (.int (2 : Int32)), .val (.int (1 : Int32)), .val (.ref b31), .val (.ref b34), .val (.int (1 : Int32)), .val (.int (0 : Int32)), .unset] [(.int (0 : Int32)), (.int (1 : Int32))])
          refine Go.st (fun t k => XS.icmpYes X37.here hx rfl (pc0 := 114) (pc' := 134) rfl (hb hby at_114) rfl (by decide) (by decide) (by decide) k) ?_
          show Go _ _ _ _ T37 (mkF m 134 #[.val (.int p1), .val (.int p2), .val (.int p3), .val (.int p4), .val (.int p5), .val (.int p6), .val (.int (2 : Int32)), .val (.int (1 : Int32)), .val (.ref b31), .val (.ref b34), .val (.int (1 : Int32)), .val (.int (0 : Int32)), .unset] [])
          refine Go.st (fun t k => XS.iload X37.here hx rfl (hb hby at_134) rfl k) ?_
          show Go _ _ _ _ T37 (mkF m 136 #[.val (.int p1), .val (.int p2), .val (.int p3), .val (.int p4), .val (.int p5), .val (.int p6), .val (.int (2 : Int32)), .val (.int (1 : Int32)), .val (.ref b31), .val (.ref b34), .val (.int (1 : Int32)), .val (.int (0 : Int32)), .unset] [(.int (0 : Int32))])
          refine Go.st (fun t k => XS.iload X37.here hx rfl (hb hby at_136) rfl k) ?_
          show Go _ _ _ _ T37 (mkF m 138 #[.val (.int p1), .val (.int p2), .val (.int p3), .val (.int p4), .val (.int p5), .val (.int p6), .val (.int (2 : Int32)), .val (.int (1 : Int32)), .val (.ref b31), .val (.ref b34), .val (.int (1 : Int32)), .val (.int (0 : Int32)), .unset] [(.int (2 : Int32)), (.int (0 : Int32))])
          refine Go.st (fun t k => XS.icmpYes X37.here hx rfl (pc0 := 138) (pc' := 147) rfl (hb hby at_138) rfl (by decide) (by decide) (by decide) k) ?_
          show Go _ _ _ _ T37 (mkF m 147 #[.val (.int p1), .val (.int p2), .val (.int p3), .val (.int p4), .val (.int p5), .val (.int p6), .val (.int (2 : Int32)), .val (.int (1 : Int32)), .val (.ref b31), .val (.ref b34), .val (.int (1 : Int32)), .val (.int (0 : Int32)), .unset] [])
          refine Go.st (fun t k => XS.iload X37.here hx rfl (hb hby at_147) rfl k) ?_
          show Go _ _ _ _ T37 (mkF m 149 #[.val (.int p1), .val (.int p2), .val (.int p3), .val (.int p4), .val (.int p5), .val (.int p6), .val (.int (2 : Int32)), .val (.int (1 : Int32)), .val (.ref b31), .val (.ref b34), .val (.int (1 : Int32)), .val (.int (0 : Int32)), .unset] [(.int (0 : Int32))])
          refine Go.st (fun t k => XS.ifNo X37.here hx rfl (hb hby at_149) rfl (by decide) k) ?_
          show Go _ _ _ _ T37 (mkF m 152 #[.val (.int p1), .val (.int p2), .val (.int p3), .val (.int p4), .val (.int p5), .val (.int p6), .val (.int (2 : Int32)), .val (.int (1 : Int32)), .val (.ref b31), .val (.ref b34), .val (.int (1 : Int32)), .val (.int (0 : Int32)), .unset] [])
          refine Go.st (fun t k => XS.iloadN X37.here hx rfl (hb hby at_152) rfl k) ?_
          show Go _ _ _ _ T37 (mkF m 153 #[.val (.int p1), .val (.int p2), .val (.int p3), .val (.int p4), .val (.int p5), .val (.int p6), .val (.int (2 : Int32)), .val (.int (1 : Int32)), .val (.ref b31), .val (.ref b34), .val (.int (1 : Int32)), .val (.int (0 : Int32)), .unset] [(.int p2)])
          refine Go.st (fun t k => XS.sipush X37.here hx rfl (hb hby at_153) k) ?_
          show Go _ _ _ _ T37 (mkF m 156 #[.val (.int p1), .val (.int p2), .val (.int p3), .val (.int p4), .val (.int p5), .val (.int p6), .val (.int (2 : Int32)), .val (.int (1 : Int32)), .val (.ref b31), .val (.ref b34), .val (.int (1 : Int32)), .val (.int (0 : Int32)), .unset] [(.int (255 : Int32)), (.int p2)])
          refine Go.st (fun t k => XS.iand X37.here hx rfl (hb hby at_156) rfl k) ?_
          show Go _ _ _ _ T37 (mkF m 157 #[.val (.int p1), .val (.int p2), .val (.int p3), .val (.int p4), .val (.int p5), .val (.int p6), .val (.int (2 : Int32)), .val (.int (1 : Int32)), .val (.ref b31), .val (.ref b34), .val (.int (1 : Int32)), .val (.int (0 : Int32)), .unset] [(.int (p2 &&& (255 : Int32)))])
          refine Go.st (fun t k => XS.iload X37.here hx rfl (hb hby at_157) rfl k) ?_
          show Go _ _ _ _ T37 (mkF m 159 #[.val (.int p1), .val (.int p2), .val (.int p3), .val (.int p4), .val (.int p5), .val (.int p6), .val (.int (2 : Int32)), .val (.int (1 : Int32)), .val (.ref b31), .val (.ref b34), .val (.int (1 : Int32)), .val (.int (0 : Int32)), .unset] [(.int p6), (.int (p2 &&& (255 : Int32)))])
          by_cases hE2 : (p2 &&& (255 : Int32)) = p6
          ·
            refine Go.st (fun t k => XS.icmpNo X37.here hx rfl (hb hby at_159) rfl (teq hE2).2 k) ?_
            show Go _ _ _ _ T37 (mkF m 162 #[.val (.int p1), .val (.int p2), .val (.int p3), .val (.int p4), .val (.int p5), .val (.int p6), .val (.int (2 : Int32)), .val (.int (1 : Int32)), .val (.ref b31), .val (.ref b34), .val (.int (1 : Int32)), .val (.int (0 : Int32)), .unset] [])
            refine Go.st (fun t k => XS.iconst X37.here hx rfl (hb hby at_162) k) ?_
            show Go _ _ _ _ T37 (mkF m 163 #[.val (.int p1), .val (.int p2), .val (.int p3), .val (.int p4), .val (.int p5), .val (.int p6), .val (.int (2 : Int32)), .val (.int (1 : Int32)), .val (.ref b31), .val (.ref b34), .val (.int (1 : Int32)), .val (.int (0 : Int32)), .unset] [(.int (1 : Int32))])
            refine Go.st (fun t k => XS.goto X37.here hx rfl (pc0 := 163) (pc' := 167) rfl (hb hby at_163) (by decide) (by decide) k) ?_
            show Go _ _ _ _ T37 (mkF m 167 #[.val (.int p1), .val (.int p2), .val (.int p3), .val (.int p4), .val (.int p5), .val (.int p6), .val (.int (2 : Int32)), .val (.int (1 : Int32)), .val (.ref b31), .val (.ref b34), .val (.int (1 : Int32)), .val (.int (0 : Int32)), .unset] [(.int (1 : Int32))])
            refine Go.st (fun t k => XS.istore X37.here hx rfl (hb hby at_167) rfl (l' := #[.val (.int p1), .val (.int p2), .val (.int p3), .val (.int p4), .val (.int p5), .val (.int p6), .val (.int (2 : Int32)), .val (.int (1 : Int32)), .val (.ref b31), .val (.ref b34), .val (.int (1 : Int32)), .val (.int (0 : Int32)), .val (.int (1 : Int32))]) rfl k) ?_
            show Go _ _ _ _ T37 (mkF m 169 #[.val (.int p1), .val (.int p2), .val (.int p3), .val (.int p4), .val (.int p5), .val (.int p6), .val (.int (2 : Int32)), .val (.int (1 : Int32)), .val (.ref b31), .val (.ref b34), .val (.int (1 : Int32)), .val (.int (0 : Int32)), .val (.int (1 : Int32))] [])
            refine Go.st (fun t k => XS.goto X37.here hx rfl (pc0 := 169) (pc' := 189) rfl (hb hby at_169) (by decide) (by decide) k) ?_
            show Go _ _ _ _ T37 (mkF m 189 #[.val (.int p1), .val (.int p2), .val (.int p3), .val (.int p4), .val (.int p5), .val (.int p6), .val (.int (2 : Int32)), .val (.int (1 : Int32)), .val (.ref b31), .val (.ref b34), .val (.int (1 : Int32)), .val (.int (0 : Int32)), .val (.int (1 : Int32))] [])
            refine Go.st (fun t k => XS.aload X37.here hx rfl (hb hby at_189) rfl rfl k) ?_
            show Go _ _ _ _ T37 (mkF m 191 #[.val (.int p1), .val (.int p2), .val (.int p3), .val (.int p4), .val (.int p5), .val (.int p6), .val (.int (2 : Int32)), .val (.int (1 : Int32)), .val (.ref b31), .val (.ref b34), .val (.int (1 : Int32)), .val (.int (0 : Int32)), .val (.int (1 : Int32))] [(.ref b34)])
            refine Go.st (fun t k => XS.iload X37.here hx rfl (hb hby at_191) rfl k) ?_
            show Go _ _ _ _ T37 (mkF m 193 #[.val (.int p1), .val (.int p2), .val (.int p3), .val (.int p4), .val (.int p5), .val (.int p6), .val (.int (2 : Int32)), .val (.int (1 : Int32)), .val (.ref b31), .val (.ref b34), .val (.int (1 : Int32)), .val (.int (0 : Int32)), .val (.int (1 : Int32))] [(.int p6), (.ref b34)])
            refine goM X37 hx hZ (y := (⟨"com/example/vetter/vetter/io/DerReader", "nextIs", "(I)Z"⟩ : MethodName)) (z := (⟨"com/example/vetter/vetter/io/DerReader", "nextIs", "(I)Z"⟩ : MethodName)) hown (hw _ (List.mem_of_getElem? (i := 12) rfl)) (hw _ (List.mem_of_getElem? (i := 13) rfl)) (hw _ (List.mem_of_getElem? (i := 15) rfl)) (hw _ (List.mem_of_getElem? (i := 14) rfl)) (hw _ (List.mem_of_getElem? (i := 16) rfl)) (hw _ (List.mem_of_getElem? (i := 3) rfl)) (notFace_of_selects (args := #[]) (mvT hZ (hw _ (List.mem_of_getElem? (i := 15) rfl)))) (by decide) (rm3 l Z a0 hw b34 p6 T35.heap n0 Z35 (0 : Int32) b31 2 _ (2 : Int32) ((p2.toInt8.toInt32).toInt8.toInt32) F_position_b34 F_data_b34 V_b31 rfl (fun _ => ⟨0, ⟨by decide, rfl, by decide⟩, rfl⟩)) e37 N37 E_b34 0 (by decide) (by decide) (by decide) (by decide) (g := (mkF m 193 #[.val (.int p1), .val (.int p2), .val (.int p3), .val (.int p4), .val (.int p5), .val (.int p6), .val (.int (2 : Int32)), .val (.int (1 : Int32)), .val (.ref b31), .val (.ref b34), .val (.int (1 : Int32)), .val (.int (0 : Int32)), .val (.int (1 : Int32))] [(.int p6), (.ref b34)])) rfl (by rw [hml]; rfl) [(.int p6)] [] (lenOf pd0_1 rfl) rfl rfl (by show 2 * 0 + _ ≤ _; exact Nat.le_of_eq rfl) (hb hby at_193) ?_
            intro T39 v39 L39 M39 X39 N39 hq39
            obtain ⟨hq39, N39q, e39⟩ := hq39
            replace N39 := N39 N39q
            rcases hq39 with ⟨hA39, hB39, rfl⟩ | ⟨hr39, rfl⟩
            ·
              show Go _ _ _ _ T39 (mkF m 196 #[.val (.int p1), .val (.int p2), .val (.int p3), .val (.int p4), .val (.int p5), .val (.int p6), .val (.int (2 : Int32)), .val (.int (1 : Int32)), .val (.ref b31), .val (.ref b34), .val (.int (1 : Int32)), .val (.int (0 : Int32)), .val (.int (1 : Int32))] [(.int (1 : Int32))])
              refine Go.st (fun t k => XS.iload X39.here hx rfl (hb hby at_196) rfl k) ?_
              show Go _ _ _ _ T39 (mkF m 198 #[.val (.int p1), .val (.int p2), .val (.int p3), .val (.int p4), .val (.int p5), .val (.int p6), .val (.int (2 : Int32)), .val (.int (1 : Int32)), .val (.ref b31), .val (.ref b34), .val (.int (1 : Int32)), .val (.int (0 : Int32)), .val (.int (1 : Int32))] [(.int (1 : Int32)), (.int (1 : Int32))])
              refine Go.st (fun t k => XS.icmpNo X39.here hx rfl (hb hby at_198) rfl (by decide) k) ?_
              show Go _ _ _ _ T39 (mkF m 201 #[.val (.int p1), .val (.int p2), .val (.int p3), .val (.int p4), .val (.int p5), .val (.int p6), .val (.int (2 : Int32)), .val (.int (1 : Int32)), .val (.ref b31), .val (.ref b34), .val (.int (1 : Int32)), .val (.int (0 : Int32)), .val (.int (1 : Int32))] [])
              refine Go.st (fun t k => XS.iconst X39.here hx rfl (hb hby at_201) k) ?_
              show Go _ _ _ _ T39 (mkF m 202 #[.val (.int p1), .val (.int p2), .val (.int p3), .val (.int p4), .val (.int p5), .val (.int p6), .val (.int (2 : Int32)), .val (.int (1 : Int32)), .val (.ref b31), .val (.ref b34), .val (.int (1 : Int32)), .val (.int (0 : Int32)), .val (.int (1 : Int32))] [(.int (1 : Int32))])
              refine Go.st (fun t k => XS.goto X39.here hx rfl (pc0 := 202) (pc' := 206) rfl (hb hby at_202) (by decide) (by decide) k) ?_
              show Go _ _ _ _ T39 (mkF m 206 #[.val (.int p1), .val (.int p2), .val (.int p3), .val (.int p4), .val (.int p5), .val (.int p6), .val (.int (2 : Int32)), .val (.int (1 : Int32)), .val (.ref b31), .val (.ref b34), .val (.int (1 : Int32)), .val (.int (0 : Int32)), .val (.int (1 : Int32))] [(.int (1 : Int32))])
              exact goN X39 hx hret hlk (by simp) (hb hby at_206) (by decide) (by decide) ⟨rfl, N39⟩
            ·
              exact absurd ⟨by decide, (own_m _).trans hE2⟩ hr39
          ·
            refine Go.st (fun t k => XS.icmpYes X37.here hx rfl (pc0 := 159) (pc' := 166) rfl (hb hby at_159) rfl (feq hE2).2 (by decide) (by decide) k) ?_
            show Go _ _ _ _ T37 (mkF m 166 #[.val (.int p1), .val (.int p2), .val (.int p3), .val (.int p4), .val (.int p5), .val (.int p6), .val (.int (2 : Int32)), .val (.int (1 : Int32)), .val (.ref b31), .val (.ref b34), .val (.int (1 : Int32)), .val (.int (0 : Int32)), .unset] [])
            refine Go.st (fun t k => XS.iconst X37.here hx rfl (hb hby at_166) k) ?_
            show Go _ _ _ _ T37 (mkF m 167 #[.val (.int p1), .val (.int p2), .val (.int p3), .val (.int p4), .val (.int p5), .val (.int p6), .val (.int (2 : Int32)), .val (.int (1 : Int32)), .val (.ref b31), .val (.ref b34), .val (.int (1 : Int32)), .val (.int (0 : Int32)), .unset] [(.int (0 : Int32))])
            refine Go.st (fun t k => XS.istore X37.here hx rfl (hb hby at_167) rfl (l' := #[.val (.int p1), .val (.int p2), .val (.int p3), .val (.int p4), .val (.int p5), .val (.int p6), .val (.int (2 : Int32)), .val (.int (1 : Int32)), .val (.ref b31), .val (.ref b34), .val (.int (1 : Int32)), .val (.int (0 : Int32)), .val (.int (0 : Int32))]) rfl k) ?_
            show Go _ _ _ _ T37 (mkF m 169 #[.val (.int p1), .val (.int p2), .val (.int p3), .val (.int p4), .val (.int p5), .val (.int p6), .val (.int (2 : Int32)), .val (.int (1 : Int32)), .val (.ref b31), .val (.ref b34), .val (.int (1 : Int32)), .val (.int (0 : Int32)), .val (.int (0 : Int32))] [])
            refine Go.st (fun t k => XS.goto X37.here hx rfl (pc0 := 169) (pc' := 189) rfl (hb hby at_169) (by decide) (by decide) k) ?_
            show Go _ _ _ _ T37 (mkF m 189 #[.val (.int p1), .val (.int p2), .val (.int p3), .val (.int p4), .val (.int p5), .val (.int p6), .val (.int (2 : Int32)), .val (.int (1 : Int32)), .val (.ref b31), .val (.ref b34), .val (.int (1 : Int32)), .val (.int (0 : Int32)), .val (.int (0 : Int32))] [])
            refine Go.st (fun t k => XS.aload X37.here hx rfl (hb hby at_189) rfl rfl k) ?_
            show Go _ _ _ _ T37 (mkF m 191 #[.val (.int p1), .val (.int p2), .val (.int p3), .val (.int p4), .val (.int p5), .val (.int p6), .val (.int (2 : Int32)), .val (.int (1 : Int32)), .val (.ref b31), .val (.ref b34), .val (.int (1 : Int32)), .val (.int (0 : Int32)), .val (.int (0 : Int32))] [(.ref b34)])
            refine Go.st (fun t k => XS.iload X37.here hx rfl (hb hby at_191) rfl k) ?_
            show Go _ _ _ _ T37 (mkF m 193 #[.val (.int p1), .val (.int p2), .val (.int p3), .val (.int p4), .val (.int p5), .val (.int p6), .val (.int (2 : Int32)), .val (.int (1 : Int32)), .val (.ref b31), .val (.ref b34), .val (.int (1 : Int32)), .val (.int (0 : Int32)), .val (.int (0 : Int32))] [(.int p6), (.ref b34)])
            refine goM X37 hx hZ (y := (⟨"com/example/vetter/vetter/io/DerReader", "nextIs", "(I)Z"⟩ : MethodName)) (z := (⟨"com/example/vetter/vetter/io/DerReader", "nextIs", "(I)Z"⟩ : MethodName)) hown (hw _ (List.mem_of_getElem? (i := 12) rfl)) (hw _ (List.mem_of_getElem? (i := 13) rfl)) (hw _ (List.mem_of_getElem? (i := 15) rfl)) (hw _ (List.mem_of_getElem? (i := 14) rfl)) (hw _ (List.mem_of_getElem? (i := 16) rfl)) (hw _ (List.mem_of_getElem? (i := 3) rfl)) (notFace_of_selects (args := #[]) (mvT hZ (hw _ (List.mem_of_getElem? (i := 15) rfl)))) (by decide) (rm3 l Z a0 hw b34 p6 T35.heap n0 Z35 (0 : Int32) b31 2 _ (2 : Int32) ((p2.toInt8.toInt32).toInt8.toInt32) F_position_b34 F_data_b34 V_b31 rfl (fun _ => ⟨0, ⟨by decide, rfl, by decide⟩, rfl⟩)) e37 N37 E_b34 0 (by decide) (by decide) (by decide) (by decide) (g := (mkF m 193 #[.val (.int p1), .val (.int p2), .val (.int p3), .val (.int p4), .val (.int p5), .val (.int p6), .val (.int (2 : Int32)), .val (.int (1 : Int32)), .val (.ref b31), .val (.ref b34), .val (.int (1 : Int32)), .val (.int (0 : Int32)), .val (.int (0 : Int32))] [(.int p6), (.ref b34)])) rfl (by rw [hml]; rfl) [(.int p6)] [] (lenOf pd0_1 rfl) rfl rfl (by show 2 * 0 + _ ≤ _; exact Nat.le_of_eq rfl) (hb hby at_193) ?_
            intro T40 v40 L40 M40 X40 N40 hq40
            obtain ⟨hq40, N40q, e40⟩ := hq40
            replace N40 := N40 N40q
            rcases hq40 with ⟨hA40, hB40, rfl⟩ | ⟨hr40, rfl⟩
            ·
              exact absurd ((own_m _).symm.trans hB40) hE2
            ·
              show Go _ _ _ _ T40 (mkF m 196 #[.val (.int p1), .val (.int p2), .val (.int p3), .val (.int p4), .val (.int p5), .val (.int p6), .val (.int (2 : Int32)), .val (.int (1 : Int32)), .val (.ref b31), .val (.ref b34), .val (.int (1 : Int32)), .val (.int (0 : Int32)), .val (.int (0 : Int32))] [(.int (0 : Int32))])
              refine Go.st (fun t k => XS.iload X40.here hx rfl (hb hby at_196) rfl k) ?_
              show Go _ _ _ _ T40 (mkF m 198 #[.val (.int p1), .val (.int p2), .val (.int p3), .val (.int p4), .val (.int p5), .val (.int p6), .val (.int (2 : Int32)), .val (.int (1 : Int32)), .val (.ref b31), .val (.ref b34), .val (.int (1 : Int32)), .val (.int (0 : Int32)), .val (.int (0 : Int32))] [(.int (0 : Int32)), (.int (0 : Int32))])
              refine Go.st (fun t k => XS.icmpNo X40.here hx rfl (hb hby at_198) rfl (by decide) k) ?_
              show Go _ _ _ _ T40 (mkF m 201 #[.val (.int p1), .val (.int p2), .val (.int p3), .val (.int p4), .val (.int p5), .val (.int p6), .val (.int (2 : Int32)), .val (.int (1 : Int32)), .val (.ref b31), .val (.ref b34), .val (.int (1 : Int32)), .val (.int (0 : Int32)), .val (.int (0 : Int32))] [])
              refine Go.st (fun t k => XS.iconst X40.here hx rfl (hb hby at_201) k) ?_
              show Go _ _ _ _ T40 (mkF m 202 #[.val (.int p1), .val (.int p2), .val (.int p3), .val (.int p4), .val (.int p5), .val (.int p6), .val (.int (2 : Int32)), .val (.int (1 : Int32)), .val (.ref b31), .val (.ref b34), .val (.int (1 : Int32)), .val (.int (0 : Int32)), .val (.int (0 : Int32))] [(.int (1 : Int32))])
              refine Go.st (fun t k => XS.goto X40.here hx rfl (pc0 := 202) (pc' := 206) rfl (hb hby at_202) (by decide) (by decide) k) ?_
              show Go _ _ _ _ T40 (mkF m 206 #[.val (.int p1), .val (.int p2), .val (.int p3), .val (.int p4), .val (.int p5), .val (.int p6), .val (.int (2 : Int32)), .val (.int (1 : Int32)), .val (.ref b31), .val (.ref b34), .val (.int (1 : Int32)), .val (.int (0 : Int32)), .val (.int (0 : Int32))] [(.int (1 : Int32))])
              exact goN X40 hx hret hlk (by simp) (hb hby at_206) (by decide) (by decide) ⟨rfl, N40⟩
        ·
          exact absurd ⟨by decide, (own_m _).trans hE1⟩ hr37
      ·
        refine Go.st (fun t k => XS.icmpYes X35.here hx rfl (pc0 := 75) (pc' := 82) rfl (hb hby at_75) rfl (feq hE1).2 (by decide) (by decide) k) ?_
        show Go _ _ _ _ T35 (mkF m 82 #[.val (.int p1), .val (.int p2), .val (.int p3), .val (.int p4), .val (.int p5), .val (.int p6), .val (.int (2 : Int32)), .val (.int (1 : Int32)), .val (.ref b31), .val (.ref b34), .unset, .unset, .unset] [])
        refine Go.st (fun t k => XS.iconst X35.here hx rfl (hb hby at_82) k) ?_
        show Go _ _ _ _ T35 (mkF m 83 #[.val (.int p1), .val (.int p2), .val (.int p3), .val (.int p4), .val (.int p5), .val (.int p6), .val (.int (2 : Int32)), .val (.int (1 : Int32)), .val (.ref b31), .val (.ref b34), .unset, .unset, .unset] [(.int (0 : Int32))])
        refine Go.st (fun t k => XS.istore X35.here hx rfl (hb hby at_83) rfl (l' := #[.val (.int p1), .val (.int p2), .val (.int p3), .val (.int p4), .val (.int p5), .val (.int p6), .val (.int (2 : Int32)), .val (.int (1 : Int32)), .val (.ref b31), .val (.ref b34), .val (.int (0 : Int32)), .unset, .unset]) rfl k) ?_
        show Go _ _ _ _ T35 (mkF m 85 #[.val (.int p1), .val (.int p2), .val (.int p3), .val (.int p4), .val (.int p5), .val (.int p6), .val (.int (2 : Int32)), .val (.int (1 : Int32)), .val (.ref b31), .val (.ref b34), .val (.int (0 : Int32)), .unset, .unset] [])
        refine Go.st (fun t k => XS.aload X35.here hx rfl (hb hby at_85) rfl rfl k) ?_
        show Go _ _ _ _ T35 (mkF m 87 #[.val (.int p1), .val (.int p2), .val (.int p3), .val (.int p4), .val (.int p5), .val (.int p6), .val (.int (2 : Int32)), .val (.int (1 : Int32)), .val (.ref b31), .val (.ref b34), .val (.int (0 : Int32)), .unset, .unset] [(.ref b34)])
        refine Go.st (fun t k => XS.iload X35.here hx rfl (hb hby at_87) rfl k) ?_
        show Go _ _ _ _ T35 (mkF m 89 #[.val (.int p1), .val (.int p2), .val (.int p3), .val (.int p4), .val (.int p5), .val (.int p6), .val (.int (2 : Int32)), .val (.int (1 : Int32)), .val (.ref b31), .val (.ref b34), .val (.int (0 : Int32)), .unset, .unset] [(.int p5), (.ref b34)])
        refine goM X35 hx hZ (y := (⟨"com/example/vetter/vetter/io/DerReader", "nextIs", "(I)Z"⟩ : MethodName)) (z := (⟨"com/example/vetter/vetter/io/DerReader", "nextIs", "(I)Z"⟩ : MethodName)) hown (hw _ (List.mem_of_getElem? (i := 12) rfl)) (hw _ (List.mem_of_getElem? (i := 13) rfl)) (hw _ (List.mem_of_getElem? (i := 15) rfl)) (hw _ (List.mem_of_getElem? (i := 14) rfl)) (hw _ (List.mem_of_getElem? (i := 16) rfl)) (hw _ (List.mem_of_getElem? (i := 3) rfl)) (notFace_of_selects (args := #[]) (mvT hZ (hw _ (List.mem_of_getElem? (i := 15) rfl)))) (by decide) (rm3 l Z a0 hw b34 p5 T35.heap n0 Z35 (0 : Int32) b31 2 _ (2 : Int32) ((p2.toInt8.toInt32).toInt8.toInt32) F_position_b34 F_data_b34 V_b31 rfl (fun _ => ⟨0, ⟨by decide, rfl, by decide⟩, rfl⟩)) rfl N35 E_b34 0 (by decide) (by decide) (by decide) (by decide) (g := (mkF m 89 #[.val (.int p1), .val (.int p2), .val (.int p3), .val (.int p4), .val (.int p5), .val (.int p6), .val (.int (2 : Int32)), .val (.int (1 : Int32)), .val (.ref b31), .val (.ref b34), .val (.int (0 : Int32)), .unset, .unset] [(.int p5), (.ref b34)])) rfl (by rw [hml]; rfl) [(.int p5)] [] (lenOf pd0_1 rfl) rfl rfl (by show 2 * 0 + _ ≤ _; exact Nat.le_of_eq rfl) (hb hby at_89) ?_
        intro T41 v41 L41 M41 X41 N41 hq41
        obtain ⟨hq41, N41q, e41⟩ := hq41
        replace N41 := N41 N41q
        rcases hq41 with ⟨hA41, hB41, rfl⟩ | ⟨hr41, rfl⟩
        ·
          exact absurd ((own_m _).symm.trans hB41) hE1
        ·
          show Go _ _ _ _ T41 (mkF m 92 #[.val (.int p1), .val (.int p2), .val (.int p3), .val (.int p4), .val (.int p5), .val (.int p6), .val (.int (2 : Int32)), .val (.int (1 : Int32)), .val (.ref b31), .val (.ref b34), .val (.int (0 : Int32)), .unset, .unset] [(.int (0 : Int32))])
          refine Go.st (fun t k => XS.iload X41.here hx rfl (hb hby at_92) rfl k) ?_
          show Go _ _ _ _ T41 (mkF m 94 #[.val (.int p1), .val (.int p2), .val (.int p3), .val (.int p4), .val (.int p5), .val (.int p6), .val (.int (2 : Int32)), .val (.int (1 : Int32)), .val (.ref b31), .val (.ref b34), .val (.int (0 : Int32)), .unset, .unset] [(.int (0 : Int32)), (.int (0 : Int32))])
          refine Go.st (fun t k => XS.icmpYes X41.here hx rfl (pc0 := 94) (pc' := 99) rfl (hb hby at_94) rfl (by decide) (by decide) (by decide) k) ?_
          show Go _ _ _ _ T41 (mkF m 99 #[.val (.int p1), .val (.int p2), .val (.int p3), .val (.int p4), .val (.int p5), .val (.int p6), .val (.int (2 : Int32)), .val (.int (1 : Int32)), .val (.ref b31), .val (.ref b34), .val (.int (0 : Int32)), .unset, .unset] [])
          refine Go.st (fun t k => XS.iconst X41.here hx rfl (hb hby at_99) k) ?_
          show Go _ _ _ _ T41 (mkF m 100 #[.val (.int p1), .val (.int p2), .val (.int p3), .val (.int p4), .val (.int p5), .val (.int p6), .val (.int (2 : Int32)), .val (.int (1 : Int32)), .val (.ref b31), .val (.ref b34), .val (.int (0 : Int32)), .unset, .unset] [(.int (0 : Int32))])
          refine Go.st (fun t k => XS.istore X41.here hx rfl (hb hby at_100) rfl (l' := #[.val (.int p1), .val (.int p2), .val (.int p3), .val (.int p4), .val (.int p5), .val (.int p6), .val (.int (2 : Int32)), .val (.int (1 : Int32)), .val (.ref b31), .val (.ref b34), .val (.int (0 : Int32)), .val (.int (0 : Int32)), .unset]) rfl k) ?_
          show Go _ _ _ _ T41 (mkF m 102 #[.val (.int p1), .val (.int p2), .val (.int p3), .val (.int p4), .val (.int p5), .val (.int p6), .val (.int (2 : Int32)), .val (.int (1 : Int32)), .val (.ref b31), .val (.ref b34), .val (.int (0 : Int32)), .val (.int (0 : Int32)), .unset] [])
          refine Go.st (fun t k => XS.iload X41.here hx rfl (hb hby at_102) rfl k) ?_
          show Go _ _ _ _ T41 (mkF m 104 #[.val (.int p1), .val (.int p2), .val (.int p3), .val (.int p4), .val (.int p5), .val (.int p6), .val (.int (2 : Int32)), .val (.int (1 : Int32)), .val (.ref b31), .val (.ref b34), .val (.int (0 : Int32)), .val (.int (0 : Int32)), .unset] [(.int (2 : Int32))])
          refine Go.st (fun t k => XS.iconst X41.here hx rfl (hb hby at_104) k) ?_
          show Go _ _ _ _ T41 (mkF m 105 #[.val (.int p1), .val (.int p2), .val (.int p3), .val (.int p4), .val (.int p5), .val (.int p6), .val (.int (2 : Int32)), .val (.int (1 : Int32)), .val (.ref b31), .val (.ref b34), .val (.int (0 : Int32)), .val (.int (0 : Int32)), .unset] [(.int (2 : Int32)), (.int (2 : Int32))])
          refine Go.st (fun t k => XS.icmpNo X41.here hx rfl (hb hby at_105) rfl (by decide) k) ?_
          show Go _ _ _ _ T41 (mkF m 108 #[.val (.int p1), .val (.int p2), .val (.int p3), .val (.int p4), .val (.int p5), .val (.int p6), .val (.int (2 : Int32)), .val (.int (1 : Int32)), .val (.ref b31), .val (.ref b34), .val (.int (0 : Int32)), .val (.int (0 : Int32)), .unset] [])
          refine Go.st (fun t k => XS.iload X41.here hx rfl (hb hby at_108) rfl k) ?_
          show Go _ _ _ _ T41 (mkF m 110 #[.val (.int p1), .val (.int p2), .val (.int p3), .val (.int p4), .val (.int p5), .val (.int p6), .val (.int (2 : Int32)), .val (.int (1 : Int32)), .val (.ref b31), .val (.ref b34), .val (.int (0 : Int32)), .val (.int (0 : Int32)), .unset] [(.int (1 : Int32))])
          refine Go.st (fun t k => XS.iload X41.here hx rfl (hb hby at_110) rfl k) ?_
          show Go _ _ _ _ T41 (mkF m 112 #[.val (.int p1), .val (.int p2), .val (.int p3), .val (.int p4), .val (.int p5), .val (.int p6), .val (.int (2 : Int32)), .val (.int (1 : Int32)), .val (.ref b31), .val (.ref b34), .val (.int (0 : Int32)), .val (.int (0 : Int32)), .unset] [(.int (2 : Int32)), (.int (1 : Int32))])
          refine Go.st (fun t k => XS.iconst X41.here hx rfl (hb hby at_112) k) ?_
          show Go _ _ _ _ T41 (mkF m 113 #[.val (.int p1), .val (.int p2), .val (.int p3), .val (.int p4), .val (.int p5), .val (.int p6), .val (.int (2 : Int32)), .val (.int (1 : Int32)), .val (.ref b31), .val (.ref b34), .val (.int (0 : Int32)), .val (.int (0 : Int32)), .unset] [(.int (2 : Int32)), (.int (2 : Int32)), (.int (1 : Int32))])
          refine Go.st (fun t k => XS.isub X41.here hx rfl (hb hby at_113) rfl k) ?_
          show Go _ _ _ _ T41 (mkF m 114 #[.val (.int p1), .val (.int p2), .val (.int p3), .val (.int p4), .val (.int p5), .val (.int p6), .val (.int (2 : Int32)), .val (.int (1 : Int32)), .val (.ref b31), .val (.ref b34), .val (.int (0 : Int32)), .val (.int (0 : Int32)), .unset] [(.int (0 : Int32)), (.int (1 : Int32))])
          refine Go.st (fun t k => XS.icmpYes X41.here hx rfl (pc0 := 114) (pc' := 134) rfl (hb hby at_114) rfl (by decide) (by decide) (by decide) k) ?_
          show Go _ _ _ _ T41 (mkF m 134 #[.val (.int p1), .val (.int p2), .val (.int p3), .val (.int p4), .val (.int p5), .val (.int p6), .val (.int (2 : Int32)), .val (.int (1 : Int32)), .val (.ref b31), .val (.ref b34), .val (.int (0 : Int32)), .val (.int (0 : Int32)), .unset] [])
          refine Go.st (fun t k => XS.iload X41.here hx rfl (hb hby at_134) rfl k) ?_
          show Go _ _ _ _ T41 (mkF m 136 #[.val (.int p1), .val (.int p2), .val (.int p3), .val (.int p4), .val (.int p5), .val (.int p6), .val (.int (2 : Int32)), .val (.int (1 : Int32)), .val (.ref b31), .val (.ref b34), .val (.int (0 : Int32)), .val (.int (0 : Int32)), .unset] [(.int (0 : Int32))])
          refine Go.st (fun t k => XS.iload X41.here hx rfl (hb hby at_136) rfl k) ?_
          show Go _ _ _ _ T41 (mkF m 138 #[.val (.int p1), .val (.int p2), .val (.int p3), .val (.int p4), .val (.int p5), .val (.int p6), .val (.int (2 : Int32)), .val (.int (1 : Int32)), .val (.ref b31), .val (.ref b34), .val (.int (0 : Int32)), .val (.int (0 : Int32)), .unset] [(.int (2 : Int32)), (.int (0 : Int32))])
          refine Go.st (fun t k => XS.icmpYes X41.here hx rfl (pc0 := 138) (pc' := 147) rfl (hb hby at_138) rfl (by decide) (by decide) (by decide) k) ?_
          show Go _ _ _ _ T41 (mkF m 147 #[.val (.int p1), .val (.int p2), .val (.int p3), .val (.int p4), .val (.int p5), .val (.int p6), .val (.int (2 : Int32)), .val (.int (1 : Int32)), .val (.ref b31), .val (.ref b34), .val (.int (0 : Int32)), .val (.int (0 : Int32)), .unset] [])
          refine Go.st (fun t k => XS.iload X41.here hx rfl (hb hby at_147) rfl k) ?_
          show Go _ _ _ _ T41 (mkF m 149 #[.val (.int p1), .val (.int p2), .val (.int p3), .val (.int p4), .val (.int p5), .val (.int p6), .val (.int (2 : Int32)), .val (.int (1 : Int32)), .val (.ref b31), .val (.ref b34), .val (.int (0 : Int32)), .val (.int (0 : Int32)), .unset] [(.int (0 : Int32))])
          refine Go.st (fun t k => XS.ifNo X41.here hx rfl (hb hby at_149) rfl (by decide) k) ?_
          show Go _ _ _ _ T41 (mkF m 152 #[.val (.int p1), .val (.int p2), .val (.int p3), .val (.int p4), .val (.int p5), .val (.int p6), .val (.int (2 : Int32)), .val (.int (1 : Int32)), .val (.ref b31), .val (.ref b34), .val (.int (0 : Int32)), .val (.int (0 : Int32)), .unset] [])
          refine Go.st (fun t k => XS.iloadN X41.here hx rfl (hb hby at_152) rfl k) ?_
          show Go _ _ _ _ T41 (mkF m 153 #[.val (.int p1), .val (.int p2), .val (.int p3), .val (.int p4), .val (.int p5), .val (.int p6), .val (.int (2 : Int32)), .val (.int (1 : Int32)), .val (.ref b31), .val (.ref b34), .val (.int (0 : Int32)), .val (.int (0 : Int32)), .unset] [(.int p2)])
          refine Go.st (fun t k => XS.sipush X41.here hx rfl (hb hby at_153) k) ?_
          show Go _ _ _ _ T41 (mkF m 156 #[.val (.int p1), .val (.int p2), .val (.int p3), .val (.int p4), .val (.int p5), .val (.int p6), .val (.int (2 : Int32)), .val (.int (1 : Int32)), .val (.ref b31), .val (.ref b34), .val (.int (0 : Int32)), .val (.int (0 : Int32)), .unset] [(.int (255 : Int32)), (.int p2)])
          refine Go.st (fun t k => XS.iand X41.here hx rfl (hb hby at_156) rfl k) ?_
          show Go _ _ _ _ T41 (mkF m 157 #[.val (.int p1), .val (.int p2), .val (.int p3), .val (.int p4), .val (.int p5), .val (.int p6), .val (.int (2 : Int32)), .val (.int (1 : Int32)), .val (.ref b31), .val (.ref b34), .val (.int (0 : Int32)), .val (.int (0 : Int32)), .unset] [(.int (p2 &&& (255 : Int32)))])
          refine Go.st (fun t k => XS.iload X41.here hx rfl (hb hby at_157) rfl k) ?_
          show Go _ _ _ _ T41 (mkF m 159 #[.val (.int p1), .val (.int p2), .val (.int p3), .val (.int p4), .val (.int p5), .val (.int p6), .val (.int (2 : Int32)), .val (.int (1 : Int32)), .val (.ref b31), .val (.ref b34), .val (.int (0 : Int32)), .val (.int (0 : Int32)), .unset] [(.int p6), (.int (p2 &&& (255 : Int32)))])
          by_cases hE2 : (p2 &&& (255 : Int32)) = p6
          ·
            refine Go.st (fun t k => XS.icmpNo X41.here hx rfl (hb hby at_159) rfl (teq hE2).2 k) ?_
            show Go _ _ _ _ T41 (mkF m 162 #[.val (.int p1), .val (.int p2), .val (.int p3), .val (.int p4), .val (.int p5), .val (.int p6), .val (.int (2 : Int32)), .val (.int (1 : Int32)), .val (.ref b31), .val (.ref b34), .val (.int (0 : Int32)), .val (.int (0 : Int32)), .unset] [])
            refine Go.st (fun t k => XS.iconst X41.here hx rfl (hb hby at_162) k) ?_
            show Go _ _ _ _ T41 (mkF m 163 #[.val (.int p1), .val (.int p2), .val (.int p3), .val (.int p4), .val (.int p5), .val (.int p6), .val (.int (2 : Int32)), .val (.int (1 : Int32)), .val (.ref b31), .val (.ref b34), .val (.int (0 : Int32)), .val (.int (0 : Int32)), .unset] [(.int (1 : Int32))])
            refine Go.st (fun t k => XS.goto X41.here hx rfl (pc0 := 163) (pc' := 167) rfl (hb hby at_163) (by decide) (by decide) k) ?_
            show Go _ _ _ _ T41 (mkF m 167 #[.val (.int p1), .val (.int p2), .val (.int p3), .val (.int p4), .val (.int p5), .val (.int p6), .val (.int (2 : Int32)), .val (.int (1 : Int32)), .val (.ref b31), .val (.ref b34), .val (.int (0 : Int32)), .val (.int (0 : Int32)), .unset] [(.int (1 : Int32))])
            refine Go.st (fun t k => XS.istore X41.here hx rfl (hb hby at_167) rfl (l' := #[.val (.int p1), .val (.int p2), .val (.int p3), .val (.int p4), .val (.int p5), .val (.int p6), .val (.int (2 : Int32)), .val (.int (1 : Int32)), .val (.ref b31), .val (.ref b34), .val (.int (0 : Int32)), .val (.int (0 : Int32)), .val (.int (1 : Int32))]) rfl k) ?_
            show Go _ _ _ _ T41 (mkF m 169 #[.val (.int p1), .val (.int p2), .val (.int p3), .val (.int p4), .val (.int p5), .val (.int p6), .val (.int (2 : Int32)), .val (.int (1 : Int32)), .val (.ref b31), .val (.ref b34), .val (.int (0 : Int32)), .val (.int (0 : Int32)), .val (.int (1 : Int32))] [])
            refine Go.st (fun t k => XS.goto X41.here hx rfl (pc0 := 169) (pc' := 189) rfl (hb hby at_169) (by decide) (by decide) k) ?_
            show Go _ _ _ _ T41 (mkF m 189 #[.val (.int p1), .val (.int p2), .val (.int p3), .val (.int p4), .val (.int p5), .val (.int p6), .val (.int (2 : Int32)), .val (.int (1 : Int32)), .val (.ref b31), .val (.ref b34), .val (.int (0 : Int32)), .val (.int (0 : Int32)), .val (.int (1 : Int32))] [])
            refine Go.st (fun t k => XS.aload X41.here hx rfl (hb hby at_189) rfl rfl k) ?_
            show Go _ _ _ _ T41 (mkF m 191 #[.val (.int p1), .val (.int p2), .val (.int p3), .val (.int p4), .val (.int p5), .val (.int p6), .val (.int (2 : Int32)), .val (.int (1 : Int32)), .val (.ref b31), .val (.ref b34), .val (.int (0 : Int32)), .val (.int (0 : Int32)), .val (.int (1 : Int32))] [(.ref b34)])
            refine Go.st (fun t k => XS.iload X41.here hx rfl (hb hby at_191) rfl k) ?_
            show Go _ _ _ _ T41 (mkF m 193 #[.val (.int p1), .val (.int p2), .val (.int p3), .val (.int p4), .val (.int p5), .val (.int p6), .val (.int (2 : Int32)), .val (.int (1 : Int32)), .val (.ref b31), .val (.ref b34), .val (.int (0 : Int32)), .val (.int (0 : Int32)), .val (.int (1 : Int32))] [(.int p6), (.ref b34)])
            refine goM X41 hx hZ (y := (⟨"com/example/vetter/vetter/io/DerReader", "nextIs", "(I)Z"⟩ : MethodName)) (z := (⟨"com/example/vetter/vetter/io/DerReader", "nextIs", "(I)Z"⟩ : MethodName)) hown (hw _ (List.mem_of_getElem? (i := 12) rfl)) (hw _ (List.mem_of_getElem? (i := 13) rfl)) (hw _ (List.mem_of_getElem? (i := 15) rfl)) (hw _ (List.mem_of_getElem? (i := 14) rfl)) (hw _ (List.mem_of_getElem? (i := 16) rfl)) (hw _ (List.mem_of_getElem? (i := 3) rfl)) (notFace_of_selects (args := #[]) (mvT hZ (hw _ (List.mem_of_getElem? (i := 15) rfl)))) (by decide) (rm3 l Z a0 hw b34 p6 T35.heap n0 Z35 (0 : Int32) b31 2 _ (2 : Int32) ((p2.toInt8.toInt32).toInt8.toInt32) F_position_b34 F_data_b34 V_b31 rfl (fun _ => ⟨0, ⟨by decide, rfl, by decide⟩, rfl⟩)) e41 N41 E_b34 0 (by decide) (by decide) (by decide) (by decide) (g := (mkF m 193 #[.val (.int p1), .val (.int p2), .val (.int p3), .val (.int p4), .val (.int p5), .val (.int p6), .val (.int (2 : Int32)), .val (.int (1 : Int32)), .val (.ref b31), .val (.ref b34), .val (.int (0 : Int32)), .val (.int (0 : Int32)), .val (.int (1 : Int32))] [(.int p6), (.ref b34)])) rfl (by rw [hml]; rfl) [(.int p6)] [] (lenOf pd0_1 rfl) rfl rfl (by show 2 * 0 + _ ≤ _; exact Nat.le_of_eq rfl) (hb hby at_193) ?_
            intro T43 v43 L43 M43 X43 N43 hq43
            obtain ⟨hq43, N43q, e43⟩ := hq43
            replace N43 := N43 N43q
            rcases hq43 with ⟨hA43, hB43, rfl⟩ | ⟨hr43, rfl⟩
            ·
              show Go _ _ _ _ T43 (mkF m 196 #[.val (.int p1), .val (.int p2), .val (.int p3), .val (.int p4), .val (.int p5), .val (.int p6), .val (.int (2 : Int32)), .val (.int (1 : Int32)), .val (.ref b31), .val (.ref b34), .val (.int (0 : Int32)), .val (.int (0 : Int32)), .val (.int (1 : Int32))] [(.int (1 : Int32))])
              refine Go.st (fun t k => XS.iload X43.here hx rfl (hb hby at_196) rfl k) ?_
              show Go _ _ _ _ T43 (mkF m 198 #[.val (.int p1), .val (.int p2), .val (.int p3), .val (.int p4), .val (.int p5), .val (.int p6), .val (.int (2 : Int32)), .val (.int (1 : Int32)), .val (.ref b31), .val (.ref b34), .val (.int (0 : Int32)), .val (.int (0 : Int32)), .val (.int (1 : Int32))] [(.int (1 : Int32)), (.int (1 : Int32))])
              refine Go.st (fun t k => XS.icmpNo X43.here hx rfl (hb hby at_198) rfl (by decide) k) ?_
              show Go _ _ _ _ T43 (mkF m 201 #[.val (.int p1), .val (.int p2), .val (.int p3), .val (.int p4), .val (.int p5), .val (.int p6), .val (.int (2 : Int32)), .val (.int (1 : Int32)), .val (.ref b31), .val (.ref b34), .val (.int (0 : Int32)), .val (.int (0 : Int32)), .val (.int (1 : Int32))] [])
              refine Go.st (fun t k => XS.iconst X43.here hx rfl (hb hby at_201) k) ?_
              show Go _ _ _ _ T43 (mkF m 202 #[.val (.int p1), .val (.int p2), .val (.int p3), .val (.int p4), .val (.int p5), .val (.int p6), .val (.int (2 : Int32)), .val (.int (1 : Int32)), .val (.ref b31), .val (.ref b34), .val (.int (0 : Int32)), .val (.int (0 : Int32)), .val (.int (1 : Int32))] [(.int (1 : Int32))])
              refine Go.st (fun t k => XS.goto X43.here hx rfl (pc0 := 202) (pc' := 206) rfl (hb hby at_202) (by decide) (by decide) k) ?_
              show Go _ _ _ _ T43 (mkF m 206 #[.val (.int p1), .val (.int p2), .val (.int p3), .val (.int p4), .val (.int p5), .val (.int p6), .val (.int (2 : Int32)), .val (.int (1 : Int32)), .val (.ref b31), .val (.ref b34), .val (.int (0 : Int32)), .val (.int (0 : Int32)), .val (.int (1 : Int32))] [(.int (1 : Int32))])
              exact goN X43 hx hret hlk (by simp) (hb hby at_206) (by decide) (by decide) ⟨rfl, N43⟩
            ·
              exact absurd ⟨by decide, (own_m _).trans hE2⟩ hr43
          ·
            refine Go.st (fun t k => XS.icmpYes X41.here hx rfl (pc0 := 159) (pc' := 166) rfl (hb hby at_159) rfl (feq hE2).2 (by decide) (by decide) k) ?_
            show Go _ _ _ _ T41 (mkF m 166 #[.val (.int p1), .val (.int p2), .val (.int p3), .val (.int p4), .val (.int p5), .val (.int p6), .val (.int (2 : Int32)), .val (.int (1 : Int32)), .val (.ref b31), .val (.ref b34), .val (.int (0 : Int32)), .val (.int (0 : Int32)), .unset] [])
            refine Go.st (fun t k => XS.iconst X41.here hx rfl (hb hby at_166) k) ?_
            show Go _ _ _ _ T41 (mkF m 167 #[.val (.int p1), .val (.int p2), .val (.int p3), .val (.int p4), .val (.int p5), .val (.int p6), .val (.int (2 : Int32)), .val (.int (1 : Int32)), .val (.ref b31), .val (.ref b34), .val (.int (0 : Int32)), .val (.int (0 : Int32)), .unset] [(.int (0 : Int32))])
            refine Go.st (fun t k => XS.istore X41.here hx rfl (hb hby at_167) rfl (l' := #[.val (.int p1), .val (.int p2), .val (.int p3), .val (.int p4), .val (.int p5), .val (.int p6), .val (.int (2 : Int32)), .val (.int (1 : Int32)), .val (.ref b31), .val (.ref b34), .val (.int (0 : Int32)), .val (.int (0 : Int32)), .val (.int (0 : Int32))]) rfl k) ?_
            show Go _ _ _ _ T41 (mkF m 169 #[.val (.int p1), .val (.int p2), .val (.int p3), .val (.int p4), .val (.int p5), .val (.int p6), .val (.int (2 : Int32)), .val (.int (1 : Int32)), .val (.ref b31), .val (.ref b34), .val (.int (0 : Int32)), .val (.int (0 : Int32)), .val (.int (0 : Int32))] [])
            refine Go.st (fun t k => XS.goto X41.here hx rfl (pc0 := 169) (pc' := 189) rfl (hb hby at_169) (by decide) (by decide) k) ?_
            show Go _ _ _ _ T41 (mkF m 189 #[.val (.int p1), .val (.int p2), .val (.int p3), .val (.int p4), .val (.int p5), .val (.int p6), .val (.int (2 : Int32)), .val (.int (1 : Int32)), .val (.ref b31), .val (.ref b34), .val (.int (0 : Int32)), .val (.int (0 : Int32)), .val (.int (0 : Int32))] [])
            refine Go.st (fun t k => XS.aload X41.here hx rfl (hb hby at_189) rfl rfl k) ?_
            show Go _ _ _ _ T41 (mkF m 191 #[.val (.int p1), .val (.int p2), .val (.int p3), .val (.int p4), .val (.int p5), .val (.int p6), .val (.int (2 : Int32)), .val (.int (1 : Int32)), .val (.ref b31), .val (.ref b34), .val (.int (0 : Int32)), .val (.int (0 : Int32)), .val (.int (0 : Int32))] [(.ref b34)])
            refine Go.st (fun t k => XS.iload X41.here hx rfl (hb hby at_191) rfl k) ?_
            show Go _ _ _ _ T41 (mkF m 193 #[.val (.int p1), .val (.int p2), .val (.int p3), .val (.int p4), .val (.int p5), .val (.int p6), .val (.int (2 : Int32)), .val (.int (1 : Int32)), .val (.ref b31), .val (.ref b34), .val (.int (0 : Int32)), .val (.int (0 : Int32)), .val (.int (0 : Int32))] [(.int p6), (.ref b34)])
            refine goM X41 hx hZ (y := (⟨"com/example/vetter/vetter/io/DerReader", "nextIs", "(I)Z"⟩ : MethodName)) (z := (⟨"com/example/vetter/vetter/io/DerReader", "nextIs", "(I)Z"⟩ : MethodName)) hown (hw _ (List.mem_of_getElem? (i := 12) rfl)) (hw _ (List.mem_of_getElem? (i := 13) rfl)) (hw _ (List.mem_of_getElem? (i := 15) rfl)) (hw _ (List.mem_of_getElem? (i := 14) rfl)) (hw _ (List.mem_of_getElem? (i := 16) rfl)) (hw _ (List.mem_of_getElem? (i := 3) rfl)) (notFace_of_selects (args := #[]) (mvT hZ (hw _ (List.mem_of_getElem? (i := 15) rfl)))) (by decide) (rm3 l Z a0 hw b34 p6 T35.heap n0 Z35 (0 : Int32) b31 2 _ (2 : Int32) ((p2.toInt8.toInt32).toInt8.toInt32) F_position_b34 F_data_b34 V_b31 rfl (fun _ => ⟨0, ⟨by decide, rfl, by decide⟩, rfl⟩)) e41 N41 E_b34 0 (by decide) (by decide) (by decide) (by decide) (g := (mkF m 193 #[.val (.int p1), .val (.int p2), .val (.int p3), .val (.int p4), .val (.int p5), .val (.int p6), .val (.int (2 : Int32)), .val (.int (1 : Int32)), .val (.ref b31), .val (.ref b34), .val (.int (0 : Int32)), .val (.int (0 : Int32)), .val (.int (0 : Int32))] [(.int p6), (.ref b34)])) rfl (by rw [hml]; rfl) [(.int p6)] [] (lenOf pd0_1 rfl) rfl rfl (by show 2 * 0 + _ ≤ _; exact Nat.le_of_eq rfl) (hb hby at_193) ?_
            intro T44 v44 L44 M44 X44 N44 hq44
            obtain ⟨hq44, N44q, e44⟩ := hq44
            replace N44 := N44 N44q
            rcases hq44 with ⟨hA44, hB44, rfl⟩ | ⟨hr44, rfl⟩
            ·
              exact absurd ((own_m _).symm.trans hB44) hE2
            ·
              show Go _ _ _ _ T44 (mkF m 196 #[.val (.int p1), .val (.int p2), .val (.int p3), .val (.int p4), .val (.int p5), .val (.int p6), .val (.int (2 : Int32)), .val (.int (1 : Int32)), .val (.ref b31), .val (.ref b34), .val (.int (0 : Int32)), .val (.int (0 : Int32)), .val (.int (0 : Int32))] [(.int (0 : Int32))])
              refine Go.st (fun t k => XS.iload X44.here hx rfl (hb hby at_196) rfl k) ?_
              show Go _ _ _ _ T44 (mkF m 198 #[.val (.int p1), .val (.int p2), .val (.int p3), .val (.int p4), .val (.int p5), .val (.int p6), .val (.int (2 : Int32)), .val (.int (1 : Int32)), .val (.ref b31), .val (.ref b34), .val (.int (0 : Int32)), .val (.int (0 : Int32)), .val (.int (0 : Int32))] [(.int (0 : Int32)), (.int (0 : Int32))])
              refine Go.st (fun t k => XS.icmpNo X44.here hx rfl (hb hby at_198) rfl (by decide) k) ?_
              show Go _ _ _ _ T44 (mkF m 201 #[.val (.int p1), .val (.int p2), .val (.int p3), .val (.int p4), .val (.int p5), .val (.int p6), .val (.int (2 : Int32)), .val (.int (1 : Int32)), .val (.ref b31), .val (.ref b34), .val (.int (0 : Int32)), .val (.int (0 : Int32)), .val (.int (0 : Int32))] [])
              refine Go.st (fun t k => XS.iconst X44.here hx rfl (hb hby at_201) k) ?_
              show Go _ _ _ _ T44 (mkF m 202 #[.val (.int p1), .val (.int p2), .val (.int p3), .val (.int p4), .val (.int p5), .val (.int p6), .val (.int (2 : Int32)), .val (.int (1 : Int32)), .val (.ref b31), .val (.ref b34), .val (.int (0 : Int32)), .val (.int (0 : Int32)), .val (.int (0 : Int32))] [(.int (1 : Int32))])
              refine Go.st (fun t k => XS.goto X44.here hx rfl (pc0 := 202) (pc' := 206) rfl (hb hby at_202) (by decide) (by decide) k) ?_
              show Go _ _ _ _ T44 (mkF m 206 #[.val (.int p1), .val (.int p2), .val (.int p3), .val (.int p4), .val (.int p5), .val (.int p6), .val (.int (2 : Int32)), .val (.int (1 : Int32)), .val (.ref b31), .val (.ref b34), .val (.int (0 : Int32)), .val (.int (0 : Int32)), .val (.int (0 : Int32))] [(.int (1 : Int32))])
              exact goN X44 hx hret hlk (by simp) (hb hby at_206) (by decide) (by decide) ⟨rfl, N44⟩
  ·
    rcases and_one p3 with hsk | hsk <;> rw [hsk]
    ·
      show Go _ _ _ _ T0 (mkF m 10 #[.val (.int p1), .val (.int p2), .val (.int p3), .val (.int p4), .val (.int p5), .val (.int p6), .val (.int (3 : Int32)), .val (.int (0 : Int32)), .unset, .unset, .unset, .unset, .unset] [])
      show Go _ _ _ _ T0 (mkF m 10 #[.val (.int p1), .val (.int p2), .val (.int p3), .val (.int p4), .val (.int p5), .val (.int p6), .val (.int (3 : Int32)), .val (.int (0 : Int32)), .unset, .unset, .unset, .unset, .unset] [])
      refine Go.st (fun t k => XS.iload X0.here hx rfl (hb hby at_10) rfl k) ?_
      show Go _ _ _ _ T0 (mkF m 12 #[.val (.int p1), .val (.int p2), .val (.int p3), .val (.int p4), .val (.int p5), .val (.int p6), .val (.int (3 : Int32)), .val (.int (0 : Int32)), .unset, .unset, .unset, .unset, .unset] [(.int (3 : Int32))])
      refine goNew X0 hx hZ (hw _ (List.mem_of_getElem? (i := 0) rfl)) e0 Z0 (by decide) (show Int32.toNatClampNeg (3 : Int32) = 3 from rfl) 3 (by decide) (by decide) (by decide) (by decide) (g := (mkF m 12 #[.val (.int p1), .val (.int p2), .val (.int p3), .val (.int p4), .val (.int p5), .val (.int p6), .val (.int (3 : Int32)), .val (.int (0 : Int32)), .unset, .unset, .unset, .unset, .unset] [(.int (3 : Int32))])) rfl rfl (hb hby at_12) ?_
      intro T45 h45 b45 X45 e45 E45 qz45 g_b45 Z45 V_b45
      replace V_b45 : BA Z h45 b45 .byte 3 (fun _ => (.int (0 : Int32))) := V_b45
      show Go _ _ _ _ T45 (mkF m 14 #[.val (.int p1), .val (.int p2), .val (.int p3), .val (.int p4), .val (.int p5), .val (.int p6), .val (.int (3 : Int32)), .val (.int (0 : Int32)), .unset, .unset, .unset, .unset, .unset] [(.ref b45)])
      refine Go.st (fun t k => XS.astore X45.here hx rfl (hb hby at_14) rfl rfl (l' := #[.val (.int p1), .val (.int p2), .val (.int p3), .val (.int p4), .val (.int p5), .val (.int p6), .val (.int (3 : Int32)), .val (.int (0 : Int32)), .val (.ref b45), .unset, .unset, .unset, .unset]) rfl k) ?_
      show Go _ _ _ _ T45 (mkF m 16 #[.val (.int p1), .val (.int p2), .val (.int p3), .val (.int p4), .val (.int p5), .val (.int p6), .val (.int (3 : Int32)), .val (.int (0 : Int32)), .val (.ref b45), .unset, .unset, .unset, .unset] [])
      refine Go.st (fun t k => XS.iload X45.here hx rfl (hb hby at_16) rfl k) ?_
      show Go _ _ _ _ T45 (mkF m 18 #[.val (.int p1), .val (.int p2), .val (.int p3), .val (.int p4), .val (.int p5), .val (.int p6), .val (.int (3 : Int32)), .val (.int (0 : Int32)), .val (.ref b45), .unset, .unset, .unset, .unset] [(.int (3 : Int32))])
      refine Go.st (fun t k => XS.ifNo X45.here hx rfl (hb hby at_18) rfl (by decide) k) ?_
      show Go _ _ _ _ T45 (mkF m 21 #[.val (.int p1), .val (.int p2), .val (.int p3), .val (.int p4), .val (.int p5), .val (.int p6), .val (.int (3 : Int32)), .val (.int (0 : Int32)), .val (.ref b45), .unset, .unset, .unset, .unset] [])
      refine Go.st (fun t k => XS.aload X45.here hx rfl (hb hby at_21) rfl rfl k) ?_
      show Go _ _ _ _ T45 (mkF m 23 #[.val (.int p1), .val (.int p2), .val (.int p3), .val (.int p4), .val (.int p5), .val (.int p6), .val (.int (3 : Int32)), .val (.int (0 : Int32)), .val (.ref b45), .unset, .unset, .unset, .unset] [(.ref b45)])
      refine Go.st (fun t k => XS.iconst X45.here hx rfl (hb hby at_23) k) ?_
      show Go _ _ _ _ T45 (mkF m 24 #[.val (.int p1), .val (.int p2), .val (.int p3), .val (.int p4), .val (.int p5), .val (.int p6), .val (.int (3 : Int32)), .val (.int (0 : Int32)), .val (.ref b45), .unset, .unset, .unset, .unset] [(.int (0 : Int32)), (.ref b45)])
      refine Go.st (fun t k => XS.iloadN X45.here hx rfl (hb hby at_24) rfl k) ?_
      show Go _ _ _ _ T45 (mkF m 25 #[.val (.int p1), .val (.int p2), .val (.int p3), .val (.int p4), .val (.int p5), .val (.int p6), .val (.int (3 : Int32)), .val (.int (0 : Int32)), .val (.ref b45), .unset, .unset, .unset, .unset] [(.int p2), (.int (0 : Int32)), (.ref b45)])
      refine Go.st (fun t k => XS.i2b X45.here hx rfl (hb hby at_25) rfl k) ?_
      show Go _ _ _ _ T45 (mkF m 26 #[.val (.int p1), .val (.int p2), .val (.int p3), .val (.int p4), .val (.int p5), .val (.int p6), .val (.int (3 : Int32)), .val (.int (0 : Int32)), .val (.ref b45), .unset, .unset, .unset, .unset] [(.int (p2.toInt8.toInt32)), (.int (0 : Int32)), (.ref b45)])
      refine goStB X45 hx hZ e45 N0 V_b45 g_b45 (g := (mkF m 26 #[.val (.int p1), .val (.int p2), .val (.int p3), .val (.int p4), .val (.int p5), .val (.int p6), .val (.int (3 : Int32)), .val (.int (0 : Int32)), .val (.ref b45), .unset, .unset, .unset, .unset] [(.int (p2.toInt8.toInt32)), (.int (0 : Int32)), (.ref b45)])) rfl rfl (hb hby at_26) (k := 0) ⟨by decide, rfl, by decide⟩ ?_
      intro T46 h46 L46 X46 e46 N46 W46 V_b45
      have Z46 := own_sz W46 Z45
      show Go _ _ _ _ T46 (mkF m 27 #[.val (.int p1), .val (.int p2), .val (.int p3), .val (.int p4), .val (.int p5), .val (.int p6), .val (.int (3 : Int32)), .val (.int (0 : Int32)), .val (.ref b45), .unset, .unset, .unset, .unset] [])
      refine Go.st (fun t k => XS.iload X46.here hx rfl (hb hby at_27) rfl k) ?_
      show Go _ _ _ _ T46 (mkF m 29 #[.val (.int p1), .val (.int p2), .val (.int p3), .val (.int p4), .val (.int p5), .val (.int p6), .val (.int (3 : Int32)), .val (.int (0 : Int32)), .val (.ref b45), .unset, .unset, .unset, .unset] [(.int (3 : Int32))])
      refine Go.st (fun t k => XS.iconst X46.here hx rfl (hb hby at_29) k) ?_
      show Go _ _ _ _ T46 (mkF m 30 #[.val (.int p1), .val (.int p2), .val (.int p3), .val (.int p4), .val (.int p5), .val (.int p6), .val (.int (3 : Int32)), .val (.int (0 : Int32)), .val (.ref b45), .unset, .unset, .unset, .unset] [(.int (1 : Int32)), (.int (3 : Int32))])
      refine Go.st (fun t k => XS.icmpNo X46.here hx rfl (hb hby at_30) rfl (by decide) k) ?_
      show Go _ _ _ _ T46 (mkF m 33 #[.val (.int p1), .val (.int p2), .val (.int p3), .val (.int p4), .val (.int p5), .val (.int p6), .val (.int (3 : Int32)), .val (.int (0 : Int32)), .val (.ref b45), .unset, .unset, .unset, .unset] [])
      refine Go.st (fun t k => XS.aload X46.here hx rfl (hb hby at_33) rfl rfl k) ?_
      show Go _ _ _ _ T46 (mkF m 35 #[.val (.int p1), .val (.int p2), .val (.int p3), .val (.int p4), .val (.int p5), .val (.int p6), .val (.int (3 : Int32)), .val (.int (0 : Int32)), .val (.ref b45), .unset, .unset, .unset, .unset] [(.ref b45)])
      refine Go.st (fun t k => XS.iconst X46.here hx rfl (hb hby at_35) k) ?_
      show Go _ _ _ _ T46 (mkF m 36 #[.val (.int p1), .val (.int p2), .val (.int p3), .val (.int p4), .val (.int p5), .val (.int p6), .val (.int (3 : Int32)), .val (.int (0 : Int32)), .val (.ref b45), .unset, .unset, .unset, .unset] [(.int (1 : Int32)), (.ref b45)])
      refine Go.st (fun t k => XS.iload X46.here hx rfl (hb hby at_36) rfl k) ?_
      show Go _ _ _ _ T46 (mkF m 38 #[.val (.int p1), .val (.int p2), .val (.int p3), .val (.int p4), .val (.int p5), .val (.int p6), .val (.int (3 : Int32)), .val (.int (0 : Int32)), .val (.ref b45), .unset, .unset, .unset, .unset] [(.int (0 : Int32)), (.int (1 : Int32)), (.ref b45)])
      refine Go.st (fun t k => XS.i2b X46.here hx rfl (hb hby at_38) rfl k) ?_
      show Go _ _ _ _ T46 (mkF m 39 #[.val (.int p1), .val (.int p2), .val (.int p3), .val (.int p4), .val (.int p5), .val (.int p6), .val (.int (3 : Int32)), .val (.int (0 : Int32)), .val (.ref b45), .unset, .unset, .unset, .unset] [(.int ((0 : Int32).toInt8.toInt32)), (.int (1 : Int32)), (.ref b45)])
      refine goStB X46 hx hZ e46 N46 V_b45 g_b45 (g := (mkF m 39 #[.val (.int p1), .val (.int p2), .val (.int p3), .val (.int p4), .val (.int p5), .val (.int p6), .val (.int (3 : Int32)), .val (.int (0 : Int32)), .val (.ref b45), .unset, .unset, .unset, .unset] [(.int ((0 : Int32).toInt8.toInt32)), (.int (1 : Int32)), (.ref b45)])) rfl rfl (hb hby at_39) (k := 1) ⟨by decide, rfl, by decide⟩ ?_
      intro T47 h47 L47 X47 e47 N47 W47 V_b45
      have Z47 := own_sz W47 Z46
      show Go _ _ _ _ T47 (mkF m 40 #[.val (.int p1), .val (.int p2), .val (.int p3), .val (.int p4), .val (.int p5), .val (.int p6), .val (.int (3 : Int32)), .val (.int (0 : Int32)), .val (.ref b45), .unset, .unset, .unset, .unset] [])
      refine Go.st (fun t k => XS.iload X47.here hx rfl (hb hby at_40) rfl k) ?_
      show Go _ _ _ _ T47 (mkF m 42 #[.val (.int p1), .val (.int p2), .val (.int p3), .val (.int p4), .val (.int p5), .val (.int p6), .val (.int (3 : Int32)), .val (.int (0 : Int32)), .val (.ref b45), .unset, .unset, .unset, .unset] [(.int (3 : Int32))])
      refine Go.st (fun t k => XS.iconst X47.here hx rfl (hb hby at_42) k) ?_
      show Go _ _ _ _ T47 (mkF m 43 #[.val (.int p1), .val (.int p2), .val (.int p3), .val (.int p4), .val (.int p5), .val (.int p6), .val (.int (3 : Int32)), .val (.int (0 : Int32)), .val (.ref b45), .unset, .unset, .unset, .unset] [(.int (2 : Int32)), (.int (3 : Int32))])
      refine Go.st (fun t k => XS.icmpNo X47.here hx rfl (hb hby at_43) rfl (by decide) k) ?_
      show Go _ _ _ _ T47 (mkF m 46 #[.val (.int p1), .val (.int p2), .val (.int p3), .val (.int p4), .val (.int p5), .val (.int p6), .val (.int (3 : Int32)), .val (.int (0 : Int32)), .val (.ref b45), .unset, .unset, .unset, .unset] [])
      refine Go.st (fun t k => XS.aload X47.here hx rfl (hb hby at_46) rfl rfl k) ?_
      show Go _ _ _ _ T47 (mkF m 48 #[.val (.int p1), .val (.int p2), .val (.int p3), .val (.int p4), .val (.int p5), .val (.int p6), .val (.int (3 : Int32)), .val (.int (0 : Int32)), .val (.ref b45), .unset, .unset, .unset, .unset] [(.ref b45)])
      refine Go.st (fun t k => XS.iconst X47.here hx rfl (hb hby at_48) k) ?_
      show Go _ _ _ _ T47 (mkF m 49 #[.val (.int p1), .val (.int p2), .val (.int p3), .val (.int p4), .val (.int p5), .val (.int p6), .val (.int (3 : Int32)), .val (.int (0 : Int32)), .val (.ref b45), .unset, .unset, .unset, .unset] [(.int (2 : Int32)), (.ref b45)])
      refine Go.st (fun t k => XS.iloadN X47.here hx rfl (hb hby at_49) rfl k) ?_
      show Go _ _ _ _ T47 (mkF m 50 #[.val (.int p1), .val (.int p2), .val (.int p3), .val (.int p4), .val (.int p5), .val (.int p6), .val (.int (3 : Int32)), .val (.int (0 : Int32)), .val (.ref b45), .unset, .unset, .unset, .unset] [(.int p4), (.int (2 : Int32)), (.ref b45)])
      refine Go.st (fun t k => XS.i2b X47.here hx rfl (hb hby at_50) rfl k) ?_
      show Go _ _ _ _ T47 (mkF m 51 #[.val (.int p1), .val (.int p2), .val (.int p3), .val (.int p4), .val (.int p5), .val (.int p6), .val (.int (3 : Int32)), .val (.int (0 : Int32)), .val (.ref b45), .unset, .unset, .unset, .unset] [(.int (p4.toInt8.toInt32)), (.int (2 : Int32)), (.ref b45)])
      refine goStB X47 hx hZ e47 N47 V_b45 g_b45 (g := (mkF m 51 #[.val (.int p1), .val (.int p2), .val (.int p3), .val (.int p4), .val (.int p5), .val (.int p6), .val (.int (3 : Int32)), .val (.int (0 : Int32)), .val (.ref b45), .unset, .unset, .unset, .unset] [(.int (p4.toInt8.toInt32)), (.int (2 : Int32)), (.ref b45)])) rfl rfl (hb hby at_51) (k := 2) ⟨by decide, rfl, by decide⟩ ?_
      intro T48 h48 L48 X48 e48 N48 W48 V_b45
      have Z48 := own_sz W48 Z47
      show Go _ _ _ _ T48 (mkF m 52 #[.val (.int p1), .val (.int p2), .val (.int p3), .val (.int p4), .val (.int p5), .val (.int p6), .val (.int (3 : Int32)), .val (.int (0 : Int32)), .val (.ref b45), .unset, .unset, .unset, .unset] [])
      obtain ⟨T49, h49, X49, e49, E49, A49, D49, -, st49⟩ := newO X48 hx hZ hown (hw _ (List.mem_of_getElem? (i := 1) rfl)) (hw _ (List.mem_of_getElem? (i := 2) rfl)) (hw _ (List.mem_of_getElem? (i := 3) rfl)) e48 (g := (mkF m 52 #[.val (.int p1), .val (.int p2), .val (.int p3), .val (.int p4), .val (.int p5), .val (.int p6), .val (.int (3 : Int32)), .val (.int (0 : Int32)), .val (.ref b45), .unset, .unset, .unset, .unset] [])) rfl (hb hby at_52) (by decide) (by decide)
      obtain ⟨b49, qz49⟩ : ∃ z, z = h48.size := ⟨_, rfl⟩
      rw [← qz49] at A49 D49 st49
      have g_b49 : n0 ≤ b49 := Nat.le_trans Z48 (Nat.le_of_eq qz49.symm)
      have Z49 := Nat.le_trans Z48 E49.1
      have ne_b45_b49 : b45 ≠ b49 := fun z => absurd V_b45.lt (by rw [z, qz49]; exact Nat.lt_irrefl _)
      have V_b45 := V_b45.ext E49
      have E_b49 := A49
      have F_data_b49 : Fld Z h49 b49 "com/example/vetter/vetter/io/DerReader" "data" "[B" .null := D49 (Or.inr (hw _ (List.mem_of_getElem? (i := 11) rfl))) (ty := (.array .byte)) (by decide)
      have F_position_b49 : Fld Z h49 b49 "com/example/vetter/vetter/io/DerReader" "position" "I" (.int (0 : Int32)) := D49 (Or.inl (hw _ (List.mem_of_getElem? (i := 18) rfl))) (ty := .int) (by decide)
      refine Go.st st49 ?_
      show Go _ _ _ _ T49 (mkF m 55 #[.val (.int p1), .val (.int p2), .val (.int p3), .val (.int p4), .val (.int p5), .val (.int p6), .val (.int (3 : Int32)), .val (.int (0 : Int32)), .val (.ref b45), .unset, .unset, .unset, .unset] [(.ref b49)])
      refine Go.st (fun t k => XS.dup X49.here hx rfl (hb hby at_55) rfl rfl k) ?_
      show Go _ _ _ _ T49 (mkF m 56 #[.val (.int p1), .val (.int p2), .val (.int p3), .val (.int p4), .val (.int p5), .val (.int p6), .val (.int (3 : Int32)), .val (.int (0 : Int32)), .val (.ref b45), .unset, .unset, .unset, .unset] [(.ref b49), (.ref b49)])
      refine Go.st (fun t k => XS.aload X49.here hx rfl (hb hby at_56) rfl rfl k) ?_
      show Go _ _ _ _ T49 (mkF m 58 #[.val (.int p1), .val (.int p2), .val (.int p3), .val (.int p4), .val (.int p5), .val (.int p6), .val (.int (3 : Int32)), .val (.int (0 : Int32)), .val (.ref b45), .unset, .unset, .unset, .unset] [(.ref b45), (.ref b49), (.ref b49)])
      refine goC X49 hx hZ (y := (⟨"com/example/vetter/vetter/io/DerReader", "<init>", "([B)V"⟩ : MethodName)) rfl hown (hw _ (List.mem_of_getElem? (i := 4) rfl)) (hw _ (List.mem_of_getElem? (i := 5) rfl)) (hw _ (List.mem_of_getElem? (i := 3) rfl)) (hw _ (List.mem_of_getElem? (i := 6) rfl)) (by decide) (rm1 l Z a0 hw b49 b45 h49 n0 Z49 E_b49 F_data_b49 F_position_b49 g_b49) e49 N48 1 (by decide) (by decide) (by decide) (by decide) (g := (mkF m 58 #[.val (.int p1), .val (.int p2), .val (.int p3), .val (.int p4), .val (.int p5), .val (.int p6), .val (.int (3 : Int32)), .val (.int (0 : Int32)), .val (.ref b45), .unset, .unset, .unset, .unset] [(.ref b45), (.ref b49), (.ref b49)])) rfl (by rw [hml]; rfl) [(.ref b45)] [(.ref b49)] (lenOf pd0_0 rfl) rfl rfl (by show 2 * 0 + _ ≤ _; exact Nat.le_of_eq rfl) (hb hby at_58) ?_
      intro T50 v50 L50 M50 X50 N50 hq50
      obtain ⟨rfl, N50q, K50, E_b49, F_data_b49, F_position_b49⟩ := hq50
      replace N50 := N50 N50q
      have Z50 := Nat.le_trans Z49 K50.1
      have V_b45 := V_b45.keep K50 (ninS ne_b45_b49 nin0)
      show Go _ _ _ _ T50 (mkF m 61 #[.val (.int p1), .val (.int p2), .val (.int p3), .val (.int p4), .val (.int p5), .val (.int p6), .val (.int (3 : Int32)), .val (.int (0 : Int32)), .val (.ref b45), .unset, .unset, .unset, .unset] [(.ref b49)])
      refine Go.st (fun t k => XS.astore X50.here hx rfl (hb hby at_61) rfl rfl (l' := #[.val (.int p1), .val (.int p2), .val (.int p3), .val (.int p4), .val (.int p5), .val (.int p6), .val (.int (3 : Int32)), .val (.int (0 : Int32)), .val (.ref b45), .val (.ref b49), .unset, .unset, .unset]) rfl k) ?_
      show Go _ _ _ _ T50 (mkF m 63 #[.val (.int p1), .val (.int p2), .val (.int p3), .val (.int p4), .val (.int p5), .val (.int p6), .val (.int (3 : Int32)), .val (.int (0 : Int32)), .val (.ref b45), .val (.ref b49), .unset, .unset, .unset] [])
      refine Go.st (fun t k => XS.iload X50.here hx rfl (hb hby at_63) rfl k) ?_
      show Go _ _ _ _ T50 (mkF m 65 #[.val (.int p1), .val (.int p2), .val (.int p3), .val (.int p4), .val (.int p5), .val (.int p6), .val (.int (3 : Int32)), .val (.int (0 : Int32)), .val (.ref b45), .val (.ref b49), .unset, .unset, .unset] [(.int (3 : Int32))])
      refine Go.st (fun t k => XS.ifNo X50.here hx rfl (hb hby at_65) rfl (by decide) k) ?_
      show Go _ _ _ _ T50 (mkF m 68 #[.val (.int p1), .val (.int p2), .val (.int p3), .val (.int p4), .val (.int p5), .val (.int p6), .val (.int (3 : Int32)), .val (.int (0 : Int32)), .val (.ref b45), .val (.ref b49), .unset, .unset, .unset] [])
      refine Go.st (fun t k => XS.iloadN X50.here hx rfl (hb hby at_68) rfl k) ?_
      show Go _ _ _ _ T50 (mkF m 69 #[.val (.int p1), .val (.int p2), .val (.int p3), .val (.int p4), .val (.int p5), .val (.int p6), .val (.int (3 : Int32)), .val (.int (0 : Int32)), .val (.ref b45), .val (.ref b49), .unset, .unset, .unset] [(.int p2)])
      refine Go.st (fun t k => XS.sipush X50.here hx rfl (hb hby at_69) k) ?_
      show Go _ _ _ _ T50 (mkF m 72 #[.val (.int p1), .val (.int p2), .val (.int p3), .val (.int p4), .val (.int p5), .val (.int p6), .val (.int (3 : Int32)), .val (.int (0 : Int32)), .val (.ref b45), .val (.ref b49), .unset, .unset, .unset] [(.int (255 : Int32)), (.int p2)])
      refine Go.st (fun t k => XS.iand X50.here hx rfl (hb hby at_72) rfl k) ?_
      show Go _ _ _ _ T50 (mkF m 73 #[.val (.int p1), .val (.int p2), .val (.int p3), .val (.int p4), .val (.int p5), .val (.int p6), .val (.int (3 : Int32)), .val (.int (0 : Int32)), .val (.ref b45), .val (.ref b49), .unset, .unset, .unset] [(.int (p2 &&& (255 : Int32)))])
      refine Go.st (fun t k => XS.iload X50.here hx rfl (hb hby at_73) rfl k) ?_
      show Go _ _ _ _ T50 (mkF m 75 #[.val (.int p1), .val (.int p2), .val (.int p3), .val (.int p4), .val (.int p5), .val (.int p6), .val (.int (3 : Int32)), .val (.int (0 : Int32)), .val (.ref b45), .val (.ref b49), .unset, .unset, .unset] [(.int p5), (.int (p2 &&& (255 : Int32)))])
      by_cases hE1 : (p2 &&& (255 : Int32)) = p5
      ·
        refine Go.st (fun t k => XS.icmpNo X50.here hx rfl (hb hby at_75) rfl (teq hE1).2 k) ?_
        show Go _ _ _ _ T50 (mkF m 78 #[.val (.int p1), .val (.int p2), .val (.int p3), .val (.int p4), .val (.int p5), .val (.int p6), .val (.int (3 : Int32)), .val (.int (0 : Int32)), .val (.ref b45), .val (.ref b49), .unset, .unset, .unset] [])
        refine Go.st (fun t k => XS.iconst X50.here hx rfl (hb hby at_78) k) ?_
        show Go _ _ _ _ T50 (mkF m 79 #[.val (.int p1), .val (.int p2), .val (.int p3), .val (.int p4), .val (.int p5), .val (.int p6), .val (.int (3 : Int32)), .val (.int (0 : Int32)), .val (.ref b45), .val (.ref b49), .unset, .unset, .unset] [(.int (1 : Int32))])
        refine Go.st (fun t k => XS.goto X50.here hx rfl (pc0 := 79) (pc' := 83) rfl (hb hby at_79) (by decide) (by decide) k) ?_
        show Go _ _ _ _ T50 (mkF m 83 #[.val (.int p1), .val (.int p2), .val (.int p3), .val (.int p4), .val (.int p5), .val (.int p6), .val (.int (3 : Int32)), .val (.int (0 : Int32)), .val (.ref b45), .val (.ref b49), .unset, .unset, .unset] [(.int (1 : Int32))])
        refine Go.st (fun t k => XS.istore X50.here hx rfl (hb hby at_83) rfl (l' := #[.val (.int p1), .val (.int p2), .val (.int p3), .val (.int p4), .val (.int p5), .val (.int p6), .val (.int (3 : Int32)), .val (.int (0 : Int32)), .val (.ref b45), .val (.ref b49), .val (.int (1 : Int32)), .unset, .unset]) rfl k) ?_
        show Go _ _ _ _ T50 (mkF m 85 #[.val (.int p1), .val (.int p2), .val (.int p3), .val (.int p4), .val (.int p5), .val (.int p6), .val (.int (3 : Int32)), .val (.int (0 : Int32)), .val (.ref b45), .val (.ref b49), .val (.int (1 : Int32)), .unset, .unset] [])
        refine Go.st (fun t k => XS.aload X50.here hx rfl (hb hby at_85) rfl rfl k) ?_
        show Go _ _ _ _ T50 (mkF m 87 #[.val (.int p1), .val (.int p2), .val (.int p3), .val (.int p4), .val (.int p5), .val (.int p6), .val (.int (3 : Int32)), .val (.int (0 : Int32)), .val (.ref b45), .val (.ref b49), .val (.int (1 : Int32)), .unset, .unset] [(.ref b49)])
        refine Go.st (fun t k => XS.iload X50.here hx rfl (hb hby at_87) rfl k) ?_
        show Go _ _ _ _ T50 (mkF m 89 #[.val (.int p1), .val (.int p2), .val (.int p3), .val (.int p4), .val (.int p5), .val (.int p6), .val (.int (3 : Int32)), .val (.int (0 : Int32)), .val (.ref b45), .val (.ref b49), .val (.int (1 : Int32)), .unset, .unset] [(.int p5), (.ref b49)])
        refine goM X50 hx hZ (y := (⟨"com/example/vetter/vetter/io/DerReader", "nextIs", "(I)Z"⟩ : MethodName)) (z := (⟨"com/example/vetter/vetter/io/DerReader", "nextIs", "(I)Z"⟩ : MethodName)) hown (hw _ (List.mem_of_getElem? (i := 12) rfl)) (hw _ (List.mem_of_getElem? (i := 13) rfl)) (hw _ (List.mem_of_getElem? (i := 15) rfl)) (hw _ (List.mem_of_getElem? (i := 14) rfl)) (hw _ (List.mem_of_getElem? (i := 16) rfl)) (hw _ (List.mem_of_getElem? (i := 3) rfl)) (notFace_of_selects (args := #[]) (mvT hZ (hw _ (List.mem_of_getElem? (i := 15) rfl)))) (by decide) (rm3 l Z a0 hw b49 p5 T50.heap n0 Z50 (0 : Int32) b45 3 _ (3 : Int32) ((p2.toInt8.toInt32).toInt8.toInt32) F_position_b49 F_data_b49 V_b45 rfl (fun _ => ⟨0, ⟨by decide, rfl, by decide⟩, rfl⟩)) rfl N50 E_b49 0 (by decide) (by decide) (by decide) (by decide) (g := (mkF m 89 #[.val (.int p1), .val (.int p2), .val (.int p3), .val (.int p4), .val (.int p5), .val (.int p6), .val (.int (3 : Int32)), .val (.int (0 : Int32)), .val (.ref b45), .val (.ref b49), .val (.int (1 : Int32)), .unset, .unset] [(.int p5), (.ref b49)])) rfl (by rw [hml]; rfl) [(.int p5)] [] (lenOf pd0_1 rfl) rfl rfl (by show 2 * 0 + _ ≤ _; exact Nat.le_of_eq rfl) (hb hby at_89) ?_
        intro T52 v52 L52 M52 X52 N52 hq52
        obtain ⟨hq52, N52q, e52⟩ := hq52
        replace N52 := N52 N52q
        rcases hq52 with ⟨hA52, hB52, rfl⟩ | ⟨hr52, rfl⟩
        ·
          show Go _ _ _ _ T52 (mkF m 92 #[.val (.int p1), .val (.int p2), .val (.int p3), .val (.int p4), .val (.int p5), .val (.int p6), .val (.int (3 : Int32)), .val (.int (0 : Int32)), .val (.ref b45), .val (.ref b49), .val (.int (1 : Int32)), .unset, .unset] [(.int (1 : Int32))])
          refine Go.st (fun t k => XS.iload X52.here hx rfl (hb hby at_92) rfl k) ?_
          show Go _ _ _ _ T52 (mkF m 94 #[.val (.int p1), .val (.int p2), .val (.int p3), .val (.int p4), .val (.int p5), .val (.int p6), .val (.int (3 : Int32)), .val (.int (0 : Int32)), .val (.ref b45), .val (.ref b49), .val (.int (1 : Int32)), .unset, .unset] [(.int (1 : Int32)), (.int (1 : Int32))])
          refine Go.st (fun t k => XS.icmpYes X52.here hx rfl (pc0 := 94) (pc' := 99) rfl (hb hby at_94) rfl (by decide) (by decide) (by decide) k) ?_
          show Go _ _ _ _ T52 (mkF m 99 #[.val (.int p1), .val (.int p2), .val (.int p3), .val (.int p4), .val (.int p5), .val (.int p6), .val (.int (3 : Int32)), .val (.int (0 : Int32)), .val (.ref b45), .val (.ref b49), .val (.int (1 : Int32)), .unset, .unset] [])
          refine Go.st (fun t k => XS.iconst X52.here hx rfl (hb hby at_99) k) ?_
          show Go _ _ _ _ T52 (mkF m 100 #[.val (.int p1), .val (.int p2), .val (.int p3), .val (.int p4), .val (.int p5), .val (.int p6), .val (.int (3 : Int32)), .val (.int (0 : Int32)), .val (.ref b45), .val (.ref b49), .val (.int (1 : Int32)), .unset, .unset] [(.int (0 : Int32))])
          refine Go.st (fun t k => XS.istore X52.here hx rfl (hb hby at_100) rfl (l' := #[.val (.int p1), .val (.int p2), .val (.int p3), .val (.int p4), .val (.int p5), .val (.int p6), .val (.int (3 : Int32)), .val (.int (0 : Int32)), .val (.ref b45), .val (.ref b49), .val (.int (1 : Int32)), .val (.int (0 : Int32)), .unset]) rfl k) ?_
          show Go _ _ _ _ T52 (mkF m 102 #[.val (.int p1), .val (.int p2), .val (.int p3), .val (.int p4), .val (.int p5), .val (.int p6), .val (.int (3 : Int32)), .val (.int (0 : Int32)), .val (.ref b45), .val (.ref b49), .val (.int (1 : Int32)), .val (.int (0 : Int32)), .unset] [])
          refine Go.st (fun t k => XS.iload X52.here hx rfl (hb hby at_102) rfl k) ?_
          show Go _ _ _ _ T52 (mkF m 104 #[.val (.int p1), .val (.int p2), .val (.int p3), .val (.int p4), .val (.int p5), .val (.int p6), .val (.int (3 : Int32)), .val (.int (0 : Int32)), .val (.ref b45), .val (.ref b49), .val (.int (1 : Int32)), .val (.int (0 : Int32)), .unset] [(.int (3 : Int32))])
          refine Go.st (fun t k => XS.iconst X52.here hx rfl (hb hby at_104) k) ?_
          show Go _ _ _ _ T52 (mkF m 105 #[.val (.int p1), .val (.int p2), .val (.int p3), .val (.int p4), .val (.int p5), .val (.int p6), .val (.int (3 : Int32)), .val (.int (0 : Int32)), .val (.ref b45), .val (.ref b49), .val (.int (1 : Int32)), .val (.int (0 : Int32)), .unset] [(.int (2 : Int32)), (.int (3 : Int32))])
          refine Go.st (fun t k => XS.icmpNo X52.here hx rfl (hb hby at_105) rfl (by decide) k) ?_
          show Go _ _ _ _ T52 (mkF m 108 #[.val (.int p1), .val (.int p2), .val (.int p3), .val (.int p4), .val (.int p5), .val (.int p6), .val (.int (3 : Int32)), .val (.int (0 : Int32)), .val (.ref b45), .val (.ref b49), .val (.int (1 : Int32)), .val (.int (0 : Int32)), .unset] [])
          refine Go.st (fun t k => XS.iload X52.here hx rfl (hb hby at_108) rfl k) ?_
          show Go _ _ _ _ T52 (mkF m 110 #[.val (.int p1), .val (.int p2), .val (.int p3), .val (.int p4), .val (.int p5), .val (.int p6), .val (.int (3 : Int32)), .val (.int (0 : Int32)), .val (.ref b45), .val (.ref b49), .val (.int (1 : Int32)), .val (.int (0 : Int32)), .unset] [(.int (0 : Int32))])
          refine Go.st (fun t k => XS.iload X52.here hx rfl (hb hby at_110) rfl k) ?_
          show Go _ _ _ _ T52 (mkF m 112 #[.val (.int p1), .val (.int p2), .val (.int p3), .val (.int p4), .val (.int p5), .val (.int p6), .val (.int (3 : Int32)), .val (.int (0 : Int32)), .val (.ref b45), .val (.ref b49), .val (.int (1 : Int32)), .val (.int (0 : Int32)), .unset] [(.int (3 : Int32)), (.int (0 : Int32))])
          refine Go.st (fun t k => XS.iconst X52.here hx rfl (hb hby at_112) k) ?_
          show Go _ _ _ _ T52 (mkF m 113 #[.val (.int p1), .val (.int p2), .val (.int p3), .val (.int p4), .val (.int p5), .val (.int p6), .val (.int (3 : Int32)), .val (.int (0 : Int32)), .val (.ref b45), .val (.ref b49), .val (.int (1 : Int32)), .val (.int (0 : Int32)), .unset] [(.int (2 : Int32)), (.int (3 : Int32)), (.int (0 : Int32))])
          refine Go.st (fun t k => XS.isub X52.here hx rfl (hb hby at_113) rfl k) ?_
          show Go _ _ _ _ T52 (mkF m 114 #[.val (.int p1), .val (.int p2), .val (.int p3), .val (.int p4), .val (.int p5), .val (.int p6), .val (.int (3 : Int32)), .val (.int (0 : Int32)), .val (.ref b45), .val (.ref b49), .val (.int (1 : Int32)), .val (.int (0 : Int32)), .unset] [(.int (1 : Int32)), (.int (0 : Int32))])
          refine Go.st (fun t k => XS.icmpNo X52.here hx rfl (hb hby at_114) rfl (by decide) k) ?_
          show Go _ _ _ _ T52 (mkF m 117 #[.val (.int p1), .val (.int p2), .val (.int p3), .val (.int p4), .val (.int p5), .val (.int p6), .val (.int (3 : Int32)), .val (.int (0 : Int32)), .val (.ref b45), .val (.ref b49), .val (.int (1 : Int32)), .val (.int (0 : Int32)), .unset] [])
          refine Go.st (fun t k => XS.aload X52.here hx rfl (hb hby at_117) rfl rfl k) ?_
          show Go _ _ _ _ T52 (mkF m 119 #[.val (.int p1), .val (.int p2), .val (.int p3), .val (.int p4), .val (.int p5), .val (.int p6), .val (.int (3 : Int32)), .val (.int (0 : Int32)), .val (.ref b45), .val (.ref b49), .val (.int (1 : Int32)), .val (.int (0 : Int32)), .unset] [(.ref b49)])
          refine Go.st (fun t k => XS.iloadN X52.here hx rfl (hb hby at_119) rfl k) ?_
          show Go _ _ _ _ T52 (mkF m 120 #[.val (.int p1), .val (.int p2), .val (.int p3), .val (.int p4), .val (.int p5), .val (.int p6), .val (.int (3 : Int32)), .val (.int (0 : Int32)), .val (.ref b45), .val (.ref b49), .val (.int (1 : Int32)), .val (.int (0 : Int32)), .unset] [(.int p2), (.ref b49)])
          refine Go.st (fun t k => XS.sipush X52.here hx rfl (hb hby at_120) k) ?_
          show Go _ _ _ _ T52 (mkF m 123 #[.val (.int p1), .val (.int p2), .val (.int p3), .val (.int p4), .val (.int p5), .val (.int p6), .val (.int (3 : Int32)), .val (.int (0 : Int32)), .val (.ref b45), .val (.ref b49), .val (.int (1 : Int32)), .val (.int (0 : Int32)), .unset] [(.int (255 : Int32)), (.int p2), (.ref b49)])
          refine Go.st (fun t k => XS.iand X52.here hx rfl (hb hby at_123) rfl k) ?_
          show Go _ _ _ _ T52 (mkF m 124 #[.val (.int p1), .val (.int p2), .val (.int p3), .val (.int p4), .val (.int p5), .val (.int p6), .val (.int (3 : Int32)), .val (.int (0 : Int32)), .val (.ref b45), .val (.ref b49), .val (.int (1 : Int32)), .val (.int (0 : Int32)), .unset] [(.int (p2 &&& (255 : Int32))), (.ref b49)])
          refine goM X52 hx hZ (y := (⟨"com/example/vetter/vetter/io/DerReader", "read", "(I)[B"⟩ : MethodName)) (z := (⟨"com/example/vetter/vetter/io/DerReader", "read", "(I)[B"⟩ : MethodName)) hown (hw _ (List.mem_of_getElem? (i := 19) rfl)) (hw _ (List.mem_of_getElem? (i := 20) rfl)) (hw _ (List.mem_of_getElem? (i := 22) rfl)) (hw _ (List.mem_of_getElem? (i := 21) rfl)) (hw _ (List.mem_of_getElem? (i := 23) rfl)) (hw _ (List.mem_of_getElem? (i := 3) rfl)) (notFace_of_selects (args := #[]) (mvT hZ (hw _ (List.mem_of_getElem? (i := 22) rfl)))) (by decide) (rm4 l Z a0 hw b49 (p2 &&& (255 : Int32)) T50.heap n0 Z50 b45 3 _ (3 : Int32) (0 : Int32) (2 : Int32) ((p2.toInt8.toInt32).toInt8.toInt32) (by simp [own_K]) E_b49 F_data_b49 V_b45 g_b49 ne_b45_b49 F_position_b49 rfl (own_m p2) rfl (fun i hi => by rcases own_lt3 hi with rfl | rfl | rfl <;> exact fits_nar_byte _)) e52 N52 E_b49 0 (by decide) (by decide) (by decide) (by decide) (g := (mkF m 124 #[.val (.int p1), .val (.int p2), .val (.int p3), .val (.int p4), .val (.int p5), .val (.int p6), .val (.int (3 : Int32)), .val (.int (0 : Int32)), .val (.ref b45), .val (.ref b49), .val (.int (1 : Int32)), .val (.int (0 : Int32)), .unset] [(.int (p2 &&& (255 : Int32))), (.ref b49)])) rfl (by rw [hml]; rfl) [(.int (p2 &&& (255 : Int32)))] [] (lenOf pd0_2 rfl) rfl rfl (by show 2 * 0 + _ ≤ _; exact Nat.le_of_eq rfl) (hb hby at_124) ?_
          intro T53 v53 L53 M53 X53 N53 hq53
          obtain ⟨⟨r53, rfl⟩, N53q, K53, E_b49, F_data_b49, F_position_b49⟩ := hq53
          replace N53 := N53 N53q
          have Z53 := Nat.le_trans Z50 K53.1
          have V_b45 := V_b45.keep K53 (ninS ne_b45_b49 nin0)
          show Go _ _ _ _ T53 (mkF m 127 #[.val (.int p1), .val (.int p2), .val (.int p3), .val (.int p4), .val (.int p5), .val (.int p6), .val (.int (3 : Int32)), .val (.int (0 : Int32)), .val (.ref b45), .val (.ref b49), .val (.int (1 : Int32)), .val (.int (0 : Int32)), .unset] [(.ref r53)])
          refine Go.st (fun t k => XS.pop X53.here hx rfl (hb hby at_127) rfl rfl k) ?_
          show Go _ _ _ _ T53 (mkF m 128 #[.val (.int p1), .val (.int p2), .val (.int p3), .val (.int p4), .val (.int p5), .val (.int p6), .val (.int (3 : Int32)), .val (.int (0 : Int32)), .val (.ref b45), .val (.ref b49), .val (.int (1 : Int32)), .val (.int (0 : Int32)), .unset] [])
          refine Go.st (fun t k => XS.iconst X53.here hx rfl (hb hby at_128) k) ?_
          show Go _ _ _ _ T53 (mkF m 129 #[.val (.int p1), .val (.int p2), .val (.int p3), .val (.int p4), .val (.int p5), .val (.int p6), .val (.int (3 : Int32)), .val (.int (0 : Int32)), .val (.ref b45), .val (.ref b49), .val (.int (1 : Int32)), .val (.int (0 : Int32)), .unset] [(.int (2 : Int32))])
          refine Go.st (fun t k => XS.iload X53.here hx rfl (hb hby at_129) rfl k) ?_
          show Go _ _ _ _ T53 (mkF m 131 #[.val (.int p1), .val (.int p2), .val (.int p3), .val (.int p4), .val (.int p5), .val (.int p6), .val (.int (3 : Int32)), .val (.int (0 : Int32)), .val (.ref b45), .val (.ref b49), .val (.int (1 : Int32)), .val (.int (0 : Int32)), .unset] [(.int (0 : Int32)), (.int (2 : Int32))])
          refine Go.st (fun t k => XS.iadd X53.here hx rfl (hb hby at_131) rfl k) ?_
          show Go _ _ _ _ T53 (mkF m 132 #[.val (.int p1), .val (.int p2), .val (.int p3), .val (.int p4), .val (.int p5), .val (.int p6), .val (.int (3 : Int32)), .val (.int (0 : Int32)), .val (.ref b45), .val (.ref b49), .val (.int (1 : Int32)), .val (.int (0 : Int32)), .unset] [(.int (2 : Int32))])
          refine Go.st (fun t k => XS.istore X53.here hx rfl (hb hby at_132) rfl (l' := #[.val (.int p1), .val (.int p2), .val (.int p3), .val (.int p4), .val (.int p5), .val (.int p6), .val (.int (3 : Int32)), .val (.int (0 : Int32)), .val (.ref b45), .val (.ref b49), .val (.int (1 : Int32)), .val (.int (2 : Int32)), .unset]) rfl k) ?_
          show Go _ _ _ _ T53 (mkF m 134 #[.val (.int p1), .val (.int p2), .val (.int p3), .val (.int p4), .val (.int p5), .val (.int p6), .val (.int (3 : Int32)), .val (.int (0 : Int32)), .val (.ref b45), .val (.ref b49), .val (.int (1 : Int32)), .val (.int (2 : Int32)), .unset] [])
          refine Go.st (fun t k => XS.iload X53.here hx rfl (hb hby at_134) rfl k) ?_
          show Go _ _ _ _ T53 (mkF m 136 #[.val (.int p1), .val (.int p2), .val (.int p3), .val (.int p4), .val (.int p5), .val (.int p6), .val (.int (3 : Int32)), .val (.int (0 : Int32)), .val (.ref b45), .val (.ref b49), .val (.int (1 : Int32)), .val (.int (2 : Int32)), .unset] [(.int (2 : Int32))])
          refine Go.st (fun t k => XS.iload X53.here hx rfl (hb hby at_136) rfl k) ?_
          show Go _ _ _ _ T53 (mkF m 138 #[.val (.int p1), .val (.int p2), .val (.int p3), .val (.int p4), .val (.int p5), .val (.int p6), .val (.int (3 : Int32)), .val (.int (0 : Int32)), .val (.ref b45), .val (.ref b49), .val (.int (1 : Int32)), .val (.int (2 : Int32)), .unset] [(.int (3 : Int32)), (.int (2 : Int32))])
          refine Go.st (fun t k => XS.icmpYes X53.here hx rfl (pc0 := 138) (pc' := 147) rfl (hb hby at_138) rfl (by decide) (by decide) (by decide) k) ?_
          show Go _ _ _ _ T53 (mkF m 147 #[.val (.int p1), .val (.int p2), .val (.int p3), .val (.int p4), .val (.int p5), .val (.int p6), .val (.int (3 : Int32)), .val (.int (0 : Int32)), .val (.ref b45), .val (.ref b49), .val (.int (1 : Int32)), .val (.int (2 : Int32)), .unset] [])
          refine Go.st (fun t k => XS.iload X53.here hx rfl (hb hby at_147) rfl k) ?_
          show Go _ _ _ _ T53 (mkF m 149 #[.val (.int p1), .val (.int p2), .val (.int p3), .val (.int p4), .val (.int p5), .val (.int p6), .val (.int (3 : Int32)), .val (.int (0 : Int32)), .val (.ref b45), .val (.ref b49), .val (.int (1 : Int32)), .val (.int (2 : Int32)), .unset] [(.int (2 : Int32))])
          refine Go.st (fun t k => XS.ifYes X53.here hx rfl (pc0 := 149) (pc' := 172) rfl (hb hby at_149) rfl (by decide) (by decide) (by decide) k) ?_
          show Go _ _ _ _ T53 (mkF m 172 #[.val (.int p1), .val (.int p2), .val (.int p3), .val (.int p4), .val (.int p5), .val (.int p6), .val (.int (3 : Int32)), .val (.int (0 : Int32)), .val (.ref b45), .val (.ref b49), .val (.int (1 : Int32)), .val (.int (2 : Int32)), .unset] [])
          refine Go.st (fun t k => XS.iloadN X53.here hx rfl (hb hby at_172) rfl k) ?_
          show Go _ _ _ _ T53 (mkF m 173 #[.val (.int p1), .val (.int p2), .val (.int p3), .val (.int p4), .val (.int p5), .val (.int p6), .val (.int (3 : Int32)), .val (.int (0 : Int32)), .val (.ref b45), .val (.ref b49), .val (.int (1 : Int32)), .val (.int (2 : Int32)), .unset] [(.int p4)])
          refine Go.st (fun t k => XS.sipush X53.here hx rfl (hb hby at_173) k) ?_
          show Go _ _ _ _ T53 (mkF m 176 #[.val (.int p1), .val (.int p2), .val (.int p3), .val (.int p4), .val (.int p5), .val (.int p6), .val (.int (3 : Int32)), .val (.int (0 : Int32)), .val (.ref b45), .val (.ref b49), .val (.int (1 : Int32)), .val (.int (2 : Int32)), .unset] [(.int (255 : Int32)), (.int p4)])
          refine Go.st (fun t k => XS.iand X53.here hx rfl (hb hby at_176) rfl k) ?_
          show Go _ _ _ _ T53 (mkF m 177 #[.val (.int p1), .val (.int p2), .val (.int p3), .val (.int p4), .val (.int p5), .val (.int p6), .val (.int (3 : Int32)), .val (.int (0 : Int32)), .val (.ref b45), .val (.ref b49), .val (.int (1 : Int32)), .val (.int (2 : Int32)), .unset] [(.int (p4 &&& (255 : Int32)))])
          refine Go.st (fun t k => XS.iload X53.here hx rfl (hb hby at_177) rfl k) ?_
          show Go _ _ _ _ T53 (mkF m 179 #[.val (.int p1), .val (.int p2), .val (.int p3), .val (.int p4), .val (.int p5), .val (.int p6), .val (.int (3 : Int32)), .val (.int (0 : Int32)), .val (.ref b45), .val (.ref b49), .val (.int (1 : Int32)), .val (.int (2 : Int32)), .unset] [(.int p6), (.int (p4 &&& (255 : Int32)))])
          by_cases hE3 : (p4 &&& (255 : Int32)) = p6
          ·
            refine Go.st (fun t k => XS.icmpNo X53.here hx rfl (hb hby at_179) rfl (teq hE3).2 k) ?_
            show Go _ _ _ _ T53 (mkF m 182 #[.val (.int p1), .val (.int p2), .val (.int p3), .val (.int p4), .val (.int p5), .val (.int p6), .val (.int (3 : Int32)), .val (.int (0 : Int32)), .val (.ref b45), .val (.ref b49), .val (.int (1 : Int32)), .val (.int (2 : Int32)), .unset] [])
            refine Go.st (fun t k => XS.iconst X53.here hx rfl (hb hby at_182) k) ?_
            show Go _ _ _ _ T53 (mkF m 183 #[.val (.int p1), .val (.int p2), .val (.int p3), .val (.int p4), .val (.int p5), .val (.int p6), .val (.int (3 : Int32)), .val (.int (0 : Int32)), .val (.ref b45), .val (.ref b49), .val (.int (1 : Int32)), .val (.int (2 : Int32)), .unset] [(.int (1 : Int32))])
            refine Go.st (fun t k => XS.goto X53.here hx rfl (pc0 := 183) (pc' := 187) rfl (hb hby at_183) (by decide) (by decide) k) ?_
            show Go _ _ _ _ T53 (mkF m 187 #[.val (.int p1), .val (.int p2), .val (.int p3), .val (.int p4), .val (.int p5), .val (.int p6), .val (.int (3 : Int32)), .val (.int (0 : Int32)), .val (.ref b45), .val (.ref b49), .val (.int (1 : Int32)), .val (.int (2 : Int32)), .unset] [(.int (1 : Int32))])
            refine Go.st (fun t k => XS.istore X53.here hx rfl (hb hby at_187) rfl (l' := #[.val (.int p1), .val (.int p2), .val (.int p3), .val (.int p4), .val (.int p5), .val (.int p6), .val (.int (3 : Int32)), .val (.int (0 : Int32)), .val (.ref b45), .val (.ref b49), .val (.int (1 : Int32)), .val (.int (2 : Int32)), .val (.int (1 : Int32))]) rfl k) ?_
            show Go _ _ _ _ T53 (mkF m 189 #[.val (.int p1), .val (.int p2), .val (.int p3), .val (.int p4), .val (.int p5), .val (.int p6), .val (.int (3 : Int32)), .val (.int (0 : Int32)), .val (.ref b45), .val (.ref b49), .val (.int (1 : Int32)), .val (.int (2 : Int32)), .val (.int (1 : Int32))] [])
            refine Go.st (fun t k => XS.aload X53.here hx rfl (hb hby at_189) rfl rfl k) ?_
            show Go _ _ _ _ T53 (mkF m 191 #[.val (.int p1), .val (.int p2), .val (.int p3), .val (.int p4), .val (.int p5), .val (.int p6), .val (.int (3 : Int32)), .val (.int (0 : Int32)), .val (.ref b45), .val (.ref b49), .val (.int (1 : Int32)), .val (.int (2 : Int32)), .val (.int (1 : Int32))] [(.ref b49)])
            refine Go.st (fun t k => XS.iload X53.here hx rfl (hb hby at_191) rfl k) ?_
            show Go _ _ _ _ T53 (mkF m 193 #[.val (.int p1), .val (.int p2), .val (.int p3), .val (.int p4), .val (.int p5), .val (.int p6), .val (.int (3 : Int32)), .val (.int (0 : Int32)), .val (.ref b45), .val (.ref b49), .val (.int (1 : Int32)), .val (.int (2 : Int32)), .val (.int (1 : Int32))] [(.int p6), (.ref b49)])
            refine goM X53 hx hZ (y := (⟨"com/example/vetter/vetter/io/DerReader", "nextIs", "(I)Z"⟩ : MethodName)) (z := (⟨"com/example/vetter/vetter/io/DerReader", "nextIs", "(I)Z"⟩ : MethodName)) hown (hw _ (List.mem_of_getElem? (i := 12) rfl)) (hw _ (List.mem_of_getElem? (i := 13) rfl)) (hw _ (List.mem_of_getElem? (i := 15) rfl)) (hw _ (List.mem_of_getElem? (i := 14) rfl)) (hw _ (List.mem_of_getElem? (i := 16) rfl)) (hw _ (List.mem_of_getElem? (i := 3) rfl)) (notFace_of_selects (args := #[]) (mvT hZ (hw _ (List.mem_of_getElem? (i := 15) rfl)))) (by decide) (rm3 l Z a0 hw b49 p6 T53.heap n0 Z53 (2 : Int32) b45 3 _ (3 : Int32) ((p4.toInt8.toInt32).toInt8.toInt32) F_position_b49 F_data_b49 V_b45 rfl (fun _ => ⟨2, ⟨by decide, rfl, by decide⟩, rfl⟩)) rfl N53 E_b49 0 (by decide) (by decide) (by decide) (by decide) (g := (mkF m 193 #[.val (.int p1), .val (.int p2), .val (.int p3), .val (.int p4), .val (.int p5), .val (.int p6), .val (.int (3 : Int32)), .val (.int (0 : Int32)), .val (.ref b45), .val (.ref b49), .val (.int (1 : Int32)), .val (.int (2 : Int32)), .val (.int (1 : Int32))] [(.int p6), (.ref b49)])) rfl (by rw [hml]; rfl) [(.int p6)] [] (lenOf pd0_1 rfl) rfl rfl (by show 2 * 0 + _ ≤ _; exact Nat.le_of_eq rfl) (hb hby at_193) ?_
            intro T55 v55 L55 M55 X55 N55 hq55
            obtain ⟨hq55, N55q, e55⟩ := hq55
            replace N55 := N55 N55q
            rcases hq55 with ⟨hA55, hB55, rfl⟩ | ⟨hr55, rfl⟩
            ·
              show Go _ _ _ _ T55 (mkF m 196 #[.val (.int p1), .val (.int p2), .val (.int p3), .val (.int p4), .val (.int p5), .val (.int p6), .val (.int (3 : Int32)), .val (.int (0 : Int32)), .val (.ref b45), .val (.ref b49), .val (.int (1 : Int32)), .val (.int (2 : Int32)), .val (.int (1 : Int32))] [(.int (1 : Int32))])
              refine Go.st (fun t k => XS.iload X55.here hx rfl (hb hby at_196) rfl k) ?_
              show Go _ _ _ _ T55 (mkF m 198 #[.val (.int p1), .val (.int p2), .val (.int p3), .val (.int p4), .val (.int p5), .val (.int p6), .val (.int (3 : Int32)), .val (.int (0 : Int32)), .val (.ref b45), .val (.ref b49), .val (.int (1 : Int32)), .val (.int (2 : Int32)), .val (.int (1 : Int32))] [(.int (1 : Int32)), (.int (1 : Int32))])
              refine Go.st (fun t k => XS.icmpNo X55.here hx rfl (hb hby at_198) rfl (by decide) k) ?_
              show Go _ _ _ _ T55 (mkF m 201 #[.val (.int p1), .val (.int p2), .val (.int p3), .val (.int p4), .val (.int p5), .val (.int p6), .val (.int (3 : Int32)), .val (.int (0 : Int32)), .val (.ref b45), .val (.ref b49), .val (.int (1 : Int32)), .val (.int (2 : Int32)), .val (.int (1 : Int32))] [])
              refine Go.st (fun t k => XS.iconst X55.here hx rfl (hb hby at_201) k) ?_
              show Go _ _ _ _ T55 (mkF m 202 #[.val (.int p1), .val (.int p2), .val (.int p3), .val (.int p4), .val (.int p5), .val (.int p6), .val (.int (3 : Int32)), .val (.int (0 : Int32)), .val (.ref b45), .val (.ref b49), .val (.int (1 : Int32)), .val (.int (2 : Int32)), .val (.int (1 : Int32))] [(.int (1 : Int32))])
              refine Go.st (fun t k => XS.goto X55.here hx rfl (pc0 := 202) (pc' := 206) rfl (hb hby at_202) (by decide) (by decide) k) ?_
              show Go _ _ _ _ T55 (mkF m 206 #[.val (.int p1), .val (.int p2), .val (.int p3), .val (.int p4), .val (.int p5), .val (.int p6), .val (.int (3 : Int32)), .val (.int (0 : Int32)), .val (.ref b45), .val (.ref b49), .val (.int (1 : Int32)), .val (.int (2 : Int32)), .val (.int (1 : Int32))] [(.int (1 : Int32))])
              exact goN X55 hx hret hlk (by simp) (hb hby at_206) (by decide) (by decide) ⟨rfl, N55⟩
            ·
              exact absurd ⟨by decide, (own_m _).trans hE3⟩ hr55
          ·
            refine Go.st (fun t k => XS.icmpYes X53.here hx rfl (pc0 := 179) (pc' := 186) rfl (hb hby at_179) rfl (feq hE3).2 (by decide) (by decide) k) ?_
            show Go _ _ _ _ T53 (mkF m 186 #[.val (.int p1), .val (.int p2), .val (.int p3), .val (.int p4), .val (.int p5), .val (.int p6), .val (.int (3 : Int32)), .val (.int (0 : Int32)), .val (.ref b45), .val (.ref b49), .val (.int (1 : Int32)), .val (.int (2 : Int32)), .unset] [])
            refine Go.st (fun t k => XS.iconst X53.here hx rfl (hb hby at_186) k) ?_
            show Go _ _ _ _ T53 (mkF m 187 #[.val (.int p1), .val (.int p2), .val (.int p3), .val (.int p4), .val (.int p5), .val (.int p6), .val (.int (3 : Int32)), .val (.int (0 : Int32)), .val (.ref b45), .val (.ref b49), .val (.int (1 : Int32)), .val (.int (2 : Int32)), .unset] [(.int (0 : Int32))])
            refine Go.st (fun t k => XS.istore X53.here hx rfl (hb hby at_187) rfl (l' := #[.val (.int p1), .val (.int p2), .val (.int p3), .val (.int p4), .val (.int p5), .val (.int p6), .val (.int (3 : Int32)), .val (.int (0 : Int32)), .val (.ref b45), .val (.ref b49), .val (.int (1 : Int32)), .val (.int (2 : Int32)), .val (.int (0 : Int32))]) rfl k) ?_
            show Go _ _ _ _ T53 (mkF m 189 #[.val (.int p1), .val (.int p2), .val (.int p3), .val (.int p4), .val (.int p5), .val (.int p6), .val (.int (3 : Int32)), .val (.int (0 : Int32)), .val (.ref b45), .val (.ref b49), .val (.int (1 : Int32)), .val (.int (2 : Int32)), .val (.int (0 : Int32))] [])
            refine Go.st (fun t k => XS.aload X53.here hx rfl (hb hby at_189) rfl rfl k) ?_
            show Go _ _ _ _ T53 (mkF m 191 #[.val (.int p1), .val (.int p2), .val (.int p3), .val (.int p4), .val (.int p5), .val (.int p6), .val (.int (3 : Int32)), .val (.int (0 : Int32)), .val (.ref b45), .val (.ref b49), .val (.int (1 : Int32)), .val (.int (2 : Int32)), .val (.int (0 : Int32))] [(.ref b49)])
            refine Go.st (fun t k => XS.iload X53.here hx rfl (hb hby at_191) rfl k) ?_
            show Go _ _ _ _ T53 (mkF m 193 #[.val (.int p1), .val (.int p2), .val (.int p3), .val (.int p4), .val (.int p5), .val (.int p6), .val (.int (3 : Int32)), .val (.int (0 : Int32)), .val (.ref b45), .val (.ref b49), .val (.int (1 : Int32)), .val (.int (2 : Int32)), .val (.int (0 : Int32))] [(.int p6), (.ref b49)])
            refine goM X53 hx hZ (y := (⟨"com/example/vetter/vetter/io/DerReader", "nextIs", "(I)Z"⟩ : MethodName)) (z := (⟨"com/example/vetter/vetter/io/DerReader", "nextIs", "(I)Z"⟩ : MethodName)) hown (hw _ (List.mem_of_getElem? (i := 12) rfl)) (hw _ (List.mem_of_getElem? (i := 13) rfl)) (hw _ (List.mem_of_getElem? (i := 15) rfl)) (hw _ (List.mem_of_getElem? (i := 14) rfl)) (hw _ (List.mem_of_getElem? (i := 16) rfl)) (hw _ (List.mem_of_getElem? (i := 3) rfl)) (notFace_of_selects (args := #[]) (mvT hZ (hw _ (List.mem_of_getElem? (i := 15) rfl)))) (by decide) (rm3 l Z a0 hw b49 p6 T53.heap n0 Z53 (2 : Int32) b45 3 _ (3 : Int32) ((p4.toInt8.toInt32).toInt8.toInt32) F_position_b49 F_data_b49 V_b45 rfl (fun _ => ⟨2, ⟨by decide, rfl, by decide⟩, rfl⟩)) rfl N53 E_b49 0 (by decide) (by decide) (by decide) (by decide) (g := (mkF m 193 #[.val (.int p1), .val (.int p2), .val (.int p3), .val (.int p4), .val (.int p5), .val (.int p6), .val (.int (3 : Int32)), .val (.int (0 : Int32)), .val (.ref b45), .val (.ref b49), .val (.int (1 : Int32)), .val (.int (2 : Int32)), .val (.int (0 : Int32))] [(.int p6), (.ref b49)])) rfl (by rw [hml]; rfl) [(.int p6)] [] (lenOf pd0_1 rfl) rfl rfl (by show 2 * 0 + _ ≤ _; exact Nat.le_of_eq rfl) (hb hby at_193) ?_
            intro T56 v56 L56 M56 X56 N56 hq56
            obtain ⟨hq56, N56q, e56⟩ := hq56
            replace N56 := N56 N56q
            rcases hq56 with ⟨hA56, hB56, rfl⟩ | ⟨hr56, rfl⟩
            ·
              exact absurd ((own_m _).symm.trans hB56) hE3
            ·
              show Go _ _ _ _ T56 (mkF m 196 #[.val (.int p1), .val (.int p2), .val (.int p3), .val (.int p4), .val (.int p5), .val (.int p6), .val (.int (3 : Int32)), .val (.int (0 : Int32)), .val (.ref b45), .val (.ref b49), .val (.int (1 : Int32)), .val (.int (2 : Int32)), .val (.int (0 : Int32))] [(.int (0 : Int32))])
              refine Go.st (fun t k => XS.iload X56.here hx rfl (hb hby at_196) rfl k) ?_
              show Go _ _ _ _ T56 (mkF m 198 #[.val (.int p1), .val (.int p2), .val (.int p3), .val (.int p4), .val (.int p5), .val (.int p6), .val (.int (3 : Int32)), .val (.int (0 : Int32)), .val (.ref b45), .val (.ref b49), .val (.int (1 : Int32)), .val (.int (2 : Int32)), .val (.int (0 : Int32))] [(.int (0 : Int32)), (.int (0 : Int32))])
              refine Go.st (fun t k => XS.icmpNo X56.here hx rfl (hb hby at_198) rfl (by decide) k) ?_
              show Go _ _ _ _ T56 (mkF m 201 #[.val (.int p1), .val (.int p2), .val (.int p3), .val (.int p4), .val (.int p5), .val (.int p6), .val (.int (3 : Int32)), .val (.int (0 : Int32)), .val (.ref b45), .val (.ref b49), .val (.int (1 : Int32)), .val (.int (2 : Int32)), .val (.int (0 : Int32))] [])
              refine Go.st (fun t k => XS.iconst X56.here hx rfl (hb hby at_201) k) ?_
              show Go _ _ _ _ T56 (mkF m 202 #[.val (.int p1), .val (.int p2), .val (.int p3), .val (.int p4), .val (.int p5), .val (.int p6), .val (.int (3 : Int32)), .val (.int (0 : Int32)), .val (.ref b45), .val (.ref b49), .val (.int (1 : Int32)), .val (.int (2 : Int32)), .val (.int (0 : Int32))] [(.int (1 : Int32))])
              refine Go.st (fun t k => XS.goto X56.here hx rfl (pc0 := 202) (pc' := 206) rfl (hb hby at_202) (by decide) (by decide) k) ?_
              show Go _ _ _ _ T56 (mkF m 206 #[.val (.int p1), .val (.int p2), .val (.int p3), .val (.int p4), .val (.int p5), .val (.int p6), .val (.int (3 : Int32)), .val (.int (0 : Int32)), .val (.ref b45), .val (.ref b49), .val (.int (1 : Int32)), .val (.int (2 : Int32)), .val (.int (0 : Int32))] [(.int (1 : Int32))])
              exact goN X56 hx hret hlk (by simp) (hb hby at_206) (by decide) (by decide) ⟨rfl, N56⟩
        ·
          exact absurd ⟨by decide, (own_m _).trans hE1⟩ hr52
      ·
        refine Go.st (fun t k => XS.icmpYes X50.here hx rfl (pc0 := 75) (pc' := 82) rfl (hb hby at_75) rfl (feq hE1).2 (by decide) (by decide) k) ?_
        show Go _ _ _ _ T50 (mkF m 82 #[.val (.int p1), .val (.int p2), .val (.int p3), .val (.int p4), .val (.int p5), .val (.int p6), .val (.int (3 : Int32)), .val (.int (0 : Int32)), .val (.ref b45), .val (.ref b49), .unset, .unset, .unset] [])
        refine Go.st (fun t k => XS.iconst X50.here hx rfl (hb hby at_82) k) ?_
        show Go _ _ _ _ T50 (mkF m 83 #[.val (.int p1), .val (.int p2), .val (.int p3), .val (.int p4), .val (.int p5), .val (.int p6), .val (.int (3 : Int32)), .val (.int (0 : Int32)), .val (.ref b45), .val (.ref b49), .unset, .unset, .unset] [(.int (0 : Int32))])
        refine Go.st (fun t k => XS.istore X50.here hx rfl (hb hby at_83) rfl (l' := #[.val (.int p1), .val (.int p2), .val (.int p3), .val (.int p4), .val (.int p5), .val (.int p6), .val (.int (3 : Int32)), .val (.int (0 : Int32)), .val (.ref b45), .val (.ref b49), .val (.int (0 : Int32)), .unset, .unset]) rfl k) ?_
        show Go _ _ _ _ T50 (mkF m 85 #[.val (.int p1), .val (.int p2), .val (.int p3), .val (.int p4), .val (.int p5), .val (.int p6), .val (.int (3 : Int32)), .val (.int (0 : Int32)), .val (.ref b45), .val (.ref b49), .val (.int (0 : Int32)), .unset, .unset] [])
        refine Go.st (fun t k => XS.aload X50.here hx rfl (hb hby at_85) rfl rfl k) ?_
        show Go _ _ _ _ T50 (mkF m 87 #[.val (.int p1), .val (.int p2), .val (.int p3), .val (.int p4), .val (.int p5), .val (.int p6), .val (.int (3 : Int32)), .val (.int (0 : Int32)), .val (.ref b45), .val (.ref b49), .val (.int (0 : Int32)), .unset, .unset] [(.ref b49)])
        refine Go.st (fun t k => XS.iload X50.here hx rfl (hb hby at_87) rfl k) ?_
        show Go _ _ _ _ T50 (mkF m 89 #[.val (.int p1), .val (.int p2), .val (.int p3), .val (.int p4), .val (.int p5), .val (.int p6), .val (.int (3 : Int32)), .val (.int (0 : Int32)), .val (.ref b45), .val (.ref b49), .val (.int (0 : Int32)), .unset, .unset] [(.int p5), (.ref b49)])
        refine goM X50 hx hZ (y := (⟨"com/example/vetter/vetter/io/DerReader", "nextIs", "(I)Z"⟩ : MethodName)) (z := (⟨"com/example/vetter/vetter/io/DerReader", "nextIs", "(I)Z"⟩ : MethodName)) hown (hw _ (List.mem_of_getElem? (i := 12) rfl)) (hw _ (List.mem_of_getElem? (i := 13) rfl)) (hw _ (List.mem_of_getElem? (i := 15) rfl)) (hw _ (List.mem_of_getElem? (i := 14) rfl)) (hw _ (List.mem_of_getElem? (i := 16) rfl)) (hw _ (List.mem_of_getElem? (i := 3) rfl)) (notFace_of_selects (args := #[]) (mvT hZ (hw _ (List.mem_of_getElem? (i := 15) rfl)))) (by decide) (rm3 l Z a0 hw b49 p5 T50.heap n0 Z50 (0 : Int32) b45 3 _ (3 : Int32) ((p2.toInt8.toInt32).toInt8.toInt32) F_position_b49 F_data_b49 V_b45 rfl (fun _ => ⟨0, ⟨by decide, rfl, by decide⟩, rfl⟩)) rfl N50 E_b49 0 (by decide) (by decide) (by decide) (by decide) (g := (mkF m 89 #[.val (.int p1), .val (.int p2), .val (.int p3), .val (.int p4), .val (.int p5), .val (.int p6), .val (.int (3 : Int32)), .val (.int (0 : Int32)), .val (.ref b45), .val (.ref b49), .val (.int (0 : Int32)), .unset, .unset] [(.int p5), (.ref b49)])) rfl (by rw [hml]; rfl) [(.int p5)] [] (lenOf pd0_1 rfl) rfl rfl (by show 2 * 0 + _ ≤ _; exact Nat.le_of_eq rfl) (hb hby at_89) ?_
        intro T57 v57 L57 M57 X57 N57 hq57
        obtain ⟨hq57, N57q, e57⟩ := hq57
        replace N57 := N57 N57q
        rcases hq57 with ⟨hA57, hB57, rfl⟩ | ⟨hr57, rfl⟩
        ·
          exact absurd ((own_m _).symm.trans hB57) hE1
        ·
          show Go _ _ _ _ T57 (mkF m 92 #[.val (.int p1), .val (.int p2), .val (.int p3), .val (.int p4), .val (.int p5), .val (.int p6), .val (.int (3 : Int32)), .val (.int (0 : Int32)), .val (.ref b45), .val (.ref b49), .val (.int (0 : Int32)), .unset, .unset] [(.int (0 : Int32))])
          refine Go.st (fun t k => XS.iload X57.here hx rfl (hb hby at_92) rfl k) ?_
          show Go _ _ _ _ T57 (mkF m 94 #[.val (.int p1), .val (.int p2), .val (.int p3), .val (.int p4), .val (.int p5), .val (.int p6), .val (.int (3 : Int32)), .val (.int (0 : Int32)), .val (.ref b45), .val (.ref b49), .val (.int (0 : Int32)), .unset, .unset] [(.int (0 : Int32)), (.int (0 : Int32))])
          refine Go.st (fun t k => XS.icmpYes X57.here hx rfl (pc0 := 94) (pc' := 99) rfl (hb hby at_94) rfl (by decide) (by decide) (by decide) k) ?_
          show Go _ _ _ _ T57 (mkF m 99 #[.val (.int p1), .val (.int p2), .val (.int p3), .val (.int p4), .val (.int p5), .val (.int p6), .val (.int (3 : Int32)), .val (.int (0 : Int32)), .val (.ref b45), .val (.ref b49), .val (.int (0 : Int32)), .unset, .unset] [])
          refine Go.st (fun t k => XS.iconst X57.here hx rfl (hb hby at_99) k) ?_
          show Go _ _ _ _ T57 (mkF m 100 #[.val (.int p1), .val (.int p2), .val (.int p3), .val (.int p4), .val (.int p5), .val (.int p6), .val (.int (3 : Int32)), .val (.int (0 : Int32)), .val (.ref b45), .val (.ref b49), .val (.int (0 : Int32)), .unset, .unset] [(.int (0 : Int32))])
          refine Go.st (fun t k => XS.istore X57.here hx rfl (hb hby at_100) rfl (l' := #[.val (.int p1), .val (.int p2), .val (.int p3), .val (.int p4), .val (.int p5), .val (.int p6), .val (.int (3 : Int32)), .val (.int (0 : Int32)), .val (.ref b45), .val (.ref b49), .val (.int (0 : Int32)), .val (.int (0 : Int32)), .unset]) rfl k) ?_
          show Go _ _ _ _ T57 (mkF m 102 #[.val (.int p1), .val (.int p2), .val (.int p3), .val (.int p4), .val (.int p5), .val (.int p6), .val (.int (3 : Int32)), .val (.int (0 : Int32)), .val (.ref b45), .val (.ref b49), .val (.int (0 : Int32)), .val (.int (0 : Int32)), .unset] [])
          refine Go.st (fun t k => XS.iload X57.here hx rfl (hb hby at_102) rfl k) ?_
          show Go _ _ _ _ T57 (mkF m 104 #[.val (.int p1), .val (.int p2), .val (.int p3), .val (.int p4), .val (.int p5), .val (.int p6), .val (.int (3 : Int32)), .val (.int (0 : Int32)), .val (.ref b45), .val (.ref b49), .val (.int (0 : Int32)), .val (.int (0 : Int32)), .unset] [(.int (3 : Int32))])
          refine Go.st (fun t k => XS.iconst X57.here hx rfl (hb hby at_104) k) ?_
          show Go _ _ _ _ T57 (mkF m 105 #[.val (.int p1), .val (.int p2), .val (.int p3), .val (.int p4), .val (.int p5), .val (.int p6), .val (.int (3 : Int32)), .val (.int (0 : Int32)), .val (.ref b45), .val (.ref b49), .val (.int (0 : Int32)), .val (.int (0 : Int32)), .unset] [(.int (2 : Int32)), (.int (3 : Int32))])
          refine Go.st (fun t k => XS.icmpNo X57.here hx rfl (hb hby at_105) rfl (by decide) k) ?_
          show Go _ _ _ _ T57 (mkF m 108 #[.val (.int p1), .val (.int p2), .val (.int p3), .val (.int p4), .val (.int p5), .val (.int p6), .val (.int (3 : Int32)), .val (.int (0 : Int32)), .val (.ref b45), .val (.ref b49), .val (.int (0 : Int32)), .val (.int (0 : Int32)), .unset] [])
          refine Go.st (fun t k => XS.iload X57.here hx rfl (hb hby at_108) rfl k) ?_
          show Go _ _ _ _ T57 (mkF m 110 #[.val (.int p1), .val (.int p2), .val (.int p3), .val (.int p4), .val (.int p5), .val (.int p6), .val (.int (3 : Int32)), .val (.int (0 : Int32)), .val (.ref b45), .val (.ref b49), .val (.int (0 : Int32)), .val (.int (0 : Int32)), .unset] [(.int (0 : Int32))])
          refine Go.st (fun t k => XS.iload X57.here hx rfl (hb hby at_110) rfl k) ?_
          show Go _ _ _ _ T57 (mkF m 112 #[.val (.int p1), .val (.int p2), .val (.int p3), .val (.int p4), .val (.int p5), .val (.int p6), .val (.int (3 : Int32)), .val (.int (0 : Int32)), .val (.ref b45), .val (.ref b49), .val (.int (0 : Int32)), .val (.int (0 : Int32)), .unset] [(.int (3 : Int32)), (.int (0 : Int32))])
          refine Go.st (fun t k => XS.iconst X57.here hx rfl (hb hby at_112) k) ?_
          show Go _ _ _ _ T57 (mkF m 113 #[.val (.int p1), .val (.int p2), .val (.int p3), .val (.int p4), .val (.int p5), .val (.int p6), .val (.int (3 : Int32)), .val (.int (0 : Int32)), .val (.ref b45), .val (.ref b49), .val (.int (0 : Int32)), .val (.int (0 : Int32)), .unset] [(.int (2 : Int32)), (.int (3 : Int32)), (.int (0 : Int32))])
          refine Go.st (fun t k => XS.isub X57.here hx rfl (hb hby at_113) rfl k) ?_
          show Go _ _ _ _ T57 (mkF m 114 #[.val (.int p1), .val (.int p2), .val (.int p3), .val (.int p4), .val (.int p5), .val (.int p6), .val (.int (3 : Int32)), .val (.int (0 : Int32)), .val (.ref b45), .val (.ref b49), .val (.int (0 : Int32)), .val (.int (0 : Int32)), .unset] [(.int (1 : Int32)), (.int (0 : Int32))])
          refine Go.st (fun t k => XS.icmpNo X57.here hx rfl (hb hby at_114) rfl (by decide) k) ?_
          show Go _ _ _ _ T57 (mkF m 117 #[.val (.int p1), .val (.int p2), .val (.int p3), .val (.int p4), .val (.int p5), .val (.int p6), .val (.int (3 : Int32)), .val (.int (0 : Int32)), .val (.ref b45), .val (.ref b49), .val (.int (0 : Int32)), .val (.int (0 : Int32)), .unset] [])
          refine Go.st (fun t k => XS.aload X57.here hx rfl (hb hby at_117) rfl rfl k) ?_
          show Go _ _ _ _ T57 (mkF m 119 #[.val (.int p1), .val (.int p2), .val (.int p3), .val (.int p4), .val (.int p5), .val (.int p6), .val (.int (3 : Int32)), .val (.int (0 : Int32)), .val (.ref b45), .val (.ref b49), .val (.int (0 : Int32)), .val (.int (0 : Int32)), .unset] [(.ref b49)])
          refine Go.st (fun t k => XS.iloadN X57.here hx rfl (hb hby at_119) rfl k) ?_
          show Go _ _ _ _ T57 (mkF m 120 #[.val (.int p1), .val (.int p2), .val (.int p3), .val (.int p4), .val (.int p5), .val (.int p6), .val (.int (3 : Int32)), .val (.int (0 : Int32)), .val (.ref b45), .val (.ref b49), .val (.int (0 : Int32)), .val (.int (0 : Int32)), .unset] [(.int p2), (.ref b49)])
          refine Go.st (fun t k => XS.sipush X57.here hx rfl (hb hby at_120) k) ?_
          show Go _ _ _ _ T57 (mkF m 123 #[.val (.int p1), .val (.int p2), .val (.int p3), .val (.int p4), .val (.int p5), .val (.int p6), .val (.int (3 : Int32)), .val (.int (0 : Int32)), .val (.ref b45), .val (.ref b49), .val (.int (0 : Int32)), .val (.int (0 : Int32)), .unset] [(.int (255 : Int32)), (.int p2), (.ref b49)])
          refine Go.st (fun t k => XS.iand X57.here hx rfl (hb hby at_123) rfl k) ?_
          show Go _ _ _ _ T57 (mkF m 124 #[.val (.int p1), .val (.int p2), .val (.int p3), .val (.int p4), .val (.int p5), .val (.int p6), .val (.int (3 : Int32)), .val (.int (0 : Int32)), .val (.ref b45), .val (.ref b49), .val (.int (0 : Int32)), .val (.int (0 : Int32)), .unset] [(.int (p2 &&& (255 : Int32))), (.ref b49)])
          refine goM X57 hx hZ (y := (⟨"com/example/vetter/vetter/io/DerReader", "read", "(I)[B"⟩ : MethodName)) (z := (⟨"com/example/vetter/vetter/io/DerReader", "read", "(I)[B"⟩ : MethodName)) hown (hw _ (List.mem_of_getElem? (i := 19) rfl)) (hw _ (List.mem_of_getElem? (i := 20) rfl)) (hw _ (List.mem_of_getElem? (i := 22) rfl)) (hw _ (List.mem_of_getElem? (i := 21) rfl)) (hw _ (List.mem_of_getElem? (i := 23) rfl)) (hw _ (List.mem_of_getElem? (i := 3) rfl)) (notFace_of_selects (args := #[]) (mvT hZ (hw _ (List.mem_of_getElem? (i := 22) rfl)))) (by decide) (rm4 l Z a0 hw b49 (p2 &&& (255 : Int32)) T50.heap n0 Z50 b45 3 _ (3 : Int32) (0 : Int32) (2 : Int32) ((p2.toInt8.toInt32).toInt8.toInt32) (by simp [own_K]) E_b49 F_data_b49 V_b45 g_b49 ne_b45_b49 F_position_b49 rfl (own_m p2) rfl (fun i hi => by rcases own_lt3 hi with rfl | rfl | rfl <;> exact fits_nar_byte _)) e57 N57 E_b49 0 (by decide) (by decide) (by decide) (by decide) (g := (mkF m 124 #[.val (.int p1), .val (.int p2), .val (.int p3), .val (.int p4), .val (.int p5), .val (.int p6), .val (.int (3 : Int32)), .val (.int (0 : Int32)), .val (.ref b45), .val (.ref b49), .val (.int (0 : Int32)), .val (.int (0 : Int32)), .unset] [(.int (p2 &&& (255 : Int32))), (.ref b49)])) rfl (by rw [hml]; rfl) [(.int (p2 &&& (255 : Int32)))] [] (lenOf pd0_2 rfl) rfl rfl (by show 2 * 0 + _ ≤ _; exact Nat.le_of_eq rfl) (hb hby at_124) ?_
          intro T58 v58 L58 M58 X58 N58 hq58
          obtain ⟨⟨r58, rfl⟩, N58q, K58, E_b49, F_data_b49, F_position_b49⟩ := hq58
          replace N58 := N58 N58q
          have Z58 := Nat.le_trans Z50 K58.1
          have V_b45 := V_b45.keep K58 (ninS ne_b45_b49 nin0)
          show Go _ _ _ _ T58 (mkF m 127 #[.val (.int p1), .val (.int p2), .val (.int p3), .val (.int p4), .val (.int p5), .val (.int p6), .val (.int (3 : Int32)), .val (.int (0 : Int32)), .val (.ref b45), .val (.ref b49), .val (.int (0 : Int32)), .val (.int (0 : Int32)), .unset] [(.ref r58)])
          refine Go.st (fun t k => XS.pop X58.here hx rfl (hb hby at_127) rfl rfl k) ?_
          show Go _ _ _ _ T58 (mkF m 128 #[.val (.int p1), .val (.int p2), .val (.int p3), .val (.int p4), .val (.int p5), .val (.int p6), .val (.int (3 : Int32)), .val (.int (0 : Int32)), .val (.ref b45), .val (.ref b49), .val (.int (0 : Int32)), .val (.int (0 : Int32)), .unset] [])
          refine Go.st (fun t k => XS.iconst X58.here hx rfl (hb hby at_128) k) ?_
          show Go _ _ _ _ T58 (mkF m 129 #[.val (.int p1), .val (.int p2), .val (.int p3), .val (.int p4), .val (.int p5), .val (.int p6), .val (.int (3 : Int32)), .val (.int (0 : Int32)), .val (.ref b45), .val (.ref b49), .val (.int (0 : Int32)), .val (.int (0 : Int32)), .unset] [(.int (2 : Int32))])
          refine Go.st (fun t k => XS.iload X58.here hx rfl (hb hby at_129) rfl k) ?_
          show Go _ _ _ _ T58 (mkF m 131 #[.val (.int p1), .val (.int p2), .val (.int p3), .val (.int p4), .val (.int p5), .val (.int p6), .val (.int (3 : Int32)), .val (.int (0 : Int32)), .val (.ref b45), .val (.ref b49), .val (.int (0 : Int32)), .val (.int (0 : Int32)), .unset] [(.int (0 : Int32)), (.int (2 : Int32))])
          refine Go.st (fun t k => XS.iadd X58.here hx rfl (hb hby at_131) rfl k) ?_
          show Go _ _ _ _ T58 (mkF m 132 #[.val (.int p1), .val (.int p2), .val (.int p3), .val (.int p4), .val (.int p5), .val (.int p6), .val (.int (3 : Int32)), .val (.int (0 : Int32)), .val (.ref b45), .val (.ref b49), .val (.int (0 : Int32)), .val (.int (0 : Int32)), .unset] [(.int (2 : Int32))])
          refine Go.st (fun t k => XS.istore X58.here hx rfl (hb hby at_132) rfl (l' := #[.val (.int p1), .val (.int p2), .val (.int p3), .val (.int p4), .val (.int p5), .val (.int p6), .val (.int (3 : Int32)), .val (.int (0 : Int32)), .val (.ref b45), .val (.ref b49), .val (.int (0 : Int32)), .val (.int (2 : Int32)), .unset]) rfl k) ?_
          show Go _ _ _ _ T58 (mkF m 134 #[.val (.int p1), .val (.int p2), .val (.int p3), .val (.int p4), .val (.int p5), .val (.int p6), .val (.int (3 : Int32)), .val (.int (0 : Int32)), .val (.ref b45), .val (.ref b49), .val (.int (0 : Int32)), .val (.int (2 : Int32)), .unset] [])
          refine Go.st (fun t k => XS.iload X58.here hx rfl (hb hby at_134) rfl k) ?_
          show Go _ _ _ _ T58 (mkF m 136 #[.val (.int p1), .val (.int p2), .val (.int p3), .val (.int p4), .val (.int p5), .val (.int p6), .val (.int (3 : Int32)), .val (.int (0 : Int32)), .val (.ref b45), .val (.ref b49), .val (.int (0 : Int32)), .val (.int (2 : Int32)), .unset] [(.int (2 : Int32))])
          refine Go.st (fun t k => XS.iload X58.here hx rfl (hb hby at_136) rfl k) ?_
          show Go _ _ _ _ T58 (mkF m 138 #[.val (.int p1), .val (.int p2), .val (.int p3), .val (.int p4), .val (.int p5), .val (.int p6), .val (.int (3 : Int32)), .val (.int (0 : Int32)), .val (.ref b45), .val (.ref b49), .val (.int (0 : Int32)), .val (.int (2 : Int32)), .unset] [(.int (3 : Int32)), (.int (2 : Int32))])
          refine Go.st (fun t k => XS.icmpYes X58.here hx rfl (pc0 := 138) (pc' := 147) rfl (hb hby at_138) rfl (by decide) (by decide) (by decide) k) ?_
          show Go _ _ _ _ T58 (mkF m 147 #[.val (.int p1), .val (.int p2), .val (.int p3), .val (.int p4), .val (.int p5), .val (.int p6), .val (.int (3 : Int32)), .val (.int (0 : Int32)), .val (.ref b45), .val (.ref b49), .val (.int (0 : Int32)), .val (.int (2 : Int32)), .unset] [])
          refine Go.st (fun t k => XS.iload X58.here hx rfl (hb hby at_147) rfl k) ?_
          show Go _ _ _ _ T58 (mkF m 149 #[.val (.int p1), .val (.int p2), .val (.int p3), .val (.int p4), .val (.int p5), .val (.int p6), .val (.int (3 : Int32)), .val (.int (0 : Int32)), .val (.ref b45), .val (.ref b49), .val (.int (0 : Int32)), .val (.int (2 : Int32)), .unset] [(.int (2 : Int32))])
          refine Go.st (fun t k => XS.ifYes X58.here hx rfl (pc0 := 149) (pc' := 172) rfl (hb hby at_149) rfl (by decide) (by decide) (by decide) k) ?_
          show Go _ _ _ _ T58 (mkF m 172 #[.val (.int p1), .val (.int p2), .val (.int p3), .val (.int p4), .val (.int p5), .val (.int p6), .val (.int (3 : Int32)), .val (.int (0 : Int32)), .val (.ref b45), .val (.ref b49), .val (.int (0 : Int32)), .val (.int (2 : Int32)), .unset] [])
          refine Go.st (fun t k => XS.iloadN X58.here hx rfl (hb hby at_172) rfl k) ?_
          show Go _ _ _ _ T58 (mkF m 173 #[.val (.int p1), .val (.int p2), .val (.int p3), .val (.int p4), .val (.int p5), .val (.int p6), .val (.int (3 : Int32)), .val (.int (0 : Int32)), .val (.ref b45), .val (.ref b49), .val (.int (0 : Int32)), .val (.int (2 : Int32)), .unset] [(.int p4)])
          refine Go.st (fun t k => XS.sipush X58.here hx rfl (hb hby at_173) k) ?_
          show Go _ _ _ _ T58 (mkF m 176 #[.val (.int p1), .val (.int p2), .val (.int p3), .val (.int p4), .val (.int p5), .val (.int p6), .val (.int (3 : Int32)), .val (.int (0 : Int32)), .val (.ref b45), .val (.ref b49), .val (.int (0 : Int32)), .val (.int (2 : Int32)), .unset] [(.int (255 : Int32)), (.int p4)])
          refine Go.st (fun t k => XS.iand X58.here hx rfl (hb hby at_176) rfl k) ?_
          show Go _ _ _ _ T58 (mkF m 177 #[.val (.int p1), .val (.int p2), .val (.int p3), .val (.int p4), .val (.int p5), .val (.int p6), .val (.int (3 : Int32)), .val (.int (0 : Int32)), .val (.ref b45), .val (.ref b49), .val (.int (0 : Int32)), .val (.int (2 : Int32)), .unset] [(.int (p4 &&& (255 : Int32)))])
          refine Go.st (fun t k => XS.iload X58.here hx rfl (hb hby at_177) rfl k) ?_
          show Go _ _ _ _ T58 (mkF m 179 #[.val (.int p1), .val (.int p2), .val (.int p3), .val (.int p4), .val (.int p5), .val (.int p6), .val (.int (3 : Int32)), .val (.int (0 : Int32)), .val (.ref b45), .val (.ref b49), .val (.int (0 : Int32)), .val (.int (2 : Int32)), .unset] [(.int p6), (.int (p4 &&& (255 : Int32)))])
          by_cases hE3 : (p4 &&& (255 : Int32)) = p6
          ·
            refine Go.st (fun t k => XS.icmpNo X58.here hx rfl (hb hby at_179) rfl (teq hE3).2 k) ?_
            show Go _ _ _ _ T58 (mkF m 182 #[.val (.int p1), .val (.int p2), .val (.int p3), .val (.int p4), .val (.int p5), .val (.int p6), .val (.int (3 : Int32)), .val (.int (0 : Int32)), .val (.ref b45), .val (.ref b49), .val (.int (0 : Int32)), .val (.int (2 : Int32)), .unset] [])
            refine Go.st (fun t k => XS.iconst X58.here hx rfl (hb hby at_182) k) ?_
            show Go _ _ _ _ T58 (mkF m 183 #[.val (.int p1), .val (.int p2), .val (.int p3), .val (.int p4), .val (.int p5), .val (.int p6), .val (.int (3 : Int32)), .val (.int (0 : Int32)), .val (.ref b45), .val (.ref b49), .val (.int (0 : Int32)), .val (.int (2 : Int32)), .unset] [(.int (1 : Int32))])
            refine Go.st (fun t k => XS.goto X58.here hx rfl (pc0 := 183) (pc' := 187) rfl (hb hby at_183) (by decide) (by decide) k) ?_
            show Go _ _ _ _ T58 (mkF m 187 #[.val (.int p1), .val (.int p2), .val (.int p3), .val (.int p4), .val (.int p5), .val (.int p6), .val (.int (3 : Int32)), .val (.int (0 : Int32)), .val (.ref b45), .val (.ref b49), .val (.int (0 : Int32)), .val (.int (2 : Int32)), .unset] [(.int (1 : Int32))])
            refine Go.st (fun t k => XS.istore X58.here hx rfl (hb hby at_187) rfl (l' := #[.val (.int p1), .val (.int p2), .val (.int p3), .val (.int p4), .val (.int p5), .val (.int p6), .val (.int (3 : Int32)), .val (.int (0 : Int32)), .val (.ref b45), .val (.ref b49), .val (.int (0 : Int32)), .val (.int (2 : Int32)), .val (.int (1 : Int32))]) rfl k) ?_
            show Go _ _ _ _ T58 (mkF m 189 #[.val (.int p1), .val (.int p2), .val (.int p3), .val (.int p4), .val (.int p5), .val (.int p6), .val (.int (3 : Int32)), .val (.int (0 : Int32)), .val (.ref b45), .val (.ref b49), .val (.int (0 : Int32)), .val (.int (2 : Int32)), .val (.int (1 : Int32))] [])
            refine Go.st (fun t k => XS.aload X58.here hx rfl (hb hby at_189) rfl rfl k) ?_
            show Go _ _ _ _ T58 (mkF m 191 #[.val (.int p1), .val (.int p2), .val (.int p3), .val (.int p4), .val (.int p5), .val (.int p6), .val (.int (3 : Int32)), .val (.int (0 : Int32)), .val (.ref b45), .val (.ref b49), .val (.int (0 : Int32)), .val (.int (2 : Int32)), .val (.int (1 : Int32))] [(.ref b49)])
            refine Go.st (fun t k => XS.iload X58.here hx rfl (hb hby at_191) rfl k) ?_
            show Go _ _ _ _ T58 (mkF m 193 #[.val (.int p1), .val (.int p2), .val (.int p3), .val (.int p4), .val (.int p5), .val (.int p6), .val (.int (3 : Int32)), .val (.int (0 : Int32)), .val (.ref b45), .val (.ref b49), .val (.int (0 : Int32)), .val (.int (2 : Int32)), .val (.int (1 : Int32))] [(.int p6), (.ref b49)])
            refine goM X58 hx hZ (y := (⟨"com/example/vetter/vetter/io/DerReader", "nextIs", "(I)Z"⟩ : MethodName)) (z := (⟨"com/example/vetter/vetter/io/DerReader", "nextIs", "(I)Z"⟩ : MethodName)) hown (hw _ (List.mem_of_getElem? (i := 12) rfl)) (hw _ (List.mem_of_getElem? (i := 13) rfl)) (hw _ (List.mem_of_getElem? (i := 15) rfl)) (hw _ (List.mem_of_getElem? (i := 14) rfl)) (hw _ (List.mem_of_getElem? (i := 16) rfl)) (hw _ (List.mem_of_getElem? (i := 3) rfl)) (notFace_of_selects (args := #[]) (mvT hZ (hw _ (List.mem_of_getElem? (i := 15) rfl)))) (by decide) (rm3 l Z a0 hw b49 p6 T58.heap n0 Z58 (2 : Int32) b45 3 _ (3 : Int32) ((p4.toInt8.toInt32).toInt8.toInt32) F_position_b49 F_data_b49 V_b45 rfl (fun _ => ⟨2, ⟨by decide, rfl, by decide⟩, rfl⟩)) rfl N58 E_b49 0 (by decide) (by decide) (by decide) (by decide) (g := (mkF m 193 #[.val (.int p1), .val (.int p2), .val (.int p3), .val (.int p4), .val (.int p5), .val (.int p6), .val (.int (3 : Int32)), .val (.int (0 : Int32)), .val (.ref b45), .val (.ref b49), .val (.int (0 : Int32)), .val (.int (2 : Int32)), .val (.int (1 : Int32))] [(.int p6), (.ref b49)])) rfl (by rw [hml]; rfl) [(.int p6)] [] (lenOf pd0_1 rfl) rfl rfl (by show 2 * 0 + _ ≤ _; exact Nat.le_of_eq rfl) (hb hby at_193) ?_
            intro T60 v60 L60 M60 X60 N60 hq60
            obtain ⟨hq60, N60q, e60⟩ := hq60
            replace N60 := N60 N60q
            rcases hq60 with ⟨hA60, hB60, rfl⟩ | ⟨hr60, rfl⟩
            ·
              show Go _ _ _ _ T60 (mkF m 196 #[.val (.int p1), .val (.int p2), .val (.int p3), .val (.int p4), .val (.int p5), .val (.int p6), .val (.int (3 : Int32)), .val (.int (0 : Int32)), .val (.ref b45), .val (.ref b49), .val (.int (0 : Int32)), .val (.int (2 : Int32)), .val (.int (1 : Int32))] [(.int (1 : Int32))])
              refine Go.st (fun t k => XS.iload X60.here hx rfl (hb hby at_196) rfl k) ?_
              show Go _ _ _ _ T60 (mkF m 198 #[.val (.int p1), .val (.int p2), .val (.int p3), .val (.int p4), .val (.int p5), .val (.int p6), .val (.int (3 : Int32)), .val (.int (0 : Int32)), .val (.ref b45), .val (.ref b49), .val (.int (0 : Int32)), .val (.int (2 : Int32)), .val (.int (1 : Int32))] [(.int (1 : Int32)), (.int (1 : Int32))])
              refine Go.st (fun t k => XS.icmpNo X60.here hx rfl (hb hby at_198) rfl (by decide) k) ?_
              show Go _ _ _ _ T60 (mkF m 201 #[.val (.int p1), .val (.int p2), .val (.int p3), .val (.int p4), .val (.int p5), .val (.int p6), .val (.int (3 : Int32)), .val (.int (0 : Int32)), .val (.ref b45), .val (.ref b49), .val (.int (0 : Int32)), .val (.int (2 : Int32)), .val (.int (1 : Int32))] [])
              refine Go.st (fun t k => XS.iconst X60.here hx rfl (hb hby at_201) k) ?_
              show Go _ _ _ _ T60 (mkF m 202 #[.val (.int p1), .val (.int p2), .val (.int p3), .val (.int p4), .val (.int p5), .val (.int p6), .val (.int (3 : Int32)), .val (.int (0 : Int32)), .val (.ref b45), .val (.ref b49), .val (.int (0 : Int32)), .val (.int (2 : Int32)), .val (.int (1 : Int32))] [(.int (1 : Int32))])
              refine Go.st (fun t k => XS.goto X60.here hx rfl (pc0 := 202) (pc' := 206) rfl (hb hby at_202) (by decide) (by decide) k) ?_
              show Go _ _ _ _ T60 (mkF m 206 #[.val (.int p1), .val (.int p2), .val (.int p3), .val (.int p4), .val (.int p5), .val (.int p6), .val (.int (3 : Int32)), .val (.int (0 : Int32)), .val (.ref b45), .val (.ref b49), .val (.int (0 : Int32)), .val (.int (2 : Int32)), .val (.int (1 : Int32))] [(.int (1 : Int32))])
              exact goN X60 hx hret hlk (by simp) (hb hby at_206) (by decide) (by decide) ⟨rfl, N60⟩
            ·
              exact absurd ⟨by decide, (own_m _).trans hE3⟩ hr60
          ·
            refine Go.st (fun t k => XS.icmpYes X58.here hx rfl (pc0 := 179) (pc' := 186) rfl (hb hby at_179) rfl (feq hE3).2 (by decide) (by decide) k) ?_
            show Go _ _ _ _ T58 (mkF m 186 #[.val (.int p1), .val (.int p2), .val (.int p3), .val (.int p4), .val (.int p5), .val (.int p6), .val (.int (3 : Int32)), .val (.int (0 : Int32)), .val (.ref b45), .val (.ref b49), .val (.int (0 : Int32)), .val (.int (2 : Int32)), .unset] [])
            refine Go.st (fun t k => XS.iconst X58.here hx rfl (hb hby at_186) k) ?_
            show Go _ _ _ _ T58 (mkF m 187 #[.val (.int p1), .val (.int p2), .val (.int p3), .val (.int p4), .val (.int p5), .val (.int p6), .val (.int (3 : Int32)), .val (.int (0 : Int32)), .val (.ref b45), .val (.ref b49), .val (.int (0 : Int32)), .val (.int (2 : Int32)), .unset] [(.int (0 : Int32))])
            refine Go.st (fun t k => XS.istore X58.here hx rfl (hb hby at_187) rfl (l' := #[.val (.int p1), .val (.int p2), .val (.int p3), .val (.int p4), .val (.int p5), .val (.int p6), .val (.int (3 : Int32)), .val (.int (0 : Int32)), .val (.ref b45), .val (.ref b49), .val (.int (0 : Int32)), .val (.int (2 : Int32)), .val (.int (0 : Int32))]) rfl k) ?_
            show Go _ _ _ _ T58 (mkF m 189 #[.val (.int p1), .val (.int p2), .val (.int p3), .val (.int p4), .val (.int p5), .val (.int p6), .val (.int (3 : Int32)), .val (.int (0 : Int32)), .val (.ref b45), .val (.ref b49), .val (.int (0 : Int32)), .val (.int (2 : Int32)), .val (.int (0 : Int32))] [])
            refine Go.st (fun t k => XS.aload X58.here hx rfl (hb hby at_189) rfl rfl k) ?_
            show Go _ _ _ _ T58 (mkF m 191 #[.val (.int p1), .val (.int p2), .val (.int p3), .val (.int p4), .val (.int p5), .val (.int p6), .val (.int (3 : Int32)), .val (.int (0 : Int32)), .val (.ref b45), .val (.ref b49), .val (.int (0 : Int32)), .val (.int (2 : Int32)), .val (.int (0 : Int32))] [(.ref b49)])
            refine Go.st (fun t k => XS.iload X58.here hx rfl (hb hby at_191) rfl k) ?_
            show Go _ _ _ _ T58 (mkF m 193 #[.val (.int p1), .val (.int p2), .val (.int p3), .val (.int p4), .val (.int p5), .val (.int p6), .val (.int (3 : Int32)), .val (.int (0 : Int32)), .val (.ref b45), .val (.ref b49), .val (.int (0 : Int32)), .val (.int (2 : Int32)), .val (.int (0 : Int32))] [(.int p6), (.ref b49)])
            refine goM X58 hx hZ (y := (⟨"com/example/vetter/vetter/io/DerReader", "nextIs", "(I)Z"⟩ : MethodName)) (z := (⟨"com/example/vetter/vetter/io/DerReader", "nextIs", "(I)Z"⟩ : MethodName)) hown (hw _ (List.mem_of_getElem? (i := 12) rfl)) (hw _ (List.mem_of_getElem? (i := 13) rfl)) (hw _ (List.mem_of_getElem? (i := 15) rfl)) (hw _ (List.mem_of_getElem? (i := 14) rfl)) (hw _ (List.mem_of_getElem? (i := 16) rfl)) (hw _ (List.mem_of_getElem? (i := 3) rfl)) (notFace_of_selects (args := #[]) (mvT hZ (hw _ (List.mem_of_getElem? (i := 15) rfl)))) (by decide) (rm3 l Z a0 hw b49 p6 T58.heap n0 Z58 (2 : Int32) b45 3 _ (3 : Int32) ((p4.toInt8.toInt32).toInt8.toInt32) F_position_b49 F_data_b49 V_b45 rfl (fun _ => ⟨2, ⟨by decide, rfl, by decide⟩, rfl⟩)) rfl N58 E_b49 0 (by decide) (by decide) (by decide) (by decide) (g := (mkF m 193 #[.val (.int p1), .val (.int p2), .val (.int p3), .val (.int p4), .val (.int p5), .val (.int p6), .val (.int (3 : Int32)), .val (.int (0 : Int32)), .val (.ref b45), .val (.ref b49), .val (.int (0 : Int32)), .val (.int (2 : Int32)), .val (.int (0 : Int32))] [(.int p6), (.ref b49)])) rfl (by rw [hml]; rfl) [(.int p6)] [] (lenOf pd0_1 rfl) rfl rfl (by show 2 * 0 + _ ≤ _; exact Nat.le_of_eq rfl) (hb hby at_193) ?_
            intro T61 v61 L61 M61 X61 N61 hq61
            obtain ⟨hq61, N61q, e61⟩ := hq61
            replace N61 := N61 N61q
            rcases hq61 with ⟨hA61, hB61, rfl⟩ | ⟨hr61, rfl⟩
            ·
              exact absurd ((own_m _).symm.trans hB61) hE3
            ·
              show Go _ _ _ _ T61 (mkF m 196 #[.val (.int p1), .val (.int p2), .val (.int p3), .val (.int p4), .val (.int p5), .val (.int p6), .val (.int (3 : Int32)), .val (.int (0 : Int32)), .val (.ref b45), .val (.ref b49), .val (.int (0 : Int32)), .val (.int (2 : Int32)), .val (.int (0 : Int32))] [(.int (0 : Int32))])
              refine Go.st (fun t k => XS.iload X61.here hx rfl (hb hby at_196) rfl k) ?_
              show Go _ _ _ _ T61 (mkF m 198 #[.val (.int p1), .val (.int p2), .val (.int p3), .val (.int p4), .val (.int p5), .val (.int p6), .val (.int (3 : Int32)), .val (.int (0 : Int32)), .val (.ref b45), .val (.ref b49), .val (.int (0 : Int32)), .val (.int (2 : Int32)), .val (.int (0 : Int32))] [(.int (0 : Int32)), (.int (0 : Int32))])
              refine Go.st (fun t k => XS.icmpNo X61.here hx rfl (hb hby at_198) rfl (by decide) k) ?_
              show Go _ _ _ _ T61 (mkF m 201 #[.val (.int p1), .val (.int p2), .val (.int p3), .val (.int p4), .val (.int p5), .val (.int p6), .val (.int (3 : Int32)), .val (.int (0 : Int32)), .val (.ref b45), .val (.ref b49), .val (.int (0 : Int32)), .val (.int (2 : Int32)), .val (.int (0 : Int32))] [])
              refine Go.st (fun t k => XS.iconst X61.here hx rfl (hb hby at_201) k) ?_
              show Go _ _ _ _ T61 (mkF m 202 #[.val (.int p1), .val (.int p2), .val (.int p3), .val (.int p4), .val (.int p5), .val (.int p6), .val (.int (3 : Int32)), .val (.int (0 : Int32)), .val (.ref b45), .val (.ref b49), .val (.int (0 : Int32)), .val (.int (2 : Int32)), .val (.int (0 : Int32))] [(.int (1 : Int32))])
              refine Go.st (fun t k => XS.goto X61.here hx rfl (pc0 := 202) (pc' := 206) rfl (hb hby at_202) (by decide) (by decide) k) ?_
              show Go _ _ _ _ T61 (mkF m 206 #[.val (.int p1), .val (.int p2), .val (.int p3), .val (.int p4), .val (.int p5), .val (.int p6), .val (.int (3 : Int32)), .val (.int (0 : Int32)), .val (.ref b45), .val (.ref b49), .val (.int (0 : Int32)), .val (.int (2 : Int32)), .val (.int (0 : Int32))] [(.int (1 : Int32))])
              exact goN X61 hx hret hlk (by simp) (hb hby at_206) (by decide) (by decide) ⟨rfl, N61⟩
    ·
      show Go _ _ _ _ T0 (mkF m 10 #[.val (.int p1), .val (.int p2), .val (.int p3), .val (.int p4), .val (.int p5), .val (.int p6), .val (.int (3 : Int32)), .val (.int (1 : Int32)), .unset, .unset, .unset, .unset, .unset] [])
      show Go _ _ _ _ T0 (mkF m 10 #[.val (.int p1), .val (.int p2), .val (.int p3), .val (.int p4), .val (.int p5), .val (.int p6), .val (.int (3 : Int32)), .val (.int (1 : Int32)), .unset, .unset, .unset, .unset, .unset] [])
      refine Go.st (fun t k => XS.iload X0.here hx rfl (hb hby at_10) rfl k) ?_
      show Go _ _ _ _ T0 (mkF m 12 #[.val (.int p1), .val (.int p2), .val (.int p3), .val (.int p4), .val (.int p5), .val (.int p6), .val (.int (3 : Int32)), .val (.int (1 : Int32)), .unset, .unset, .unset, .unset, .unset] [(.int (3 : Int32))])
      refine goNew X0 hx hZ (hw _ (List.mem_of_getElem? (i := 0) rfl)) e0 Z0 (by decide) (show Int32.toNatClampNeg (3 : Int32) = 3 from rfl) 3 (by decide) (by decide) (by decide) (by decide) (g := (mkF m 12 #[.val (.int p1), .val (.int p2), .val (.int p3), .val (.int p4), .val (.int p5), .val (.int p6), .val (.int (3 : Int32)), .val (.int (1 : Int32)), .unset, .unset, .unset, .unset, .unset] [(.int (3 : Int32))])) rfl rfl (hb hby at_12) ?_
      intro T62 h62 b62 X62 e62 E62 qz62 g_b62 Z62 V_b62
      replace V_b62 : BA Z h62 b62 .byte 3 (fun _ => (.int (0 : Int32))) := V_b62
      show Go _ _ _ _ T62 (mkF m 14 #[.val (.int p1), .val (.int p2), .val (.int p3), .val (.int p4), .val (.int p5), .val (.int p6), .val (.int (3 : Int32)), .val (.int (1 : Int32)), .unset, .unset, .unset, .unset, .unset] [(.ref b62)])
      refine Go.st (fun t k => XS.astore X62.here hx rfl (hb hby at_14) rfl rfl (l' := #[.val (.int p1), .val (.int p2), .val (.int p3), .val (.int p4), .val (.int p5), .val (.int p6), .val (.int (3 : Int32)), .val (.int (1 : Int32)), .val (.ref b62), .unset, .unset, .unset, .unset]) rfl k) ?_
      show Go _ _ _ _ T62 (mkF m 16 #[.val (.int p1), .val (.int p2), .val (.int p3), .val (.int p4), .val (.int p5), .val (.int p6), .val (.int (3 : Int32)), .val (.int (1 : Int32)), .val (.ref b62), .unset, .unset, .unset, .unset] [])
      refine Go.st (fun t k => XS.iload X62.here hx rfl (hb hby at_16) rfl k) ?_
      show Go _ _ _ _ T62 (mkF m 18 #[.val (.int p1), .val (.int p2), .val (.int p3), .val (.int p4), .val (.int p5), .val (.int p6), .val (.int (3 : Int32)), .val (.int (1 : Int32)), .val (.ref b62), .unset, .unset, .unset, .unset] [(.int (3 : Int32))])
      refine Go.st (fun t k => XS.ifNo X62.here hx rfl (hb hby at_18) rfl (by decide) k) ?_
      show Go _ _ _ _ T62 (mkF m 21 #[.val (.int p1), .val (.int p2), .val (.int p3), .val (.int p4), .val (.int p5), .val (.int p6), .val (.int (3 : Int32)), .val (.int (1 : Int32)), .val (.ref b62), .unset, .unset, .unset, .unset] [])
      refine Go.st (fun t k => XS.aload X62.here hx rfl (hb hby at_21) rfl rfl k) ?_
      show Go _ _ _ _ T62 (mkF m 23 #[.val (.int p1), .val (.int p2), .val (.int p3), .val (.int p4), .val (.int p5), .val (.int p6), .val (.int (3 : Int32)), .val (.int (1 : Int32)), .val (.ref b62), .unset, .unset, .unset, .unset] [(.ref b62)])
      refine Go.st (fun t k => XS.iconst X62.here hx rfl (hb hby at_23) k) ?_
      show Go _ _ _ _ T62 (mkF m 24 #[.val (.int p1), .val (.int p2), .val (.int p3), .val (.int p4), .val (.int p5), .val (.int p6), .val (.int (3 : Int32)), .val (.int (1 : Int32)), .val (.ref b62), .unset, .unset, .unset, .unset] [(.int (0 : Int32)), (.ref b62)])
      refine Go.st (fun t k => XS.iloadN X62.here hx rfl (hb hby at_24) rfl k) ?_
      show Go _ _ _ _ T62 (mkF m 25 #[.val (.int p1), .val (.int p2), .val (.int p3), .val (.int p4), .val (.int p5), .val (.int p6), .val (.int (3 : Int32)), .val (.int (1 : Int32)), .val (.ref b62), .unset, .unset, .unset, .unset] [(.int p2), (.int (0 : Int32)), (.ref b62)])
      refine Go.st (fun t k => XS.i2b X62.here hx rfl (hb hby at_25) rfl k) ?_
      show Go _ _ _ _ T62 (mkF m 26 #[.val (.int p1), .val (.int p2), .val (.int p3), .val (.int p4), .val (.int p5), .val (.int p6), .val (.int (3 : Int32)), .val (.int (1 : Int32)), .val (.ref b62), .unset, .unset, .unset, .unset] [(.int (p2.toInt8.toInt32)), (.int (0 : Int32)), (.ref b62)])
      refine goStB X62 hx hZ e62 N0 V_b62 g_b62 (g := (mkF m 26 #[.val (.int p1), .val (.int p2), .val (.int p3), .val (.int p4), .val (.int p5), .val (.int p6), .val (.int (3 : Int32)), .val (.int (1 : Int32)), .val (.ref b62), .unset, .unset, .unset, .unset] [(.int (p2.toInt8.toInt32)), (.int (0 : Int32)), (.ref b62)])) rfl rfl (hb hby at_26) (k := 0) ⟨by decide, rfl, by decide⟩ ?_
      intro T63 h63 L63 X63 e63 N63 W63 V_b62
      have Z63 := own_sz W63 Z62
      show Go _ _ _ _ T63 (mkF m 27 #[.val (.int p1), .val (.int p2), .val (.int p3), .val (.int p4), .val (.int p5), .val (.int p6), .val (.int (3 : Int32)), .val (.int (1 : Int32)), .val (.ref b62), .unset, .unset, .unset, .unset] [])
      refine Go.st (fun t k => XS.iload X63.here hx rfl (hb hby at_27) rfl k) ?_
      show Go _ _ _ _ T63 (mkF m 29 #[.val (.int p1), .val (.int p2), .val (.int p3), .val (.int p4), .val (.int p5), .val (.int p6), .val (.int (3 : Int32)), .val (.int (1 : Int32)), .val (.ref b62), .unset, .unset, .unset, .unset] [(.int (3 : Int32))])
      refine Go.st (fun t k => XS.iconst X63.here hx rfl (hb hby at_29) k) ?_
      show Go _ _ _ _ T63 (mkF m 30 #[.val (.int p1), .val (.int p2), .val (.int p3), .val (.int p4), .val (.int p5), .val (.int p6), .val (.int (3 : Int32)), .val (.int (1 : Int32)), .val (.ref b62), .unset, .unset, .unset, .unset] [(.int (1 : Int32)), (.int (3 : Int32))])
      refine Go.st (fun t k => XS.icmpNo X63.here hx rfl (hb hby at_30) rfl (by decide) k) ?_
      show Go _ _ _ _ T63 (mkF m 33 #[.val (.int p1), .val (.int p2), .val (.int p3), .val (.int p4), .val (.int p5), .val (.int p6), .val (.int (3 : Int32)), .val (.int (1 : Int32)), .val (.ref b62), .unset, .unset, .unset, .unset] [])
      refine Go.st (fun t k => XS.aload X63.here hx rfl (hb hby at_33) rfl rfl k) ?_
      show Go _ _ _ _ T63 (mkF m 35 #[.val (.int p1), .val (.int p2), .val (.int p3), .val (.int p4), .val (.int p5), .val (.int p6), .val (.int (3 : Int32)), .val (.int (1 : Int32)), .val (.ref b62), .unset, .unset, .unset, .unset] [(.ref b62)])
      refine Go.st (fun t k => XS.iconst X63.here hx rfl (hb hby at_35) k) ?_
      show Go _ _ _ _ T63 (mkF m 36 #[.val (.int p1), .val (.int p2), .val (.int p3), .val (.int p4), .val (.int p5), .val (.int p6), .val (.int (3 : Int32)), .val (.int (1 : Int32)), .val (.ref b62), .unset, .unset, .unset, .unset] [(.int (1 : Int32)), (.ref b62)])
      refine Go.st (fun t k => XS.iload X63.here hx rfl (hb hby at_36) rfl k) ?_
      show Go _ _ _ _ T63 (mkF m 38 #[.val (.int p1), .val (.int p2), .val (.int p3), .val (.int p4), .val (.int p5), .val (.int p6), .val (.int (3 : Int32)), .val (.int (1 : Int32)), .val (.ref b62), .unset, .unset, .unset, .unset] [(.int (1 : Int32)), (.int (1 : Int32)), (.ref b62)])
      refine Go.st (fun t k => XS.i2b X63.here hx rfl (hb hby at_38) rfl k) ?_
      show Go _ _ _ _ T63 (mkF m 39 #[.val (.int p1), .val (.int p2), .val (.int p3), .val (.int p4), .val (.int p5), .val (.int p6), .val (.int (3 : Int32)), .val (.int (1 : Int32)), .val (.ref b62), .unset, .unset, .unset, .unset] [(.int ((1 : Int32).toInt8.toInt32)), (.int (1 : Int32)), (.ref b62)])
      refine goStB X63 hx hZ e63 N63 V_b62 g_b62 (g := (mkF m 39 #[.val (.int p1), .val (.int p2), .val (.int p3), .val (.int p4), .val (.int p5), .val (.int p6), .val (.int (3 : Int32)), .val (.int (1 : Int32)), .val (.ref b62), .unset, .unset, .unset, .unset] [(.int ((1 : Int32).toInt8.toInt32)), (.int (1 : Int32)), (.ref b62)])) rfl rfl (hb hby at_39) (k := 1) ⟨by decide, rfl, by decide⟩ ?_
      intro T64 h64 L64 X64 e64 N64 W64 V_b62
      have Z64 := own_sz W64 Z63
      show Go _ _ _ _ T64 (mkF m 40 #[.val (.int p1), .val (.int p2), .val (.int p3), .val (.int p4), .val (.int p5), .val (.int p6), .val (.int (3 : Int32)), .val (.int (1 : Int32)), .val (.ref b62), .unset, .unset, .unset, .unset] [])
      refine Go.st (fun t k => XS.iload X64.here hx rfl (hb hby at_40) rfl k) ?_
      show Go _ _ _ _ T64 (mkF m 42 #[.val (.int p1), .val (.int p2), .val (.int p3), .val (.int p4), .val (.int p5), .val (.int p6), .val (.int (3 : Int32)), .val (.int (1 : Int32)), .val (.ref b62), .unset, .unset, .unset, .unset] [(.int (3 : Int32))])
      refine Go.st (fun t k => XS.iconst X64.here hx rfl (hb hby at_42) k) ?_
      show Go _ _ _ _ T64 (mkF m 43 #[.val (.int p1), .val (.int p2), .val (.int p3), .val (.int p4), .val (.int p5), .val (.int p6), .val (.int (3 : Int32)), .val (.int (1 : Int32)), .val (.ref b62), .unset, .unset, .unset, .unset] [(.int (2 : Int32)), (.int (3 : Int32))])
      refine Go.st (fun t k => XS.icmpNo X64.here hx rfl (hb hby at_43) rfl (by decide) k) ?_
      show Go _ _ _ _ T64 (mkF m 46 #[.val (.int p1), .val (.int p2), .val (.int p3), .val (.int p4), .val (.int p5), .val (.int p6), .val (.int (3 : Int32)), .val (.int (1 : Int32)), .val (.ref b62), .unset, .unset, .unset, .unset] [])
      refine Go.st (fun t k => XS.aload X64.here hx rfl (hb hby at_46) rfl rfl k) ?_
      show Go _ _ _ _ T64 (mkF m 48 #[.val (.int p1), .val (.int p2), .val (.int p3), .val (.int p4), .val (.int p5), .val (.int p6), .val (.int (3 : Int32)), .val (.int (1 : Int32)), .val (.ref b62), .unset, .unset, .unset, .unset] [(.ref b62)])
      refine Go.st (fun t k => XS.iconst X64.here hx rfl (hb hby at_48) k) ?_
      show Go _ _ _ _ T64 (mkF m 49 #[.val (.int p1), .val (.int p2), .val (.int p3), .val (.int p4), .val (.int p5), .val (.int p6), .val (.int (3 : Int32)), .val (.int (1 : Int32)), .val (.ref b62), .unset, .unset, .unset, .unset] [(.int (2 : Int32)), (.ref b62)])
      refine Go.st (fun t k => XS.iloadN X64.here hx rfl (hb hby at_49) rfl k) ?_
      show Go _ _ _ _ T64 (mkF m 50 #[.val (.int p1), .val (.int p2), .val (.int p3), .val (.int p4), .val (.int p5), .val (.int p6), .val (.int (3 : Int32)), .val (.int (1 : Int32)), .val (.ref b62), .unset, .unset, .unset, .unset] [(.int p4), (.int (2 : Int32)), (.ref b62)])
      refine Go.st (fun t k => XS.i2b X64.here hx rfl (hb hby at_50) rfl k) ?_
      show Go _ _ _ _ T64 (mkF m 51 #[.val (.int p1), .val (.int p2), .val (.int p3), .val (.int p4), .val (.int p5), .val (.int p6), .val (.int (3 : Int32)), .val (.int (1 : Int32)), .val (.ref b62), .unset, .unset, .unset, .unset] [(.int (p4.toInt8.toInt32)), (.int (2 : Int32)), (.ref b62)])
      refine goStB X64 hx hZ e64 N64 V_b62 g_b62 (g := (mkF m 51 #[.val (.int p1), .val (.int p2), .val (.int p3), .val (.int p4), .val (.int p5), .val (.int p6), .val (.int (3 : Int32)), .val (.int (1 : Int32)), .val (.ref b62), .unset, .unset, .unset, .unset] [(.int (p4.toInt8.toInt32)), (.int (2 : Int32)), (.ref b62)])) rfl rfl (hb hby at_51) (k := 2) ⟨by decide, rfl, by decide⟩ ?_
      intro T65 h65 L65 X65 e65 N65 W65 V_b62
      have Z65 := own_sz W65 Z64
      show Go _ _ _ _ T65 (mkF m 52 #[.val (.int p1), .val (.int p2), .val (.int p3), .val (.int p4), .val (.int p5), .val (.int p6), .val (.int (3 : Int32)), .val (.int (1 : Int32)), .val (.ref b62), .unset, .unset, .unset, .unset] [])
      obtain ⟨T66, h66, X66, e66, E66, A66, D66, -, st66⟩ := newO X65 hx hZ hown (hw _ (List.mem_of_getElem? (i := 1) rfl)) (hw _ (List.mem_of_getElem? (i := 2) rfl)) (hw _ (List.mem_of_getElem? (i := 3) rfl)) e65 (g := (mkF m 52 #[.val (.int p1), .val (.int p2), .val (.int p3), .val (.int p4), .val (.int p5), .val (.int p6), .val (.int (3 : Int32)), .val (.int (1 : Int32)), .val (.ref b62), .unset, .unset, .unset, .unset] [])) rfl (hb hby at_52) (by decide) (by decide)
      obtain ⟨b66, qz66⟩ : ∃ z, z = h65.size := ⟨_, rfl⟩
      rw [← qz66] at A66 D66 st66
      have g_b66 : n0 ≤ b66 := Nat.le_trans Z65 (Nat.le_of_eq qz66.symm)
      have Z66 := Nat.le_trans Z65 E66.1
      have ne_b62_b66 : b62 ≠ b66 := fun z => absurd V_b62.lt (by rw [z, qz66]; exact Nat.lt_irrefl _)
      have V_b62 := V_b62.ext E66
      have E_b66 := A66
      have F_data_b66 : Fld Z h66 b66 "com/example/vetter/vetter/io/DerReader" "data" "[B" .null := D66 (Or.inr (hw _ (List.mem_of_getElem? (i := 11) rfl))) (ty := (.array .byte)) (by decide)
      have F_position_b66 : Fld Z h66 b66 "com/example/vetter/vetter/io/DerReader" "position" "I" (.int (0 : Int32)) := D66 (Or.inl (hw _ (List.mem_of_getElem? (i := 18) rfl))) (ty := .int) (by decide)
      refine Go.st st66 ?_
      show Go _ _ _ _ T66 (mkF m 55 #[.val (.int p1), .val (.int p2), .val (.int p3), .val (.int p4), .val (.int p5), .val (.int p6), .val (.int (3 : Int32)), .val (.int (1 : Int32)), .val (.ref b62), .unset, .unset, .unset, .unset] [(.ref b66)])
      refine Go.st (fun t k => XS.dup X66.here hx rfl (hb hby at_55) rfl rfl k) ?_
      show Go _ _ _ _ T66 (mkF m 56 #[.val (.int p1), .val (.int p2), .val (.int p3), .val (.int p4), .val (.int p5), .val (.int p6), .val (.int (3 : Int32)), .val (.int (1 : Int32)), .val (.ref b62), .unset, .unset, .unset, .unset] [(.ref b66), (.ref b66)])
      refine Go.st (fun t k => XS.aload X66.here hx rfl (hb hby at_56) rfl rfl k) ?_
      show Go _ _ _ _ T66 (mkF m 58 #[.val (.int p1), .val (.int p2), .val (.int p3), .val (.int p4), .val (.int p5), .val (.int p6), .val (.int (3 : Int32)), .val (.int (1 : Int32)), .val (.ref b62), .unset, .unset, .unset, .unset] [(.ref b62), (.ref b66), (.ref b66)])
      refine goC X66 hx hZ (y := (⟨"com/example/vetter/vetter/io/DerReader", "<init>", "([B)V"⟩ : MethodName)) rfl hown (hw _ (List.mem_of_getElem? (i := 4) rfl)) (hw _ (List.mem_of_getElem? (i := 5) rfl)) (hw _ (List.mem_of_getElem? (i := 3) rfl)) (hw _ (List.mem_of_getElem? (i := 6) rfl)) (by decide) (rm1 l Z a0 hw b66 b62 h66 n0 Z66 E_b66 F_data_b66 F_position_b66 g_b66) e66 N65 1 (by decide) (by decide) (by decide) (by decide) (g := (mkF m 58 #[.val (.int p1), .val (.int p2), .val (.int p3), .val (.int p4), .val (.int p5), .val (.int p6), .val (.int (3 : Int32)), .val (.int (1 : Int32)), .val (.ref b62), .unset, .unset, .unset, .unset] [(.ref b62), (.ref b66), (.ref b66)])) rfl (by rw [hml]; rfl) [(.ref b62)] [(.ref b66)] (lenOf pd0_0 rfl) rfl rfl (by show 2 * 0 + _ ≤ _; exact Nat.le_of_eq rfl) (hb hby at_58) ?_
      intro T67 v67 L67 M67 X67 N67 hq67
      obtain ⟨rfl, N67q, K67, E_b66, F_data_b66, F_position_b66⟩ := hq67
      replace N67 := N67 N67q
      have Z67 := Nat.le_trans Z66 K67.1
      have V_b62 := V_b62.keep K67 (ninS ne_b62_b66 nin0)
      show Go _ _ _ _ T67 (mkF m 61 #[.val (.int p1), .val (.int p2), .val (.int p3), .val (.int p4), .val (.int p5), .val (.int p6), .val (.int (3 : Int32)), .val (.int (1 : Int32)), .val (.ref b62), .unset, .unset, .unset, .unset] [(.ref b66)])
      refine Go.st (fun t k => XS.astore X67.here hx rfl (hb hby at_61) rfl rfl (l' := #[.val (.int p1), .val (.int p2), .val (.int p3), .val (.int p4), .val (.int p5), .val (.int p6), .val (.int (3 : Int32)), .val (.int (1 : Int32)), .val (.ref b62), .val (.ref b66), .unset, .unset, .unset]) rfl k) ?_
      show Go _ _ _ _ T67 (mkF m 63 #[.val (.int p1), .val (.int p2), .val (.int p3), .val (.int p4), .val (.int p5), .val (.int p6), .val (.int (3 : Int32)), .val (.int (1 : Int32)), .val (.ref b62), .val (.ref b66), .unset, .unset, .unset] [])
      refine Go.st (fun t k => XS.iload X67.here hx rfl (hb hby at_63) rfl k) ?_
      show Go _ _ _ _ T67 (mkF m 65 #[.val (.int p1), .val (.int p2), .val (.int p3), .val (.int p4), .val (.int p5), .val (.int p6), .val (.int (3 : Int32)), .val (.int (1 : Int32)), .val (.ref b62), .val (.ref b66), .unset, .unset, .unset] [(.int (3 : Int32))])
      refine Go.st (fun t k => XS.ifNo X67.here hx rfl (hb hby at_65) rfl (by decide) k) ?_
      show Go _ _ _ _ T67 (mkF m 68 #[.val (.int p1), .val (.int p2), .val (.int p3), .val (.int p4), .val (.int p5), .val (.int p6), .val (.int (3 : Int32)), .val (.int (1 : Int32)), .val (.ref b62), .val (.ref b66), .unset, .unset, .unset] [])
      refine Go.st (fun t k => XS.iloadN X67.here hx rfl (hb hby at_68) rfl k) ?_
      show Go _ _ _ _ T67 (mkF m 69 #[.val (.int p1), .val (.int p2), .val (.int p3), .val (.int p4), .val (.int p5), .val (.int p6), .val (.int (3 : Int32)), .val (.int (1 : Int32)), .val (.ref b62), .val (.ref b66), .unset, .unset, .unset] [(.int p2)])
      refine Go.st (fun t k => XS.sipush X67.here hx rfl (hb hby at_69) k) ?_
      show Go _ _ _ _ T67 (mkF m 72 #[.val (.int p1), .val (.int p2), .val (.int p3), .val (.int p4), .val (.int p5), .val (.int p6), .val (.int (3 : Int32)), .val (.int (1 : Int32)), .val (.ref b62), .val (.ref b66), .unset, .unset, .unset] [(.int (255 : Int32)), (.int p2)])
      refine Go.st (fun t k => XS.iand X67.here hx rfl (hb hby at_72) rfl k) ?_
      show Go _ _ _ _ T67 (mkF m 73 #[.val (.int p1), .val (.int p2), .val (.int p3), .val (.int p4), .val (.int p5), .val (.int p6), .val (.int (3 : Int32)), .val (.int (1 : Int32)), .val (.ref b62), .val (.ref b66), .unset, .unset, .unset] [(.int (p2 &&& (255 : Int32)))])
      refine Go.st (fun t k => XS.iload X67.here hx rfl (hb hby at_73) rfl k) ?_
      show Go _ _ _ _ T67 (mkF m 75 #[.val (.int p1), .val (.int p2), .val (.int p3), .val (.int p4), .val (.int p5), .val (.int p6), .val (.int (3 : Int32)), .val (.int (1 : Int32)), .val (.ref b62), .val (.ref b66), .unset, .unset, .unset] [(.int p5), (.int (p2 &&& (255 : Int32)))])
      by_cases hE1 : (p2 &&& (255 : Int32)) = p5
      ·
        refine Go.st (fun t k => XS.icmpNo X67.here hx rfl (hb hby at_75) rfl (teq hE1).2 k) ?_
        show Go _ _ _ _ T67 (mkF m 78 #[.val (.int p1), .val (.int p2), .val (.int p3), .val (.int p4), .val (.int p5), .val (.int p6), .val (.int (3 : Int32)), .val (.int (1 : Int32)), .val (.ref b62), .val (.ref b66), .unset, .unset, .unset] [])
        refine Go.st (fun t k => XS.iconst X67.here hx rfl (hb hby at_78) k) ?_
        show Go _ _ _ _ T67 (mkF m 79 #[.val (.int p1), .val (.int p2), .val (.int p3), .val (.int p4), .val (.int p5), .val (.int p6), .val (.int (3 : Int32)), .val (.int (1 : Int32)), .val (.ref b62), .val (.ref b66), .unset, .unset, .unset] [(.int (1 : Int32))])
        refine Go.st (fun t k => XS.goto X67.here hx rfl (pc0 := 79) (pc' := 83) rfl (hb hby at_79) (by decide) (by decide) k) ?_
        show Go _ _ _ _ T67 (mkF m 83 #[.val (.int p1), .val (.int p2), .val (.int p3), .val (.int p4), .val (.int p5), .val (.int p6), .val (.int (3 : Int32)), .val (.int (1 : Int32)), .val (.ref b62), .val (.ref b66), .unset, .unset, .unset] [(.int (1 : Int32))])
        refine Go.st (fun t k => XS.istore X67.here hx rfl (hb hby at_83) rfl (l' := #[.val (.int p1), .val (.int p2), .val (.int p3), .val (.int p4), .val (.int p5), .val (.int p6), .val (.int (3 : Int32)), .val (.int (1 : Int32)), .val (.ref b62), .val (.ref b66), .val (.int (1 : Int32)), .unset, .unset]) rfl k) ?_
        show Go _ _ _ _ T67 (mkF m 85 #[.val (.int p1), .val (.int p2), .val (.int p3), .val (.int p4), .val (.int p5), .val (.int p6), .val (.int (3 : Int32)), .val (.int (1 : Int32)), .val (.ref b62), .val (.ref b66), .val (.int (1 : Int32)), .unset, .unset] [])
        refine Go.st (fun t k => XS.aload X67.here hx rfl (hb hby at_85) rfl rfl k) ?_
        show Go _ _ _ _ T67 (mkF m 87 #[.val (.int p1), .val (.int p2), .val (.int p3), .val (.int p4), .val (.int p5), .val (.int p6), .val (.int (3 : Int32)), .val (.int (1 : Int32)), .val (.ref b62), .val (.ref b66), .val (.int (1 : Int32)), .unset, .unset] [(.ref b66)])
        refine Go.st (fun t k => XS.iload X67.here hx rfl (hb hby at_87) rfl k) ?_
        show Go _ _ _ _ T67 (mkF m 89 #[.val (.int p1), .val (.int p2), .val (.int p3), .val (.int p4), .val (.int p5), .val (.int p6), .val (.int (3 : Int32)), .val (.int (1 : Int32)), .val (.ref b62), .val (.ref b66), .val (.int (1 : Int32)), .unset, .unset] [(.int p5), (.ref b66)])
        refine goM X67 hx hZ (y := (⟨"com/example/vetter/vetter/io/DerReader", "nextIs", "(I)Z"⟩ : MethodName)) (z := (⟨"com/example/vetter/vetter/io/DerReader", "nextIs", "(I)Z"⟩ : MethodName)) hown (hw _ (List.mem_of_getElem? (i := 12) rfl)) (hw _ (List.mem_of_getElem? (i := 13) rfl)) (hw _ (List.mem_of_getElem? (i := 15) rfl)) (hw _ (List.mem_of_getElem? (i := 14) rfl)) (hw _ (List.mem_of_getElem? (i := 16) rfl)) (hw _ (List.mem_of_getElem? (i := 3) rfl)) (notFace_of_selects (args := #[]) (mvT hZ (hw _ (List.mem_of_getElem? (i := 15) rfl)))) (by decide) (rm3 l Z a0 hw b66 p5 T67.heap n0 Z67 (0 : Int32) b62 3 _ (3 : Int32) ((p2.toInt8.toInt32).toInt8.toInt32) F_position_b66 F_data_b66 V_b62 rfl (fun _ => ⟨0, ⟨by decide, rfl, by decide⟩, rfl⟩)) rfl N67 E_b66 0 (by decide) (by decide) (by decide) (by decide) (g := (mkF m 89 #[.val (.int p1), .val (.int p2), .val (.int p3), .val (.int p4), .val (.int p5), .val (.int p6), .val (.int (3 : Int32)), .val (.int (1 : Int32)), .val (.ref b62), .val (.ref b66), .val (.int (1 : Int32)), .unset, .unset] [(.int p5), (.ref b66)])) rfl (by rw [hml]; rfl) [(.int p5)] [] (lenOf pd0_1 rfl) rfl rfl (by show 2 * 0 + _ ≤ _; exact Nat.le_of_eq rfl) (hb hby at_89) ?_
        intro T69 v69 L69 M69 X69 N69 hq69
        obtain ⟨hq69, N69q, e69⟩ := hq69
        replace N69 := N69 N69q
        rcases hq69 with ⟨hA69, hB69, rfl⟩ | ⟨hr69, rfl⟩
        ·
          show Go _ _ _ _ T69 (mkF m 92 #[.val (.int p1), .val (.int p2), .val (.int p3), .val (.int p4), .val (.int p5), .val (.int p6), .val (.int (3 : Int32)), .val (.int (1 : Int32)), .val (.ref b62), .val (.ref b66), .val (.int (1 : Int32)), .unset, .unset] [(.int (1 : Int32))])
          refine Go.st (fun t k => XS.iload X69.here hx rfl (hb hby at_92) rfl k) ?_
          show Go _ _ _ _ T69 (mkF m 94 #[.val (.int p1), .val (.int p2), .val (.int p3), .val (.int p4), .val (.int p5), .val (.int p6), .val (.int (3 : Int32)), .val (.int (1 : Int32)), .val (.ref b62), .val (.ref b66), .val (.int (1 : Int32)), .unset, .unset] [(.int (1 : Int32)), (.int (1 : Int32))])
          refine Go.st (fun t k => XS.icmpYes X69.here hx rfl (pc0 := 94) (pc' := 99) rfl (hb hby at_94) rfl (by decide) (by decide) (by decide) k) ?_
          show Go _ _ _ _ T69 (mkF m 99 #[.val (.int p1), .val (.int p2), .val (.int p3), .val (.int p4), .val (.int p5), .val (.int p6), .val (.int (3 : Int32)), .val (.int (1 : Int32)), .val (.ref b62), .val (.ref b66), .val (.int (1 : Int32)), .unset, .unset] [])
          refine Go.st (fun t k => XS.iconst X69.here hx rfl (hb hby at_99) k) ?_
          show Go _ _ _ _ T69 (mkF m 100 #[.val (.int p1), .val (.int p2), .val (.int p3), .val (.int p4), .val (.int p5), .val (.int p6), .val (.int (3 : Int32)), .val (.int (1 : Int32)), .val (.ref b62), .val (.ref b66), .val (.int (1 : Int32)), .unset, .unset] [(.int (0 : Int32))])
          refine Go.st (fun t k => XS.istore X69.here hx rfl (hb hby at_100) rfl (l' := #[.val (.int p1), .val (.int p2), .val (.int p3), .val (.int p4), .val (.int p5), .val (.int p6), .val (.int (3 : Int32)), .val (.int (1 : Int32)), .val (.ref b62), .val (.ref b66), .val (.int (1 : Int32)), .val (.int (0 : Int32)), .unset]) rfl k) ?_
          show Go _ _ _ _ T69 (mkF m 102 #[.val (.int p1), .val (.int p2), .val (.int p3), .val (.int p4), .val (.int p5), .val (.int p6), .val (.int (3 : Int32)), .val (.int (1 : Int32)), .val (.ref b62), .val (.ref b66), .val (.int (1 : Int32)), .val (.int (0 : Int32)), .unset] [])
          refine Go.st (fun t k => XS.iload X69.here hx rfl (hb hby at_102) rfl k) ?_
          show Go _ _ _ _ T69 (mkF m 104 #[.val (.int p1), .val (.int p2), .val (.int p3), .val (.int p4), .val (.int p5), .val (.int p6), .val (.int (3 : Int32)), .val (.int (1 : Int32)), .val (.ref b62), .val (.ref b66), .val (.int (1 : Int32)), .val (.int (0 : Int32)), .unset] [(.int (3 : Int32))])
          refine Go.st (fun t k => XS.iconst X69.here hx rfl (hb hby at_104) k) ?_
          show Go _ _ _ _ T69 (mkF m 105 #[.val (.int p1), .val (.int p2), .val (.int p3), .val (.int p4), .val (.int p5), .val (.int p6), .val (.int (3 : Int32)), .val (.int (1 : Int32)), .val (.ref b62), .val (.ref b66), .val (.int (1 : Int32)), .val (.int (0 : Int32)), .unset] [(.int (2 : Int32)), (.int (3 : Int32))])
          refine Go.st (fun t k => XS.icmpNo X69.here hx rfl (hb hby at_105) rfl (by decide) k) ?_
          show Go _ _ _ _ T69 (mkF m 108 #[.val (.int p1), .val (.int p2), .val (.int p3), .val (.int p4), .val (.int p5), .val (.int p6), .val (.int (3 : Int32)), .val (.int (1 : Int32)), .val (.ref b62), .val (.ref b66), .val (.int (1 : Int32)), .val (.int (0 : Int32)), .unset] [])
          refine Go.st (fun t k => XS.iload X69.here hx rfl (hb hby at_108) rfl k) ?_
          show Go _ _ _ _ T69 (mkF m 110 #[.val (.int p1), .val (.int p2), .val (.int p3), .val (.int p4), .val (.int p5), .val (.int p6), .val (.int (3 : Int32)), .val (.int (1 : Int32)), .val (.ref b62), .val (.ref b66), .val (.int (1 : Int32)), .val (.int (0 : Int32)), .unset] [(.int (1 : Int32))])
          refine Go.st (fun t k => XS.iload X69.here hx rfl (hb hby at_110) rfl k) ?_
          show Go _ _ _ _ T69 (mkF m 112 #[.val (.int p1), .val (.int p2), .val (.int p3), .val (.int p4), .val (.int p5), .val (.int p6), .val (.int (3 : Int32)), .val (.int (1 : Int32)), .val (.ref b62), .val (.ref b66), .val (.int (1 : Int32)), .val (.int (0 : Int32)), .unset] [(.int (3 : Int32)), (.int (1 : Int32))])
          refine Go.st (fun t k => XS.iconst X69.here hx rfl (hb hby at_112) k) ?_
          show Go _ _ _ _ T69 (mkF m 113 #[.val (.int p1), .val (.int p2), .val (.int p3), .val (.int p4), .val (.int p5), .val (.int p6), .val (.int (3 : Int32)), .val (.int (1 : Int32)), .val (.ref b62), .val (.ref b66), .val (.int (1 : Int32)), .val (.int (0 : Int32)), .unset] [(.int (2 : Int32)), (.int (3 : Int32)), (.int (1 : Int32))])
          refine Go.st (fun t k => XS.isub X69.here hx rfl (hb hby at_113) rfl k) ?_
          show Go _ _ _ _ T69 (mkF m 114 #[.val (.int p1), .val (.int p2), .val (.int p3), .val (.int p4), .val (.int p5), .val (.int p6), .val (.int (3 : Int32)), .val (.int (1 : Int32)), .val (.ref b62), .val (.ref b66), .val (.int (1 : Int32)), .val (.int (0 : Int32)), .unset] [(.int (1 : Int32)), (.int (1 : Int32))])
          refine Go.st (fun t k => XS.icmpNo X69.here hx rfl (hb hby at_114) rfl (by decide) k) ?_
          show Go _ _ _ _ T69 (mkF m 117 #[.val (.int p1), .val (.int p2), .val (.int p3), .val (.int p4), .val (.int p5), .val (.int p6), .val (.int (3 : Int32)), .val (.int (1 : Int32)), .val (.ref b62), .val (.ref b66), .val (.int (1 : Int32)), .val (.int (0 : Int32)), .unset] [])
          refine Go.st (fun t k => XS.aload X69.here hx rfl (hb hby at_117) rfl rfl k) ?_
          show Go _ _ _ _ T69 (mkF m 119 #[.val (.int p1), .val (.int p2), .val (.int p3), .val (.int p4), .val (.int p5), .val (.int p6), .val (.int (3 : Int32)), .val (.int (1 : Int32)), .val (.ref b62), .val (.ref b66), .val (.int (1 : Int32)), .val (.int (0 : Int32)), .unset] [(.ref b66)])
          refine Go.st (fun t k => XS.iloadN X69.here hx rfl (hb hby at_119) rfl k) ?_
          show Go _ _ _ _ T69 (mkF m 120 #[.val (.int p1), .val (.int p2), .val (.int p3), .val (.int p4), .val (.int p5), .val (.int p6), .val (.int (3 : Int32)), .val (.int (1 : Int32)), .val (.ref b62), .val (.ref b66), .val (.int (1 : Int32)), .val (.int (0 : Int32)), .unset] [(.int p2), (.ref b66)])
          refine Go.st (fun t k => XS.sipush X69.here hx rfl (hb hby at_120) k) ?_
          show Go _ _ _ _ T69 (mkF m 123 #[.val (.int p1), .val (.int p2), .val (.int p3), .val (.int p4), .val (.int p5), .val (.int p6), .val (.int (3 : Int32)), .val (.int (1 : Int32)), .val (.ref b62), .val (.ref b66), .val (.int (1 : Int32)), .val (.int (0 : Int32)), .unset] [(.int (255 : Int32)), (.int p2), (.ref b66)])
          refine Go.st (fun t k => XS.iand X69.here hx rfl (hb hby at_123) rfl k) ?_
          show Go _ _ _ _ T69 (mkF m 124 #[.val (.int p1), .val (.int p2), .val (.int p3), .val (.int p4), .val (.int p5), .val (.int p6), .val (.int (3 : Int32)), .val (.int (1 : Int32)), .val (.ref b62), .val (.ref b66), .val (.int (1 : Int32)), .val (.int (0 : Int32)), .unset] [(.int (p2 &&& (255 : Int32))), (.ref b66)])
          refine goM X69 hx hZ (y := (⟨"com/example/vetter/vetter/io/DerReader", "read", "(I)[B"⟩ : MethodName)) (z := (⟨"com/example/vetter/vetter/io/DerReader", "read", "(I)[B"⟩ : MethodName)) hown (hw _ (List.mem_of_getElem? (i := 19) rfl)) (hw _ (List.mem_of_getElem? (i := 20) rfl)) (hw _ (List.mem_of_getElem? (i := 22) rfl)) (hw _ (List.mem_of_getElem? (i := 21) rfl)) (hw _ (List.mem_of_getElem? (i := 23) rfl)) (hw _ (List.mem_of_getElem? (i := 3) rfl)) (notFace_of_selects (args := #[]) (mvT hZ (hw _ (List.mem_of_getElem? (i := 22) rfl)))) (by decide) (rm4 l Z a0 hw b66 (p2 &&& (255 : Int32)) T67.heap n0 Z67 b62 3 _ (3 : Int32) (1 : Int32) (3 : Int32) ((p2.toInt8.toInt32).toInt8.toInt32) (by simp [own_K]) E_b66 F_data_b66 V_b62 g_b66 ne_b62_b66 F_position_b66 rfl (own_m p2) rfl (fun i hi => by rcases own_lt3 hi with rfl | rfl | rfl <;> exact fits_nar_byte _)) e69 N69 E_b66 0 (by decide) (by decide) (by decide) (by decide) (g := (mkF m 124 #[.val (.int p1), .val (.int p2), .val (.int p3), .val (.int p4), .val (.int p5), .val (.int p6), .val (.int (3 : Int32)), .val (.int (1 : Int32)), .val (.ref b62), .val (.ref b66), .val (.int (1 : Int32)), .val (.int (0 : Int32)), .unset] [(.int (p2 &&& (255 : Int32))), (.ref b66)])) rfl (by rw [hml]; rfl) [(.int (p2 &&& (255 : Int32)))] [] (lenOf pd0_2 rfl) rfl rfl (by show 2 * 0 + _ ≤ _; exact Nat.le_of_eq rfl) (hb hby at_124) ?_
          intro T70 v70 L70 M70 X70 N70 hq70
          obtain ⟨⟨r70, rfl⟩, N70q, K70, E_b66, F_data_b66, F_position_b66⟩ := hq70
          replace N70 := N70 N70q
          have Z70 := Nat.le_trans Z67 K70.1
          have V_b62 := V_b62.keep K70 (ninS ne_b62_b66 nin0)
          show Go _ _ _ _ T70 (mkF m 127 #[.val (.int p1), .val (.int p2), .val (.int p3), .val (.int p4), .val (.int p5), .val (.int p6), .val (.int (3 : Int32)), .val (.int (1 : Int32)), .val (.ref b62), .val (.ref b66), .val (.int (1 : Int32)), .val (.int (0 : Int32)), .unset] [(.ref r70)])
          refine Go.st (fun t k => XS.pop X70.here hx rfl (hb hby at_127) rfl rfl k) ?_
          show Go _ _ _ _ T70 (mkF m 128 #[.val (.int p1), .val (.int p2), .val (.int p3), .val (.int p4), .val (.int p5), .val (.int p6), .val (.int (3 : Int32)), .val (.int (1 : Int32)), .val (.ref b62), .val (.ref b66), .val (.int (1 : Int32)), .val (.int (0 : Int32)), .unset] [])
          refine Go.st (fun t k => XS.iconst X70.here hx rfl (hb hby at_128) k) ?_
          show Go _ _ _ _ T70 (mkF m 129 #[.val (.int p1), .val (.int p2), .val (.int p3), .val (.int p4), .val (.int p5), .val (.int p6), .val (.int (3 : Int32)), .val (.int (1 : Int32)), .val (.ref b62), .val (.ref b66), .val (.int (1 : Int32)), .val (.int (0 : Int32)), .unset] [(.int (2 : Int32))])
          refine Go.st (fun t k => XS.iload X70.here hx rfl (hb hby at_129) rfl k) ?_
          show Go _ _ _ _ T70 (mkF m 131 #[.val (.int p1), .val (.int p2), .val (.int p3), .val (.int p4), .val (.int p5), .val (.int p6), .val (.int (3 : Int32)), .val (.int (1 : Int32)), .val (.ref b62), .val (.ref b66), .val (.int (1 : Int32)), .val (.int (0 : Int32)), .unset] [(.int (1 : Int32)), (.int (2 : Int32))])
          refine Go.st (fun t k => XS.iadd X70.here hx rfl (hb hby at_131) rfl k) ?_
          show Go _ _ _ _ T70 (mkF m 132 #[.val (.int p1), .val (.int p2), .val (.int p3), .val (.int p4), .val (.int p5), .val (.int p6), .val (.int (3 : Int32)), .val (.int (1 : Int32)), .val (.ref b62), .val (.ref b66), .val (.int (1 : Int32)), .val (.int (0 : Int32)), .unset] [(.int (3 : Int32))])
          refine Go.st (fun t k => XS.istore X70.here hx rfl (hb hby at_132) rfl (l' := #[.val (.int p1), .val (.int p2), .val (.int p3), .val (.int p4), .val (.int p5), .val (.int p6), .val (.int (3 : Int32)), .val (.int (1 : Int32)), .val (.ref b62), .val (.ref b66), .val (.int (1 : Int32)), .val (.int (3 : Int32)), .unset]) rfl k) ?_
          show Go _ _ _ _ T70 (mkF m 134 #[.val (.int p1), .val (.int p2), .val (.int p3), .val (.int p4), .val (.int p5), .val (.int p6), .val (.int (3 : Int32)), .val (.int (1 : Int32)), .val (.ref b62), .val (.ref b66), .val (.int (1 : Int32)), .val (.int (3 : Int32)), .unset] [])
          refine Go.st (fun t k => XS.iload X70.here hx rfl (hb hby at_134) rfl k) ?_
          show Go _ _ _ _ T70 (mkF m 136 #[.val (.int p1), .val (.int p2), .val (.int p3), .val (.int p4), .val (.int p5), .val (.int p6), .val (.int (3 : Int32)), .val (.int (1 : Int32)), .val (.ref b62), .val (.ref b66), .val (.int (1 : Int32)), .val (.int (3 : Int32)), .unset] [(.int (3 : Int32))])
          refine Go.st (fun t k => XS.iload X70.here hx rfl (hb hby at_136) rfl k) ?_
          show Go _ _ _ _ T70 (mkF m 138 #[.val (.int p1), .val (.int p2), .val (.int p3), .val (.int p4), .val (.int p5), .val (.int p6), .val (.int (3 : Int32)), .val (.int (1 : Int32)), .val (.ref b62), .val (.ref b66), .val (.int (1 : Int32)), .val (.int (3 : Int32)), .unset] [(.int (3 : Int32)), (.int (3 : Int32))])
          refine Go.st (fun t k => XS.icmpNo X70.here hx rfl (hb hby at_138) rfl (by decide) k) ?_
          show Go _ _ _ _ T70 (mkF m 141 #[.val (.int p1), .val (.int p2), .val (.int p3), .val (.int p4), .val (.int p5), .val (.int p6), .val (.int (3 : Int32)), .val (.int (1 : Int32)), .val (.ref b62), .val (.ref b66), .val (.int (1 : Int32)), .val (.int (3 : Int32)), .unset] [])
          refine Go.st (fun t k => XS.iconst X70.here hx rfl (hb hby at_141) k) ?_
          show Go _ _ _ _ T70 (mkF m 142 #[.val (.int p1), .val (.int p2), .val (.int p3), .val (.int p4), .val (.int p5), .val (.int p6), .val (.int (3 : Int32)), .val (.int (1 : Int32)), .val (.ref b62), .val (.ref b66), .val (.int (1 : Int32)), .val (.int (3 : Int32)), .unset] [(.int (0 : Int32))])
          refine Go.st (fun t k => XS.istore X70.here hx rfl (hb hby at_142) rfl (l' := #[.val (.int p1), .val (.int p2), .val (.int p3), .val (.int p4), .val (.int p5), .val (.int p6), .val (.int (3 : Int32)), .val (.int (1 : Int32)), .val (.ref b62), .val (.ref b66), .val (.int (1 : Int32)), .val (.int (3 : Int32)), .val (.int (0 : Int32))]) rfl k) ?_
          show Go _ _ _ _ T70 (mkF m 144 #[.val (.int p1), .val (.int p2), .val (.int p3), .val (.int p4), .val (.int p5), .val (.int p6), .val (.int (3 : Int32)), .val (.int (1 : Int32)), .val (.ref b62), .val (.ref b66), .val (.int (1 : Int32)), .val (.int (3 : Int32)), .val (.int (0 : Int32))] [])
          refine Go.st (fun t k => XS.goto X70.here hx rfl (pc0 := 144) (pc' := 189) rfl (hb hby at_144) (by decide) (by decide) k) ?_
          show Go _ _ _ _ T70 (mkF m 189 #[.val (.int p1), .val (.int p2), .val (.int p3), .val (.int p4), .val (.int p5), .val (.int p6), .val (.int (3 : Int32)), .val (.int (1 : Int32)), .val (.ref b62), .val (.ref b66), .val (.int (1 : Int32)), .val (.int (3 : Int32)), .val (.int (0 : Int32))] [])
          refine Go.st (fun t k => XS.aload X70.here hx rfl (hb hby at_189) rfl rfl k) ?_
          show Go _ _ _ _ T70 (mkF m 191 #[.val (.int p1), .val (.int p2), .val (.int p3), .val (.int p4), .val (.int p5), .val (.int p6), .val (.int (3 : Int32)), .val (.int (1 : Int32)), .val (.ref b62), .val (.ref b66), .val (.int (1 : Int32)), .val (.int (3 : Int32)), .val (.int (0 : Int32))] [(.ref b66)])
          refine Go.st (fun t k => XS.iload X70.here hx rfl (hb hby at_191) rfl k) ?_
          show Go _ _ _ _ T70 (mkF m 193 #[.val (.int p1), .val (.int p2), .val (.int p3), .val (.int p4), .val (.int p5), .val (.int p6), .val (.int (3 : Int32)), .val (.int (1 : Int32)), .val (.ref b62), .val (.ref b66), .val (.int (1 : Int32)), .val (.int (3 : Int32)), .val (.int (0 : Int32))] [(.int p6), (.ref b66)])
          refine goM X70 hx hZ (y := (⟨"com/example/vetter/vetter/io/DerReader", "nextIs", "(I)Z"⟩ : MethodName)) (z := (⟨"com/example/vetter/vetter/io/DerReader", "nextIs", "(I)Z"⟩ : MethodName)) hown (hw _ (List.mem_of_getElem? (i := 12) rfl)) (hw _ (List.mem_of_getElem? (i := 13) rfl)) (hw _ (List.mem_of_getElem? (i := 15) rfl)) (hw _ (List.mem_of_getElem? (i := 14) rfl)) (hw _ (List.mem_of_getElem? (i := 16) rfl)) (hw _ (List.mem_of_getElem? (i := 3) rfl)) (notFace_of_selects (args := #[]) (mvT hZ (hw _ (List.mem_of_getElem? (i := 15) rfl)))) (by decide) (rm3 l Z a0 hw b66 p6 T70.heap n0 Z70 (3 : Int32) b62 3 _ (3 : Int32) ((p2.toInt8.toInt32).toInt8.toInt32) F_position_b66 F_data_b66 V_b62 rfl (fun q => absurd q (by decide))) rfl N70 E_b66 0 (by decide) (by decide) (by decide) (by decide) (g := (mkF m 193 #[.val (.int p1), .val (.int p2), .val (.int p3), .val (.int p4), .val (.int p5), .val (.int p6), .val (.int (3 : Int32)), .val (.int (1 : Int32)), .val (.ref b62), .val (.ref b66), .val (.int (1 : Int32)), .val (.int (3 : Int32)), .val (.int (0 : Int32))] [(.int p6), (.ref b66)])) rfl (by rw [hml]; rfl) [(.int p6)] [] (lenOf pd0_1 rfl) rfl rfl (by show 2 * 0 + _ ≤ _; exact Nat.le_of_eq rfl) (hb hby at_193) ?_
          intro T71 v71 L71 M71 X71 N71 hq71
          obtain ⟨hq71, N71q, e71⟩ := hq71
          replace N71 := N71 N71q
          rcases hq71 with ⟨hA71, hB71, rfl⟩ | ⟨hr71, rfl⟩
          ·
            exact absurd hA71 (by decide)
          ·
            show Go _ _ _ _ T71 (mkF m 196 #[.val (.int p1), .val (.int p2), .val (.int p3), .val (.int p4), .val (.int p5), .val (.int p6), .val (.int (3 : Int32)), .val (.int (1 : Int32)), .val (.ref b62), .val (.ref b66), .val (.int (1 : Int32)), .val (.int (3 : Int32)), .val (.int (0 : Int32))] [(.int (0 : Int32))])
            refine Go.st (fun t k => XS.iload X71.here hx rfl (hb hby at_196) rfl k) ?_
            show Go _ _ _ _ T71 (mkF m 198 #[.val (.int p1), .val (.int p2), .val (.int p3), .val (.int p4), .val (.int p5), .val (.int p6), .val (.int (3 : Int32)), .val (.int (1 : Int32)), .val (.ref b62), .val (.ref b66), .val (.int (1 : Int32)), .val (.int (3 : Int32)), .val (.int (0 : Int32))] [(.int (0 : Int32)), (.int (0 : Int32))])
            refine Go.st (fun t k => XS.icmpNo X71.here hx rfl (hb hby at_198) rfl (by decide) k) ?_
            show Go _ _ _ _ T71 (mkF m 201 #[.val (.int p1), .val (.int p2), .val (.int p3), .val (.int p4), .val (.int p5), .val (.int p6), .val (.int (3 : Int32)), .val (.int (1 : Int32)), .val (.ref b62), .val (.ref b66), .val (.int (1 : Int32)), .val (.int (3 : Int32)), .val (.int (0 : Int32))] [])
            refine Go.st (fun t k => XS.iconst X71.here hx rfl (hb hby at_201) k) ?_
            show Go _ _ _ _ T71 (mkF m 202 #[.val (.int p1), .val (.int p2), .val (.int p3), .val (.int p4), .val (.int p5), .val (.int p6), .val (.int (3 : Int32)), .val (.int (1 : Int32)), .val (.ref b62), .val (.ref b66), .val (.int (1 : Int32)), .val (.int (3 : Int32)), .val (.int (0 : Int32))] [(.int (1 : Int32))])
            refine Go.st (fun t k => XS.goto X71.here hx rfl (pc0 := 202) (pc' := 206) rfl (hb hby at_202) (by decide) (by decide) k) ?_
            show Go _ _ _ _ T71 (mkF m 206 #[.val (.int p1), .val (.int p2), .val (.int p3), .val (.int p4), .val (.int p5), .val (.int p6), .val (.int (3 : Int32)), .val (.int (1 : Int32)), .val (.ref b62), .val (.ref b66), .val (.int (1 : Int32)), .val (.int (3 : Int32)), .val (.int (0 : Int32))] [(.int (1 : Int32))])
            exact goN X71 hx hret hlk (by simp) (hb hby at_206) (by decide) (by decide) ⟨rfl, N71⟩
        ·
          exact absurd ⟨by decide, (own_m _).trans hE1⟩ hr69
      ·
        refine Go.st (fun t k => XS.icmpYes X67.here hx rfl (pc0 := 75) (pc' := 82) rfl (hb hby at_75) rfl (feq hE1).2 (by decide) (by decide) k) ?_
        show Go _ _ _ _ T67 (mkF m 82 #[.val (.int p1), .val (.int p2), .val (.int p3), .val (.int p4), .val (.int p5), .val (.int p6), .val (.int (3 : Int32)), .val (.int (1 : Int32)), .val (.ref b62), .val (.ref b66), .unset, .unset, .unset] [])
        refine Go.st (fun t k => XS.iconst X67.here hx rfl (hb hby at_82) k) ?_
        show Go _ _ _ _ T67 (mkF m 83 #[.val (.int p1), .val (.int p2), .val (.int p3), .val (.int p4), .val (.int p5), .val (.int p6), .val (.int (3 : Int32)), .val (.int (1 : Int32)), .val (.ref b62), .val (.ref b66), .unset, .unset, .unset] [(.int (0 : Int32))])
        refine Go.st (fun t k => XS.istore X67.here hx rfl (hb hby at_83) rfl (l' := #[.val (.int p1), .val (.int p2), .val (.int p3), .val (.int p4), .val (.int p5), .val (.int p6), .val (.int (3 : Int32)), .val (.int (1 : Int32)), .val (.ref b62), .val (.ref b66), .val (.int (0 : Int32)), .unset, .unset]) rfl k) ?_
        show Go _ _ _ _ T67 (mkF m 85 #[.val (.int p1), .val (.int p2), .val (.int p3), .val (.int p4), .val (.int p5), .val (.int p6), .val (.int (3 : Int32)), .val (.int (1 : Int32)), .val (.ref b62), .val (.ref b66), .val (.int (0 : Int32)), .unset, .unset] [])
        refine Go.st (fun t k => XS.aload X67.here hx rfl (hb hby at_85) rfl rfl k) ?_
        show Go _ _ _ _ T67 (mkF m 87 #[.val (.int p1), .val (.int p2), .val (.int p3), .val (.int p4), .val (.int p5), .val (.int p6), .val (.int (3 : Int32)), .val (.int (1 : Int32)), .val (.ref b62), .val (.ref b66), .val (.int (0 : Int32)), .unset, .unset] [(.ref b66)])
        refine Go.st (fun t k => XS.iload X67.here hx rfl (hb hby at_87) rfl k) ?_
        show Go _ _ _ _ T67 (mkF m 89 #[.val (.int p1), .val (.int p2), .val (.int p3), .val (.int p4), .val (.int p5), .val (.int p6), .val (.int (3 : Int32)), .val (.int (1 : Int32)), .val (.ref b62), .val (.ref b66), .val (.int (0 : Int32)), .unset, .unset] [(.int p5), (.ref b66)])
        refine goM X67 hx hZ (y := (⟨"com/example/vetter/vetter/io/DerReader", "nextIs", "(I)Z"⟩ : MethodName)) (z := (⟨"com/example/vetter/vetter/io/DerReader", "nextIs", "(I)Z"⟩ : MethodName)) hown (hw _ (List.mem_of_getElem? (i := 12) rfl)) (hw _ (List.mem_of_getElem? (i := 13) rfl)) (hw _ (List.mem_of_getElem? (i := 15) rfl)) (hw _ (List.mem_of_getElem? (i := 14) rfl)) (hw _ (List.mem_of_getElem? (i := 16) rfl)) (hw _ (List.mem_of_getElem? (i := 3) rfl)) (notFace_of_selects (args := #[]) (mvT hZ (hw _ (List.mem_of_getElem? (i := 15) rfl)))) (by decide) (rm3 l Z a0 hw b66 p5 T67.heap n0 Z67 (0 : Int32) b62 3 _ (3 : Int32) ((p2.toInt8.toInt32).toInt8.toInt32) F_position_b66 F_data_b66 V_b62 rfl (fun _ => ⟨0, ⟨by decide, rfl, by decide⟩, rfl⟩)) rfl N67 E_b66 0 (by decide) (by decide) (by decide) (by decide) (g := (mkF m 89 #[.val (.int p1), .val (.int p2), .val (.int p3), .val (.int p4), .val (.int p5), .val (.int p6), .val (.int (3 : Int32)), .val (.int (1 : Int32)), .val (.ref b62), .val (.ref b66), .val (.int (0 : Int32)), .unset, .unset] [(.int p5), (.ref b66)])) rfl (by rw [hml]; rfl) [(.int p5)] [] (lenOf pd0_1 rfl) rfl rfl (by show 2 * 0 + _ ≤ _; exact Nat.le_of_eq rfl) (hb hby at_89) ?_
        intro T72 v72 L72 M72 X72 N72 hq72
        obtain ⟨hq72, N72q, e72⟩ := hq72
        replace N72 := N72 N72q
        rcases hq72 with ⟨hA72, hB72, rfl⟩ | ⟨hr72, rfl⟩
        ·
          exact absurd ((own_m _).symm.trans hB72) hE1
        ·
          show Go _ _ _ _ T72 (mkF m 92 #[.val (.int p1), .val (.int p2), .val (.int p3), .val (.int p4), .val (.int p5), .val (.int p6), .val (.int (3 : Int32)), .val (.int (1 : Int32)), .val (.ref b62), .val (.ref b66), .val (.int (0 : Int32)), .unset, .unset] [(.int (0 : Int32))])
          refine Go.st (fun t k => XS.iload X72.here hx rfl (hb hby at_92) rfl k) ?_
          show Go _ _ _ _ T72 (mkF m 94 #[.val (.int p1), .val (.int p2), .val (.int p3), .val (.int p4), .val (.int p5), .val (.int p6), .val (.int (3 : Int32)), .val (.int (1 : Int32)), .val (.ref b62), .val (.ref b66), .val (.int (0 : Int32)), .unset, .unset] [(.int (0 : Int32)), (.int (0 : Int32))])
          refine Go.st (fun t k => XS.icmpYes X72.here hx rfl (pc0 := 94) (pc' := 99) rfl (hb hby at_94) rfl (by decide) (by decide) (by decide) k) ?_
          show Go _ _ _ _ T72 (mkF m 99 #[.val (.int p1), .val (.int p2), .val (.int p3), .val (.int p4), .val (.int p5), .val (.int p6), .val (.int (3 : Int32)), .val (.int (1 : Int32)), .val (.ref b62), .val (.ref b66), .val (.int (0 : Int32)), .unset, .unset] [])
          refine Go.st (fun t k => XS.iconst X72.here hx rfl (hb hby at_99) k) ?_
          show Go _ _ _ _ T72 (mkF m 100 #[.val (.int p1), .val (.int p2), .val (.int p3), .val (.int p4), .val (.int p5), .val (.int p6), .val (.int (3 : Int32)), .val (.int (1 : Int32)), .val (.ref b62), .val (.ref b66), .val (.int (0 : Int32)), .unset, .unset] [(.int (0 : Int32))])
          refine Go.st (fun t k => XS.istore X72.here hx rfl (hb hby at_100) rfl (l' := #[.val (.int p1), .val (.int p2), .val (.int p3), .val (.int p4), .val (.int p5), .val (.int p6), .val (.int (3 : Int32)), .val (.int (1 : Int32)), .val (.ref b62), .val (.ref b66), .val (.int (0 : Int32)), .val (.int (0 : Int32)), .unset]) rfl k) ?_
          show Go _ _ _ _ T72 (mkF m 102 #[.val (.int p1), .val (.int p2), .val (.int p3), .val (.int p4), .val (.int p5), .val (.int p6), .val (.int (3 : Int32)), .val (.int (1 : Int32)), .val (.ref b62), .val (.ref b66), .val (.int (0 : Int32)), .val (.int (0 : Int32)), .unset] [])
          refine Go.st (fun t k => XS.iload X72.here hx rfl (hb hby at_102) rfl k) ?_
          show Go _ _ _ _ T72 (mkF m 104 #[.val (.int p1), .val (.int p2), .val (.int p3), .val (.int p4), .val (.int p5), .val (.int p6), .val (.int (3 : Int32)), .val (.int (1 : Int32)), .val (.ref b62), .val (.ref b66), .val (.int (0 : Int32)), .val (.int (0 : Int32)), .unset] [(.int (3 : Int32))])
          refine Go.st (fun t k => XS.iconst X72.here hx rfl (hb hby at_104) k) ?_
          show Go _ _ _ _ T72 (mkF m 105 #[.val (.int p1), .val (.int p2), .val (.int p3), .val (.int p4), .val (.int p5), .val (.int p6), .val (.int (3 : Int32)), .val (.int (1 : Int32)), .val (.ref b62), .val (.ref b66), .val (.int (0 : Int32)), .val (.int (0 : Int32)), .unset] [(.int (2 : Int32)), (.int (3 : Int32))])
          refine Go.st (fun t k => XS.icmpNo X72.here hx rfl (hb hby at_105) rfl (by decide) k) ?_
          show Go _ _ _ _ T72 (mkF m 108 #[.val (.int p1), .val (.int p2), .val (.int p3), .val (.int p4), .val (.int p5), .val (.int p6), .val (.int (3 : Int32)), .val (.int (1 : Int32)), .val (.ref b62), .val (.ref b66), .val (.int (0 : Int32)), .val (.int (0 : Int32)), .unset] [])
          refine Go.st (fun t k => XS.iload X72.here hx rfl (hb hby at_108) rfl k) ?_
          show Go _ _ _ _ T72 (mkF m 110 #[.val (.int p1), .val (.int p2), .val (.int p3), .val (.int p4), .val (.int p5), .val (.int p6), .val (.int (3 : Int32)), .val (.int (1 : Int32)), .val (.ref b62), .val (.ref b66), .val (.int (0 : Int32)), .val (.int (0 : Int32)), .unset] [(.int (1 : Int32))])
          refine Go.st (fun t k => XS.iload X72.here hx rfl (hb hby at_110) rfl k) ?_
          show Go _ _ _ _ T72 (mkF m 112 #[.val (.int p1), .val (.int p2), .val (.int p3), .val (.int p4), .val (.int p5), .val (.int p6), .val (.int (3 : Int32)), .val (.int (1 : Int32)), .val (.ref b62), .val (.ref b66), .val (.int (0 : Int32)), .val (.int (0 : Int32)), .unset] [(.int (3 : Int32)), (.int (1 : Int32))])
          refine Go.st (fun t k => XS.iconst X72.here hx rfl (hb hby at_112) k) ?_
          show Go _ _ _ _ T72 (mkF m 113 #[.val (.int p1), .val (.int p2), .val (.int p3), .val (.int p4), .val (.int p5), .val (.int p6), .val (.int (3 : Int32)), .val (.int (1 : Int32)), .val (.ref b62), .val (.ref b66), .val (.int (0 : Int32)), .val (.int (0 : Int32)), .unset] [(.int (2 : Int32)), (.int (3 : Int32)), (.int (1 : Int32))])
          refine Go.st (fun t k => XS.isub X72.here hx rfl (hb hby at_113) rfl k) ?_
          show Go _ _ _ _ T72 (mkF m 114 #[.val (.int p1), .val (.int p2), .val (.int p3), .val (.int p4), .val (.int p5), .val (.int p6), .val (.int (3 : Int32)), .val (.int (1 : Int32)), .val (.ref b62), .val (.ref b66), .val (.int (0 : Int32)), .val (.int (0 : Int32)), .unset] [(.int (1 : Int32)), (.int (1 : Int32))])
          refine Go.st (fun t k => XS.icmpNo X72.here hx rfl (hb hby at_114) rfl (by decide) k) ?_
          show Go _ _ _ _ T72 (mkF m 117 #[.val (.int p1), .val (.int p2), .val (.int p3), .val (.int p4), .val (.int p5), .val (.int p6), .val (.int (3 : Int32)), .val (.int (1 : Int32)), .val (.ref b62), .val (.ref b66), .val (.int (0 : Int32)), .val (.int (0 : Int32)), .unset] [])
          refine Go.st (fun t k => XS.aload X72.here hx rfl (hb hby at_117) rfl rfl k) ?_
          show Go _ _ _ _ T72 (mkF m 119 #[.val (.int p1), .val (.int p2), .val (.int p3), .val (.int p4), .val (.int p5), .val (.int p6), .val (.int (3 : Int32)), .val (.int (1 : Int32)), .val (.ref b62), .val (.ref b66), .val (.int (0 : Int32)), .val (.int (0 : Int32)), .unset] [(.ref b66)])
          refine Go.st (fun t k => XS.iloadN X72.here hx rfl (hb hby at_119) rfl k) ?_
          show Go _ _ _ _ T72 (mkF m 120 #[.val (.int p1), .val (.int p2), .val (.int p3), .val (.int p4), .val (.int p5), .val (.int p6), .val (.int (3 : Int32)), .val (.int (1 : Int32)), .val (.ref b62), .val (.ref b66), .val (.int (0 : Int32)), .val (.int (0 : Int32)), .unset] [(.int p2), (.ref b66)])
          refine Go.st (fun t k => XS.sipush X72.here hx rfl (hb hby at_120) k) ?_
          show Go _ _ _ _ T72 (mkF m 123 #[.val (.int p1), .val (.int p2), .val (.int p3), .val (.int p4), .val (.int p5), .val (.int p6), .val (.int (3 : Int32)), .val (.int (1 : Int32)), .val (.ref b62), .val (.ref b66), .val (.int (0 : Int32)), .val (.int (0 : Int32)), .unset] [(.int (255 : Int32)), (.int p2), (.ref b66)])
          refine Go.st (fun t k => XS.iand X72.here hx rfl (hb hby at_123) rfl k) ?_
          show Go _ _ _ _ T72 (mkF m 124 #[.val (.int p1), .val (.int p2), .val (.int p3), .val (.int p4), .val (.int p5), .val (.int p6), .val (.int (3 : Int32)), .val (.int (1 : Int32)), .val (.ref b62), .val (.ref b66), .val (.int (0 : Int32)), .val (.int (0 : Int32)), .unset] [(.int (p2 &&& (255 : Int32))), (.ref b66)])
          refine goM X72 hx hZ (y := (⟨"com/example/vetter/vetter/io/DerReader", "read", "(I)[B"⟩ : MethodName)) (z := (⟨"com/example/vetter/vetter/io/DerReader", "read", "(I)[B"⟩ : MethodName)) hown (hw _ (List.mem_of_getElem? (i := 19) rfl)) (hw _ (List.mem_of_getElem? (i := 20) rfl)) (hw _ (List.mem_of_getElem? (i := 22) rfl)) (hw _ (List.mem_of_getElem? (i := 21) rfl)) (hw _ (List.mem_of_getElem? (i := 23) rfl)) (hw _ (List.mem_of_getElem? (i := 3) rfl)) (notFace_of_selects (args := #[]) (mvT hZ (hw _ (List.mem_of_getElem? (i := 22) rfl)))) (by decide) (rm4 l Z a0 hw b66 (p2 &&& (255 : Int32)) T67.heap n0 Z67 b62 3 _ (3 : Int32) (1 : Int32) (3 : Int32) ((p2.toInt8.toInt32).toInt8.toInt32) (by simp [own_K]) E_b66 F_data_b66 V_b62 g_b66 ne_b62_b66 F_position_b66 rfl (own_m p2) rfl (fun i hi => by rcases own_lt3 hi with rfl | rfl | rfl <;> exact fits_nar_byte _)) e72 N72 E_b66 0 (by decide) (by decide) (by decide) (by decide) (g := (mkF m 124 #[.val (.int p1), .val (.int p2), .val (.int p3), .val (.int p4), .val (.int p5), .val (.int p6), .val (.int (3 : Int32)), .val (.int (1 : Int32)), .val (.ref b62), .val (.ref b66), .val (.int (0 : Int32)), .val (.int (0 : Int32)), .unset] [(.int (p2 &&& (255 : Int32))), (.ref b66)])) rfl (by rw [hml]; rfl) [(.int (p2 &&& (255 : Int32)))] [] (lenOf pd0_2 rfl) rfl rfl (by show 2 * 0 + _ ≤ _; exact Nat.le_of_eq rfl) (hb hby at_124) ?_
          intro T73 v73 L73 M73 X73 N73 hq73
          obtain ⟨⟨r73, rfl⟩, N73q, K73, E_b66, F_data_b66, F_position_b66⟩ := hq73
          replace N73 := N73 N73q
          have Z73 := Nat.le_trans Z67 K73.1
          have V_b62 := V_b62.keep K73 (ninS ne_b62_b66 nin0)
          show Go _ _ _ _ T73 (mkF m 127 #[.val (.int p1), .val (.int p2), .val (.int p3), .val (.int p4), .val (.int p5), .val (.int p6), .val (.int (3 : Int32)), .val (.int (1 : Int32)), .val (.ref b62), .val (.ref b66), .val (.int (0 : Int32)), .val (.int (0 : Int32)), .unset] [(.ref r73)])
          refine Go.st (fun t k => XS.pop X73.here hx rfl (hb hby at_127) rfl rfl k) ?_
          show Go _ _ _ _ T73 (mkF m 128 #[.val (.int p1), .val (.int p2), .val (.int p3), .val (.int p4), .val (.int p5), .val (.int p6), .val (.int (3 : Int32)), .val (.int (1 : Int32)), .val (.ref b62), .val (.ref b66), .val (.int (0 : Int32)), .val (.int (0 : Int32)), .unset] [])
          refine Go.st (fun t k => XS.iconst X73.here hx rfl (hb hby at_128) k) ?_
          show Go _ _ _ _ T73 (mkF m 129 #[.val (.int p1), .val (.int p2), .val (.int p3), .val (.int p4), .val (.int p5), .val (.int p6), .val (.int (3 : Int32)), .val (.int (1 : Int32)), .val (.ref b62), .val (.ref b66), .val (.int (0 : Int32)), .val (.int (0 : Int32)), .unset] [(.int (2 : Int32))])
          refine Go.st (fun t k => XS.iload X73.here hx rfl (hb hby at_129) rfl k) ?_
          show Go _ _ _ _ T73 (mkF m 131 #[.val (.int p1), .val (.int p2), .val (.int p3), .val (.int p4), .val (.int p5), .val (.int p6), .val (.int (3 : Int32)), .val (.int (1 : Int32)), .val (.ref b62), .val (.ref b66), .val (.int (0 : Int32)), .val (.int (0 : Int32)), .unset] [(.int (1 : Int32)), (.int (2 : Int32))])
          refine Go.st (fun t k => XS.iadd X73.here hx rfl (hb hby at_131) rfl k) ?_
          show Go _ _ _ _ T73 (mkF m 132 #[.val (.int p1), .val (.int p2), .val (.int p3), .val (.int p4), .val (.int p5), .val (.int p6), .val (.int (3 : Int32)), .val (.int (1 : Int32)), .val (.ref b62), .val (.ref b66), .val (.int (0 : Int32)), .val (.int (0 : Int32)), .unset] [(.int (3 : Int32))])
          refine Go.st (fun t k => XS.istore X73.here hx rfl (hb hby at_132) rfl (l' := #[.val (.int p1), .val (.int p2), .val (.int p3), .val (.int p4), .val (.int p5), .val (.int p6), .val (.int (3 : Int32)), .val (.int (1 : Int32)), .val (.ref b62), .val (.ref b66), .val (.int (0 : Int32)), .val (.int (3 : Int32)), .unset]) rfl k) ?_
          show Go _ _ _ _ T73 (mkF m 134 #[.val (.int p1), .val (.int p2), .val (.int p3), .val (.int p4), .val (.int p5), .val (.int p6), .val (.int (3 : Int32)), .val (.int (1 : Int32)), .val (.ref b62), .val (.ref b66), .val (.int (0 : Int32)), .val (.int (3 : Int32)), .unset] [])
          refine Go.st (fun t k => XS.iload X73.here hx rfl (hb hby at_134) rfl k) ?_
          show Go _ _ _ _ T73 (mkF m 136 #[.val (.int p1), .val (.int p2), .val (.int p3), .val (.int p4), .val (.int p5), .val (.int p6), .val (.int (3 : Int32)), .val (.int (1 : Int32)), .val (.ref b62), .val (.ref b66), .val (.int (0 : Int32)), .val (.int (3 : Int32)), .unset] [(.int (3 : Int32))])
          refine Go.st (fun t k => XS.iload X73.here hx rfl (hb hby at_136) rfl k) ?_
          show Go _ _ _ _ T73 (mkF m 138 #[.val (.int p1), .val (.int p2), .val (.int p3), .val (.int p4), .val (.int p5), .val (.int p6), .val (.int (3 : Int32)), .val (.int (1 : Int32)), .val (.ref b62), .val (.ref b66), .val (.int (0 : Int32)), .val (.int (3 : Int32)), .unset] [(.int (3 : Int32)), (.int (3 : Int32))])
          refine Go.st (fun t k => XS.icmpNo X73.here hx rfl (hb hby at_138) rfl (by decide) k) ?_
          show Go _ _ _ _ T73 (mkF m 141 #[.val (.int p1), .val (.int p2), .val (.int p3), .val (.int p4), .val (.int p5), .val (.int p6), .val (.int (3 : Int32)), .val (.int (1 : Int32)), .val (.ref b62), .val (.ref b66), .val (.int (0 : Int32)), .val (.int (3 : Int32)), .unset] [])
          refine Go.st (fun t k => XS.iconst X73.here hx rfl (hb hby at_141) k) ?_
          show Go _ _ _ _ T73 (mkF m 142 #[.val (.int p1), .val (.int p2), .val (.int p3), .val (.int p4), .val (.int p5), .val (.int p6), .val (.int (3 : Int32)), .val (.int (1 : Int32)), .val (.ref b62), .val (.ref b66), .val (.int (0 : Int32)), .val (.int (3 : Int32)), .unset] [(.int (0 : Int32))])
          refine Go.st (fun t k => XS.istore X73.here hx rfl (hb hby at_142) rfl (l' := #[.val (.int p1), .val (.int p2), .val (.int p3), .val (.int p4), .val (.int p5), .val (.int p6), .val (.int (3 : Int32)), .val (.int (1 : Int32)), .val (.ref b62), .val (.ref b66), .val (.int (0 : Int32)), .val (.int (3 : Int32)), .val (.int (0 : Int32))]) rfl k) ?_
          show Go _ _ _ _ T73 (mkF m 144 #[.val (.int p1), .val (.int p2), .val (.int p3), .val (.int p4), .val (.int p5), .val (.int p6), .val (.int (3 : Int32)), .val (.int (1 : Int32)), .val (.ref b62), .val (.ref b66), .val (.int (0 : Int32)), .val (.int (3 : Int32)), .val (.int (0 : Int32))] [])
          refine Go.st (fun t k => XS.goto X73.here hx rfl (pc0 := 144) (pc' := 189) rfl (hb hby at_144) (by decide) (by decide) k) ?_
          show Go _ _ _ _ T73 (mkF m 189 #[.val (.int p1), .val (.int p2), .val (.int p3), .val (.int p4), .val (.int p5), .val (.int p6), .val (.int (3 : Int32)), .val (.int (1 : Int32)), .val (.ref b62), .val (.ref b66), .val (.int (0 : Int32)), .val (.int (3 : Int32)), .val (.int (0 : Int32))] [])
          refine Go.st (fun t k => XS.aload X73.here hx rfl (hb hby at_189) rfl rfl k) ?_
          show Go _ _ _ _ T73 (mkF m 191 #[.val (.int p1), .val (.int p2), .val (.int p3), .val (.int p4), .val (.int p5), .val (.int p6), .val (.int (3 : Int32)), .val (.int (1 : Int32)), .val (.ref b62), .val (.ref b66), .val (.int (0 : Int32)), .val (.int (3 : Int32)), .val (.int (0 : Int32))] [(.ref b66)])
          refine Go.st (fun t k => XS.iload X73.here hx rfl (hb hby at_191) rfl k) ?_
          show Go _ _ _ _ T73 (mkF m 193 #[.val (.int p1), .val (.int p2), .val (.int p3), .val (.int p4), .val (.int p5), .val (.int p6), .val (.int (3 : Int32)), .val (.int (1 : Int32)), .val (.ref b62), .val (.ref b66), .val (.int (0 : Int32)), .val (.int (3 : Int32)), .val (.int (0 : Int32))] [(.int p6), (.ref b66)])
          refine goM X73 hx hZ (y := (⟨"com/example/vetter/vetter/io/DerReader", "nextIs", "(I)Z"⟩ : MethodName)) (z := (⟨"com/example/vetter/vetter/io/DerReader", "nextIs", "(I)Z"⟩ : MethodName)) hown (hw _ (List.mem_of_getElem? (i := 12) rfl)) (hw _ (List.mem_of_getElem? (i := 13) rfl)) (hw _ (List.mem_of_getElem? (i := 15) rfl)) (hw _ (List.mem_of_getElem? (i := 14) rfl)) (hw _ (List.mem_of_getElem? (i := 16) rfl)) (hw _ (List.mem_of_getElem? (i := 3) rfl)) (notFace_of_selects (args := #[]) (mvT hZ (hw _ (List.mem_of_getElem? (i := 15) rfl)))) (by decide) (rm3 l Z a0 hw b66 p6 T73.heap n0 Z73 (3 : Int32) b62 3 _ (3 : Int32) ((p2.toInt8.toInt32).toInt8.toInt32) F_position_b66 F_data_b66 V_b62 rfl (fun q => absurd q (by decide))) rfl N73 E_b66 0 (by decide) (by decide) (by decide) (by decide) (g := (mkF m 193 #[.val (.int p1), .val (.int p2), .val (.int p3), .val (.int p4), .val (.int p5), .val (.int p6), .val (.int (3 : Int32)), .val (.int (1 : Int32)), .val (.ref b62), .val (.ref b66), .val (.int (0 : Int32)), .val (.int (3 : Int32)), .val (.int (0 : Int32))] [(.int p6), (.ref b66)])) rfl (by rw [hml]; rfl) [(.int p6)] [] (lenOf pd0_1 rfl) rfl rfl (by show 2 * 0 + _ ≤ _; exact Nat.le_of_eq rfl) (hb hby at_193) ?_
          intro T74 v74 L74 M74 X74 N74 hq74
          obtain ⟨hq74, N74q, e74⟩ := hq74
          replace N74 := N74 N74q
          rcases hq74 with ⟨hA74, hB74, rfl⟩ | ⟨hr74, rfl⟩
          ·
            exact absurd hA74 (by decide)
          ·
            show Go _ _ _ _ T74 (mkF m 196 #[.val (.int p1), .val (.int p2), .val (.int p3), .val (.int p4), .val (.int p5), .val (.int p6), .val (.int (3 : Int32)), .val (.int (1 : Int32)), .val (.ref b62), .val (.ref b66), .val (.int (0 : Int32)), .val (.int (3 : Int32)), .val (.int (0 : Int32))] [(.int (0 : Int32))])
            refine Go.st (fun t k => XS.iload X74.here hx rfl (hb hby at_196) rfl k) ?_
            show Go _ _ _ _ T74 (mkF m 198 #[.val (.int p1), .val (.int p2), .val (.int p3), .val (.int p4), .val (.int p5), .val (.int p6), .val (.int (3 : Int32)), .val (.int (1 : Int32)), .val (.ref b62), .val (.ref b66), .val (.int (0 : Int32)), .val (.int (3 : Int32)), .val (.int (0 : Int32))] [(.int (0 : Int32)), (.int (0 : Int32))])
            refine Go.st (fun t k => XS.icmpNo X74.here hx rfl (hb hby at_198) rfl (by decide) k) ?_
            show Go _ _ _ _ T74 (mkF m 201 #[.val (.int p1), .val (.int p2), .val (.int p3), .val (.int p4), .val (.int p5), .val (.int p6), .val (.int (3 : Int32)), .val (.int (1 : Int32)), .val (.ref b62), .val (.ref b66), .val (.int (0 : Int32)), .val (.int (3 : Int32)), .val (.int (0 : Int32))] [])
            refine Go.st (fun t k => XS.iconst X74.here hx rfl (hb hby at_201) k) ?_
            show Go _ _ _ _ T74 (mkF m 202 #[.val (.int p1), .val (.int p2), .val (.int p3), .val (.int p4), .val (.int p5), .val (.int p6), .val (.int (3 : Int32)), .val (.int (1 : Int32)), .val (.ref b62), .val (.ref b66), .val (.int (0 : Int32)), .val (.int (3 : Int32)), .val (.int (0 : Int32))] [(.int (1 : Int32))])
            refine Go.st (fun t k => XS.goto X74.here hx rfl (pc0 := 202) (pc' := 206) rfl (hb hby at_202) (by decide) (by decide) k) ?_
            show Go _ _ _ _ T74 (mkF m 206 #[.val (.int p1), .val (.int p2), .val (.int p3), .val (.int p4), .val (.int p5), .val (.int p6), .val (.int (3 : Int32)), .val (.int (1 : Int32)), .val (.ref b62), .val (.ref b66), .val (.int (0 : Int32)), .val (.int (3 : Int32)), .val (.int (0 : Int32))] [(.int (1 : Int32))])
            exact goN X74 hx hret hlk (by simp) (hb hby at_206) (by decide) (by decide) ⟨rfl, N74⟩
set_option maxRecDepth 65536 in
set_option maxHeartbeats 40000000 in
theorem comes_1 {Post : Tables → Env → Array Value → State → Outcome → State → Prop} (hpost : ∀ tb e args s v u, (limb_1_1.after args s (.returned v) u = true ∧ limb_1_2.after args s (.returned v) u = true ∧ True) → FrameEnd s (.returned v) u (Jvm.fieldLocs frame_1_writes args s ++ Jvm.arrayLocs frame_1_arrays args s ++ Jvm.staticLocs frame_1_statics s) 16 128 → Post tb e args s (.returned v) u) :
    ArmFor flags0 classFile x code maxLocals ret World_1 tables_1 room_1 Calls_1 rest_1 Pre_1 Post := by
  intro l hfl _ _ p e ha hc hk s m args below hf hA hF happ hP
  obtain ⟨hcalls, hrest, hpre⟩ := hP
  obtain ⟨-, -, -, hnamed, -, -, -, hat⟩ := (Spec.applies_iff hf).mp happ
  obtain ⟨hg, hn⟩ := and_e (Cond.before_iff.mp (show (Jvm.Cond.and given_1 narrow_1).before args s = true from hpre))
  obtain ⟨ga1, gb1⟩ := and_e hg
  obtain ⟨ga2, gb2⟩ := and_e gb1
  obtain ⟨ga3, gb3⟩ := and_e gb2
  obtain ⟨ga4, gb4⟩ := and_e gb3
  obtain ⟨ga5, gb5⟩ := and_e gb4
  obtain ⟨ga6, gb6⟩ := and_e gb5
  obtain ⟨w0, w1, w2, w3, w4, w5, rfl⟩ : ∃ w0 w1 w2 w3 w4 w5 : Value, args = #[w0, w1, w2, w3, w4, w5] := by
    have hs : args.size = 6 := by simpa [Cond.value, given_1] using ga1
    obtain ⟨L⟩ := args
    match L, hs with
    | [w0, w1, w2, w3, w4, w5], _ => exact ⟨w0, w1, w2, w3, w4, w5, rfl⟩
  have hw := fun d (hd : d ∈ tables_1) => atoms_spec (ws := Jvm.Cond.code x code maxLocals ret :: tables_1) hat d (List.mem_cons_of_mem _ hd)
  obtain ⟨i0, ei0⟩ := is_v ga2
  obtain rfl : w0 = (.int i0) := Option.some.inj ei0
  obtain ⟨i1, ei1⟩ := is_v ga3
  obtain rfl : w1 = (.int i1) := Option.some.inj ei1
  obtain ⟨i2, ei2⟩ := is_v ga4
  obtain rfl : w2 = (.int i2) := Option.some.inj ei2
  obtain ⟨i3, ei3⟩ := is_v ga5
  obtain rfl : w3 = (.int i3) := Option.some.inj ei3
  obtain ⟨i4, ei4⟩ := is_v ga6
  obtain rfl : w4 = (.int i4) := Option.some.inj ei4
  obtain ⟨i5, ei5⟩ := is_v gb6
  obtain rfl : w5 = (.int i5) := Option.some.inj ei5
  obtain ⟨n, o, h1, h2, h3, _, L, rfl, ⟨rfl, N⟩, hq⟩ := rm0 l s _ hw i0 i1 i2 i3 i4 i5 s.heap s.heap.size (Nat.le_refl _)  tables_1 p e ha hc hk s m _ below hf ((Spec.applies_iff_loose hf).mp happ).1 ⟨rfl, State.Warmed39.refl s, rfl⟩ trivial
  refine ⟨n, _, h1, h2, h3, hpost _ _ _ _ _ _ ⟨Cond.after_iff.mpr rfl, Cond.after_iff.mpr (eq_i res_at (Term.int_eval (1)) rfl), trivial⟩ ⟨hq.1, hq.2.1, (hq.2.2.sift fun y hy => Or.inr (N y hy)).mono (by decide) (by decide)⟩⟩
theorem main_1_1 : Claimed_1_1 := comes_1 fun _ _ _ _ _ _ h hF => ⟨h.1, hF⟩
theorem main_1_2 : Claimed_1_2 := comes_1 fun _ _ _ _ _ _ h hF => ⟨h.2.1, hF⟩
end Jvm.Pilot.@@N@@
namespace Jvm.Pilot.@@N@@
open Jvm Jvm.ClassFile Sem Op Lib Jvm.Free Jvm.Stand Jvm.Pilot.@@N@@.Jvm.D
/-! MADE BY PROGRAM (witnessworld.py) out of the Statement's table words and the real class files: 12 classes; the members and pool entries that the words name. The judged class is class 1, her method 1. -/
namespace start1
open Jvm.ClassFile
def u (s : String) : CpInfo := .utf8 (stringToUtf16 s)
/-- a pool by its gaps: so many unusable entries, then the entry; so many at the end -/
def gap : Nat → List CpInfo → List CpInfo
  | 0, r => r
  | n + 1, r => .unusable :: gap n r
def poolList (es : List (Nat × CpInfo)) (last : Nat) : List CpInfo := es.foldr (fun e r => gap e.1 (e.2 :: r)) (gap last [])
def pool (es : List (Nat × CpInfo)) (last : Nat) : Array CpInfo := ⟨poolList es last⟩
def fileOf (pool : Array CpInfo) (this : Nat) (attrs : Array Attribute := #[]) (ms : Array MethodInfo := #[]) (fl : Nat := 33) (sup : Nat := 0) (ifs : Array Nat := #[]) (fds : Array FieldInfo := #[]) : ClassFile where
  minorVersion := 0
  majorVersion := 65
  constantPool := pool
  accessFlags := fl
  thisClass := this
  superClass := sup
  interfaces := ifs
  fields := fds
  methods := ms
  attributes := attrs
def plain (name : String) (sup : Option ClassId) : Class where
  name := name
  kind := .ordinary
  loader := none
  accessFlags := 33
  super := sup
  interfaces := #[]
  cf := none
  fields := #[]
  methods := #[]
  instanceTypes := #[]
  staticTypes := #[]
  resolved := #[]
  callSites := []
  init := .initialized
  statics := none
  mirror := none

def pool0 : Array CpInfo := pool [(5, u "<init>"), (0, u "()V"), (1, .class_ 10), (1, u "java/lang/Object")] 113

def k0c0 : Code := { maxStack := 0, maxLocals := 1, code := object_method_1_code, exceptionTable := #[], attributes := #[] }
def k0m0 : Method := { name := "<init>", desc := "()V", sig := { parameters := [], returnType := none }, accessFlags := 1, code := some k0c0 }
/-- java/lang/Object -/
def k0 : Class := { plain "java/lang/Object" none with
  accessFlags := 33
  interfaces := #[]
  cf := some (fileOf pool0 8 #[] #[{ accessFlags := 1, nameIndex := 5, descriptorIndex := 6, attributes := #[] }] 33 0 #[] #[])
  fields := #[]
  methods := #[k0m0]
  instanceTypes := #[]
  staticTypes := #[]
  resolved := Array.replicate 124 none
  statics := none }

def pool1 : Array CpInfo := pool [(2, .class_ 4), (1, u "java/lang/Object"), (0, u "<init>"), (0, u "()V"), (0, .class_ 8), (0, u "com/example/vetter/vetter/io/DerReader"), (0, .methodref 7 10), (0, .nameAndType 5 11), (0, u "([B)V"), (0, .methodref 7 13), (0, .nameAndType 14 15), (0, u "nextIs"), (0, u "(I)Z"), (0, .methodref 7 17), (0, .nameAndType 18 19), (0, u "read"), (0, u "(I)[B"), (0, .class_ 21), (0, u "com/example/vetter/vetter/io/DerReaderNextIsPinLaw"), (2, u "law"), (0, u "(IIIIII)Z")] 8

def k1m0 : Method := { name := "<init>", desc := "()V", sig := { parameters := [], returnType := none }, accessFlags := 1, code := none }
def k1c1 : Code := { maxStack := 3, maxLocals := 13, code := code, exceptionTable := #[], attributes := #[] }
def k1m1 : Method := { name := "law", desc := "(IIIIII)Z", sig := { parameters := [.int, .int, .int, .int, .int, .int], returnType := some .boolean }, accessFlags := 9, code := some k1c1 }
/-- com/example/vetter/vetter/io/DerReaderNextIsPinLaw -/
def k1 : Class := { plain "com/example/vetter/vetter/io/DerReaderNextIsPinLaw" (some 0) with
  accessFlags := 49
  interfaces := #[]
  cf := some (fileOf pool1 20 #[] #[{ accessFlags := 1, nameIndex := 5, descriptorIndex := 6, attributes := #[] }, { accessFlags := 9, nameIndex := 24, descriptorIndex := 25, attributes := #[] }] 49 2 #[] #[])
  fields := #[]
  methods := #[k1m0, k1m1]
  instanceTypes := #[]
  staticTypes := #[]
  resolved := Array.replicate 34 none
  statics := none }

def pool2 : Array CpInfo := pool [(1, .methodref 2 3), (0, .class_ 4), (0, .nameAndType 5 6), (0, u "java/lang/Object"), (0, u "<init>"), (0, u "()V"), (0, .fieldref 8 9), (0, .class_ 10), (0, .nameAndType 11 12), (0, u "com/example/vetter/vetter/io/DerReader"), (0, u "data"), (0, u "[B"), (0, .fieldref 8 14), (0, .nameAndType 15 16), (0, u "position"), (0, u "I"), (0, .methodref 8 18), (0, .nameAndType 19 20), (0, u "nextIs"), (0, u "(I)Z"), (9, .methodref 8 31), (0, .nameAndType 32 33), (0, u "readLength"), (0, u "()I"), (0, .methodref 35 36), (0, .class_ 37), (0, .nameAndType 38 39), (0, u "java/util/Arrays"), (0, u "copyOfRange"), (0, u "([BII)[B"), (2, u "read"), (0, u "(I)[B"), (2, u "([B)V"), (27, u "INTEGER"), (2, u "OCTET_STRING"), (1, u "OBJECT_IDENTIFIER"), (1, u "SEQUENCE"), (1, u "CONTEXT_CONSTRUCTED"), (1, u "CONTEXT_PRIMITIVE"), (1, u "LONG_LENGTH"), (0, u "MAX_LENGTH_BYTES")] 38

def k2c0 : Code := { maxStack := 2, maxLocals := 2, code := prog_10_method_1_code, exceptionTable := #[], attributes := #[] }
def k2m0 : Method := { name := "<init>", desc := "([B)V", sig := { parameters := [(.array .byte)], returnType := none }, accessFlags := 0, code := some k2c0 }
def k2c1 : Code := { maxStack := 2, maxLocals := 2, code := prog_10_method_3_code, exceptionTable := #[], attributes := #[] }
def k2m1 : Method := { name := "nextIs", desc := "(I)Z", sig := { parameters := [.int], returnType := some .boolean }, accessFlags := 0, code := some k2c1 }
def k2c2 : Code := { maxStack := 4, maxLocals := 4, code := prog_10_method_4_code, exceptionTable := #[], attributes := #[] }
def k2m2 : Method := { name := "read", desc := "(I)[B", sig := { parameters := [.int], returnType := some (.array .byte) }, accessFlags := 0, code := some k2c2 }
def k2c3 : Code := { maxStack := 6, maxLocals := 5, code := prog_10_method_11_code, exceptionTable := #[], attributes := #[] }
def k2m3 : Method := { name := "readLength", desc := "()I", sig := { parameters := [], returnType := some .int }, accessFlags := 2, code := some k2c3 }
/-- com/example/vetter/vetter/io/DerReader -/
def k2 : Class := { plain "com/example/vetter/vetter/io/DerReader" (some 0) with
  accessFlags := 32
  interfaces := #[]
  cf := some (fileOf pool2 8 #[] #[{ accessFlags := 0, nameIndex := 5, descriptorIndex := 46, attributes := #[] }, { accessFlags := 0, nameIndex := 19, descriptorIndex := 20, attributes := #[] }, { accessFlags := 0, nameIndex := 42, descriptorIndex := 43, attributes := #[] }, { accessFlags := 2, nameIndex := 32, descriptorIndex := 33, attributes := #[] }] 32 2 #[] #[{ accessFlags := 24, nameIndex := 74, descriptorIndex := 16, attributes := #[] }, { accessFlags := 24, nameIndex := 77, descriptorIndex := 16, attributes := #[] }, { accessFlags := 24, nameIndex := 79, descriptorIndex := 16, attributes := #[] }, { accessFlags := 24, nameIndex := 81, descriptorIndex := 16, attributes := #[] }, { accessFlags := 26, nameIndex := 83, descriptorIndex := 16, attributes := #[] }, { accessFlags := 26, nameIndex := 85, descriptorIndex := 16, attributes := #[] }, { accessFlags := 26, nameIndex := 87, descriptorIndex := 16, attributes := #[] }, { accessFlags := 26, nameIndex := 88, descriptorIndex := 16, attributes := #[] }, { accessFlags := 18, nameIndex := 11, descriptorIndex := 12, attributes := #[] }, { accessFlags := 2, nameIndex := 15, descriptorIndex := 16, attributes := #[] }])
  fields := #[{ name := "INTEGER", type := .int, accessFlags := 24, slot := 0, constantValue := 0 }, { name := "OCTET_STRING", type := .int, accessFlags := 24, slot := 1, constantValue := 0 }, { name := "OBJECT_IDENTIFIER", type := .int, accessFlags := 24, slot := 2, constantValue := 0 }, { name := "SEQUENCE", type := .int, accessFlags := 24, slot := 3, constantValue := 0 }, { name := "CONTEXT_CONSTRUCTED", type := .int, accessFlags := 26, slot := 4, constantValue := 0 }, { name := "CONTEXT_PRIMITIVE", type := .int, accessFlags := 26, slot := 5, constantValue := 0 }, { name := "LONG_LENGTH", type := .int, accessFlags := 26, slot := 6, constantValue := 0 }, { name := "MAX_LENGTH_BYTES", type := .int, accessFlags := 26, slot := 7, constantValue := 0 }, { name := "data", type := (.array .byte), accessFlags := 18, slot := 0, constantValue := 0 }, { name := "position", type := .int, accessFlags := 2, slot := 1, constantValue := 0 }]
  methods := #[k2m0, k2m1, k2m2, k2m3]
  instanceTypes := #[(.array .byte), .int]
  staticTypes := #[.int, .int, .int, .int, .int, .int, .int, .int]
  resolved := Array.replicate 127 none
  statics := none }

def pool3 : Array CpInfo := pool [(2, .class_ 4), (1, u "java/lang/Object"), (0, u "<init>"), (0, u "()V"), (7, .class_ 16), (1, u "java/util/Arrays"), (57, .class_ 76), (1, u "java/util/Arrays$NaturalOrder"), (36, .class_ 115), (1, u "java/util/Arrays$LegacyMergeSort"), (1, u "Z"), (21, u "copyOfRange"), (10, .methodref 151 152), (0, .class_ 153), (0, .nameAndType 154 155), (0, u "java/lang/System"), (0, u "arraycopy"), (0, u "(Ljava/lang/Object;ILjava/lang/Object;II)V"), (148, .methodref 305 306), (0, .class_ 307), (0, .nameAndType 308 309), (0, u "java/lang/Math"), (0, u "min"), (0, u "(II)I"), (29, .methodref 14 340), (0, .nameAndType 341 342), (0, u "copyOfRangeByte"), (0, u "([BII)[B"), (0, .methodref 14 344), (0, .nameAndType 345 346), (0, u "checkLength"), (0, u "(II)V"), (28, .class_ 376), (0, u "java/util/Arrays$ArrayList"), (68, u "$assertionsDisabled"), (269, u "MIN_ARRAY_SORT_GRAN"), (0, u "I"), (2, u "INSERTIONSORT_THRESHOLD"), (255, .class_ 976), (0, u "java/util/Arrays$ArrayItr")] 52

def k3m0 : Method := { name := "<init>", desc := "()V", sig := { parameters := [], returnType := none }, accessFlags := 2, code := none }
def k3c1 : Code := { maxStack := 4, maxLocals := 2, code := jdk_65_method_131_code, exceptionTable := #[], attributes := #[] }
def k3m1 : Method := { name := "checkLength", desc := "(II)V", sig := { parameters := [.int, .int], returnType := none }, accessFlags := 10, code := some k3c1 }
def k3c2 : Code := { maxStack := 3, maxLocals := 3, code := jdk_65_method_132_code, exceptionTable := #[], attributes := #[] }
def k3m2 : Method := { name := "copyOfRange", desc := "([BII)[B", sig := { parameters := [(.array .byte), .int, .int], returnType := some (.array .byte) }, accessFlags := 9, code := some k3c2 }
def k3c3 : Code := { maxStack := 6, maxLocals := 5, code := jdk_65_method_133_code, exceptionTable := #[], attributes := #[] }
def k3m3 : Method := { name := "copyOfRangeByte", desc := "([BII)[B", sig := { parameters := [(.array .byte), .int, .int], returnType := some (.array .byte) }, accessFlags := 10, code := some k3c3 }
/-- java/util/Arrays -/
def k3 : Class := { plain "java/util/Arrays" (some 0) with
  accessFlags := 49
  interfaces := #[]
  cf := some (fileOf pool3 14 #[.nestMembers #[975, 375, 113, 74]] #[{ accessFlags := 2, nameIndex := 5, descriptorIndex := 6, attributes := #[] }, { accessFlags := 10, nameIndex := 345, descriptorIndex := 346, attributes := #[] }, { accessFlags := 9, nameIndex := 139, descriptorIndex := 342, attributes := #[] }, { accessFlags := 10, nameIndex := 341, descriptorIndex := 342, attributes := #[] }] 49 2 #[] #[{ accessFlags := 26, nameIndex := 715, descriptorIndex := 716, attributes := #[] }, { accessFlags := 26, nameIndex := 719, descriptorIndex := 716, attributes := #[] }, { accessFlags := 4120, nameIndex := 445, descriptorIndex := 117, attributes := #[] }])
  fields := #[{ name := "MIN_ARRAY_SORT_GRAN", type := .int, accessFlags := 26, slot := 0, constantValue := 0 }, { name := "INSERTIONSORT_THRESHOLD", type := .int, accessFlags := 26, slot := 1, constantValue := 0 }, { name := "$assertionsDisabled", type := .boolean, accessFlags := 4120, slot := 2, constantValue := 0 }]
  methods := #[k3m0, k3m1, k3m2, k3m3]
  instanceTypes := #[]
  staticTypes := #[.int, .int, .boolean]
  resolved := Array.replicate 1029 none
  statics := none }

def pool4 : Array CpInfo := pool [(1, .class_ 2), (0, u "java/lang/Math"), (1, .class_ 6), (1, u "java/lang/Object"), (0, u "<init>"), (0, u "()V"), (89, .class_ 100), (1, u "java/lang/Math$RandomNumberGeneratorHolder"), (71, u "negativeZeroFloatBits"), (0, u "J"), (2, u "negativeZeroDoubleBits"), (24, u "min"), (43, u "$assertionsDisabled"), (0, u "Z"), (88, u "(II)I"), (2, u "twoToTheDoubleScaleDown"), (0, u "D"), (4, u "twoToTheDoubleScaleUp"), (9, u "E"), (3, u "PI"), (2, u "TAU"), (2, u "DEGREES_TO_RADIANS"), (0, u "RADIANS_TO_DEGREES")] 94

def k4m0 : Method := { name := "<init>", desc := "()V", sig := { parameters := [], returnType := none }, accessFlags := 2, code := none }
def k4c1 : Code := { maxStack := 2, maxLocals := 2, code := jdk_29_method_69_code, exceptionTable := #[], attributes := #[] }
def k4m1 : Method := { name := "min", desc := "(II)I", sig := { parameters := [.int, .int], returnType := some .int }, accessFlags := 9, code := some k4c1 }
/-- java/lang/Math -/
def k4 : Class := { plain "java/lang/Math" (some 0) with
  accessFlags := 49
  interfaces := #[]
  cf := some (fileOf pool4 1 #[.nestMembers #[98]] #[{ accessFlags := 2, nameIndex := 7, descriptorIndex := 8, attributes := #[] }, { accessFlags := 9, nameIndex := 201, descriptorIndex := 335, attributes := #[] }] 49 4 #[] #[{ accessFlags := 25, nameIndex := 354, descriptorIndex := 339, attributes := #[] }, { accessFlags := 25, nameIndex := 358, descriptorIndex := 339, attributes := #[] }, { accessFlags := 25, nameIndex := 361, descriptorIndex := 339, attributes := #[] }, { accessFlags := 26, nameIndex := 364, descriptorIndex := 339, attributes := #[] }, { accessFlags := 26, nameIndex := 365, descriptorIndex := 339, attributes := #[] }, { accessFlags := 26, nameIndex := 172, descriptorIndex := 173, attributes := #[] }, { accessFlags := 26, nameIndex := 176, descriptorIndex := 173, attributes := #[] }, { accessFlags := 8, nameIndex := 344, descriptorIndex := 339, attributes := #[] }, { accessFlags := 8, nameIndex := 338, descriptorIndex := 339, attributes := #[] }, { accessFlags := 4120, nameIndex := 245, descriptorIndex := 246, attributes := #[] }])
  fields := #[{ name := "E", type := .double, accessFlags := 25, slot := 0, constantValue := 0 }, { name := "PI", type := .double, accessFlags := 25, slot := 1, constantValue := 0 }, { name := "TAU", type := .double, accessFlags := 25, slot := 2, constantValue := 0 }, { name := "DEGREES_TO_RADIANS", type := .double, accessFlags := 26, slot := 3, constantValue := 0 }, { name := "RADIANS_TO_DEGREES", type := .double, accessFlags := 26, slot := 4, constantValue := 0 }, { name := "negativeZeroFloatBits", type := .long, accessFlags := 26, slot := 5, constantValue := 0 }, { name := "negativeZeroDoubleBits", type := .long, accessFlags := 26, slot := 6, constantValue := 0 }, { name := "twoToTheDoubleScaleUp", type := .double, accessFlags := 8, slot := 7, constantValue := 0 }, { name := "twoToTheDoubleScaleDown", type := .double, accessFlags := 8, slot := 8, constantValue := 0 }, { name := "$assertionsDisabled", type := .boolean, accessFlags := 4120, slot := 9, constantValue := 0 }]
  methods := #[k4m0, k4m1]
  instanceTypes := #[]
  staticTypes := #[.double, .double, .double, .double, .double, .long, .long, .double, .double, .boolean]
  resolved := Array.replicate 460 none
  statics := none }

def pool5 : Array CpInfo := pool [(2, .class_ 4), (1, u "java/lang/Object"), (0, u "<init>"), (0, u "()V"), (1, .class_ 10), (1, u "java/lang/System"), (0, u "allowSecurityManager"), (0, u "I"), (16, u "cons"), (0, u "Ljava/io/Console;"), (77, .class_ 110), (1, u "java/lang/System$CallersHolder"), (43, u "initialErrStream"), (0, u "Ljava/io/PrintStream;"), (19, u "security"), (0, u "Ljava/lang/SecurityManager;"), (31, .class_ 209), (0, u "java/lang/System$1"), (7, u "props"), (0, u "Ljava/util/Properties;"), (2, u "lineSeparator"), (0, u "Ljava/lang/String;"), (96, .class_ 321), (1, u "java/lang/System$LoggerFinder"), (5, .class_ 328), (0, u "java/lang/System$Logger"), (67, u "err"), (2, u "out"), (91, u "notSupportedJnuEncoding"), (15, u "in"), (17, u "initialIn"), (0, u "Ljava/io/InputStream;"), (35, u "bootLayer"), (0, u "Ljava/lang/ModuleLayer;"), (99, .class_ 664), (0, u "java/lang/System$2"), (9, u "NEVER"), (2, u "MAYBE"), (49, u "arraycopy"), (0, u "(Ljava/lang/Object;ILjava/lang/Object;II)V"), (72, .class_ 802), (0, u "java/lang/System$Logger$Level")] 31

def k5m0 : Method := { name := "<init>", desc := "()V", sig := { parameters := [], returnType := none }, accessFlags := 2, code := none }
def k5m1 : Method := { name := "arraycopy", desc := "(Ljava/lang/Object;ILjava/lang/Object;II)V", sig := { parameters := [(.object "java/lang/Object"), .int, (.object "java/lang/Object"), .int, .int], returnType := none }, accessFlags := 265, code := none }
/-- java/lang/System -/
def k5 : Class := { plain "java/lang/System" (some 0) with
  accessFlags := 49
  interfaces := #[]
  cf := some (fileOf pool5 8 #[.nestMembers #[319, 327, 801, 108, 663, 208]] #[{ accessFlags := 2, nameIndex := 5, descriptorIndex := 6, attributes := #[] }, { accessFlags := 265, nameIndex := 727, descriptorIndex := 728, attributes := #[] }] 49 2 #[] #[{ accessFlags := 25, nameIndex := 507, descriptorIndex := 526, attributes := #[] }, { accessFlags := 25, nameIndex := 399, descriptorIndex := 155, attributes := #[] }, { accessFlags := 25, nameIndex := 396, descriptorIndex := 155, attributes := #[] }, { accessFlags := 10, nameIndex := 525, descriptorIndex := 526, attributes := #[] }, { accessFlags := 26, nameIndex := 674, descriptorIndex := 12, attributes := #[] }, { accessFlags := 26, nameIndex := 677, descriptorIndex := 12, attributes := #[] }, { accessFlags := 10, nameIndex := 11, descriptorIndex := 12, attributes := #[] }, { accessFlags := 74, nameIndex := 175, descriptorIndex := 176, attributes := #[] }, { accessFlags := 10, nameIndex := 491, descriptorIndex := 222, attributes := #[] }, { accessFlags := 74, nameIndex := 29, descriptorIndex := 30, attributes := #[] }, { accessFlags := 74, nameIndex := 154, descriptorIndex := 155, attributes := #[] }, { accessFlags := 10, nameIndex := 217, descriptorIndex := 218, attributes := #[] }, { accessFlags := 10, nameIndex := 221, descriptorIndex := 222, attributes := #[] }, { accessFlags := 8, nameIndex := 562, descriptorIndex := 563, attributes := #[] }])
  fields := #[{ name := "in", type := (.object "java/io/InputStream"), accessFlags := 25, slot := 0, constantValue := 0 }, { name := "out", type := (.object "java/io/PrintStream"), accessFlags := 25, slot := 1, constantValue := 0 }, { name := "err", type := (.object "java/io/PrintStream"), accessFlags := 25, slot := 2, constantValue := 0 }, { name := "initialIn", type := (.object "java/io/InputStream"), accessFlags := 10, slot := 3, constantValue := 0 }, { name := "NEVER", type := .int, accessFlags := 26, slot := 4, constantValue := 0 }, { name := "MAYBE", type := .int, accessFlags := 26, slot := 5, constantValue := 0 }, { name := "allowSecurityManager", type := .int, accessFlags := 10, slot := 6, constantValue := 0 }, { name := "security", type := (.object "java/lang/SecurityManager"), accessFlags := 74, slot := 7, constantValue := 0 }, { name := "notSupportedJnuEncoding", type := (.object "java/lang/String"), accessFlags := 10, slot := 8, constantValue := 0 }, { name := "cons", type := (.object "java/io/Console"), accessFlags := 74, slot := 9, constantValue := 0 }, { name := "initialErrStream", type := (.object "java/io/PrintStream"), accessFlags := 74, slot := 10, constantValue := 0 }, { name := "props", type := (.object "java/util/Properties"), accessFlags := 10, slot := 11, constantValue := 0 }, { name := "lineSeparator", type := (.object "java/lang/String"), accessFlags := 10, slot := 12, constantValue := 0 }, { name := "bootLayer", type := (.object "java/lang/ModuleLayer"), accessFlags := 8, slot := 13, constantValue := 0 }]
  methods := #[k5m0, k5m1]
  instanceTypes := #[]
  staticTypes := #[(.object "java/io/InputStream"), (.object "java/io/PrintStream"), (.object "java/io/PrintStream"), (.object "java/io/InputStream"), .int, .int, .int, (.object "java/lang/SecurityManager"), (.object "java/lang/String"), (.object "java/io/Console"), (.object "java/io/PrintStream"), (.object "java/util/Properties"), (.object "java/lang/String"), (.object "java/lang/ModuleLayer")]
  resolved := Array.replicate 834 none
  statics := none }

def pool6 : Array CpInfo := pool [(1, u "java/lang/Cloneable"), (0, .class_ 1), (0, u "java/lang/Object"), (0, .class_ 3)] 3

/-- java/lang/Cloneable -/
def k6 : Class := { plain "java/lang/Cloneable" (some 0) with
  accessFlags := 1537
  interfaces := #[]
  cf := some (fileOf pool6 2 #[] #[] 1537 4 #[] #[])
  fields := #[]
  methods := #[]
  instanceTypes := #[]
  staticTypes := #[]
  resolved := Array.replicate 8 none
  statics := none }

def pool7 : Array CpInfo := pool [(1, u "java/io/Serializable"), (0, .class_ 1), (0, u "java/lang/Object"), (0, .class_ 3)] 3

/-- java/io/Serializable -/
def k7 : Class := { plain "java/io/Serializable" (some 0) with
  accessFlags := 1537
  interfaces := #[]
  cf := some (fileOf pool7 2 #[] #[] 1537 4 #[] #[])
  fields := #[]
  methods := #[]
  instanceTypes := #[]
  staticTypes := #[]
  resolved := Array.replicate 8 none
  statics := none }

/-- the primitive byte -/
def k8 : Class := { plain "byte" none with kind := .primitive 'B', accessFlags := 0x411 }
/-- [B -/
def k9 : Class := { plain "[B" (some 0) with kind := .array 8 .byte, interfaces := #[6, 7], accessFlags := 1041 }

/-- the primitive int -/
def k10 : Class := { plain "int" none with kind := .primitive 'I', accessFlags := 0x411 }
/-- [I -/
def k11 : Class := { plain "[I" (some 0) with kind := .array 10 .int, interfaces := #[6, 7], accessFlags := 1041 }

def heap : Heap := #[]
def classes : Array Class := #[k0, k1, k2, k3, k4, k5, k6, k7, k8, k9, k10, k11]
def interned : List (Array UInt16 × Addr) := []
def slotsUsed : Nat := 0
def theMethod : MethodId := ⟨1, 1⟩
def args0 : Array Value := #[.int 3, .int 7, .int 1, .int 5, .int 7, .int 5]
def aboutOver (below : List Frame) : State where
  vm := { classes := classes, interned := interned.toArray }
  heap := heap
  slotsUsed := slotsUsed
  threads := #[{ frames := .invoking theMethod args0 :: below }]
def below0 : List Frame := [.native { method := ⟨0, 0⟩, args := #[] }]
def about1 : State := aboutOver below0
def p0 : Program := .bare "" "" ""
def e0 : Env := launch0.env 0 0 0
theorem w_frames : about1.frames = Frame.invoking theMethod args0 :: below0 := rfl
set_option maxRecDepth 65536 in
theorem w_args : argsFit about1.vm theMethod args0 = true := by decide +kernel
set_option maxRecDepth 65536 in
theorem w_heap : heapFits about1 = true := by decide +kernel
set_option maxRecDepth 65536 in
theorem w_runnable : about1.curStatus? = some .runnable := by decide +kernel
set_option maxRecDepth 65536 in
theorem w_alone : about1.alone = true := by decide +kernel
set_option maxRecDepth 65536 in
theorem w_named : about1.methodNamed? x = some theMethod := by decide +kernel
set_option maxRecDepth 65536 in
theorem w_hears : about1.hears theMethod below0 = true := by decide +kernel
set_option maxRecDepth 65536 in
theorem w_ripe : about1.ripe theMethod args0 below0 = true := by decide +kernel
theorem w_running : about1.status = .running := rfl
set_option maxRecDepth 65536 in
theorem w_room : about1.hasRoom e0.platform room_1 = true :=
  launch0.hasRoom_least _ room_1 (by decide +kernel) (by decide +kernel) (by decide +kernel) (by decide +kernel) (by decide +kernel) (by decide +kernel)
theorem allAtoms_all (ts : List Jvm.Cond) (a : Array Jvm.Value) (st : Jvm.State) : (allAtoms ts).before a st = ts.all (fun c => c.before a st) := by
  induction ts with
  | nil => rfl
  | cons c t ih =>
    show (Jvm.Cond.and c (allAtoms t)).before a st = _
    rw [Jvm.Cond.before_and, ih, List.all_cons]
def words1 : List Jvm.Cond := Jvm.Cond.code x code maxLocals ret :: tables_1
/-- a 'code' word, met by the world's own term for the bytes: nothing is compared byte by byte -/
theorem code_word {y : MethodName} {bytes : ByteArray} {mx : Nat} {rt : Option FieldType} {a : Array Value} {s : State} {m : MethodId} {meth : Method} {c : Code} (h1 : s.methodNamed? y = some m) (h2 : s.vm.method? m = some meth) (h3 : meth.code = some c) (h4 : c.code = bytes)
    (h5 : (c.maxLocals == mx && c.exceptionTable.isEmpty && decide (c.maxStack ≤ mostOperands) && decide (meth.sig.returnType = rt) && !meth.locks && decide (parseMethodDescriptor y.desc = some meth.sig)) = true) : (Jvm.Cond.code y bytes mx rt).before a s = true := by
  simp only [Bool.and_eq_true, beq_iff_eq, Bool.not_eq_true', decide_eq_true_eq] at h5
  obtain ⟨⟨⟨⟨⟨g1, g2⟩, g3⟩, g4⟩, g5⟩, g6⟩ := h5
  simp [Cond.before, Cond.holds, Cond.value, h1, h2, h3, h4, g1, g2, g3, g4, g5, g6]
def isCode : Jvm.Cond → Bool
  | .code _ _ _ _ => true
  | _ => false
theorem all_split {L : List Jvm.Cond} {P : Jvm.Cond → Bool} (h1 : L.all (fun c => isCode c || P c) = true) (h2 : ∀ c ∈ L.filter isCode, P c = true) : L.all P = true := by
  refine List.all_eq_true.mpr fun c hc => ?_
  have h := List.all_eq_true.mp h1 c hc
  rcases Bool.eq_false_or_eq_true (isCode c) with hi | hi
  · exact h2 c (List.mem_filter.mpr ⟨hc, hi⟩)
  · simpa [hi] using h
set_option maxRecDepth 65536 in
theorem w_c0 : (Jvm.Cond.code x code maxLocals ret).before args0 about1 = true := code_word (m := ⟨1, 1⟩) (meth := k1m1) (c := k1c1) (by decide +kernel) rfl rfl rfl (by decide +kernel)
set_option maxRecDepth 65536 in
theorem w_c1 : (Jvm.Cond.code ({ cls := "com/example/vetter/vetter/io/DerReader", name := "<init>", desc := "([B)V" } : Jvm.MethodName) prog_10_method_1_code (2 : Nat) (Option.none : Option Jvm.ClassFile.FieldType)).before args0 about1 = true := code_word (m := ⟨2, 0⟩) (meth := k2m0) (c := k2c0) (by decide +kernel) rfl rfl rfl (by decide +kernel)
set_option maxRecDepth 65536 in
theorem w_c2 : (Jvm.Cond.code ({ cls := "java/lang/Object", name := "<init>", desc := "()V" } : Jvm.MethodName) object_method_1_code (1 : Nat) (Option.none : Option Jvm.ClassFile.FieldType)).before args0 about1 = true := code_word (m := ⟨0, 0⟩) (meth := k0m0) (c := k0c0) (by decide +kernel) rfl rfl rfl (by decide +kernel)
set_option maxRecDepth 65536 in
theorem w_c3 : (Jvm.Cond.code ({ cls := "com/example/vetter/vetter/io/DerReader", name := "nextIs", desc := "(I)Z" } : Jvm.MethodName) prog_10_method_3_code (2 : Nat) (Option.some Jvm.ClassFile.FieldType.boolean)).before args0 about1 = true := code_word (m := ⟨2, 1⟩) (meth := k2m1) (c := k2c1) (by decide +kernel) rfl rfl rfl (by decide +kernel)
set_option maxRecDepth 65536 in
theorem w_c4 : (Jvm.Cond.code ({ cls := "com/example/vetter/vetter/io/DerReader", name := "read", desc := "(I)[B" } : Jvm.MethodName) prog_10_method_4_code (4 : Nat) (Option.some (Jvm.ClassFile.FieldType.array Jvm.ClassFile.FieldType.byte))).before args0 about1 = true := code_word (m := ⟨2, 2⟩) (meth := k2m2) (c := k2c2) (by decide +kernel) rfl rfl rfl (by decide +kernel)
set_option maxRecDepth 65536 in
theorem w_c5 : (Jvm.Cond.code ({ cls := "com/example/vetter/vetter/io/DerReader", name := "readLength", desc := "()I" } : Jvm.MethodName) prog_10_method_11_code (5 : Nat) (Option.some Jvm.ClassFile.FieldType.int)).before args0 about1 = true := code_word (m := ⟨2, 3⟩) (meth := k2m3) (c := k2c3) (by decide +kernel) rfl rfl rfl (by decide +kernel)
set_option maxRecDepth 65536 in
theorem w_c6 : (Jvm.Cond.code ({ cls := "java/util/Arrays", name := "copyOfRange", desc := "([BII)[B" } : Jvm.MethodName) jdk_65_method_132_code (3 : Nat) (Option.some (Jvm.ClassFile.FieldType.array Jvm.ClassFile.FieldType.byte))).before args0 about1 = true := code_word (m := ⟨3, 2⟩) (meth := k3m2) (c := k3c2) (by decide +kernel) rfl rfl rfl (by decide +kernel)
set_option maxRecDepth 65536 in
theorem w_c7 : (Jvm.Cond.code ({ cls := "java/util/Arrays", name := "copyOfRangeByte", desc := "([BII)[B" } : Jvm.MethodName) jdk_65_method_133_code (5 : Nat) (Option.some (Jvm.ClassFile.FieldType.array Jvm.ClassFile.FieldType.byte))).before args0 about1 = true := code_word (m := ⟨3, 3⟩) (meth := k3m3) (c := k3c3) (by decide +kernel) rfl rfl rfl (by decide +kernel)
set_option maxRecDepth 65536 in
theorem w_c8 : (Jvm.Cond.code ({ cls := "java/util/Arrays", name := "checkLength", desc := "(II)V" } : Jvm.MethodName) jdk_65_method_131_code (2 : Nat) (Option.none : Option Jvm.ClassFile.FieldType)).before args0 about1 = true := code_word (m := ⟨3, 1⟩) (meth := k3m1) (c := k3c1) (by decide +kernel) rfl rfl rfl (by decide +kernel)
set_option maxRecDepth 65536 in
theorem w_c9 : (Jvm.Cond.code ({ cls := "java/lang/Math", name := "min", desc := "(II)I" } : Jvm.MethodName) jdk_29_method_69_code (2 : Nat) (Option.some Jvm.ClassFile.FieldType.int)).before args0 about1 = true := code_word (m := ⟨4, 1⟩) (meth := k4m1) (c := k4c1) (by decide +kernel) rfl rfl rfl (by decide +kernel)
def codes1 : List Jvm.Cond := [Jvm.Cond.code x code maxLocals ret, Jvm.Cond.code ({ cls := "com/example/vetter/vetter/io/DerReader", name := "<init>", desc := "([B)V" } : Jvm.MethodName) prog_10_method_1_code (2 : Nat) (Option.none : Option Jvm.ClassFile.FieldType), Jvm.Cond.code ({ cls := "java/lang/Object", name := "<init>", desc := "()V" } : Jvm.MethodName) object_method_1_code (1 : Nat) (Option.none : Option Jvm.ClassFile.FieldType), Jvm.Cond.code ({ cls := "com/example/vetter/vetter/io/DerReader", name := "nextIs", desc := "(I)Z" } : Jvm.MethodName) prog_10_method_3_code (2 : Nat) (Option.some Jvm.ClassFile.FieldType.boolean), Jvm.Cond.code ({ cls := "com/example/vetter/vetter/io/DerReader", name := "read", desc := "(I)[B" } : Jvm.MethodName) prog_10_method_4_code (4 : Nat) (Option.some (Jvm.ClassFile.FieldType.array Jvm.ClassFile.FieldType.byte)), Jvm.Cond.code ({ cls := "com/example/vetter/vetter/io/DerReader", name := "readLength", desc := "()I" } : Jvm.MethodName) prog_10_method_11_code (5 : Nat) (Option.some Jvm.ClassFile.FieldType.int), Jvm.Cond.code ({ cls := "java/util/Arrays", name := "copyOfRange", desc := "([BII)[B" } : Jvm.MethodName) jdk_65_method_132_code (3 : Nat) (Option.some (Jvm.ClassFile.FieldType.array Jvm.ClassFile.FieldType.byte)), Jvm.Cond.code ({ cls := "java/util/Arrays", name := "copyOfRangeByte", desc := "([BII)[B" } : Jvm.MethodName) jdk_65_method_133_code (5 : Nat) (Option.some (Jvm.ClassFile.FieldType.array Jvm.ClassFile.FieldType.byte)), Jvm.Cond.code ({ cls := "java/util/Arrays", name := "checkLength", desc := "(II)V" } : Jvm.MethodName) jdk_65_method_131_code (2 : Nat) (Option.none : Option Jvm.ClassFile.FieldType), Jvm.Cond.code ({ cls := "java/lang/Math", name := "min", desc := "(II)I" } : Jvm.MethodName) jdk_29_method_69_code (2 : Nat) (Option.some Jvm.ClassFile.FieldType.int)]
set_option maxRecDepth 65536 in
theorem codes_eq : words1.filter isCode = codes1 := rfl
theorem w_codes : ∀ c ∈ words1.filter isCode, c.before args0 about1 = true := by
  rw [codes_eq]
  intro c hc
  simp only [codes1, List.mem_cons, List.not_mem_nil, or_false] at hc
  rcases hc with rfl | rfl | rfl | rfl | rfl | rfl | rfl | rfl | rfl | rfl
  · exact w_c0
  · exact w_c1
  · exact w_c2
  · exact w_c3
  · exact w_c4
  · exact w_c5
  · exact w_c6
  · exact w_c7
  · exact w_c8
  · exact w_c9
set_option maxRecDepth 65536 in
theorem w_t1 : (words1.take 24).all (fun c => isCode c || c.before args0 about1) = true := by decide +kernel
set_option maxRecDepth 65536 in
theorem w_t2 : (words1.drop 24).all (fun c => isCode c || c.before args0 about1) = true := by decide +kernel
theorem w_tables : (allAtoms (Jvm.Cond.code x code maxLocals ret :: tables_1)).before args0 about1 = true := by
  rw [allAtoms_all]
  show words1.all (fun c => c.before args0 about1) = true
  refine all_split ?_ w_codes
  rw [← List.take_append_drop 24 words1, List.all_append, w_t1, w_t2]
  rfl
set_option maxRecDepth 65536 in
theorem w_case : (Jvm.Cond.and given_1 narrow_1).before args0 about1 = true := by decide +kernel
theorem w_applies : (headSpec (Jvm.Cond.code x code maxLocals ret :: tables_1) room_1).applies x e0.platform about1 = true :=
  (Spec.applies_iff w_frames).mpr ⟨w_running, w_runnable, w_alone, w_named, w_hears, w_ripe, w_room, w_tables⟩
theorem atStart : AtStart classFile x code maxLocals ret World_1 tables_1 room_1 Calls_1 rest_1 Pre_1 launch0 p0 e0 about1 theMethod args0 below0 :=
  ⟨lists_1, trivial, launch0.admits_env _ _ _, launch0.least_env, fairChoices_fair.cas, fairChoices_fair.clock, w_frames, w_args, w_heap, w_applies, trivial, trivial, w_case⟩
end start1
theorem witness_1 : WitnessClaimed_1 := ⟨start1.p0, start1.e0, start1.about1, start1.theMethod, start1.args0, start1.below0, start1.atStart⟩
end Jvm.Pilot.@@N@@
