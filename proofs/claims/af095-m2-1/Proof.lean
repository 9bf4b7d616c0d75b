import JvmDerived
import JvmDerived.Pilot.@@N@@Statement
import JvmDerived.Pilot.@@N@@Code
set_option linter.unusedVariables false
set_option linter.unusedSimpArgs false
@@BLOCK:NumsL.lean.txt@@
namespace Jvm.Pilot.@@N@@
open Jvm Jvm.ClassFile Sem Op Lib Jvm.Free Jvm.Stand Jvm.LawKit Jvm.RoadKit Bundle Jvm.Pilot.@@N@@.Jvm.D

/-! OWN KIT: the walk in continuation form; arrays by their cell as functions of the place -/
section OwnKit
variable {p : Program} {l : Launch} {e : Env} {R : Room} {s : State} {m : MethodId} {args : Array Value} {below : List Frame} {meth : Method} {c : Code} {T : State} {locs : List Loc} {cells slots : Nat} {Z : State} {a0 : Array Value} {h h' h0 : Heap} {a b : Addr} {v : Value} {sl : Nat} {ty : FieldType} {n k : Nat} {f f' : Nat → Value} {n0 : Nat} {ws : List Addr}
/-- from this state with this top frame the run ends as F says -/
def Go (tb : Tables) (e : Env) (below : List Frame) (F : Outcome → State → Prop) (T : State) (g : JFrame) : Prop :=
  ∃ s₂ o, Steps tb e below (T.setTop g) s₂ ∧ s₂.status = .running ∧ Ended s₂ below o ∧ F o s₂
theorem Go.st {tb : Tables} {F : Outcome → State → Prop} {T T' : State} {g g' : JFrame} (st : ∀ t, Steps tb e below (T'.setTop g') t → Steps tb e below (T.setTop g) t) (k : Go tb e below F T' g') : Go tb e below F T g := by
  obtain ⟨s₂, o, h1, h2⟩ := k
  exact ⟨s₂, o, st _ h1, h2⟩
theorem Go.frame {tb : Tables} {F : Outcome → State → Prop} {T : State} {g g' : JFrame} (q : g = g') (k : Go tb e below F T g') : Go tb e below F T g := q ▸ k
theorem own_join {α : Type} {tb : Tables} {F : Outcome → State → Prop} {T T2 : State} {g : α → JFrame} {g2 : JFrame} (J : ∀ z, Go tb e below F T (g z)) (k : (∀ z, Go tb e below F T (g z)) → Go tb e below F T2 g2) : Go tb e below F T2 g2 := k J
/-- what a body's end must say -/
def Fi (s : State) (Q : Option Value → Heap → List Loc → Prop) (k n : Nat) (o : Outcome) (U : State) : Prop :=
  ∃ v L, o = .returned v ∧ Q v U.heap L ∧ FrameEnd s o U L k n
/-- a body's contract: called with these values at this heap it returns and Q holds -/
def Does (l : Launch) (Z : State) (y : MethodName) (bytes : ByteArray) (mx : Nat) (ret : Option FieldType) (rm : Room) (as' : Array Value) (h : Heap) (Q : Option Value → Heap → List Loc → Prop) : Prop :=
  ∀ ws, MetFree l y (head1 (Jvm.Cond.code y bytes mx ret :: ws) rm) (fun a U => a = as' ∧ Z.Warmed39 U.vm ∧ U.heap = h) (fun _ _ _ _ _ => True) (fun _ U o U' => Fi U Q rm.cells rm.slots o U')
theorem Does.body {y : MethodName} {bytes : ByteArray} {mx : Nat} {ret : Option FieldType} {rm : Room} {as' : Array Value} {h : Heap} {Q : Option Value → Heap → List Loc → Prop} (hy : plainFor y = true)
    (B : ∀ (p : Program) (e : Env) (s : State) (m : MethodId) (below : List Frame) (meth : Method) (c : Code) (T : State), Stand p l e rm s m as' below meth c T [] 0 0 → p.tables.exec = Jvm.exec → Z.Warmed39 s.vm → c.code = bytes → c.maxLocals = mx → s.vm.findClass y.cls = some m.cls → meth.name = y.name → meth.sig.returnType = ret → meth.locks = false → T.heap = h → Go p.tables e below (Fi s Q rm.cells rm.slots) T (entryFrame m as' mx)) : Does l Z y bytes mx ret rm as' h Q := fun ws => by
  refine MetFree.of_bodySF hy hisR ?_
  intro p e s m args below meth c s₁ Bd hml0 hP hK
  obtain ⟨ha, hZ, hh⟩ := hP
  subst ha
  exact B p e s m below meth c s₁ (Stand.of_body Bd) Bd.exec hZ Bd.bytes hml0 (findClass_of_methodNamed Bd.named) (name_of_methodNamed Bd.named Bd.method).1 Bd.returns Bd.notSynchronized (by rw [← hh, Bd.state]; rfl)
/-! the returns -/
theorem goI (X : Stand p l e R s m args below meth c T locs cells slots) (hx : p.tables.exec = Jvm.exec) (hret : meth.sig.returnType = some .int) (hlk : meth.locks = false) {pc : Nat} {Ls : Array Slot} {z : Int32} {rest : List Value} (hd : decode c.code pc = .ok (.ireturn, 1)) {Q : Option Value → Heap → List Loc → Prop} {k n : Nat} (hk : cells ≤ k) (hn : slots ≤ n) (q : Q (some (.int z)) T.heap locs) :
    Go p.tables e below (Fi s Q k n) T (mkF m pc Ls (.int z :: rest)) := by
  obtain ⟨fs, hr, hrun, hended, hW, hsame⟩ := X.leave (v := some (.int z)) (fun h => by rw [hret] at h; cases h) hlk
  exact ⟨_, _, retOut X hx hret rfl (Or.inl ⟨rfl, Or.inl rfl, z, rfl⟩) hd hr, hrun, hended, _, _, rfl, q, ⟨_, rfl⟩, hW, hsame.mono hk hn⟩
theorem goN (X : Stand p l e R s m args below meth c T locs cells slots) (hx : p.tables.exec = Jvm.exec) {t : FieldType} (hret : meth.sig.returnType = some t) (hlk : meth.locks = false) (ht : t = .boolean ∨ t = .byte ∨ t = .char ∨ t = .short) {pc : Nat} {Ls : Array Slot} {z : Int32} {rest : List Value} (hd : decode c.code pc = .ok (.ireturn, 1)) {Q : Option Value → Heap → List Loc → Prop} {k n : Nat} (hk : cells ≤ k) (hn : slots ≤ n) (q : Q (some (.int (nar t z))) T.heap locs) :
    Go p.tables e below (Fi s Q k n) T (mkF m pc Ls (.int z :: rest)) := by
  obtain ⟨fs, hr, hrun, hended, hW, hsame⟩ := X.leave (v := some (.int (nar t z))) (fun h => by rw [hret] at h; cases h) hlk
  exact ⟨_, _, retN X hx hret ht hd hr, hrun, hended, _, _, rfl, q, ⟨_, rfl⟩, hW, hsame.mono hk hn⟩
theorem goJ (X : Stand p l e R s m args below meth c T locs cells slots) (hx : p.tables.exec = Jvm.exec) (hret : meth.sig.returnType = some .long) (hlk : meth.locks = false) {pc : Nat} {Ls : Array Slot} {z : Int64} {rest : List Value} (hd : decode c.code pc = .ok (.lreturn, 1)) {Q : Option Value → Heap → List Loc → Prop} {k n : Nat} (hk : cells ≤ k) (hn : slots ≤ n) (q : Q (some (.long z)) T.heap locs) :
    Go p.tables e below (Fi s Q k n) T (mkF m pc Ls (.long z :: rest)) := by
  obtain ⟨fs, hr, hrun, hended, hW, hsame⟩ := X.leave (v := some (.long z)) (fun h => by rw [hret] at h; cases h) hlk
  exact ⟨_, _, retOut X hx hret rfl (Or.inr (Or.inl ⟨rfl, rfl, z, rfl⟩)) hd hr, hrun, hended, _, _, rfl, q, ⟨_, rfl⟩, hW, hsame.mono hk hn⟩
theorem goA (X : Stand p l e R s m args below meth c T locs cells slots) (hx : p.tables.exec = Jvm.exec) {t : FieldType} (hret : meth.sig.returnType = some t) (hlk : meth.locks = false) (ht : t.isReference = true) (hnr : ∀ z : Addr, narrow t (.ref z) = .ref z) {pc : Nat} {Ls : Array Slot} {z : Addr} {rest : List Value} (hd : decode c.code pc = .ok (.areturn, 1)) {Q : Option Value → Heap → List Loc → Prop} {k n : Nat} (hk : cells ≤ k) (hn : slots ≤ n) (q : Q (some (.ref z)) T.heap locs) :
    Go p.tables e below (Fi s Q k n) T (mkF m pc Ls (.ref z :: rest)) := by
  obtain ⟨fs, hr, hrun, hended, hW, hsame⟩ := X.leave (v := some (.ref z)) (fun h => by rw [hret] at h; cases h) hlk
  exact ⟨_, _, retOut X hx hret (hnr z) (Or.inr (Or.inr (Or.inr (Or.inr ⟨rfl, ht, rfl⟩)))) hd hr, hrun, hended, _, _, rfl, q, ⟨_, rfl⟩, hW, hsame.mono hk hn⟩
theorem goV (X : Stand p l e R s m args below meth c T locs cells slots) (hx : p.tables.exec = Jvm.exec) (hret : meth.sig.returnType = none) (hlk : meth.locks = false) {pc : Nat} {Ls : Array Slot} (hd : decode c.code pc = .ok (.return_, 1)) {Q : Option Value → Heap → List Loc → Prop} {k n : Nat} (hk : cells ≤ k) (hn : slots ≤ n) (q : Q none T.heap locs) :
    Go p.tables e below (Fi s Q k n) T (mkF m pc Ls []) := by
  obtain ⟨fs, hr, hrun, hended, hW, hsame⟩ := X.leave (v := none) (fun _ => rfl) hlk
  exact ⟨_, _, X.returnOut hx hret hd hr, hrun, hended, _, _, rfl, q, ⟨_, rfl⟩, hW, hsame.mono hk hn⟩
/-! the calls -/
theorem own_one {k : Nat} {L : List Loc} (N : Fr k L) (q : k ≤ a) : Fr k (L ++ [⟨a, sl⟩]) := N.app fun y hy => by cases List.mem_singleton.mp hy; exact q
theorem goS (X : Stand p l e R s m args below meth c T locs cells slots) (hx : p.tables.exec = Jvm.exec) (hZ : Z.Warmed39 s.vm) {own : String} {index : Nat} {y : MethodName} {bytes : ByteArray} {mx : Nat} {ret : Option FieldType} (hown : s.vm.findClass own = some m.cls)
    (w1 : (Jvm.Cond.methodLink own index y).before a0 Z = true) (w2 : (Jvm.Cond.static y).before a0 Z = true) (w3 : (Jvm.Cond.initialized y.cls).before a0 Z = true) (w4 : (Jvm.Cond.code y bytes mx ret).before a0 Z = true) (hy : y.cls ≠ "java/lang/invoke/MethodHandle" ∧ y.cls ≠ "java/lang/invoke/VarHandle")
    {rm : Room} {as' : Array Value} {Q : Option Value → Heap → List Loc → Prop} (D : Does l Z y bytes mx ret rm as' h Q) (eT : T.heap = h) (N : Fr n0 locs) (W : Nat) (hf : rm.frames + 1 ≤ R.frames) (hl : W + (mx + 11) + rm.locals ≤ R.locals) (hc : cells + rm.cells ≤ R.cells) (hs : slots + rm.slots ≤ R.slots)
    {g : JFrame} (hg : g.method = m) (hsize : g.locals.size = c.maxLocals) (argsL rest : List Value) (hlen : ∀ sig, parseMethodDescriptor y.desc = some sig → argsL.length = sig.parameters.length) (has : argsL.toArray = as')
    (hstack : g.stack = argsL.reverse ++ rest) (hW : 2 * g.monitorRoom + (rest.map fun v => v.category).sum ≤ W) (hd : decode c.code g.pc = .ok (.invokestatic index, 3)) {F : Outcome → State → Prop}
    (kk : ∀ (T' : State) (v : Option Value) (L L' : List Loc), Stand p l e R s m args below meth c T' L' (cells + rm.cells) (slots + rm.slots) → (Fr n0 L → Fr n0 L') → Q v T'.heap L → Go p.tables e below F T' { g with pc := g.pc + 3, stack := v.toList ++ rest }) : Go p.tables e below F T g := by
  obtain ⟨v, _, ⟨T', L', k', n'⟩, -, X', ⟨L, hq, e1, e2, e3⟩, st⟩ := Jvm.LawKit.callS X hx hown (mvT hZ w1) (mvT hZ w2) (mvT hZ w3) (mvT hZ w4) hy (backOf (W := W) (Q := Q) (D []) hZ w4 w3 hf hl) hg hsize hlen hstack hW hd (fun _ _ => ⟨has, eT, hc, hs⟩)
  dsimp only [Pt.U, Pt.locs, Pt.cells, Pt.slots] at X' e1 e2 e3 st hq
  subst e1 e2 e3
  exact Go.st st (kk T' v L _ X' (fun q => N.app q) hq)
theorem goM (X : Stand p l e R s m args below meth c T locs cells slots) (hx : p.tables.exec = Jvm.exec) (hZ : Z.Warmed39 s.vm) {own C : String} {index : Nat} {y z : MethodName} {bytes : ByteArray} {mx : Nat} {ret : Option FieldType} (hown : s.vm.findClass own = some m.cls)
    (w1 : (Jvm.Cond.methodLink own index y).before a0 Z = true) (w2 : (Jvm.Cond.declares y).before a0 Z = true) (w3 : (Jvm.Cond.selects C y z).before a0 Z = true) (w4 : (Jvm.Cond.instanceMethod z).before a0 Z = true) (w5 : (Jvm.Cond.code z bytes mx ret).before a0 Z = true) (w6 : (Jvm.Cond.initialized z.cls).before a0 Z = true) (hnf : NotFace s y) (hy : y.cls ≠ "java/lang/invoke/MethodHandle" ∧ y.cls ≠ "java/lang/invoke/VarHandle")
    {rm : Room} {as' : Array Value} {Q : Option Value → Heap → List Loc → Prop} (D : Does l Z z bytes mx ret rm as' h Q) (eT : T.heap = h) (N : Fr n0 locs) (E : Exa Z h b C) (W : Nat) (hf : rm.frames + 1 ≤ R.frames) (hl : W + (mx + 11) + rm.locals ≤ R.locals) (hc : cells + rm.cells ≤ R.cells) (hs : slots + rm.slots ≤ R.slots)
    {g : JFrame} (hg : g.method = m) (hsize : g.locals.size = c.maxLocals) (argsL rest : List Value) (hlen : ∀ sig, parseMethodDescriptor y.desc = some sig → argsL.length = sig.parameters.length) (has : (.ref b :: argsL).toArray = as')
    (hstack : g.stack = argsL.reverse ++ .ref b :: rest) (hW : 2 * g.monitorRoom + (rest.map fun v => v.category).sum ≤ W) (hd : decode c.code g.pc = .ok (.invokevirtual index, 3)) {F : Outcome → State → Prop}
    (kk : ∀ (T' : State) (v : Option Value) (L L' : List Loc), Stand p l e R s m args below meth c T' L' (cells + rm.cells) (slots + rm.slots) → (Fr n0 L → Fr n0 L') → Q v T'.heap L → Go p.tables e below F T' { g with pc := g.pc + 3, stack := v.toList ++ rest }) : Go p.tables e below F T g := by
  obtain ⟨cq, kq, qa, qb, qc⟩ := isOf hZ eT E
  obtain ⟨v, _, ⟨T', L', k', n'⟩, -, X', ⟨L, hq, e1, e2, e3⟩, st⟩ := X.virtualBack hx hown (mvT hZ w1) (mvT hZ w2) hnf (mvT hZ w3) (mvT hZ w4) hy (backOf (W := W) (Q := Q) (D []) hZ w5 w6 hf hl) qa qc hg hsize (Steps.refl _) hlen hstack hW hd (fun _ _ => ⟨has, eT, hc, hs⟩)
  dsimp only [Pt.U, Pt.locs, Pt.cells, Pt.slots] at X' e1 e2 e3 st hq
  subst e1 e2 e3
  exact Go.st (fun t k => st.trans k) (kk T' v L _ X' (fun q => N.app q) hq)
theorem goC (X : Stand p l e R s m args below meth c T locs cells slots) (hx : p.tables.exec = Jvm.exec) (hZ : Z.Warmed39 s.vm) {own : String} {index : Nat} {y : MethodName} {bytes : ByteArray} {mx : Nat} (hy1 : y.name = "<init>") (hown : s.vm.findClass own = some m.cls)
    (w1 : (Jvm.Cond.methodLink own index y).before a0 Z = true) (w2 : (Jvm.Cond.instanceMethod y).before a0 Z = true) (w3 : (Jvm.Cond.initialized y.cls).before a0 Z = true) (w4 : (Jvm.Cond.code y bytes mx none).before a0 Z = true) (hy : y.cls ≠ "java/lang/invoke/MethodHandle" ∧ y.cls ≠ "java/lang/invoke/VarHandle")
    {rm : Room} {as' : Array Value} {Q : Option Value → Heap → List Loc → Prop} (D : Does l Z y bytes mx none rm as' h Q) (eT : T.heap = h) (N : Fr n0 locs) (W : Nat) (hf : rm.frames + 1 ≤ R.frames) (hl : W + (mx + 11) + rm.locals ≤ R.locals) (hc : cells + rm.cells ≤ R.cells) (hs : slots + rm.slots ≤ R.slots)
    {g : JFrame} (hg : g.method = m) (hsize : g.locals.size = c.maxLocals) (argsL rest : List Value) (hlen : ∀ sig, parseMethodDescriptor y.desc = some sig → argsL.length = sig.parameters.length) (has : (.ref b :: argsL).toArray = as')
    (hstack : g.stack = argsL.reverse ++ .ref b :: rest) (hW : 2 * g.monitorRoom + (rest.map fun v => v.category).sum ≤ W) (hd : decode c.code g.pc = .ok (.invokespecial index, 3)) {F : Outcome → State → Prop}
    (kk : ∀ (T' : State) (v : Option Value) (L L' : List Loc), Stand p l e R s m args below meth c T' L' (cells + rm.cells) (slots + rm.slots) → (Fr n0 L → Fr n0 L') → Q v T'.heap L → Go p.tables e below F T' { g with pc := g.pc + 3, stack := v.toList ++ rest }) : Go p.tables e below F T g := by
  obtain ⟨v, _, ⟨T', L', k', n'⟩, -, X', ⟨L, hq, e1, e2, e3⟩, st⟩ := X.specialBack hx hy1 hown (mvT hZ w1) (mvT hZ w2) (mvT hZ w4) hy (backOf (W := W) (Q := Q) (D []) hZ w4 w3 hf hl) hg hsize (Steps.refl _) hlen hstack hW hd (fun _ _ => ⟨has, eT, hc, hs⟩)
  dsimp only [Pt.U, Pt.locs, Pt.cells, Pt.slots] at X' e1 e2 e3 st hq
  subst e1 e2 e3
  exact Go.st (fun t k => st.trans k) (kk T' v L _ X' (fun q => N.app q) hq)
/-! arrays -/
/-- the array at a has n places, place i holds f i -/
def BA (Z : State) (h : Heap) (a : Addr) (ty : FieldType) (n : Nat) (f : Nat → Value) : Prop := ∃ c : Cell, Arr Z h a c ty ∧ c.slots.size = n ∧ ∀ i, i < n → c.slots[i]? = some (f i)
theorem BA.lt (V : BA Z h a ty n f) : a < h.size := by obtain ⟨c, A, -⟩ := V; exact A.lt
theorem BA.ext (V : BA Z h a ty n f) (E : Ext h h') : BA Z h' a ty n f := by obtain ⟨c, A, r⟩ := V; exact ⟨c, A.ext E, r⟩
theorem BA.other (V : BA Z h b ty n f) (W : Wr h h' a sl v) (q : b ≠ a) : BA Z h' b ty n f := by obtain ⟨c, A, r⟩ := V; exact ⟨c, A.other W q, r⟩
theorem BA.keep (V : BA Z h a ty n f) (K : Keep h h' ws) (q : a ∉ ws) : BA Z h' a ty n f := by obtain ⟨c, A, r⟩ := V; exact ⟨c, ⟨K.2.1 a c A.1 q, A.2⟩, r⟩
theorem BA.set (V : BA Z h a ty n f) (W : Wr h h' a k v) : BA Z h' a ty n (fun i => if i = k then v else f i) := by
  obtain ⟨c, A, S, H⟩ := V
  refine ⟨_, A.same W, by rw [sz_set]; exact S, fun i hi => ?_⟩
  show _ = some (if i = k then v else f i)
  by_cases q : i = k
  · subst q; rw [if_pos rfl]; simp [Cell.setSlot, S, hi]
  · rw [if_neg q]; simp only [Cell.setSlot]; rw [Array.getElem?_setIfInBounds_ne (fun z => q z.symm)]; exact H i hi
theorem BA.to (V : BA Z h a ty n f) (q : ∀ i, i < n → f i = f' i) : BA Z h a ty n f' := by
  obtain ⟨c, A, S, H⟩ := V
  exact ⟨c, A, S, fun i hi => by rw [H i hi, q i hi]⟩
theorem BA.new {kc : ClassId} {z : Int32} (A : Arr Z h a (newA kc ty z) ty) (hz : z.toNatClampNeg = n) : BA Z h a ty n (fun _ => defaultValue ty) := ⟨_, A, by rw [sz_new]; exact hz, fun i hi => by
  have : i < z.toNatClampNeg := by rw [hz]; exact hi
  simp [newA, this]⟩
/-- the int j is the place k of n -/
def Ix (j : Int32) (k n : Nat) : Prop := ¬ j < 0 ∧ j.toNatClampNeg = k ∧ k < n
theorem Ix.hin {j : Int32} {c : Cell} (I : Ix j k n) (S : c.slots.size = n) : ¬ (j < 0 ∨ c.slots.size ≤ j.toNatClampNeg) := by
  obtain ⟨h1, h2, h3⟩ := I
  rw [S, h2]; intro q; rcases q with q | q
  · exact h1 q
  · omega
theorem goStB (X : Stand p l e R s m args below meth c T locs cells slots) (hx : p.tables.exec = Jvm.exec) (hZ : Z.Warmed39 s.vm) (eT : T.heap = h) (N : Fr n0 locs) (V : BA Z h a .byte n f) (ga : n0 ≤ a) {j x : Int32} {g : JFrame} (hg : g.method = m) {rest : List Value} (hs : g.stack = .int x :: .int j :: .ref a :: rest) (hd : decode c.code g.pc = .ok (.bastore, 1)) (I : Ix j k n) {F : Outcome → State → Prop}
    (kk : ∀ (T' : State) (h' : Heap) (L : List Loc), Stand p l e R s m args below meth c T' L cells slots → T'.heap = h' → Fr n0 L → Wr h h' a k (.int x.toInt8.toInt32) → BA Z h' a .byte n (fun i => if i = k then .int x.toInt8.toInt32 else f i) → Go p.tables e below F T' { g with pc := g.pc + 1, stack := rest }) : Go p.tables e below F T g := by
  have V0 := V
  obtain ⟨cl, A, S, H⟩ := V
  obtain ⟨T', h', X', e', W, st⟩ := stB X hx hZ eT A (I.hin S) hg hs hd
  obtain ⟨h1, h2, h3⟩ := I
  subst h2
  exact Go.st st (kk T' h' _ X' e' (own_one N ga) W (V0.set W))
theorem goStI (X : Stand p l e R s m args below meth c T locs cells slots) (hx : p.tables.exec = Jvm.exec) (hZ : Z.Warmed39 s.vm) (eT : T.heap = h) (N : Fr n0 locs) (V : BA Z h a .int n f) (ga : n0 ≤ a) {j x : Int32} {g : JFrame} (hg : g.method = m) {rest : List Value} (hs : g.stack = .int x :: .int j :: .ref a :: rest) (hd : decode c.code g.pc = .ok (.iastore, 1)) (I : Ix j k n) {F : Outcome → State → Prop}
    (kk : ∀ (T' : State) (h' : Heap) (L : List Loc), Stand p l e R s m args below meth c T' L cells slots → T'.heap = h' → Fr n0 L → Wr h h' a k (.int x) → BA Z h' a .int n (fun i => if i = k then .int x else f i) → Go p.tables e below F T' { g with pc := g.pc + 1, stack := rest }) : Go p.tables e below F T g := by
  have V0 := V
  obtain ⟨cl, A, S, H⟩ := V
  obtain ⟨T', h', X', e', W, st⟩ := stI X hx hZ eT A (I.hin S) hg hs hd
  obtain ⟨h1, h2, h3⟩ := I
  subst h2
  exact Go.st st (kk T' h' _ X' e' (own_one N ga) W (V0.set W))
theorem goStJ (X : Stand p l e R s m args below meth c T locs cells slots) (hx : p.tables.exec = Jvm.exec) (hZ : Z.Warmed39 s.vm) (eT : T.heap = h) (N : Fr n0 locs) (V : BA Z h a .long n f) (ga : n0 ≤ a) {j : Int32} {x : Int64} {g : JFrame} (hg : g.method = m) {rest : List Value} (hs : g.stack = .long x :: .int j :: .ref a :: rest) (hd : decode c.code g.pc = .ok (.lastore, 1)) (I : Ix j k n) {F : Outcome → State → Prop}
    (kk : ∀ (T' : State) (h' : Heap) (L : List Loc), Stand p l e R s m args below meth c T' L cells slots → T'.heap = h' → Fr n0 L → Wr h h' a k (.long x) → BA Z h' a .long n (fun i => if i = k then .long x else f i) → Go p.tables e below F T' { g with pc := g.pc + 1, stack := rest }) : Go p.tables e below F T g := by
  have V0 := V
  obtain ⟨cl, A, S, H⟩ := V
  obtain ⟨T', h', X', e', W, st⟩ := stJ X hx hZ eT A (I.hin S) hg hs hd
  obtain ⟨h1, h2, h3⟩ := I
  subst h2
  exact Go.st st (kk T' h' _ X' e' (own_one N ga) W (V0.set W))
theorem goLdB (X : Stand p l e R s m args below meth c T locs cells slots) (hx : p.tables.exec = Jvm.exec) (hZ : Z.Warmed39 s.vm) (eT : T.heap = h) (V : BA Z h a .byte n f) {j : Int32} {v : Value} {g : JFrame} (hg : g.method = m) {rest : List Value} (hs : g.stack = .int j :: .ref a :: rest) (hd : decode c.code g.pc = .ok (.baload, 1)) (I : Ix j k n) (hv : f k = v) {F : Outcome → State → Prop}
    (kk : Go p.tables e below F T { g with pc := g.pc + 1, stack := v :: rest }) : Go p.tables e below F T g := by
  obtain ⟨cl, A, S, H⟩ := V
  exact Go.st (fun t q => X.baloadBytes hx (by rw [eT]; exact A.1) (State.isArrayOf_alike hZ.alike A.2.1) A.2.2 (I.hin S) (by rw [I.2.1, H k I.2.2, hv]) hg hs hd t q) kk
theorem goLdI (X : Stand p l e R s m args below meth c T locs cells slots) (hx : p.tables.exec = Jvm.exec) (hZ : Z.Warmed39 s.vm) (eT : T.heap = h) (V : BA Z h a .int n f) {j : Int32} {v : Value} {g : JFrame} (hg : g.method = m) {rest : List Value} (hs : g.stack = .int j :: .ref a :: rest) (hd : decode c.code g.pc = .ok (.iaload, 1)) (I : Ix j k n) (hv : f k = v) {F : Outcome → State → Prop}
    (kk : Go p.tables e below F T { g with pc := g.pc + 1, stack := v :: rest }) : Go p.tables e below F T g := by
  obtain ⟨cl, A, S, H⟩ := V
  exact Go.st (fun t q => X.iaload hx (by rw [eT]; exact A.1) (State.isArrayOf_alike hZ.alike A.2.1) A.2.2 (I.hin S) (by rw [I.2.1, H k I.2.2, hv]) hg hs hd t q) kk
theorem goLdJ (X : Stand p l e R s m args below meth c T locs cells slots) (hx : p.tables.exec = Jvm.exec) (hZ : Z.Warmed39 s.vm) (eT : T.heap = h) (V : BA Z h a .long n f) {j : Int32} {v : Value} {g : JFrame} (hg : g.method = m) {rest : List Value} (hs : g.stack = .int j :: .ref a :: rest) (hd : decode c.code g.pc = .ok (.laload, 1)) (I : Ix j k n) (hv : f k = v) {F : Outcome → State → Prop}
    (kk : Go p.tables e below F T { g with pc := g.pc + 1, stack := v :: rest }) : Go p.tables e below F T g := by
  obtain ⟨cl, A, S, H⟩ := V
  exact Go.st (fun t q => X.laload hx (by rw [eT]; exact A.1) (State.isArrayOf_alike hZ.alike A.2.1) A.2.2 (I.hin S) (by rw [I.2.1, H k I.2.2, hv]) hg hs hd t q) kk
theorem goLen (X : Stand p l e R s m args below meth c T locs cells slots) (hx : p.tables.exec = Jvm.exec) (hZ : Z.Warmed39 s.vm) (eT : T.heap = h) (V : BA Z h a ty n f) {z : Int32} (hz : n.toInt32 = z) {g : JFrame} (hg : g.method = m) {rest : List Value} (hs : g.stack = .ref a :: rest) (hd : decode c.code g.pc = .ok (.arraylength, 1)) {F : Outcome → State → Prop}
    (kk : Go p.tables e below F T { g with pc := g.pc + 1, stack := .int z :: rest }) : Go p.tables e below F T g := by
  obtain ⟨cl, A, S, H⟩ := V
  exact Go.st (fun t q => X.arraylength hx (by rw [eT]; exact A.1) (State.isArrayOf_alike hZ.alike A.2.1) hg hs hd t (by rw [S, hz]; exact q)) kk
theorem goNew (X : Stand p l e R s m args below meth c T locs cells slots) (hx : p.tables.exec = Jvm.exec) (hZ : Z.Warmed39 s.vm) {aty : ArrayType} (w : (Jvm.Cond.arrayClass (newarray.typeOf aty)).before a0 Z = true) (eT : T.heap = h) (Zs : n0 ≤ h.size) {z : Int32} (hz : ¬ z < 0) (hn : z.toNatClampNeg = n) (cap : Nat) (hcap : n ≤ cap) (hb : cap * 8 ≤ 536870912) (hc : cells + 1 ≤ R.cells) (hl : slots + cap ≤ R.slots)
    {g : JFrame} (hg : g.method = m) {rest : List Value} (hs : g.stack = .int z :: rest) (hd : decode c.code g.pc = .ok (.newarray aty, 2)) {F : Outcome → State → Prop}
    (kk : ∀ (T' : State) (h' : Heap) (b : Addr), Stand p l e R s m args below meth c T' locs (cells + 1) (slots + cap) → T'.heap = h' → Ext h h' → b = h.size → n0 ≤ b → n0 ≤ h'.size → BA Z h' b (newarray.typeOf aty) n (fun _ => defaultValue (newarray.typeOf aty)) → Go p.tables e below F T' { g with pc := g.pc + 2, stack := .ref b :: rest }) : Go p.tables e below F T g := by
  obtain ⟨T', h', cA, X', e', E, A, st⟩ := newP X hx hZ w eT hg hd hs hz (cap := cap) (by rw [hn]; exact hcap) hb hc hl
  exact Go.st st (kk T' h' _ X' e' E rfl Zs (Nat.le_trans Zs E.1) (BA.new A hn))
theorem own_sz (W : Wr h h' a sl v) (q : n0 ≤ h.size) : n0 ≤ h'.size := by rw [W.size]; exact q
end OwnKit

def own_F (c b o nu : Int32) : Prop := ¬ (c + nu) < 0 ∧ ¬ (255 : Int32) < (c + nu) ∧ ((c + nu) >>> ((6 : Int32) &&& 31)) = (2 : Int32) ∧ (((c + nu) >>> ((5 : Int32) &&& 31)) &&& (1 : Int32)) = b ∧ ((c + nu) &&& (31 : Int32)) = nu ∧ ((((((128 : Int32) ||| o) ||| nu).toInt8.toInt32).toInt8.toInt32) &&& (255 : Int32)) = c + nu
theorem own_Fs : ∀ k : Fin 31, own_F 160 1 32 (Int32.ofNat k.val) ∧ own_F 128 0 0 (Int32.ofNat k.val) := by
  unfold own_F; decide +kernel
theorem own_nu (p : Int32) : ∃ nu : Int32, ((p &&& (2147483647 : Int32)) - ((p &&& (2147483647 : Int32)) / (31 : Int32)) * (31 : Int32)) = nu ∧ own_F 160 1 32 nu ∧ own_F 128 0 0 nu := by
  have h1 : (p &&& (2147483647 : Int32)).toInt = p.toInt % 2 ^ 31 := Jvm.Kit.i32_mask p 2147483647 (k := 31) (by decide) (by decide)
  have h2 := Jvm.LawKit.rem_toInt (p &&& (2147483647 : Int32)) 31
  generalize ((p &&& (2147483647 : Int32)) - ((p &&& (2147483647 : Int32)) / (31 : Int32)) * (31 : Int32)) = r at *
  have e5 : (31 : Int32).toInt = 31 := rfl
  have hn : 0 ≤ (p &&& (2147483647 : Int32)).toInt := by omega
  rw [e5, Int.tmod_eq_emod_of_nonneg hn] at h2
  have h3 : 0 ≤ r.toInt := by omega
  have h4 : r.toInt < 31 := by omega
  obtain ⟨k, hk⟩ : ∃ k : Nat, r.toInt = k := ⟨r.toInt.toNat, by omega⟩
  have hk2 : k < 31 := by omega
  have e : r = Int32.ofNat k := by
    apply Int32.toInt_inj.mp
    rw [Int32.toInt_ofNat_small (by omega)]; exact hk
  exact ⟨r, rfl, by rw [e]; exact own_Fs ⟨k, hk2⟩⟩
theorem d1_0 : decode prog_10_method_2_code 0 = .ok (.iload_n 1, 1) := by decide +kernel
theorem d1_1 : decode prog_10_method_2_code 1 = .ok (.ifCond .eq 9, 3) := by decide +kernel
theorem d1_4 : decode prog_10_method_2_code 4 = .ok (.sipush 160, 3) := by decide +kernel
theorem d1_7 : decode prog_10_method_2_code 7 = .ok (.goto 6, 3) := by decide +kernel
theorem d1_10 : decode prog_10_method_2_code 10 = .ok (.sipush 128, 3) := by decide +kernel
theorem d1_13 : decode prog_10_method_2_code 13 = .ok (.iload_n 0, 1) := by decide +kernel
theorem d1_14 : decode prog_10_method_2_code 14 = .ok (.iadd, 1) := by decide +kernel
theorem d1_15 : decode prog_10_method_2_code 15 = .ok (.ireturn, 1) := by decide +kernel
theorem pn_1 : plainName "com/example/vetter/vetter/io/DerReader" = true := by first | (simp [plainName, overriddenIn]; done) | decide +kernel
theorem ef_1 (m : MethodId) (x0 : Int32) (x1 : Int32) : entryFrame m #[(.int x0), (.int x1)] 2 = mkF m 0 #[.val (.int x0), .val (.int x1)] [] := by first | (simp [entryFrame, mkF, argsToLocals, Value.category]; done) | rfl
set_option maxRecDepth 65536 in
set_option maxHeartbeats 40000000 in
theorem rm1 (l : Launch) (Z : State) (a0 : Array Value) (hw : ∀ d ∈ tables_1, d.before a0 Z = true) (p1 : Int32) (p2 : Int32) (h0 : Heap) (n0 : Nat) (Z0 : n0 ≤ h0.size)   :
    Does l Z (⟨"com/example/vetter/vetter/io/DerReader", "contextTag", "(IZ)I"⟩ : MethodName) prog_10_method_2_code 2 (some .int) ({ frames := 0, cells := 0, slots := 0, locals := 0 } : Room) #[(.int p1), (.int p2)] h0 (fun v h L => ((p2 = (0 : Int32) ∧ v = some (.int ((128 : Int32) + p1))) ∨ (¬ p2 = (0 : Int32) ∧ v = some (.int ((160 : Int32) + p1)))) ∧ Fr n0 L ∧ h = h0) := by
  refine Does.body (plainFor_of_name pn_1) ?_
  intro p e s m below meth c T0 X0 hx hZ hby hml hown hnm hret hlk e0
  replace hown : s.vm.findClass "com/example/vetter/vetter/io/DerReader" = some m.cls := hown
  have N0 := Fr.nil n0
  refine Go.frame (ef_1 m p1 p2) ?_
  show Go _ _ _ _ T0 (mkF m 0 #[.val (.int p1), .val (.int p2)] [])
  refine Go.st (fun t k => XS.iloadN X0.here hx rfl (hb hby d1_0) rfl k) ?_
  show Go _ _ _ _ T0 (mkF m 1 #[.val (.int p1), .val (.int p2)] [(.int p2)])
  by_cases hc : p2 = (0 : Int32)
  ·
    refine Go.st (fun t k => XS.ifYes X0.here hx rfl (pc0 := 1) (pc' := 10) rfl (hb hby d1_1) rfl ((if0 _ _).trans (teq hc).1) (by decide) (by decide) k) ?_
    show Go _ _ _ _ T0 (mkF m 10 #[.val (.int p1), .val (.int p2)] [])
    refine Go.st (fun t k => XS.sipush X0.here hx rfl (hb hby d1_10) k) ?_
    show Go _ _ _ _ T0 (mkF m 13 #[.val (.int p1), .val (.int p2)] [(.int (128 : Int32))])
    refine Go.st (fun t k => XS.iloadN X0.here hx rfl (hb hby d1_13) rfl k) ?_
    show Go _ _ _ _ T0 (mkF m 14 #[.val (.int p1), .val (.int p2)] [(.int p1), (.int (128 : Int32))])
    refine Go.st (fun t k => XS.iadd X0.here hx rfl (hb hby d1_14) rfl k) ?_
    show Go _ _ _ _ T0 (mkF m 15 #[.val (.int p1), .val (.int p2)] [(.int ((128 : Int32) + p1))])
    exact goI X0 hx hret hlk (hb hby d1_15) (by decide) (by decide) ⟨Or.inl ⟨hc, rfl⟩, N0, e0⟩
  ·
    refine Go.st (fun t k => XS.ifNo X0.here hx rfl (hb hby d1_1) rfl ((if0 _ _).trans (feq hc).1) k) ?_
    show Go _ _ _ _ T0 (mkF m 4 #[.val (.int p1), .val (.int p2)] [])
    refine Go.st (fun t k => XS.sipush X0.here hx rfl (hb hby d1_4) k) ?_
    show Go _ _ _ _ T0 (mkF m 7 #[.val (.int p1), .val (.int p2)] [(.int (160 : Int32))])
    refine Go.st (fun t k => XS.goto X0.here hx rfl (pc0 := 7) (pc' := 13) rfl (hb hby d1_7) (by decide) (by decide) k) ?_
    show Go _ _ _ _ T0 (mkF m 13 #[.val (.int p1), .val (.int p2)] [(.int (160 : Int32))])
    refine Go.st (fun t k => XS.iloadN X0.here hx rfl (hb hby d1_13) rfl k) ?_
    show Go _ _ _ _ T0 (mkF m 14 #[.val (.int p1), .val (.int p2)] [(.int p1), (.int (160 : Int32))])
    refine Go.st (fun t k => XS.iadd X0.here hx rfl (hb hby d1_14) rfl k) ?_
    show Go _ _ _ _ T0 (mkF m 15 #[.val (.int p1), .val (.int p2)] [(.int ((160 : Int32) + p1))])
    exact goI X0 hx hret hlk (hb hby d1_15) (by decide) (by decide) ⟨Or.inr ⟨hc, rfl⟩, N0, e0⟩
theorem d2_0 : decode prog_10_method_1_code 0 = .ok (.aload_n 0, 1) := by decide +kernel
theorem d2_1 : decode prog_10_method_1_code 1 = .ok (.invokespecial 1, 3) := by decide +kernel
theorem d2_4 : decode prog_10_method_1_code 4 = .ok (.aload_n 0, 1) := by decide +kernel
theorem d2_5 : decode prog_10_method_1_code 5 = .ok (.aload_n 1, 1) := by decide +kernel
theorem d2_6 : decode prog_10_method_1_code 6 = .ok (.putfield 7, 3) := by decide +kernel
theorem d2_9 : decode prog_10_method_1_code 9 = .ok (.return_, 1) := by decide +kernel
theorem pn_2 : plainName "com/example/vetter/vetter/io/DerReader" = true := by first | (simp [plainName, overriddenIn]; done) | decide +kernel
theorem ef_2 (m : MethodId) (x0 : Addr) (x1 : Addr) : entryFrame m #[(.ref x0), (.ref x1)] 2 = mkF m 0 #[.val (.ref x0), .val (.ref x1)] [] := by first | (simp [entryFrame, mkF, argsToLocals, Value.category]; done) | rfl
set_option maxRecDepth 65536 in
set_option maxHeartbeats 40000000 in
theorem rm2 (l : Launch) (Z : State) (a0 : Array Value) (hw : ∀ d ∈ tables_1, d.before a0 Z = true) (a1 : Addr) (a2 : Addr) (h0 : Heap) (n0 : Nat) (Z0 : n0 ≤ h0.size)  (E_a1 : Exa Z h0 a1 "com/example/vetter/vetter/io/DerReader") (F_data : Fld Z h0 a1 "com/example/vetter/vetter/io/DerReader" "data" "[B" .null) (F_position : Fld Z h0 a1 "com/example/vetter/vetter/io/DerReader" "position" "I" (.int 0)) (g_a1 : n0 ≤ a1) :
    Does l Z (⟨"com/example/vetter/vetter/io/DerReader", "<init>", "([B)V"⟩ : MethodName) prog_10_method_1_code 2 none ({ frames := 1, cells := 0, slots := 0, locals := 12 } : Room) #[(.ref a1), (.ref a2)] h0 (fun v h L => v = none ∧ Fr n0 L ∧ Keep h0 h [a1] ∧ Exa Z h a1 "com/example/vetter/vetter/io/DerReader" ∧ Fld Z h a1 "com/example/vetter/vetter/io/DerReader" "data" "[B" (.ref a2) ∧ Fld Z h a1 "com/example/vetter/vetter/io/DerReader" "position" "I" (.int 0)) := by
  refine Does.body (plainFor_of_name pn_2) ?_
  intro p e s m below meth c T0 X0 hx hZ hby hml hown hnm hret hlk e0
  replace hown : s.vm.findClass "com/example/vetter/vetter/io/DerReader" = some m.cls := hown
  have N0 := Fr.nil n0
  refine Go.frame (ef_2 m a1 a2) ?_
  have K0 : Keep h0 h0 [a1] := Keep.refl _ _
  show Go _ _ _ _ T0 (mkF m 0 #[.val (.ref a1), .val (.ref a2)] [])
  refine Go.st (fun t k => XS.aloadN X0.here hx rfl (hb hby d2_0) rfl rfl k) ?_
  show Go _ _ _ _ T0 (mkF m 1 #[.val (.ref a1), .val (.ref a2)] [(.ref a1)])
  obtain ⟨T1, X1, e1, st1⟩ := initO X0 hx hZ hown (hw _ (List.mem_of_getElem? (i := 11) rfl)) (hw _ (List.mem_of_getElem? (i := 12) rfl)) (hw _ (List.mem_of_getElem? (i := 13) rfl)) e0 (g := (mkF m 1 #[.val (.ref a1), .val (.ref a2)] [(.ref a1)])) rfl (by rw [hml]; rfl) rfl (hb hby d2_1) (by decide) (W := 0) (by show 2 * 0 + _ ≤ _; exact Nat.le_of_eq rfl) (by decide)
  refine Go.st st1 ?_
  show Go _ _ _ _ T1 (mkF m 4 #[.val (.ref a1), .val (.ref a2)] [])
  refine Go.st (fun t k => XS.aloadN X1.here hx rfl (hb hby d2_4) rfl rfl k) ?_
  show Go _ _ _ _ T1 (mkF m 5 #[.val (.ref a1), .val (.ref a2)] [(.ref a1)])
  refine Go.st (fun t k => XS.aloadN X1.here hx rfl (hb hby d2_5) rfl rfl k) ?_
  show Go _ _ _ _ T1 (mkF m 6 #[.val (.ref a1), .val (.ref a2)] [(.ref a2), (.ref a1)])
  obtain ⟨T2, h2, X2, e2, W2, st2⟩ := putF X1 hx hZ hown (host := "") (Or.inl (hw _ (List.mem_of_getElem? (i := 14) rfl))) Via.refl e1 F_data E_a1 (Or.inr ⟨(hw _ (List.mem_of_getElem? (i := 15) rfl)), rfl, hnm⟩) (hw _ (List.mem_of_getElem? (i := 7) rfl)) (ty := (.array .byte)) (by decide) rfl rfl (g := (mkF m 6 #[.val (.ref a1), .val (.ref a2)] [(.ref a2), (.ref a1)])) rfl rfl (hb hby d2_6)
  have N2 := own_one (sl := Jvm.RoadKit.slotOf Z "com/example/vetter/vetter/io/DerReader" "data" "[B") N0 g_a1
  have Z2 := own_sz W2 Z0
  have E_a1 := E_a1.wr W2
  have F_position := F_position.other W2 (Or.inr (Jvm.RoadKit.slot_ne (Or.inl (hw _ (List.mem_of_getElem? (i := 22) rfl))) (Or.inr (hw _ (List.mem_of_getElem? (i := 15) rfl))) (by decide) (t := .int) (t' := (.array .byte)) (by decide) (by decide)))
  have F_data := F_data.same W2
  have K0 := K0.wr W2 (Or.inl (List.mem_of_getElem? (i := 0) rfl))
  refine Go.st st2 ?_
  show Go _ _ _ _ T2 (mkF m 9 #[.val (.ref a1), .val (.ref a2)] [])
  exact goV X2 hx hret hlk (hb hby d2_9) (by decide) (by decide) (by rw [e2]; exact ⟨rfl, N2, K0, E_a1, F_data, F_position⟩)
theorem d4_0 : decode prog_10_method_3_code 0 = .ok (.aload_n 0, 1) := by decide +kernel
theorem d4_1 : decode prog_10_method_3_code 1 = .ok (.getfield 13, 3) := by decide +kernel
theorem d4_4 : decode prog_10_method_3_code 4 = .ok (.aload_n 0, 1) := by decide +kernel
theorem d4_5 : decode prog_10_method_3_code 5 = .ok (.getfield 7, 3) := by decide +kernel
theorem d4_8 : decode prog_10_method_3_code 8 = .ok (.arraylength, 1) := by decide +kernel
theorem d4_9 : decode prog_10_method_3_code 9 = .ok (.if_icmp .ge 24, 3) := by decide +kernel
theorem d4_12 : decode prog_10_method_3_code 12 = .ok (.aload_n 0, 1) := by decide +kernel
theorem d4_13 : decode prog_10_method_3_code 13 = .ok (.getfield 7, 3) := by decide +kernel
theorem d4_16 : decode prog_10_method_3_code 16 = .ok (.aload_n 0, 1) := by decide +kernel
theorem d4_17 : decode prog_10_method_3_code 17 = .ok (.getfield 13, 3) := by decide +kernel
theorem d4_20 : decode prog_10_method_3_code 20 = .ok (.baload, 1) := by decide +kernel
theorem d4_21 : decode prog_10_method_3_code 21 = .ok (.sipush 255, 3) := by decide +kernel
theorem d4_24 : decode prog_10_method_3_code 24 = .ok (.iand, 1) := by decide +kernel
theorem d4_25 : decode prog_10_method_3_code 25 = .ok (.iload_n 1, 1) := by decide +kernel
theorem d4_26 : decode prog_10_method_3_code 26 = .ok (.if_icmp .ne 7, 3) := by decide +kernel
theorem d4_29 : decode prog_10_method_3_code 29 = .ok (.iconst 1, 1) := by decide +kernel
theorem d4_30 : decode prog_10_method_3_code 30 = .ok (.goto 4, 3) := by decide +kernel
theorem d4_33 : decode prog_10_method_3_code 33 = .ok (.iconst 0, 1) := by decide +kernel
theorem d4_34 : decode prog_10_method_3_code 34 = .ok (.ireturn, 1) := by decide +kernel
theorem pn_4 : plainName "com/example/vetter/vetter/io/DerReader" = true := by first | (simp [plainName, overriddenIn]; done) | decide +kernel
theorem ef_4 (m : MethodId) (x0 : Addr) (x1 : Int32) : entryFrame m #[(.ref x0), (.int x1)] 2 = mkF m 0 #[.val (.ref x0), .val (.int x1)] [] := by first | (simp [entryFrame, mkF, argsToLocals, Value.category]; done) | rfl
set_option maxRecDepth 65536 in
set_option maxHeartbeats 40000000 in
theorem rm4 (l : Launch) (Z : State) (a0 : Array Value) (hw : ∀ d ∈ tables_1, d.before a0 Z = true) (a1 : Addr) (p2 : Int32) (h0 : Heap) (n0 : Nat) (Z0 : n0 ≤ h0.size) (ps : Int32) (da : Addr) (n : Nat) (f : Nat → Value) (zn w3 : Int32) (F_position : Fld Z h0 a1 "com/example/vetter/vetter/io/DerReader" "position" "I" (.int ps)) (F_data : Fld Z h0 a1 "com/example/vetter/vetter/io/DerReader" "data" "[B" (.ref da)) (V_da : BA Z h0 da .byte n f) (hz : n.toInt32 = zn) (Hin : ps < zn → ∃ k, Ix ps k n ∧ f k = .int w3) :
    Does l Z (⟨"com/example/vetter/vetter/io/DerReader", "nextIs", "(I)Z"⟩ : MethodName) prog_10_method_3_code 2 (some .boolean) ({ frames := 0, cells := 0, slots := 0, locals := 0 } : Room) #[(.ref a1), (.int p2)] h0 (fun v h L => ((ps < zn ∧ (w3 &&& (255 : Int32)) = p2 ∧ v = some (.int 1)) ∨ (¬ (ps < zn ∧ (w3 &&& (255 : Int32)) = p2) ∧ v = some (.int 0))) ∧ Fr n0 L ∧ h = h0) := by
  refine Does.body (plainFor_of_name pn_4) ?_
  intro p e s m below meth c T0 X0 hx hZ hby hml hown hnm hret hlk e0
  replace hown : s.vm.findClass "com/example/vetter/vetter/io/DerReader" = some m.cls := hown
  have N0 := Fr.nil n0
  refine Go.frame (ef_4 m a1 p2) ?_
  show Go _ _ _ _ T0 (mkF m 0 #[.val (.ref a1), .val (.int p2)] [])
  refine Go.st (fun t k => XS.aloadN X0.here hx rfl (hb hby d4_0) rfl rfl k) ?_
  show Go _ _ _ _ T0 (mkF m 1 #[.val (.ref a1), .val (.int p2)] [(.ref a1)])
  obtain ⟨T1, X1, e1, st1⟩ := getF X0 hx hZ hown (host := "") (Or.inl (hw _ (List.mem_of_getElem? (i := 21) rfl))) Via.refl e0 F_position (g := (mkF m 1 #[.val (.ref a1), .val (.int p2)] [(.ref a1)])) rfl rfl (hb hby d4_1)
  refine Go.st st1 ?_
  show Go _ _ _ _ T1 (mkF m 4 #[.val (.ref a1), .val (.int p2)] [(.int ps)])
  refine Go.st (fun t k => XS.aloadN X1.here hx rfl (hb hby d4_4) rfl rfl k) ?_
  show Go _ _ _ _ T1 (mkF m 5 #[.val (.ref a1), .val (.int p2)] [(.ref a1), (.int ps)])
  obtain ⟨T2, X2, e2, st2⟩ := getF X1 hx hZ hown (host := "") (Or.inl (hw _ (List.mem_of_getElem? (i := 14) rfl))) Via.refl e1 F_data (g := (mkF m 5 #[.val (.ref a1), .val (.int p2)] [(.ref a1), (.int ps)])) rfl rfl (hb hby d4_5)
  refine Go.st st2 ?_
  show Go _ _ _ _ T2 (mkF m 8 #[.val (.ref a1), .val (.int p2)] [(.ref da), (.int ps)])
  refine goLen X2 hx hZ e2 V_da (z := zn) hz (g := (mkF m 8 #[.val (.ref a1), .val (.int p2)] [(.ref da), (.int ps)])) rfl rfl (hb hby d4_8) ?_
  show Go _ _ _ _ T2 (mkF m 9 #[.val (.ref a1), .val (.int p2)] [(.int zn), (.int ps)])
  by_cases hA : ps < zn
  ·
    refine Go.st (fun t k => XS.icmpNo X2.here hx rfl (hb hby d4_9) rfl (tlt hA).2.1 k) ?_
    show Go _ _ _ _ T2 (mkF m 12 #[.val (.ref a1), .val (.int p2)] [])
    obtain ⟨k, Ik, Hk⟩ := Hin hA
    refine Go.st (fun t k => XS.aloadN X2.here hx rfl (hb hby d4_12) rfl rfl k) ?_
    show Go _ _ _ _ T2 (mkF m 13 #[.val (.ref a1), .val (.int p2)] [(.ref a1)])
    obtain ⟨T4, X4, e4, st4⟩ := getF X2 hx hZ hown (host := "") (Or.inl (hw _ (List.mem_of_getElem? (i := 14) rfl))) Via.refl e2 F_data (g := (mkF m 13 #[.val (.ref a1), .val (.int p2)] [(.ref a1)])) rfl rfl (hb hby d4_13)
    refine Go.st st4 ?_
    show Go _ _ _ _ T4 (mkF m 16 #[.val (.ref a1), .val (.int p2)] [(.ref da)])
    refine Go.st (fun t k => XS.aloadN X4.here hx rfl (hb hby d4_16) rfl rfl k) ?_
    show Go _ _ _ _ T4 (mkF m 17 #[.val (.ref a1), .val (.int p2)] [(.ref a1), (.ref da)])
    obtain ⟨T5, X5, e5, st5⟩ := getF X4 hx hZ hown (host := "") (Or.inl (hw _ (List.mem_of_getElem? (i := 21) rfl))) Via.refl e4 F_position (g := (mkF m 17 #[.val (.ref a1), .val (.int p2)] [(.ref a1), (.ref da)])) rfl rfl (hb hby d4_17)
    refine Go.st st5 ?_
    show Go _ _ _ _ T5 (mkF m 20 #[.val (.ref a1), .val (.int p2)] [(.int ps), (.ref da)])
    refine goLdB X5 hx hZ e5 V_da (v := (.int w3)) (g := (mkF m 20 #[.val (.ref a1), .val (.int p2)] [(.int ps), (.ref da)])) rfl rfl (hb hby d4_20) Ik Hk ?_
    show Go _ _ _ _ T5 (mkF m 21 #[.val (.ref a1), .val (.int p2)] [(.int w3)])
    refine Go.st (fun t k => XS.sipush X5.here hx rfl (hb hby d4_21) k) ?_
    show Go _ _ _ _ T5 (mkF m 24 #[.val (.ref a1), .val (.int p2)] [(.int (255 : Int32)), (.int w3)])
    refine Go.st (fun t k => XS.iand X5.here hx rfl (hb hby d4_24) rfl k) ?_
    show Go _ _ _ _ T5 (mkF m 25 #[.val (.ref a1), .val (.int p2)] [(.int (w3 &&& (255 : Int32)))])
    refine Go.st (fun t k => XS.iloadN X5.here hx rfl (hb hby d4_25) rfl k) ?_
    show Go _ _ _ _ T5 (mkF m 26 #[.val (.ref a1), .val (.int p2)] [(.int p2), (.int (w3 &&& (255 : Int32)))])
    by_cases hB : (w3 &&& (255 : Int32)) = p2
    ·
      refine Go.st (fun t k => XS.icmpNo X5.here hx rfl (hb hby d4_26) rfl (teq hB).2 k) ?_
      show Go _ _ _ _ T5 (mkF m 29 #[.val (.ref a1), .val (.int p2)] [])
      refine Go.st (fun t k => XS.iconst X5.here hx rfl (hb hby d4_29) k) ?_
      show Go _ _ _ _ T5 (mkF m 30 #[.val (.ref a1), .val (.int p2)] [(.int (1 : Int32))])
      refine Go.st (fun t k => XS.goto X5.here hx rfl (pc0 := 30) (pc' := 34) rfl (hb hby d4_30) (by decide) (by decide) k) ?_
      show Go _ _ _ _ T5 (mkF m 34 #[.val (.ref a1), .val (.int p2)] [(.int (1 : Int32))])
      exact goN X5 hx hret hlk (by simp) (hb hby d4_34) (by decide) (by decide) ⟨Or.inl ⟨hA, hB, rfl⟩, N0, e5⟩
    ·
      refine Go.st (fun t k => XS.icmpYes X5.here hx rfl (pc0 := 26) (pc' := 33) rfl (hb hby d4_26) rfl (feq hB).2 (by decide) (by decide) k) ?_
      show Go _ _ _ _ T5 (mkF m 33 #[.val (.ref a1), .val (.int p2)] [])
      refine Go.st (fun t k => XS.iconst X5.here hx rfl (hb hby d4_33) k) ?_
      show Go _ _ _ _ T5 (mkF m 34 #[.val (.ref a1), .val (.int p2)] [(.int (0 : Int32))])
      exact goN X5 hx hret hlk (by simp) (hb hby d4_34) (by decide) (by decide) ⟨Or.inr ⟨by simp [hB], rfl⟩, N0, e5⟩
  ·
    refine Go.st (fun t k => XS.icmpYes X2.here hx rfl (pc0 := 9) (pc' := 33) rfl (hb hby d4_9) rfl (flt hA).2.1 (by decide) (by decide) k) ?_
    show Go _ _ _ _ T2 (mkF m 33 #[.val (.ref a1), .val (.int p2)] [])
    refine Go.st (fun t k => XS.iconst X2.here hx rfl (hb hby d4_33) k) ?_
    show Go _ _ _ _ T2 (mkF m 34 #[.val (.ref a1), .val (.int p2)] [(.int (0 : Int32))])
    exact goN X2 hx hret hlk (by simp) (hb hby d4_34) (by decide) (by decide) ⟨Or.inr ⟨by simp [hA], rfl⟩, N0, e2⟩
theorem pn_0 : plainName "com/example/vetter/vetter/io/DerReaderContextTagPinLaw" = true := by first | (simp [plainName, overriddenIn]; done) | decide +kernel
theorem pd0_0 : parseMethodDescriptor "(IZ)I" = some ⟨[.int, .boolean], some .int⟩ := by decide +kernel
theorem pd0_1 : parseMethodDescriptor "([B)V" = some ⟨[(.array .byte)], none⟩ := by decide +kernel
theorem pd0_2 : parseMethodDescriptor "(I)Z" = some ⟨[.int], some .boolean⟩ := by decide +kernel
theorem ef_0 (m : MethodId) (x0 : Int32) (x1 : Int32) : entryFrame m #[(.int x0), (.int x1)] maxLocals = mkF m 0 #[.val (.int x0), .val (.int x1), .unset, .unset, .unset, .unset, .unset, .unset, .unset, .unset, .unset] [] := by first | (simp [entryFrame, mkF, argsToLocals, Value.category, maxLocals]; done) | rfl
set_option maxRecDepth 65536 in
set_option maxHeartbeats 40000000 in
theorem rm0 (l : Launch) (Z : State) (a0 : Array Value) (hw : ∀ d ∈ tables_1, d.before a0 Z = true) (p1 : Int32) (p2 : Int32) (h0 : Heap) (n0 : Nat) (Z0 : n0 ≤ h0.size)   :
    Does l Z x code maxLocals ret room_1 #[(.int p1), (.int p2)] h0 (fun v h L => v = some (.int 1) ∧ Fr n0 L) := by
  refine Does.body (plainFor_of_name pn_0) ?_
  intro p e s m below meth c T0 X0 hx hZ hby hml hown hnm hret hlk e0
  replace hown : s.vm.findClass "com/example/vetter/vetter/io/DerReaderContextTagPinLaw" = some m.cls := hown
  have N0 := Fr.nil n0
  refine Go.frame (ef_0 m p1 p2) ?_
  show Go _ _ _ _ T0 (mkF m 0 #[.val (.int p1), .val (.int p2), .unset, .unset, .unset, .unset, .unset, .unset, .unset, .unset, .unset] [])
  refine Go.st (fun t k => XS.iloadN X0.here hx rfl (hb hby at_0) rfl k) ?_
  show Go _ _ _ _ T0 (mkF m 1 #[.val (.int p1), .val (.int p2), .unset, .unset, .unset, .unset, .unset, .unset, .unset, .unset, .unset] [(.int p1)])
  refine Go.st (X0.ldcInt hx hown (mvT hZ (hw _ (List.mem_of_getElem? (i := 0) rfl))) (g := (mkF m 1 #[.val (.int p1), .val (.int p2), .unset, .unset, .unset, .unset, .unset, .unset, .unset, .unset, .unset] [(.int p1)])) rfl (hb hby at_1)) ?_
  show Go _ _ _ _ T0 (mkF m 3 #[.val (.int p1), .val (.int p2), .unset, .unset, .unset, .unset, .unset, .unset, .unset, .unset, .unset] [(.int (2147483647 : Int32)), (.int p1)])
  refine Go.st (fun t k => XS.iand X0.here hx rfl (hb hby at_3) rfl k) ?_
  show Go _ _ _ _ T0 (mkF m 4 #[.val (.int p1), .val (.int p2), .unset, .unset, .unset, .unset, .unset, .unset, .unset, .unset, .unset] [(.int (p1 &&& (2147483647 : Int32)))])
  refine Go.st (fun t k => XS.bipush X0.here hx rfl (hb hby at_4) k) ?_
  show Go _ _ _ _ T0 (mkF m 6 #[.val (.int p1), .val (.int p2), .unset, .unset, .unset, .unset, .unset, .unset, .unset, .unset, .unset] [(.int (31 : Int32)), (.int (p1 &&& (2147483647 : Int32)))])
  refine Go.st (fun t k => XS.irem X0.here hx rfl (hb hby at_6) rfl (by decide) k) ?_
  show Go _ _ _ _ T0 (mkF m 7 #[.val (.int p1), .val (.int p2), .unset, .unset, .unset, .unset, .unset, .unset, .unset, .unset, .unset] [(.int ((p1 &&& (2147483647 : Int32)) - ((p1 &&& (2147483647 : Int32)) / (31 : Int32)) * (31 : Int32)))])
  obtain ⟨nu, hnu, HT, HF⟩ := own_nu p1
  rw [hnu]
  show Go _ _ _ _ T0 (mkF m 7 #[.val (.int p1), .val (.int p2), .unset, .unset, .unset, .unset, .unset, .unset, .unset, .unset, .unset] [(.int nu)])
  refine Go.st (fun t k => XS.istoreN X0.here hx rfl (hb hby at_7) rfl (l' := #[.val (.int p1), .val (.int p2), .val (.int nu), .unset, .unset, .unset, .unset, .unset, .unset, .unset, .unset]) rfl k) ?_
  show Go _ _ _ _ T0 (mkF m 8 #[.val (.int p1), .val (.int p2), .val (.int nu), .unset, .unset, .unset, .unset, .unset, .unset, .unset, .unset] [])
  refine Go.st (fun t k => XS.iloadN X0.here hx rfl (hb hby at_8) rfl k) ?_
  show Go _ _ _ _ T0 (mkF m 9 #[.val (.int p1), .val (.int p2), .val (.int nu), .unset, .unset, .unset, .unset, .unset, .unset, .unset, .unset] [(.int p2)])
  refine Go.st (fun t k => XS.iconst X0.here hx rfl (hb hby at_9) k) ?_
  show Go _ _ _ _ T0 (mkF m 10 #[.val (.int p1), .val (.int p2), .val (.int nu), .unset, .unset, .unset, .unset, .unset, .unset, .unset, .unset] [(.int (1 : Int32)), (.int p2)])
  refine Go.st (fun t k => XS.iand X0.here hx rfl (hb hby at_10) rfl k) ?_
  show Go _ _ _ _ T0 (mkF m 11 #[.val (.int p1), .val (.int p2), .val (.int nu), .unset, .unset, .unset, .unset, .unset, .unset, .unset, .unset] [(.int (p2 &&& (1 : Int32)))])
  by_cases hfl : (p2 &&& (1 : Int32)) = (0 : Int32)
  ·
    refine Go.st (fun t k => XS.ifYes X0.here hx rfl (pc0 := 11) (pc' := 18) rfl (hb hby at_11) rfl ((if0 _ _).trans (teq hfl).1) (by decide) (by decide) k) ?_
    show Go _ _ _ _ T0 (mkF m 18 #[.val (.int p1), .val (.int p2), .val (.int nu), .unset, .unset, .unset, .unset, .unset, .unset, .unset, .unset] [])
    refine Go.st (fun t k => XS.iconst X0.here hx rfl (hb hby at_18) k) ?_
    show Go _ _ _ _ T0 (mkF m 19 #[.val (.int p1), .val (.int p2), .val (.int nu), .unset, .unset, .unset, .unset, .unset, .unset, .unset, .unset] [(.int (0 : Int32))])
    refine Go.st (fun t k => XS.istoreN X0.here hx rfl (hb hby at_19) rfl (l' := #[.val (.int p1), .val (.int p2), .val (.int nu), .val (.int (0 : Int32)), .unset, .unset, .unset, .unset, .unset, .unset, .unset]) rfl k) ?_
    show Go _ _ _ _ T0 (mkF m 20 #[.val (.int p1), .val (.int p2), .val (.int nu), .val (.int (0 : Int32)), .unset, .unset, .unset, .unset, .unset, .unset, .unset] [])
    refine Go.st (fun t k => XS.iloadN X0.here hx rfl (hb hby at_20) rfl k) ?_
    show Go _ _ _ _ T0 (mkF m 21 #[.val (.int p1), .val (.int p2), .val (.int nu), .val (.int (0 : Int32)), .unset, .unset, .unset, .unset, .unset, .unset, .unset] [(.int nu)])
    refine Go.st (fun t k => XS.iloadN X0.here hx rfl (hb hby at_21) rfl k) ?_
    show Go _ _ _ _ T0 (mkF m 22 #[.val (.int p1), .val (.int p2), .val (.int nu), .val (.int (0 : Int32)), .unset, .unset, .unset, .unset, .unset, .unset, .unset] [(.int (0 : Int32)), (.int nu)])
    refine goS X0 hx hZ (y := (⟨"com/example/vetter/vetter/io/DerReader", "contextTag", "(IZ)I"⟩ : MethodName)) hown (hw _ (List.mem_of_getElem? (i := 1) rfl)) (hw _ (List.mem_of_getElem? (i := 2) rfl)) (hw _ (List.mem_of_getElem? (i := 3) rfl)) (hw _ (List.mem_of_getElem? (i := 4) rfl)) (by decide) (rm1 l Z a0 hw nu (0 : Int32) h0 n0 Z0) e0 N0 0 (by decide) (by decide) (by decide) (by decide) (g := (mkF m 22 #[.val (.int p1), .val (.int p2), .val (.int nu), .val (.int (0 : Int32)), .unset, .unset, .unset, .unset, .unset, .unset, .unset] [(.int (0 : Int32)), (.int nu)])) rfl (by rw [hml]; rfl) [(.int nu), (.int (0 : Int32))] [] (lenOf pd0_0 rfl) rfl rfl (by show 2 * 0 + _ ≤ _; exact Nat.le_of_eq rfl) (hb hby at_22) ?_
    intro T2 v2 L2 M2 X2 N2 hq2
    obtain ⟨hq2, N2q, e2⟩ := hq2
    replace N2 := N2 N2q
    rcases hq2 with ⟨hr2, rfl⟩ | ⟨hr2, rfl⟩
    ·
      obtain ⟨hf0, hf1, hf2, hf3, hf4, hf5⟩ := HF
      show Go _ _ _ _ T2 (mkF m 25 #[.val (.int p1), .val (.int p2), .val (.int nu), .val (.int (0 : Int32)), .unset, .unset, .unset, .unset, .unset, .unset, .unset] [(.int ((128 : Int32) + nu))])
      refine Go.st (fun t k => XS.istore X2.here hx rfl (hb hby at_25) rfl (l' := #[.val (.int p1), .val (.int p2), .val (.int nu), .val (.int (0 : Int32)), .val (.int ((128 : Int32) + nu)), .unset, .unset, .unset, .unset, .unset, .unset]) rfl k) ?_
      show Go _ _ _ _ T2 (mkF m 27 #[.val (.int p1), .val (.int p2), .val (.int nu), .val (.int (0 : Int32)), .val (.int ((128 : Int32) + nu)), .unset, .unset, .unset, .unset, .unset, .unset] [])
      refine Go.st (fun t k => XS.iload X2.here hx rfl (hb hby at_27) rfl k) ?_
      show Go _ _ _ _ T2 (mkF m 29 #[.val (.int p1), .val (.int p2), .val (.int nu), .val (.int (0 : Int32)), .val (.int ((128 : Int32) + nu)), .unset, .unset, .unset, .unset, .unset, .unset] [(.int ((128 : Int32) + nu))])
      refine Go.st (fun t k => XS.ifNo X2.here hx rfl (hb hby at_29) rfl ((if0 _ _).trans (flt hf0).1) k) ?_
      show Go _ _ _ _ T2 (mkF m 32 #[.val (.int p1), .val (.int p2), .val (.int nu), .val (.int (0 : Int32)), .val (.int ((128 : Int32) + nu)), .unset, .unset, .unset, .unset, .unset, .unset] [])
      refine Go.st (fun t k => XS.iload X2.here hx rfl (hb hby at_32) rfl k) ?_
      show Go _ _ _ _ T2 (mkF m 34 #[.val (.int p1), .val (.int p2), .val (.int nu), .val (.int (0 : Int32)), .val (.int ((128 : Int32) + nu)), .unset, .unset, .unset, .unset, .unset, .unset] [(.int ((128 : Int32) + nu))])
      refine Go.st (fun t k => XS.sipush X2.here hx rfl (hb hby at_34) k) ?_
      show Go _ _ _ _ T2 (mkF m 37 #[.val (.int p1), .val (.int p2), .val (.int nu), .val (.int (0 : Int32)), .val (.int ((128 : Int32) + nu)), .unset, .unset, .unset, .unset, .unset, .unset] [(.int (255 : Int32)), (.int ((128 : Int32) + nu))])
      refine Go.st (fun t k => XS.icmpYes X2.here hx rfl (pc0 := 37) (pc' := 42) rfl (hb hby at_37) rfl (flt hf1).2.2.2 (by decide) (by decide) k) ?_
      show Go _ _ _ _ T2 (mkF m 42 #[.val (.int p1), .val (.int p2), .val (.int nu), .val (.int (0 : Int32)), .val (.int ((128 : Int32) + nu)), .unset, .unset, .unset, .unset, .unset, .unset] [])
      refine Go.st (fun t k => XS.iload X2.here hx rfl (hb hby at_42) rfl k) ?_
      show Go _ _ _ _ T2 (mkF m 44 #[.val (.int p1), .val (.int p2), .val (.int nu), .val (.int (0 : Int32)), .val (.int ((128 : Int32) + nu)), .unset, .unset, .unset, .unset, .unset, .unset] [(.int ((128 : Int32) + nu))])
      refine Go.st (fun t k => XS.bipush X2.here hx rfl (hb hby at_44) k) ?_
      show Go _ _ _ _ T2 (mkF m 46 #[.val (.int p1), .val (.int p2), .val (.int nu), .val (.int (0 : Int32)), .val (.int ((128 : Int32) + nu)), .unset, .unset, .unset, .unset, .unset, .unset] [(.int (6 : Int32)), (.int ((128 : Int32) + nu))])
      refine Go.st (fun t k => XS.ishr X2.here hx rfl (hb hby at_46) rfl k) ?_
      show Go _ _ _ _ T2 (mkF m 47 #[.val (.int p1), .val (.int p2), .val (.int nu), .val (.int (0 : Int32)), .val (.int ((128 : Int32) + nu)), .unset, .unset, .unset, .unset, .unset, .unset] [(.int (((128 : Int32) + nu) >>> ((6 : Int32) &&& 31)))])
      refine Go.st (fun t k => XS.iconst X2.here hx rfl (hb hby at_47) k) ?_
      show Go _ _ _ _ T2 (mkF m 48 #[.val (.int p1), .val (.int p2), .val (.int nu), .val (.int (0 : Int32)), .val (.int ((128 : Int32) + nu)), .unset, .unset, .unset, .unset, .unset, .unset] [(.int (2 : Int32)), (.int (((128 : Int32) + nu) >>> ((6 : Int32) &&& 31)))])
      refine Go.st (fun t k => XS.icmpNo X2.here hx rfl (hb hby at_48) rfl (teq hf2).2 k) ?_
      show Go _ _ _ _ T2 (mkF m 51 #[.val (.int p1), .val (.int p2), .val (.int nu), .val (.int (0 : Int32)), .val (.int ((128 : Int32) + nu)), .unset, .unset, .unset, .unset, .unset, .unset] [])
      refine Go.st (fun t k => XS.iconst X2.here hx rfl (hb hby at_51) k) ?_
      show Go _ _ _ _ T2 (mkF m 52 #[.val (.int p1), .val (.int p2), .val (.int nu), .val (.int (0 : Int32)), .val (.int ((128 : Int32) + nu)), .unset, .unset, .unset, .unset, .unset, .unset] [(.int (1 : Int32))])
      refine Go.st (fun t k => XS.goto X2.here hx rfl (pc0 := 52) (pc' := 56) rfl (hb hby at_52) (by decide) (by decide) k) ?_
      show Go _ _ _ _ T2 (mkF m 56 #[.val (.int p1), .val (.int p2), .val (.int nu), .val (.int (0 : Int32)), .val (.int ((128 : Int32) + nu)), .unset, .unset, .unset, .unset, .unset, .unset] [(.int (1 : Int32))])
      refine Go.st (fun t k => XS.istore X2.here hx rfl (hb hby at_56) rfl (l' := #[.val (.int p1), .val (.int p2), .val (.int nu), .val (.int (0 : Int32)), .val (.int ((128 : Int32) + nu)), .val (.int (1 : Int32)), .unset, .unset, .unset, .unset, .unset]) rfl k) ?_
      show Go _ _ _ _ T2 (mkF m 58 #[.val (.int p1), .val (.int p2), .val (.int nu), .val (.int (0 : Int32)), .val (.int ((128 : Int32) + nu)), .val (.int (1 : Int32)), .unset, .unset, .unset, .unset, .unset] [])
      refine Go.st (fun t k => XS.iload X2.here hx rfl (hb hby at_58) rfl k) ?_
      show Go _ _ _ _ T2 (mkF m 60 #[.val (.int p1), .val (.int p2), .val (.int nu), .val (.int (0 : Int32)), .val (.int ((128 : Int32) + nu)), .val (.int (1 : Int32)), .unset, .unset, .unset, .unset, .unset] [(.int ((128 : Int32) + nu))])
      refine Go.st (fun t k => XS.iconst X2.here hx rfl (hb hby at_60) k) ?_
      show Go _ _ _ _ T2 (mkF m 61 #[.val (.int p1), .val (.int p2), .val (.int nu), .val (.int (0 : Int32)), .val (.int ((128 : Int32) + nu)), .val (.int (1 : Int32)), .unset, .unset, .unset, .unset, .unset] [(.int (5 : Int32)), (.int ((128 : Int32) + nu))])
      refine Go.st (fun t k => XS.ishr X2.here hx rfl (hb hby at_61) rfl k) ?_
      show Go _ _ _ _ T2 (mkF m 62 #[.val (.int p1), .val (.int p2), .val (.int nu), .val (.int (0 : Int32)), .val (.int ((128 : Int32) + nu)), .val (.int (1 : Int32)), .unset, .unset, .unset, .unset, .unset] [(.int (((128 : Int32) + nu) >>> ((5 : Int32) &&& 31)))])
      refine Go.st (fun t k => XS.iconst X2.here hx rfl (hb hby at_62) k) ?_
      show Go _ _ _ _ T2 (mkF m 63 #[.val (.int p1), .val (.int p2), .val (.int nu), .val (.int (0 : Int32)), .val (.int ((128 : Int32) + nu)), .val (.int (1 : Int32)), .unset, .unset, .unset, .unset, .unset] [(.int (1 : Int32)), (.int (((128 : Int32) + nu) >>> ((5 : Int32) &&& 31)))])
      refine Go.st (fun t k => XS.iand X2.here hx rfl (hb hby at_63) rfl k) ?_
      show Go _ _ _ _ T2 (mkF m 64 #[.val (.int p1), .val (.int p2), .val (.int nu), .val (.int (0 : Int32)), .val (.int ((128 : Int32) + nu)), .val (.int (1 : Int32)), .unset, .unset, .unset, .unset, .unset] [(.int ((((128 : Int32) + nu) >>> ((5 : Int32) &&& 31)) &&& (1 : Int32)))])
      refine Go.st (fun t k => XS.iloadN X2.here hx rfl (hb hby at_64) rfl k) ?_
      show Go _ _ _ _ T2 (mkF m 65 #[.val (.int p1), .val (.int p2), .val (.int nu), .val (.int (0 : Int32)), .val (.int ((128 : Int32) + nu)), .val (.int (1 : Int32)), .unset, .unset, .unset, .unset, .unset] [(.int (0 : Int32)), (.int ((((128 : Int32) + nu) >>> ((5 : Int32) &&& 31)) &&& (1 : Int32)))])
      refine Go.st (fun t k => XS.ifYes X2.here hx rfl (pc0 := 65) (pc' := 72) rfl (hb hby at_65) rfl (by decide) (by decide) (by decide) k) ?_
      show Go _ _ _ _ T2 (mkF m 72 #[.val (.int p1), .val (.int p2), .val (.int nu), .val (.int (0 : Int32)), .val (.int ((128 : Int32) + nu)), .val (.int (1 : Int32)), .unset, .unset, .unset, .unset, .unset] [(.int ((((128 : Int32) + nu) >>> ((5 : Int32) &&& 31)) &&& (1 : Int32)))])
      refine Go.st (fun t k => XS.iconst X2.here hx rfl (hb hby at_72) k) ?_
      show Go _ _ _ _ T2 (mkF m 73 #[.val (.int p1), .val (.int p2), .val (.int nu), .val (.int (0 : Int32)), .val (.int ((128 : Int32) + nu)), .val (.int (1 : Int32)), .unset, .unset, .unset, .unset, .unset] [(.int (0 : Int32)), (.int ((((128 : Int32) + nu) >>> ((5 : Int32) &&& 31)) &&& (1 : Int32)))])
      refine Go.st (fun t k => XS.icmpNo X2.here hx rfl (hb hby at_73) rfl (teq hf3).2 k) ?_
      show Go _ _ _ _ T2 (mkF m 76 #[.val (.int p1), .val (.int p2), .val (.int nu), .val (.int (0 : Int32)), .val (.int ((128 : Int32) + nu)), .val (.int (1 : Int32)), .unset, .unset, .unset, .unset, .unset] [])
      refine Go.st (fun t k => XS.iconst X2.here hx rfl (hb hby at_76) k) ?_
      show Go _ _ _ _ T2 (mkF m 77 #[.val (.int p1), .val (.int p2), .val (.int nu), .val (.int (0 : Int32)), .val (.int ((128 : Int32) + nu)), .val (.int (1 : Int32)), .unset, .unset, .unset, .unset, .unset] [(.int (1 : Int32))])
      refine Go.st (fun t k => XS.goto X2.here hx rfl (pc0 := 77) (pc' := 81) rfl (hb hby at_77) (by decide) (by decide) k) ?_
      show Go _ _ _ _ T2 (mkF m 81 #[.val (.int p1), .val (.int p2), .val (.int nu), .val (.int (0 : Int32)), .val (.int ((128 : Int32) + nu)), .val (.int (1 : Int32)), .unset, .unset, .unset, .unset, .unset] [(.int (1 : Int32))])
      refine Go.st (fun t k => XS.istore X2.here hx rfl (hb hby at_81) rfl (l' := #[.val (.int p1), .val (.int p2), .val (.int nu), .val (.int (0 : Int32)), .val (.int ((128 : Int32) + nu)), .val (.int (1 : Int32)), .val (.int (1 : Int32)), .unset, .unset, .unset, .unset]) rfl k) ?_
      show Go _ _ _ _ T2 (mkF m 83 #[.val (.int p1), .val (.int p2), .val (.int nu), .val (.int (0 : Int32)), .val (.int ((128 : Int32) + nu)), .val (.int (1 : Int32)), .val (.int (1 : Int32)), .unset, .unset, .unset, .unset] [])
      refine Go.st (fun t k => XS.iload X2.here hx rfl (hb hby at_83) rfl k) ?_
      show Go _ _ _ _ T2 (mkF m 85 #[.val (.int p1), .val (.int p2), .val (.int nu), .val (.int (0 : Int32)), .val (.int ((128 : Int32) + nu)), .val (.int (1 : Int32)), .val (.int (1 : Int32)), .unset, .unset, .unset, .unset] [(.int ((128 : Int32) + nu))])
      refine Go.st (fun t k => XS.bipush X2.here hx rfl (hb hby at_85) k) ?_
      show Go _ _ _ _ T2 (mkF m 87 #[.val (.int p1), .val (.int p2), .val (.int nu), .val (.int (0 : Int32)), .val (.int ((128 : Int32) + nu)), .val (.int (1 : Int32)), .val (.int (1 : Int32)), .unset, .unset, .unset, .unset] [(.int (31 : Int32)), (.int ((128 : Int32) + nu))])
      refine Go.st (fun t k => XS.iand X2.here hx rfl (hb hby at_87) rfl k) ?_
      show Go _ _ _ _ T2 (mkF m 88 #[.val (.int p1), .val (.int p2), .val (.int nu), .val (.int (0 : Int32)), .val (.int ((128 : Int32) + nu)), .val (.int (1 : Int32)), .val (.int (1 : Int32)), .unset, .unset, .unset, .unset] [(.int (((128 : Int32) + nu) &&& (31 : Int32)))])
      refine Go.st (fun t k => XS.iloadN X2.here hx rfl (hb hby at_88) rfl k) ?_
      show Go _ _ _ _ T2 (mkF m 89 #[.val (.int p1), .val (.int p2), .val (.int nu), .val (.int (0 : Int32)), .val (.int ((128 : Int32) + nu)), .val (.int (1 : Int32)), .val (.int (1 : Int32)), .unset, .unset, .unset, .unset] [(.int nu), (.int (((128 : Int32) + nu) &&& (31 : Int32)))])
      refine Go.st (fun t k => XS.icmpNo X2.here hx rfl (hb hby at_89) rfl (teq hf4).2 k) ?_
      show Go _ _ _ _ T2 (mkF m 92 #[.val (.int p1), .val (.int p2), .val (.int nu), .val (.int (0 : Int32)), .val (.int ((128 : Int32) + nu)), .val (.int (1 : Int32)), .val (.int (1 : Int32)), .unset, .unset, .unset, .unset] [])
      refine Go.st (fun t k => XS.iconst X2.here hx rfl (hb hby at_92) k) ?_
      show Go _ _ _ _ T2 (mkF m 93 #[.val (.int p1), .val (.int p2), .val (.int nu), .val (.int (0 : Int32)), .val (.int ((128 : Int32) + nu)), .val (.int (1 : Int32)), .val (.int (1 : Int32)), .unset, .unset, .unset, .unset] [(.int (1 : Int32))])
      refine Go.st (fun t k => XS.goto X2.here hx rfl (pc0 := 93) (pc' := 97) rfl (hb hby at_93) (by decide) (by decide) k) ?_
      show Go _ _ _ _ T2 (mkF m 97 #[.val (.int p1), .val (.int p2), .val (.int nu), .val (.int (0 : Int32)), .val (.int ((128 : Int32) + nu)), .val (.int (1 : Int32)), .val (.int (1 : Int32)), .unset, .unset, .unset, .unset] [(.int (1 : Int32))])
      refine Go.st (fun t k => XS.istore X2.here hx rfl (hb hby at_97) rfl (l' := #[.val (.int p1), .val (.int p2), .val (.int nu), .val (.int (0 : Int32)), .val (.int ((128 : Int32) + nu)), .val (.int (1 : Int32)), .val (.int (1 : Int32)), .val (.int (1 : Int32)), .unset, .unset, .unset]) rfl k) ?_
      show Go _ _ _ _ T2 (mkF m 99 #[.val (.int p1), .val (.int p2), .val (.int nu), .val (.int (0 : Int32)), .val (.int ((128 : Int32) + nu)), .val (.int (1 : Int32)), .val (.int (1 : Int32)), .val (.int (1 : Int32)), .unset, .unset, .unset] [])
      refine Go.st (fun t k => XS.sipush X2.here hx rfl (hb hby at_99) k) ?_
      show Go _ _ _ _ T2 (mkF m 102 #[.val (.int p1), .val (.int p2), .val (.int nu), .val (.int (0 : Int32)), .val (.int ((128 : Int32) + nu)), .val (.int (1 : Int32)), .val (.int (1 : Int32)), .val (.int (1 : Int32)), .unset, .unset, .unset] [(.int (128 : Int32))])
      refine Go.st (fun t k => XS.iloadN X2.here hx rfl (hb hby at_102) rfl k) ?_
      show Go _ _ _ _ T2 (mkF m 103 #[.val (.int p1), .val (.int p2), .val (.int nu), .val (.int (0 : Int32)), .val (.int ((128 : Int32) + nu)), .val (.int (1 : Int32)), .val (.int (1 : Int32)), .val (.int (1 : Int32)), .unset, .unset, .unset] [(.int (0 : Int32)), (.int (128 : Int32))])
      refine Go.st (fun t k => XS.ifYes X2.here hx rfl (pc0 := 103) (pc' := 111) rfl (hb hby at_103) rfl (by decide) (by decide) (by decide) k) ?_
      show Go _ _ _ _ T2 (mkF m 111 #[.val (.int p1), .val (.int p2), .val (.int nu), .val (.int (0 : Int32)), .val (.int ((128 : Int32) + nu)), .val (.int (1 : Int32)), .val (.int (1 : Int32)), .val (.int (1 : Int32)), .unset, .unset, .unset] [(.int (128 : Int32))])
      refine Go.st (fun t k => XS.iconst X2.here hx rfl (hb hby at_111) k) ?_
      show Go _ _ _ _ T2 (mkF m 112 #[.val (.int p1), .val (.int p2), .val (.int nu), .val (.int (0 : Int32)), .val (.int ((128 : Int32) + nu)), .val (.int (1 : Int32)), .val (.int (1 : Int32)), .val (.int (1 : Int32)), .unset, .unset, .unset] [(.int (0 : Int32)), (.int (128 : Int32))])
      refine Go.st (fun t k => XS.ior X2.here hx rfl (hb hby at_112) rfl k) ?_
      show Go _ _ _ _ T2 (mkF m 113 #[.val (.int p1), .val (.int p2), .val (.int nu), .val (.int (0 : Int32)), .val (.int ((128 : Int32) + nu)), .val (.int (1 : Int32)), .val (.int (1 : Int32)), .val (.int (1 : Int32)), .unset, .unset, .unset] [(.int ((128 : Int32) ||| (0 : Int32)))])
      refine Go.st (fun t k => XS.iloadN X2.here hx rfl (hb hby at_113) rfl k) ?_
      show Go _ _ _ _ T2 (mkF m 114 #[.val (.int p1), .val (.int p2), .val (.int nu), .val (.int (0 : Int32)), .val (.int ((128 : Int32) + nu)), .val (.int (1 : Int32)), .val (.int (1 : Int32)), .val (.int (1 : Int32)), .unset, .unset, .unset] [(.int nu), (.int ((128 : Int32) ||| (0 : Int32)))])
      refine Go.st (fun t k => XS.ior X2.here hx rfl (hb hby at_114) rfl k) ?_
      show Go _ _ _ _ T2 (mkF m 115 #[.val (.int p1), .val (.int p2), .val (.int nu), .val (.int (0 : Int32)), .val (.int ((128 : Int32) + nu)), .val (.int (1 : Int32)), .val (.int (1 : Int32)), .val (.int (1 : Int32)), .unset, .unset, .unset] [(.int (((128 : Int32) ||| (0 : Int32)) ||| nu))])
      refine Go.st (fun t k => XS.istore X2.here hx rfl (hb hby at_115) rfl (l' := #[.val (.int p1), .val (.int p2), .val (.int nu), .val (.int (0 : Int32)), .val (.int ((128 : Int32) + nu)), .val (.int (1 : Int32)), .val (.int (1 : Int32)), .val (.int (1 : Int32)), .val (.int (((128 : Int32) ||| (0 : Int32)) ||| nu)), .unset, .unset]) rfl k) ?_
      show Go _ _ _ _ T2 (mkF m 117 #[.val (.int p1), .val (.int p2), .val (.int nu), .val (.int (0 : Int32)), .val (.int ((128 : Int32) + nu)), .val (.int (1 : Int32)), .val (.int (1 : Int32)), .val (.int (1 : Int32)), .val (.int (((128 : Int32) ||| (0 : Int32)) ||| nu)), .unset, .unset] [])
      refine Go.st (fun t k => XS.iconst X2.here hx rfl (hb hby at_117) k) ?_
      show Go _ _ _ _ T2 (mkF m 118 #[.val (.int p1), .val (.int p2), .val (.int nu), .val (.int (0 : Int32)), .val (.int ((128 : Int32) + nu)), .val (.int (1 : Int32)), .val (.int (1 : Int32)), .val (.int (1 : Int32)), .val (.int (((128 : Int32) ||| (0 : Int32)) ||| nu)), .unset, .unset] [(.int (2 : Int32))])
      refine goNew X2 hx hZ (hw _ (List.mem_of_getElem? (i := 5) rfl)) e2 Z0 (by decide) (show Int32.toNatClampNeg (2 : Int32) = 2 from rfl) 2 (by decide) (by decide) (by decide) (by decide) (g := (mkF m 118 #[.val (.int p1), .val (.int p2), .val (.int nu), .val (.int (0 : Int32)), .val (.int ((128 : Int32) + nu)), .val (.int (1 : Int32)), .val (.int (1 : Int32)), .val (.int (1 : Int32)), .val (.int (((128 : Int32) ||| (0 : Int32)) ||| nu)), .unset, .unset] [(.int (2 : Int32))])) rfl rfl (hb hby at_118) ?_
      intro T3 h3 b3 X3 e3 E3 qz3 g_b3 Z3 V_b3
      replace V_b3 : BA Z h3 b3 .byte 2 (fun _ => (.int (0 : Int32))) := V_b3
      show Go _ _ _ _ T3 (mkF m 120 #[.val (.int p1), .val (.int p2), .val (.int nu), .val (.int (0 : Int32)), .val (.int ((128 : Int32) + nu)), .val (.int (1 : Int32)), .val (.int (1 : Int32)), .val (.int (1 : Int32)), .val (.int (((128 : Int32) ||| (0 : Int32)) ||| nu)), .unset, .unset] [(.ref b3)])
      refine Go.st (fun t k => XS.dup X3.here hx rfl (hb hby at_120) rfl rfl k) ?_
      show Go _ _ _ _ T3 (mkF m 121 #[.val (.int p1), .val (.int p2), .val (.int nu), .val (.int (0 : Int32)), .val (.int ((128 : Int32) + nu)), .val (.int (1 : Int32)), .val (.int (1 : Int32)), .val (.int (1 : Int32)), .val (.int (((128 : Int32) ||| (0 : Int32)) ||| nu)), .unset, .unset] [(.ref b3), (.ref b3)])
      refine Go.st (fun t k => XS.iconst X3.here hx rfl (hb hby at_121) k) ?_
      show Go _ _ _ _ T3 (mkF m 122 #[.val (.int p1), .val (.int p2), .val (.int nu), .val (.int (0 : Int32)), .val (.int ((128 : Int32) + nu)), .val (.int (1 : Int32)), .val (.int (1 : Int32)), .val (.int (1 : Int32)), .val (.int (((128 : Int32) ||| (0 : Int32)) ||| nu)), .unset, .unset] [(.int (0 : Int32)), (.ref b3), (.ref b3)])
      refine Go.st (fun t k => XS.iload X3.here hx rfl (hb hby at_122) rfl k) ?_
      show Go _ _ _ _ T3 (mkF m 124 #[.val (.int p1), .val (.int p2), .val (.int nu), .val (.int (0 : Int32)), .val (.int ((128 : Int32) + nu)), .val (.int (1 : Int32)), .val (.int (1 : Int32)), .val (.int (1 : Int32)), .val (.int (((128 : Int32) ||| (0 : Int32)) ||| nu)), .unset, .unset] [(.int (((128 : Int32) ||| (0 : Int32)) ||| nu)), (.int (0 : Int32)), (.ref b3), (.ref b3)])
      refine Go.st (fun t k => XS.i2b X3.here hx rfl (hb hby at_124) rfl k) ?_
      show Go _ _ _ _ T3 (mkF m 125 #[.val (.int p1), .val (.int p2), .val (.int nu), .val (.int (0 : Int32)), .val (.int ((128 : Int32) + nu)), .val (.int (1 : Int32)), .val (.int (1 : Int32)), .val (.int (1 : Int32)), .val (.int (((128 : Int32) ||| (0 : Int32)) ||| nu)), .unset, .unset] [(.int ((((128 : Int32) ||| (0 : Int32)) ||| nu).toInt8.toInt32)), (.int (0 : Int32)), (.ref b3), (.ref b3)])
      refine goStB X3 hx hZ e3 N2 V_b3 g_b3 (g := (mkF m 125 #[.val (.int p1), .val (.int p2), .val (.int nu), .val (.int (0 : Int32)), .val (.int ((128 : Int32) + nu)), .val (.int (1 : Int32)), .val (.int (1 : Int32)), .val (.int (1 : Int32)), .val (.int (((128 : Int32) ||| (0 : Int32)) ||| nu)), .unset, .unset] [(.int ((((128 : Int32) ||| (0 : Int32)) ||| nu).toInt8.toInt32)), (.int (0 : Int32)), (.ref b3), (.ref b3)])) rfl rfl (hb hby at_125) (k := 0) ⟨by decide, rfl, by decide⟩ ?_
      intro T4 h4 L4 X4 e4 N4 W4 V_b3
      have Z4 := own_sz W4 Z3
      show Go _ _ _ _ T4 (mkF m 126 #[.val (.int p1), .val (.int p2), .val (.int nu), .val (.int (0 : Int32)), .val (.int ((128 : Int32) + nu)), .val (.int (1 : Int32)), .val (.int (1 : Int32)), .val (.int (1 : Int32)), .val (.int (((128 : Int32) ||| (0 : Int32)) ||| nu)), .unset, .unset] [(.ref b3)])
      refine Go.st (fun t k => XS.dup X4.here hx rfl (hb hby at_126) rfl rfl k) ?_
      show Go _ _ _ _ T4 (mkF m 127 #[.val (.int p1), .val (.int p2), .val (.int nu), .val (.int (0 : Int32)), .val (.int ((128 : Int32) + nu)), .val (.int (1 : Int32)), .val (.int (1 : Int32)), .val (.int (1 : Int32)), .val (.int (((128 : Int32) ||| (0 : Int32)) ||| nu)), .unset, .unset] [(.ref b3), (.ref b3)])
      refine Go.st (fun t k => XS.iconst X4.here hx rfl (hb hby at_127) k) ?_
      show Go _ _ _ _ T4 (mkF m 128 #[.val (.int p1), .val (.int p2), .val (.int nu), .val (.int (0 : Int32)), .val (.int ((128 : Int32) + nu)), .val (.int (1 : Int32)), .val (.int (1 : Int32)), .val (.int (1 : Int32)), .val (.int (((128 : Int32) ||| (0 : Int32)) ||| nu)), .unset, .unset] [(.int (1 : Int32)), (.ref b3), (.ref b3)])
      refine Go.st (fun t k => XS.iconst X4.here hx rfl (hb hby at_128) k) ?_
      show Go _ _ _ _ T4 (mkF m 129 #[.val (.int p1), .val (.int p2), .val (.int nu), .val (.int (0 : Int32)), .val (.int ((128 : Int32) + nu)), .val (.int (1 : Int32)), .val (.int (1 : Int32)), .val (.int (1 : Int32)), .val (.int (((128 : Int32) ||| (0 : Int32)) ||| nu)), .unset, .unset] [(.int (0 : Int32)), (.int (1 : Int32)), (.ref b3), (.ref b3)])
      refine goStB X4 hx hZ e4 N4 V_b3 g_b3 (g := (mkF m 129 #[.val (.int p1), .val (.int p2), .val (.int nu), .val (.int (0 : Int32)), .val (.int ((128 : Int32) + nu)), .val (.int (1 : Int32)), .val (.int (1 : Int32)), .val (.int (1 : Int32)), .val (.int (((128 : Int32) ||| (0 : Int32)) ||| nu)), .unset, .unset] [(.int (0 : Int32)), (.int (1 : Int32)), (.ref b3), (.ref b3)])) rfl rfl (hb hby at_129) (k := 1) ⟨by decide, rfl, by decide⟩ ?_
      intro T5 h5 L5 X5 e5 N5 W5 V_b3
      have Z5 := own_sz W5 Z4
      show Go _ _ _ _ T5 (mkF m 130 #[.val (.int p1), .val (.int p2), .val (.int nu), .val (.int (0 : Int32)), .val (.int ((128 : Int32) + nu)), .val (.int (1 : Int32)), .val (.int (1 : Int32)), .val (.int (1 : Int32)), .val (.int (((128 : Int32) ||| (0 : Int32)) ||| nu)), .unset, .unset] [(.ref b3)])
      refine Go.st (fun t k => XS.astore X5.here hx rfl (hb hby at_130) rfl rfl (l' := #[.val (.int p1), .val (.int p2), .val (.int nu), .val (.int (0 : Int32)), .val (.int ((128 : Int32) + nu)), .val (.int (1 : Int32)), .val (.int (1 : Int32)), .val (.int (1 : Int32)), .val (.int (((128 : Int32) ||| (0 : Int32)) ||| nu)), .val (.ref b3), .unset]) rfl k) ?_
      show Go _ _ _ _ T5 (mkF m 132 #[.val (.int p1), .val (.int p2), .val (.int nu), .val (.int (0 : Int32)), .val (.int ((128 : Int32) + nu)), .val (.int (1 : Int32)), .val (.int (1 : Int32)), .val (.int (1 : Int32)), .val (.int (((128 : Int32) ||| (0 : Int32)) ||| nu)), .val (.ref b3), .unset] [])
      obtain ⟨T6, h6, X6, e6, E6, A6, D6, -, st6⟩ := newO X5 hx hZ hown (hw _ (List.mem_of_getElem? (i := 6) rfl)) (hw _ (List.mem_of_getElem? (i := 7) rfl)) (hw _ (List.mem_of_getElem? (i := 3) rfl)) e5 (g := (mkF m 132 #[.val (.int p1), .val (.int p2), .val (.int nu), .val (.int (0 : Int32)), .val (.int ((128 : Int32) + nu)), .val (.int (1 : Int32)), .val (.int (1 : Int32)), .val (.int (1 : Int32)), .val (.int (((128 : Int32) ||| (0 : Int32)) ||| nu)), .val (.ref b3), .unset] [])) rfl (hb hby at_132) (by decide) (by decide)
      obtain ⟨b6, qz6⟩ : ∃ z, z = h5.size := ⟨_, rfl⟩
      rw [← qz6] at A6 D6 st6
      have g_b6 : n0 ≤ b6 := Nat.le_trans Z5 (Nat.le_of_eq qz6.symm)
      have Z6 := Nat.le_trans Z5 E6.1
      have ne_b3_b6 : b3 ≠ b6 := fun z => absurd V_b3.lt (by rw [z, qz6]; exact Nat.lt_irrefl _)
      have V_b3 := V_b3.ext E6
      have E_b6 := A6
      have F_data_b6 : Fld Z h6 b6 "com/example/vetter/vetter/io/DerReader" "data" "[B" .null := D6 (Or.inr (hw _ (List.mem_of_getElem? (i := 15) rfl))) (ty := (.array .byte)) (by decide)
      have F_position_b6 : Fld Z h6 b6 "com/example/vetter/vetter/io/DerReader" "position" "I" (.int (0 : Int32)) := D6 (Or.inl (hw _ (List.mem_of_getElem? (i := 22) rfl))) (ty := .int) (by decide)
      refine Go.st st6 ?_
      show Go _ _ _ _ T6 (mkF m 135 #[.val (.int p1), .val (.int p2), .val (.int nu), .val (.int (0 : Int32)), .val (.int ((128 : Int32) + nu)), .val (.int (1 : Int32)), .val (.int (1 : Int32)), .val (.int (1 : Int32)), .val (.int (((128 : Int32) ||| (0 : Int32)) ||| nu)), .val (.ref b3), .unset] [(.ref b6)])
      refine Go.st (fun t k => XS.dup X6.here hx rfl (hb hby at_135) rfl rfl k) ?_
      show Go _ _ _ _ T6 (mkF m 136 #[.val (.int p1), .val (.int p2), .val (.int nu), .val (.int (0 : Int32)), .val (.int ((128 : Int32) + nu)), .val (.int (1 : Int32)), .val (.int (1 : Int32)), .val (.int (1 : Int32)), .val (.int (((128 : Int32) ||| (0 : Int32)) ||| nu)), .val (.ref b3), .unset] [(.ref b6), (.ref b6)])
      refine Go.st (fun t k => XS.aload X6.here hx rfl (hb hby at_136) rfl rfl k) ?_
      show Go _ _ _ _ T6 (mkF m 138 #[.val (.int p1), .val (.int p2), .val (.int nu), .val (.int (0 : Int32)), .val (.int ((128 : Int32) + nu)), .val (.int (1 : Int32)), .val (.int (1 : Int32)), .val (.int (1 : Int32)), .val (.int (((128 : Int32) ||| (0 : Int32)) ||| nu)), .val (.ref b3), .unset] [(.ref b3), (.ref b6), (.ref b6)])
      have hb2 : b6 = b6 := rfl
      refine goC X6 hx hZ (y := (⟨"com/example/vetter/vetter/io/DerReader", "<init>", "([B)V"⟩ : MethodName)) rfl hown (hw _ (List.mem_of_getElem? (i := 8) rfl)) (hw _ (List.mem_of_getElem? (i := 9) rfl)) (hw _ (List.mem_of_getElem? (i := 3) rfl)) (hw _ (List.mem_of_getElem? (i := 10) rfl)) (by decide) (rm2 l Z a0 hw b6 b3 h6 n0 Z6 E_b6 F_data_b6 F_position_b6 g_b6) e6 N5 1 (by decide) (by decide) (by decide) (by decide) (g := (mkF m 138 #[.val (.int p1), .val (.int p2), .val (.int nu), .val (.int (0 : Int32)), .val (.int ((128 : Int32) + nu)), .val (.int (1 : Int32)), .val (.int (1 : Int32)), .val (.int (1 : Int32)), .val (.int (((128 : Int32) ||| (0 : Int32)) ||| nu)), .val (.ref b3), .unset] [(.ref b3), (.ref b6), (.ref b6)])) rfl (by rw [hml]; rfl) [(.ref b3)] [(.ref b6)] (lenOf pd0_1 rfl) rfl rfl (by show 2 * 0 + _ ≤ _; exact Nat.le_of_eq rfl) (hb hby at_138) ?_
      intro T7 v7 L7 M7 X7 N7 hq7
      obtain ⟨rfl, N7q, K7, E_b6, F_data_b6, F_position_b6⟩ := hq7
      replace N7 := N7 N7q
      have Z7 := Nat.le_trans Z6 K7.1
      have V_b3 := V_b3.keep K7 (ninS ne_b3_b6 nin0)
      show Go _ _ _ _ T7 (mkF m 141 #[.val (.int p1), .val (.int p2), .val (.int nu), .val (.int (0 : Int32)), .val (.int ((128 : Int32) + nu)), .val (.int (1 : Int32)), .val (.int (1 : Int32)), .val (.int (1 : Int32)), .val (.int (((128 : Int32) ||| (0 : Int32)) ||| nu)), .val (.ref b3), .unset] [(.ref b6)])
      refine Go.st (fun t k => XS.iload X7.here hx rfl (hb hby at_141) rfl k) ?_
      show Go _ _ _ _ T7 (mkF m 143 #[.val (.int p1), .val (.int p2), .val (.int nu), .val (.int (0 : Int32)), .val (.int ((128 : Int32) + nu)), .val (.int (1 : Int32)), .val (.int (1 : Int32)), .val (.int (1 : Int32)), .val (.int (((128 : Int32) ||| (0 : Int32)) ||| nu)), .val (.ref b3), .unset] [(.int ((128 : Int32) + nu)), (.ref b6)])
      refine goM X7 hx hZ (y := (⟨"com/example/vetter/vetter/io/DerReader", "nextIs", "(I)Z"⟩ : MethodName)) (z := (⟨"com/example/vetter/vetter/io/DerReader", "nextIs", "(I)Z"⟩ : MethodName)) hown (hw _ (List.mem_of_getElem? (i := 16) rfl)) (hw _ (List.mem_of_getElem? (i := 17) rfl)) (hw _ (List.mem_of_getElem? (i := 19) rfl)) (hw _ (List.mem_of_getElem? (i := 18) rfl)) (hw _ (List.mem_of_getElem? (i := 20) rfl)) (hw _ (List.mem_of_getElem? (i := 3) rfl)) (notFace_of_selects (args := #[]) (mvT hZ (hw _ (List.mem_of_getElem? (i := 19) rfl)))) (by decide) (rm4 l Z a0 hw b6 ((128 : Int32) + nu) T7.heap n0 Z7 0 b3 2 _ 2 (((((128 : Int32) ||| (0 : Int32)) ||| nu).toInt8.toInt32).toInt8.toInt32) F_position_b6 F_data_b6 V_b3 rfl (fun _ => ⟨0, ⟨by decide, by decide, by decide⟩, by simp⟩)) rfl N7 E_b6 0 (by decide) (by decide) (by decide) (by decide) (g := (mkF m 143 #[.val (.int p1), .val (.int p2), .val (.int nu), .val (.int (0 : Int32)), .val (.int ((128 : Int32) + nu)), .val (.int (1 : Int32)), .val (.int (1 : Int32)), .val (.int (1 : Int32)), .val (.int (((128 : Int32) ||| (0 : Int32)) ||| nu)), .val (.ref b3), .unset] [(.int ((128 : Int32) + nu)), (.ref b6)])) rfl (by rw [hml]; rfl) [(.int ((128 : Int32) + nu))] [] (lenOf pd0_2 rfl) rfl rfl (by show 2 * 0 + _ ≤ _; exact Nat.le_of_eq rfl) (hb hby at_143) ?_
      intro T8 v8 L8 M8 X8 N8 hq8
      obtain ⟨hq8, N8q, e8⟩ := hq8
      replace N8 := N8 N8q
      rcases hq8 with ⟨-, hr8, rfl⟩ | ⟨hr8, rfl⟩
      ·
        show Go _ _ _ _ T8 (mkF m 146 #[.val (.int p1), .val (.int p2), .val (.int nu), .val (.int (0 : Int32)), .val (.int ((128 : Int32) + nu)), .val (.int (1 : Int32)), .val (.int (1 : Int32)), .val (.int (1 : Int32)), .val (.int (((128 : Int32) ||| (0 : Int32)) ||| nu)), .val (.ref b3), .unset] [(.int (1 : Int32))])
        refine Go.st (fun t k => XS.istore X8.here hx rfl (hb hby at_146) rfl (l' := #[.val (.int p1), .val (.int p2), .val (.int nu), .val (.int (0 : Int32)), .val (.int ((128 : Int32) + nu)), .val (.int (1 : Int32)), .val (.int (1 : Int32)), .val (.int (1 : Int32)), .val (.int (((128 : Int32) ||| (0 : Int32)) ||| nu)), .val (.ref b3), .val (.int (1 : Int32))]) rfl k) ?_
        show Go _ _ _ _ T8 (mkF m 148 #[.val (.int p1), .val (.int p2), .val (.int nu), .val (.int (0 : Int32)), .val (.int ((128 : Int32) + nu)), .val (.int (1 : Int32)), .val (.int (1 : Int32)), .val (.int (1 : Int32)), .val (.int (((128 : Int32) ||| (0 : Int32)) ||| nu)), .val (.ref b3), .val (.int (1 : Int32))] [])
        refine Go.st (fun t k => XS.iload X8.here hx rfl (hb hby at_148) rfl k) ?_
        show Go _ _ _ _ T8 (mkF m 150 #[.val (.int p1), .val (.int p2), .val (.int nu), .val (.int (0 : Int32)), .val (.int ((128 : Int32) + nu)), .val (.int (1 : Int32)), .val (.int (1 : Int32)), .val (.int (1 : Int32)), .val (.int (((128 : Int32) ||| (0 : Int32)) ||| nu)), .val (.ref b3), .val (.int (1 : Int32))] [(.int (1 : Int32))])
        refine Go.st (fun t k => XS.ifNo X8.here hx rfl (hb hby at_150) rfl (by decide) k) ?_
        show Go _ _ _ _ T8 (mkF m 153 #[.val (.int p1), .val (.int p2), .val (.int nu), .val (.int (0 : Int32)), .val (.int ((128 : Int32) + nu)), .val (.int (1 : Int32)), .val (.int (1 : Int32)), .val (.int (1 : Int32)), .val (.int (((128 : Int32) ||| (0 : Int32)) ||| nu)), .val (.ref b3), .val (.int (1 : Int32))] [])
        refine Go.st (fun t k => XS.iload X8.here hx rfl (hb hby at_153) rfl k) ?_
        show Go _ _ _ _ T8 (mkF m 155 #[.val (.int p1), .val (.int p2), .val (.int nu), .val (.int (0 : Int32)), .val (.int ((128 : Int32) + nu)), .val (.int (1 : Int32)), .val (.int (1 : Int32)), .val (.int (1 : Int32)), .val (.int (((128 : Int32) ||| (0 : Int32)) ||| nu)), .val (.ref b3), .val (.int (1 : Int32))] [(.int (1 : Int32))])
        refine Go.st (fun t k => XS.ifNo X8.here hx rfl (hb hby at_155) rfl (by decide) k) ?_
        show Go _ _ _ _ T8 (mkF m 158 #[.val (.int p1), .val (.int p2), .val (.int nu), .val (.int (0 : Int32)), .val (.int ((128 : Int32) + nu)), .val (.int (1 : Int32)), .val (.int (1 : Int32)), .val (.int (1 : Int32)), .val (.int (((128 : Int32) ||| (0 : Int32)) ||| nu)), .val (.ref b3), .val (.int (1 : Int32))] [])
        refine Go.st (fun t k => XS.iload X8.here hx rfl (hb hby at_158) rfl k) ?_
        show Go _ _ _ _ T8 (mkF m 160 #[.val (.int p1), .val (.int p2), .val (.int nu), .val (.int (0 : Int32)), .val (.int ((128 : Int32) + nu)), .val (.int (1 : Int32)), .val (.int (1 : Int32)), .val (.int (1 : Int32)), .val (.int (((128 : Int32) ||| (0 : Int32)) ||| nu)), .val (.ref b3), .val (.int (1 : Int32))] [(.int (1 : Int32))])
        refine Go.st (fun t k => XS.ifNo X8.here hx rfl (hb hby at_160) rfl (by decide) k) ?_
        show Go _ _ _ _ T8 (mkF m 163 #[.val (.int p1), .val (.int p2), .val (.int nu), .val (.int (0 : Int32)), .val (.int ((128 : Int32) + nu)), .val (.int (1 : Int32)), .val (.int (1 : Int32)), .val (.int (1 : Int32)), .val (.int (((128 : Int32) ||| (0 : Int32)) ||| nu)), .val (.ref b3), .val (.int (1 : Int32))] [])
        refine Go.st (fun t k => XS.iload X8.here hx rfl (hb hby at_163) rfl k) ?_
        show Go _ _ _ _ T8 (mkF m 165 #[.val (.int p1), .val (.int p2), .val (.int nu), .val (.int (0 : Int32)), .val (.int ((128 : Int32) + nu)), .val (.int (1 : Int32)), .val (.int (1 : Int32)), .val (.int (1 : Int32)), .val (.int (((128 : Int32) ||| (0 : Int32)) ||| nu)), .val (.ref b3), .val (.int (1 : Int32))] [(.int (1 : Int32))])
        refine Go.st (fun t k => XS.ifNo X8.here hx rfl (hb hby at_165) rfl (by decide) k) ?_
        show Go _ _ _ _ T8 (mkF m 168 #[.val (.int p1), .val (.int p2), .val (.int nu), .val (.int (0 : Int32)), .val (.int ((128 : Int32) + nu)), .val (.int (1 : Int32)), .val (.int (1 : Int32)), .val (.int (1 : Int32)), .val (.int (((128 : Int32) ||| (0 : Int32)) ||| nu)), .val (.ref b3), .val (.int (1 : Int32))] [])
        refine Go.st (fun t k => XS.iconst X8.here hx rfl (hb hby at_168) k) ?_
        show Go _ _ _ _ T8 (mkF m 169 #[.val (.int p1), .val (.int p2), .val (.int nu), .val (.int (0 : Int32)), .val (.int ((128 : Int32) + nu)), .val (.int (1 : Int32)), .val (.int (1 : Int32)), .val (.int (1 : Int32)), .val (.int (((128 : Int32) ||| (0 : Int32)) ||| nu)), .val (.ref b3), .val (.int (1 : Int32))] [(.int (1 : Int32))])
        refine Go.st (fun t k => XS.goto X8.here hx rfl (pc0 := 169) (pc' := 173) rfl (hb hby at_169) (by decide) (by decide) k) ?_
        show Go _ _ _ _ T8 (mkF m 173 #[.val (.int p1), .val (.int p2), .val (.int nu), .val (.int (0 : Int32)), .val (.int ((128 : Int32) + nu)), .val (.int (1 : Int32)), .val (.int (1 : Int32)), .val (.int (1 : Int32)), .val (.int (((128 : Int32) ||| (0 : Int32)) ||| nu)), .val (.ref b3), .val (.int (1 : Int32))] [(.int (1 : Int32))])
        exact goN X8 hx hret hlk (by simp) (hb hby at_173) (by decide) (by decide) ⟨rfl, N8⟩
      ·
        exact absurd ⟨by decide, hf5⟩ hr8
    ·
      exact absurd rfl hr2
  ·
    refine Go.st (fun t k => XS.ifNo X0.here hx rfl (hb hby at_11) rfl ((if0 _ _).trans (feq hfl).1) k) ?_
    show Go _ _ _ _ T0 (mkF m 14 #[.val (.int p1), .val (.int p2), .val (.int nu), .unset, .unset, .unset, .unset, .unset, .unset, .unset, .unset] [])
    refine Go.st (fun t k => XS.iconst X0.here hx rfl (hb hby at_14) k) ?_
    show Go _ _ _ _ T0 (mkF m 15 #[.val (.int p1), .val (.int p2), .val (.int nu), .unset, .unset, .unset, .unset, .unset, .unset, .unset, .unset] [(.int (1 : Int32))])
    refine Go.st (fun t k => XS.goto X0.here hx rfl (pc0 := 15) (pc' := 19) rfl (hb hby at_15) (by decide) (by decide) k) ?_
    show Go _ _ _ _ T0 (mkF m 19 #[.val (.int p1), .val (.int p2), .val (.int nu), .unset, .unset, .unset, .unset, .unset, .unset, .unset, .unset] [(.int (1 : Int32))])
    refine Go.st (fun t k => XS.istoreN X0.here hx rfl (hb hby at_19) rfl (l' := #[.val (.int p1), .val (.int p2), .val (.int nu), .val (.int (1 : Int32)), .unset, .unset, .unset, .unset, .unset, .unset, .unset]) rfl k) ?_
    show Go _ _ _ _ T0 (mkF m 20 #[.val (.int p1), .val (.int p2), .val (.int nu), .val (.int (1 : Int32)), .unset, .unset, .unset, .unset, .unset, .unset, .unset] [])
    refine Go.st (fun t k => XS.iloadN X0.here hx rfl (hb hby at_20) rfl k) ?_
    show Go _ _ _ _ T0 (mkF m 21 #[.val (.int p1), .val (.int p2), .val (.int nu), .val (.int (1 : Int32)), .unset, .unset, .unset, .unset, .unset, .unset, .unset] [(.int nu)])
    refine Go.st (fun t k => XS.iloadN X0.here hx rfl (hb hby at_21) rfl k) ?_
    show Go _ _ _ _ T0 (mkF m 22 #[.val (.int p1), .val (.int p2), .val (.int nu), .val (.int (1 : Int32)), .unset, .unset, .unset, .unset, .unset, .unset, .unset] [(.int (1 : Int32)), (.int nu)])
    refine goS X0 hx hZ (y := (⟨"com/example/vetter/vetter/io/DerReader", "contextTag", "(IZ)I"⟩ : MethodName)) hown (hw _ (List.mem_of_getElem? (i := 1) rfl)) (hw _ (List.mem_of_getElem? (i := 2) rfl)) (hw _ (List.mem_of_getElem? (i := 3) rfl)) (hw _ (List.mem_of_getElem? (i := 4) rfl)) (by decide) (rm1 l Z a0 hw nu (1 : Int32) h0 n0 Z0) e0 N0 0 (by decide) (by decide) (by decide) (by decide) (g := (mkF m 22 #[.val (.int p1), .val (.int p2), .val (.int nu), .val (.int (1 : Int32)), .unset, .unset, .unset, .unset, .unset, .unset, .unset] [(.int (1 : Int32)), (.int nu)])) rfl (by rw [hml]; rfl) [(.int nu), (.int (1 : Int32))] [] (lenOf pd0_0 rfl) rfl rfl (by show 2 * 0 + _ ≤ _; exact Nat.le_of_eq rfl) (hb hby at_22) ?_
    intro T9 v9 L9 M9 X9 N9 hq9
    obtain ⟨hq9, N9q, e9⟩ := hq9
    replace N9 := N9 N9q
    rcases hq9 with ⟨hr9, rfl⟩ | ⟨hr9, rfl⟩
    ·
      exact absurd hr9 (by decide)
    ·
      obtain ⟨hf0, hf1, hf2, hf3, hf4, hf5⟩ := HT
      show Go _ _ _ _ T9 (mkF m 25 #[.val (.int p1), .val (.int p2), .val (.int nu), .val (.int (1 : Int32)), .unset, .unset, .unset, .unset, .unset, .unset, .unset] [(.int ((160 : Int32) + nu))])
      refine Go.st (fun t k => XS.istore X9.here hx rfl (hb hby at_25) rfl (l' := #[.val (.int p1), .val (.int p2), .val (.int nu), .val (.int (1 : Int32)), .val (.int ((160 : Int32) + nu)), .unset, .unset, .unset, .unset, .unset, .unset]) rfl k) ?_
      show Go _ _ _ _ T9 (mkF m 27 #[.val (.int p1), .val (.int p2), .val (.int nu), .val (.int (1 : Int32)), .val (.int ((160 : Int32) + nu)), .unset, .unset, .unset, .unset, .unset, .unset] [])
      refine Go.st (fun t k => XS.iload X9.here hx rfl (hb hby at_27) rfl k) ?_
      show Go _ _ _ _ T9 (mkF m 29 #[.val (.int p1), .val (.int p2), .val (.int nu), .val (.int (1 : Int32)), .val (.int ((160 : Int32) + nu)), .unset, .unset, .unset, .unset, .unset, .unset] [(.int ((160 : Int32) + nu))])
      refine Go.st (fun t k => XS.ifNo X9.here hx rfl (hb hby at_29) rfl ((if0 _ _).trans (flt hf0).1) k) ?_
      show Go _ _ _ _ T9 (mkF m 32 #[.val (.int p1), .val (.int p2), .val (.int nu), .val (.int (1 : Int32)), .val (.int ((160 : Int32) + nu)), .unset, .unset, .unset, .unset, .unset, .unset] [])
      refine Go.st (fun t k => XS.iload X9.here hx rfl (hb hby at_32) rfl k) ?_
      show Go _ _ _ _ T9 (mkF m 34 #[.val (.int p1), .val (.int p2), .val (.int nu), .val (.int (1 : Int32)), .val (.int ((160 : Int32) + nu)), .unset, .unset, .unset, .unset, .unset, .unset] [(.int ((160 : Int32) + nu))])
      refine Go.st (fun t k => XS.sipush X9.here hx rfl (hb hby at_34) k) ?_
      show Go _ _ _ _ T9 (mkF m 37 #[.val (.int p1), .val (.int p2), .val (.int nu), .val (.int (1 : Int32)), .val (.int ((160 : Int32) + nu)), .unset, .unset, .unset, .unset, .unset, .unset] [(.int (255 : Int32)), (.int ((160 : Int32) + nu))])
      refine Go.st (fun t k => XS.icmpYes X9.here hx rfl (pc0 := 37) (pc' := 42) rfl (hb hby at_37) rfl (flt hf1).2.2.2 (by decide) (by decide) k) ?_
      show Go _ _ _ _ T9 (mkF m 42 #[.val (.int p1), .val (.int p2), .val (.int nu), .val (.int (1 : Int32)), .val (.int ((160 : Int32) + nu)), .unset, .unset, .unset, .unset, .unset, .unset] [])
      refine Go.st (fun t k => XS.iload X9.here hx rfl (hb hby at_42) rfl k) ?_
      show Go _ _ _ _ T9 (mkF m 44 #[.val (.int p1), .val (.int p2), .val (.int nu), .val (.int (1 : Int32)), .val (.int ((160 : Int32) + nu)), .unset, .unset, .unset, .unset, .unset, .unset] [(.int ((160 : Int32) + nu))])
      refine Go.st (fun t k => XS.bipush X9.here hx rfl (hb hby at_44) k) ?_
      show Go _ _ _ _ T9 (mkF m 46 #[.val (.int p1), .val (.int p2), .val (.int nu), .val (.int (1 : Int32)), .val (.int ((160 : Int32) + nu)), .unset, .unset, .unset, .unset, .unset, .unset] [(.int (6 : Int32)), (.int ((160 : Int32) + nu))])
      refine Go.st (fun t k => XS.ishr X9.here hx rfl (hb hby at_46) rfl k) ?_
      show Go _ _ _ _ T9 (mkF m 47 #[.val (.int p1), .val (.int p2), .val (.int nu), .val (.int (1 : Int32)), .val (.int ((160 : Int32) + nu)), .unset, .unset, .unset, .unset, .unset, .unset] [(.int (((160 : Int32) + nu) >>> ((6 : Int32) &&& 31)))])
      refine Go.st (fun t k => XS.iconst X9.here hx rfl (hb hby at_47) k) ?_
      show Go _ _ _ _ T9 (mkF m 48 #[.val (.int p1), .val (.int p2), .val (.int nu), .val (.int (1 : Int32)), .val (.int ((160 : Int32) + nu)), .unset, .unset, .unset, .unset, .unset, .unset] [(.int (2 : Int32)), (.int (((160 : Int32) + nu) >>> ((6 : Int32) &&& 31)))])
      refine Go.st (fun t k => XS.icmpNo X9.here hx rfl (hb hby at_48) rfl (teq hf2).2 k) ?_
      show Go _ _ _ _ T9 (mkF m 51 #[.val (.int p1), .val (.int p2), .val (.int nu), .val (.int (1 : Int32)), .val (.int ((160 : Int32) + nu)), .unset, .unset, .unset, .unset, .unset, .unset] [])
      refine Go.st (fun t k => XS.iconst X9.here hx rfl (hb hby at_51) k) ?_
      show Go _ _ _ _ T9 (mkF m 52 #[.val (.int p1), .val (.int p2), .val (.int nu), .val (.int (1 : Int32)), .val (.int ((160 : Int32) + nu)), .unset, .unset, .unset, .unset, .unset, .unset] [(.int (1 : Int32))])
      refine Go.st (fun t k => XS.goto X9.here hx rfl (pc0 := 52) (pc' := 56) rfl (hb hby at_52) (by decide) (by decide) k) ?_
      show Go _ _ _ _ T9 (mkF m 56 #[.val (.int p1), .val (.int p2), .val (.int nu), .val (.int (1 : Int32)), .val (.int ((160 : Int32) + nu)), .unset, .unset, .unset, .unset, .unset, .unset] [(.int (1 : Int32))])
      refine Go.st (fun t k => XS.istore X9.here hx rfl (hb hby at_56) rfl (l' := #[.val (.int p1), .val (.int p2), .val (.int nu), .val (.int (1 : Int32)), .val (.int ((160 : Int32) + nu)), .val (.int (1 : Int32)), .unset, .unset, .unset, .unset, .unset]) rfl k) ?_
      show Go _ _ _ _ T9 (mkF m 58 #[.val (.int p1), .val (.int p2), .val (.int nu), .val (.int (1 : Int32)), .val (.int ((160 : Int32) + nu)), .val (.int (1 : Int32)), .unset, .unset, .unset, .unset, .unset] [])
      refine Go.st (fun t k => XS.iload X9.here hx rfl (hb hby at_58) rfl k) ?_
      show Go _ _ _ _ T9 (mkF m 60 #[.val (.int p1), .val (.int p2), .val (.int nu), .val (.int (1 : Int32)), .val (.int ((160 : Int32) + nu)), .val (.int (1 : Int32)), .unset, .unset, .unset, .unset, .unset] [(.int ((160 : Int32) + nu))])
      refine Go.st (fun t k => XS.iconst X9.here hx rfl (hb hby at_60) k) ?_
      show Go _ _ _ _ T9 (mkF m 61 #[.val (.int p1), .val (.int p2), .val (.int nu), .val (.int (1 : Int32)), .val (.int ((160 : Int32) + nu)), .val (.int (1 : Int32)), .unset, .unset, .unset, .unset, .unset] [(.int (5 : Int32)), (.int ((160 : Int32) + nu))])
      refine Go.st (fun t k => XS.ishr X9.here hx rfl (hb hby at_61) rfl k) ?_
      show Go _ _ _ _ T9 (mkF m 62 #[.val (.int p1), .val (.int p2), .val (.int nu), .val (.int (1 : Int32)), .val (.int ((160 : Int32) + nu)), .val (.int (1 : Int32)), .unset, .unset, .unset, .unset, .unset] [(.int (((160 : Int32) + nu) >>> ((5 : Int32) &&& 31)))])
      refine Go.st (fun t k => XS.iconst X9.here hx rfl (hb hby at_62) k) ?_
      show Go _ _ _ _ T9 (mkF m 63 #[.val (.int p1), .val (.int p2), .val (.int nu), .val (.int (1 : Int32)), .val (.int ((160 : Int32) + nu)), .val (.int (1 : Int32)), .unset, .unset, .unset, .unset, .unset] [(.int (1 : Int32)), (.int (((160 : Int32) + nu) >>> ((5 : Int32) &&& 31)))])
      refine Go.st (fun t k => XS.iand X9.here hx rfl (hb hby at_63) rfl k) ?_
      show Go _ _ _ _ T9 (mkF m 64 #[.val (.int p1), .val (.int p2), .val (.int nu), .val (.int (1 : Int32)), .val (.int ((160 : Int32) + nu)), .val (.int (1 : Int32)), .unset, .unset, .unset, .unset, .unset] [(.int ((((160 : Int32) + nu) >>> ((5 : Int32) &&& 31)) &&& (1 : Int32)))])
      refine Go.st (fun t k => XS.iloadN X9.here hx rfl (hb hby at_64) rfl k) ?_
      show Go _ _ _ _ T9 (mkF m 65 #[.val (.int p1), .val (.int p2), .val (.int nu), .val (.int (1 : Int32)), .val (.int ((160 : Int32) + nu)), .val (.int (1 : Int32)), .unset, .unset, .unset, .unset, .unset] [(.int (1 : Int32)), (.int ((((160 : Int32) + nu) >>> ((5 : Int32) &&& 31)) &&& (1 : Int32)))])
      refine Go.st (fun t k => XS.ifNo X9.here hx rfl (hb hby at_65) rfl (by decide) k) ?_
      show Go _ _ _ _ T9 (mkF m 68 #[.val (.int p1), .val (.int p2), .val (.int nu), .val (.int (1 : Int32)), .val (.int ((160 : Int32) + nu)), .val (.int (1 : Int32)), .unset, .unset, .unset, .unset, .unset] [(.int ((((160 : Int32) + nu) >>> ((5 : Int32) &&& 31)) &&& (1 : Int32)))])
      refine Go.st (fun t k => XS.iconst X9.here hx rfl (hb hby at_68) k) ?_
      show Go _ _ _ _ T9 (mkF m 69 #[.val (.int p1), .val (.int p2), .val (.int nu), .val (.int (1 : Int32)), .val (.int ((160 : Int32) + nu)), .val (.int (1 : Int32)), .unset, .unset, .unset, .unset, .unset] [(.int (1 : Int32)), (.int ((((160 : Int32) + nu) >>> ((5 : Int32) &&& 31)) &&& (1 : Int32)))])
      refine Go.st (fun t k => XS.goto X9.here hx rfl (pc0 := 69) (pc' := 73) rfl (hb hby at_69) (by decide) (by decide) k) ?_
      show Go _ _ _ _ T9 (mkF m 73 #[.val (.int p1), .val (.int p2), .val (.int nu), .val (.int (1 : Int32)), .val (.int ((160 : Int32) + nu)), .val (.int (1 : Int32)), .unset, .unset, .unset, .unset, .unset] [(.int (1 : Int32)), (.int ((((160 : Int32) + nu) >>> ((5 : Int32) &&& 31)) &&& (1 : Int32)))])
      refine Go.st (fun t k => XS.icmpNo X9.here hx rfl (hb hby at_73) rfl (teq hf3).2 k) ?_
      show Go _ _ _ _ T9 (mkF m 76 #[.val (.int p1), .val (.int p2), .val (.int nu), .val (.int (1 : Int32)), .val (.int ((160 : Int32) + nu)), .val (.int (1 : Int32)), .unset, .unset, .unset, .unset, .unset] [])
      refine Go.st (fun t k => XS.iconst X9.here hx rfl (hb hby at_76) k) ?_
      show Go _ _ _ _ T9 (mkF m 77 #[.val (.int p1), .val (.int p2), .val (.int nu), .val (.int (1 : Int32)), .val (.int ((160 : Int32) + nu)), .val (.int (1 : Int32)), .unset, .unset, .unset, .unset, .unset] [(.int (1 : Int32))])
      refine Go.st (fun t k => XS.goto X9.here hx rfl (pc0 := 77) (pc' := 81) rfl (hb hby at_77) (by decide) (by decide) k) ?_
      show Go _ _ _ _ T9 (mkF m 81 #[.val (.int p1), .val (.int p2), .val (.int nu), .val (.int (1 : Int32)), .val (.int ((160 : Int32) + nu)), .val (.int (1 : Int32)), .unset, .unset, .unset, .unset, .unset] [(.int (1 : Int32))])
      refine Go.st (fun t k => XS.istore X9.here hx rfl (hb hby at_81) rfl (l' := #[.val (.int p1), .val (.int p2), .val (.int nu), .val (.int (1 : Int32)), .val (.int ((160 : Int32) + nu)), .val (.int (1 : Int32)), .val (.int (1 : Int32)), .unset, .unset, .unset, .unset]) rfl k) ?_
      show Go _ _ _ _ T9 (mkF m 83 #[.val (.int p1), .val (.int p2), .val (.int nu), .val (.int (1 : Int32)), .val (.int ((160 : Int32) + nu)), .val (.int (1 : Int32)), .val (.int (1 : Int32)), .unset, .unset, .unset, .unset] [])
      refine Go.st (fun t k => XS.iload X9.here hx rfl (hb hby at_83) rfl k) ?_
      show Go _ _ _ _ T9 (mkF m 85 #[.val (.int p1), .val (.int p2), .val (.int nu), .val (.int (1 : Int32)), .val (.int ((160 : Int32) + nu)), .val (.int (1 : Int32)), .val (.int (1 : Int32)), .unset, .unset, .unset, .unset] [(.int ((160 : Int32) + nu))])
      refine Go.st (fun t k => XS.bipush X9.here hx rfl (hb hby at_85) k) ?_
      show Go _ _ _ _ T9 (mkF m 87 #[.val (.int p1), .val (.int p2), .val (.int nu), .val (.int (1 : Int32)), .val (.int ((160 : Int32) + nu)), .val (.int (1 : Int32)), .val (.int (1 : Int32)), .unset, .unset, .unset, .unset] [(.int (31 : Int32)), (.int ((160 : Int32) + nu))])
      refine Go.st (fun t k => XS.iand X9.here hx rfl (hb hby at_87) rfl k) ?_
      show Go _ _ _ _ T9 (mkF m 88 #[.val (.int p1), .val (.int p2), .val (.int nu), .val (.int (1 : Int32)), .val (.int ((160 : Int32) + nu)), .val (.int (1 : Int32)), .val (.int (1 : Int32)), .unset, .unset, .unset, .unset] [(.int (((160 : Int32) + nu) &&& (31 : Int32)))])
      refine Go.st (fun t k => XS.iloadN X9.here hx rfl (hb hby at_88) rfl k) ?_
      show Go _ _ _ _ T9 (mkF m 89 #[.val (.int p1), .val (.int p2), .val (.int nu), .val (.int (1 : Int32)), .val (.int ((160 : Int32) + nu)), .val (.int (1 : Int32)), .val (.int (1 : Int32)), .unset, .unset, .unset, .unset] [(.int nu), (.int (((160 : Int32) + nu) &&& (31 : Int32)))])
      refine Go.st (fun t k => XS.icmpNo X9.here hx rfl (hb hby at_89) rfl (teq hf4).2 k) ?_
      show Go _ _ _ _ T9 (mkF m 92 #[.val (.int p1), .val (.int p2), .val (.int nu), .val (.int (1 : Int32)), .val (.int ((160 : Int32) + nu)), .val (.int (1 : Int32)), .val (.int (1 : Int32)), .unset, .unset, .unset, .unset] [])
      refine Go.st (fun t k => XS.iconst X9.here hx rfl (hb hby at_92) k) ?_
      show Go _ _ _ _ T9 (mkF m 93 #[.val (.int p1), .val (.int p2), .val (.int nu), .val (.int (1 : Int32)), .val (.int ((160 : Int32) + nu)), .val (.int (1 : Int32)), .val (.int (1 : Int32)), .unset, .unset, .unset, .unset] [(.int (1 : Int32))])
      refine Go.st (fun t k => XS.goto X9.here hx rfl (pc0 := 93) (pc' := 97) rfl (hb hby at_93) (by decide) (by decide) k) ?_
      show Go _ _ _ _ T9 (mkF m 97 #[.val (.int p1), .val (.int p2), .val (.int nu), .val (.int (1 : Int32)), .val (.int ((160 : Int32) + nu)), .val (.int (1 : Int32)), .val (.int (1 : Int32)), .unset, .unset, .unset, .unset] [(.int (1 : Int32))])
      refine Go.st (fun t k => XS.istore X9.here hx rfl (hb hby at_97) rfl (l' := #[.val (.int p1), .val (.int p2), .val (.int nu), .val (.int (1 : Int32)), .val (.int ((160 : Int32) + nu)), .val (.int (1 : Int32)), .val (.int (1 : Int32)), .val (.int (1 : Int32)), .unset, .unset, .unset]) rfl k) ?_
      show Go _ _ _ _ T9 (mkF m 99 #[.val (.int p1), .val (.int p2), .val (.int nu), .val (.int (1 : Int32)), .val (.int ((160 : Int32) + nu)), .val (.int (1 : Int32)), .val (.int (1 : Int32)), .val (.int (1 : Int32)), .unset, .unset, .unset] [])
      refine Go.st (fun t k => XS.sipush X9.here hx rfl (hb hby at_99) k) ?_
      show Go _ _ _ _ T9 (mkF m 102 #[.val (.int p1), .val (.int p2), .val (.int nu), .val (.int (1 : Int32)), .val (.int ((160 : Int32) + nu)), .val (.int (1 : Int32)), .val (.int (1 : Int32)), .val (.int (1 : Int32)), .unset, .unset, .unset] [(.int (128 : Int32))])
      refine Go.st (fun t k => XS.iloadN X9.here hx rfl (hb hby at_102) rfl k) ?_
      show Go _ _ _ _ T9 (mkF m 103 #[.val (.int p1), .val (.int p2), .val (.int nu), .val (.int (1 : Int32)), .val (.int ((160 : Int32) + nu)), .val (.int (1 : Int32)), .val (.int (1 : Int32)), .val (.int (1 : Int32)), .unset, .unset, .unset] [(.int (1 : Int32)), (.int (128 : Int32))])
      refine Go.st (fun t k => XS.ifNo X9.here hx rfl (hb hby at_103) rfl (by decide) k) ?_
      show Go _ _ _ _ T9 (mkF m 106 #[.val (.int p1), .val (.int p2), .val (.int nu), .val (.int (1 : Int32)), .val (.int ((160 : Int32) + nu)), .val (.int (1 : Int32)), .val (.int (1 : Int32)), .val (.int (1 : Int32)), .unset, .unset, .unset] [(.int (128 : Int32))])
      refine Go.st (fun t k => XS.bipush X9.here hx rfl (hb hby at_106) k) ?_
      show Go _ _ _ _ T9 (mkF m 108 #[.val (.int p1), .val (.int p2), .val (.int nu), .val (.int (1 : Int32)), .val (.int ((160 : Int32) + nu)), .val (.int (1 : Int32)), .val (.int (1 : Int32)), .val (.int (1 : Int32)), .unset, .unset, .unset] [(.int (32 : Int32)), (.int (128 : Int32))])
      refine Go.st (fun t k => XS.goto X9.here hx rfl (pc0 := 108) (pc' := 112) rfl (hb hby at_108) (by decide) (by decide) k) ?_
      show Go _ _ _ _ T9 (mkF m 112 #[.val (.int p1), .val (.int p2), .val (.int nu), .val (.int (1 : Int32)), .val (.int ((160 : Int32) + nu)), .val (.int (1 : Int32)), .val (.int (1 : Int32)), .val (.int (1 : Int32)), .unset, .unset, .unset] [(.int (32 : Int32)), (.int (128 : Int32))])
      refine Go.st (fun t k => XS.ior X9.here hx rfl (hb hby at_112) rfl k) ?_
      show Go _ _ _ _ T9 (mkF m 113 #[.val (.int p1), .val (.int p2), .val (.int nu), .val (.int (1 : Int32)), .val (.int ((160 : Int32) + nu)), .val (.int (1 : Int32)), .val (.int (1 : Int32)), .val (.int (1 : Int32)), .unset, .unset, .unset] [(.int ((128 : Int32) ||| (32 : Int32)))])
      refine Go.st (fun t k => XS.iloadN X9.here hx rfl (hb hby at_113) rfl k) ?_
      show Go _ _ _ _ T9 (mkF m 114 #[.val (.int p1), .val (.int p2), .val (.int nu), .val (.int (1 : Int32)), .val (.int ((160 : Int32) + nu)), .val (.int (1 : Int32)), .val (.int (1 : Int32)), .val (.int (1 : Int32)), .unset, .unset, .unset] [(.int nu), (.int ((128 : Int32) ||| (32 : Int32)))])
      refine Go.st (fun t k => XS.ior X9.here hx rfl (hb hby at_114) rfl k) ?_
      show Go _ _ _ _ T9 (mkF m 115 #[.val (.int p1), .val (.int p2), .val (.int nu), .val (.int (1 : Int32)), .val (.int ((160 : Int32) + nu)), .val (.int (1 : Int32)), .val (.int (1 : Int32)), .val (.int (1 : Int32)), .unset, .unset, .unset] [(.int (((128 : Int32) ||| (32 : Int32)) ||| nu))])
      refine Go.st (fun t k => XS.istore X9.here hx rfl (hb hby at_115) rfl (l' := #[.val (.int p1), .val (.int p2), .val (.int nu), .val (.int (1 : Int32)), .val (.int ((160 : Int32) + nu)), .val (.int (1 : Int32)), .val (.int (1 : Int32)), .val (.int (1 : Int32)), .val (.int (((128 : Int32) ||| (32 : Int32)) ||| nu)), .unset, .unset]) rfl k) ?_
      show Go _ _ _ _ T9 (mkF m 117 #[.val (.int p1), .val (.int p2), .val (.int nu), .val (.int (1 : Int32)), .val (.int ((160 : Int32) + nu)), .val (.int (1 : Int32)), .val (.int (1 : Int32)), .val (.int (1 : Int32)), .val (.int (((128 : Int32) ||| (32 : Int32)) ||| nu)), .unset, .unset] [])
      refine Go.st (fun t k => XS.iconst X9.here hx rfl (hb hby at_117) k) ?_
      show Go _ _ _ _ T9 (mkF m 118 #[.val (.int p1), .val (.int p2), .val (.int nu), .val (.int (1 : Int32)), .val (.int ((160 : Int32) + nu)), .val (.int (1 : Int32)), .val (.int (1 : Int32)), .val (.int (1 : Int32)), .val (.int (((128 : Int32) ||| (32 : Int32)) ||| nu)), .unset, .unset] [(.int (2 : Int32))])
      refine goNew X9 hx hZ (hw _ (List.mem_of_getElem? (i := 5) rfl)) e9 Z0 (by decide) (show Int32.toNatClampNeg (2 : Int32) = 2 from rfl) 2 (by decide) (by decide) (by decide) (by decide) (g := (mkF m 118 #[.val (.int p1), .val (.int p2), .val (.int nu), .val (.int (1 : Int32)), .val (.int ((160 : Int32) + nu)), .val (.int (1 : Int32)), .val (.int (1 : Int32)), .val (.int (1 : Int32)), .val (.int (((128 : Int32) ||| (32 : Int32)) ||| nu)), .unset, .unset] [(.int (2 : Int32))])) rfl rfl (hb hby at_118) ?_
      intro T10 h10 b10 X10 e10 E10 qz10 g_b10 Z10 V_b10
      replace V_b10 : BA Z h10 b10 .byte 2 (fun _ => (.int (0 : Int32))) := V_b10
      show Go _ _ _ _ T10 (mkF m 120 #[.val (.int p1), .val (.int p2), .val (.int nu), .val (.int (1 : Int32)), .val (.int ((160 : Int32) + nu)), .val (.int (1 : Int32)), .val (.int (1 : Int32)), .val (.int (1 : Int32)), .val (.int (((128 : Int32) ||| (32 : Int32)) ||| nu)), .unset, .unset] [(.ref b10)])
      refine Go.st (fun t k => XS.dup X10.here hx rfl (hb hby at_120) rfl rfl k) ?_
      show Go _ _ _ _ T10 (mkF m 121 #[.val (.int p1), .val (.int p2), .val (.int nu), .val (.int (1 : Int32)), .val (.int ((160 : Int32) + nu)), .val (.int (1 : Int32)), .val (.int (1 : Int32)), .val (.int (1 : Int32)), .val (.int (((128 : Int32) ||| (32 : Int32)) ||| nu)), .unset, .unset] [(.ref b10), (.ref b10)])
      refine Go.st (fun t k => XS.iconst X10.here hx rfl (hb hby at_121) k) ?_
      show Go _ _ _ _ T10 (mkF m 122 #[.val (.int p1), .val (.int p2), .val (.int nu), .val (.int (1 : Int32)), .val (.int ((160 : Int32) + nu)), .val (.int (1 : Int32)), .val (.int (1 : Int32)), .val (.int (1 : Int32)), .val (.int (((128 : Int32) ||| (32 : Int32)) ||| nu)), .unset, .unset] [(.int (0 : Int32)), (.ref b10), (.ref b10)])
      refine Go.st (fun t k => XS.iload X10.here hx rfl (hb hby at_122) rfl k) ?_
      show Go _ _ _ _ T10 (mkF m 124 #[.val (.int p1), .val (.int p2), .val (.int nu), .val (.int (1 : Int32)), .val (.int ((160 : Int32) + nu)), .val (.int (1 : Int32)), .val (.int (1 : Int32)), .val (.int (1 : Int32)), .val (.int (((128 : Int32) ||| (32 : Int32)) ||| nu)), .unset, .unset] [(.int (((128 : Int32) ||| (32 : Int32)) ||| nu)), (.int (0 : Int32)), (.ref b10), (.ref b10)])
      refine Go.st (fun t k => XS.i2b X10.here hx rfl (hb hby at_124) rfl k) ?_
      show Go _ _ _ _ T10 (mkF m 125 #[.val (.int p1), .val (.int p2), .val (.int nu), .val (.int (1 : Int32)), .val (.int ((160 : Int32) + nu)), .val (.int (1 : Int32)), .val (.int (1 : Int32)), .val (.int (1 : Int32)), .val (.int (((128 : Int32) ||| (32 : Int32)) ||| nu)), .unset, .unset] [(.int ((((128 : Int32) ||| (32 : Int32)) ||| nu).toInt8.toInt32)), (.int (0 : Int32)), (.ref b10), (.ref b10)])
      refine goStB X10 hx hZ e10 N9 V_b10 g_b10 (g := (mkF m 125 #[.val (.int p1), .val (.int p2), .val (.int nu), .val (.int (1 : Int32)), .val (.int ((160 : Int32) + nu)), .val (.int (1 : Int32)), .val (.int (1 : Int32)), .val (.int (1 : Int32)), .val (.int (((128 : Int32) ||| (32 : Int32)) ||| nu)), .unset, .unset] [(.int ((((128 : Int32) ||| (32 : Int32)) ||| nu).toInt8.toInt32)), (.int (0 : Int32)), (.ref b10), (.ref b10)])) rfl rfl (hb hby at_125) (k := 0) ⟨by decide, rfl, by decide⟩ ?_
      intro T11 h11 L11 X11 e11 N11 W11 V_b10
      have Z11 := own_sz W11 Z10
      show Go _ _ _ _ T11 (mkF m 126 #[.val (.int p1), .val (.int p2), .val (.int nu), .val (.int (1 : Int32)), .val (.int ((160 : Int32) + nu)), .val (.int (1 : Int32)), .val (.int (1 : Int32)), .val (.int (1 : Int32)), .val (.int (((128 : Int32) ||| (32 : Int32)) ||| nu)), .unset, .unset] [(.ref b10)])
      refine Go.st (fun t k => XS.dup X11.here hx rfl (hb hby at_126) rfl rfl k) ?_
      show Go _ _ _ _ T11 (mkF m 127 #[.val (.int p1), .val (.int p2), .val (.int nu), .val (.int (1 : Int32)), .val (.int ((160 : Int32) + nu)), .val (.int (1 : Int32)), .val (.int (1 : Int32)), .val (.int (1 : Int32)), .val (.int (((128 : Int32) ||| (32 : Int32)) ||| nu)), .unset, .unset] [(.ref b10), (.ref b10)])
      refine Go.st (fun t k => XS.iconst X11.here hx rfl (hb hby at_127) k) ?_
      show Go _ _ _ _ T11 (mkF m 128 #[.val (.int p1), .val (.int p2), .val (.int nu), .val (.int (1 : Int32)), .val (.int ((160 : Int32) + nu)), .val (.int (1 : Int32)), .val (.int (1 : Int32)), .val (.int (1 : Int32)), .val (.int (((128 : Int32) ||| (32 : Int32)) ||| nu)), .unset, .unset] [(.int (1 : Int32)), (.ref b10), (.ref b10)])
      refine Go.st (fun t k => XS.iconst X11.here hx rfl (hb hby at_128) k) ?_
      show Go _ _ _ _ T11 (mkF m 129 #[.val (.int p1), .val (.int p2), .val (.int nu), .val (.int (1 : Int32)), .val (.int ((160 : Int32) + nu)), .val (.int (1 : Int32)), .val (.int (1 : Int32)), .val (.int (1 : Int32)), .val (.int (((128 : Int32) ||| (32 : Int32)) ||| nu)), .unset, .unset] [(.int (0 : Int32)), (.int (1 : Int32)), (.ref b10), (.ref b10)])
      refine goStB X11 hx hZ e11 N11 V_b10 g_b10 (g := (mkF m 129 #[.val (.int p1), .val (.int p2), .val (.int nu), .val (.int (1 : Int32)), .val (.int ((160 : Int32) + nu)), .val (.int (1 : Int32)), .val (.int (1 : Int32)), .val (.int (1 : Int32)), .val (.int (((128 : Int32) ||| (32 : Int32)) ||| nu)), .unset, .unset] [(.int (0 : Int32)), (.int (1 : Int32)), (.ref b10), (.ref b10)])) rfl rfl (hb hby at_129) (k := 1) ⟨by decide, rfl, by decide⟩ ?_
      intro T12 h12 L12 X12 e12 N12 W12 V_b10
      have Z12 := own_sz W12 Z11
      show Go _ _ _ _ T12 (mkF m 130 #[.val (.int p1), .val (.int p2), .val (.int nu), .val (.int (1 : Int32)), .val (.int ((160 : Int32) + nu)), .val (.int (1 : Int32)), .val (.int (1 : Int32)), .val (.int (1 : Int32)), .val (.int (((128 : Int32) ||| (32 : Int32)) ||| nu)), .unset, .unset] [(.ref b10)])
      refine Go.st (fun t k => XS.astore X12.here hx rfl (hb hby at_130) rfl rfl (l' := #[.val (.int p1), .val (.int p2), .val (.int nu), .val (.int (1 : Int32)), .val (.int ((160 : Int32) + nu)), .val (.int (1 : Int32)), .val (.int (1 : Int32)), .val (.int (1 : Int32)), .val (.int (((128 : Int32) ||| (32 : Int32)) ||| nu)), .val (.ref b10), .unset]) rfl k) ?_
      show Go _ _ _ _ T12 (mkF m 132 #[.val (.int p1), .val (.int p2), .val (.int nu), .val (.int (1 : Int32)), .val (.int ((160 : Int32) + nu)), .val (.int (1 : Int32)), .val (.int (1 : Int32)), .val (.int (1 : Int32)), .val (.int (((128 : Int32) ||| (32 : Int32)) ||| nu)), .val (.ref b10), .unset] [])
      obtain ⟨T13, h13, X13, e13, E13, A13, D13, -, st13⟩ := newO X12 hx hZ hown (hw _ (List.mem_of_getElem? (i := 6) rfl)) (hw _ (List.mem_of_getElem? (i := 7) rfl)) (hw _ (List.mem_of_getElem? (i := 3) rfl)) e12 (g := (mkF m 132 #[.val (.int p1), .val (.int p2), .val (.int nu), .val (.int (1 : Int32)), .val (.int ((160 : Int32) + nu)), .val (.int (1 : Int32)), .val (.int (1 : Int32)), .val (.int (1 : Int32)), .val (.int (((128 : Int32) ||| (32 : Int32)) ||| nu)), .val (.ref b10), .unset] [])) rfl (hb hby at_132) (by decide) (by decide)
      obtain ⟨b13, qz13⟩ : ∃ z, z = h12.size := ⟨_, rfl⟩
      rw [← qz13] at A13 D13 st13
      have g_b13 : n0 ≤ b13 := Nat.le_trans Z12 (Nat.le_of_eq qz13.symm)
      have Z13 := Nat.le_trans Z12 E13.1
      have ne_b10_b13 : b10 ≠ b13 := fun z => absurd V_b10.lt (by rw [z, qz13]; exact Nat.lt_irrefl _)
      have V_b10 := V_b10.ext E13
      have E_b13 := A13
      have F_data_b13 : Fld Z h13 b13 "com/example/vetter/vetter/io/DerReader" "data" "[B" .null := D13 (Or.inr (hw _ (List.mem_of_getElem? (i := 15) rfl))) (ty := (.array .byte)) (by decide)
      have F_position_b13 : Fld Z h13 b13 "com/example/vetter/vetter/io/DerReader" "position" "I" (.int (0 : Int32)) := D13 (Or.inl (hw _ (List.mem_of_getElem? (i := 22) rfl))) (ty := .int) (by decide)
      refine Go.st st13 ?_
      show Go _ _ _ _ T13 (mkF m 135 #[.val (.int p1), .val (.int p2), .val (.int nu), .val (.int (1 : Int32)), .val (.int ((160 : Int32) + nu)), .val (.int (1 : Int32)), .val (.int (1 : Int32)), .val (.int (1 : Int32)), .val (.int (((128 : Int32) ||| (32 : Int32)) ||| nu)), .val (.ref b10), .unset] [(.ref b13)])
      refine Go.st (fun t k => XS.dup X13.here hx rfl (hb hby at_135) rfl rfl k) ?_
      show Go _ _ _ _ T13 (mkF m 136 #[.val (.int p1), .val (.int p2), .val (.int nu), .val (.int (1 : Int32)), .val (.int ((160 : Int32) + nu)), .val (.int (1 : Int32)), .val (.int (1 : Int32)), .val (.int (1 : Int32)), .val (.int (((128 : Int32) ||| (32 : Int32)) ||| nu)), .val (.ref b10), .unset] [(.ref b13), (.ref b13)])
      refine Go.st (fun t k => XS.aload X13.here hx rfl (hb hby at_136) rfl rfl k) ?_
      show Go _ _ _ _ T13 (mkF m 138 #[.val (.int p1), .val (.int p2), .val (.int nu), .val (.int (1 : Int32)), .val (.int ((160 : Int32) + nu)), .val (.int (1 : Int32)), .val (.int (1 : Int32)), .val (.int (1 : Int32)), .val (.int (((128 : Int32) ||| (32 : Int32)) ||| nu)), .val (.ref b10), .unset] [(.ref b10), (.ref b13), (.ref b13)])
      have hb2 : b13 = b13 := rfl
      refine goC X13 hx hZ (y := (⟨"com/example/vetter/vetter/io/DerReader", "<init>", "([B)V"⟩ : MethodName)) rfl hown (hw _ (List.mem_of_getElem? (i := 8) rfl)) (hw _ (List.mem_of_getElem? (i := 9) rfl)) (hw _ (List.mem_of_getElem? (i := 3) rfl)) (hw _ (List.mem_of_getElem? (i := 10) rfl)) (by decide) (rm2 l Z a0 hw b13 b10 h13 n0 Z13 E_b13 F_data_b13 F_position_b13 g_b13) e13 N12 1 (by decide) (by decide) (by decide) (by decide) (g := (mkF m 138 #[.val (.int p1), .val (.int p2), .val (.int nu), .val (.int (1 : Int32)), .val (.int ((160 : Int32) + nu)), .val (.int (1 : Int32)), .val (.int (1 : Int32)), .val (.int (1 : Int32)), .val (.int (((128 : Int32) ||| (32 : Int32)) ||| nu)), .val (.ref b10), .unset] [(.ref b10), (.ref b13), (.ref b13)])) rfl (by rw [hml]; rfl) [(.ref b10)] [(.ref b13)] (lenOf pd0_1 rfl) rfl rfl (by show 2 * 0 + _ ≤ _; exact Nat.le_of_eq rfl) (hb hby at_138) ?_
      intro T14 v14 L14 M14 X14 N14 hq14
      obtain ⟨rfl, N14q, K14, E_b13, F_data_b13, F_position_b13⟩ := hq14
      replace N14 := N14 N14q
      have Z14 := Nat.le_trans Z13 K14.1
      have V_b10 := V_b10.keep K14 (ninS ne_b10_b13 nin0)
      show Go _ _ _ _ T14 (mkF m 141 #[.val (.int p1), .val (.int p2), .val (.int nu), .val (.int (1 : Int32)), .val (.int ((160 : Int32) + nu)), .val (.int (1 : Int32)), .val (.int (1 : Int32)), .val (.int (1 : Int32)), .val (.int (((128 : Int32) ||| (32 : Int32)) ||| nu)), .val (.ref b10), .unset] [(.ref b13)])
      refine Go.st (fun t k => XS.iload X14.here hx rfl (hb hby at_141) rfl k) ?_
      show Go _ _ _ _ T14 (mkF m 143 #[.val (.int p1), .val (.int p2), .val (.int nu), .val (.int (1 : Int32)), .val (.int ((160 : Int32) + nu)), .val (.int (1 : Int32)), .val (.int (1 : Int32)), .val (.int (1 : Int32)), .val (.int (((128 : Int32) ||| (32 : Int32)) ||| nu)), .val (.ref b10), .unset] [(.int ((160 : Int32) + nu)), (.ref b13)])
      refine goM X14 hx hZ (y := (⟨"com/example/vetter/vetter/io/DerReader", "nextIs", "(I)Z"⟩ : MethodName)) (z := (⟨"com/example/vetter/vetter/io/DerReader", "nextIs", "(I)Z"⟩ : MethodName)) hown (hw _ (List.mem_of_getElem? (i := 16) rfl)) (hw _ (List.mem_of_getElem? (i := 17) rfl)) (hw _ (List.mem_of_getElem? (i := 19) rfl)) (hw _ (List.mem_of_getElem? (i := 18) rfl)) (hw _ (List.mem_of_getElem? (i := 20) rfl)) (hw _ (List.mem_of_getElem? (i := 3) rfl)) (notFace_of_selects (args := #[]) (mvT hZ (hw _ (List.mem_of_getElem? (i := 19) rfl)))) (by decide) (rm4 l Z a0 hw b13 ((160 : Int32) + nu) T14.heap n0 Z14 0 b10 2 _ 2 (((((128 : Int32) ||| (32 : Int32)) ||| nu).toInt8.toInt32).toInt8.toInt32) F_position_b13 F_data_b13 V_b10 rfl (fun _ => ⟨0, ⟨by decide, by decide, by decide⟩, by simp⟩)) rfl N14 E_b13 0 (by decide) (by decide) (by decide) (by decide) (g := (mkF m 143 #[.val (.int p1), .val (.int p2), .val (.int nu), .val (.int (1 : Int32)), .val (.int ((160 : Int32) + nu)), .val (.int (1 : Int32)), .val (.int (1 : Int32)), .val (.int (1 : Int32)), .val (.int (((128 : Int32) ||| (32 : Int32)) ||| nu)), .val (.ref b10), .unset] [(.int ((160 : Int32) + nu)), (.ref b13)])) rfl (by rw [hml]; rfl) [(.int ((160 : Int32) + nu))] [] (lenOf pd0_2 rfl) rfl rfl (by show 2 * 0 + _ ≤ _; exact Nat.le_of_eq rfl) (hb hby at_143) ?_
      intro T15 v15 L15 M15 X15 N15 hq15
      obtain ⟨hq15, N15q, e15⟩ := hq15
      replace N15 := N15 N15q
      rcases hq15 with ⟨-, hr15, rfl⟩ | ⟨hr15, rfl⟩
      ·
        show Go _ _ _ _ T15 (mkF m 146 #[.val (.int p1), .val (.int p2), .val (.int nu), .val (.int (1 : Int32)), .val (.int ((160 : Int32) + nu)), .val (.int (1 : Int32)), .val (.int (1 : Int32)), .val (.int (1 : Int32)), .val (.int (((128 : Int32) ||| (32 : Int32)) ||| nu)), .val (.ref b10), .unset] [(.int (1 : Int32))])
        refine Go.st (fun t k => XS.istore X15.here hx rfl (hb hby at_146) rfl (l' := #[.val (.int p1), .val (.int p2), .val (.int nu), .val (.int (1 : Int32)), .val (.int ((160 : Int32) + nu)), .val (.int (1 : Int32)), .val (.int (1 : Int32)), .val (.int (1 : Int32)), .val (.int (((128 : Int32) ||| (32 : Int32)) ||| nu)), .val (.ref b10), .val (.int (1 : Int32))]) rfl k) ?_
        show Go _ _ _ _ T15 (mkF m 148 #[.val (.int p1), .val (.int p2), .val (.int nu), .val (.int (1 : Int32)), .val (.int ((160 : Int32) + nu)), .val (.int (1 : Int32)), .val (.int (1 : Int32)), .val (.int (1 : Int32)), .val (.int (((128 : Int32) ||| (32 : Int32)) ||| nu)), .val (.ref b10), .val (.int (1 : Int32))] [])
        refine Go.st (fun t k => XS.iload X15.here hx rfl (hb hby at_148) rfl k) ?_
        show Go _ _ _ _ T15 (mkF m 150 #[.val (.int p1), .val (.int p2), .val (.int nu), .val (.int (1 : Int32)), .val (.int ((160 : Int32) + nu)), .val (.int (1 : Int32)), .val (.int (1 : Int32)), .val (.int (1 : Int32)), .val (.int (((128 : Int32) ||| (32 : Int32)) ||| nu)), .val (.ref b10), .val (.int (1 : Int32))] [(.int (1 : Int32))])
        refine Go.st (fun t k => XS.ifNo X15.here hx rfl (hb hby at_150) rfl (by decide) k) ?_
        show Go _ _ _ _ T15 (mkF m 153 #[.val (.int p1), .val (.int p2), .val (.int nu), .val (.int (1 : Int32)), .val (.int ((160 : Int32) + nu)), .val (.int (1 : Int32)), .val (.int (1 : Int32)), .val (.int (1 : Int32)), .val (.int (((128 : Int32) ||| (32 : Int32)) ||| nu)), .val (.ref b10), .val (.int (1 : Int32))] [])
        refine Go.st (fun t k => XS.iload X15.here hx rfl (hb hby at_153) rfl k) ?_
        show Go _ _ _ _ T15 (mkF m 155 #[.val (.int p1), .val (.int p2), .val (.int nu), .val (.int (1 : Int32)), .val (.int ((160 : Int32) + nu)), .val (.int (1 : Int32)), .val (.int (1 : Int32)), .val (.int (1 : Int32)), .val (.int (((128 : Int32) ||| (32 : Int32)) ||| nu)), .val (.ref b10), .val (.int (1 : Int32))] [(.int (1 : Int32))])
        refine Go.st (fun t k => XS.ifNo X15.here hx rfl (hb hby at_155) rfl (by decide) k) ?_
        show Go _ _ _ _ T15 (mkF m 158 #[.val (.int p1), .val (.int p2), .val (.int nu), .val (.int (1 : Int32)), .val (.int ((160 : Int32) + nu)), .val (.int (1 : Int32)), .val (.int (1 : Int32)), .val (.int (1 : Int32)), .val (.int (((128 : Int32) ||| (32 : Int32)) ||| nu)), .val (.ref b10), .val (.int (1 : Int32))] [])
        refine Go.st (fun t k => XS.iload X15.here hx rfl (hb hby at_158) rfl k) ?_
        show Go _ _ _ _ T15 (mkF m 160 #[.val (.int p1), .val (.int p2), .val (.int nu), .val (.int (1 : Int32)), .val (.int ((160 : Int32) + nu)), .val (.int (1 : Int32)), .val (.int (1 : Int32)), .val (.int (1 : Int32)), .val (.int (((128 : Int32) ||| (32 : Int32)) ||| nu)), .val (.ref b10), .val (.int (1 : Int32))] [(.int (1 : Int32))])
        refine Go.st (fun t k => XS.ifNo X15.here hx rfl (hb hby at_160) rfl (by decide) k) ?_
        show Go _ _ _ _ T15 (mkF m 163 #[.val (.int p1), .val (.int p2), .val (.int nu), .val (.int (1 : Int32)), .val (.int ((160 : Int32) + nu)), .val (.int (1 : Int32)), .val (.int (1 : Int32)), .val (.int (1 : Int32)), .val (.int (((128 : Int32) ||| (32 : Int32)) ||| nu)), .val (.ref b10), .val (.int (1 : Int32))] [])
        refine Go.st (fun t k => XS.iload X15.here hx rfl (hb hby at_163) rfl k) ?_
        show Go _ _ _ _ T15 (mkF m 165 #[.val (.int p1), .val (.int p2), .val (.int nu), .val (.int (1 : Int32)), .val (.int ((160 : Int32) + nu)), .val (.int (1 : Int32)), .val (.int (1 : Int32)), .val (.int (1 : Int32)), .val (.int (((128 : Int32) ||| (32 : Int32)) ||| nu)), .val (.ref b10), .val (.int (1 : Int32))] [(.int (1 : Int32))])
        refine Go.st (fun t k => XS.ifNo X15.here hx rfl (hb hby at_165) rfl (by decide) k) ?_
        show Go _ _ _ _ T15 (mkF m 168 #[.val (.int p1), .val (.int p2), .val (.int nu), .val (.int (1 : Int32)), .val (.int ((160 : Int32) + nu)), .val (.int (1 : Int32)), .val (.int (1 : Int32)), .val (.int (1 : Int32)), .val (.int (((128 : Int32) ||| (32 : Int32)) ||| nu)), .val (.ref b10), .val (.int (1 : Int32))] [])
        refine Go.st (fun t k => XS.iconst X15.here hx rfl (hb hby at_168) k) ?_
        show Go _ _ _ _ T15 (mkF m 169 #[.val (.int p1), .val (.int p2), .val (.int nu), .val (.int (1 : Int32)), .val (.int ((160 : Int32) + nu)), .val (.int (1 : Int32)), .val (.int (1 : Int32)), .val (.int (1 : Int32)), .val (.int (((128 : Int32) ||| (32 : Int32)) ||| nu)), .val (.ref b10), .val (.int (1 : Int32))] [(.int (1 : Int32))])
        refine Go.st (fun t k => XS.goto X15.here hx rfl (pc0 := 169) (pc' := 173) rfl (hb hby at_169) (by decide) (by decide) k) ?_
        show Go _ _ _ _ T15 (mkF m 173 #[.val (.int p1), .val (.int p2), .val (.int nu), .val (.int (1 : Int32)), .val (.int ((160 : Int32) + nu)), .val (.int (1 : Int32)), .val (.int (1 : Int32)), .val (.int (1 : Int32)), .val (.int (((128 : Int32) ||| (32 : Int32)) ||| nu)), .val (.ref b10), .val (.int (1 : Int32))] [(.int (1 : Int32))])
        exact goN X15 hx hret hlk (by simp) (hb hby at_173) (by decide) (by decide) ⟨rfl, N15⟩
      ·
        exact absurd ⟨by decide, hf5⟩ hr15
set_option maxRecDepth 65536 in
set_option maxHeartbeats 40000000 in
theorem comes_1 {Post : Tables → Env → Array Value → State → Outcome → State → Prop} (hpost : ∀ tb e args s v u, (limb_1_1.after args s (.returned v) u = true ∧ limb_1_2.after args s (.returned v) u = true ∧ True) → FrameEnd s (.returned v) u (Jvm.fieldLocs frame_1_writes args s ++ Jvm.arrayLocs frame_1_arrays args s ++ Jvm.staticLocs frame_1_statics s) 16 128 → Post tb e args s (.returned v) u) :
    ArmFor flags0 classFile x code maxLocals ret World_1 tables_1 room_1 Calls_1 rest_1 Pre_1 Post := by
  intro l hfl _ _ p e ha hc hk s m args below hf hA hF happ hP
  obtain ⟨hcalls, hrest, hpre⟩ := hP
  obtain ⟨-, -, -, hnamed, -, -, -, hat⟩ := (Spec.applies_iff hf).mp happ
  obtain ⟨hg, hn⟩ := and_e (Cond.before_iff.mp (show (Jvm.Cond.and given_1 narrow_1).before args s = true from hpre))
  obtain ⟨ga1, gb1⟩ := and_e hg
  obtain ⟨ga2, gb2⟩ := and_e gb1
  obtain ⟨w0, w1, rfl⟩ : ∃ w0 w1 : Value, args = #[w0, w1] := by
    have hs : args.size = 2 := by simpa [Cond.value, given_1] using ga1
    obtain ⟨L⟩ := args
    match L, hs with
    | [w0, w1], _ => exact ⟨w0, w1, rfl⟩
  have hw := fun d (hd : d ∈ tables_1) => atoms_spec (ws := Jvm.Cond.code x code maxLocals ret :: tables_1) hat d (List.mem_cons_of_mem _ hd)
  obtain ⟨i0, ei0⟩ := is_v ga2
  obtain rfl : w0 = (.int i0) := Option.some.inj ei0
  obtain ⟨i1, ei1⟩ := is_v gb2
  obtain rfl : w1 = (.int i1) := Option.some.inj ei1
  obtain ⟨n, o, h1, h2, h3, _, L, rfl, ⟨rfl, N⟩, hq⟩ := rm0 l s _ hw i0 i1 s.heap s.heap.size (Nat.le_refl _)  tables_1 p e ha hc hk s m _ below hf ((Spec.applies_iff_loose hf).mp happ).1 ⟨rfl, State.Warmed39.refl s, rfl⟩ trivial
  refine ⟨n, _, h1, h2, h3, hpost _ _ _ _ _ _ ⟨Cond.after_iff.mpr rfl, Cond.after_iff.mpr (eq_i res_at (Term.int_eval (1)) rfl), trivial⟩ ⟨hq.1, hq.2.1, (hq.2.2.sift fun y hy => Or.inr (N y hy)).mono (by decide) (by decide)⟩⟩
theorem main_1_1 : Claimed_1_1 := comes_1 fun _ _ _ _ _ _ h hF => ⟨h.1, hF⟩
theorem main_1_2 : Claimed_1_2 := comes_1 fun _ _ _ _ _ _ h hF => ⟨h.2.1, hF⟩
end Jvm.Pilot.@@N@@
namespace Jvm.Pilot.@@N@@
open Jvm Jvm.ClassFile Sem Op Lib Jvm.Free Jvm.Stand Jvm.Pilot.@@N@@.Jvm.D
/-! MADE BY PROGRAM (witnessworld.py) out of the Statement's table words and the real class files: 9 classes; the members and pool entries that the words name. The judged class is class 1, her method 1. -/
namespace start1
open Jvm.ClassFile
def u (s : String) : CpInfo := .utf8 (stringToUtf16 s)
/-- a pool by its gaps: so many unusable entries, then the entry; so many at the end -/
def gap : Nat → List CpInfo → List CpInfo
  | 0, r => r
  | n + 1, r => .unusable :: gap n r
def poolList (es : List (Nat × CpInfo)) (last : Nat) : List CpInfo := es.foldr (fun e r => gap e.1 (e.2 :: r)) (gap last [])
def pool (es : List (Nat × CpInfo)) (last : Nat) : Array CpInfo := ⟨poolList es last⟩
def fileOf (pool : Array CpInfo) (this : Nat) (attrs : Array Attribute := #[]) (ms : Array MethodInfo := #[]) (fl : Nat := 33) (sup : Nat := 0) (ifs : Array Nat := #[]) (fds : Array FieldInfo := #[]) : ClassFile where
  minorVersion := 0
  majorVersion := 65
  constantPool := pool
  accessFlags := fl
  thisClass := this
  superClass := sup
  interfaces := ifs
  fields := fds
  methods := ms
  attributes := attrs
def plain (name : String) (sup : Option ClassId) : Class where
  name := name
  kind := .ordinary
  loader := none
  accessFlags := 33
  super := sup
  interfaces := #[]
  cf := none
  fields := #[]
  methods := #[]
  instanceTypes := #[]
  staticTypes := #[]
  resolved := #[]
  callSites := []
  init := .initialized
  statics := none
  mirror := none

def pool0 : Array CpInfo := pool [(5, u "<init>"), (0, u "()V"), (1, .class_ 10), (1, u "java/lang/Object")] 113

def k0c0 : Code := { maxStack := 0, maxLocals := 1, code := object_method_1_code, exceptionTable := #[], attributes := #[] }
def k0m0 : Method := { name := "<init>", desc := "()V", sig := { parameters := [], returnType := none }, accessFlags := 1, code := some k0c0 }
/-- java/lang/Object -/
def k0 : Class := { plain "java/lang/Object" none with
  accessFlags := 33
  interfaces := #[]
  cf := some (fileOf pool0 8 #[] #[{ accessFlags := 1, nameIndex := 5, descriptorIndex := 6, attributes := #[] }] 33 0 #[] #[])
  fields := #[]
  methods := #[k0m0]
  instanceTypes := #[]
  staticTypes := #[]
  resolved := Array.replicate 124 none
  statics := none }

def pool1 : Array CpInfo := pool [(2, .class_ 4), (1, u "java/lang/Object"), (0, u "<init>"), (0, u "()V"), (0, .integer 2147483647), (0, .methodref 9 10), (0, .class_ 11), (0, .nameAndType 12 13), (0, u "com/example/vetter/vetter/io/DerReader"), (0, u "contextTag"), (0, u "(IZ)I"), (0, .methodref 9 15), (0, .nameAndType 5 16), (0, u "([B)V"), (0, .methodref 9 18), (0, .nameAndType 19 20), (0, u "nextIs"), (0, u "(I)Z"), (0, .class_ 22), (0, u "com/example/vetter/vetter/io/DerReaderContextTagPinLaw"), (2, u "law"), (0, u "(II)Z")] 5

def k1m0 : Method := { name := "<init>", desc := "()V", sig := { parameters := [], returnType := none }, accessFlags := 1, code := none }
def k1c1 : Code := { maxStack := 4, maxLocals := 11, code := code, exceptionTable := #[], attributes := #[] }
def k1m1 : Method := { name := "law", desc := "(II)Z", sig := { parameters := [.int, .int], returnType := some .boolean }, accessFlags := 9, code := some k1c1 }
/-- com/example/vetter/vetter/io/DerReaderContextTagPinLaw -/
def k1 : Class := { plain "com/example/vetter/vetter/io/DerReaderContextTagPinLaw" (some 0) with
  accessFlags := 49
  interfaces := #[]
  cf := some (fileOf pool1 21 #[] #[{ accessFlags := 1, nameIndex := 5, descriptorIndex := 6, attributes := #[] }, { accessFlags := 9, nameIndex := 25, descriptorIndex := 26, attributes := #[] }] 49 2 #[] #[])
  fields := #[]
  methods := #[k1m0, k1m1]
  instanceTypes := #[]
  staticTypes := #[]
  resolved := Array.replicate 32 none
  statics := none }

def pool2 : Array CpInfo := pool [(1, .methodref 2 3), (0, .class_ 4), (0, .nameAndType 5 6), (0, u "java/lang/Object"), (0, u "<init>"), (0, u "()V"), (0, .fieldref 8 9), (0, .class_ 10), (0, .nameAndType 11 12), (0, u "com/example/vetter/vetter/io/DerReader"), (0, u "data"), (0, u "[B"), (0, .fieldref 8 14), (0, .nameAndType 15 16), (0, u "position"), (0, u "I"), (2, u "nextIs"), (0, u "(I)Z"), (25, u "([B)V"), (27, u "INTEGER"), (2, u "OCTET_STRING"), (1, u "OBJECT_IDENTIFIER"), (1, u "SEQUENCE"), (1, u "CONTEXT_CONSTRUCTED"), (1, u "CONTEXT_PRIMITIVE"), (1, u "LONG_LENGTH"), (0, u "MAX_LENGTH_BYTES"), (3, u "contextTag"), (0, u "(IZ)I")] 33

def k2c0 : Code := { maxStack := 2, maxLocals := 2, code := prog_10_method_1_code, exceptionTable := #[], attributes := #[] }
def k2m0 : Method := { name := "<init>", desc := "([B)V", sig := { parameters := [(.array .byte)], returnType := none }, accessFlags := 0, code := some k2c0 }
def k2c1 : Code := { maxStack := 2, maxLocals := 2, code := prog_10_method_2_code, exceptionTable := #[], attributes := #[] }
def k2m1 : Method := { name := "contextTag", desc := "(IZ)I", sig := { parameters := [.int, .boolean], returnType := some .int }, accessFlags := 8, code := some k2c1 }
def k2c2 : Code := { maxStack := 2, maxLocals := 2, code := prog_10_method_3_code, exceptionTable := #[], attributes := #[] }
def k2m2 : Method := { name := "nextIs", desc := "(I)Z", sig := { parameters := [.int], returnType := some .boolean }, accessFlags := 0, code := some k2c2 }
/-- com/example/vetter/vetter/io/DerReader -/
def k2 : Class := { plain "com/example/vetter/vetter/io/DerReader" (some 0) with
  accessFlags := 32
  interfaces := #[]
  cf := some (fileOf pool2 8 #[] #[{ accessFlags := 0, nameIndex := 5, descriptorIndex := 46, attributes := #[] }, { accessFlags := 8, nameIndex := 92, descriptorIndex := 93, attributes := #[] }, { accessFlags := 0, nameIndex := 19, descriptorIndex := 20, attributes := #[] }] 32 2 #[] #[{ accessFlags := 24, nameIndex := 74, descriptorIndex := 16, attributes := #[] }, { accessFlags := 24, nameIndex := 77, descriptorIndex := 16, attributes := #[] }, { accessFlags := 24, nameIndex := 79, descriptorIndex := 16, attributes := #[] }, { accessFlags := 24, nameIndex := 81, descriptorIndex := 16, attributes := #[] }, { accessFlags := 26, nameIndex := 83, descriptorIndex := 16, attributes := #[] }, { accessFlags := 26, nameIndex := 85, descriptorIndex := 16, attributes := #[] }, { accessFlags := 26, nameIndex := 87, descriptorIndex := 16, attributes := #[] }, { accessFlags := 26, nameIndex := 88, descriptorIndex := 16, attributes := #[] }, { accessFlags := 18, nameIndex := 11, descriptorIndex := 12, attributes := #[] }, { accessFlags := 2, nameIndex := 15, descriptorIndex := 16, attributes := #[] }])
  fields := #[{ name := "INTEGER", type := .int, accessFlags := 24, slot := 0, constantValue := 0 }, { name := "OCTET_STRING", type := .int, accessFlags := 24, slot := 1, constantValue := 0 }, { name := "OBJECT_IDENTIFIER", type := .int, accessFlags := 24, slot := 2, constantValue := 0 }, { name := "SEQUENCE", type := .int, accessFlags := 24, slot := 3, constantValue := 0 }, { name := "CONTEXT_CONSTRUCTED", type := .int, accessFlags := 26, slot := 4, constantValue := 0 }, { name := "CONTEXT_PRIMITIVE", type := .int, accessFlags := 26, slot := 5, constantValue := 0 }, { name := "LONG_LENGTH", type := .int, accessFlags := 26, slot := 6, constantValue := 0 }, { name := "MAX_LENGTH_BYTES", type := .int, accessFlags := 26, slot := 7, constantValue := 0 }, { name := "data", type := (.array .byte), accessFlags := 18, slot := 0, constantValue := 0 }, { name := "position", type := .int, accessFlags := 2, slot := 1, constantValue := 0 }]
  methods := #[k2m0, k2m1, k2m2]
  instanceTypes := #[(.array .byte), .int]
  staticTypes := #[.int, .int, .int, .int, .int, .int, .int, .int]
  resolved := Array.replicate 127 none
  statics := none }

def pool3 : Array CpInfo := pool [(1, u "java/lang/Cloneable"), (0, .class_ 1), (0, u "java/lang/Object"), (0, .class_ 3)] 3

/-- java/lang/Cloneable -/
def k3 : Class := { plain "java/lang/Cloneable" (some 0) with
  accessFlags := 1537
  interfaces := #[]
  cf := some (fileOf pool3 2 #[] #[] 1537 4 #[] #[])
  fields := #[]
  methods := #[]
  instanceTypes := #[]
  staticTypes := #[]
  resolved := Array.replicate 8 none
  statics := none }

def pool4 : Array CpInfo := pool [(1, u "java/io/Serializable"), (0, .class_ 1), (0, u "java/lang/Object"), (0, .class_ 3)] 3

/-- java/io/Serializable -/
def k4 : Class := { plain "java/io/Serializable" (some 0) with
  accessFlags := 1537
  interfaces := #[]
  cf := some (fileOf pool4 2 #[] #[] 1537 4 #[] #[])
  fields := #[]
  methods := #[]
  instanceTypes := #[]
  staticTypes := #[]
  resolved := Array.replicate 8 none
  statics := none }

/-- the primitive byte -/
def k5 : Class := { plain "byte" none with kind := .primitive 'B', accessFlags := 0x411 }
/-- [B -/
def k6 : Class := { plain "[B" (some 0) with kind := .array 5 .byte, interfaces := #[3, 4], accessFlags := 1041 }

/-- the primitive int -/
def k7 : Class := { plain "int" none with kind := .primitive 'I', accessFlags := 0x411 }
/-- [I -/
def k8 : Class := { plain "[I" (some 0) with kind := .array 7 .int, interfaces := #[3, 4], accessFlags := 1041 }

def heap : Heap := #[]
def classes : Array Class := #[k0, k1, k2, k3, k4, k5, k6, k7, k8]
def interned : List (Array UInt16 × Addr) := []
def slotsUsed : Nat := 0
def theMethod : MethodId := ⟨1, 1⟩
def args0 : Array Value := #[.int 5, .int 7]
def aboutOver (below : List Frame) : State where
  vm := { classes := classes, interned := interned.toArray }
  heap := heap
  slotsUsed := slotsUsed
  threads := #[{ frames := .invoking theMethod args0 :: below }]
def below0 : List Frame := [.native { method := ⟨0, 0⟩, args := #[] }]
def about1 : State := aboutOver below0
def p0 : Program := .bare "" "" ""
def e0 : Env := launch0.env 0 0 0
theorem w_frames : about1.frames = Frame.invoking theMethod args0 :: below0 := rfl
set_option maxRecDepth 65536 in
theorem w_args : argsFit about1.vm theMethod args0 = true := by decide +kernel
set_option maxRecDepth 65536 in
theorem w_heap : heapFits about1 = true := by decide +kernel
set_option maxRecDepth 65536 in
theorem w_runnable : about1.curStatus? = some .runnable := by decide +kernel
set_option maxRecDepth 65536 in
theorem w_alone : about1.alone = true := by decide +kernel
set_option maxRecDepth 65536 in
theorem w_named : about1.methodNamed? x = some theMethod := by decide +kernel
set_option maxRecDepth 65536 in
theorem w_hears : about1.hears theMethod below0 = true := by decide +kernel
set_option maxRecDepth 65536 in
theorem w_ripe : about1.ripe theMethod args0 below0 = true := by decide +kernel
theorem w_running : about1.status = .running := rfl
set_option maxRecDepth 65536 in
theorem w_room : about1.hasRoom e0.platform room_1 = true :=
  launch0.hasRoom_least _ room_1 (by decide +kernel) (by decide +kernel) (by decide +kernel) (by decide +kernel) (by decide +kernel) (by decide +kernel)
theorem allAtoms_all (ts : List Jvm.Cond) (a : Array Jvm.Value) (st : Jvm.State) : (allAtoms ts).before a st = ts.all (fun c => c.before a st) := by
  induction ts with
  | nil => rfl
  | cons c t ih =>
    show (Jvm.Cond.and c (allAtoms t)).before a st = _
    rw [Jvm.Cond.before_and, ih, List.all_cons]
def words1 : List Jvm.Cond := Jvm.Cond.code x code maxLocals ret :: tables_1
/-- a 'code' word, met by the world's own term for the bytes: nothing is compared byte by byte -/
theorem code_word {y : MethodName} {bytes : ByteArray} {mx : Nat} {rt : Option FieldType} {a : Array Value} {s : State} {m : MethodId} {meth : Method} {c : Code} (h1 : s.methodNamed? y = some m) (h2 : s.vm.method? m = some meth) (h3 : meth.code = some c) (h4 : c.code = bytes)
    (h5 : (c.maxLocals == mx && c.exceptionTable.isEmpty && decide (c.maxStack ≤ mostOperands) && decide (meth.sig.returnType = rt) && !meth.locks && decide (parseMethodDescriptor y.desc = some meth.sig)) = true) : (Jvm.Cond.code y bytes mx rt).before a s = true := by
  simp only [Bool.and_eq_true, beq_iff_eq, Bool.not_eq_true', decide_eq_true_eq] at h5
  obtain ⟨⟨⟨⟨⟨g1, g2⟩, g3⟩, g4⟩, g5⟩, g6⟩ := h5
  simp [Cond.before, Cond.holds, Cond.value, h1, h2, h3, h4, g1, g2, g3, g4, g5, g6]
def isCode : Jvm.Cond → Bool
  | .code _ _ _ _ => true
  | _ => false
theorem all_split {L : List Jvm.Cond} {P : Jvm.Cond → Bool} (h1 : L.all (fun c => isCode c || P c) = true) (h2 : ∀ c ∈ L.filter isCode, P c = true) : L.all P = true := by
  refine List.all_eq_true.mpr fun c hc => ?_
  have h := List.all_eq_true.mp h1 c hc
  rcases Bool.eq_false_or_eq_true (isCode c) with hi | hi
  · exact h2 c (List.mem_filter.mpr ⟨hc, hi⟩)
  · simpa [hi] using h
set_option maxRecDepth 65536 in
theorem w_c0 : (Jvm.Cond.code x code maxLocals ret).before args0 about1 = true := code_word (m := ⟨1, 1⟩) (meth := k1m1) (c := k1c1) (by decide +kernel) rfl rfl rfl (by decide +kernel)
set_option maxRecDepth 65536 in
theorem w_c1 : (Jvm.Cond.code ({ cls := "com/example/vetter/vetter/io/DerReader", name := "contextTag", desc := "(IZ)I" } : Jvm.MethodName) prog_10_method_2_code (2 : Nat) (Option.some Jvm.ClassFile.FieldType.int)).before args0 about1 = true := code_word (m := ⟨2, 1⟩) (meth := k2m1) (c := k2c1) (by decide +kernel) rfl rfl rfl (by decide +kernel)
set_option maxRecDepth 65536 in
theorem w_c2 : (Jvm.Cond.code ({ cls := "com/example/vetter/vetter/io/DerReader", name := "<init>", desc := "([B)V" } : Jvm.MethodName) prog_10_method_1_code (2 : Nat) (Option.none : Option Jvm.ClassFile.FieldType)).before args0 about1 = true := code_word (m := ⟨2, 0⟩) (meth := k2m0) (c := k2c0) (by decide +kernel) rfl rfl rfl (by decide +kernel)
set_option maxRecDepth 65536 in
theorem w_c3 : (Jvm.Cond.code ({ cls := "java/lang/Object", name := "<init>", desc := "()V" } : Jvm.MethodName) object_method_1_code (1 : Nat) (Option.none : Option Jvm.ClassFile.FieldType)).before args0 about1 = true := code_word (m := ⟨0, 0⟩) (meth := k0m0) (c := k0c0) (by decide +kernel) rfl rfl rfl (by decide +kernel)
set_option maxRecDepth 65536 in
theorem w_c4 : (Jvm.Cond.code ({ cls := "com/example/vetter/vetter/io/DerReader", name := "nextIs", desc := "(I)Z" } : Jvm.MethodName) prog_10_method_3_code (2 : Nat) (Option.some Jvm.ClassFile.FieldType.boolean)).before args0 about1 = true := code_word (m := ⟨2, 2⟩) (meth := k2m2) (c := k2c2) (by decide +kernel) rfl rfl rfl (by decide +kernel)
def codes1 : List Jvm.Cond := [Jvm.Cond.code x code maxLocals ret, Jvm.Cond.code ({ cls := "com/example/vetter/vetter/io/DerReader", name := "contextTag", desc := "(IZ)I" } : Jvm.MethodName) prog_10_method_2_code (2 : Nat) (Option.some Jvm.ClassFile.FieldType.int), Jvm.Cond.code ({ cls := "com/example/vetter/vetter/io/DerReader", name := "<init>", desc := "([B)V" } : Jvm.MethodName) prog_10_method_1_code (2 : Nat) (Option.none : Option Jvm.ClassFile.FieldType), Jvm.Cond.code ({ cls := "java/lang/Object", name := "<init>", desc := "()V" } : Jvm.MethodName) object_method_1_code (1 : Nat) (Option.none : Option Jvm.ClassFile.FieldType), Jvm.Cond.code ({ cls := "com/example/vetter/vetter/io/DerReader", name := "nextIs", desc := "(I)Z" } : Jvm.MethodName) prog_10_method_3_code (2 : Nat) (Option.some Jvm.ClassFile.FieldType.boolean)]
set_option maxRecDepth 65536 in
theorem codes_eq : words1.filter isCode = codes1 := rfl
theorem w_codes : ∀ c ∈ words1.filter isCode, c.before args0 about1 = true := by
  rw [codes_eq]
  intro c hc
  simp only [codes1, List.mem_cons, List.not_mem_nil, or_false] at hc
  rcases hc with rfl | rfl | rfl | rfl | rfl
  · exact w_c0
  · exact w_c1
  · exact w_c2
  · exact w_c3
  · exact w_c4
set_option maxRecDepth 65536 in
theorem w_t1 : words1.all (fun c => isCode c || c.before args0 about1) = true := by decide +kernel
theorem w_tables : (allAtoms (Jvm.Cond.code x code maxLocals ret :: tables_1)).before args0 about1 = true := by
  rw [allAtoms_all]
  show words1.all (fun c => c.before args0 about1) = true
  refine all_split ?_ w_codes
  rw [w_t1]
set_option maxRecDepth 65536 in
theorem w_case : (Jvm.Cond.and given_1 narrow_1).before args0 about1 = true := by decide +kernel
theorem w_applies : (headSpec (Jvm.Cond.code x code maxLocals ret :: tables_1) room_1).applies x e0.platform about1 = true :=
  (Spec.applies_iff w_frames).mpr ⟨w_running, w_runnable, w_alone, w_named, w_hears, w_ripe, w_room, w_tables⟩
theorem atStart : AtStart classFile x code maxLocals ret World_1 tables_1 room_1 Calls_1 rest_1 Pre_1 launch0 p0 e0 about1 theMethod args0 below0 :=
  ⟨lists_1, trivial, launch0.admits_env _ _ _, launch0.least_env, fairChoices_fair.cas, fairChoices_fair.clock, w_frames, w_args, w_heap, w_applies, trivial, trivial, w_case⟩
end start1
theorem witness_1 : WitnessClaimed_1 := ⟨start1.p0, start1.e0, start1.about1, start1.theMethod, start1.args0, start1.below0, start1.atStart⟩
end Jvm.Pilot.@@N@@
