import JvmDerived
import JvmDerived.Pilot.@@N@@Statement
import JvmDerived.Pilot.@@N@@Code
set_option linter.unusedVariables false
set_option linter.unusedSimpArgs false
@@BLOCK:NumsL.lean.txt@@
namespace Jvm.Pilot.@@N@@
open Jvm Jvm.ClassFile Sem Op Lib Jvm.Free Jvm.Stand Jvm.LawKit Jvm.RoadKit Bundle Jvm.Pilot.@@N@@.Jvm.D

/-! OWN KIT: the walk in continuation form; arrays by their cell as functions of the place -/
section OwnKit
variable {p : Program} {l : Launch} {e : Env} {R : Room} {s : State} {m : MethodId} {args : Array Value} {below : List Frame} {meth : Method} {c : Code} {T : State} {locs : List Loc} {cells slots : Nat} {Z : State} {a0 : Array Value} {h h' h0 : Heap} {a b : Addr} {v : Value} {sl : Nat} {ty : FieldType} {n k : Nat} {f f' : Nat → Value} {n0 : Nat} {ws : List Addr}
/-- from this state with this top frame the run ends as F says -/
def Go (tb : Tables) (e : Env) (below : List Frame) (F : Outcome → State → Prop) (T : State) (g : JFrame) : Prop :=
  ∃ s₂ o, Steps tb e below (T.setTop g) s₂ ∧ s₂.status = .running ∧ Ended s₂ below o ∧ F o s₂
theorem Go.st {tb : Tables} {F : Outcome → State → Prop} {T T' : State} {g g' : JFrame} (st : ∀ t, Steps tb e below (T'.setTop g') t → Steps tb e below (T.setTop g) t) (k : Go tb e below F T' g') : Go tb e below F T g := by
  obtain ⟨s₂, o, h1, h2⟩ := k
  exact ⟨s₂, o, st _ h1, h2⟩
theorem Go.frame {tb : Tables} {F : Outcome → State → Prop} {T : State} {g g' : JFrame} (q : g = g') (k : Go tb e below F T g') : Go tb e below F T g := q ▸ k
theorem own_join {α : Type} {tb : Tables} {F : Outcome → State → Prop} {T T2 : State} {g : α → JFrame} {g2 : JFrame} (J : ∀ z, Go tb e below F T (g z)) (k : (∀ z, Go tb e below F T (g z)) → Go tb e below F T2 g2) : Go tb e below F T2 g2 := k J
/-- what a body's end must say -/
def Fi (s : State) (Q : Option Value → Heap → List Loc → Prop) (k n : Nat) (o : Outcome) (U : State) : Prop :=
  ∃ v L, o = .returned v ∧ Q v U.heap L ∧ FrameEnd s o U L k n
/-- a body's contract: called with these values at this heap it returns and Q holds -/
def Does (l : Launch) (Z : State) (y : MethodName) (bytes : ByteArray) (mx : Nat) (ret : Option FieldType) (rm : Room) (as' : Array Value) (h : Heap) (Q : Option Value → Heap → List Loc → Prop) : Prop :=
  ∀ ws, MetFree l y (head1 (Jvm.Cond.code y bytes mx ret :: ws) rm) (fun a U => a = as' ∧ Z.Warmed39 U.vm ∧ U.heap = h) (fun _ _ _ _ _ => True) (fun _ U o U' => Fi U Q rm.cells rm.slots o U')
theorem Does.body {y : MethodName} {bytes : ByteArray} {mx : Nat} {ret : Option FieldType} {rm : Room} {as' : Array Value} {h : Heap} {Q : Option Value → Heap → List Loc → Prop} (hy : plainFor y = true)
    (B : ∀ (p : Program) (e : Env) (s : State) (m : MethodId) (below : List Frame) (meth : Method) (c : Code) (T : State), Stand p l e rm s m as' below meth c T [] 0 0 → p.tables.exec = Jvm.exec → Z.Warmed39 s.vm → c.code = bytes → c.maxLocals = mx → s.vm.findClass y.cls = some m.cls → meth.name = y.name → meth.sig.returnType = ret → meth.locks = false → T.heap = h → Go p.tables e below (Fi s Q rm.cells rm.slots) T (entryFrame m as' mx)) : Does l Z y bytes mx ret rm as' h Q := fun ws => by
  refine MetFree.of_bodySF hy hisR ?_
  intro p e s m args below meth c s₁ Bd hml0 hP hK
  obtain ⟨ha, hZ, hh⟩ := hP
  subst ha
  exact B p e s m below meth c s₁ (Stand.of_body Bd) Bd.exec hZ Bd.bytes hml0 (findClass_of_methodNamed Bd.named) (name_of_methodNamed Bd.named Bd.method).1 Bd.returns Bd.notSynchronized (by rw [← hh, Bd.state]; rfl)
/-! the returns -/
theorem goI (X : Stand p l e R s m args below meth c T locs cells slots) (hx : p.tables.exec = Jvm.exec) (hret : meth.sig.returnType = some .int) (hlk : meth.locks = false) {pc : Nat} {Ls : Array Slot} {z : Int32} {rest : List Value} (hd : decode c.code pc = .ok (.ireturn, 1)) {Q : Option Value → Heap → List Loc → Prop} {k n : Nat} (hk : cells ≤ k) (hn : slots ≤ n) (q : Q (some (.int z)) T.heap locs) :
    Go p.tables e below (Fi s Q k n) T (mkF m pc Ls (.int z :: rest)) := by
  obtain ⟨fs, hr, hrun, hended, hW, hsame⟩ := X.leave (v := some (.int z)) (fun h => by rw [hret] at h; cases h) hlk
  exact ⟨_, _, retOut X hx hret rfl (Or.inl ⟨rfl, Or.inl rfl, z, rfl⟩) hd hr, hrun, hended, _, _, rfl, q, ⟨_, rfl⟩, hW, hsame.mono hk hn⟩
theorem goN (X : Stand p l e R s m args below meth c T locs cells slots) (hx : p.tables.exec = Jvm.exec) {t : FieldType} (hret : meth.sig.returnType = some t) (hlk : meth.locks = false) (ht : t = .boolean ∨ t = .byte ∨ t = .char ∨ t = .short) {pc : Nat} {Ls : Array Slot} {z : Int32} {rest : List Value} (hd : decode c.code pc = .ok (.ireturn, 1)) {Q : Option Value → Heap → List Loc → Prop} {k n : Nat} (hk : cells ≤ k) (hn : slots ≤ n) (q : Q (some (.int (nar t z))) T.heap locs) :
    Go p.tables e below (Fi s Q k n) T (mkF m pc Ls (.int z :: rest)) := by
  obtain ⟨fs, hr, hrun, hended, hW, hsame⟩ := X.leave (v := some (.int (nar t z))) (fun h => by rw [hret] at h; cases h) hlk
  exact ⟨_, _, retN X hx hret ht hd hr, hrun, hended, _, _, rfl, q, ⟨_, rfl⟩, hW, hsame.mono hk hn⟩
theorem goJ (X : Stand p l e R s m args below meth c T locs cells slots) (hx : p.tables.exec = Jvm.exec) (hret : meth.sig.returnType = some .long) (hlk : meth.locks = false) {pc : Nat} {Ls : Array Slot} {z : Int64} {rest : List Value} (hd : decode c.code pc = .ok (.lreturn, 1)) {Q : Option Value → Heap → List Loc → Prop} {k n : Nat} (hk : cells ≤ k) (hn : slots ≤ n) (q : Q (some (.long z)) T.heap locs) :
    Go p.tables e below (Fi s Q k n) T (mkF m pc Ls (.long z :: rest)) := by
  obtain ⟨fs, hr, hrun, hended, hW, hsame⟩ := X.leave (v := some (.long z)) (fun h => by rw [hret] at h; cases h) hlk
  exact ⟨_, _, retOut X hx hret rfl (Or.inr (Or.inl ⟨rfl, rfl, z, rfl⟩)) hd hr, hrun, hended, _, _, rfl, q, ⟨_, rfl⟩, hW, hsame.mono hk hn⟩
theorem goA (X : Stand p l e R s m args below meth c T locs cells slots) (hx : p.tables.exec = Jvm.exec) {t : FieldType} (hret : meth.sig.returnType = some t) (hlk : meth.locks = false) (ht : t.isReference = true) (hnr : ∀ z : Addr, narrow t (.ref z) = .ref z) {pc : Nat} {Ls : Array Slot} {z : Addr} {rest : List Value} (hd : decode c.code pc = .ok (.areturn, 1)) {Q : Option Value → Heap → List Loc → Prop} {k n : Nat} (hk : cells ≤ k) (hn : slots ≤ n) (q : Q (some (.ref z)) T.heap locs) :
    Go p.tables e below (Fi s Q k n) T (mkF m pc Ls (.ref z :: rest)) := by
  obtain ⟨fs, hr, hrun, hended, hW, hsame⟩ := X.leave (v := some (.ref z)) (fun h => by rw [hret] at h; cases h) hlk
  exact ⟨_, _, retOut X hx hret (hnr z) (Or.inr (Or.inr (Or.inr (Or.inr ⟨rfl, ht, rfl⟩)))) hd hr, hrun, hended, _, _, rfl, q, ⟨_, rfl⟩, hW, hsame.mono hk hn⟩
theorem goV (X : Stand p l e R s m args below meth c T locs cells slots) (hx : p.tables.exec = Jvm.exec) (hret : meth.sig.returnType = none) (hlk : meth.locks = false) {pc : Nat} {Ls : Array Slot} (hd : decode c.code pc = .ok (.return_, 1)) {Q : Option Value → Heap → List Loc → Prop} {k n : Nat} (hk : cells ≤ k) (hn : slots ≤ n) (q : Q none T.heap locs) :
    Go p.tables e below (Fi s Q k n) T (mkF m pc Ls []) := by
  obtain ⟨fs, hr, hrun, hended, hW, hsame⟩ := X.leave (v := none) (fun _ => rfl) hlk
  exact ⟨_, _, X.returnOut hx hret hd hr, hrun, hended, _, _, rfl, q, ⟨_, rfl⟩, hW, hsame.mono hk hn⟩
/-! the calls -/
theorem own_one {k : Nat} {L : List Loc} (N : Fr k L) (q : k ≤ a) : Fr k (L ++ [⟨a, sl⟩]) := N.app fun y hy => by cases List.mem_singleton.mp hy; exact q
theorem goS (X : Stand p l e R s m args below meth c T locs cells slots) (hx : p.tables.exec = Jvm.exec) (hZ : Z.Warmed39 s.vm) {own : String} {index : Nat} {y : MethodName} {bytes : ByteArray} {mx : Nat} {ret : Option FieldType} (hown : s.vm.findClass own = some m.cls)
    (w1 : (Jvm.Cond.methodLink own index y).before a0 Z = true) (w2 : (Jvm.Cond.static y).before a0 Z = true) (w3 : (Jvm.Cond.initialized y.cls).before a0 Z = true) (w4 : (Jvm.Cond.code y bytes mx ret).before a0 Z = true) (hy : y.cls ≠ "java/lang/invoke/MethodHandle" ∧ y.cls ≠ "java/lang/invoke/VarHandle")
    {rm : Room} {as' : Array Value} {Q : Option Value → Heap → List Loc → Prop} (D : Does l Z y bytes mx ret rm as' h Q) (eT : T.heap = h) (N : Fr n0 locs) (W : Nat) (hf : rm.frames + 1 ≤ R.frames) (hl : W + (mx + 11) + rm.locals ≤ R.locals) (hc : cells + rm.cells ≤ R.cells) (hs : slots + rm.slots ≤ R.slots)
    {g : JFrame} (hg : g.method = m) (hsize : g.locals.size = c.maxLocals) (argsL rest : List Value) (hlen : ∀ sig, parseMethodDescriptor y.desc = some sig → argsL.length = sig.parameters.length) (has : argsL.toArray = as')
    (hstack : g.stack = argsL.reverse ++ rest) (hW : 2 * g.monitorRoom + (rest.map fun v => v.category).sum ≤ W) (hd : decode c.code g.pc = .ok (.invokestatic index, 3)) {F : Outcome → State → Prop}
    (kk : ∀ (T' : State) (v : Option Value) (L L' : List Loc), Stand p l e R s m args below meth c T' L' (cells + rm.cells) (slots + rm.slots) → (Fr n0 L → Fr n0 L') → Q v T'.heap L → Go p.tables e below F T' { g with pc := g.pc + 3, stack := v.toList ++ rest }) : Go p.tables e below F T g := by
  obtain ⟨v, _, ⟨T', L', k', n'⟩, -, X', ⟨L, hq, e1, e2, e3⟩, st⟩ := Jvm.LawKit.callS X hx hown (mvT hZ w1) (mvT hZ w2) (mvT hZ w3) (mvT hZ w4) hy (backOf (W := W) (Q := Q) (D []) hZ w4 w3 hf hl) hg hsize hlen hstack hW hd (fun _ _ => ⟨has, eT, hc, hs⟩)
  dsimp only [Pt.U, Pt.locs, Pt.cells, Pt.slots] at X' e1 e2 e3 st hq
  subst e1 e2 e3
  exact Go.st st (kk T' v L _ X' (fun q => N.app q) hq)
theorem goM (X : Stand p l e R s m args below meth c T locs cells slots) (hx : p.tables.exec = Jvm.exec) (hZ : Z.Warmed39 s.vm) {own C : String} {index : Nat} {y z : MethodName} {bytes : ByteArray} {mx : Nat} {ret : Option FieldType} (hown : s.vm.findClass own = some m.cls)
    (w1 : (Jvm.Cond.methodLink own index y).before a0 Z = true) (w2 : (Jvm.Cond.declares y).before a0 Z = true) (w3 : (Jvm.Cond.selects C y z).before a0 Z = true) (w4 : (Jvm.Cond.instanceMethod z).before a0 Z = true) (w5 : (Jvm.Cond.code z bytes mx ret).before a0 Z = true) (w6 : (Jvm.Cond.initialized z.cls).before a0 Z = true) (hnf : NotFace s y) (hy : y.cls ≠ "java/lang/invoke/MethodHandle" ∧ y.cls ≠ "java/lang/invoke/VarHandle")
    {rm : Room} {as' : Array Value} {Q : Option Value → Heap → List Loc → Prop} (D : Does l Z z bytes mx ret rm as' h Q) (eT : T.heap = h) (N : Fr n0 locs) (E : Exa Z h b C) (W : Nat) (hf : rm.frames + 1 ≤ R.frames) (hl : W + (mx + 11) + rm.locals ≤ R.locals) (hc : cells + rm.cells ≤ R.cells) (hs : slots + rm.slots ≤ R.slots)
    {g : JFrame} (hg : g.method = m) (hsize : g.locals.size = c.maxLocals) (argsL rest : List Value) (hlen : ∀ sig, parseMethodDescriptor y.desc = some sig → argsL.length = sig.parameters.length) (has : (.ref b :: argsL).toArray = as')
    (hstack : g.stack = argsL.reverse ++ .ref b :: rest) (hW : 2 * g.monitorRoom + (rest.map fun v => v.category).sum ≤ W) (hd : decode c.code g.pc = .ok (.invokevirtual index, 3)) {F : Outcome → State → Prop}
    (kk : ∀ (T' : State) (v : Option Value) (L L' : List Loc), Stand p l e R s m args below meth c T' L' (cells + rm.cells) (slots + rm.slots) → (Fr n0 L → Fr n0 L') → Q v T'.heap L → Go p.tables e below F T' { g with pc := g.pc + 3, stack := v.toList ++ rest }) : Go p.tables e below F T g := by
  obtain ⟨cq, kq, qa, qb, qc⟩ := isOf hZ eT E
  obtain ⟨v, _, ⟨T', L', k', n'⟩, -, X', ⟨L, hq, e1, e2, e3⟩, st⟩ := X.virtualBack hx hown (mvT hZ w1) (mvT hZ w2) hnf (mvT hZ w3) (mvT hZ w4) hy (backOf (W := W) (Q := Q) (D []) hZ w5 w6 hf hl) qa qc hg hsize (Steps.refl _) hlen hstack hW hd (fun _ _ => ⟨has, eT, hc, hs⟩)
  dsimp only [Pt.U, Pt.locs, Pt.cells, Pt.slots] at X' e1 e2 e3 st hq
  subst e1 e2 e3
  exact Go.st (fun t k => st.trans k) (kk T' v L _ X' (fun q => N.app q) hq)
theorem goC (X : Stand p l e R s m args below meth c T locs cells slots) (hx : p.tables.exec = Jvm.exec) (hZ : Z.Warmed39 s.vm) {own : String} {index : Nat} {y : MethodName} {bytes : ByteArray} {mx : Nat} (hy1 : y.name = "<init>") (hown : s.vm.findClass own = some m.cls)
    (w1 : (Jvm.Cond.methodLink own index y).before a0 Z = true) (w2 : (Jvm.Cond.instanceMethod y).before a0 Z = true) (w3 : (Jvm.Cond.initialized y.cls).before a0 Z = true) (w4 : (Jvm.Cond.code y bytes mx none).before a0 Z = true) (hy : y.cls ≠ "java/lang/invoke/MethodHandle" ∧ y.cls ≠ "java/lang/invoke/VarHandle")
    {rm : Room} {as' : Array Value} {Q : Option Value → Heap → List Loc → Prop} (D : Does l Z y bytes mx none rm as' h Q) (eT : T.heap = h) (N : Fr n0 locs) (W : Nat) (hf : rm.frames + 1 ≤ R.frames) (hl : W + (mx + 11) + rm.locals ≤ R.locals) (hc : cells + rm.cells ≤ R.cells) (hs : slots + rm.slots ≤ R.slots)
    {g : JFrame} (hg : g.method = m) (hsize : g.locals.size = c.maxLocals) (argsL rest : List Value) (hlen : ∀ sig, parseMethodDescriptor y.desc = some sig → argsL.length = sig.parameters.length) (has : (.ref b :: argsL).toArray = as')
    (hstack : g.stack = argsL.reverse ++ .ref b :: rest) (hW : 2 * g.monitorRoom + (rest.map fun v => v.category).sum ≤ W) (hd : decode c.code g.pc = .ok (.invokespecial index, 3)) {F : Outcome → State → Prop}
    (kk : ∀ (T' : State) (v : Option Value) (L L' : List Loc), Stand p l e R s m args below meth c T' L' (cells + rm.cells) (slots + rm.slots) → (Fr n0 L → Fr n0 L') → Q v T'.heap L → Go p.tables e below F T' { g with pc := g.pc + 3, stack := v.toList ++ rest }) : Go p.tables e below F T g := by
  obtain ⟨v, _, ⟨T', L', k', n'⟩, -, X', ⟨L, hq, e1, e2, e3⟩, st⟩ := X.specialBack hx hy1 hown (mvT hZ w1) (mvT hZ w2) (mvT hZ w4) hy (backOf (W := W) (Q := Q) (D []) hZ w4 w3 hf hl) hg hsize (Steps.refl _) hlen hstack hW hd (fun _ _ => ⟨has, eT, hc, hs⟩)
  dsimp only [Pt.U, Pt.locs, Pt.cells, Pt.slots] at X' e1 e2 e3 st hq
  subst e1 e2 e3
  exact Go.st (fun t k => st.trans k) (kk T' v L _ X' (fun q => N.app q) hq)
/-! arrays -/
/-- the array at a has n places, place i holds f i -/
def BA (Z : State) (h : Heap) (a : Addr) (ty : FieldType) (n : Nat) (f : Nat → Value) : Prop := ∃ c : Cell, Arr Z h a c ty ∧ c.slots.size = n ∧ ∀ i, i < n → c.slots[i]? = some (f i)
theorem BA.lt (V : BA Z h a ty n f) : a < h.size := by obtain ⟨c, A, -⟩ := V; exact A.lt
theorem BA.ext (V : BA Z h a ty n f) (E : Ext h h') : BA Z h' a ty n f := by obtain ⟨c, A, r⟩ := V; exact ⟨c, A.ext E, r⟩
theorem BA.other (V : BA Z h b ty n f) (W : Wr h h' a sl v) (q : b ≠ a) : BA Z h' b ty n f := by obtain ⟨c, A, r⟩ := V; exact ⟨c, A.other W q, r⟩
theorem BA.keep (V : BA Z h a ty n f) (K : Keep h h' ws) (q : a ∉ ws) : BA Z h' a ty n f := by obtain ⟨c, A, r⟩ := V; exact ⟨c, ⟨K.2.1 a c A.1 q, A.2⟩, r⟩
theorem BA.set (V : BA Z h a ty n f) (W : Wr h h' a k v) : BA Z h' a ty n (fun i => if i = k then v else f i) := by
  obtain ⟨c, A, S, H⟩ := V
  refine ⟨_, A.same W, by rw [sz_set]; exact S, fun i hi => ?_⟩
  show _ = some (if i = k then v else f i)
  by_cases q : i = k
  · subst q; rw [if_pos rfl]; simp [Cell.setSlot, S, hi]
  · rw [if_neg q]; simp only [Cell.setSlot]; rw [Array.getElem?_setIfInBounds_ne (fun z => q z.symm)]; exact H i hi
theorem BA.to (V : BA Z h a ty n f) (q : ∀ i, i < n → f i = f' i) : BA Z h a ty n f' := by
  obtain ⟨c, A, S, H⟩ := V
  exact ⟨c, A, S, fun i hi => by rw [H i hi, q i hi]⟩
theorem BA.new {kc : ClassId} {z : Int32} (A : Arr Z h a (newA kc ty z) ty) (hz : z.toNatClampNeg = n) : BA Z h a ty n (fun _ => defaultValue ty) := ⟨_, A, by rw [sz_new]; exact hz, fun i hi => by
  have : i < z.toNatClampNeg := by rw [hz]; exact hi
  simp [newA, this]⟩
/-- the int j is the place k of n -/
def Ix (j : Int32) (k n : Nat) : Prop := ¬ j < 0 ∧ j.toNatClampNeg = k ∧ k < n
theorem Ix.hin {j : Int32} {c : Cell} (I : Ix j k n) (S : c.slots.size = n) : ¬ (j < 0 ∨ c.slots.size ≤ j.toNatClampNeg) := by
  obtain ⟨h1, h2, h3⟩ := I
  rw [S, h2]; intro q; rcases q with q | q
  · exact h1 q
  · omega
theorem goStB (X : Stand p l e R s m args below meth c T locs cells slots) (hx : p.tables.exec = Jvm.exec) (hZ : Z.Warmed39 s.vm) (eT : T.heap = h) (N : Fr n0 locs) (V : BA Z h a .byte n f) (ga : n0 ≤ a) {j x : Int32} {g : JFrame} (hg : g.method = m) {rest : List Value} (hs : g.stack = .int x :: .int j :: .ref a :: rest) (hd : decode c.code g.pc = .ok (.bastore, 1)) (I : Ix j k n) {F : Outcome → State → Prop}
    (kk : ∀ (T' : State) (h' : Heap) (L : List Loc), Stand p l e R s m args below meth c T' L cells slots → T'.heap = h' → Fr n0 L → Wr h h' a k (.int x.toInt8.toInt32) → BA Z h' a .byte n (fun i => if i = k then .int x.toInt8.toInt32 else f i) → Go p.tables e below F T' { g with pc := g.pc + 1, stack := rest }) : Go p.tables e below F T g := by
  have V0 := V
  obtain ⟨cl, A, S, H⟩ := V
  obtain ⟨T', h', X', e', W, st⟩ := stB X hx hZ eT A (I.hin S) hg hs hd
  obtain ⟨h1, h2, h3⟩ := I
  subst h2
  exact Go.st st (kk T' h' _ X' e' (own_one N ga) W (V0.set W))
theorem goStI (X : Stand p l e R s m args below meth c T locs cells slots) (hx : p.tables.exec = Jvm.exec) (hZ : Z.Warmed39 s.vm) (eT : T.heap = h) (N : Fr n0 locs) (V : BA Z h a .int n f) (ga : n0 ≤ a) {j x : Int32} {g : JFrame} (hg : g.method = m) {rest : List Value} (hs : g.stack = .int x :: .int j :: .ref a :: rest) (hd : decode c.code g.pc = .ok (.iastore, 1)) (I : Ix j k n) {F : Outcome → State → Prop}
    (kk : ∀ (T' : State) (h' : Heap) (L : List Loc), Stand p l e R s m args below meth c T' L cells slots → T'.heap = h' → Fr n0 L → Wr h h' a k (.int x) → BA Z h' a .int n (fun i => if i = k then .int x else f i) → Go p.tables e below F T' { g with pc := g.pc + 1, stack := rest }) : Go p.tables e below F T g := by
  have V0 := V
  obtain ⟨cl, A, S, H⟩ := V
  obtain ⟨T', h', X', e', W, st⟩ := stI X hx hZ eT A (I.hin S) hg hs hd
  obtain ⟨h1, h2, h3⟩ := I
  subst h2
  exact Go.st st (kk T' h' _ X' e' (own_one N ga) W (V0.set W))
theorem goStJ (X : Stand p l e R s m args below meth c T locs cells slots) (hx : p.tables.exec = Jvm.exec) (hZ : Z.Warmed39 s.vm) (eT : T.heap = h) (N : Fr n0 locs) (V : BA Z h a .long n f) (ga : n0 ≤ a) {j : Int32} {x : Int64} {g : JFrame} (hg : g.method = m) {rest : List Value} (hs : g.stack = .long x :: .int j :: .ref a :: rest) (hd : decode c.code g.pc = .ok (.lastore, 1)) (I : Ix j k n) {F : Outcome → State → Prop}
    (kk : ∀ (T' : State) (h' : Heap) (L : List Loc), Stand p l e R s m args below meth c T' L cells slots → T'.heap = h' → Fr n0 L → Wr h h' a k (.long x) → BA Z h' a .long n (fun i => if i = k then .long x else f i) → Go p.tables e below F T' { g with pc := g.pc + 1, stack := rest }) : Go p.tables e below F T g := by
  have V0 := V
  obtain ⟨cl, A, S, H⟩ := V
  obtain ⟨T', h', X', e', W, st⟩ := stJ X hx hZ eT A (I.hin S) hg hs hd
  obtain ⟨h1, h2, h3⟩ := I
  subst h2
  exact Go.st st (kk T' h' _ X' e' (own_one N ga) W (V0.set W))
theorem goLdB (X : Stand p l e R s m args below meth c T locs cells slots) (hx : p.tables.exec = Jvm.exec) (hZ : Z.Warmed39 s.vm) (eT : T.heap = h) (V : BA Z h a .byte n f) {j : Int32} {v : Value} {g : JFrame} (hg : g.method = m) {rest : List Value} (hs : g.stack = .int j :: .ref a :: rest) (hd : decode c.code g.pc = .ok (.baload, 1)) (I : Ix j k n) (hv : f k = v) {F : Outcome → State → Prop}
    (kk : Go p.tables e below F T { g with pc := g.pc + 1, stack := v :: rest }) : Go p.tables e below F T g := by
  obtain ⟨cl, A, S, H⟩ := V
  exact Go.st (fun t q => X.baloadBytes hx (by rw [eT]; exact A.1) (State.isArrayOf_alike hZ.alike A.2.1) A.2.2 (I.hin S) (by rw [I.2.1, H k I.2.2, hv]) hg hs hd t q) kk
theorem goLdI (X : Stand p l e R s m args below meth c T locs cells slots) (hx : p.tables.exec = Jvm.exec) (hZ : Z.Warmed39 s.vm) (eT : T.heap = h) (V : BA Z h a .int n f) {j : Int32} {v : Value} {g : JFrame} (hg : g.method = m) {rest : List Value} (hs : g.stack = .int j :: .ref a :: rest) (hd : decode c.code g.pc = .ok (.iaload, 1)) (I : Ix j k n) (hv : f k = v) {F : Outcome → State → Prop}
    (kk : Go p.tables e below F T { g with pc := g.pc + 1, stack := v :: rest }) : Go p.tables e below F T g := by
  obtain ⟨cl, A, S, H⟩ := V
  exact Go.st (fun t q => X.iaload hx (by rw [eT]; exact A.1) (State.isArrayOf_alike hZ.alike A.2.1) A.2.2 (I.hin S) (by rw [I.2.1, H k I.2.2, hv]) hg hs hd t q) kk
theorem goLdJ (X : Stand p l e R s m args below meth c T locs cells slots) (hx : p.tables.exec = Jvm.exec) (hZ : Z.Warmed39 s.vm) (eT : T.heap = h) (V : BA Z h a .long n f) {j : Int32} {v : Value} {g : JFrame} (hg : g.method = m) {rest : List Value} (hs : g.stack = .int j :: .ref a :: rest) (hd : decode c.code g.pc = .ok (.laload, 1)) (I : Ix j k n) (hv : f k = v) {F : Outcome → State → Prop}
    (kk : Go p.tables e below F T { g with pc := g.pc + 1, stack := v :: rest }) : Go p.tables e below F T g := by
  obtain ⟨cl, A, S, H⟩ := V
  exact Go.st (fun t q => X.laload hx (by rw [eT]; exact A.1) (State.isArrayOf_alike hZ.alike A.2.1) A.2.2 (I.hin S) (by rw [I.2.1, H k I.2.2, hv]) hg hs hd t q) kk
theorem goLen (X : Stand p l e R s m args below meth c T locs cells slots) (hx : p.tables.exec = Jvm.exec) (hZ : Z.Warmed39 s.vm) (eT : T.heap = h) (V : BA Z h a ty n f) {z : Int32} (hz : n.toInt32 = z) {g : JFrame} (hg : g.method = m) {rest : List Value} (hs : g.stack = .ref a :: rest) (hd : decode c.code g.pc = .ok (.arraylength, 1)) {F : Outcome → State → Prop}
    (kk : Go p.tables e below F T { g with pc := g.pc + 1, stack := .int z :: rest }) : Go p.tables e below F T g := by
  obtain ⟨cl, A, S, H⟩ := V
  exact Go.st (fun t q => X.arraylength hx (by rw [eT]; exact A.1) (State.isArrayOf_alike hZ.alike A.2.1) hg hs hd t (by rw [S, hz]; exact q)) kk
theorem goNew (X : Stand p l e R s m args below meth c T locs cells slots) (hx : p.tables.exec = Jvm.exec) (hZ : Z.Warmed39 s.vm) {aty : ArrayType} (w : (Jvm.Cond.arrayClass (newarray.typeOf aty)).before a0 Z = true) (eT : T.heap = h) (Zs : n0 ≤ h.size) {z : Int32} (hz : ¬ z < 0) (hn : z.toNatClampNeg = n) (cap : Nat) (hcap : n ≤ cap) (hb : cap * 8 ≤ 536870912) (hc : cells + 1 ≤ R.cells) (hl : slots + cap ≤ R.slots)
    {g : JFrame} (hg : g.method = m) {rest : List Value} (hs : g.stack = .int z :: rest) (hd : decode c.code g.pc = .ok (.newarray aty, 2)) {F : Outcome → State → Prop}
    (kk : ∀ (T' : State) (h' : Heap) (b : Addr), Stand p l e R s m args below meth c T' locs (cells + 1) (slots + cap) → T'.heap = h' → Ext h h' → b = h.size → n0 ≤ b → n0 ≤ h'.size → BA Z h' b (newarray.typeOf aty) n (fun _ => defaultValue (newarray.typeOf aty)) → Go p.tables e below F T' { g with pc := g.pc + 2, stack := .ref b :: rest }) : Go p.tables e below F T g := by
  obtain ⟨T', h', cA, X', e', E, A, st⟩ := newP X hx hZ w eT hg hd hs hz (cap := cap) (by rw [hn]; exact hcap) hb hc hl
  exact Go.st st (kk T' h' _ X' e' E rfl Zs (Nat.le_trans Zs E.1) (BA.new A hn))
theorem own_sz (W : Wr h h' a sl v) (q : n0 ≤ h.size) : n0 ≤ h'.size := by rw [W.size]; exact q
end OwnKit

/-! PLAIN LAW: bytes of an int and of a long, bit by bit -/
theorem own_ext32 {x y : Int32} (h : ∀ i, i < 32 → x.toBitVec.getLsbD i = y.toBitVec.getLsbD i) : x = y := Int32.toBitVec_inj.mp (BitVec.eq_of_getLsbD_eq h)
theorem own_ext64 {x y : Int64} (h : ∀ i, i < 64 → x.toBitVec.getLsbD i = y.toBitVec.getLsbD i) : x = y := Int64.toBitVec_inj.mp (BitVec.eq_of_getLsbD_eq h)
theorem own_nn (x : Int32) : x.toInt8.toInt32.toInt8.toInt32 = x.toInt8.toInt32 := by rw [Int8.toInt8_toInt32]
/-- the low byte's bits stay -/
theorem own_nb (x : Int32) {i : Nat} (hi : i < 8) : x.toInt8.toInt32.toBitVec.getLsbD i = x.toBitVec.getLsbD i := by
  show ((x.toBitVec.signExtend 8).signExtend 32).getLsbD i = _
  rw [BitVec.getLsbD_signExtend, if_pos hi, BitVec.getLsbD_signExtend, if_pos (by omega)]
  simp [hi, show i < 32 by omega]
theorem own_nb2 (x : Int32) {i : Nat} (hi : i < 8) : x.toInt8.toInt32.toInt8.toInt32.toBitVec.getLsbD i = x.toBitVec.getLsbD i := by rw [own_nn]; exact own_nb x hi
theorem own_w (x : Int32) {i : Nat} (hi : i < 32) : x.toInt64.toBitVec.getLsbD i = x.toBitVec.getLsbD i := by
  show (x.toBitVec.signExtend 64).getLsbD i = _
  rw [BitVec.getLsbD_signExtend, if_pos hi]
  simp [show i < 64 by omega]
theorem own_lo32 (x : Int64) {i : Nat} (hi : i < 32) : x.toInt32.toBitVec.getLsbD i = x.toBitVec.getLsbD i := by
  show (x.toBitVec.signExtend 32).getLsbD i = _
  rw [BitVec.getLsbD_signExtend, if_pos (by omega)]
  simp [hi]
theorem own_255 : ∀ i, i < 32 → (255 : Int32).toBitVec.getLsbD i = decide (i < 8) := by decide
theorem own_255l : ∀ i, i < 64 → (255 : Int64).toBitVec.getLsbD i = decide (i < 8) := by decide
theorem own_ff : ∀ i, i < 64 → (4294967295 : Int64).toBitVec.getLsbD i = decide (i < 32) := by decide
/-- bits of x >>> s, as the code spells it -/
theorem own_us {x : Int32} {r : Int32} {s : Nat} (e : r.toBitVec = x.toBitVec >>> s) {j i : Nat} (h : s + j = i) : r.toBitVec.getLsbD j = x.toBitVec.getLsbD i := by
  rw [e, BitVec.getLsbD_ushiftRight, h]
theorem own_usl {x r : Int64} {s : Nat} (e : r.toBitVec = x.toBitVec >>> s) {j i : Nat} (h : s + j = i) : r.toBitVec.getLsbD j = x.toBitVec.getLsbD i := by
  rw [e, BitVec.getLsbD_ushiftRight, h]

theorem own_and3 (p : Int32) : (p &&& (3 : Int32)) = 0 ∨ (p &&& (3 : Int32)) = 1 ∨ (p &&& (3 : Int32)) = 2 ∨ (p &&& (3 : Int32)) = 3 := by
  have h1 : (p &&& (3 : Int32)).toInt = p.toInt % 2 ^ 2 := Jvm.Kit.i32_mask p 3 (k := 2) (by decide) (by decide)
  generalize (p &&& (3 : Int32)) = r at *
  have h3 : r.toInt = 0 ∨ r.toInt = 1 ∨ r.toInt = 2 ∨ r.toInt = 3 := by omega
  rcases h3 with h | h | h | h
  · exact Or.inl (Int32.toInt_inj.mp h)
  · exact Or.inr (Or.inl (Int32.toInt_inj.mp h))
  · exact Or.inr (Or.inr (Or.inl (Int32.toInt_inj.mp h)))
  · exact Or.inr (Or.inr (Or.inr (Int32.toInt_inj.mp h)))
theorem own_at (p : Int32) : ∃ (q : Int32) (k : Nat), (p &&& (3 : Int32)) = q ∧ Ix q k 11 ∧ Ix (q + 1) (k + 1) 11 ∧ Ix (q + 2) (k + 2) 11 ∧ Ix (q + 3) (k + 3) 11 ∧ Ix (q + 4) (k + 4) 11 ∧ Ix (q + 5) (k + 5) 11 ∧ Ix (q + 6) (k + 6) 11 ∧ Ix (q + 7) (k + 7) 11 ∧ Ix (q + 4 + 1) (k + 4 + 1) 11 ∧ Ix (q + 4 + 2) (k + 4 + 2) 11 ∧ Ix (q + 4 + 3) (k + 4 + 3) 11 := by
  rcases own_and3 p with h | h | h | h <;> rw [h]
  · exact ⟨_, 0, rfl, ⟨by decide, by decide, by decide⟩, ⟨by decide, by decide, by decide⟩, ⟨by decide, by decide, by decide⟩, ⟨by decide, by decide, by decide⟩, ⟨by decide, by decide, by decide⟩, ⟨by decide, by decide, by decide⟩, ⟨by decide, by decide, by decide⟩, ⟨by decide, by decide, by decide⟩, ⟨by decide, by decide, by decide⟩, ⟨by decide, by decide, by decide⟩, ⟨by decide, by decide, by decide⟩⟩
  · exact ⟨_, 1, rfl, ⟨by decide, by decide, by decide⟩, ⟨by decide, by decide, by decide⟩, ⟨by decide, by decide, by decide⟩, ⟨by decide, by decide, by decide⟩, ⟨by decide, by decide, by decide⟩, ⟨by decide, by decide, by decide⟩, ⟨by decide, by decide, by decide⟩, ⟨by decide, by decide, by decide⟩, ⟨by decide, by decide, by decide⟩, ⟨by decide, by decide, by decide⟩, ⟨by decide, by decide, by decide⟩⟩
  · exact ⟨_, 2, rfl, ⟨by decide, by decide, by decide⟩, ⟨by decide, by decide, by decide⟩, ⟨by decide, by decide, by decide⟩, ⟨by decide, by decide, by decide⟩, ⟨by decide, by decide, by decide⟩, ⟨by decide, by decide, by decide⟩, ⟨by decide, by decide, by decide⟩, ⟨by decide, by decide, by decide⟩, ⟨by decide, by decide, by decide⟩, ⟨by decide, by decide, by decide⟩, ⟨by decide, by decide, by decide⟩⟩
  · exact ⟨_, 3, rfl, ⟨by decide, by decide, by decide⟩, ⟨by decide, by decide, by decide⟩, ⟨by decide, by decide, by decide⟩, ⟨by decide, by decide, by decide⟩, ⟨by decide, by decide, by decide⟩, ⟨by decide, by decide, by decide⟩, ⟨by decide, by decide, by decide⟩, ⟨by decide, by decide, by decide⟩, ⟨by decide, by decide, by decide⟩, ⟨by decide, by decide, by decide⟩, ⟨by decide, by decide, by decide⟩⟩
def own_getl (w0 w1 w2 w3 w4 w5 w6 w7 : Int32) : Int64 := (((((((((w0.toInt64) <<< ((56 : Int32) &&& 0x3f).toInt64) ||| (((w1.toInt64) &&& (255 : Int64)) <<< ((48 : Int32) &&& 0x3f).toInt64)) ||| (((w2.toInt64) &&& (255 : Int64)) <<< ((40 : Int32) &&& 0x3f).toInt64)) ||| (((w3.toInt64) &&& (255 : Int64)) <<< ((32 : Int32) &&& 0x3f).toInt64)) ||| (((w4.toInt64) &&& (255 : Int64)) <<< ((24 : Int32) &&& 0x3f).toInt64)) ||| (((w5.toInt64) &&& (255 : Int64)) <<< ((16 : Int32) &&& 0x3f).toInt64)) ||| (((w6.toInt64) &&& (255 : Int64)) <<< ((8 : Int32) &&& 0x3f).toInt64)) ||| ((w7.toInt64) &&& (255 : Int64)))
theorem own_getl_bit (w0 w1 w2 w3 w4 w5 w6 w7 : Int32) {i : Nat} (hi : i < 64) : (own_getl w0 w1 w2 w3 w4 w5 w6 w7).toBitVec.getLsbD i = if i < 8 then w7.toBitVec.getLsbD i else if i < 16 then w6.toBitVec.getLsbD (i - 8) else if i < 24 then w5.toBitVec.getLsbD (i - 16) else if i < 32 then w4.toBitVec.getLsbD (i - 24) else if i < 40 then w3.toBitVec.getLsbD (i - 32) else if i < 48 then w2.toBitVec.getLsbD (i - 40) else if i < 56 then w1.toBitVec.getLsbD (i - 48) else w0.toBitVec.getLsbD (i - 56) := by
  show ((((((((w0.toInt64.toBitVec <<< 56) ||| ((w1.toInt64.toBitVec &&& (255 : Int64).toBitVec) <<< 48)) ||| ((w2.toInt64.toBitVec &&& (255 : Int64).toBitVec) <<< 40)) ||| ((w3.toInt64.toBitVec &&& (255 : Int64).toBitVec) <<< 32)) ||| ((w4.toInt64.toBitVec &&& (255 : Int64).toBitVec) <<< 24)) ||| ((w5.toInt64.toBitVec &&& (255 : Int64).toBitVec) <<< 16)) ||| ((w6.toInt64.toBitVec &&& (255 : Int64).toBitVec) <<< 8)) ||| (w7.toInt64.toBitVec &&& (255 : Int64).toBitVec)).getLsbD i = _
  simp only [BitVec.getLsbD_or, BitVec.getLsbD_shiftLeft, BitVec.getLsbD_and]
  rw [own_255l i hi, own_255l (i - 48) (by omega), own_255l (i - 40) (by omega), own_255l (i - 32) (by omega), own_255l (i - 24) (by omega), own_255l (i - 16) (by omega), own_255l (i - 8) (by omega)]
  by_cases c8 : i < 8
  · rw [own_w w7 (show i < 32 by omega)]; simp [hi, show i < 8 by omega, show i < 16 by omega, show i < 24 by omega, show i < 32 by omega, show i < 40 by omega, show i < 48 by omega, show i < 56 by omega, show i - 48 < 8 by omega, show i - 40 < 8 by omega, show i - 32 < 8 by omega, show i - 24 < 8 by omega, show i - 16 < 8 by omega, show i - 8 < 8 by omega]
  by_cases c16 : i < 16
  · rw [own_w w6 (show i - 8 < 32 by omega)]; simp [hi, show ¬ i < 8 by omega, show i < 16 by omega, show i < 24 by omega, show i < 32 by omega, show i < 40 by omega, show i < 48 by omega, show i < 56 by omega, show i - 48 < 8 by omega, show i - 40 < 8 by omega, show i - 32 < 8 by omega, show i - 24 < 8 by omega, show i - 16 < 8 by omega, show i - 8 < 8 by omega]
  by_cases c24 : i < 24
  · rw [own_w w5 (show i - 16 < 32 by omega)]; simp [hi, show ¬ i < 8 by omega, show ¬ i < 16 by omega, show i < 24 by omega, show i < 32 by omega, show i < 40 by omega, show i < 48 by omega, show i < 56 by omega, show i - 48 < 8 by omega, show i - 40 < 8 by omega, show i - 32 < 8 by omega, show i - 24 < 8 by omega, show i - 16 < 8 by omega, show ¬ i - 8 < 8 by omega]
  by_cases c32 : i < 32
  · rw [own_w w4 (show i - 24 < 32 by omega)]; simp [hi, show ¬ i < 8 by omega, show ¬ i < 16 by omega, show ¬ i < 24 by omega, show i < 32 by omega, show i < 40 by omega, show i < 48 by omega, show i < 56 by omega, show i - 48 < 8 by omega, show i - 40 < 8 by omega, show i - 32 < 8 by omega, show i - 24 < 8 by omega, show ¬ i - 16 < 8 by omega, show ¬ i - 8 < 8 by omega]
  by_cases c40 : i < 40
  · rw [own_w w3 (show i - 32 < 32 by omega)]; simp [hi, show ¬ i < 8 by omega, show ¬ i < 16 by omega, show ¬ i < 24 by omega, show ¬ i < 32 by omega, show i < 40 by omega, show i < 48 by omega, show i < 56 by omega, show i - 48 < 8 by omega, show i - 40 < 8 by omega, show i - 32 < 8 by omega, show ¬ i - 24 < 8 by omega, show ¬ i - 16 < 8 by omega, show ¬ i - 8 < 8 by omega]
  by_cases c48 : i < 48
  · rw [own_w w2 (show i - 40 < 32 by omega)]; simp [hi, show ¬ i < 8 by omega, show ¬ i < 16 by omega, show ¬ i < 24 by omega, show ¬ i < 32 by omega, show ¬ i < 40 by omega, show i < 48 by omega, show i < 56 by omega, show i - 48 < 8 by omega, show i - 40 < 8 by omega, show ¬ i - 32 < 8 by omega, show ¬ i - 24 < 8 by omega, show ¬ i - 16 < 8 by omega, show ¬ i - 8 < 8 by omega]
  by_cases c56 : i < 56
  · rw [own_w w1 (show i - 48 < 32 by omega)]; simp [hi, show ¬ i < 8 by omega, show ¬ i < 16 by omega, show ¬ i < 24 by omega, show ¬ i < 32 by omega, show ¬ i < 40 by omega, show ¬ i < 48 by omega, show i < 56 by omega, show i - 48 < 8 by omega, show ¬ i - 40 < 8 by omega, show ¬ i - 32 < 8 by omega, show ¬ i - 24 < 8 by omega, show ¬ i - 16 < 8 by omega, show ¬ i - 8 < 8 by omega]
  rw [own_w w0 (show i - 56 < 32 by omega)]; simp [hi, show ¬ i < 8 by omega, show ¬ i < 16 by omega, show ¬ i < 24 by omega, show ¬ i < 32 by omega, show ¬ i < 40 by omega, show ¬ i < 48 by omega, show ¬ i < 56 by omega, show ¬ i - 48 < 8 by omega, show ¬ i - 40 < 8 by omega, show ¬ i - 32 < 8 by omega, show ¬ i - 24 < 8 by omega, show ¬ i - 16 < 8 by omega, show ¬ i - 8 < 8 by omega]
theorem own_gl (p1 p2 : Int32) : own_getl (((((p1.toUInt32 >>> ((24 : Int32) &&& 31).toUInt32).toInt32)).toInt8.toInt32).toInt8.toInt32) (((((p1.toUInt32 >>> ((16 : Int32) &&& 31).toUInt32).toInt32)).toInt8.toInt32).toInt8.toInt32) (((((p1.toUInt32 >>> ((8 : Int32) &&& 31).toUInt32).toInt32)).toInt8.toInt32).toInt8.toInt32) (((p1).toInt8.toInt32).toInt8.toInt32) (((((p2.toUInt32 >>> ((24 : Int32) &&& 31).toUInt32).toInt32)).toInt8.toInt32).toInt8.toInt32) (((((p2.toUInt32 >>> ((16 : Int32) &&& 31).toUInt32).toInt32)).toInt8.toInt32).toInt8.toInt32) (((((p2.toUInt32 >>> ((8 : Int32) &&& 31).toUInt32).toInt32)).toInt8.toInt32).toInt8.toInt32) (((p2).toInt8.toInt32).toInt8.toInt32) = ((p1.toInt64 <<< ((32 : Int32) &&& 0x3f).toInt64) ||| (p2.toInt64 &&& (4294967295 : Int64))) := by
  apply own_ext64
  intro i hi
  rw [own_getl_bit _ _ _ _ _ _ _ _ hi]
  have R : ((p1.toInt64 <<< ((32 : Int32) &&& 0x3f).toInt64) ||| (p2.toInt64 &&& (4294967295 : Int64))).toBitVec.getLsbD i = if i < 32 then p2.toBitVec.getLsbD i else p1.toBitVec.getLsbD (i - 32) := by
    show ((p1.toInt64.toBitVec <<< 32) ||| (p2.toInt64.toBitVec &&& (4294967295 : Int64).toBitVec)).getLsbD i = _
    simp only [BitVec.getLsbD_or, BitVec.getLsbD_shiftLeft, BitVec.getLsbD_and]
    rw [own_ff i hi]
    by_cases c : i < 32
    · rw [own_w p2 c]; simp [c]
    · rw [own_w p1 (show i - 32 < 32 by omega)]; simp [c, hi]
  rw [R]
  by_cases c8 : i < 8
  · rw [if_pos c8, if_pos (show i < 32 by omega), own_nb2 _ (by omega)]
  rw [if_neg c8]
  by_cases c16 : i < 16
  · rw [if_pos c16, if_pos (show i < 32 by omega), own_nb2 _ (by omega)]; exact own_us (s := 8) rfl (by omega)
  rw [if_neg c16]
  by_cases c24 : i < 24
  · rw [if_pos c24, if_pos (show i < 32 by omega), own_nb2 _ (by omega)]; exact own_us (s := 16) rfl (by omega)
  rw [if_neg c24]
  by_cases c32 : i < 32
  · rw [if_pos c32, if_pos (show i < 32 by omega), own_nb2 _ (by omega)]; exact own_us (s := 24) rfl (by omega)
  rw [if_neg c32]
  by_cases c40 : i < 40
  · rw [if_pos c40, if_neg (show ¬ i < 32 by omega), own_nb2 _ (by omega)]
  rw [if_neg c40]
  by_cases c48 : i < 48
  · rw [if_pos c48, if_neg (show ¬ i < 32 by omega), own_nb2 _ (by omega)]; exact own_us (s := 8) rfl (by omega)
  rw [if_neg c48]
  by_cases c56 : i < 56
  · rw [if_pos c56, if_neg (show ¬ i < 32 by omega), own_nb2 _ (by omega)]; exact own_us (s := 16) rfl (by omega)
  rw [if_neg c56]
  rw [if_neg (show ¬ i < 32 by omega), own_nb2 _ (by omega)]; exact own_us (s := 24) rfl (by omega)
theorem d1_0 : decode method_3_code 0 = .ok (.aload_n 0, 1) := by decide +kernel
theorem d1_1 : decode method_3_code 1 = .ok (.iload_n 1, 1) := by decide +kernel
theorem d1_2 : decode method_3_code 2 = .ok (.iload_n 2, 1) := by decide +kernel
theorem d1_3 : decode method_3_code 3 = .ok (.bipush 24, 2) := by decide +kernel
theorem d1_5 : decode method_3_code 5 = .ok (.iushr, 1) := by decide +kernel
theorem d1_6 : decode method_3_code 6 = .ok (.i2b, 1) := by decide +kernel
theorem d1_7 : decode method_3_code 7 = .ok (.bastore, 1) := by decide +kernel
theorem d1_8 : decode method_3_code 8 = .ok (.aload_n 0, 1) := by decide +kernel
theorem d1_9 : decode method_3_code 9 = .ok (.iload_n 1, 1) := by decide +kernel
theorem d1_10 : decode method_3_code 10 = .ok (.iconst 1, 1) := by decide +kernel
theorem d1_11 : decode method_3_code 11 = .ok (.iadd, 1) := by decide +kernel
theorem d1_12 : decode method_3_code 12 = .ok (.iload_n 2, 1) := by decide +kernel
theorem d1_13 : decode method_3_code 13 = .ok (.bipush 16, 2) := by decide +kernel
theorem d1_15 : decode method_3_code 15 = .ok (.iushr, 1) := by decide +kernel
theorem d1_16 : decode method_3_code 16 = .ok (.i2b, 1) := by decide +kernel
theorem d1_17 : decode method_3_code 17 = .ok (.bastore, 1) := by decide +kernel
theorem d1_18 : decode method_3_code 18 = .ok (.aload_n 0, 1) := by decide +kernel
theorem d1_19 : decode method_3_code 19 = .ok (.iload_n 1, 1) := by decide +kernel
theorem d1_20 : decode method_3_code 20 = .ok (.iconst 2, 1) := by decide +kernel
theorem d1_21 : decode method_3_code 21 = .ok (.iadd, 1) := by decide +kernel
theorem d1_22 : decode method_3_code 22 = .ok (.iload_n 2, 1) := by decide +kernel
theorem d1_23 : decode method_3_code 23 = .ok (.bipush 8, 2) := by decide +kernel
theorem d1_25 : decode method_3_code 25 = .ok (.iushr, 1) := by decide +kernel
theorem d1_26 : decode method_3_code 26 = .ok (.i2b, 1) := by decide +kernel
theorem d1_27 : decode method_3_code 27 = .ok (.bastore, 1) := by decide +kernel
theorem d1_28 : decode method_3_code 28 = .ok (.aload_n 0, 1) := by decide +kernel
theorem d1_29 : decode method_3_code 29 = .ok (.iload_n 1, 1) := by decide +kernel
theorem d1_30 : decode method_3_code 30 = .ok (.iconst 3, 1) := by decide +kernel
theorem d1_31 : decode method_3_code 31 = .ok (.iadd, 1) := by decide +kernel
theorem d1_32 : decode method_3_code 32 = .ok (.iload_n 2, 1) := by decide +kernel
theorem d1_33 : decode method_3_code 33 = .ok (.i2b, 1) := by decide +kernel
theorem d1_34 : decode method_3_code 34 = .ok (.bastore, 1) := by decide +kernel
theorem d1_35 : decode method_3_code 35 = .ok (.return_, 1) := by decide +kernel
theorem pn_1 : plainName "wardlog/BytesGetLongPinLaw" = true := by first | (simp [plainName, overriddenIn]; done) | decide +kernel
theorem ef_1 (m : MethodId) (x0 : Addr) (x1 : Int32) (x2 : Int32) : entryFrame m #[(.ref x0), (.int x1), (.int x2)] 3 = mkF m 0 #[.val (.ref x0), .val (.int x1), .val (.int x2)] [] := by first | (simp [entryFrame, mkF, argsToLocals, Value.category]; done) | rfl
set_option maxRecDepth 65536 in
set_option maxHeartbeats 40000000 in
theorem rm1 (l : Launch) (Z : State) (a0 : Array Value) (hw : ∀ d ∈ tables_1, d.before a0 Z = true) (a1 : Addr) (p2 : Int32) (p3 : Int32) (h0 : Heap) (n0 : Nat) (Z0 : n0 ≤ h0.size) (k n : Nat) (f : Nat → Value) (V_a1 : BA Z h0 a1 .byte n f) (g_a1 : n0 ≤ a1) (I0 : Ix p2 k n) (I1 : Ix (p2 + 1) (k + 1) n) (I2 : Ix (p2 + 2) (k + 2) n) (I3 : Ix (p2 + 3) (k + 3) n) :
    Does l Z (⟨"wardlog/BytesGetLongPinLaw", "put4", "([BII)V"⟩ : MethodName) method_3_code 3 none ({ frames := 0, cells := 0, slots := 0, locals := 0 } : Room) #[(.ref a1), (.int p2), (.int p3)] h0 (fun v h L => v = none ∧ Fr n0 L ∧ Keep h0 h [a1] ∧ BA Z h a1 .byte n (fun i => if i = k + 3 then .int (((p3).toInt8.toInt32).toInt8.toInt32) else if i = k + 2 then .int (((((p3.toUInt32 >>> ((8 : Int32) &&& 31).toUInt32).toInt32)).toInt8.toInt32).toInt8.toInt32) else if i = k + 1 then .int (((((p3.toUInt32 >>> ((16 : Int32) &&& 31).toUInt32).toInt32)).toInt8.toInt32).toInt8.toInt32) else if i = k then .int (((((p3.toUInt32 >>> ((24 : Int32) &&& 31).toUInt32).toInt32)).toInt8.toInt32).toInt8.toInt32) else f i)) := by
  refine Does.body (plainFor_of_name pn_1) ?_
  intro p e s m below meth c T0 X0 hx hZ hby hml hown hnm hret hlk e0
  replace hown : s.vm.findClass "wardlog/BytesGetLongPinLaw" = some m.cls := hown
  have N0 := Fr.nil n0
  refine Go.frame (ef_1 m a1 p2 p3) ?_
  have K0 : Keep h0 h0 [a1] := Keep.refl _ _
  show Go _ _ _ _ T0 (mkF m 0 #[.val (.ref a1), .val (.int p2), .val (.int p3)] [])
  refine Go.st (fun t k => XS.aloadN X0.here hx rfl (hb hby d1_0) rfl rfl k) ?_
  show Go _ _ _ _ T0 (mkF m 1 #[.val (.ref a1), .val (.int p2), .val (.int p3)] [(.ref a1)])
  refine Go.st (fun t k => XS.iloadN X0.here hx rfl (hb hby d1_1) rfl k) ?_
  show Go _ _ _ _ T0 (mkF m 2 #[.val (.ref a1), .val (.int p2), .val (.int p3)] [(.int p2), (.ref a1)])
  refine Go.st (fun t k => XS.iloadN X0.here hx rfl (hb hby d1_2) rfl k) ?_
  show Go _ _ _ _ T0 (mkF m 3 #[.val (.ref a1), .val (.int p2), .val (.int p3)] [(.int p3), (.int p2), (.ref a1)])
  refine Go.st (fun t k => XS.bipush X0.here hx rfl (hb hby d1_3) k) ?_
  show Go _ _ _ _ T0 (mkF m 5 #[.val (.ref a1), .val (.int p2), .val (.int p3)] [(.int (24 : Int32)), (.int p3), (.int p2), (.ref a1)])
  refine Go.st (fun t k => XS.iushr X0.here hx rfl (hb hby d1_5) rfl k) ?_
  show Go _ _ _ _ T0 (mkF m 6 #[.val (.ref a1), .val (.int p2), .val (.int p3)] [(.int ((p3.toUInt32 >>> ((24 : Int32) &&& 31).toUInt32).toInt32)), (.int p2), (.ref a1)])
  refine Go.st (fun t k => XS.i2b X0.here hx rfl (hb hby d1_6) rfl k) ?_
  show Go _ _ _ _ T0 (mkF m 7 #[.val (.ref a1), .val (.int p2), .val (.int p3)] [(.int (((p3.toUInt32 >>> ((24 : Int32) &&& 31).toUInt32).toInt32).toInt8.toInt32)), (.int p2), (.ref a1)])
  refine goStB X0 hx hZ e0 N0 V_a1 g_a1 (g := (mkF m 7 #[.val (.ref a1), .val (.int p2), .val (.int p3)] [(.int (((p3.toUInt32 >>> ((24 : Int32) &&& 31).toUInt32).toInt32).toInt8.toInt32)), (.int p2), (.ref a1)])) rfl rfl (hb hby d1_7) I0 ?_
  intro T1 h1 L1 X1 e1 N1 W1 V_a1
  have Z1 := own_sz W1 Z0
  have K0 := K0.wr W1 (Or.inl (List.mem_of_getElem? (i := 0) rfl))
  show Go _ _ _ _ T1 (mkF m 8 #[.val (.ref a1), .val (.int p2), .val (.int p3)] [])
  refine Go.st (fun t k => XS.aloadN X1.here hx rfl (hb hby d1_8) rfl rfl k) ?_
  show Go _ _ _ _ T1 (mkF m 9 #[.val (.ref a1), .val (.int p2), .val (.int p3)] [(.ref a1)])
  refine Go.st (fun t k => XS.iloadN X1.here hx rfl (hb hby d1_9) rfl k) ?_
  show Go _ _ _ _ T1 (mkF m 10 #[.val (.ref a1), .val (.int p2), .val (.int p3)] [(.int p2), (.ref a1)])
  refine Go.st (fun t k => XS.iconst X1.here hx rfl (hb hby d1_10) k) ?_
  show Go _ _ _ _ T1 (mkF m 11 #[.val (.ref a1), .val (.int p2), .val (.int p3)] [(.int (1 : Int32)), (.int p2), (.ref a1)])
  refine Go.st (fun t k => XS.iadd X1.here hx rfl (hb hby d1_11) rfl k) ?_
  show Go _ _ _ _ T1 (mkF m 12 #[.val (.ref a1), .val (.int p2), .val (.int p3)] [(.int (p2 + (1 : Int32))), (.ref a1)])
  refine Go.st (fun t k => XS.iloadN X1.here hx rfl (hb hby d1_12) rfl k) ?_
  show Go _ _ _ _ T1 (mkF m 13 #[.val (.ref a1), .val (.int p2), .val (.int p3)] [(.int p3), (.int (p2 + (1 : Int32))), (.ref a1)])
  refine Go.st (fun t k => XS.bipush X1.here hx rfl (hb hby d1_13) k) ?_
  show Go _ _ _ _ T1 (mkF m 15 #[.val (.ref a1), .val (.int p2), .val (.int p3)] [(.int (16 : Int32)), (.int p3), (.int (p2 + (1 : Int32))), (.ref a1)])
  refine Go.st (fun t k => XS.iushr X1.here hx rfl (hb hby d1_15) rfl k) ?_
  show Go _ _ _ _ T1 (mkF m 16 #[.val (.ref a1), .val (.int p2), .val (.int p3)] [(.int ((p3.toUInt32 >>> ((16 : Int32) &&& 31).toUInt32).toInt32)), (.int (p2 + (1 : Int32))), (.ref a1)])
  refine Go.st (fun t k => XS.i2b X1.here hx rfl (hb hby d1_16) rfl k) ?_
  show Go _ _ _ _ T1 (mkF m 17 #[.val (.ref a1), .val (.int p2), .val (.int p3)] [(.int (((p3.toUInt32 >>> ((16 : Int32) &&& 31).toUInt32).toInt32).toInt8.toInt32)), (.int (p2 + (1 : Int32))), (.ref a1)])
  refine goStB X1 hx hZ e1 N1 V_a1 g_a1 (g := (mkF m 17 #[.val (.ref a1), .val (.int p2), .val (.int p3)] [(.int (((p3.toUInt32 >>> ((16 : Int32) &&& 31).toUInt32).toInt32).toInt8.toInt32)), (.int (p2 + (1 : Int32))), (.ref a1)])) rfl rfl (hb hby d1_17) I1 ?_
  intro T2 h2 L2 X2 e2 N2 W2 V_a1
  have Z2 := own_sz W2 Z1
  have K0 := K0.wr W2 (Or.inl (List.mem_of_getElem? (i := 0) rfl))
  show Go _ _ _ _ T2 (mkF m 18 #[.val (.ref a1), .val (.int p2), .val (.int p3)] [])
  refine Go.st (fun t k => XS.aloadN X2.here hx rfl (hb hby d1_18) rfl rfl k) ?_
  show Go _ _ _ _ T2 (mkF m 19 #[.val (.ref a1), .val (.int p2), .val (.int p3)] [(.ref a1)])
  refine Go.st (fun t k => XS.iloadN X2.here hx rfl (hb hby d1_19) rfl k) ?_
  show Go _ _ _ _ T2 (mkF m 20 #[.val (.ref a1), .val (.int p2), .val (.int p3)] [(.int p2), (.ref a1)])
  refine Go.st (fun t k => XS.iconst X2.here hx rfl (hb hby d1_20) k) ?_
  show Go _ _ _ _ T2 (mkF m 21 #[.val (.ref a1), .val (.int p2), .val (.int p3)] [(.int (2 : Int32)), (.int p2), (.ref a1)])
  refine Go.st (fun t k => XS.iadd X2.here hx rfl (hb hby d1_21) rfl k) ?_
  show Go _ _ _ _ T2 (mkF m 22 #[.val (.ref a1), .val (.int p2), .val (.int p3)] [(.int (p2 + (2 : Int32))), (.ref a1)])
  refine Go.st (fun t k => XS.iloadN X2.here hx rfl (hb hby d1_22) rfl k) ?_
  show Go _ _ _ _ T2 (mkF m 23 #[.val (.ref a1), .val (.int p2), .val (.int p3)] [(.int p3), (.int (p2 + (2 : Int32))), (.ref a1)])
  refine Go.st (fun t k => XS.bipush X2.here hx rfl (hb hby d1_23) k) ?_
  show Go _ _ _ _ T2 (mkF m 25 #[.val (.ref a1), .val (.int p2), .val (.int p3)] [(.int (8 : Int32)), (.int p3), (.int (p2 + (2 : Int32))), (.ref a1)])
  refine Go.st (fun t k => XS.iushr X2.here hx rfl (hb hby d1_25) rfl k) ?_
  show Go _ _ _ _ T2 (mkF m 26 #[.val (.ref a1), .val (.int p2), .val (.int p3)] [(.int ((p3.toUInt32 >>> ((8 : Int32) &&& 31).toUInt32).toInt32)), (.int (p2 + (2 : Int32))), (.ref a1)])
  refine Go.st (fun t k => XS.i2b X2.here hx rfl (hb hby d1_26) rfl k) ?_
  show Go _ _ _ _ T2 (mkF m 27 #[.val (.ref a1), .val (.int p2), .val (.int p3)] [(.int (((p3.toUInt32 >>> ((8 : Int32) &&& 31).toUInt32).toInt32).toInt8.toInt32)), (.int (p2 + (2 : Int32))), (.ref a1)])
  refine goStB X2 hx hZ e2 N2 V_a1 g_a1 (g := (mkF m 27 #[.val (.ref a1), .val (.int p2), .val (.int p3)] [(.int (((p3.toUInt32 >>> ((8 : Int32) &&& 31).toUInt32).toInt32).toInt8.toInt32)), (.int (p2 + (2 : Int32))), (.ref a1)])) rfl rfl (hb hby d1_27) I2 ?_
  intro T3 h3 L3 X3 e3 N3 W3 V_a1
  have Z3 := own_sz W3 Z2
  have K0 := K0.wr W3 (Or.inl (List.mem_of_getElem? (i := 0) rfl))
  show Go _ _ _ _ T3 (mkF m 28 #[.val (.ref a1), .val (.int p2), .val (.int p3)] [])
  refine Go.st (fun t k => XS.aloadN X3.here hx rfl (hb hby d1_28) rfl rfl k) ?_
  show Go _ _ _ _ T3 (mkF m 29 #[.val (.ref a1), .val (.int p2), .val (.int p3)] [(.ref a1)])
  refine Go.st (fun t k => XS.iloadN X3.here hx rfl (hb hby d1_29) rfl k) ?_
  show Go _ _ _ _ T3 (mkF m 30 #[.val (.ref a1), .val (.int p2), .val (.int p3)] [(.int p2), (.ref a1)])
  refine Go.st (fun t k => XS.iconst X3.here hx rfl (hb hby d1_30) k) ?_
  show Go _ _ _ _ T3 (mkF m 31 #[.val (.ref a1), .val (.int p2), .val (.int p3)] [(.int (3 : Int32)), (.int p2), (.ref a1)])
  refine Go.st (fun t k => XS.iadd X3.here hx rfl (hb hby d1_31) rfl k) ?_
  show Go _ _ _ _ T3 (mkF m 32 #[.val (.ref a1), .val (.int p2), .val (.int p3)] [(.int (p2 + (3 : Int32))), (.ref a1)])
  refine Go.st (fun t k => XS.iloadN X3.here hx rfl (hb hby d1_32) rfl k) ?_
  show Go _ _ _ _ T3 (mkF m 33 #[.val (.ref a1), .val (.int p2), .val (.int p3)] [(.int p3), (.int (p2 + (3 : Int32))), (.ref a1)])
  refine Go.st (fun t k => XS.i2b X3.here hx rfl (hb hby d1_33) rfl k) ?_
  show Go _ _ _ _ T3 (mkF m 34 #[.val (.ref a1), .val (.int p2), .val (.int p3)] [(.int (p3.toInt8.toInt32)), (.int (p2 + (3 : Int32))), (.ref a1)])
  refine goStB X3 hx hZ e3 N3 V_a1 g_a1 (g := (mkF m 34 #[.val (.ref a1), .val (.int p2), .val (.int p3)] [(.int (p3.toInt8.toInt32)), (.int (p2 + (3 : Int32))), (.ref a1)])) rfl rfl (hb hby d1_34) I3 ?_
  intro T4 h4 L4 X4 e4 N4 W4 V_a1
  have Z4 := own_sz W4 Z3
  have K0 := K0.wr W4 (Or.inl (List.mem_of_getElem? (i := 0) rfl))
  show Go _ _ _ _ T4 (mkF m 35 #[.val (.ref a1), .val (.int p2), .val (.int p3)] [])
  exact goV X4 hx hret hlk (hb hby d1_35) (by decide) (by decide) (by rw [e4]; exact ⟨rfl, N4, K0, V_a1⟩)
theorem d2_0 : decode prog_11_method_7_code 0 = .ok (.aload_n 0, 1) := by decide +kernel
theorem d2_1 : decode prog_11_method_7_code 1 = .ok (.iload_n 1, 1) := by decide +kernel
theorem d2_2 : decode prog_11_method_7_code 2 = .ok (.baload, 1) := by decide +kernel
theorem d2_3 : decode prog_11_method_7_code 3 = .ok (.i2l, 1) := by decide +kernel
theorem d2_4 : decode prog_11_method_7_code 4 = .ok (.bipush 56, 2) := by decide +kernel
theorem d2_6 : decode prog_11_method_7_code 6 = .ok (.lshl, 1) := by decide +kernel
theorem d2_7 : decode prog_11_method_7_code 7 = .ok (.aload_n 0, 1) := by decide +kernel
theorem d2_8 : decode prog_11_method_7_code 8 = .ok (.iload_n 1, 1) := by decide +kernel
theorem d2_9 : decode prog_11_method_7_code 9 = .ok (.iconst 1, 1) := by decide +kernel
theorem d2_10 : decode prog_11_method_7_code 10 = .ok (.iadd, 1) := by decide +kernel
theorem d2_11 : decode prog_11_method_7_code 11 = .ok (.baload, 1) := by decide +kernel
theorem d2_12 : decode prog_11_method_7_code 12 = .ok (.i2l, 1) := by decide +kernel
theorem d2_13 : decode prog_11_method_7_code 13 = .ok (.ldc2_w 13, 3) := by decide +kernel
theorem d2_16 : decode prog_11_method_7_code 16 = .ok (.land, 1) := by decide +kernel
theorem d2_17 : decode prog_11_method_7_code 17 = .ok (.bipush 48, 2) := by decide +kernel
theorem d2_19 : decode prog_11_method_7_code 19 = .ok (.lshl, 1) := by decide +kernel
theorem d2_20 : decode prog_11_method_7_code 20 = .ok (.lor, 1) := by decide +kernel
theorem d2_21 : decode prog_11_method_7_code 21 = .ok (.aload_n 0, 1) := by decide +kernel
theorem d2_22 : decode prog_11_method_7_code 22 = .ok (.iload_n 1, 1) := by decide +kernel
theorem d2_23 : decode prog_11_method_7_code 23 = .ok (.iconst 2, 1) := by decide +kernel
theorem d2_24 : decode prog_11_method_7_code 24 = .ok (.iadd, 1) := by decide +kernel
theorem d2_25 : decode prog_11_method_7_code 25 = .ok (.baload, 1) := by decide +kernel
theorem d2_26 : decode prog_11_method_7_code 26 = .ok (.i2l, 1) := by decide +kernel
theorem d2_27 : decode prog_11_method_7_code 27 = .ok (.ldc2_w 13, 3) := by decide +kernel
theorem d2_30 : decode prog_11_method_7_code 30 = .ok (.land, 1) := by decide +kernel
theorem d2_31 : decode prog_11_method_7_code 31 = .ok (.bipush 40, 2) := by decide +kernel
theorem d2_33 : decode prog_11_method_7_code 33 = .ok (.lshl, 1) := by decide +kernel
theorem d2_34 : decode prog_11_method_7_code 34 = .ok (.lor, 1) := by decide +kernel
theorem d2_35 : decode prog_11_method_7_code 35 = .ok (.aload_n 0, 1) := by decide +kernel
theorem d2_36 : decode prog_11_method_7_code 36 = .ok (.iload_n 1, 1) := by decide +kernel
theorem d2_37 : decode prog_11_method_7_code 37 = .ok (.iconst 3, 1) := by decide +kernel
theorem d2_38 : decode prog_11_method_7_code 38 = .ok (.iadd, 1) := by decide +kernel
theorem d2_39 : decode prog_11_method_7_code 39 = .ok (.baload, 1) := by decide +kernel
theorem d2_40 : decode prog_11_method_7_code 40 = .ok (.i2l, 1) := by decide +kernel
theorem d2_41 : decode prog_11_method_7_code 41 = .ok (.ldc2_w 13, 3) := by decide +kernel
theorem d2_44 : decode prog_11_method_7_code 44 = .ok (.land, 1) := by decide +kernel
theorem d2_45 : decode prog_11_method_7_code 45 = .ok (.bipush 32, 2) := by decide +kernel
theorem d2_47 : decode prog_11_method_7_code 47 = .ok (.lshl, 1) := by decide +kernel
theorem d2_48 : decode prog_11_method_7_code 48 = .ok (.lor, 1) := by decide +kernel
theorem d2_49 : decode prog_11_method_7_code 49 = .ok (.aload_n 0, 1) := by decide +kernel
theorem d2_50 : decode prog_11_method_7_code 50 = .ok (.iload_n 1, 1) := by decide +kernel
theorem d2_51 : decode prog_11_method_7_code 51 = .ok (.iconst 4, 1) := by decide +kernel
theorem d2_52 : decode prog_11_method_7_code 52 = .ok (.iadd, 1) := by decide +kernel
theorem d2_53 : decode prog_11_method_7_code 53 = .ok (.baload, 1) := by decide +kernel
theorem d2_54 : decode prog_11_method_7_code 54 = .ok (.i2l, 1) := by decide +kernel
theorem d2_55 : decode prog_11_method_7_code 55 = .ok (.ldc2_w 13, 3) := by decide +kernel
theorem d2_58 : decode prog_11_method_7_code 58 = .ok (.land, 1) := by decide +kernel
theorem d2_59 : decode prog_11_method_7_code 59 = .ok (.bipush 24, 2) := by decide +kernel
theorem d2_61 : decode prog_11_method_7_code 61 = .ok (.lshl, 1) := by decide +kernel
theorem d2_62 : decode prog_11_method_7_code 62 = .ok (.lor, 1) := by decide +kernel
theorem d2_63 : decode prog_11_method_7_code 63 = .ok (.aload_n 0, 1) := by decide +kernel
theorem d2_64 : decode prog_11_method_7_code 64 = .ok (.iload_n 1, 1) := by decide +kernel
theorem d2_65 : decode prog_11_method_7_code 65 = .ok (.iconst 5, 1) := by decide +kernel
theorem d2_66 : decode prog_11_method_7_code 66 = .ok (.iadd, 1) := by decide +kernel
theorem d2_67 : decode prog_11_method_7_code 67 = .ok (.baload, 1) := by decide +kernel
theorem d2_68 : decode prog_11_method_7_code 68 = .ok (.i2l, 1) := by decide +kernel
theorem d2_69 : decode prog_11_method_7_code 69 = .ok (.ldc2_w 13, 3) := by decide +kernel
theorem d2_72 : decode prog_11_method_7_code 72 = .ok (.land, 1) := by decide +kernel
theorem d2_73 : decode prog_11_method_7_code 73 = .ok (.bipush 16, 2) := by decide +kernel
theorem d2_75 : decode prog_11_method_7_code 75 = .ok (.lshl, 1) := by decide +kernel
theorem d2_76 : decode prog_11_method_7_code 76 = .ok (.lor, 1) := by decide +kernel
theorem d2_77 : decode prog_11_method_7_code 77 = .ok (.aload_n 0, 1) := by decide +kernel
theorem d2_78 : decode prog_11_method_7_code 78 = .ok (.iload_n 1, 1) := by decide +kernel
theorem d2_79 : decode prog_11_method_7_code 79 = .ok (.bipush 6, 2) := by decide +kernel
theorem d2_81 : decode prog_11_method_7_code 81 = .ok (.iadd, 1) := by decide +kernel
theorem d2_82 : decode prog_11_method_7_code 82 = .ok (.baload, 1) := by decide +kernel
theorem d2_83 : decode prog_11_method_7_code 83 = .ok (.i2l, 1) := by decide +kernel
theorem d2_84 : decode prog_11_method_7_code 84 = .ok (.ldc2_w 13, 3) := by decide +kernel
theorem d2_87 : decode prog_11_method_7_code 87 = .ok (.land, 1) := by decide +kernel
theorem d2_88 : decode prog_11_method_7_code 88 = .ok (.bipush 8, 2) := by decide +kernel
theorem d2_90 : decode prog_11_method_7_code 90 = .ok (.lshl, 1) := by decide +kernel
theorem d2_91 : decode prog_11_method_7_code 91 = .ok (.lor, 1) := by decide +kernel
theorem d2_92 : decode prog_11_method_7_code 92 = .ok (.aload_n 0, 1) := by decide +kernel
theorem d2_93 : decode prog_11_method_7_code 93 = .ok (.iload_n 1, 1) := by decide +kernel
theorem d2_94 : decode prog_11_method_7_code 94 = .ok (.bipush 7, 2) := by decide +kernel
theorem d2_96 : decode prog_11_method_7_code 96 = .ok (.iadd, 1) := by decide +kernel
theorem d2_97 : decode prog_11_method_7_code 97 = .ok (.baload, 1) := by decide +kernel
theorem d2_98 : decode prog_11_method_7_code 98 = .ok (.i2l, 1) := by decide +kernel
theorem d2_99 : decode prog_11_method_7_code 99 = .ok (.ldc2_w 13, 3) := by decide +kernel
theorem d2_102 : decode prog_11_method_7_code 102 = .ok (.land, 1) := by decide +kernel
theorem d2_103 : decode prog_11_method_7_code 103 = .ok (.lor, 1) := by decide +kernel
theorem d2_104 : decode prog_11_method_7_code 104 = .ok (.lreturn, 1) := by decide +kernel
theorem pn_2 : plainName "wardlog/Bytes" = true := by first | (simp [plainName, overriddenIn]; done) | decide +kernel
theorem ef_2 (m : MethodId) (x0 : Addr) (x1 : Int32) : entryFrame m #[(.ref x0), (.int x1)] 2 = mkF m 0 #[.val (.ref x0), .val (.int x1)] [] := by first | (simp [entryFrame, mkF, argsToLocals, Value.category]; done) | rfl
set_option maxRecDepth 65536 in
set_option maxHeartbeats 40000000 in
theorem rm2 (l : Launch) (Z : State) (a0 : Array Value) (hw : ∀ d ∈ tables_1, d.before a0 Z = true) (a1 : Addr) (p2 : Int32) (h0 : Heap) (n0 : Nat) (Z0 : n0 ≤ h0.size) (k n : Nat) (f : Nat → Value) (w0 w1 w2 w3 w4 w5 w6 w7 : Int32) (V_a1 : BA Z h0 a1 .byte n f) (I0 : Ix p2 k n) (I1 : Ix (p2 + 1) (k + 1) n) (I2 : Ix (p2 + 2) (k + 2) n) (I3 : Ix (p2 + 3) (k + 3) n) (I4 : Ix (p2 + 4) (k + 4) n) (I5 : Ix (p2 + 5) (k + 5) n) (I6 : Ix (p2 + 6) (k + 6) n) (I7 : Ix (p2 + 7) (k + 7) n) (H0 : f (k + 0) = .int w0) (H1 : f (k + 1) = .int w1) (H2 : f (k + 2) = .int w2) (H3 : f (k + 3) = .int w3) (H4 : f (k + 4) = .int w4) (H5 : f (k + 5) = .int w5) (H6 : f (k + 6) = .int w6) (H7 : f (k + 7) = .int w7) :
    Does l Z (⟨"wardlog/Bytes", "getLong", "([BI)J"⟩ : MethodName) prog_11_method_7_code 2 (some .long) ({ frames := 0, cells := 0, slots := 0, locals := 0 } : Room) #[(.ref a1), (.int p2)] h0 (fun v h L => v = some (.long (own_getl w0 w1 w2 w3 w4 w5 w6 w7)) ∧ Fr n0 L ∧ h = h0) := by
  refine Does.body (plainFor_of_name pn_2) ?_
  intro p e s m below meth c T0 X0 hx hZ hby hml hown hnm hret hlk e0
  replace hown : s.vm.findClass "wardlog/Bytes" = some m.cls := hown
  have N0 := Fr.nil n0
  refine Go.frame (ef_2 m a1 p2) ?_
  show Go _ _ _ _ T0 (mkF m 0 #[.val (.ref a1), .val (.int p2)] [])
  refine Go.st (fun t k => XS.aloadN X0.here hx rfl (hb hby d2_0) rfl rfl k) ?_
  show Go _ _ _ _ T0 (mkF m 1 #[.val (.ref a1), .val (.int p2)] [(.ref a1)])
  refine Go.st (fun t k => XS.iloadN X0.here hx rfl (hb hby d2_1) rfl k) ?_
  show Go _ _ _ _ T0 (mkF m 2 #[.val (.ref a1), .val (.int p2)] [(.int p2), (.ref a1)])
  refine goLdB X0 hx hZ e0 V_a1 (v := (.int w0)) (g := (mkF m 2 #[.val (.ref a1), .val (.int p2)] [(.int p2), (.ref a1)])) rfl rfl (hb hby d2_2) I0 H0 ?_
  show Go _ _ _ _ T0 (mkF m 3 #[.val (.ref a1), .val (.int p2)] [(.int w0)])
  refine Go.st (fun t k => XS.i2l X0.here hx rfl (hb hby d2_3) rfl k) ?_
  show Go _ _ _ _ T0 (mkF m 4 #[.val (.ref a1), .val (.int p2)] [(.long (w0.toInt64))])
  refine Go.st (fun t k => XS.bipush X0.here hx rfl (hb hby d2_4) k) ?_
  show Go _ _ _ _ T0 (mkF m 6 #[.val (.ref a1), .val (.int p2)] [(.int (56 : Int32)), (.long (w0.toInt64))])
  refine Go.st (fun t k => XS.lshl X0.here hx rfl (hb hby d2_6) rfl k) ?_
  show Go _ _ _ _ T0 (mkF m 7 #[.val (.ref a1), .val (.int p2)] [(.long ((w0.toInt64) <<< ((56 : Int32) &&& 0x3f).toInt64))])
  refine Go.st (fun t k => XS.aloadN X0.here hx rfl (hb hby d2_7) rfl rfl k) ?_
  show Go _ _ _ _ T0 (mkF m 8 #[.val (.ref a1), .val (.int p2)] [(.ref a1), (.long ((w0.toInt64) <<< ((56 : Int32) &&& 0x3f).toInt64))])
  refine Go.st (fun t k => XS.iloadN X0.here hx rfl (hb hby d2_8) rfl k) ?_
  show Go _ _ _ _ T0 (mkF m 9 #[.val (.ref a1), .val (.int p2)] [(.int p2), (.ref a1), (.long ((w0.toInt64) <<< ((56 : Int32) &&& 0x3f).toInt64))])
  refine Go.st (fun t k => XS.iconst X0.here hx rfl (hb hby d2_9) k) ?_
  show Go _ _ _ _ T0 (mkF m 10 #[.val (.ref a1), .val (.int p2)] [(.int (1 : Int32)), (.int p2), (.ref a1), (.long ((w0.toInt64) <<< ((56 : Int32) &&& 0x3f).toInt64))])
  refine Go.st (fun t k => XS.iadd X0.here hx rfl (hb hby d2_10) rfl k) ?_
  show Go _ _ _ _ T0 (mkF m 11 #[.val (.ref a1), .val (.int p2)] [(.int (p2 + (1 : Int32))), (.ref a1), (.long ((w0.toInt64) <<< ((56 : Int32) &&& 0x3f).toInt64))])
  refine goLdB X0 hx hZ e0 V_a1 (v := (.int w1)) (g := (mkF m 11 #[.val (.ref a1), .val (.int p2)] [(.int (p2 + (1 : Int32))), (.ref a1), (.long ((w0.toInt64) <<< ((56 : Int32) &&& 0x3f).toInt64))])) rfl rfl (hb hby d2_11) I1 H1 ?_
  show Go _ _ _ _ T0 (mkF m 12 #[.val (.ref a1), .val (.int p2)] [(.int w1), (.long ((w0.toInt64) <<< ((56 : Int32) &&& 0x3f).toInt64))])
  refine Go.st (fun t k => XS.i2l X0.here hx rfl (hb hby d2_12) rfl k) ?_
  show Go _ _ _ _ T0 (mkF m 13 #[.val (.ref a1), .val (.int p2)] [(.long (w1.toInt64)), (.long ((w0.toInt64) <<< ((56 : Int32) &&& 0x3f).toInt64))])
  refine Go.st (X0.ldc2Long hx hown (mvT hZ (hw _ (List.mem_of_getElem? (i := 10) rfl))) (g := (mkF m 13 #[.val (.ref a1), .val (.int p2)] [(.long (w1.toInt64)), (.long ((w0.toInt64) <<< ((56 : Int32) &&& 0x3f).toInt64))])) rfl (hb hby d2_13)) ?_
  show Go _ _ _ _ T0 (mkF m 16 #[.val (.ref a1), .val (.int p2)] [(.long (255 : Int64)), (.long (w1.toInt64)), (.long ((w0.toInt64) <<< ((56 : Int32) &&& 0x3f).toInt64))])
  refine Go.st (fun t k => XS.land X0.here hx rfl (hb hby d2_16) rfl k) ?_
  show Go _ _ _ _ T0 (mkF m 17 #[.val (.ref a1), .val (.int p2)] [(.long ((w1.toInt64) &&& (255 : Int64))), (.long ((w0.toInt64) <<< ((56 : Int32) &&& 0x3f).toInt64))])
  refine Go.st (fun t k => XS.bipush X0.here hx rfl (hb hby d2_17) k) ?_
  show Go _ _ _ _ T0 (mkF m 19 #[.val (.ref a1), .val (.int p2)] [(.int (48 : Int32)), (.long ((w1.toInt64) &&& (255 : Int64))), (.long ((w0.toInt64) <<< ((56 : Int32) &&& 0x3f).toInt64))])
  refine Go.st (fun t k => XS.lshl X0.here hx rfl (hb hby d2_19) rfl k) ?_
  show Go _ _ _ _ T0 (mkF m 20 #[.val (.ref a1), .val (.int p2)] [(.long (((w1.toInt64) &&& (255 : Int64)) <<< ((48 : Int32) &&& 0x3f).toInt64)), (.long ((w0.toInt64) <<< ((56 : Int32) &&& 0x3f).toInt64))])
  refine Go.st (fun t k => XS.lor X0.here hx rfl (hb hby d2_20) rfl k) ?_
  show Go _ _ _ _ T0 (mkF m 21 #[.val (.ref a1), .val (.int p2)] [(.long (((w0.toInt64) <<< ((56 : Int32) &&& 0x3f).toInt64) ||| (((w1.toInt64) &&& (255 : Int64)) <<< ((48 : Int32) &&& 0x3f).toInt64)))])
  refine Go.st (fun t k => XS.aloadN X0.here hx rfl (hb hby d2_21) rfl rfl k) ?_
  show Go _ _ _ _ T0 (mkF m 22 #[.val (.ref a1), .val (.int p2)] [(.ref a1), (.long (((w0.toInt64) <<< ((56 : Int32) &&& 0x3f).toInt64) ||| (((w1.toInt64) &&& (255 : Int64)) <<< ((48 : Int32) &&& 0x3f).toInt64)))])
  refine Go.st (fun t k => XS.iloadN X0.here hx rfl (hb hby d2_22) rfl k) ?_
  show Go _ _ _ _ T0 (mkF m 23 #[.val (.ref a1), .val (.int p2)] [(.int p2), (.ref a1), (.long (((w0.toInt64) <<< ((56 : Int32) &&& 0x3f).toInt64) ||| (((w1.toInt64) &&& (255 : Int64)) <<< ((48 : Int32) &&& 0x3f).toInt64)))])
  refine Go.st (fun t k => XS.iconst X0.here hx rfl (hb hby d2_23) k) ?_
  show Go _ _ _ _ T0 (mkF m 24 #[.val (.ref a1), .val (.int p2)] [(.int (2 : Int32)), (.int p2), (.ref a1), (.long (((w0.toInt64) <<< ((56 : Int32) &&& 0x3f).toInt64) ||| (((w1.toInt64) &&& (255 : Int64)) <<< ((48 : Int32) &&& 0x3f).toInt64)))])
  refine Go.st (fun t k => XS.iadd X0.here hx rfl (hb hby d2_24) rfl k) ?_
  show Go _ _ _ _ T0 (mkF m 25 #[.val (.ref a1), .val (.int p2)] [(.int (p2 + (2 : Int32))), (.ref a1), (.long (((w0.toInt64) <<< ((56 : Int32) &&& 0x3f).toInt64) ||| (((w1.toInt64) &&& (255 : Int64)) <<< ((48 : Int32) &&& 0x3f).toInt64)))])
  refine goLdB X0 hx hZ e0 V_a1 (v := (.int w2)) (g := (mkF m 25 #[.val (.ref a1), .val (.int p2)] [(.int (p2 + (2 : Int32))), (.ref a1), (.long (((w0.toInt64) <<< ((56 : Int32) &&& 0x3f).toInt64) ||| (((w1.toInt64) &&& (255 : Int64)) <<< ((48 : Int32) &&& 0x3f).toInt64)))])) rfl rfl (hb hby d2_25) I2 H2 ?_
  show Go _ _ _ _ T0 (mkF m 26 #[.val (.ref a1), .val (.int p2)] [(.int w2), (.long (((w0.toInt64) <<< ((56 : Int32) &&& 0x3f).toInt64) ||| (((w1.toInt64) &&& (255 : Int64)) <<< ((48 : Int32) &&& 0x3f).toInt64)))])
  refine Go.st (fun t k => XS.i2l X0.here hx rfl (hb hby d2_26) rfl k) ?_
  show Go _ _ _ _ T0 (mkF m 27 #[.val (.ref a1), .val (.int p2)] [(.long (w2.toInt64)), (.long (((w0.toInt64) <<< ((56 : Int32) &&& 0x3f).toInt64) ||| (((w1.toInt64) &&& (255 : Int64)) <<< ((48 : Int32) &&& 0x3f).toInt64)))])
  refine Go.st (X0.ldc2Long hx hown (mvT hZ (hw _ (List.mem_of_getElem? (i := 10) rfl))) (g := (mkF m 27 #[.val (.ref a1), .val (.int p2)] [(.long (w2.toInt64)), (.long (((w0.toInt64) <<< ((56 : Int32) &&& 0x3f).toInt64) ||| (((w1.toInt64) &&& (255 : Int64)) <<< ((48 : Int32) &&& 0x3f).toInt64)))])) rfl (hb hby d2_27)) ?_
  show Go _ _ _ _ T0 (mkF m 30 #[.val (.ref a1), .val (.int p2)] [(.long (255 : Int64)), (.long (w2.toInt64)), (.long (((w0.toInt64) <<< ((56 : Int32) &&& 0x3f).toInt64) ||| (((w1.toInt64) &&& (255 : Int64)) <<< ((48 : Int32) &&& 0x3f).toInt64)))])
  refine Go.st (fun t k => XS.land X0.here hx rfl (hb hby d2_30) rfl k) ?_
  show Go _ _ _ _ T0 (mkF m 31 #[.val (.ref a1), .val (.int p2)] [(.long ((w2.toInt64) &&& (255 : Int64))), (.long (((w0.toInt64) <<< ((56 : Int32) &&& 0x3f).toInt64) ||| (((w1.toInt64) &&& (255 : Int64)) <<< ((48 : Int32) &&& 0x3f).toInt64)))])
  refine Go.st (fun t k => XS.bipush X0.here hx rfl (hb hby d2_31) k) ?_
  show Go _ _ _ _ T0 (mkF m 33 #[.val (.ref a1), .val (.int p2)] [(.int (40 : Int32)), (.long ((w2.toInt64) &&& (255 : Int64))), (.long (((w0.toInt64) <<< ((56 : Int32) &&& 0x3f).toInt64) ||| (((w1.toInt64) &&& (255 : Int64)) <<< ((48 : Int32) &&& 0x3f).toInt64)))])
  refine Go.st (fun t k => XS.lshl X0.here hx rfl (hb hby d2_33) rfl k) ?_
  show Go _ _ _ _ T0 (mkF m 34 #[.val (.ref a1), .val (.int p2)] [(.long (((w2.toInt64) &&& (255 : Int64)) <<< ((40 : Int32) &&& 0x3f).toInt64)), (.long (((w0.toInt64) <<< ((56 : Int32) &&& 0x3f).toInt64) ||| (((w1.toInt64) &&& (255 : Int64)) <<< ((48 : Int32) &&& 0x3f).toInt64)))])
  refine Go.st (fun t k => XS.lor X0.here hx rfl (hb hby d2_34) rfl k) ?_
  show Go _ _ _ _ T0 (mkF m 35 #[.val (.ref a1), .val (.int p2)] [(.long ((((w0.toInt64) <<< ((56 : Int32) &&& 0x3f).toInt64) ||| (((w1.toInt64) &&& (255 : Int64)) <<< ((48 : Int32) &&& 0x3f).toInt64)) ||| (((w2.toInt64) &&& (255 : Int64)) <<< ((40 : Int32) &&& 0x3f).toInt64)))])
  refine Go.st (fun t k => XS.aloadN X0.here hx rfl (hb hby d2_35) rfl rfl k) ?_
  show Go _ _ _ _ T0 (mkF m 36 #[.val (.ref a1), .val (.int p2)] [(.ref a1), (.long ((((w0.toInt64) <<< ((56 : Int32) &&& 0x3f).toInt64) ||| (((w1.toInt64) &&& (255 : Int64)) <<< ((48 : Int32) &&& 0x3f).toInt64)) ||| (((w2.toInt64) &&& (255 : Int64)) <<< ((40 : Int32) &&& 0x3f).toInt64)))])
  refine Go.st (fun t k => XS.iloadN X0.here hx rfl (hb hby d2_36) rfl k) ?_
  show Go _ _ _ _ T0 (mkF m 37 #[.val (.ref a1), .val (.int p2)] [(.int p2), (.ref a1), (.long ((((w0.toInt64) <<< ((56 : Int32) &&& 0x3f).toInt64) ||| (((w1.toInt64) &&& (255 : Int64)) <<< ((48 : Int32) &&& 0x3f).toInt64)) ||| (((w2.toInt64) &&& (255 : Int64)) <<< ((40 : Int32) &&& 0x3f).toInt64)))])
  refine Go.st (fun t k => XS.iconst X0.here hx rfl (hb hby d2_37) k) ?_
  show Go _ _ _ _ T0 (mkF m 38 #[.val (.ref a1), .val (.int p2)] [(.int (3 : Int32)), (.int p2), (.ref a1), (.long ((((w0.toInt64) <<< ((56 : Int32) &&& 0x3f).toInt64) ||| (((w1.toInt64) &&& (255 : Int64)) <<< ((48 : Int32) &&& 0x3f).toInt64)) ||| (((w2.toInt64) &&& (255 : Int64)) <<< ((40 : Int32) &&& 0x3f).toInt64)))])
  refine Go.st (fun t k => XS.iadd X0.here hx rfl (hb hby d2_38) rfl k) ?_
  show Go _ _ _ _ T0 (mkF m 39 #[.val (.ref a1), .val (.int p2)] [(.int (p2 + (3 : Int32))), (.ref a1), (.long ((((w0.toInt64) <<< ((56 : Int32) &&& 0x3f).toInt64) ||| (((w1.toInt64) &&& (255 : Int64)) <<< ((48 : Int32) &&& 0x3f).toInt64)) ||| (((w2.toInt64) &&& (255 : Int64)) <<< ((40 : Int32) &&& 0x3f).toInt64)))])
  refine goLdB X0 hx hZ e0 V_a1 (v := (.int w3)) (g := (mkF m 39 #[.val (.ref a1), .val (.int p2)] [(.int (p2 + (3 : Int32))), (.ref a1), (.long ((((w0.toInt64) <<< ((56 : Int32) &&& 0x3f).toInt64) ||| (((w1.toInt64) &&& (255 : Int64)) <<< ((48 : Int32) &&& 0x3f).toInt64)) ||| (((w2.toInt64) &&& (255 : Int64)) <<< ((40 : Int32) &&& 0x3f).toInt64)))])) rfl rfl (hb hby d2_39) I3 H3 ?_
  show Go _ _ _ _ T0 (mkF m 40 #[.val (.ref a1), .val (.int p2)] [(.int w3), (.long ((((w0.toInt64) <<< ((56 : Int32) &&& 0x3f).toInt64) ||| (((w1.toInt64) &&& (255 : Int64)) <<< ((48 : Int32) &&& 0x3f).toInt64)) ||| (((w2.toInt64) &&& (255 : Int64)) <<< ((40 : Int32) &&& 0x3f).toInt64)))])
  refine Go.st (fun t k => XS.i2l X0.here hx rfl (hb hby d2_40) rfl k) ?_
  show Go _ _ _ _ T0 (mkF m 41 #[.val (.ref a1), .val (.int p2)] [(.long (w3.toInt64)), (.long ((((w0.toInt64) <<< ((56 : Int32) &&& 0x3f).toInt64) ||| (((w1.toInt64) &&& (255 : Int64)) <<< ((48 : Int32) &&& 0x3f).toInt64)) ||| (((w2.toInt64) &&& (255 : Int64)) <<< ((40 : Int32) &&& 0x3f).toInt64)))])
  refine Go.st (X0.ldc2Long hx hown (mvT hZ (hw _ (List.mem_of_getElem? (i := 10) rfl))) (g := (mkF m 41 #[.val (.ref a1), .val (.int p2)] [(.long (w3.toInt64)), (.long ((((w0.toInt64) <<< ((56 : Int32) &&& 0x3f).toInt64) ||| (((w1.toInt64) &&& (255 : Int64)) <<< ((48 : Int32) &&& 0x3f).toInt64)) ||| (((w2.toInt64) &&& (255 : Int64)) <<< ((40 : Int32) &&& 0x3f).toInt64)))])) rfl (hb hby d2_41)) ?_
  show Go _ _ _ _ T0 (mkF m 44 #[.val (.ref a1), .val (.int p2)] [(.long (255 : Int64)), (.long (w3.toInt64)), (.long ((((w0.toInt64) <<< ((56 : Int32) &&& 0x3f).toInt64) ||| (((w1.toInt64) &&& (255 : Int64)) <<< ((48 : Int32) &&& 0x3f).toInt64)) ||| (((w2.toInt64) &&& (255 : Int64)) <<< ((40 : Int32) &&& 0x3f).toInt64)))])
  refine Go.st (fun t k => XS.land X0.here hx rfl (hb hby d2_44) rfl k) ?_
  show Go _ _ _ _ T0 (mkF m 45 #[.val (.ref a1), .val (.int p2)] [(.long ((w3.toInt64) &&& (255 : Int64))), (.long ((((w0.toInt64) <<< ((56 : Int32) &&& 0x3f).toInt64) ||| (((w1.toInt64) &&& (255 : Int64)) <<< ((48 : Int32) &&& 0x3f).toInt64)) ||| (((w2.toInt64) &&& (255 : Int64)) <<< ((40 : Int32) &&& 0x3f).toInt64)))])
  refine Go.st (fun t k => XS.bipush X0.here hx rfl (hb hby d2_45) k) ?_
  show Go _ _ _ _ T0 (mkF m 47 #[.val (.ref a1), .val (.int p2)] [(.int (32 : Int32)), (.long ((w3.toInt64) &&& (255 : Int64))), (.long ((((w0.toInt64) <<< ((56 : Int32) &&& 0x3f).toInt64) ||| (((w1.toInt64) &&& (255 : Int64)) <<< ((48 : Int32) &&& 0x3f).toInt64)) ||| (((w2.toInt64) &&& (255 : Int64)) <<< ((40 : Int32) &&& 0x3f).toInt64)))])
  refine Go.st (fun t k => XS.lshl X0.here hx rfl (hb hby d2_47) rfl k) ?_
  show Go _ _ _ _ T0 (mkF m 48 #[.val (.ref a1), .val (.int p2)] [(.long (((w3.toInt64) &&& (255 : Int64)) <<< ((32 : Int32) &&& 0x3f).toInt64)), (.long ((((w0.toInt64) <<< ((56 : Int32) &&& 0x3f).toInt64) ||| (((w1.toInt64) &&& (255 : Int64)) <<< ((48 : Int32) &&& 0x3f).toInt64)) ||| (((w2.toInt64) &&& (255 : Int64)) <<< ((40 : Int32) &&& 0x3f).toInt64)))])
  refine Go.st (fun t k => XS.lor X0.here hx rfl (hb hby d2_48) rfl k) ?_
  show Go _ _ _ _ T0 (mkF m 49 #[.val (.ref a1), .val (.int p2)] [(.long (((((w0.toInt64) <<< ((56 : Int32) &&& 0x3f).toInt64) ||| (((w1.toInt64) &&& (255 : Int64)) <<< ((48 : Int32) &&& 0x3f).toInt64)) ||| (((w2.toInt64) &&& (255 : Int64)) <<< ((40 : Int32) &&& 0x3f).toInt64)) ||| (((w3.toInt64) &&& (255 : Int64)) <<< ((32 : Int32) &&& 0x3f).toInt64)))])
  refine Go.st (fun t k => XS.aloadN X0.here hx rfl (hb hby d2_49) rfl rfl k) ?_
  show Go _ _ _ _ T0 (mkF m 50 #[.val (.ref a1), .val (.int p2)] [(.ref a1), (.long (((((w0.toInt64) <<< ((56 : Int32) &&& 0x3f).toInt64) ||| (((w1.toInt64) &&& (255 : Int64)) <<< ((48 : Int32) &&& 0x3f).toInt64)) ||| (((w2.toInt64) &&& (255 : Int64)) <<< ((40 : Int32) &&& 0x3f).toInt64)) ||| (((w3.toInt64) &&& (255 : Int64)) <<< ((32 : Int32) &&& 0x3f).toInt64)))])
  refine Go.st (fun t k => XS.iloadN X0.here hx rfl (hb hby d2_50) rfl k) ?_
  show Go _ _ _ _ T0 (mkF m 51 #[.val (.ref a1), .val (.int p2)] [(.int p2), (.ref a1), (.long (((((w0.toInt64) <<< ((56 : Int32) &&& 0x3f).toInt64) ||| (((w1.toInt64) &&& (255 : Int64)) <<< ((48 : Int32) &&& 0x3f).toInt64)) ||| (((w2.toInt64) &&& (255 : Int64)) <<< ((40 : Int32) &&& 0x3f).toInt64)) ||| (((w3.toInt64) &&& (255 : Int64)) <<< ((32 : Int32) &&& 0x3f).toInt64)))])
  refine Go.st (fun t k => XS.iconst X0.here hx rfl (hb hby d2_51) k) ?_
  show Go _ _ _ _ T0 (mkF m 52 #[.val (.ref a1), .val (.int p2)] [(.int (4 : Int32)), (.int p2), (.ref a1), (.long (((((w0.toInt64) <<< ((56 : Int32) &&& 0x3f).toInt64) ||| (((w1.toInt64) &&& (255 : Int64)) <<< ((48 : Int32) &&& 0x3f).toInt64)) ||| (((w2.toInt64) &&& (255 : Int64)) <<< ((40 : Int32) &&& 0x3f).toInt64)) ||| (((w3.toInt64) &&& (255 : Int64)) <<< ((32 : Int32) &&& 0x3f).toInt64)))])
  refine Go.st (fun t k => XS.iadd X0.here hx rfl (hb hby d2_52) rfl k) ?_
  show Go _ _ _ _ T0 (mkF m 53 #[.val (.ref a1), .val (.int p2)] [(.int (p2 + (4 : Int32))), (.ref a1), (.long (((((w0.toInt64) <<< ((56 : Int32) &&& 0x3f).toInt64) ||| (((w1.toInt64) &&& (255 : Int64)) <<< ((48 : Int32) &&& 0x3f).toInt64)) ||| (((w2.toInt64) &&& (255 : Int64)) <<< ((40 : Int32) &&& 0x3f).toInt64)) ||| (((w3.toInt64) &&& (255 : Int64)) <<< ((32 : Int32) &&& 0x3f).toInt64)))])
  refine goLdB X0 hx hZ e0 V_a1 (v := (.int w4)) (g := (mkF m 53 #[.val (.ref a1), .val (.int p2)] [(.int (p2 + (4 : Int32))), (.ref a1), (.long (((((w0.toInt64) <<< ((56 : Int32) &&& 0x3f).toInt64) ||| (((w1.toInt64) &&& (255 : Int64)) <<< ((48 : Int32) &&& 0x3f).toInt64)) ||| (((w2.toInt64) &&& (255 : Int64)) <<< ((40 : Int32) &&& 0x3f).toInt64)) ||| (((w3.toInt64) &&& (255 : Int64)) <<< ((32 : Int32) &&& 0x3f).toInt64)))])) rfl rfl (hb hby d2_53) I4 H4 ?_
  show Go _ _ _ _ T0 (mkF m 54 #[.val (.ref a1), .val (.int p2)] [(.int w4), (.long (((((w0.toInt64) <<< ((56 : Int32) &&& 0x3f).toInt64) ||| (((w1.toInt64) &&& (255 : Int64)) <<< ((48 : Int32) &&& 0x3f).toInt64)) ||| (((w2.toInt64) &&& (255 : Int64)) <<< ((40 : Int32) &&& 0x3f).toInt64)) ||| (((w3.toInt64) &&& (255 : Int64)) <<< ((32 : Int32) &&& 0x3f).toInt64)))])
  refine Go.st (fun t k => XS.i2l X0.here hx rfl (hb hby d2_54) rfl k) ?_
  show Go _ _ _ _ T0 (mkF m 55 #[.val (.ref a1), .val (.int p2)] [(.long (w4.toInt64)), (.long (((((w0.toInt64) <<< ((56 : Int32) &&& 0x3f).toInt64) ||| (((w1.toInt64) &&& (255 : Int64)) <<< ((48 : Int32) &&& 0x3f).toInt64)) ||| (((w2.toInt64) &&& (255 : Int64)) <<< ((40 : Int32) &&& 0x3f).toInt64)) ||| (((w3.toInt64) &&& (255 : Int64)) <<< ((32 : Int32) &&& 0x3f).toInt64)))])
  refine Go.st (X0.ldc2Long hx hown (mvT hZ (hw _ (List.mem_of_getElem? (i := 10) rfl))) (g := (mkF m 55 #[.val (.ref a1), .val (.int p2)] [(.long (w4.toInt64)), (.long (((((w0.toInt64) <<< ((56 : Int32) &&& 0x3f).toInt64) ||| (((w1.toInt64) &&& (255 : Int64)) <<< ((48 : Int32) &&& 0x3f).toInt64)) ||| (((w2.toInt64) &&& (255 : Int64)) <<< ((40 : Int32) &&& 0x3f).toInt64)) ||| (((w3.toInt64) &&& (255 : Int64)) <<< ((32 : Int32) &&& 0x3f).toInt64)))])) rfl (hb hby d2_55)) ?_
  show Go _ _ _ _ T0 (mkF m 58 #[.val (.ref a1), .val (.int p2)] [(.long (255 : Int64)), (.long (w4.toInt64)), (.long (((((w0.toInt64) <<< ((56 : Int32) &&& 0x3f).toInt64) ||| (((w1.toInt64) &&& (255 : Int64)) <<< ((48 : Int32) &&& 0x3f).toInt64)) ||| (((w2.toInt64) &&& (255 : Int64)) <<< ((40 : Int32) &&& 0x3f).toInt64)) ||| (((w3.toInt64) &&& (255 : Int64)) <<< ((32 : Int32) &&& 0x3f).toInt64)))])
  refine Go.st (fun t k => XS.land X0.here hx rfl (hb hby d2_58) rfl k) ?_
  show Go _ _ _ _ T0 (mkF m 59 #[.val (.ref a1), .val (.int p2)] [(.long ((w4.toInt64) &&& (255 : Int64))), (.long (((((w0.toInt64) <<< ((56 : Int32) &&& 0x3f).toInt64) ||| (((w1.toInt64) &&& (255 : Int64)) <<< ((48 : Int32) &&& 0x3f).toInt64)) ||| (((w2.toInt64) &&& (255 : Int64)) <<< ((40 : Int32) &&& 0x3f).toInt64)) ||| (((w3.toInt64) &&& (255 : Int64)) <<< ((32 : Int32) &&& 0x3f).toInt64)))])
  refine Go.st (fun t k => XS.bipush X0.here hx rfl (hb hby d2_59) k) ?_
  show Go _ _ _ _ T0 (mkF m 61 #[.val (.ref a1), .val (.int p2)] [(.int (24 : Int32)), (.long ((w4.toInt64) &&& (255 : Int64))), (.long (((((w0.toInt64) <<< ((56 : Int32) &&& 0x3f).toInt64) ||| (((w1.toInt64) &&& (255 : Int64)) <<< ((48 : Int32) &&& 0x3f).toInt64)) ||| (((w2.toInt64) &&& (255 : Int64)) <<< ((40 : Int32) &&& 0x3f).toInt64)) ||| (((w3.toInt64) &&& (255 : Int64)) <<< ((32 : Int32) &&& 0x3f).toInt64)))])
  refine Go.st (fun t k => XS.lshl X0.here hx rfl (hb hby d2_61) rfl k) ?_
  show Go _ _ _ _ T0 (mkF m 62 #[.val (.ref a1), .val (.int p2)] [(.long (((w4.toInt64) &&& (255 : Int64)) <<< ((24 : Int32) &&& 0x3f).toInt64)), (.long (((((w0.toInt64) <<< ((56 : Int32) &&& 0x3f).toInt64) ||| (((w1.toInt64) &&& (255 : Int64)) <<< ((48 : Int32) &&& 0x3f).toInt64)) ||| (((w2.toInt64) &&& (255 : Int64)) <<< ((40 : Int32) &&& 0x3f).toInt64)) ||| (((w3.toInt64) &&& (255 : Int64)) <<< ((32 : Int32) &&& 0x3f).toInt64)))])
  refine Go.st (fun t k => XS.lor X0.here hx rfl (hb hby d2_62) rfl k) ?_
  show Go _ _ _ _ T0 (mkF m 63 #[.val (.ref a1), .val (.int p2)] [(.long ((((((w0.toInt64) <<< ((56 : Int32) &&& 0x3f).toInt64) ||| (((w1.toInt64) &&& (255 : Int64)) <<< ((48 : Int32) &&& 0x3f).toInt64)) ||| (((w2.toInt64) &&& (255 : Int64)) <<< ((40 : Int32) &&& 0x3f).toInt64)) ||| (((w3.toInt64) &&& (255 : Int64)) <<< ((32 : Int32) &&& 0x3f).toInt64)) ||| (((w4.toInt64) &&& (255 : Int64)) <<< ((24 : Int32) &&& 0x3f).toInt64)))])
  refine Go.st (fun t k => XS.aloadN X0.here hx rfl (hb hby d2_63) rfl rfl k) ?_
  show Go _ _ _ _ T0 (mkF m 64 #[.val (.ref a1), .val (.int p2)] [(.ref a1), (.long ((((((w0.toInt64) <<< ((56 : Int32) &&& 0x3f).toInt64) ||| (((w1.toInt64) &&& (255 : Int64)) <<< ((48 : Int32) &&& 0x3f).toInt64)) ||| (((w2.toInt64) &&& (255 : Int64)) <<< ((40 : Int32) &&& 0x3f).toInt64)) ||| (((w3.toInt64) &&& (255 : Int64)) <<< ((32 : Int32) &&& 0x3f).toInt64)) ||| (((w4.toInt64) &&& (255 : Int64)) <<< ((24 : Int32) &&& 0x3f).toInt64)))])
  refine Go.st (fun t k => XS.iloadN X0.here hx rfl (hb hby d2_64) rfl k) ?_
  show Go _ _ _ _ T0 (mkF m 65 #[.val (.ref a1), .val (.int p2)] [(.int p2), (.ref a1), (.long ((((((w0.toInt64) <<< ((56 : Int32) &&& 0x3f).toInt64) ||| (((w1.toInt64) &&& (255 : Int64)) <<< ((48 : Int32) &&& 0x3f).toInt64)) ||| (((w2.toInt64) &&& (255 : Int64)) <<< ((40 : Int32) &&& 0x3f).toInt64)) ||| (((w3.toInt64) &&& (255 : Int64)) <<< ((32 : Int32) &&& 0x3f).toInt64)) ||| (((w4.toInt64) &&& (255 : Int64)) <<< ((24 : Int32) &&& 0x3f).toInt64)))])
  refine Go.st (fun t k => XS.iconst X0.here hx rfl (hb hby d2_65) k) ?_
  show Go _ _ _ _ T0 (mkF m 66 #[.val (.ref a1), .val (.int p2)] [(.int (5 : Int32)), (.int p2), (.ref a1), (.long ((((((w0.toInt64) <<< ((56 : Int32) &&& 0x3f).toInt64) ||| (((w1.toInt64) &&& (255 : Int64)) <<< ((48 : Int32) &&& 0x3f).toInt64)) ||| (((w2.toInt64) &&& (255 : Int64)) <<< ((40 : Int32) &&& 0x3f).toInt64)) ||| (((w3.toInt64) &&& (255 : Int64)) <<< ((32 : Int32) &&& 0x3f).toInt64)) ||| (((w4.toInt64) &&& (255 : Int64)) <<< ((24 : Int32) &&& 0x3f).toInt64)))])
  refine Go.st (fun t k => XS.iadd X0.here hx rfl (hb hby d2_66) rfl k) ?_
  show Go _ _ _ _ T0 (mkF m 67 #[.val (.ref a1), .val (.int p2)] [(.int (p2 + (5 : Int32))), (.ref a1), (.long ((((((w0.toInt64) <<< ((56 : Int32) &&& 0x3f).toInt64) ||| (((w1.toInt64) &&& (255 : Int64)) <<< ((48 : Int32) &&& 0x3f).toInt64)) ||| (((w2.toInt64) &&& (255 : Int64)) <<< ((40 : Int32) &&& 0x3f).toInt64)) ||| (((w3.toInt64) &&& (255 : Int64)) <<< ((32 : Int32) &&& 0x3f).toInt64)) ||| (((w4.toInt64) &&& (255 : Int64)) <<< ((24 : Int32) &&& 0x3f).toInt64)))])
  refine goLdB X0 hx hZ e0 V_a1 (v := (.int w5)) (g := (mkF m 67 #[.val (.ref a1), .val (.int p2)] [(.int (p2 + (5 : Int32))), (.ref a1), (.long ((((((w0.toInt64) <<< ((56 : Int32) &&& 0x3f).toInt64) ||| (((w1.toInt64) &&& (255 : Int64)) <<< ((48 : Int32) &&& 0x3f).toInt64)) ||| (((w2.toInt64) &&& (255 : Int64)) <<< ((40 : Int32) &&& 0x3f).toInt64)) ||| (((w3.toInt64) &&& (255 : Int64)) <<< ((32 : Int32) &&& 0x3f).toInt64)) ||| (((w4.toInt64) &&& (255 : Int64)) <<< ((24 : Int32) &&& 0x3f).toInt64)))])) rfl rfl (hb hby d2_67) I5 H5 ?_
  show Go _ _ _ _ T0 (mkF m 68 #[.val (.ref a1), .val (.int p2)] [(.int w5), (.long ((((((w0.toInt64) <<< ((56 : Int32) &&& 0x3f).toInt64) ||| (((w1.toInt64) &&& (255 : Int64)) <<< ((48 : Int32) &&& 0x3f).toInt64)) ||| (((w2.toInt64) &&& (255 : Int64)) <<< ((40 : Int32) &&& 0x3f).toInt64)) ||| (((w3.toInt64) &&& (255 : Int64)) <<< ((32 : Int32) &&& 0x3f).toInt64)) ||| (((w4.toInt64) &&& (255 : Int64)) <<< ((24 : Int32) &&& 0x3f).toInt64)))])
  refine Go.st (fun t k => XS.i2l X0.here hx rfl (hb hby d2_68) rfl k) ?_
  show Go _ _ _ _ T0 (mkF m 69 #[.val (.ref a1), .val (.int p2)] [(.long (w5.toInt64)), (.long ((((((w0.toInt64) <<< ((56 : Int32) &&& 0x3f).toInt64) ||| (((w1.toInt64) &&& (255 : Int64)) <<< ((48 : Int32) &&& 0x3f).toInt64)) ||| (((w2.toInt64) &&& (255 : Int64)) <<< ((40 : Int32) &&& 0x3f).toInt64)) ||| (((w3.toInt64) &&& (255 : Int64)) <<< ((32 : Int32) &&& 0x3f).toInt64)) ||| (((w4.toInt64) &&& (255 : Int64)) <<< ((24 : Int32) &&& 0x3f).toInt64)))])
  refine Go.st (X0.ldc2Long hx hown (mvT hZ (hw _ (List.mem_of_getElem? (i := 10) rfl))) (g := (mkF m 69 #[.val (.ref a1), .val (.int p2)] [(.long (w5.toInt64)), (.long ((((((w0.toInt64) <<< ((56 : Int32) &&& 0x3f).toInt64) ||| (((w1.toInt64) &&& (255 : Int64)) <<< ((48 : Int32) &&& 0x3f).toInt64)) ||| (((w2.toInt64) &&& (255 : Int64)) <<< ((40 : Int32) &&& 0x3f).toInt64)) ||| (((w3.toInt64) &&& (255 : Int64)) <<< ((32 : Int32) &&& 0x3f).toInt64)) ||| (((w4.toInt64) &&& (255 : Int64)) <<< ((24 : Int32) &&& 0x3f).toInt64)))])) rfl (hb hby d2_69)) ?_
  show Go _ _ _ _ T0 (mkF m 72 #[.val (.ref a1), .val (.int p2)] [(.long (255 : Int64)), (.long (w5.toInt64)), (.long ((((((w0.toInt64) <<< ((56 : Int32) &&& 0x3f).toInt64) ||| (((w1.toInt64) &&& (255 : Int64)) <<< ((48 : Int32) &&& 0x3f).toInt64)) ||| (((w2.toInt64) &&& (255 : Int64)) <<< ((40 : Int32) &&& 0x3f).toInt64)) ||| (((w3.toInt64) &&& (255 : Int64)) <<< ((32 : Int32) &&& 0x3f).toInt64)) ||| (((w4.toInt64) &&& (255 : Int64)) <<< ((24 : Int32) &&& 0x3f).toInt64)))])
  refine Go.st (fun t k => XS.land X0.here hx rfl (hb hby d2_72) rfl k) ?_
  show Go _ _ _ _ T0 (mkF m 73 #[.val (.ref a1), .val (.int p2)] [(.long ((w5.toInt64) &&& (255 : Int64))), (.long ((((((w0.toInt64) <<< ((56 : Int32) &&& 0x3f).toInt64) ||| (((w1.toInt64) &&& (255 : Int64)) <<< ((48 : Int32) &&& 0x3f).toInt64)) ||| (((w2.toInt64) &&& (255 : Int64)) <<< ((40 : Int32) &&& 0x3f).toInt64)) ||| (((w3.toInt64) &&& (255 : Int64)) <<< ((32 : Int32) &&& 0x3f).toInt64)) ||| (((w4.toInt64) &&& (255 : Int64)) <<< ((24 : Int32) &&& 0x3f).toInt64)))])
  refine Go.st (fun t k => XS.bipush X0.here hx rfl (hb hby d2_73) k) ?_
  show Go _ _ _ _ T0 (mkF m 75 #[.val (.ref a1), .val (.int p2)] [(.int (16 : Int32)), (.long ((w5.toInt64) &&& (255 : Int64))), (.long ((((((w0.toInt64) <<< ((56 : Int32) &&& 0x3f).toInt64) ||| (((w1.toInt64) &&& (255 : Int64)) <<< ((48 : Int32) &&& 0x3f).toInt64)) ||| (((w2.toInt64) &&& (255 : Int64)) <<< ((40 : Int32) &&& 0x3f).toInt64)) ||| (((w3.toInt64) &&& (255 : Int64)) <<< ((32 : Int32) &&& 0x3f).toInt64)) ||| (((w4.toInt64) &&& (255 : Int64)) <<< ((24 : Int32) &&& 0x3f).toInt64)))])
  refine Go.st (fun t k => XS.lshl X0.here hx rfl (hb hby d2_75) rfl k) ?_
  show Go _ _ _ _ T0 (mkF m 76 #[.val (.ref a1), .val (.int p2)] [(.long (((w5.toInt64) &&& (255 : Int64)) <<< ((16 : Int32) &&& 0x3f).toInt64)), (.long ((((((w0.toInt64) <<< ((56 : Int32) &&& 0x3f).toInt64) ||| (((w1.toInt64) &&& (255 : Int64)) <<< ((48 : Int32) &&& 0x3f).toInt64)) ||| (((w2.toInt64) &&& (255 : Int64)) <<< ((40 : Int32) &&& 0x3f).toInt64)) ||| (((w3.toInt64) &&& (255 : Int64)) <<< ((32 : Int32) &&& 0x3f).toInt64)) ||| (((w4.toInt64) &&& (255 : Int64)) <<< ((24 : Int32) &&& 0x3f).toInt64)))])
  refine Go.st (fun t k => XS.lor X0.here hx rfl (hb hby d2_76) rfl k) ?_
  show Go _ _ _ _ T0 (mkF m 77 #[.val (.ref a1), .val (.int p2)] [(.long (((((((w0.toInt64) <<< ((56 : Int32) &&& 0x3f).toInt64) ||| (((w1.toInt64) &&& (255 : Int64)) <<< ((48 : Int32) &&& 0x3f).toInt64)) ||| (((w2.toInt64) &&& (255 : Int64)) <<< ((40 : Int32) &&& 0x3f).toInt64)) ||| (((w3.toInt64) &&& (255 : Int64)) <<< ((32 : Int32) &&& 0x3f).toInt64)) ||| (((w4.toInt64) &&& (255 : Int64)) <<< ((24 : Int32) &&& 0x3f).toInt64)) ||| (((w5.toInt64) &&& (255 : Int64)) <<< ((16 : Int32) &&& 0x3f).toInt64)))])
  refine Go.st (fun t k => XS.aloadN X0.here hx rfl (hb hby d2_77) rfl rfl k) ?_
  show Go _ _ _ _ T0 (mkF m 78 #[.val (.ref a1), .val (.int p2)] [(.ref a1), (.long (((((((w0.toInt64) <<< ((56 : Int32) &&& 0x3f).toInt64) ||| (((w1.toInt64) &&& (255 : Int64)) <<< ((48 : Int32) &&& 0x3f).toInt64)) ||| (((w2.toInt64) &&& (255 : Int64)) <<< ((40 : Int32) &&& 0x3f).toInt64)) ||| (((w3.toInt64) &&& (255 : Int64)) <<< ((32 : Int32) &&& 0x3f).toInt64)) ||| (((w4.toInt64) &&& (255 : Int64)) <<< ((24 : Int32) &&& 0x3f).toInt64)) ||| (((w5.toInt64) &&& (255 : Int64)) <<< ((16 : Int32) &&& 0x3f).toInt64)))])
  refine Go.st (fun t k => XS.iloadN X0.here hx rfl (hb hby d2_78) rfl k) ?_
  show Go _ _ _ _ T0 (mkF m 79 #[.val (.ref a1), .val (.int p2)] [(.int p2), (.ref a1), (.long (((((((w0.toInt64) <<< ((56 : Int32) &&& 0x3f).toInt64) ||| (((w1.toInt64) &&& (255 : Int64)) <<< ((48 : Int32) &&& 0x3f).toInt64)) ||| (((w2.toInt64) &&& (255 : Int64)) <<< ((40 : Int32) &&& 0x3f).toInt64)) ||| (((w3.toInt64) &&& (255 : Int64)) <<< ((32 : Int32) &&& 0x3f).toInt64)) ||| (((w4.toInt64) &&& (255 : Int64)) <<< ((24 : Int32) &&& 0x3f).toInt64)) ||| (((w5.toInt64) &&& (255 : Int64)) <<< ((16 : Int32) &&& 0x3f).toInt64)))])
  refine Go.st (fun t k => XS.bipush X0.here hx rfl (hb hby d2_79) k) ?_
  show Go _ _ _ _ T0 (mkF m 81 #[.val (.ref a1), .val (.int p2)] [(.int (6 : Int32)), (.int p2), (.ref a1), (.long (((((((w0.toInt64) <<< ((56 : Int32) &&& 0x3f).toInt64) ||| (((w1.toInt64) &&& (255 : Int64)) <<< ((48 : Int32) &&& 0x3f).toInt64)) ||| (((w2.toInt64) &&& (255 : Int64)) <<< ((40 : Int32) &&& 0x3f).toInt64)) ||| (((w3.toInt64) &&& (255 : Int64)) <<< ((32 : Int32) &&& 0x3f).toInt64)) ||| (((w4.toInt64) &&& (255 : Int64)) <<< ((24 : Int32) &&& 0x3f).toInt64)) ||| (((w5.toInt64) &&& (255 : Int64)) <<< ((16 : Int32) &&& 0x3f).toInt64)))])
  refine Go.st (fun t k => XS.iadd X0.here hx rfl (hb hby d2_81) rfl k) ?_
  show Go _ _ _ _ T0 (mkF m 82 #[.val (.ref a1), .val (.int p2)] [(.int (p2 + (6 : Int32))), (.ref a1), (.long (((((((w0.toInt64) <<< ((56 : Int32) &&& 0x3f).toInt64) ||| (((w1.toInt64) &&& (255 : Int64)) <<< ((48 : Int32) &&& 0x3f).toInt64)) ||| (((w2.toInt64) &&& (255 : Int64)) <<< ((40 : Int32) &&& 0x3f).toInt64)) ||| (((w3.toInt64) &&& (255 : Int64)) <<< ((32 : Int32) &&& 0x3f).toInt64)) ||| (((w4.toInt64) &&& (255 : Int64)) <<< ((24 : Int32) &&& 0x3f).toInt64)) ||| (((w5.toInt64) &&& (255 : Int64)) <<< ((16 : Int32) &&& 0x3f).toInt64)))])
  refine goLdB X0 hx hZ e0 V_a1 (v := (.int w6)) (g := (mkF m 82 #[.val (.ref a1), .val (.int p2)] [(.int (p2 + (6 : Int32))), (.ref a1), (.long (((((((w0.toInt64) <<< ((56 : Int32) &&& 0x3f).toInt64) ||| (((w1.toInt64) &&& (255 : Int64)) <<< ((48 : Int32) &&& 0x3f).toInt64)) ||| (((w2.toInt64) &&& (255 : Int64)) <<< ((40 : Int32) &&& 0x3f).toInt64)) ||| (((w3.toInt64) &&& (255 : Int64)) <<< ((32 : Int32) &&& 0x3f).toInt64)) ||| (((w4.toInt64) &&& (255 : Int64)) <<< ((24 : Int32) &&& 0x3f).toInt64)) ||| (((w5.toInt64) &&& (255 : Int64)) <<< ((16 : Int32) &&& 0x3f).toInt64)))])) rfl rfl (hb hby d2_82) I6 H6 ?_
  show Go _ _ _ _ T0 (mkF m 83 #[.val (.ref a1), .val (.int p2)] [(.int w6), (.long (((((((w0.toInt64) <<< ((56 : Int32) &&& 0x3f).toInt64) ||| (((w1.toInt64) &&& (255 : Int64)) <<< ((48 : Int32) &&& 0x3f).toInt64)) ||| (((w2.toInt64) &&& (255 : Int64)) <<< ((40 : Int32) &&& 0x3f).toInt64)) ||| (((w3.toInt64) &&& (255 : Int64)) <<< ((32 : Int32) &&& 0x3f).toInt64)) ||| (((w4.toInt64) &&& (255 : Int64)) <<< ((24 : Int32) &&& 0x3f).toInt64)) ||| (((w5.toInt64) &&& (255 : Int64)) <<< ((16 : Int32) &&& 0x3f).toInt64)))])
  refine Go.st (fun t k => XS.i2l X0.here hx rfl (hb hby d2_83) rfl k) ?_
  show Go _ _ _ _ T0 (mkF m 84 #[.val (.ref a1), .val (.int p2)] [(.long (w6.toInt64)), (.long (((((((w0.toInt64) <<< ((56 : Int32) &&& 0x3f).toInt64) ||| (((w1.toInt64) &&& (255 : Int64)) <<< ((48 : Int32) &&& 0x3f).toInt64)) ||| (((w2.toInt64) &&& (255 : Int64)) <<< ((40 : Int32) &&& 0x3f).toInt64)) ||| (((w3.toInt64) &&& (255 : Int64)) <<< ((32 : Int32) &&& 0x3f).toInt64)) ||| (((w4.toInt64) &&& (255 : Int64)) <<< ((24 : Int32) &&& 0x3f).toInt64)) ||| (((w5.toInt64) &&& (255 : Int64)) <<< ((16 : Int32) &&& 0x3f).toInt64)))])
  refine Go.st (X0.ldc2Long hx hown (mvT hZ (hw _ (List.mem_of_getElem? (i := 10) rfl))) (g := (mkF m 84 #[.val (.ref a1), .val (.int p2)] [(.long (w6.toInt64)), (.long (((((((w0.toInt64) <<< ((56 : Int32) &&& 0x3f).toInt64) ||| (((w1.toInt64) &&& (255 : Int64)) <<< ((48 : Int32) &&& 0x3f).toInt64)) ||| (((w2.toInt64) &&& (255 : Int64)) <<< ((40 : Int32) &&& 0x3f).toInt64)) ||| (((w3.toInt64) &&& (255 : Int64)) <<< ((32 : Int32) &&& 0x3f).toInt64)) ||| (((w4.toInt64) &&& (255 : Int64)) <<< ((24 : Int32) &&& 0x3f).toInt64)) ||| (((w5.toInt64) &&& (255 : Int64)) <<< ((16 : Int32) &&& 0x3f).toInt64)))])) rfl (hb hby d2_84)) ?_
  show Go _ _ _ _ T0 (mkF m 87 #[.val (.ref a1), .val (.int p2)] [(.long (255 : Int64)), (.long (w6.toInt64)), (.long (((((((w0.toInt64) <<< ((56 : Int32) &&& 0x3f).toInt64) ||| (((w1.toInt64) &&& (255 : Int64)) <<< ((48 : Int32) &&& 0x3f).toInt64)) ||| (((w2.toInt64) &&& (255 : Int64)) <<< ((40 : Int32) &&& 0x3f).toInt64)) ||| (((w3.toInt64) &&& (255 : Int64)) <<< ((32 : Int32) &&& 0x3f).toInt64)) ||| (((w4.toInt64) &&& (255 : Int64)) <<< ((24 : Int32) &&& 0x3f).toInt64)) ||| (((w5.toInt64) &&& (255 : Int64)) <<< ((16 : Int32) &&& 0x3f).toInt64)))])
  refine Go.st (fun t k => XS.land X0.here hx rfl (hb hby d2_87) rfl k) ?_
  show Go _ _ _ _ T0 (mkF m 88 #[.val (.ref a1), .val (.int p2)] [(.long ((w6.toInt64) &&& (255 : Int64))), (.long (((((((w0.toInt64) <<< ((56 : Int32) &&& 0x3f).toInt64) ||| (((w1.toInt64) &&& (255 : Int64)) <<< ((48 : Int32) &&& 0x3f).toInt64)) ||| (((w2.toInt64) &&& (255 : Int64)) <<< ((40 : Int32) &&& 0x3f).toInt64)) ||| (((w3.toInt64) &&& (255 : Int64)) <<< ((32 : Int32) &&& 0x3f).toInt64)) ||| (((w4.toInt64) &&& (255 : Int64)) <<< ((24 : Int32) &&& 0x3f).toInt64)) ||| (((w5.toInt64) &&& (255 : Int64)) <<< ((16 : Int32) &&& 0x3f).toInt64)))])
  refine Go.st (fun t k => XS.bipush X0.here hx rfl (hb hby d2_88) k) ?_
  show Go _ _ _ _ T0 (mkF m 90 #[.val (.ref a1), .val (.int p2)] [(.int (8 : Int32)), (.long ((w6.toInt64) &&& (255 : Int64))), (.long (((((((w0.toInt64) <<< ((56 : Int32) &&& 0x3f).toInt64) ||| (((w1.toInt64) &&& (255 : Int64)) <<< ((48 : Int32) &&& 0x3f).toInt64)) ||| (((w2.toInt64) &&& (255 : Int64)) <<< ((40 : Int32) &&& 0x3f).toInt64)) ||| (((w3.toInt64) &&& (255 : Int64)) <<< ((32 : Int32) &&& 0x3f).toInt64)) ||| (((w4.toInt64) &&& (255 : Int64)) <<< ((24 : Int32) &&& 0x3f).toInt64)) ||| (((w5.toInt64) &&& (255 : Int64)) <<< ((16 : Int32) &&& 0x3f).toInt64)))])
  refine Go.st (fun t k => XS.lshl X0.here hx rfl (hb hby d2_90) rfl k) ?_
  show Go _ _ _ _ T0 (mkF m 91 #[.val (.ref a1), .val (.int p2)] [(.long (((w6.toInt64) &&& (255 : Int64)) <<< ((8 : Int32) &&& 0x3f).toInt64)), (.long (((((((w0.toInt64) <<< ((56 : Int32) &&& 0x3f).toInt64) ||| (((w1.toInt64) &&& (255 : Int64)) <<< ((48 : Int32) &&& 0x3f).toInt64)) ||| (((w2.toInt64) &&& (255 : Int64)) <<< ((40 : Int32) &&& 0x3f).toInt64)) ||| (((w3.toInt64) &&& (255 : Int64)) <<< ((32 : Int32) &&& 0x3f).toInt64)) ||| (((w4.toInt64) &&& (255 : Int64)) <<< ((24 : Int32) &&& 0x3f).toInt64)) ||| (((w5.toInt64) &&& (255 : Int64)) <<< ((16 : Int32) &&& 0x3f).toInt64)))])
  refine Go.st (fun t k => XS.lor X0.here hx rfl (hb hby d2_91) rfl k) ?_
  show Go _ _ _ _ T0 (mkF m 92 #[.val (.ref a1), .val (.int p2)] [(.long ((((((((w0.toInt64) <<< ((56 : Int32) &&& 0x3f).toInt64) ||| (((w1.toInt64) &&& (255 : Int64)) <<< ((48 : Int32) &&& 0x3f).toInt64)) ||| (((w2.toInt64) &&& (255 : Int64)) <<< ((40 : Int32) &&& 0x3f).toInt64)) ||| (((w3.toInt64) &&& (255 : Int64)) <<< ((32 : Int32) &&& 0x3f).toInt64)) ||| (((w4.toInt64) &&& (255 : Int64)) <<< ((24 : Int32) &&& 0x3f).toInt64)) ||| (((w5.toInt64) &&& (255 : Int64)) <<< ((16 : Int32) &&& 0x3f).toInt64)) ||| (((w6.toInt64) &&& (255 : Int64)) <<< ((8 : Int32) &&& 0x3f).toInt64)))])
  refine Go.st (fun t k => XS.aloadN X0.here hx rfl (hb hby d2_92) rfl rfl k) ?_
  show Go _ _ _ _ T0 (mkF m 93 #[.val (.ref a1), .val (.int p2)] [(.ref a1), (.long ((((((((w0.toInt64) <<< ((56 : Int32) &&& 0x3f).toInt64) ||| (((w1.toInt64) &&& (255 : Int64)) <<< ((48 : Int32) &&& 0x3f).toInt64)) ||| (((w2.toInt64) &&& (255 : Int64)) <<< ((40 : Int32) &&& 0x3f).toInt64)) ||| (((w3.toInt64) &&& (255 : Int64)) <<< ((32 : Int32) &&& 0x3f).toInt64)) ||| (((w4.toInt64) &&& (255 : Int64)) <<< ((24 : Int32) &&& 0x3f).toInt64)) ||| (((w5.toInt64) &&& (255 : Int64)) <<< ((16 : Int32) &&& 0x3f).toInt64)) ||| (((w6.toInt64) &&& (255 : Int64)) <<< ((8 : Int32) &&& 0x3f).toInt64)))])
  refine Go.st (fun t k => XS.iloadN X0.here hx rfl (hb hby d2_93) rfl k) ?_
  show Go _ _ _ _ T0 (mkF m 94 #[.val (.ref a1), .val (.int p2)] [(.int p2), (.ref a1), (.long ((((((((w0.toInt64) <<< ((56 : Int32) &&& 0x3f).toInt64) ||| (((w1.toInt64) &&& (255 : Int64)) <<< ((48 : Int32) &&& 0x3f).toInt64)) ||| (((w2.toInt64) &&& (255 : Int64)) <<< ((40 : Int32) &&& 0x3f).toInt64)) ||| (((w3.toInt64) &&& (255 : Int64)) <<< ((32 : Int32) &&& 0x3f).toInt64)) ||| (((w4.toInt64) &&& (255 : Int64)) <<< ((24 : Int32) &&& 0x3f).toInt64)) ||| (((w5.toInt64) &&& (255 : Int64)) <<< ((16 : Int32) &&& 0x3f).toInt64)) ||| (((w6.toInt64) &&& (255 : Int64)) <<< ((8 : Int32) &&& 0x3f).toInt64)))])
  refine Go.st (fun t k => XS.bipush X0.here hx rfl (hb hby d2_94) k) ?_
  show Go _ _ _ _ T0 (mkF m 96 #[.val (.ref a1), .val (.int p2)] [(.int (7 : Int32)), (.int p2), (.ref a1), (.long ((((((((w0.toInt64) <<< ((56 : Int32) &&& 0x3f).toInt64) ||| (((w1.toInt64) &&& (255 : Int64)) <<< ((48 : Int32) &&& 0x3f).toInt64)) ||| (((w2.toInt64) &&& (255 : Int64)) <<< ((40 : Int32) &&& 0x3f).toInt64)) ||| (((w3.toInt64) &&& (255 : Int64)) <<< ((32 : Int32) &&& 0x3f).toInt64)) ||| (((w4.toInt64) &&& (255 : Int64)) <<< ((24 : Int32) &&& 0x3f).toInt64)) ||| (((w5.toInt64) &&& (255 : Int64)) <<< ((16 : Int32) &&& 0x3f).toInt64)) ||| (((w6.toInt64) &&& (255 : Int64)) <<< ((8 : Int32) &&& 0x3f).toInt64)))])
  refine Go.st (fun t k => XS.iadd X0.here hx rfl (hb hby d2_96) rfl k) ?_
  show Go _ _ _ _ T0 (mkF m 97 #[.val (.ref a1), .val (.int p2)] [(.int (p2 + (7 : Int32))), (.ref a1), (.long ((((((((w0.toInt64) <<< ((56 : Int32) &&& 0x3f).toInt64) ||| (((w1.toInt64) &&& (255 : Int64)) <<< ((48 : Int32) &&& 0x3f).toInt64)) ||| (((w2.toInt64) &&& (255 : Int64)) <<< ((40 : Int32) &&& 0x3f).toInt64)) ||| (((w3.toInt64) &&& (255 : Int64)) <<< ((32 : Int32) &&& 0x3f).toInt64)) ||| (((w4.toInt64) &&& (255 : Int64)) <<< ((24 : Int32) &&& 0x3f).toInt64)) ||| (((w5.toInt64) &&& (255 : Int64)) <<< ((16 : Int32) &&& 0x3f).toInt64)) ||| (((w6.toInt64) &&& (255 : Int64)) <<< ((8 : Int32) &&& 0x3f).toInt64)))])
  refine goLdB X0 hx hZ e0 V_a1 (v := (.int w7)) (g := (mkF m 97 #[.val (.ref a1), .val (.int p2)] [(.int (p2 + (7 : Int32))), (.ref a1), (.long ((((((((w0.toInt64) <<< ((56 : Int32) &&& 0x3f).toInt64) ||| (((w1.toInt64) &&& (255 : Int64)) <<< ((48 : Int32) &&& 0x3f).toInt64)) ||| (((w2.toInt64) &&& (255 : Int64)) <<< ((40 : Int32) &&& 0x3f).toInt64)) ||| (((w3.toInt64) &&& (255 : Int64)) <<< ((32 : Int32) &&& 0x3f).toInt64)) ||| (((w4.toInt64) &&& (255 : Int64)) <<< ((24 : Int32) &&& 0x3f).toInt64)) ||| (((w5.toInt64) &&& (255 : Int64)) <<< ((16 : Int32) &&& 0x3f).toInt64)) ||| (((w6.toInt64) &&& (255 : Int64)) <<< ((8 : Int32) &&& 0x3f).toInt64)))])) rfl rfl (hb hby d2_97) I7 H7 ?_
  show Go _ _ _ _ T0 (mkF m 98 #[.val (.ref a1), .val (.int p2)] [(.int w7), (.long ((((((((w0.toInt64) <<< ((56 : Int32) &&& 0x3f).toInt64) ||| (((w1.toInt64) &&& (255 : Int64)) <<< ((48 : Int32) &&& 0x3f).toInt64)) ||| (((w2.toInt64) &&& (255 : Int64)) <<< ((40 : Int32) &&& 0x3f).toInt64)) ||| (((w3.toInt64) &&& (255 : Int64)) <<< ((32 : Int32) &&& 0x3f).toInt64)) ||| (((w4.toInt64) &&& (255 : Int64)) <<< ((24 : Int32) &&& 0x3f).toInt64)) ||| (((w5.toInt64) &&& (255 : Int64)) <<< ((16 : Int32) &&& 0x3f).toInt64)) ||| (((w6.toInt64) &&& (255 : Int64)) <<< ((8 : Int32) &&& 0x3f).toInt64)))])
  refine Go.st (fun t k => XS.i2l X0.here hx rfl (hb hby d2_98) rfl k) ?_
  show Go _ _ _ _ T0 (mkF m 99 #[.val (.ref a1), .val (.int p2)] [(.long (w7.toInt64)), (.long ((((((((w0.toInt64) <<< ((56 : Int32) &&& 0x3f).toInt64) ||| (((w1.toInt64) &&& (255 : Int64)) <<< ((48 : Int32) &&& 0x3f).toInt64)) ||| (((w2.toInt64) &&& (255 : Int64)) <<< ((40 : Int32) &&& 0x3f).toInt64)) ||| (((w3.toInt64) &&& (255 : Int64)) <<< ((32 : Int32) &&& 0x3f).toInt64)) ||| (((w4.toInt64) &&& (255 : Int64)) <<< ((24 : Int32) &&& 0x3f).toInt64)) ||| (((w5.toInt64) &&& (255 : Int64)) <<< ((16 : Int32) &&& 0x3f).toInt64)) ||| (((w6.toInt64) &&& (255 : Int64)) <<< ((8 : Int32) &&& 0x3f).toInt64)))])
  refine Go.st (X0.ldc2Long hx hown (mvT hZ (hw _ (List.mem_of_getElem? (i := 10) rfl))) (g := (mkF m 99 #[.val (.ref a1), .val (.int p2)] [(.long (w7.toInt64)), (.long ((((((((w0.toInt64) <<< ((56 : Int32) &&& 0x3f).toInt64) ||| (((w1.toInt64) &&& (255 : Int64)) <<< ((48 : Int32) &&& 0x3f).toInt64)) ||| (((w2.toInt64) &&& (255 : Int64)) <<< ((40 : Int32) &&& 0x3f).toInt64)) ||| (((w3.toInt64) &&& (255 : Int64)) <<< ((32 : Int32) &&& 0x3f).toInt64)) ||| (((w4.toInt64) &&& (255 : Int64)) <<< ((24 : Int32) &&& 0x3f).toInt64)) ||| (((w5.toInt64) &&& (255 : Int64)) <<< ((16 : Int32) &&& 0x3f).toInt64)) ||| (((w6.toInt64) &&& (255 : Int64)) <<< ((8 : Int32) &&& 0x3f).toInt64)))])) rfl (hb hby d2_99)) ?_
  show Go _ _ _ _ T0 (mkF m 102 #[.val (.ref a1), .val (.int p2)] [(.long (255 : Int64)), (.long (w7.toInt64)), (.long ((((((((w0.toInt64) <<< ((56 : Int32) &&& 0x3f).toInt64) ||| (((w1.toInt64) &&& (255 : Int64)) <<< ((48 : Int32) &&& 0x3f).toInt64)) ||| (((w2.toInt64) &&& (255 : Int64)) <<< ((40 : Int32) &&& 0x3f).toInt64)) ||| (((w3.toInt64) &&& (255 : Int64)) <<< ((32 : Int32) &&& 0x3f).toInt64)) ||| (((w4.toInt64) &&& (255 : Int64)) <<< ((24 : Int32) &&& 0x3f).toInt64)) ||| (((w5.toInt64) &&& (255 : Int64)) <<< ((16 : Int32) &&& 0x3f).toInt64)) ||| (((w6.toInt64) &&& (255 : Int64)) <<< ((8 : Int32) &&& 0x3f).toInt64)))])
  refine Go.st (fun t k => XS.land X0.here hx rfl (hb hby d2_102) rfl k) ?_
  show Go _ _ _ _ T0 (mkF m 103 #[.val (.ref a1), .val (.int p2)] [(.long ((w7.toInt64) &&& (255 : Int64))), (.long ((((((((w0.toInt64) <<< ((56 : Int32) &&& 0x3f).toInt64) ||| (((w1.toInt64) &&& (255 : Int64)) <<< ((48 : Int32) &&& 0x3f).toInt64)) ||| (((w2.toInt64) &&& (255 : Int64)) <<< ((40 : Int32) &&& 0x3f).toInt64)) ||| (((w3.toInt64) &&& (255 : Int64)) <<< ((32 : Int32) &&& 0x3f).toInt64)) ||| (((w4.toInt64) &&& (255 : Int64)) <<< ((24 : Int32) &&& 0x3f).toInt64)) ||| (((w5.toInt64) &&& (255 : Int64)) <<< ((16 : Int32) &&& 0x3f).toInt64)) ||| (((w6.toInt64) &&& (255 : Int64)) <<< ((8 : Int32) &&& 0x3f).toInt64)))])
  refine Go.st (fun t k => XS.lor X0.here hx rfl (hb hby d2_103) rfl k) ?_
  show Go _ _ _ _ T0 (mkF m 104 #[.val (.ref a1), .val (.int p2)] [(.long (((((((((w0.toInt64) <<< ((56 : Int32) &&& 0x3f).toInt64) ||| (((w1.toInt64) &&& (255 : Int64)) <<< ((48 : Int32) &&& 0x3f).toInt64)) ||| (((w2.toInt64) &&& (255 : Int64)) <<< ((40 : Int32) &&& 0x3f).toInt64)) ||| (((w3.toInt64) &&& (255 : Int64)) <<< ((32 : Int32) &&& 0x3f).toInt64)) ||| (((w4.toInt64) &&& (255 : Int64)) <<< ((24 : Int32) &&& 0x3f).toInt64)) ||| (((w5.toInt64) &&& (255 : Int64)) <<< ((16 : Int32) &&& 0x3f).toInt64)) ||| (((w6.toInt64) &&& (255 : Int64)) <<< ((8 : Int32) &&& 0x3f).toInt64)) ||| ((w7.toInt64) &&& (255 : Int64))))])
  exact goJ X0 hx hret hlk (hb hby d2_104) (by decide) (by decide) ⟨rfl, N0, e0⟩
theorem pn_0 : plainName "wardlog/BytesGetLongPinLaw" = true := by first | (simp [plainName, overriddenIn]; done) | decide +kernel
theorem pd0_0 : parseMethodDescriptor "([BII)V" = some ⟨[(.array .byte), .int, .int], none⟩ := by decide +kernel
theorem pd0_1 : parseMethodDescriptor "([BI)J" = some ⟨[(.array .byte), .int], some .long⟩ := by decide +kernel
theorem ef_0 (m : MethodId) (x0 : Int32) (x1 : Int32) (x2 : Int32) (x3 : Int32) : entryFrame m #[(.int x0), (.int x1), (.int x2), (.int x3)] maxLocals = mkF m 0 #[.val (.int x0), .val (.int x1), .val (.int x2), .val (.int x3), .unset, .unset, .unset, .unset, .unset] [] := by first | (simp [entryFrame, mkF, argsToLocals, Value.category, maxLocals]; done) | rfl
set_option maxRecDepth 65536 in
set_option maxHeartbeats 40000000 in
theorem rm0 (l : Launch) (Z : State) (a0 : Array Value) (hw : ∀ d ∈ tables_1, d.before a0 Z = true) (p1 : Int32) (p2 : Int32) (p3 : Int32) (p4 : Int32) (h0 : Heap) (n0 : Nat) (Z0 : n0 ≤ h0.size)   :
    Does l Z x code maxLocals ret room_1 #[(.int p1), (.int p2), (.int p3), (.int p4)] h0 (fun v h L => v = some (.int 1) ∧ Fr n0 L) := by
  refine Does.body (plainFor_of_name pn_0) ?_
  intro p e s m below meth c T0 X0 hx hZ hby hml hown hnm hret hlk e0
  replace hown : s.vm.findClass "wardlog/BytesGetLongPinLaw" = some m.cls := hown
  have N0 := Fr.nil n0
  refine Go.frame (ef_0 m p1 p2 p3 p4) ?_
  show Go _ _ _ _ T0 (mkF m 0 #[.val (.int p1), .val (.int p2), .val (.int p3), .val (.int p4), .unset, .unset, .unset, .unset, .unset] [])
  refine Go.st (fun t k => XS.iloadN X0.here hx rfl (hb hby at_0) rfl k) ?_
  show Go _ _ _ _ T0 (mkF m 1 #[.val (.int p1), .val (.int p2), .val (.int p3), .val (.int p4), .unset, .unset, .unset, .unset, .unset] [(.int p3)])
  refine Go.st (fun t k => XS.iconst X0.here hx rfl (hb hby at_1) k) ?_
  show Go _ _ _ _ T0 (mkF m 2 #[.val (.int p1), .val (.int p2), .val (.int p3), .val (.int p4), .unset, .unset, .unset, .unset, .unset] [(.int (3 : Int32)), (.int p3)])
  refine Go.st (fun t k => XS.iand X0.here hx rfl (hb hby at_2) rfl k) ?_
  show Go _ _ _ _ T0 (mkF m 3 #[.val (.int p1), .val (.int p2), .val (.int p3), .val (.int p4), .unset, .unset, .unset, .unset, .unset] [(.int (p3 &&& (3 : Int32)))])
  obtain ⟨q, k, hq, I0, I1, I2, I3, I4, I5, I6, I7, J1, J2, J3⟩ := own_at p3
  rw [hq]
  show Go _ _ _ _ T0 (mkF m 3 #[.val (.int p1), .val (.int p2), .val (.int p3), .val (.int p4), .unset, .unset, .unset, .unset, .unset] [(.int q)])
  refine Go.st (fun t k => XS.istore X0.here hx rfl (hb hby at_3) rfl (l' := #[.val (.int p1), .val (.int p2), .val (.int p3), .val (.int p4), .val (.int q), .unset, .unset, .unset, .unset]) rfl k) ?_
  show Go _ _ _ _ T0 (mkF m 5 #[.val (.int p1), .val (.int p2), .val (.int p3), .val (.int p4), .val (.int q), .unset, .unset, .unset, .unset] [])
  refine Go.st (fun t k => XS.iloadN X0.here hx rfl (hb hby at_5) rfl k) ?_
  show Go _ _ _ _ T0 (mkF m 6 #[.val (.int p1), .val (.int p2), .val (.int p3), .val (.int p4), .val (.int q), .unset, .unset, .unset, .unset] [(.int p4)])
  refine Go.st (fun t k => XS.i2b X0.here hx rfl (hb hby at_6) rfl k) ?_
  show Go _ _ _ _ T0 (mkF m 7 #[.val (.int p1), .val (.int p2), .val (.int p3), .val (.int p4), .val (.int q), .unset, .unset, .unset, .unset] [(.int (p4.toInt8.toInt32))])
  refine Go.st (fun t k => XS.istore X0.here hx rfl (hb hby at_7) rfl (l' := #[.val (.int p1), .val (.int p2), .val (.int p3), .val (.int p4), .val (.int q), .val (.int (p4.toInt8.toInt32)), .unset, .unset, .unset]) rfl k) ?_
  show Go _ _ _ _ T0 (mkF m 9 #[.val (.int p1), .val (.int p2), .val (.int p3), .val (.int p4), .val (.int q), .val (.int (p4.toInt8.toInt32)), .unset, .unset, .unset] [])
  refine Go.st (fun t k => XS.bipush X0.here hx rfl (hb hby at_9) k) ?_
  show Go _ _ _ _ T0 (mkF m 11 #[.val (.int p1), .val (.int p2), .val (.int p3), .val (.int p4), .val (.int q), .val (.int (p4.toInt8.toInt32)), .unset, .unset, .unset] [(.int (11 : Int32))])
  refine goNew X0 hx hZ (hw _ (List.mem_of_getElem? (i := 0) rfl)) e0 Z0 (by decide) (show Int32.toNatClampNeg (11 : Int32) = 11 from rfl) 11 (by decide) (by decide) (by decide) (by decide) (g := (mkF m 11 #[.val (.int p1), .val (.int p2), .val (.int p3), .val (.int p4), .val (.int q), .val (.int (p4.toInt8.toInt32)), .unset, .unset, .unset] [(.int (11 : Int32))])) rfl rfl (hb hby at_11) ?_
  intro T1 h1 b1 X1 e1 E1 qz1 g_b1 Z1 V_b1
  replace V_b1 : BA Z h1 b1 .byte 11 (fun _ => (.int (0 : Int32))) := V_b1
  show Go _ _ _ _ T1 (mkF m 13 #[.val (.int p1), .val (.int p2), .val (.int p3), .val (.int p4), .val (.int q), .val (.int (p4.toInt8.toInt32)), .unset, .unset, .unset] [(.ref b1)])
  refine Go.st (fun t k => XS.dup X1.here hx rfl (hb hby at_13) rfl rfl k) ?_
  show Go _ _ _ _ T1 (mkF m 14 #[.val (.int p1), .val (.int p2), .val (.int p3), .val (.int p4), .val (.int q), .val (.int (p4.toInt8.toInt32)), .unset, .unset, .unset] [(.ref b1), (.ref b1)])
  refine Go.st (fun t k => XS.iconst X1.here hx rfl (hb hby at_14) k) ?_
  show Go _ _ _ _ T1 (mkF m 15 #[.val (.int p1), .val (.int p2), .val (.int p3), .val (.int p4), .val (.int q), .val (.int (p4.toInt8.toInt32)), .unset, .unset, .unset] [(.int (0 : Int32)), (.ref b1), (.ref b1)])
  refine Go.st (fun t k => XS.iload X1.here hx rfl (hb hby at_15) rfl k) ?_
  show Go _ _ _ _ T1 (mkF m 17 #[.val (.int p1), .val (.int p2), .val (.int p3), .val (.int p4), .val (.int q), .val (.int (p4.toInt8.toInt32)), .unset, .unset, .unset] [(.int (p4.toInt8.toInt32)), (.int (0 : Int32)), (.ref b1), (.ref b1)])
  refine goStB X1 hx hZ e1 N0 V_b1 g_b1 (g := (mkF m 17 #[.val (.int p1), .val (.int p2), .val (.int p3), .val (.int p4), .val (.int q), .val (.int (p4.toInt8.toInt32)), .unset, .unset, .unset] [(.int (p4.toInt8.toInt32)), (.int (0 : Int32)), (.ref b1), (.ref b1)])) rfl rfl (hb hby at_17) (k := 0) ⟨by decide, rfl, by decide⟩ ?_
  intro T2 h2 L2 X2 e2 N2 W2 V_b1
  have Z2 := own_sz W2 Z1
  show Go _ _ _ _ T2 (mkF m 18 #[.val (.int p1), .val (.int p2), .val (.int p3), .val (.int p4), .val (.int q), .val (.int (p4.toInt8.toInt32)), .unset, .unset, .unset] [(.ref b1)])
  refine Go.st (fun t k => XS.dup X2.here hx rfl (hb hby at_18) rfl rfl k) ?_
  show Go _ _ _ _ T2 (mkF m 19 #[.val (.int p1), .val (.int p2), .val (.int p3), .val (.int p4), .val (.int q), .val (.int (p4.toInt8.toInt32)), .unset, .unset, .unset] [(.ref b1), (.ref b1)])
  refine Go.st (fun t k => XS.iconst X2.here hx rfl (hb hby at_19) k) ?_
  show Go _ _ _ _ T2 (mkF m 20 #[.val (.int p1), .val (.int p2), .val (.int p3), .val (.int p4), .val (.int q), .val (.int (p4.toInt8.toInt32)), .unset, .unset, .unset] [(.int (1 : Int32)), (.ref b1), (.ref b1)])
  refine Go.st (fun t k => XS.iload X2.here hx rfl (hb hby at_20) rfl k) ?_
  show Go _ _ _ _ T2 (mkF m 22 #[.val (.int p1), .val (.int p2), .val (.int p3), .val (.int p4), .val (.int q), .val (.int (p4.toInt8.toInt32)), .unset, .unset, .unset] [(.int (p4.toInt8.toInt32)), (.int (1 : Int32)), (.ref b1), (.ref b1)])
  refine goStB X2 hx hZ e2 N2 V_b1 g_b1 (g := (mkF m 22 #[.val (.int p1), .val (.int p2), .val (.int p3), .val (.int p4), .val (.int q), .val (.int (p4.toInt8.toInt32)), .unset, .unset, .unset] [(.int (p4.toInt8.toInt32)), (.int (1 : Int32)), (.ref b1), (.ref b1)])) rfl rfl (hb hby at_22) (k := 1) ⟨by decide, rfl, by decide⟩ ?_
  intro T3 h3 L3 X3 e3 N3 W3 V_b1
  have Z3 := own_sz W3 Z2
  show Go _ _ _ _ T3 (mkF m 23 #[.val (.int p1), .val (.int p2), .val (.int p3), .val (.int p4), .val (.int q), .val (.int (p4.toInt8.toInt32)), .unset, .unset, .unset] [(.ref b1)])
  refine Go.st (fun t k => XS.dup X3.here hx rfl (hb hby at_23) rfl rfl k) ?_
  show Go _ _ _ _ T3 (mkF m 24 #[.val (.int p1), .val (.int p2), .val (.int p3), .val (.int p4), .val (.int q), .val (.int (p4.toInt8.toInt32)), .unset, .unset, .unset] [(.ref b1), (.ref b1)])
  refine Go.st (fun t k => XS.iconst X3.here hx rfl (hb hby at_24) k) ?_
  show Go _ _ _ _ T3 (mkF m 25 #[.val (.int p1), .val (.int p2), .val (.int p3), .val (.int p4), .val (.int q), .val (.int (p4.toInt8.toInt32)), .unset, .unset, .unset] [(.int (2 : Int32)), (.ref b1), (.ref b1)])
  refine Go.st (fun t k => XS.iload X3.here hx rfl (hb hby at_25) rfl k) ?_
  show Go _ _ _ _ T3 (mkF m 27 #[.val (.int p1), .val (.int p2), .val (.int p3), .val (.int p4), .val (.int q), .val (.int (p4.toInt8.toInt32)), .unset, .unset, .unset] [(.int (p4.toInt8.toInt32)), (.int (2 : Int32)), (.ref b1), (.ref b1)])
  refine goStB X3 hx hZ e3 N3 V_b1 g_b1 (g := (mkF m 27 #[.val (.int p1), .val (.int p2), .val (.int p3), .val (.int p4), .val (.int q), .val (.int (p4.toInt8.toInt32)), .unset, .unset, .unset] [(.int (p4.toInt8.toInt32)), (.int (2 : Int32)), (.ref b1), (.ref b1)])) rfl rfl (hb hby at_27) (k := 2) ⟨by decide, rfl, by decide⟩ ?_
  intro T4 h4 L4 X4 e4 N4 W4 V_b1
  have Z4 := own_sz W4 Z3
  show Go _ _ _ _ T4 (mkF m 28 #[.val (.int p1), .val (.int p2), .val (.int p3), .val (.int p4), .val (.int q), .val (.int (p4.toInt8.toInt32)), .unset, .unset, .unset] [(.ref b1)])
  refine Go.st (fun t k => XS.dup X4.here hx rfl (hb hby at_28) rfl rfl k) ?_
  show Go _ _ _ _ T4 (mkF m 29 #[.val (.int p1), .val (.int p2), .val (.int p3), .val (.int p4), .val (.int q), .val (.int (p4.toInt8.toInt32)), .unset, .unset, .unset] [(.ref b1), (.ref b1)])
  refine Go.st (fun t k => XS.iconst X4.here hx rfl (hb hby at_29) k) ?_
  show Go _ _ _ _ T4 (mkF m 30 #[.val (.int p1), .val (.int p2), .val (.int p3), .val (.int p4), .val (.int q), .val (.int (p4.toInt8.toInt32)), .unset, .unset, .unset] [(.int (3 : Int32)), (.ref b1), (.ref b1)])
  refine Go.st (fun t k => XS.iload X4.here hx rfl (hb hby at_30) rfl k) ?_
  show Go _ _ _ _ T4 (mkF m 32 #[.val (.int p1), .val (.int p2), .val (.int p3), .val (.int p4), .val (.int q), .val (.int (p4.toInt8.toInt32)), .unset, .unset, .unset] [(.int (p4.toInt8.toInt32)), (.int (3 : Int32)), (.ref b1), (.ref b1)])
  refine goStB X4 hx hZ e4 N4 V_b1 g_b1 (g := (mkF m 32 #[.val (.int p1), .val (.int p2), .val (.int p3), .val (.int p4), .val (.int q), .val (.int (p4.toInt8.toInt32)), .unset, .unset, .unset] [(.int (p4.toInt8.toInt32)), (.int (3 : Int32)), (.ref b1), (.ref b1)])) rfl rfl (hb hby at_32) (k := 3) ⟨by decide, rfl, by decide⟩ ?_
  intro T5 h5 L5 X5 e5 N5 W5 V_b1
  have Z5 := own_sz W5 Z4
  show Go _ _ _ _ T5 (mkF m 33 #[.val (.int p1), .val (.int p2), .val (.int p3), .val (.int p4), .val (.int q), .val (.int (p4.toInt8.toInt32)), .unset, .unset, .unset] [(.ref b1)])
  refine Go.st (fun t k => XS.dup X5.here hx rfl (hb hby at_33) rfl rfl k) ?_
  show Go _ _ _ _ T5 (mkF m 34 #[.val (.int p1), .val (.int p2), .val (.int p3), .val (.int p4), .val (.int q), .val (.int (p4.toInt8.toInt32)), .unset, .unset, .unset] [(.ref b1), (.ref b1)])
  refine Go.st (fun t k => XS.iconst X5.here hx rfl (hb hby at_34) k) ?_
  show Go _ _ _ _ T5 (mkF m 35 #[.val (.int p1), .val (.int p2), .val (.int p3), .val (.int p4), .val (.int q), .val (.int (p4.toInt8.toInt32)), .unset, .unset, .unset] [(.int (4 : Int32)), (.ref b1), (.ref b1)])
  refine Go.st (fun t k => XS.iload X5.here hx rfl (hb hby at_35) rfl k) ?_
  show Go _ _ _ _ T5 (mkF m 37 #[.val (.int p1), .val (.int p2), .val (.int p3), .val (.int p4), .val (.int q), .val (.int (p4.toInt8.toInt32)), .unset, .unset, .unset] [(.int (p4.toInt8.toInt32)), (.int (4 : Int32)), (.ref b1), (.ref b1)])
  refine goStB X5 hx hZ e5 N5 V_b1 g_b1 (g := (mkF m 37 #[.val (.int p1), .val (.int p2), .val (.int p3), .val (.int p4), .val (.int q), .val (.int (p4.toInt8.toInt32)), .unset, .unset, .unset] [(.int (p4.toInt8.toInt32)), (.int (4 : Int32)), (.ref b1), (.ref b1)])) rfl rfl (hb hby at_37) (k := 4) ⟨by decide, rfl, by decide⟩ ?_
  intro T6 h6 L6 X6 e6 N6 W6 V_b1
  have Z6 := own_sz W6 Z5
  show Go _ _ _ _ T6 (mkF m 38 #[.val (.int p1), .val (.int p2), .val (.int p3), .val (.int p4), .val (.int q), .val (.int (p4.toInt8.toInt32)), .unset, .unset, .unset] [(.ref b1)])
  refine Go.st (fun t k => XS.dup X6.here hx rfl (hb hby at_38) rfl rfl k) ?_
  show Go _ _ _ _ T6 (mkF m 39 #[.val (.int p1), .val (.int p2), .val (.int p3), .val (.int p4), .val (.int q), .val (.int (p4.toInt8.toInt32)), .unset, .unset, .unset] [(.ref b1), (.ref b1)])
  refine Go.st (fun t k => XS.iconst X6.here hx rfl (hb hby at_39) k) ?_
  show Go _ _ _ _ T6 (mkF m 40 #[.val (.int p1), .val (.int p2), .val (.int p3), .val (.int p4), .val (.int q), .val (.int (p4.toInt8.toInt32)), .unset, .unset, .unset] [(.int (5 : Int32)), (.ref b1), (.ref b1)])
  refine Go.st (fun t k => XS.iload X6.here hx rfl (hb hby at_40) rfl k) ?_
  show Go _ _ _ _ T6 (mkF m 42 #[.val (.int p1), .val (.int p2), .val (.int p3), .val (.int p4), .val (.int q), .val (.int (p4.toInt8.toInt32)), .unset, .unset, .unset] [(.int (p4.toInt8.toInt32)), (.int (5 : Int32)), (.ref b1), (.ref b1)])
  refine goStB X6 hx hZ e6 N6 V_b1 g_b1 (g := (mkF m 42 #[.val (.int p1), .val (.int p2), .val (.int p3), .val (.int p4), .val (.int q), .val (.int (p4.toInt8.toInt32)), .unset, .unset, .unset] [(.int (p4.toInt8.toInt32)), (.int (5 : Int32)), (.ref b1), (.ref b1)])) rfl rfl (hb hby at_42) (k := 5) ⟨by decide, rfl, by decide⟩ ?_
  intro T7 h7 L7 X7 e7 N7 W7 V_b1
  have Z7 := own_sz W7 Z6
  show Go _ _ _ _ T7 (mkF m 43 #[.val (.int p1), .val (.int p2), .val (.int p3), .val (.int p4), .val (.int q), .val (.int (p4.toInt8.toInt32)), .unset, .unset, .unset] [(.ref b1)])
  refine Go.st (fun t k => XS.dup X7.here hx rfl (hb hby at_43) rfl rfl k) ?_
  show Go _ _ _ _ T7 (mkF m 44 #[.val (.int p1), .val (.int p2), .val (.int p3), .val (.int p4), .val (.int q), .val (.int (p4.toInt8.toInt32)), .unset, .unset, .unset] [(.ref b1), (.ref b1)])
  refine Go.st (fun t k => XS.bipush X7.here hx rfl (hb hby at_44) k) ?_
  show Go _ _ _ _ T7 (mkF m 46 #[.val (.int p1), .val (.int p2), .val (.int p3), .val (.int p4), .val (.int q), .val (.int (p4.toInt8.toInt32)), .unset, .unset, .unset] [(.int (6 : Int32)), (.ref b1), (.ref b1)])
  refine Go.st (fun t k => XS.iload X7.here hx rfl (hb hby at_46) rfl k) ?_
  show Go _ _ _ _ T7 (mkF m 48 #[.val (.int p1), .val (.int p2), .val (.int p3), .val (.int p4), .val (.int q), .val (.int (p4.toInt8.toInt32)), .unset, .unset, .unset] [(.int (p4.toInt8.toInt32)), (.int (6 : Int32)), (.ref b1), (.ref b1)])
  refine goStB X7 hx hZ e7 N7 V_b1 g_b1 (g := (mkF m 48 #[.val (.int p1), .val (.int p2), .val (.int p3), .val (.int p4), .val (.int q), .val (.int (p4.toInt8.toInt32)), .unset, .unset, .unset] [(.int (p4.toInt8.toInt32)), (.int (6 : Int32)), (.ref b1), (.ref b1)])) rfl rfl (hb hby at_48) (k := 6) ⟨by decide, rfl, by decide⟩ ?_
  intro T8 h8 L8 X8 e8 N8 W8 V_b1
  have Z8 := own_sz W8 Z7
  show Go _ _ _ _ T8 (mkF m 49 #[.val (.int p1), .val (.int p2), .val (.int p3), .val (.int p4), .val (.int q), .val (.int (p4.toInt8.toInt32)), .unset, .unset, .unset] [(.ref b1)])
  refine Go.st (fun t k => XS.dup X8.here hx rfl (hb hby at_49) rfl rfl k) ?_
  show Go _ _ _ _ T8 (mkF m 50 #[.val (.int p1), .val (.int p2), .val (.int p3), .val (.int p4), .val (.int q), .val (.int (p4.toInt8.toInt32)), .unset, .unset, .unset] [(.ref b1), (.ref b1)])
  refine Go.st (fun t k => XS.bipush X8.here hx rfl (hb hby at_50) k) ?_
  show Go _ _ _ _ T8 (mkF m 52 #[.val (.int p1), .val (.int p2), .val (.int p3), .val (.int p4), .val (.int q), .val (.int (p4.toInt8.toInt32)), .unset, .unset, .unset] [(.int (7 : Int32)), (.ref b1), (.ref b1)])
  refine Go.st (fun t k => XS.iload X8.here hx rfl (hb hby at_52) rfl k) ?_
  show Go _ _ _ _ T8 (mkF m 54 #[.val (.int p1), .val (.int p2), .val (.int p3), .val (.int p4), .val (.int q), .val (.int (p4.toInt8.toInt32)), .unset, .unset, .unset] [(.int (p4.toInt8.toInt32)), (.int (7 : Int32)), (.ref b1), (.ref b1)])
  refine goStB X8 hx hZ e8 N8 V_b1 g_b1 (g := (mkF m 54 #[.val (.int p1), .val (.int p2), .val (.int p3), .val (.int p4), .val (.int q), .val (.int (p4.toInt8.toInt32)), .unset, .unset, .unset] [(.int (p4.toInt8.toInt32)), (.int (7 : Int32)), (.ref b1), (.ref b1)])) rfl rfl (hb hby at_54) (k := 7) ⟨by decide, rfl, by decide⟩ ?_
  intro T9 h9 L9 X9 e9 N9 W9 V_b1
  have Z9 := own_sz W9 Z8
  show Go _ _ _ _ T9 (mkF m 55 #[.val (.int p1), .val (.int p2), .val (.int p3), .val (.int p4), .val (.int q), .val (.int (p4.toInt8.toInt32)), .unset, .unset, .unset] [(.ref b1)])
  refine Go.st (fun t k => XS.dup X9.here hx rfl (hb hby at_55) rfl rfl k) ?_
  show Go _ _ _ _ T9 (mkF m 56 #[.val (.int p1), .val (.int p2), .val (.int p3), .val (.int p4), .val (.int q), .val (.int (p4.toInt8.toInt32)), .unset, .unset, .unset] [(.ref b1), (.ref b1)])
  refine Go.st (fun t k => XS.bipush X9.here hx rfl (hb hby at_56) k) ?_
  show Go _ _ _ _ T9 (mkF m 58 #[.val (.int p1), .val (.int p2), .val (.int p3), .val (.int p4), .val (.int q), .val (.int (p4.toInt8.toInt32)), .unset, .unset, .unset] [(.int (8 : Int32)), (.ref b1), (.ref b1)])
  refine Go.st (fun t k => XS.iload X9.here hx rfl (hb hby at_58) rfl k) ?_
  show Go _ _ _ _ T9 (mkF m 60 #[.val (.int p1), .val (.int p2), .val (.int p3), .val (.int p4), .val (.int q), .val (.int (p4.toInt8.toInt32)), .unset, .unset, .unset] [(.int (p4.toInt8.toInt32)), (.int (8 : Int32)), (.ref b1), (.ref b1)])
  refine goStB X9 hx hZ e9 N9 V_b1 g_b1 (g := (mkF m 60 #[.val (.int p1), .val (.int p2), .val (.int p3), .val (.int p4), .val (.int q), .val (.int (p4.toInt8.toInt32)), .unset, .unset, .unset] [(.int (p4.toInt8.toInt32)), (.int (8 : Int32)), (.ref b1), (.ref b1)])) rfl rfl (hb hby at_60) (k := 8) ⟨by decide, rfl, by decide⟩ ?_
  intro T10 h10 L10 X10 e10 N10 W10 V_b1
  have Z10 := own_sz W10 Z9
  show Go _ _ _ _ T10 (mkF m 61 #[.val (.int p1), .val (.int p2), .val (.int p3), .val (.int p4), .val (.int q), .val (.int (p4.toInt8.toInt32)), .unset, .unset, .unset] [(.ref b1)])
  refine Go.st (fun t k => XS.dup X10.here hx rfl (hb hby at_61) rfl rfl k) ?_
  show Go _ _ _ _ T10 (mkF m 62 #[.val (.int p1), .val (.int p2), .val (.int p3), .val (.int p4), .val (.int q), .val (.int (p4.toInt8.toInt32)), .unset, .unset, .unset] [(.ref b1), (.ref b1)])
  refine Go.st (fun t k => XS.bipush X10.here hx rfl (hb hby at_62) k) ?_
  show Go _ _ _ _ T10 (mkF m 64 #[.val (.int p1), .val (.int p2), .val (.int p3), .val (.int p4), .val (.int q), .val (.int (p4.toInt8.toInt32)), .unset, .unset, .unset] [(.int (9 : Int32)), (.ref b1), (.ref b1)])
  refine Go.st (fun t k => XS.iload X10.here hx rfl (hb hby at_64) rfl k) ?_
  show Go _ _ _ _ T10 (mkF m 66 #[.val (.int p1), .val (.int p2), .val (.int p3), .val (.int p4), .val (.int q), .val (.int (p4.toInt8.toInt32)), .unset, .unset, .unset] [(.int (p4.toInt8.toInt32)), (.int (9 : Int32)), (.ref b1), (.ref b1)])
  refine goStB X10 hx hZ e10 N10 V_b1 g_b1 (g := (mkF m 66 #[.val (.int p1), .val (.int p2), .val (.int p3), .val (.int p4), .val (.int q), .val (.int (p4.toInt8.toInt32)), .unset, .unset, .unset] [(.int (p4.toInt8.toInt32)), (.int (9 : Int32)), (.ref b1), (.ref b1)])) rfl rfl (hb hby at_66) (k := 9) ⟨by decide, rfl, by decide⟩ ?_
  intro T11 h11 L11 X11 e11 N11 W11 V_b1
  have Z11 := own_sz W11 Z10
  show Go _ _ _ _ T11 (mkF m 67 #[.val (.int p1), .val (.int p2), .val (.int p3), .val (.int p4), .val (.int q), .val (.int (p4.toInt8.toInt32)), .unset, .unset, .unset] [(.ref b1)])
  refine Go.st (fun t k => XS.dup X11.here hx rfl (hb hby at_67) rfl rfl k) ?_
  show Go _ _ _ _ T11 (mkF m 68 #[.val (.int p1), .val (.int p2), .val (.int p3), .val (.int p4), .val (.int q), .val (.int (p4.toInt8.toInt32)), .unset, .unset, .unset] [(.ref b1), (.ref b1)])
  refine Go.st (fun t k => XS.bipush X11.here hx rfl (hb hby at_68) k) ?_
  show Go _ _ _ _ T11 (mkF m 70 #[.val (.int p1), .val (.int p2), .val (.int p3), .val (.int p4), .val (.int q), .val (.int (p4.toInt8.toInt32)), .unset, .unset, .unset] [(.int (10 : Int32)), (.ref b1), (.ref b1)])
  refine Go.st (fun t k => XS.iload X11.here hx rfl (hb hby at_70) rfl k) ?_
  show Go _ _ _ _ T11 (mkF m 72 #[.val (.int p1), .val (.int p2), .val (.int p3), .val (.int p4), .val (.int q), .val (.int (p4.toInt8.toInt32)), .unset, .unset, .unset] [(.int (p4.toInt8.toInt32)), (.int (10 : Int32)), (.ref b1), (.ref b1)])
  refine goStB X11 hx hZ e11 N11 V_b1 g_b1 (g := (mkF m 72 #[.val (.int p1), .val (.int p2), .val (.int p3), .val (.int p4), .val (.int q), .val (.int (p4.toInt8.toInt32)), .unset, .unset, .unset] [(.int (p4.toInt8.toInt32)), (.int (10 : Int32)), (.ref b1), (.ref b1)])) rfl rfl (hb hby at_72) (k := 10) ⟨by decide, rfl, by decide⟩ ?_
  intro T12 h12 L12 X12 e12 N12 W12 V_b1
  have Z12 := own_sz W12 Z11
  show Go _ _ _ _ T12 (mkF m 73 #[.val (.int p1), .val (.int p2), .val (.int p3), .val (.int p4), .val (.int q), .val (.int (p4.toInt8.toInt32)), .unset, .unset, .unset] [(.ref b1)])
  refine Go.st (fun t k => XS.astore X12.here hx rfl (hb hby at_73) rfl rfl (l' := #[.val (.int p1), .val (.int p2), .val (.int p3), .val (.int p4), .val (.int q), .val (.int (p4.toInt8.toInt32)), .val (.ref b1), .unset, .unset]) rfl k) ?_
  show Go _ _ _ _ T12 (mkF m 75 #[.val (.int p1), .val (.int p2), .val (.int p3), .val (.int p4), .val (.int q), .val (.int (p4.toInt8.toInt32)), .val (.ref b1), .unset, .unset] [])
  obtain ⟨f0, V_b1⟩ : ∃ f, BA Z h12 b1 .byte 11 f := ⟨_, V_b1⟩
  refine Go.st (fun t k => XS.aload X12.here hx rfl (hb hby at_75) rfl rfl k) ?_
  show Go _ _ _ _ T12 (mkF m 77 #[.val (.int p1), .val (.int p2), .val (.int p3), .val (.int p4), .val (.int q), .val (.int (p4.toInt8.toInt32)), .val (.ref b1), .unset, .unset] [(.ref b1)])
  refine Go.st (fun t k => XS.iload X12.here hx rfl (hb hby at_77) rfl k) ?_
  show Go _ _ _ _ T12 (mkF m 79 #[.val (.int p1), .val (.int p2), .val (.int p3), .val (.int p4), .val (.int q), .val (.int (p4.toInt8.toInt32)), .val (.ref b1), .unset, .unset] [(.int q), (.ref b1)])
  refine Go.st (fun t k => XS.iloadN X12.here hx rfl (hb hby at_79) rfl k) ?_
  show Go _ _ _ _ T12 (mkF m 80 #[.val (.int p1), .val (.int p2), .val (.int p3), .val (.int p4), .val (.int q), .val (.int (p4.toInt8.toInt32)), .val (.ref b1), .unset, .unset] [(.int p1), (.int q), (.ref b1)])
  refine goS X12 hx hZ (y := (⟨"wardlog/BytesGetLongPinLaw", "put4", "([BII)V"⟩ : MethodName)) hown (hw _ (List.mem_of_getElem? (i := 1) rfl)) (hw _ (List.mem_of_getElem? (i := 2) rfl)) (hw _ (List.mem_of_getElem? (i := 3) rfl)) (hw _ (List.mem_of_getElem? (i := 4) rfl)) (by decide) (rm1 l Z a0 hw b1 q p1 h12 n0 Z12 k 11 f0 V_b1 g_b1 I0 I1 I2 I3) e12 N12 0 (by decide) (by decide) (by decide) (by decide) (g := (mkF m 80 #[.val (.int p1), .val (.int p2), .val (.int p3), .val (.int p4), .val (.int q), .val (.int (p4.toInt8.toInt32)), .val (.ref b1), .unset, .unset] [(.int p1), (.int q), (.ref b1)])) rfl (by rw [hml]; rfl) [(.ref b1), (.int q), (.int p1)] [] (lenOf pd0_0 rfl) rfl rfl (by show 2 * 0 + _ ≤ _; exact Nat.le_of_eq rfl) (hb hby at_80) ?_
  intro T13 v13 L13 M13 X13 N13 hq13
  obtain ⟨rfl, N13q, K13, V_b1⟩ := hq13
  replace N13 := N13 N13q
  have Z13 := Nat.le_trans Z12 K13.1
  show Go _ _ _ _ T13 (mkF m 83 #[.val (.int p1), .val (.int p2), .val (.int p3), .val (.int p4), .val (.int q), .val (.int (p4.toInt8.toInt32)), .val (.ref b1), .unset, .unset] [])
  refine Go.st (fun t k => XS.aload X13.here hx rfl (hb hby at_83) rfl rfl k) ?_
  show Go _ _ _ _ T13 (mkF m 85 #[.val (.int p1), .val (.int p2), .val (.int p3), .val (.int p4), .val (.int q), .val (.int (p4.toInt8.toInt32)), .val (.ref b1), .unset, .unset] [(.ref b1)])
  refine Go.st (fun t k => XS.iload X13.here hx rfl (hb hby at_85) rfl k) ?_
  show Go _ _ _ _ T13 (mkF m 87 #[.val (.int p1), .val (.int p2), .val (.int p3), .val (.int p4), .val (.int q), .val (.int (p4.toInt8.toInt32)), .val (.ref b1), .unset, .unset] [(.int q), (.ref b1)])
  refine Go.st (fun t k => XS.iconst X13.here hx rfl (hb hby at_87) k) ?_
  show Go _ _ _ _ T13 (mkF m 88 #[.val (.int p1), .val (.int p2), .val (.int p3), .val (.int p4), .val (.int q), .val (.int (p4.toInt8.toInt32)), .val (.ref b1), .unset, .unset] [(.int (4 : Int32)), (.int q), (.ref b1)])
  refine Go.st (fun t k => XS.iadd X13.here hx rfl (hb hby at_88) rfl k) ?_
  show Go _ _ _ _ T13 (mkF m 89 #[.val (.int p1), .val (.int p2), .val (.int p3), .val (.int p4), .val (.int q), .val (.int (p4.toInt8.toInt32)), .val (.ref b1), .unset, .unset] [(.int (q + (4 : Int32))), (.ref b1)])
  refine Go.st (fun t k => XS.iloadN X13.here hx rfl (hb hby at_89) rfl k) ?_
  show Go _ _ _ _ T13 (mkF m 90 #[.val (.int p1), .val (.int p2), .val (.int p3), .val (.int p4), .val (.int q), .val (.int (p4.toInt8.toInt32)), .val (.ref b1), .unset, .unset] [(.int p2), (.int (q + (4 : Int32))), (.ref b1)])
  refine goS X13 hx hZ (y := (⟨"wardlog/BytesGetLongPinLaw", "put4", "([BII)V"⟩ : MethodName)) hown (hw _ (List.mem_of_getElem? (i := 1) rfl)) (hw _ (List.mem_of_getElem? (i := 2) rfl)) (hw _ (List.mem_of_getElem? (i := 3) rfl)) (hw _ (List.mem_of_getElem? (i := 4) rfl)) (by decide) (rm1 l Z a0 hw b1 (q + (4 : Int32)) p2 T13.heap n0 Z13 (k + 4) 11 _ V_b1 g_b1 I4 J1 J2 J3) rfl N13 0 (by decide) (by decide) (by decide) (by decide) (g := (mkF m 90 #[.val (.int p1), .val (.int p2), .val (.int p3), .val (.int p4), .val (.int q), .val (.int (p4.toInt8.toInt32)), .val (.ref b1), .unset, .unset] [(.int p2), (.int (q + (4 : Int32))), (.ref b1)])) rfl (by rw [hml]; rfl) [(.ref b1), (.int (q + (4 : Int32))), (.int p2)] [] (lenOf pd0_0 rfl) rfl rfl (by show 2 * 0 + _ ≤ _; exact Nat.le_of_eq rfl) (hb hby at_90) ?_
  intro T14 v14 L14 M14 X14 N14 hq14
  obtain ⟨rfl, N14q, K14, V_b1⟩ := hq14
  replace N14 := N14 N14q
  have Z14 := Nat.le_trans Z13 K14.1
  show Go _ _ _ _ T14 (mkF m 93 #[.val (.int p1), .val (.int p2), .val (.int p3), .val (.int p4), .val (.int q), .val (.int (p4.toInt8.toInt32)), .val (.ref b1), .unset, .unset] [])
  refine Go.st (fun t k => XS.iloadN X14.here hx rfl (hb hby at_93) rfl k) ?_
  show Go _ _ _ _ T14 (mkF m 94 #[.val (.int p1), .val (.int p2), .val (.int p3), .val (.int p4), .val (.int q), .val (.int (p4.toInt8.toInt32)), .val (.ref b1), .unset, .unset] [(.int p1)])
  refine Go.st (fun t k => XS.i2l X14.here hx rfl (hb hby at_94) rfl k) ?_
  show Go _ _ _ _ T14 (mkF m 95 #[.val (.int p1), .val (.int p2), .val (.int p3), .val (.int p4), .val (.int q), .val (.int (p4.toInt8.toInt32)), .val (.ref b1), .unset, .unset] [(.long (p1.toInt64))])
  refine Go.st (fun t k => XS.bipush X14.here hx rfl (hb hby at_95) k) ?_
  show Go _ _ _ _ T14 (mkF m 97 #[.val (.int p1), .val (.int p2), .val (.int p3), .val (.int p4), .val (.int q), .val (.int (p4.toInt8.toInt32)), .val (.ref b1), .unset, .unset] [(.int (32 : Int32)), (.long (p1.toInt64))])
  refine Go.st (fun t k => XS.lshl X14.here hx rfl (hb hby at_97) rfl k) ?_
  show Go _ _ _ _ T14 (mkF m 98 #[.val (.int p1), .val (.int p2), .val (.int p3), .val (.int p4), .val (.int q), .val (.int (p4.toInt8.toInt32)), .val (.ref b1), .unset, .unset] [(.long ((p1.toInt64) <<< ((32 : Int32) &&& 0x3f).toInt64))])
  refine Go.st (fun t k => XS.iloadN X14.here hx rfl (hb hby at_98) rfl k) ?_
  show Go _ _ _ _ T14 (mkF m 99 #[.val (.int p1), .val (.int p2), .val (.int p3), .val (.int p4), .val (.int q), .val (.int (p4.toInt8.toInt32)), .val (.ref b1), .unset, .unset] [(.int p2), (.long ((p1.toInt64) <<< ((32 : Int32) &&& 0x3f).toInt64))])
  refine Go.st (fun t k => XS.i2l X14.here hx rfl (hb hby at_99) rfl k) ?_
  show Go _ _ _ _ T14 (mkF m 100 #[.val (.int p1), .val (.int p2), .val (.int p3), .val (.int p4), .val (.int q), .val (.int (p4.toInt8.toInt32)), .val (.ref b1), .unset, .unset] [(.long (p2.toInt64)), (.long ((p1.toInt64) <<< ((32 : Int32) &&& 0x3f).toInt64))])
  refine Go.st (X14.ldc2Long hx hown (mvT hZ (hw _ (List.mem_of_getElem? (i := 5) rfl))) (g := (mkF m 100 #[.val (.int p1), .val (.int p2), .val (.int p3), .val (.int p4), .val (.int q), .val (.int (p4.toInt8.toInt32)), .val (.ref b1), .unset, .unset] [(.long (p2.toInt64)), (.long ((p1.toInt64) <<< ((32 : Int32) &&& 0x3f).toInt64))])) rfl (hb hby at_100)) ?_
  show Go _ _ _ _ T14 (mkF m 103 #[.val (.int p1), .val (.int p2), .val (.int p3), .val (.int p4), .val (.int q), .val (.int (p4.toInt8.toInt32)), .val (.ref b1), .unset, .unset] [(.long (4294967295 : Int64)), (.long (p2.toInt64)), (.long ((p1.toInt64) <<< ((32 : Int32) &&& 0x3f).toInt64))])
  refine Go.st (fun t k => XS.land X14.here hx rfl (hb hby at_103) rfl k) ?_
  show Go _ _ _ _ T14 (mkF m 104 #[.val (.int p1), .val (.int p2), .val (.int p3), .val (.int p4), .val (.int q), .val (.int (p4.toInt8.toInt32)), .val (.ref b1), .unset, .unset] [(.long ((p2.toInt64) &&& (4294967295 : Int64))), (.long ((p1.toInt64) <<< ((32 : Int32) &&& 0x3f).toInt64))])
  refine Go.st (fun t k => XS.lor X14.here hx rfl (hb hby at_104) rfl k) ?_
  show Go _ _ _ _ T14 (mkF m 105 #[.val (.int p1), .val (.int p2), .val (.int p3), .val (.int p4), .val (.int q), .val (.int (p4.toInt8.toInt32)), .val (.ref b1), .unset, .unset] [(.long (((p1.toInt64) <<< ((32 : Int32) &&& 0x3f).toInt64) ||| ((p2.toInt64) &&& (4294967295 : Int64))))])
  refine Go.st (fun t k => XS.lstore X14.here hx rfl (hb hby at_105) rfl (l' := #[.val (.int p1), .val (.int p2), .val (.int p3), .val (.int p4), .val (.int q), .val (.int (p4.toInt8.toInt32)), .val (.ref b1), .val (.long (((p1.toInt64) <<< ((32 : Int32) &&& 0x3f).toInt64) ||| ((p2.toInt64) &&& (4294967295 : Int64)))), .second]) rfl k) ?_
  show Go _ _ _ _ T14 (mkF m 107 #[.val (.int p1), .val (.int p2), .val (.int p3), .val (.int p4), .val (.int q), .val (.int (p4.toInt8.toInt32)), .val (.ref b1), .val (.long (((p1.toInt64) <<< ((32 : Int32) &&& 0x3f).toInt64) ||| ((p2.toInt64) &&& (4294967295 : Int64)))), .second] [])
  refine Go.st (fun t k => XS.aload X14.here hx rfl (hb hby at_107) rfl rfl k) ?_
  show Go _ _ _ _ T14 (mkF m 109 #[.val (.int p1), .val (.int p2), .val (.int p3), .val (.int p4), .val (.int q), .val (.int (p4.toInt8.toInt32)), .val (.ref b1), .val (.long (((p1.toInt64) <<< ((32 : Int32) &&& 0x3f).toInt64) ||| ((p2.toInt64) &&& (4294967295 : Int64)))), .second] [(.ref b1)])
  refine Go.st (fun t k => XS.iload X14.here hx rfl (hb hby at_109) rfl k) ?_
  show Go _ _ _ _ T14 (mkF m 111 #[.val (.int p1), .val (.int p2), .val (.int p3), .val (.int p4), .val (.int q), .val (.int (p4.toInt8.toInt32)), .val (.ref b1), .val (.long (((p1.toInt64) <<< ((32 : Int32) &&& 0x3f).toInt64) ||| ((p2.toInt64) &&& (4294967295 : Int64)))), .second] [(.int q), (.ref b1)])
  refine goS X14 hx hZ (y := (⟨"wardlog/Bytes", "getLong", "([BI)J"⟩ : MethodName)) hown (hw _ (List.mem_of_getElem? (i := 6) rfl)) (hw _ (List.mem_of_getElem? (i := 7) rfl)) (hw _ (List.mem_of_getElem? (i := 8) rfl)) (hw _ (List.mem_of_getElem? (i := 9) rfl)) (by decide) (rm2 l Z a0 hw b1 q T14.heap n0 Z14 k 11 _ (((((p1.toUInt32 >>> ((24 : Int32) &&& 31).toUInt32).toInt32)).toInt8.toInt32).toInt8.toInt32) (((((p1.toUInt32 >>> ((16 : Int32) &&& 31).toUInt32).toInt32)).toInt8.toInt32).toInt8.toInt32) (((((p1.toUInt32 >>> ((8 : Int32) &&& 31).toUInt32).toInt32)).toInt8.toInt32).toInt8.toInt32) (((p1).toInt8.toInt32).toInt8.toInt32) (((((p2.toUInt32 >>> ((24 : Int32) &&& 31).toUInt32).toInt32)).toInt8.toInt32).toInt8.toInt32) (((((p2.toUInt32 >>> ((16 : Int32) &&& 31).toUInt32).toInt32)).toInt8.toInt32).toInt8.toInt32) (((((p2.toUInt32 >>> ((8 : Int32) &&& 31).toUInt32).toInt32)).toInt8.toInt32).toInt8.toInt32) (((p2).toInt8.toInt32).toInt8.toInt32) V_b1 I0 I1 I2 I3 I4 I5 I6 I7 (by simp [Nat.add_assoc]) (by simp) (by simp) (by simp) (by simp) (by simp) (by simp) (by simp)) rfl N14 0 (by decide) (by decide) (by decide) (by decide) (g := (mkF m 111 #[.val (.int p1), .val (.int p2), .val (.int p3), .val (.int p4), .val (.int q), .val (.int (p4.toInt8.toInt32)), .val (.ref b1), .val (.long (((p1.toInt64) <<< ((32 : Int32) &&& 0x3f).toInt64) ||| ((p2.toInt64) &&& (4294967295 : Int64)))), .second] [(.int q), (.ref b1)])) rfl (by rw [hml]; rfl) [(.ref b1), (.int q)] [] (lenOf pd0_1 rfl) rfl rfl (by show 2 * 0 + _ ≤ _; exact Nat.le_of_eq rfl) (hb hby at_111) ?_
  intro T15 v15 L15 M15 X15 N15 hq15
  obtain ⟨rfl, N15q, e15⟩ := hq15
  replace N15 := N15 N15q
  show Go _ _ _ _ T15 (mkF m 114 #[.val (.int p1), .val (.int p2), .val (.int p3), .val (.int p4), .val (.int q), .val (.int (p4.toInt8.toInt32)), .val (.ref b1), .val (.long (((p1.toInt64) <<< ((32 : Int32) &&& 0x3f).toInt64) ||| ((p2.toInt64) &&& (4294967295 : Int64)))), .second] [(.long (own_getl (((((p1.toUInt32 >>> ((24 : Int32) &&& 31).toUInt32).toInt32)).toInt8.toInt32).toInt8.toInt32) (((((p1.toUInt32 >>> ((16 : Int32) &&& 31).toUInt32).toInt32)).toInt8.toInt32).toInt8.toInt32) (((((p1.toUInt32 >>> ((8 : Int32) &&& 31).toUInt32).toInt32)).toInt8.toInt32).toInt8.toInt32) (((p1).toInt8.toInt32).toInt8.toInt32) (((((p2.toUInt32 >>> ((24 : Int32) &&& 31).toUInt32).toInt32)).toInt8.toInt32).toInt8.toInt32) (((((p2.toUInt32 >>> ((16 : Int32) &&& 31).toUInt32).toInt32)).toInt8.toInt32).toInt8.toInt32) (((((p2.toUInt32 >>> ((8 : Int32) &&& 31).toUInt32).toInt32)).toInt8.toInt32).toInt8.toInt32) (((p2).toInt8.toInt32).toInt8.toInt32)))])
  refine Go.st (fun t k => XS.lload X15.here hx rfl (hb hby at_114) rfl k) ?_
  show Go _ _ _ _ T15 (mkF m 116 #[.val (.int p1), .val (.int p2), .val (.int p3), .val (.int p4), .val (.int q), .val (.int (p4.toInt8.toInt32)), .val (.ref b1), .val (.long (((p1.toInt64) <<< ((32 : Int32) &&& 0x3f).toInt64) ||| ((p2.toInt64) &&& (4294967295 : Int64)))), .second] [(.long (((p1.toInt64) <<< ((32 : Int32) &&& 0x3f).toInt64) ||| ((p2.toInt64) &&& (4294967295 : Int64)))), (.long (own_getl (((((p1.toUInt32 >>> ((24 : Int32) &&& 31).toUInt32).toInt32)).toInt8.toInt32).toInt8.toInt32) (((((p1.toUInt32 >>> ((16 : Int32) &&& 31).toUInt32).toInt32)).toInt8.toInt32).toInt8.toInt32) (((((p1.toUInt32 >>> ((8 : Int32) &&& 31).toUInt32).toInt32)).toInt8.toInt32).toInt8.toInt32) (((p1).toInt8.toInt32).toInt8.toInt32) (((((p2.toUInt32 >>> ((24 : Int32) &&& 31).toUInt32).toInt32)).toInt8.toInt32).toInt8.toInt32) (((((p2.toUInt32 >>> ((16 : Int32) &&& 31).toUInt32).toInt32)).toInt8.toInt32).toInt8.toInt32) (((((p2.toUInt32 >>> ((8 : Int32) &&& 31).toUInt32).toInt32)).toInt8.toInt32).toInt8.toInt32) (((p2).toInt8.toInt32).toInt8.toInt32)))])
  refine Go.st (fun t k => XS.lcmp X15.here hx rfl (hb hby at_116) rfl k) ?_
  show Go _ _ _ _ T15 (mkF m 117 #[.val (.int p1), .val (.int p2), .val (.int p3), .val (.int p4), .val (.int q), .val (.int (p4.toInt8.toInt32)), .val (.ref b1), .val (.long (((p1.toInt64) <<< ((32 : Int32) &&& 0x3f).toInt64) ||| ((p2.toInt64) &&& (4294967295 : Int64)))), .second] [(.int (lcmpW (own_getl (((((p1.toUInt32 >>> ((24 : Int32) &&& 31).toUInt32).toInt32)).toInt8.toInt32).toInt8.toInt32) (((((p1.toUInt32 >>> ((16 : Int32) &&& 31).toUInt32).toInt32)).toInt8.toInt32).toInt8.toInt32) (((((p1.toUInt32 >>> ((8 : Int32) &&& 31).toUInt32).toInt32)).toInt8.toInt32).toInt8.toInt32) (((p1).toInt8.toInt32).toInt8.toInt32) (((((p2.toUInt32 >>> ((24 : Int32) &&& 31).toUInt32).toInt32)).toInt8.toInt32).toInt8.toInt32) (((((p2.toUInt32 >>> ((16 : Int32) &&& 31).toUInt32).toInt32)).toInt8.toInt32).toInt8.toInt32) (((((p2.toUInt32 >>> ((8 : Int32) &&& 31).toUInt32).toInt32)).toInt8.toInt32).toInt8.toInt32) (((p2).toInt8.toInt32).toInt8.toInt32)) (((p1.toInt64) <<< ((32 : Int32) &&& 0x3f).toInt64) ||| ((p2.toInt64) &&& (4294967295 : Int64)))))])
  refine Go.st (fun t k => XS.ifNo X15.here hx rfl (hb hby at_117) rfl ((if0 _ _).trans (teq ((lw_eq _ _).mpr (own_gl p1 p2))).2) k) ?_
  show Go _ _ _ _ T15 (mkF m 120 #[.val (.int p1), .val (.int p2), .val (.int p3), .val (.int p4), .val (.int q), .val (.int (p4.toInt8.toInt32)), .val (.ref b1), .val (.long (((p1.toInt64) <<< ((32 : Int32) &&& 0x3f).toInt64) ||| ((p2.toInt64) &&& (4294967295 : Int64)))), .second] [])
  refine Go.st (fun t k => XS.iconst X15.here hx rfl (hb hby at_120) k) ?_
  show Go _ _ _ _ T15 (mkF m 121 #[.val (.int p1), .val (.int p2), .val (.int p3), .val (.int p4), .val (.int q), .val (.int (p4.toInt8.toInt32)), .val (.ref b1), .val (.long (((p1.toInt64) <<< ((32 : Int32) &&& 0x3f).toInt64) ||| ((p2.toInt64) &&& (4294967295 : Int64)))), .second] [(.int (1 : Int32))])
  refine Go.st (fun t k => XS.goto X15.here hx rfl (pc0 := 121) (pc' := 125) rfl (hb hby at_121) (by decide) (by decide) k) ?_
  show Go _ _ _ _ T15 (mkF m 125 #[.val (.int p1), .val (.int p2), .val (.int p3), .val (.int p4), .val (.int q), .val (.int (p4.toInt8.toInt32)), .val (.ref b1), .val (.long (((p1.toInt64) <<< ((32 : Int32) &&& 0x3f).toInt64) ||| ((p2.toInt64) &&& (4294967295 : Int64)))), .second] [(.int (1 : Int32))])
  exact goN X15 hx hret hlk (by simp) (hb hby at_125) (by decide) (by decide) ⟨rfl, N15⟩
set_option maxRecDepth 65536 in
set_option maxHeartbeats 40000000 in
theorem comes_1 {Post : Tables → Env → Array Value → State → Outcome → State → Prop} (hpost : ∀ tb e args s v u, (limb_1_1.after args s (.returned v) u = true ∧ limb_1_2.after args s (.returned v) u = true ∧ True) → FrameEnd s (.returned v) u (Jvm.fieldLocs frame_1_writes args s ++ Jvm.arrayLocs frame_1_arrays args s ++ Jvm.staticLocs frame_1_statics s) 16 128 → Post tb e args s (.returned v) u) :
    ArmFor flags0 classFile x code maxLocals ret World_1 tables_1 room_1 Calls_1 rest_1 Pre_1 Post := by
  intro l hfl _ _ p e ha hc hk s m args below hf hA hF happ hP
  obtain ⟨hcalls, hrest, hpre⟩ := hP
  obtain ⟨-, -, -, hnamed, -, -, -, hat⟩ := (Spec.applies_iff hf).mp happ
  obtain ⟨hg, hn⟩ := and_e (Cond.before_iff.mp (show (Jvm.Cond.and given_1 narrow_1).before args s = true from hpre))
  obtain ⟨ga1, gb1⟩ := and_e hg
  obtain ⟨ga2, gb2⟩ := and_e gb1
  obtain ⟨ga3, gb3⟩ := and_e gb2
  obtain ⟨ga4, gb4⟩ := and_e gb3
  obtain ⟨w0, w1, w2, w3, rfl⟩ : ∃ w0 w1 w2 w3 : Value, args = #[w0, w1, w2, w3] := by
    have hs : args.size = 4 := by simpa [Cond.value, given_1] using ga1
    obtain ⟨L⟩ := args
    match L, hs with
    | [w0, w1, w2, w3], _ => exact ⟨w0, w1, w2, w3, rfl⟩
  have hw := fun d (hd : d ∈ tables_1) => atoms_spec (ws := Jvm.Cond.code x code maxLocals ret :: tables_1) hat d (List.mem_cons_of_mem _ hd)
  obtain ⟨i0, ei0⟩ := is_v ga2
  obtain rfl : w0 = (.int i0) := Option.some.inj ei0
  obtain ⟨i1, ei1⟩ := is_v ga3
  obtain rfl : w1 = (.int i1) := Option.some.inj ei1
  obtain ⟨i2, ei2⟩ := is_v ga4
  obtain rfl : w2 = (.int i2) := Option.some.inj ei2
  obtain ⟨i3, ei3⟩ := is_v gb4
  obtain rfl : w3 = (.int i3) := Option.some.inj ei3
  obtain ⟨n, o, h1, h2, h3, _, L, rfl, ⟨rfl, N⟩, hq⟩ := rm0 l s _ hw i0 i1 i2 i3 s.heap s.heap.size (Nat.le_refl _)  tables_1 p e ha hc hk s m _ below hf ((Spec.applies_iff_loose hf).mp happ).1 ⟨rfl, State.Warmed39.refl s, rfl⟩ trivial
  refine ⟨n, _, h1, h2, h3, hpost _ _ _ _ _ _ ⟨Cond.after_iff.mpr rfl, Cond.after_iff.mpr (eq_i res_at (Term.int_eval (1)) rfl), trivial⟩ ⟨hq.1, hq.2.1, (hq.2.2.sift fun y hy => Or.inr (N y hy)).mono (by decide) (by decide)⟩⟩
theorem main_1_1 : Claimed_1_1 := comes_1 fun _ _ _ _ _ _ h hF => ⟨h.1, hF⟩
theorem main_1_2 : Claimed_1_2 := comes_1 fun _ _ _ _ _ _ h hF => ⟨h.2.1, hF⟩
end Jvm.Pilot.@@N@@
namespace Jvm.Pilot.@@N@@
open Jvm Jvm.ClassFile Sem Op Lib Jvm.Free Jvm.Stand Jvm.Pilot.@@N@@.Jvm.D
/-! MADE BY PROGRAM (witnessworld.py) out of the Statement's table words and the real class files: 9 classes; the members and pool entries that the words name. The judged class is class 1, her method 1. -/
namespace start1
open Jvm.ClassFile
def u (s : String) : CpInfo := .utf8 (stringToUtf16 s)
/-- a pool by its gaps: so many unusable entries, then the entry; so many at the end -/
def gap : Nat → List CpInfo → List CpInfo
  | 0, r => r
  | n + 1, r => .unusable :: gap n r
def poolList (es : List (Nat × CpInfo)) (last : Nat) : List CpInfo := es.foldr (fun e r => gap e.1 (e.2 :: r)) (gap last [])
def pool (es : List (Nat × CpInfo)) (last : Nat) : Array CpInfo := ⟨poolList es last⟩
def fileOf (pool : Array CpInfo) (this : Nat) (attrs : Array Attribute := #[]) (ms : Array MethodInfo := #[]) (fl : Nat := 33) (sup : Nat := 0) (ifs : Array Nat := #[]) (fds : Array FieldInfo := #[]) : ClassFile where
  minorVersion := 0
  majorVersion := 65
  constantPool := pool
  accessFlags := fl
  thisClass := this
  superClass := sup
  interfaces := ifs
  fields := fds
  methods := ms
  attributes := attrs
def plain (name : String) (sup : Option ClassId) : Class where
  name := name
  kind := .ordinary
  loader := none
  accessFlags := 33
  super := sup
  interfaces := #[]
  cf := none
  fields := #[]
  methods := #[]
  instanceTypes := #[]
  staticTypes := #[]
  resolved := #[]
  callSites := []
  init := .initialized
  statics := none
  mirror := none

def pool0 : Array CpInfo := pool [(5, u "<init>"), (0, u "()V"), (1, .class_ 10), (1, u "java/lang/Object")] 113

def k0m0 : Method := { name := "<init>", desc := "()V", sig := { parameters := [], returnType := none }, accessFlags := 1, code := none }
/-- java/lang/Object -/
def k0 : Class := { plain "java/lang/Object" none with
  accessFlags := 33
  interfaces := #[]
  cf := some (fileOf pool0 8 #[] #[{ accessFlags := 1, nameIndex := 5, descriptorIndex := 6, attributes := #[] }] 33 0 #[] #[])
  fields := #[]
  methods := #[k0m0]
  instanceTypes := #[]
  staticTypes := #[]
  resolved := Array.replicate 124 none
  statics := none }

def pool1 : Array CpInfo := pool [(2, .class_ 4), (1, u "java/lang/Object"), (0, u "<init>"), (0, u "()V"), (0, .methodref 8 9), (0, .class_ 10), (0, .nameAndType 11 12), (0, u "wardlog/BytesGetLongPinLaw"), (0, u "put4"), (0, u "([BII)V"), (0, .long 4294967295), (1, .methodref 16 17), (0, .class_ 18), (0, .nameAndType 19 20), (0, u "wardlog/Bytes"), (0, u "getLong"), (0, u "([BI)J"), (2, u "law"), (0, u "(IIII)Z")] 5

def k1m0 : Method := { name := "<init>", desc := "()V", sig := { parameters := [], returnType := none }, accessFlags := 2, code := none }
def k1c1 : Code := { maxStack := 6, maxLocals := 9, code := code, exceptionTable := #[], attributes := #[] }
def k1m1 : Method := { name := "law", desc := "(IIII)Z", sig := { parameters := [.int, .int, .int, .int], returnType := some .boolean }, accessFlags := 9, code := some k1c1 }
def k1c2 : Code := { maxStack := 4, maxLocals := 3, code := method_3_code, exceptionTable := #[], attributes := #[] }
def k1m2 : Method := { name := "put4", desc := "([BII)V", sig := { parameters := [(.array .byte), .int, .int], returnType := none }, accessFlags := 10, code := some k1c2 }
/-- wardlog/BytesGetLongPinLaw -/
def k1 : Class := { plain "wardlog/BytesGetLongPinLaw" (some 0) with
  accessFlags := 49
  interfaces := #[]
  cf := some (fileOf pool1 8 #[] #[{ accessFlags := 2, nameIndex := 5, descriptorIndex := 6, attributes := #[] }, { accessFlags := 9, nameIndex := 23, descriptorIndex := 24, attributes := #[] }, { accessFlags := 10, nameIndex := 11, descriptorIndex := 12, attributes := #[] }] 49 2 #[] #[])
  fields := #[]
  methods := #[k1m0, k1m1, k1m2]
  instanceTypes := #[]
  staticTypes := #[]
  resolved := Array.replicate 30 none
  statics := none }

def pool2 : Array CpInfo := pool [(2, .class_ 4), (1, u "java/lang/Object"), (0, u "<init>"), (0, u "()V"), (6, .long 255), (1, .class_ 16), (0, u "wardlog/Bytes"), (10, u "getLong"), (0, u "([BI)J")] 2

def k2m0 : Method := { name := "<init>", desc := "()V", sig := { parameters := [], returnType := none }, accessFlags := 2, code := none }
def k2c1 : Code := { maxStack := 6, maxLocals := 2, code := prog_11_method_7_code, exceptionTable := #[], attributes := #[] }
def k2m1 : Method := { name := "getLong", desc := "([BI)J", sig := { parameters := [(.array .byte), .int], returnType := some .long }, accessFlags := 8, code := some k2c1 }
/-- wardlog/Bytes -/
def k2 : Class := { plain "wardlog/Bytes" (some 0) with
  accessFlags := 48
  interfaces := #[]
  cf := some (fileOf pool2 15 #[] #[{ accessFlags := 2, nameIndex := 5, descriptorIndex := 6, attributes := #[] }, { accessFlags := 8, nameIndex := 27, descriptorIndex := 28, attributes := #[] }] 48 2 #[] #[])
  fields := #[]
  methods := #[k2m0, k2m1]
  instanceTypes := #[]
  staticTypes := #[]
  resolved := Array.replicate 31 none
  statics := none }

def pool3 : Array CpInfo := pool [(1, u "java/lang/Cloneable"), (0, .class_ 1), (0, u "java/lang/Object"), (0, .class_ 3)] 3

/-- java/lang/Cloneable -/
def k3 : Class := { plain "java/lang/Cloneable" (some 0) with
  accessFlags := 1537
  interfaces := #[]
  cf := some (fileOf pool3 2 #[] #[] 1537 4 #[] #[])
  fields := #[]
  methods := #[]
  instanceTypes := #[]
  staticTypes := #[]
  resolved := Array.replicate 8 none
  statics := none }

def pool4 : Array CpInfo := pool [(1, u "java/io/Serializable"), (0, .class_ 1), (0, u "java/lang/Object"), (0, .class_ 3)] 3

/-- java/io/Serializable -/
def k4 : Class := { plain "java/io/Serializable" (some 0) with
  accessFlags := 1537
  interfaces := #[]
  cf := some (fileOf pool4 2 #[] #[] 1537 4 #[] #[])
  fields := #[]
  methods := #[]
  instanceTypes := #[]
  staticTypes := #[]
  resolved := Array.replicate 8 none
  statics := none }

/-- the primitive byte -/
def k5 : Class := { plain "byte" none with kind := .primitive 'B', accessFlags := 0x411 }
/-- [B -/
def k6 : Class := { plain "[B" (some 0) with kind := .array 5 .byte, interfaces := #[3, 4], accessFlags := 1041 }

/-- the primitive int -/
def k7 : Class := { plain "int" none with kind := .primitive 'I', accessFlags := 0x411 }
/-- [I -/
def k8 : Class := { plain "[I" (some 0) with kind := .array 7 .int, interfaces := #[3, 4], accessFlags := 1041 }

def heap : Heap := #[]
def classes : Array Class := #[k0, k1, k2, k3, k4, k5, k6, k7, k8]
def interned : List (Array UInt16 × Addr) := []
def slotsUsed : Nat := 0
def theMethod : MethodId := ⟨1, 1⟩
def args0 : Array Value := #[.int 5, .int 7, .int 9, .int 3]
def aboutOver (below : List Frame) : State where
  vm := { classes := classes, interned := interned.toArray }
  heap := heap
  slotsUsed := slotsUsed
  threads := #[{ frames := .invoking theMethod args0 :: below }]
def below0 : List Frame := [.native { method := ⟨0, 0⟩, args := #[] }]
def about1 : State := aboutOver below0
def p0 : Program := .bare "" "" ""
def e0 : Env := launch0.env 0 0 0
theorem w_frames : about1.frames = Frame.invoking theMethod args0 :: below0 := rfl
set_option maxRecDepth 65536 in
theorem w_args : argsFit about1.vm theMethod args0 = true := by decide +kernel
set_option maxRecDepth 65536 in
theorem w_heap : heapFits about1 = true := by decide +kernel
set_option maxRecDepth 65536 in
theorem w_runnable : about1.curStatus? = some .runnable := by decide +kernel
set_option maxRecDepth 65536 in
theorem w_alone : about1.alone = true := by decide +kernel
set_option maxRecDepth 65536 in
theorem w_named : about1.methodNamed? x = some theMethod := by decide +kernel
set_option maxRecDepth 65536 in
theorem w_hears : about1.hears theMethod below0 = true := by decide +kernel
set_option maxRecDepth 65536 in
theorem w_ripe : about1.ripe theMethod args0 below0 = true := by decide +kernel
theorem w_running : about1.status = .running := rfl
set_option maxRecDepth 65536 in
theorem w_room : about1.hasRoom e0.platform room_1 = true :=
  launch0.hasRoom_least _ room_1 (by decide +kernel) (by decide +kernel) (by decide +kernel) (by decide +kernel) (by decide +kernel) (by decide +kernel)
theorem allAtoms_all (ts : List Jvm.Cond) (a : Array Jvm.Value) (st : Jvm.State) : (allAtoms ts).before a st = ts.all (fun c => c.before a st) := by
  induction ts with
  | nil => rfl
  | cons c t ih =>
    show (Jvm.Cond.and c (allAtoms t)).before a st = _
    rw [Jvm.Cond.before_and, ih, List.all_cons]
def words1 : List Jvm.Cond := Jvm.Cond.code x code maxLocals ret :: tables_1
/-- a 'code' word, met by the world's own term for the bytes: nothing is compared byte by byte -/
theorem code_word {y : MethodName} {bytes : ByteArray} {mx : Nat} {rt : Option FieldType} {a : Array Value} {s : State} {m : MethodId} {meth : Method} {c : Code} (h1 : s.methodNamed? y = some m) (h2 : s.vm.method? m = some meth) (h3 : meth.code = some c) (h4 : c.code = bytes)
    (h5 : (c.maxLocals == mx && c.exceptionTable.isEmpty && decide (c.maxStack ≤ mostOperands) && decide (meth.sig.returnType = rt) && !meth.locks && decide (parseMethodDescriptor y.desc = some meth.sig)) = true) : (Jvm.Cond.code y bytes mx rt).before a s = true := by
  simp only [Bool.and_eq_true, beq_iff_eq, Bool.not_eq_true', decide_eq_true_eq] at h5
  obtain ⟨⟨⟨⟨⟨g1, g2⟩, g3⟩, g4⟩, g5⟩, g6⟩ := h5
  simp [Cond.before, Cond.holds, Cond.value, h1, h2, h3, h4, g1, g2, g3, g4, g5, g6]
def isCode : Jvm.Cond → Bool
  | .code _ _ _ _ => true
  | _ => false
theorem all_split {L : List Jvm.Cond} {P : Jvm.Cond → Bool} (h1 : L.all (fun c => isCode c || P c) = true) (h2 : ∀ c ∈ L.filter isCode, P c = true) : L.all P = true := by
  refine List.all_eq_true.mpr fun c hc => ?_
  have h := List.all_eq_true.mp h1 c hc
  rcases Bool.eq_false_or_eq_true (isCode c) with hi | hi
  · exact h2 c (List.mem_filter.mpr ⟨hc, hi⟩)
  · simpa [hi] using h
set_option maxRecDepth 65536 in
theorem w_c0 : (Jvm.Cond.code x code maxLocals ret).before args0 about1 = true := code_word (m := ⟨1, 1⟩) (meth := k1m1) (c := k1c1) (by decide +kernel) rfl rfl rfl (by decide +kernel)
set_option maxRecDepth 65536 in
theorem w_c1 : (Jvm.Cond.code ({ cls := "wardlog/BytesGetLongPinLaw", name := "put4", desc := "([BII)V" } : Jvm.MethodName) method_3_code (3 : Nat) (Option.none : Option Jvm.ClassFile.FieldType)).before args0 about1 = true := code_word (m := ⟨1, 2⟩) (meth := k1m2) (c := k1c2) (by decide +kernel) rfl rfl rfl (by decide +kernel)
set_option maxRecDepth 65536 in
theorem w_c2 : (Jvm.Cond.code ({ cls := "wardlog/Bytes", name := "getLong", desc := "([BI)J" } : Jvm.MethodName) prog_11_method_7_code (2 : Nat) (Option.some Jvm.ClassFile.FieldType.long)).before args0 about1 = true := code_word (m := ⟨2, 1⟩) (meth := k2m1) (c := k2c1) (by decide +kernel) rfl rfl rfl (by decide +kernel)
def codes1 : List Jvm.Cond := [Jvm.Cond.code x code maxLocals ret, Jvm.Cond.code ({ cls := "wardlog/BytesGetLongPinLaw", name := "put4", desc := "([BII)V" } : Jvm.MethodName) method_3_code (3 : Nat) (Option.none : Option Jvm.ClassFile.FieldType), Jvm.Cond.code ({ cls := "wardlog/Bytes", name := "getLong", desc := "([BI)J" } : Jvm.MethodName) prog_11_method_7_code (2 : Nat) (Option.some Jvm.ClassFile.FieldType.long)]
set_option maxRecDepth 65536 in
theorem codes_eq : words1.filter isCode = codes1 := rfl
theorem w_codes : ∀ c ∈ words1.filter isCode, c.before args0 about1 = true := by
  rw [codes_eq]
  intro c hc
  simp only [codes1, List.mem_cons, List.not_mem_nil, or_false] at hc
  rcases hc with rfl | rfl | rfl
  · exact w_c0
  · exact w_c1
  · exact w_c2
set_option maxRecDepth 65536 in
theorem w_t1 : words1.all (fun c => isCode c || c.before args0 about1) = true := by decide +kernel
theorem w_tables : (allAtoms (Jvm.Cond.code x code maxLocals ret :: tables_1)).before args0 about1 = true := by
  rw [allAtoms_all]
  show words1.all (fun c => c.before args0 about1) = true
  refine all_split ?_ w_codes
  rw [w_t1]
set_option maxRecDepth 65536 in
theorem w_case : (Jvm.Cond.and given_1 narrow_1).before args0 about1 = true := by decide +kernel
theorem w_applies : (headSpec (Jvm.Cond.code x code maxLocals ret :: tables_1) room_1).applies x e0.platform about1 = true :=
  (Spec.applies_iff w_frames).mpr ⟨w_running, w_runnable, w_alone, w_named, w_hears, w_ripe, w_room, w_tables⟩
theorem atStart : AtStart classFile x code maxLocals ret World_1 tables_1 room_1 Calls_1 rest_1 Pre_1 launch0 p0 e0 about1 theMethod args0 below0 :=
  ⟨lists_1, trivial, launch0.admits_env _ _ _, launch0.least_env, fairChoices_fair.cas, fairChoices_fair.clock, w_frames, w_args, w_heap, w_applies, trivial, trivial, w_case⟩
end start1
theorem witness_1 : WitnessClaimed_1 := ⟨start1.p0, start1.e0, start1.about1, start1.theMethod, start1.args0, start1.below0, start1.atStart⟩
end Jvm.Pilot.@@N@@
