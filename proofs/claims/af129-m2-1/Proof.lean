import JvmDerived
import JvmDerived.Pilot.@@N@@Statement
import JvmDerived.Pilot.@@N@@Code
set_option linter.unusedVariables false
set_option linter.unusedSimpArgs false
@@BLOCK:NumsL.lean.txt@@
namespace Jvm.Pilot.@@N@@
open Jvm Jvm.ClassFile Sem Op Lib Jvm.Free Jvm.Stand Jvm.LawKit Jvm.RoadKit Bundle Jvm.Pilot.@@N@@.Jvm.D

/-! OWN KIT: the walk in continuation form; arrays by their cell as functions of the place -/
section OwnKit
variable {p : Program} {l : Launch} {e : Env} {R : Room} {s : State} {m : MethodId} {args : Array Value} {below : List Frame} {meth : Method} {c : Code} {T : State} {locs : List Loc} {cells slots : Nat} {Z : State} {a0 : Array Value} {h h' h0 : Heap} {a b : Addr} {v : Value} {sl : Nat} {ty : FieldType} {n k : Nat} {f f' : Nat → Value} {n0 : Nat} {ws : List Addr}
/-- from this state with this top frame the run ends as F says -/
def Go (tb : Tables) (e : Env) (below : List Frame) (F : Outcome → State → Prop) (T : State) (g : JFrame) : Prop :=
  ∃ s₂ o, Steps tb e below (T.setTop g) s₂ ∧ s₂.status = .running ∧ Ended s₂ below o ∧ F o s₂
theorem Go.st {tb : Tables} {F : Outcome → State → Prop} {T T' : State} {g g' : JFrame} (st : ∀ t, Steps tb e below (T'.setTop g') t → Steps tb e below (T.setTop g) t) (k : Go tb e below F T' g') : Go tb e below F T g := by
  obtain ⟨s₂, o, h1, h2⟩ := k
  exact ⟨s₂, o, st _ h1, h2⟩
theorem Go.frame {tb : Tables} {F : Outcome → State → Prop} {T : State} {g g' : JFrame} (q : g = g') (k : Go tb e below F T g') : Go tb e below F T g := q ▸ k
theorem own_join {α : Type} {tb : Tables} {F : Outcome → State → Prop} {T T2 : State} {g : α → JFrame} {g2 : JFrame} (J : ∀ z, Go tb e below F T (g z)) (k : (∀ z, Go tb e below F T (g z)) → Go tb e below F T2 g2) : Go tb e below F T2 g2 := k J
/-- what a body's end must say -/
def Fi (s : State) (Q : Option Value → Heap → List Loc → Prop) (k n : Nat) (o : Outcome) (U : State) : Prop :=
  ∃ v L, o = .returned v ∧ Q v U.heap L ∧ FrameEnd s o U L k n
/-- a body's contract: called with these values at this heap it returns and Q holds -/
def Does (l : Launch) (Z : State) (y : MethodName) (bytes : ByteArray) (mx : Nat) (ret : Option FieldType) (rm : Room) (as' : Array Value) (h : Heap) (Q : Option Value → Heap → List Loc → Prop) : Prop :=
  ∀ ws, MetFree l y (head1 (Jvm.Cond.code y bytes mx ret :: ws) rm) (fun a U => a = as' ∧ Z.Warmed39 U.vm ∧ U.heap = h) (fun _ _ _ _ _ => True) (fun _ U o U' => Fi U Q rm.cells rm.slots o U')
theorem Does.body {y : MethodName} {bytes : ByteArray} {mx : Nat} {ret : Option FieldType} {rm : Room} {as' : Array Value} {h : Heap} {Q : Option Value → Heap → List Loc → Prop} (hy : plainFor y = true)
    (B : ∀ (p : Program) (e : Env) (s : State) (m : MethodId) (below : List Frame) (meth : Method) (c : Code) (T : State), Stand p l e rm s m as' below meth c T [] 0 0 → p.tables.exec = Jvm.exec → Z.Warmed39 s.vm → c.code = bytes → c.maxLocals = mx → s.vm.findClass y.cls = some m.cls → meth.name = y.name → meth.sig.returnType = ret → meth.locks = false → T.heap = h → Go p.tables e below (Fi s Q rm.cells rm.slots) T (entryFrame m as' mx)) : Does l Z y bytes mx ret rm as' h Q := fun ws => by
  refine MetFree.of_bodySF hy hisR ?_
  intro p e s m args below meth c s₁ Bd hml0 hP hK
  obtain ⟨ha, hZ, hh⟩ := hP
  subst ha
  exact B p e s m below meth c s₁ (Stand.of_body Bd) Bd.exec hZ Bd.bytes hml0 (findClass_of_methodNamed Bd.named) (name_of_methodNamed Bd.named Bd.method).1 Bd.returns Bd.notSynchronized (by rw [← hh, Bd.state]; rfl)
/-! the returns -/
theorem goI (X : Stand p l e R s m args below meth c T locs cells slots) (hx : p.tables.exec = Jvm.exec) (hret : meth.sig.returnType = some .int) (hlk : meth.locks = false) {pc : Nat} {Ls : Array Slot} {z : Int32} {rest : List Value} (hd : decode c.code pc = .ok (.ireturn, 1)) {Q : Option Value → Heap → List Loc → Prop} {k n : Nat} (hk : cells ≤ k) (hn : slots ≤ n) (q : Q (some (.int z)) T.heap locs) :
    Go p.tables e below (Fi s Q k n) T (mkF m pc Ls (.int z :: rest)) := by
  obtain ⟨fs, hr, hrun, hended, hW, hsame⟩ := X.leave (v := some (.int z)) (fun h => by rw [hret] at h; cases h) hlk
  exact ⟨_, _, retOut X hx hret rfl (Or.inl ⟨rfl, Or.inl rfl, z, rfl⟩) hd hr, hrun, hended, _, _, rfl, q, ⟨_, rfl⟩, hW, hsame.mono hk hn⟩
theorem goN (X : Stand p l e R s m args below meth c T locs cells slots) (hx : p.tables.exec = Jvm.exec) {t : FieldType} (hret : meth.sig.returnType = some t) (hlk : meth.locks = false) (ht : t = .boolean ∨ t = .byte ∨ t = .char ∨ t = .short) {pc : Nat} {Ls : Array Slot} {z : Int32} {rest : List Value} (hd : decode c.code pc = .ok (.ireturn, 1)) {Q : Option Value → Heap → List Loc → Prop} {k n : Nat} (hk : cells ≤ k) (hn : slots ≤ n) (q : Q (some (.int (nar t z))) T.heap locs) :
    Go p.tables e below (Fi s Q k n) T (mkF m pc Ls (.int z :: rest)) := by
  obtain ⟨fs, hr, hrun, hended, hW, hsame⟩ := X.leave (v := some (.int (nar t z))) (fun h => by rw [hret] at h; cases h) hlk
  exact ⟨_, _, retN X hx hret ht hd hr, hrun, hended, _, _, rfl, q, ⟨_, rfl⟩, hW, hsame.mono hk hn⟩
theorem goJ (X : Stand p l e R s m args below meth c T locs cells slots) (hx : p.tables.exec = Jvm.exec) (hret : meth.sig.returnType = some .long) (hlk : meth.locks = false) {pc : Nat} {Ls : Array Slot} {z : Int64} {rest : List Value} (hd : decode c.code pc = .ok (.lreturn, 1)) {Q : Option Value → Heap → List Loc → Prop} {k n : Nat} (hk : cells ≤ k) (hn : slots ≤ n) (q : Q (some (.long z)) T.heap locs) :
    Go p.tables e below (Fi s Q k n) T (mkF m pc Ls (.long z :: rest)) := by
  obtain ⟨fs, hr, hrun, hended, hW, hsame⟩ := X.leave (v := some (.long z)) (fun h => by rw [hret] at h; cases h) hlk
  exact ⟨_, _, retOut X hx hret rfl (Or.inr (Or.inl ⟨rfl, rfl, z, rfl⟩)) hd hr, hrun, hended, _, _, rfl, q, ⟨_, rfl⟩, hW, hsame.mono hk hn⟩
theorem goA (X : Stand p l e R s m args below meth c T locs cells slots) (hx : p.tables.exec = Jvm.exec) {t : FieldType} (hret : meth.sig.returnType = some t) (hlk : meth.locks = false) (ht : t.isReference = true) (hnr : ∀ z : Addr, narrow t (.ref z) = .ref z) {pc : Nat} {Ls : Array Slot} {z : Addr} {rest : List Value} (hd : decode c.code pc = .ok (.areturn, 1)) {Q : Option Value → Heap → List Loc → Prop} {k n : Nat} (hk : cells ≤ k) (hn : slots ≤ n) (q : Q (some (.ref z)) T.heap locs) :
    Go p.tables e below (Fi s Q k n) T (mkF m pc Ls (.ref z :: rest)) := by
  obtain ⟨fs, hr, hrun, hended, hW, hsame⟩ := X.leave (v := some (.ref z)) (fun h => by rw [hret] at h; cases h) hlk
  exact ⟨_, _, retOut X hx hret (hnr z) (Or.inr (Or.inr (Or.inr (Or.inr ⟨rfl, ht, rfl⟩)))) hd hr, hrun, hended, _, _, rfl, q, ⟨_, rfl⟩, hW, hsame.mono hk hn⟩
theorem goV (X : Stand p l e R s m args below meth c T locs cells slots) (hx : p.tables.exec = Jvm.exec) (hret : meth.sig.returnType = none) (hlk : meth.locks = false) {pc : Nat} {Ls : Array Slot} (hd : decode c.code pc = .ok (.return_, 1)) {Q : Option Value → Heap → List Loc → Prop} {k n : Nat} (hk : cells ≤ k) (hn : slots ≤ n) (q : Q none T.heap locs) :
    Go p.tables e below (Fi s Q k n) T (mkF m pc Ls []) := by
  obtain ⟨fs, hr, hrun, hended, hW, hsame⟩ := X.leave (v := none) (fun _ => rfl) hlk
  exact ⟨_, _, X.returnOut hx hret hd hr, hrun, hended, _, _, rfl, q, ⟨_, rfl⟩, hW, hsame.mono hk hn⟩
/-! the calls -/
theorem own_one {k : Nat} {L : List Loc} (N : Fr k L) (q : k ≤ a) : Fr k (L ++ [⟨a, sl⟩]) := N.app fun y hy => by cases List.mem_singleton.mp hy; exact q
theorem goS (X : Stand p l e R s m args below meth c T locs cells slots) (hx : p.tables.exec = Jvm.exec) (hZ : Z.Warmed39 s.vm) {own : String} {index : Nat} {y : MethodName} {bytes : ByteArray} {mx : Nat} {ret : Option FieldType} (hown : s.vm.findClass own = some m.cls)
    (w1 : (Jvm.Cond.methodLink own index y).before a0 Z = true) (w2 : (Jvm.Cond.static y).before a0 Z = true) (w3 : (Jvm.Cond.initialized y.cls).before a0 Z = true) (w4 : (Jvm.Cond.code y bytes mx ret).before a0 Z = true) (hy : y.cls ≠ "java/lang/invoke/MethodHandle" ∧ y.cls ≠ "java/lang/invoke/VarHandle")
    {rm : Room} {as' : Array Value} {Q : Option Value → Heap → List Loc → Prop} (D : Does l Z y bytes mx ret rm as' h Q) (eT : T.heap = h) (N : Fr n0 locs) (W : Nat) (hf : rm.frames + 1 ≤ R.frames) (hl : W + (mx + 11) + rm.locals ≤ R.locals) (hc : cells + rm.cells ≤ R.cells) (hs : slots + rm.slots ≤ R.slots)
    {g : JFrame} (hg : g.method = m) (hsize : g.locals.size = c.maxLocals) (argsL rest : List Value) (hlen : ∀ sig, parseMethodDescriptor y.desc = some sig → argsL.length = sig.parameters.length) (has : argsL.toArray = as')
    (hstack : g.stack = argsL.reverse ++ rest) (hW : 2 * g.monitorRoom + (rest.map fun v => v.category).sum ≤ W) (hd : decode c.code g.pc = .ok (.invokestatic index, 3)) {F : Outcome → State → Prop}
    (kk : ∀ (T' : State) (v : Option Value) (L L' : List Loc), Stand p l e R s m args below meth c T' L' (cells + rm.cells) (slots + rm.slots) → (Fr n0 L → Fr n0 L') → Q v T'.heap L → Go p.tables e below F T' { g with pc := g.pc + 3, stack := v.toList ++ rest }) : Go p.tables e below F T g := by
  obtain ⟨v, _, ⟨T', L', k', n'⟩, -, X', ⟨L, hq, e1, e2, e3⟩, st⟩ := Jvm.LawKit.callS X hx hown (mvT hZ w1) (mvT hZ w2) (mvT hZ w3) (mvT hZ w4) hy (backOf (W := W) (Q := Q) (D []) hZ w4 w3 hf hl) hg hsize hlen hstack hW hd (fun _ _ => ⟨has, eT, hc, hs⟩)
  dsimp only [Pt.U, Pt.locs, Pt.cells, Pt.slots] at X' e1 e2 e3 st hq
  subst e1 e2 e3
  exact Go.st st (kk T' v L _ X' (fun q => N.app q) hq)
theorem goM (X : Stand p l e R s m args below meth c T locs cells slots) (hx : p.tables.exec = Jvm.exec) (hZ : Z.Warmed39 s.vm) {own C : String} {index : Nat} {y z : MethodName} {bytes : ByteArray} {mx : Nat} {ret : Option FieldType} (hown : s.vm.findClass own = some m.cls)
    (w1 : (Jvm.Cond.methodLink own index y).before a0 Z = true) (w2 : (Jvm.Cond.declares y).before a0 Z = true) (w3 : (Jvm.Cond.selects C y z).before a0 Z = true) (w4 : (Jvm.Cond.instanceMethod z).before a0 Z = true) (w5 : (Jvm.Cond.code z bytes mx ret).before a0 Z = true) (w6 : (Jvm.Cond.initialized z.cls).before a0 Z = true) (hnf : NotFace s y) (hy : y.cls ≠ "java/lang/invoke/MethodHandle" ∧ y.cls ≠ "java/lang/invoke/VarHandle")
    {rm : Room} {as' : Array Value} {Q : Option Value → Heap → List Loc → Prop} (D : Does l Z z bytes mx ret rm as' h Q) (eT : T.heap = h) (N : Fr n0 locs) (E : Exa Z h b C) (W : Nat) (hf : rm.frames + 1 ≤ R.frames) (hl : W + (mx + 11) + rm.locals ≤ R.locals) (hc : cells + rm.cells ≤ R.cells) (hs : slots + rm.slots ≤ R.slots)
    {g : JFrame} (hg : g.method = m) (hsize : g.locals.size = c.maxLocals) (argsL rest : List Value) (hlen : ∀ sig, parseMethodDescriptor y.desc = some sig → argsL.length = sig.parameters.length) (has : (.ref b :: argsL).toArray = as')
    (hstack : g.stack = argsL.reverse ++ .ref b :: rest) (hW : 2 * g.monitorRoom + (rest.map fun v => v.category).sum ≤ W) (hd : decode c.code g.pc = .ok (.invokevirtual index, 3)) {F : Outcome → State → Prop}
    (kk : ∀ (T' : State) (v : Option Value) (L L' : List Loc), Stand p l e R s m args below meth c T' L' (cells + rm.cells) (slots + rm.slots) → (Fr n0 L → Fr n0 L') → Q v T'.heap L → Go p.tables e below F T' { g with pc := g.pc + 3, stack := v.toList ++ rest }) : Go p.tables e below F T g := by
  obtain ⟨cq, kq, qa, qb, qc⟩ := isOf hZ eT E
  obtain ⟨v, _, ⟨T', L', k', n'⟩, -, X', ⟨L, hq, e1, e2, e3⟩, st⟩ := X.virtualBack hx hown (mvT hZ w1) (mvT hZ w2) hnf (mvT hZ w3) (mvT hZ w4) hy (backOf (W := W) (Q := Q) (D []) hZ w5 w6 hf hl) qa qc hg hsize (Steps.refl _) hlen hstack hW hd (fun _ _ => ⟨has, eT, hc, hs⟩)
  dsimp only [Pt.U, Pt.locs, Pt.cells, Pt.slots] at X' e1 e2 e3 st hq
  subst e1 e2 e3
  exact Go.st (fun t k => st.trans k) (kk T' v L _ X' (fun q => N.app q) hq)
theorem goC (X : Stand p l e R s m args below meth c T locs cells slots) (hx : p.tables.exec = Jvm.exec) (hZ : Z.Warmed39 s.vm) {own : String} {index : Nat} {y : MethodName} {bytes : ByteArray} {mx : Nat} (hy1 : y.name = "<init>") (hown : s.vm.findClass own = some m.cls)
    (w1 : (Jvm.Cond.methodLink own index y).before a0 Z = true) (w2 : (Jvm.Cond.instanceMethod y).before a0 Z = true) (w3 : (Jvm.Cond.initialized y.cls).before a0 Z = true) (w4 : (Jvm.Cond.code y bytes mx none).before a0 Z = true) (hy : y.cls ≠ "java/lang/invoke/MethodHandle" ∧ y.cls ≠ "java/lang/invoke/VarHandle")
    {rm : Room} {as' : Array Value} {Q : Option Value → Heap → List Loc → Prop} (D : Does l Z y bytes mx none rm as' h Q) (eT : T.heap = h) (N : Fr n0 locs) (W : Nat) (hf : rm.frames + 1 ≤ R.frames) (hl : W + (mx + 11) + rm.locals ≤ R.locals) (hc : cells + rm.cells ≤ R.cells) (hs : slots + rm.slots ≤ R.slots)
    {g : JFrame} (hg : g.method = m) (hsize : g.locals.size = c.maxLocals) (argsL rest : List Value) (hlen : ∀ sig, parseMethodDescriptor y.desc = some sig → argsL.length = sig.parameters.length) (has : (.ref b :: argsL).toArray = as')
    (hstack : g.stack = argsL.reverse ++ .ref b :: rest) (hW : 2 * g.monitorRoom + (rest.map fun v => v.category).sum ≤ W) (hd : decode c.code g.pc = .ok (.invokespecial index, 3)) {F : Outcome → State → Prop}
    (kk : ∀ (T' : State) (v : Option Value) (L L' : List Loc), Stand p l e R s m args below meth c T' L' (cells + rm.cells) (slots + rm.slots) → (Fr n0 L → Fr n0 L') → Q v T'.heap L → Go p.tables e below F T' { g with pc := g.pc + 3, stack := v.toList ++ rest }) : Go p.tables e below F T g := by
  obtain ⟨v, _, ⟨T', L', k', n'⟩, -, X', ⟨L, hq, e1, e2, e3⟩, st⟩ := X.specialBack hx hy1 hown (mvT hZ w1) (mvT hZ w2) (mvT hZ w4) hy (backOf (W := W) (Q := Q) (D []) hZ w4 w3 hf hl) hg hsize (Steps.refl _) hlen hstack hW hd (fun _ _ => ⟨has, eT, hc, hs⟩)
  dsimp only [Pt.U, Pt.locs, Pt.cells, Pt.slots] at X' e1 e2 e3 st hq
  subst e1 e2 e3
  exact Go.st (fun t k => st.trans k) (kk T' v L _ X' (fun q => N.app q) hq)
/-! arrays -/
/-- the array at a has n places, place i holds f i -/
def BA (Z : State) (h : Heap) (a : Addr) (ty : FieldType) (n : Nat) (f : Nat → Value) : Prop := ∃ c : Cell, Arr Z h a c ty ∧ c.slots.size = n ∧ ∀ i, i < n → c.slots[i]? = some (f i)
theorem BA.lt (V : BA Z h a ty n f) : a < h.size := by obtain ⟨c, A, -⟩ := V; exact A.lt
theorem BA.ext (V : BA Z h a ty n f) (E : Ext h h') : BA Z h' a ty n f := by obtain ⟨c, A, r⟩ := V; exact ⟨c, A.ext E, r⟩
theorem BA.other (V : BA Z h b ty n f) (W : Wr h h' a sl v) (q : b ≠ a) : BA Z h' b ty n f := by obtain ⟨c, A, r⟩ := V; exact ⟨c, A.other W q, r⟩
theorem BA.keep (V : BA Z h a ty n f) (K : Keep h h' ws) (q : a ∉ ws) : BA Z h' a ty n f := by obtain ⟨c, A, r⟩ := V; exact ⟨c, ⟨K.2.1 a c A.1 q, A.2⟩, r⟩
theorem BA.set (V : BA Z h a ty n f) (W : Wr h h' a k v) : BA Z h' a ty n (fun i => if i = k then v else f i) := by
  obtain ⟨c, A, S, H⟩ := V
  refine ⟨_, A.same W, by rw [sz_set]; exact S, fun i hi => ?_⟩
  show _ = some (if i = k then v else f i)
  by_cases q : i = k
  · subst q; rw [if_pos rfl]; simp [Cell.setSlot, S, hi]
  · rw [if_neg q]; simp only [Cell.setSlot]; rw [Array.getElem?_setIfInBounds_ne (fun z => q z.symm)]; exact H i hi
theorem BA.to (V : BA Z h a ty n f) (q : ∀ i, i < n → f i = f' i) : BA Z h a ty n f' := by
  obtain ⟨c, A, S, H⟩ := V
  exact ⟨c, A, S, fun i hi => by rw [H i hi, q i hi]⟩
theorem BA.new {kc : ClassId} {z : Int32} (A : Arr Z h a (newA kc ty z) ty) (hz : z.toNatClampNeg = n) : BA Z h a ty n (fun _ => defaultValue ty) := ⟨_, A, by rw [sz_new]; exact hz, fun i hi => by
  have : i < z.toNatClampNeg := by rw [hz]; exact hi
  simp [newA, this]⟩
/-- the int j is the place k of n -/
def Ix (j : Int32) (k n : Nat) : Prop := ¬ j < 0 ∧ j.toNatClampNeg = k ∧ k < n
theorem Ix.hin {j : Int32} {c : Cell} (I : Ix j k n) (S : c.slots.size = n) : ¬ (j < 0 ∨ c.slots.size ≤ j.toNatClampNeg) := by
  obtain ⟨h1, h2, h3⟩ := I
  rw [S, h2]; intro q; rcases q with q | q
  · exact h1 q
  · omega
theorem goStB (X : Stand p l e R s m args below meth c T locs cells slots) (hx : p.tables.exec = Jvm.exec) (hZ : Z.Warmed39 s.vm) (eT : T.heap = h) (N : Fr n0 locs) (V : BA Z h a .byte n f) (ga : n0 ≤ a) {j x : Int32} {g : JFrame} (hg : g.method = m) {rest : List Value} (hs : g.stack = .int x :: .int j :: .ref a :: rest) (hd : decode c.code g.pc = .ok (.bastore, 1)) (I : Ix j k n) {F : Outcome → State → Prop}
    (kk : ∀ (T' : State) (h' : Heap) (L : List Loc), Stand p l e R s m args below meth c T' L cells slots → T'.heap = h' → Fr n0 L → Wr h h' a k (.int x.toInt8.toInt32) → BA Z h' a .byte n (fun i => if i = k then .int x.toInt8.toInt32 else f i) → Go p.tables e below F T' { g with pc := g.pc + 1, stack := rest }) : Go p.tables e below F T g := by
  have V0 := V
  obtain ⟨cl, A, S, H⟩ := V
  obtain ⟨T', h', X', e', W, st⟩ := stB X hx hZ eT A (I.hin S) hg hs hd
  obtain ⟨h1, h2, h3⟩ := I
  subst h2
  exact Go.st st (kk T' h' _ X' e' (own_one N ga) W (V0.set W))
theorem goStI (X : Stand p l e R s m args below meth c T locs cells slots) (hx : p.tables.exec = Jvm.exec) (hZ : Z.Warmed39 s.vm) (eT : T.heap = h) (N : Fr n0 locs) (V : BA Z h a .int n f) (ga : n0 ≤ a) {j x : Int32} {g : JFrame} (hg : g.method = m) {rest : List Value} (hs : g.stack = .int x :: .int j :: .ref a :: rest) (hd : decode c.code g.pc = .ok (.iastore, 1)) (I : Ix j k n) {F : Outcome → State → Prop}
    (kk : ∀ (T' : State) (h' : Heap) (L : List Loc), Stand p l e R s m args below meth c T' L cells slots → T'.heap = h' → Fr n0 L → Wr h h' a k (.int x) → BA Z h' a .int n (fun i => if i = k then .int x else f i) → Go p.tables e below F T' { g with pc := g.pc + 1, stack := rest }) : Go p.tables e below F T g := by
  have V0 := V
  obtain ⟨cl, A, S, H⟩ := V
  obtain ⟨T', h', X', e', W, st⟩ := stI X hx hZ eT A (I.hin S) hg hs hd
  obtain ⟨h1, h2, h3⟩ := I
  subst h2
  exact Go.st st (kk T' h' _ X' e' (own_one N ga) W (V0.set W))
theorem goStJ (X : Stand p l e R s m args below meth c T locs cells slots) (hx : p.tables.exec = Jvm.exec) (hZ : Z.Warmed39 s.vm) (eT : T.heap = h) (N : Fr n0 locs) (V : BA Z h a .long n f) (ga : n0 ≤ a) {j : Int32} {x : Int64} {g : JFrame} (hg : g.method = m) {rest : List Value} (hs : g.stack = .long x :: .int j :: .ref a :: rest) (hd : decode c.code g.pc = .ok (.lastore, 1)) (I : Ix j k n) {F : Outcome → State → Prop}
    (kk : ∀ (T' : State) (h' : Heap) (L : List Loc), Stand p l e R s m args below meth c T' L cells slots → T'.heap = h' → Fr n0 L → Wr h h' a k (.long x) → BA Z h' a .long n (fun i => if i = k then .long x else f i) → Go p.tables e below F T' { g with pc := g.pc + 1, stack := rest }) : Go p.tables e below F T g := by
  have V0 := V
  obtain ⟨cl, A, S, H⟩ := V
  obtain ⟨T', h', X', e', W, st⟩ := stJ X hx hZ eT A (I.hin S) hg hs hd
  obtain ⟨h1, h2, h3⟩ := I
  subst h2
  exact Go.st st (kk T' h' _ X' e' (own_one N ga) W (V0.set W))
theorem goLdB (X : Stand p l e R s m args below meth c T locs cells slots) (hx : p.tables.exec = Jvm.exec) (hZ : Z.Warmed39 s.vm) (eT : T.heap = h) (V : BA Z h a .byte n f) {j : Int32} {v : Value} {g : JFrame} (hg : g.method = m) {rest : List Value} (hs : g.stack = .int j :: .ref a :: rest) (hd : decode c.code g.pc = .ok (.baload, 1)) (I : Ix j k n) (hv : f k = v) {F : Outcome → State → Prop}
    (kk : Go p.tables e below F T { g with pc := g.pc + 1, stack := v :: rest }) : Go p.tables e below F T g := by
  obtain ⟨cl, A, S, H⟩ := V
  exact Go.st (fun t q => X.baloadBytes hx (by rw [eT]; exact A.1) (State.isArrayOf_alike hZ.alike A.2.1) A.2.2 (I.hin S) (by rw [I.2.1, H k I.2.2, hv]) hg hs hd t q) kk
theorem goLdI (X : Stand p l e R s m args below meth c T locs cells slots) (hx : p.tables.exec = Jvm.exec) (hZ : Z.Warmed39 s.vm) (eT : T.heap = h) (V : BA Z h a .int n f) {j : Int32} {v : Value} {g : JFrame} (hg : g.method = m) {rest : List Value} (hs : g.stack = .int j :: .ref a :: rest) (hd : decode c.code g.pc = .ok (.iaload, 1)) (I : Ix j k n) (hv : f k = v) {F : Outcome → State → Prop}
    (kk : Go p.tables e below F T { g with pc := g.pc + 1, stack := v :: rest }) : Go p.tables e below F T g := by
  obtain ⟨cl, A, S, H⟩ := V
  exact Go.st (fun t q => X.iaload hx (by rw [eT]; exact A.1) (State.isArrayOf_alike hZ.alike A.2.1) A.2.2 (I.hin S) (by rw [I.2.1, H k I.2.2, hv]) hg hs hd t q) kk
theorem goLdJ (X : Stand p l e R s m args below meth c T locs cells slots) (hx : p.tables.exec = Jvm.exec) (hZ : Z.Warmed39 s.vm) (eT : T.heap = h) (V : BA Z h a .long n f) {j : Int32} {v : Value} {g : JFrame} (hg : g.method = m) {rest : List Value} (hs : g.stack = .int j :: .ref a :: rest) (hd : decode c.code g.pc = .ok (.laload, 1)) (I : Ix j k n) (hv : f k = v) {F : Outcome → State → Prop}
    (kk : Go p.tables e below F T { g with pc := g.pc + 1, stack := v :: rest }) : Go p.tables e below F T g := by
  obtain ⟨cl, A, S, H⟩ := V
  exact Go.st (fun t q => X.laload hx (by rw [eT]; exact A.1) (State.isArrayOf_alike hZ.alike A.2.1) A.2.2 (I.hin S) (by rw [I.2.1, H k I.2.2, hv]) hg hs hd t q) kk
theorem goLen (X : Stand p l e R s m args below meth c T locs cells slots) (hx : p.tables.exec = Jvm.exec) (hZ : Z.Warmed39 s.vm) (eT : T.heap = h) (V : BA Z h a ty n f) {z : Int32} (hz : n.toInt32 = z) {g : JFrame} (hg : g.method = m) {rest : List Value} (hs : g.stack = .ref a :: rest) (hd : decode c.code g.pc = .ok (.arraylength, 1)) {F : Outcome → State → Prop}
    (kk : Go p.tables e below F T { g with pc := g.pc + 1, stack := .int z :: rest }) : Go p.tables e below F T g := by
  obtain ⟨cl, A, S, H⟩ := V
  exact Go.st (fun t q => X.arraylength hx (by rw [eT]; exact A.1) (State.isArrayOf_alike hZ.alike A.2.1) hg hs hd t (by rw [S, hz]; exact q)) kk
theorem goNew (X : Stand p l e R s m args below meth c T locs cells slots) (hx : p.tables.exec = Jvm.exec) (hZ : Z.Warmed39 s.vm) {aty : ArrayType} (w : (Jvm.Cond.arrayClass (newarray.typeOf aty)).before a0 Z = true) (eT : T.heap = h) (Zs : n0 ≤ h.size) {z : Int32} (hz : ¬ z < 0) (hn : z.toNatClampNeg = n) (cap : Nat) (hcap : n ≤ cap) (hb : cap * 8 ≤ 536870912) (hc : cells + 1 ≤ R.cells) (hl : slots + cap ≤ R.slots)
    {g : JFrame} (hg : g.method = m) {rest : List Value} (hs : g.stack = .int z :: rest) (hd : decode c.code g.pc = .ok (.newarray aty, 2)) {F : Outcome → State → Prop}
    (kk : ∀ (T' : State) (h' : Heap) (b : Addr), Stand p l e R s m args below meth c T' locs (cells + 1) (slots + cap) → T'.heap = h' → Ext h h' → b = h.size → n0 ≤ b → n0 ≤ h'.size → BA Z h' b (newarray.typeOf aty) n (fun _ => defaultValue (newarray.typeOf aty)) → Go p.tables e below F T' { g with pc := g.pc + 2, stack := .ref b :: rest }) : Go p.tables e below F T g := by
  obtain ⟨T', h', cA, X', e', E, A, st⟩ := newP X hx hZ w eT hg hd hs hz (cap := cap) (by rw [hn]; exact hcap) hb hc hl
  exact Go.st st (kk T' h' _ X' e' E rfl Zs (Nat.le_trans Zs E.1) (BA.new A hn))
theorem own_sz (W : Wr h h' a sl v) (q : n0 ≤ h.size) : n0 ≤ h'.size := by rw [W.size]; exact q
end OwnKit

def own_b0 (v : Int64) : Int32 := ((((((v.toUInt64 >>> ((56 : Int32) &&& 0x3f).toInt64.toUInt64).toInt64).toInt32)).toInt8.toInt32).toInt8.toInt32)
def own_b1 (v : Int64) : Int32 := ((((((v.toUInt64 >>> ((48 : Int32) &&& 0x3f).toInt64.toUInt64).toInt64).toInt32)).toInt8.toInt32).toInt8.toInt32)
def own_b2 (v : Int64) : Int32 := ((((((v.toUInt64 >>> ((40 : Int32) &&& 0x3f).toInt64.toUInt64).toInt64).toInt32)).toInt8.toInt32).toInt8.toInt32)
def own_b3 (v : Int64) : Int32 := ((((((v.toUInt64 >>> ((32 : Int32) &&& 0x3f).toInt64.toUInt64).toInt64).toInt32)).toInt8.toInt32).toInt8.toInt32)
def own_b4 (v : Int64) : Int32 := ((((((v.toUInt64 >>> ((24 : Int32) &&& 0x3f).toInt64.toUInt64).toInt64).toInt32)).toInt8.toInt32).toInt8.toInt32)
def own_b5 (v : Int64) : Int32 := ((((((v.toUInt64 >>> ((16 : Int32) &&& 0x3f).toInt64.toUInt64).toInt64).toInt32)).toInt8.toInt32).toInt8.toInt32)
def own_b6 (v : Int64) : Int32 := ((((((v.toUInt64 >>> ((8 : Int32) &&& 0x3f).toInt64.toUInt64).toInt64).toInt32)).toInt8.toInt32).toInt8.toInt32)
def own_b7 (v : Int64) : Int32 := ((((v.toInt32)).toInt8.toInt32).toInt8.toInt32)
def own_sent (p1 p2 : Int32) : Int32 := (p1 + (p2 * (37 : Int32))).toInt8.toInt32
def own_getl (w0 w1 w2 w3 w4 w5 w6 w7 : Int32) : Int64 := (((((((((w0.toInt64) <<< ((56 : Int32) &&& 0x3f).toInt64) ||| (((w1.toInt64) &&& (255 : Int64)) <<< ((48 : Int32) &&& 0x3f).toInt64)) ||| (((w2.toInt64) &&& (255 : Int64)) <<< ((40 : Int32) &&& 0x3f).toInt64)) ||| (((w3.toInt64) &&& (255 : Int64)) <<< ((32 : Int32) &&& 0x3f).toInt64)) ||| (((w4.toInt64) &&& (255 : Int64)) <<< ((24 : Int32) &&& 0x3f).toInt64)) ||| (((w5.toInt64) &&& (255 : Int64)) <<< ((16 : Int32) &&& 0x3f).toInt64)) ||| (((w6.toInt64) &&& (255 : Int64)) <<< ((8 : Int32) &&& 0x3f).toInt64)) ||| ((w7.toInt64) &&& (255 : Int64)))
def own_get (w0 w1 w2 w3 : Int32) : Int32 := ((((w0 <<< ((24 : Int32) &&& 31)) ||| ((w1 &&& (255 : Int32)) <<< ((16 : Int32) &&& 31))) ||| ((w2 &&& (255 : Int32)) <<< ((8 : Int32) &&& 31))) ||| (w3 &&& (255 : Int32)))
/-! PLAIN LAW: bytes of an int and of a long, bit by bit -/
theorem own_ext32 {x y : Int32} (h : ∀ i, i < 32 → x.toBitVec.getLsbD i = y.toBitVec.getLsbD i) : x = y := Int32.toBitVec_inj.mp (BitVec.eq_of_getLsbD_eq h)
theorem own_ext64 {x y : Int64} (h : ∀ i, i < 64 → x.toBitVec.getLsbD i = y.toBitVec.getLsbD i) : x = y := Int64.toBitVec_inj.mp (BitVec.eq_of_getLsbD_eq h)
theorem own_nn (x : Int32) : x.toInt8.toInt32.toInt8.toInt32 = x.toInt8.toInt32 := by rw [Int8.toInt8_toInt32]
/-- the low byte's bits stay -/
theorem own_nb (x : Int32) {i : Nat} (hi : i < 8) : x.toInt8.toInt32.toBitVec.getLsbD i = x.toBitVec.getLsbD i := by
  show ((x.toBitVec.signExtend 8).signExtend 32).getLsbD i = _
  rw [BitVec.getLsbD_signExtend, if_pos hi, BitVec.getLsbD_signExtend, if_pos (by omega)]
  simp [hi, show i < 32 by omega]
theorem own_nb2 (x : Int32) {i : Nat} (hi : i < 8) : x.toInt8.toInt32.toInt8.toInt32.toBitVec.getLsbD i = x.toBitVec.getLsbD i := by rw [own_nn]; exact own_nb x hi
theorem own_w (x : Int32) {i : Nat} (hi : i < 32) : x.toInt64.toBitVec.getLsbD i = x.toBitVec.getLsbD i := by
  show (x.toBitVec.signExtend 64).getLsbD i = _
  rw [BitVec.getLsbD_signExtend, if_pos hi]
  simp [show i < 64 by omega]
theorem own_lo32 (x : Int64) {i : Nat} (hi : i < 32) : x.toInt32.toBitVec.getLsbD i = x.toBitVec.getLsbD i := by
  show (x.toBitVec.signExtend 32).getLsbD i = _
  rw [BitVec.getLsbD_signExtend, if_pos (by omega)]
  simp [hi]
theorem own_255 : ∀ i, i < 32 → (255 : Int32).toBitVec.getLsbD i = decide (i < 8) := by decide
theorem own_255l : ∀ i, i < 64 → (255 : Int64).toBitVec.getLsbD i = decide (i < 8) := by decide
theorem own_ff : ∀ i, i < 64 → (4294967295 : Int64).toBitVec.getLsbD i = decide (i < 32) := by decide
/-- bits of x >>> s, as the code spells it -/
theorem own_us {x : Int32} {r : Int32} {s : Nat} (e : r.toBitVec = x.toBitVec >>> s) {j i : Nat} (h : s + j = i) : r.toBitVec.getLsbD j = x.toBitVec.getLsbD i := by
  rw [e, BitVec.getLsbD_ushiftRight, h]
theorem own_usl {x r : Int64} {s : Nat} (e : r.toBitVec = x.toBitVec >>> s) {j i : Nat} (h : s + j = i) : r.toBitVec.getLsbD j = x.toBitVec.getLsbD i := by
  rw [e, BitVec.getLsbD_ushiftRight, h]
theorem own_get_bit (w0 w1 w2 w3 : Int32) {i : Nat} (hi : i < 32) : (own_get w0 w1 w2 w3).toBitVec.getLsbD i = if i < 8 then w3.toBitVec.getLsbD i else if i < 16 then w2.toBitVec.getLsbD (i - 8) else if i < 24 then w1.toBitVec.getLsbD (i - 16) else w0.toBitVec.getLsbD (i - 24) := by
  show ((((w0.toBitVec <<< 24) ||| ((w1.toBitVec &&& (255 : Int32).toBitVec) <<< 16)) ||| ((w2.toBitVec &&& (255 : Int32).toBitVec) <<< 8)) ||| (w3.toBitVec &&& (255 : Int32).toBitVec)).getLsbD i = _
  simp only [BitVec.getLsbD_or, BitVec.getLsbD_shiftLeft, BitVec.getLsbD_and]
  rw [own_255 i hi, own_255 (i - 16) (by omega), own_255 (i - 8) (by omega)]
  by_cases c8 : i < 8
  · simp [hi, show i < 8 by omega, show i < 16 by omega, show i < 24 by omega, show i - 16 < 8 by omega, show i - 8 < 8 by omega]
  by_cases c16 : i < 16
  · simp [hi, show ¬ i < 8 by omega, show i < 16 by omega, show i < 24 by omega, show i - 16 < 8 by omega, show i - 8 < 8 by omega]
  by_cases c24 : i < 24
  · simp [hi, show ¬ i < 8 by omega, show ¬ i < 16 by omega, show i < 24 by omega, show i - 16 < 8 by omega, show ¬ i - 8 < 8 by omega]
  simp [hi, show ¬ i < 8 by omega, show ¬ i < 16 by omega, show ¬ i < 24 by omega, show ¬ i - 16 < 8 by omega, show ¬ i - 8 < 8 by omega]
theorem own_getl_bit (w0 w1 w2 w3 w4 w5 w6 w7 : Int32) {i : Nat} (hi : i < 64) : (own_getl w0 w1 w2 w3 w4 w5 w6 w7).toBitVec.getLsbD i = if i < 8 then w7.toBitVec.getLsbD i else if i < 16 then w6.toBitVec.getLsbD (i - 8) else if i < 24 then w5.toBitVec.getLsbD (i - 16) else if i < 32 then w4.toBitVec.getLsbD (i - 24) else if i < 40 then w3.toBitVec.getLsbD (i - 32) else if i < 48 then w2.toBitVec.getLsbD (i - 40) else if i < 56 then w1.toBitVec.getLsbD (i - 48) else w0.toBitVec.getLsbD (i - 56) := by
  show ((((((((w0.toInt64.toBitVec <<< 56) ||| ((w1.toInt64.toBitVec &&& (255 : Int64).toBitVec) <<< 48)) ||| ((w2.toInt64.toBitVec &&& (255 : Int64).toBitVec) <<< 40)) ||| ((w3.toInt64.toBitVec &&& (255 : Int64).toBitVec) <<< 32)) ||| ((w4.toInt64.toBitVec &&& (255 : Int64).toBitVec) <<< 24)) ||| ((w5.toInt64.toBitVec &&& (255 : Int64).toBitVec) <<< 16)) ||| ((w6.toInt64.toBitVec &&& (255 : Int64).toBitVec) <<< 8)) ||| (w7.toInt64.toBitVec &&& (255 : Int64).toBitVec)).getLsbD i = _
  simp only [BitVec.getLsbD_or, BitVec.getLsbD_shiftLeft, BitVec.getLsbD_and]
  rw [own_255l i hi, own_255l (i - 48) (by omega), own_255l (i - 40) (by omega), own_255l (i - 32) (by omega), own_255l (i - 24) (by omega), own_255l (i - 16) (by omega), own_255l (i - 8) (by omega)]
  by_cases c8 : i < 8
  · rw [own_w w7 (show i < 32 by omega)]; simp [hi, show i < 8 by omega, show i < 16 by omega, show i < 24 by omega, show i < 32 by omega, show i < 40 by omega, show i < 48 by omega, show i < 56 by omega, show i - 48 < 8 by omega, show i - 40 < 8 by omega, show i - 32 < 8 by omega, show i - 24 < 8 by omega, show i - 16 < 8 by omega, show i - 8 < 8 by omega]
  by_cases c16 : i < 16
  · rw [own_w w6 (show i - 8 < 32 by omega)]; simp [hi, show ¬ i < 8 by omega, show i < 16 by omega, show i < 24 by omega, show i < 32 by omega, show i < 40 by omega, show i < 48 by omega, show i < 56 by omega, show i - 48 < 8 by omega, show i - 40 < 8 by omega, show i - 32 < 8 by omega, show i - 24 < 8 by omega, show i - 16 < 8 by omega, show i - 8 < 8 by omega]
  by_cases c24 : i < 24
  · rw [own_w w5 (show i - 16 < 32 by omega)]; simp [hi, show ¬ i < 8 by omega, show ¬ i < 16 by omega, show i < 24 by omega, show i < 32 by omega, show i < 40 by omega, show i < 48 by omega, show i < 56 by omega, show i - 48 < 8 by omega, show i - 40 < 8 by omega, show i - 32 < 8 by omega, show i - 24 < 8 by omega, show i - 16 < 8 by omega, show ¬ i - 8 < 8 by omega]
  by_cases c32 : i < 32
  · rw [own_w w4 (show i - 24 < 32 by omega)]; simp [hi, show ¬ i < 8 by omega, show ¬ i < 16 by omega, show ¬ i < 24 by omega, show i < 32 by omega, show i < 40 by omega, show i < 48 by omega, show i < 56 by omega, show i - 48 < 8 by omega, show i - 40 < 8 by omega, show i - 32 < 8 by omega, show i - 24 < 8 by omega, show ¬ i - 16 < 8 by omega, show ¬ i - 8 < 8 by omega]
  by_cases c40 : i < 40
  · rw [own_w w3 (show i - 32 < 32 by omega)]; simp [hi, show ¬ i < 8 by omega, show ¬ i < 16 by omega, show ¬ i < 24 by omega, show ¬ i < 32 by omega, show i < 40 by omega, show i < 48 by omega, show i < 56 by omega, show i - 48 < 8 by omega, show i - 40 < 8 by omega, show i - 32 < 8 by omega, show ¬ i - 24 < 8 by omega, show ¬ i - 16 < 8 by omega, show ¬ i - 8 < 8 by omega]
  by_cases c48 : i < 48
  · rw [own_w w2 (show i - 40 < 32 by omega)]; simp [hi, show ¬ i < 8 by omega, show ¬ i < 16 by omega, show ¬ i < 24 by omega, show ¬ i < 32 by omega, show ¬ i < 40 by omega, show i < 48 by omega, show i < 56 by omega, show i - 48 < 8 by omega, show i - 40 < 8 by omega, show ¬ i - 32 < 8 by omega, show ¬ i - 24 < 8 by omega, show ¬ i - 16 < 8 by omega, show ¬ i - 8 < 8 by omega]
  by_cases c56 : i < 56
  · rw [own_w w1 (show i - 48 < 32 by omega)]; simp [hi, show ¬ i < 8 by omega, show ¬ i < 16 by omega, show ¬ i < 24 by omega, show ¬ i < 32 by omega, show ¬ i < 40 by omega, show ¬ i < 48 by omega, show i < 56 by omega, show i - 48 < 8 by omega, show ¬ i - 40 < 8 by omega, show ¬ i - 32 < 8 by omega, show ¬ i - 24 < 8 by omega, show ¬ i - 16 < 8 by omega, show ¬ i - 8 < 8 by omega]
  rw [own_w w0 (show i - 56 < 32 by omega)]; simp [hi, show ¬ i < 8 by omega, show ¬ i < 16 by omega, show ¬ i < 24 by omega, show ¬ i < 32 by omega, show ¬ i < 40 by omega, show ¬ i < 48 by omega, show ¬ i < 56 by omega, show ¬ i - 48 < 8 by omega, show ¬ i - 40 < 8 by omega, show ¬ i - 32 < 8 by omega, show ¬ i - 24 < 8 by omega, show ¬ i - 16 < 8 by omega, show ¬ i - 8 < 8 by omega]
theorem own_lt12 {i : Nat} (h : i < 12) : i = 0 ∨ i = 1 ∨ i = 2 ∨ i = 3 ∨ i = 4 ∨ i = 5 ∨ i = 6 ∨ i = 7 ∨ i = 8 ∨ i = 9 ∨ i = 10 ∨ i = 11 := by omega
theorem own_and3 (p : Int32) : (p &&& (3 : Int32)) = 0 ∨ (p &&& (3 : Int32)) = 1 ∨ (p &&& (3 : Int32)) = 2 ∨ (p &&& (3 : Int32)) = 3 := by
  have h1 : (p &&& (3 : Int32)).toInt = p.toInt % 2 ^ 2 := Jvm.Kit.i32_mask p 3 (k := 2) (by decide) (by decide)
  generalize (p &&& (3 : Int32)) = r at *
  have h3 : r.toInt = 0 ∨ r.toInt = 1 ∨ r.toInt = 2 ∨ r.toInt = 3 := by omega
  rcases h3 with h | h | h | h
  · exact Or.inl (Int32.toInt_inj.mp h)
  · exact Or.inr (Or.inl (Int32.toInt_inj.mp h))
  · exact Or.inr (Or.inr (Or.inl (Int32.toInt_inj.mp h)))
  · exact Or.inr (Or.inr (Or.inr (Int32.toInt_inj.mp h)))
def own_C (q : Int32) (k : Nat) : Prop := (q = 0 ∧ k = 0) ∨ (q = 1 ∧ k = 1) ∨ (q = 2 ∧ k = 2) ∨ (q = 3 ∧ k = 3)
theorem own_at (p : Int32) : ∃ (q : Int32) (k : Nat), (p &&& (3 : Int32)) = q ∧ own_C q k ∧ Ix q k 12 ∧ Ix (q + 1) (k + 1) 12 ∧ Ix (q + 2) (k + 2) 12 ∧ Ix (q + 3) (k + 3) 12 ∧ Ix (q + 4) (k + 4) 12 ∧ Ix (q + 5) (k + 5) 12 ∧ Ix (q + 6) (k + 6) 12 ∧ Ix (q + 7) (k + 7) 12 ∧ Ix (q + 4 + 1) (k + 4 + 1) 12 ∧ Ix (q + 4 + 2) (k + 4 + 2) 12 ∧ Ix (q + 4 + 3) (k + 4 + 3) 12 := by
  rcases own_and3 p with h | h | h | h <;> rw [h]
  · exact ⟨_, 0, rfl, by simp [own_C], ⟨by decide, by decide, by decide⟩, ⟨by decide, by decide, by decide⟩, ⟨by decide, by decide, by decide⟩, ⟨by decide, by decide, by decide⟩, ⟨by decide, by decide, by decide⟩, ⟨by decide, by decide, by decide⟩, ⟨by decide, by decide, by decide⟩, ⟨by decide, by decide, by decide⟩, ⟨by decide, by decide, by decide⟩, ⟨by decide, by decide, by decide⟩, ⟨by decide, by decide, by decide⟩⟩
  · exact ⟨_, 1, rfl, by simp [own_C], ⟨by decide, by decide, by decide⟩, ⟨by decide, by decide, by decide⟩, ⟨by decide, by decide, by decide⟩, ⟨by decide, by decide, by decide⟩, ⟨by decide, by decide, by decide⟩, ⟨by decide, by decide, by decide⟩, ⟨by decide, by decide, by decide⟩, ⟨by decide, by decide, by decide⟩, ⟨by decide, by decide, by decide⟩, ⟨by decide, by decide, by decide⟩, ⟨by decide, by decide, by decide⟩⟩
  · exact ⟨_, 2, rfl, by simp [own_C], ⟨by decide, by decide, by decide⟩, ⟨by decide, by decide, by decide⟩, ⟨by decide, by decide, by decide⟩, ⟨by decide, by decide, by decide⟩, ⟨by decide, by decide, by decide⟩, ⟨by decide, by decide, by decide⟩, ⟨by decide, by decide, by decide⟩, ⟨by decide, by decide, by decide⟩, ⟨by decide, by decide, by decide⟩, ⟨by decide, by decide, by decide⟩, ⟨by decide, by decide, by decide⟩⟩
  · exact ⟨_, 3, rfl, by simp [own_C], ⟨by decide, by decide, by decide⟩, ⟨by decide, by decide, by decide⟩, ⟨by decide, by decide, by decide⟩, ⟨by decide, by decide, by decide⟩, ⟨by decide, by decide, by decide⟩, ⟨by decide, by decide, by decide⟩, ⟨by decide, by decide, by decide⟩, ⟨by decide, by decide, by decide⟩, ⟨by decide, by decide, by decide⟩, ⟨by decide, by decide, by decide⟩, ⟨by decide, by decide, by decide⟩⟩
theorem own_keep (v : Int64) (fill : Int32) {q : Int32} {k : Nat} (hc : own_C q k) : ∀ i, i < 12 → ∃ w, (fun i => if i = k + 7 then .int (own_b7 v) else if i = k + 6 then .int (own_b6 v) else if i = k + 5 then .int (own_b5 v) else if i = k + 4 then .int (own_b4 v) else if i = k + 3 then .int (own_b3 v) else if i = k + 2 then .int (own_b2 v) else if i = k + 1 then .int (own_b1 v) else if i = k then .int (own_b0 v) else (Value.int (own_sent fill (Int32.ofNat i)))) i = .int w ∧ ((Int32.ofNat i < q ∨ ¬ Int32.ofNat i < q + 8) → w = own_sent fill (Int32.ofNat i)) := by
  intro i hi
  rcases hc with ⟨rfl, rfl⟩ | ⟨rfl, rfl⟩ | ⟨rfl, rfl⟩ | ⟨rfl, rfl⟩
  · rcases own_lt12 hi with rfl | rfl | rfl | rfl | rfl | rfl | rfl | rfl | rfl | rfl | rfl | rfl
    · exact ⟨_, rfl, fun h => absurd h (by decide)⟩
    · exact ⟨_, rfl, fun h => absurd h (by decide)⟩
    · exact ⟨_, rfl, fun h => absurd h (by decide)⟩
    · exact ⟨_, rfl, fun h => absurd h (by decide)⟩
    · exact ⟨_, rfl, fun h => absurd h (by decide)⟩
    · exact ⟨_, rfl, fun h => absurd h (by decide)⟩
    · exact ⟨_, rfl, fun h => absurd h (by decide)⟩
    · exact ⟨_, rfl, fun h => absurd h (by decide)⟩
    · exact ⟨_, rfl, fun _ => rfl⟩
    · exact ⟨_, rfl, fun _ => rfl⟩
    · exact ⟨_, rfl, fun _ => rfl⟩
    · exact ⟨_, rfl, fun _ => rfl⟩
  · rcases own_lt12 hi with rfl | rfl | rfl | rfl | rfl | rfl | rfl | rfl | rfl | rfl | rfl | rfl
    · exact ⟨_, rfl, fun _ => rfl⟩
    · exact ⟨_, rfl, fun h => absurd h (by decide)⟩
    · exact ⟨_, rfl, fun h => absurd h (by decide)⟩
    · exact ⟨_, rfl, fun h => absurd h (by decide)⟩
    · exact ⟨_, rfl, fun h => absurd h (by decide)⟩
    · exact ⟨_, rfl, fun h => absurd h (by decide)⟩
    · exact ⟨_, rfl, fun h => absurd h (by decide)⟩
    · exact ⟨_, rfl, fun h => absurd h (by decide)⟩
    · exact ⟨_, rfl, fun h => absurd h (by decide)⟩
    · exact ⟨_, rfl, fun _ => rfl⟩
    · exact ⟨_, rfl, fun _ => rfl⟩
    · exact ⟨_, rfl, fun _ => rfl⟩
  · rcases own_lt12 hi with rfl | rfl | rfl | rfl | rfl | rfl | rfl | rfl | rfl | rfl | rfl | rfl
    · exact ⟨_, rfl, fun _ => rfl⟩
    · exact ⟨_, rfl, fun _ => rfl⟩
    · exact ⟨_, rfl, fun h => absurd h (by decide)⟩
    · exact ⟨_, rfl, fun h => absurd h (by decide)⟩
    · exact ⟨_, rfl, fun h => absurd h (by decide)⟩
    · exact ⟨_, rfl, fun h => absurd h (by decide)⟩
    · exact ⟨_, rfl, fun h => absurd h (by decide)⟩
    · exact ⟨_, rfl, fun h => absurd h (by decide)⟩
    · exact ⟨_, rfl, fun h => absurd h (by decide)⟩
    · exact ⟨_, rfl, fun h => absurd h (by decide)⟩
    · exact ⟨_, rfl, fun _ => rfl⟩
    · exact ⟨_, rfl, fun _ => rfl⟩
  · rcases own_lt12 hi with rfl | rfl | rfl | rfl | rfl | rfl | rfl | rfl | rfl | rfl | rfl | rfl
    · exact ⟨_, rfl, fun _ => rfl⟩
    · exact ⟨_, rfl, fun _ => rfl⟩
    · exact ⟨_, rfl, fun _ => rfl⟩
    · exact ⟨_, rfl, fun h => absurd h (by decide)⟩
    · exact ⟨_, rfl, fun h => absurd h (by decide)⟩
    · exact ⟨_, rfl, fun h => absurd h (by decide)⟩
    · exact ⟨_, rfl, fun h => absurd h (by decide)⟩
    · exact ⟨_, rfl, fun h => absurd h (by decide)⟩
    · exact ⟨_, rfl, fun h => absurd h (by decide)⟩
    · exact ⟨_, rfl, fun h => absurd h (by decide)⟩
    · exact ⟨_, rfl, fun h => absurd h (by decide)⟩
    · exact ⟨_, rfl, fun _ => rfl⟩
theorem own_fill (p3 : Int32) : ∀ i, i < 12 → (fun i => if i = 11 then Value.int (own_sent p3 (11 : Int32)).toInt8.toInt32 else if i = 10 then Value.int (own_sent p3 (10 : Int32)).toInt8.toInt32 else if i = 9 then Value.int (own_sent p3 (9 : Int32)).toInt8.toInt32 else if i = 8 then Value.int (own_sent p3 (8 : Int32)).toInt8.toInt32 else if i = 7 then Value.int (own_sent p3 (7 : Int32)).toInt8.toInt32 else if i = 6 then Value.int (own_sent p3 (6 : Int32)).toInt8.toInt32 else if i = 5 then Value.int (own_sent p3 (5 : Int32)).toInt8.toInt32 else if i = 4 then Value.int (own_sent p3 (4 : Int32)).toInt8.toInt32 else if i = 3 then Value.int (own_sent p3 (3 : Int32)).toInt8.toInt32 else if i = 2 then Value.int (own_sent p3 (2 : Int32)).toInt8.toInt32 else if i = 1 then Value.int (own_sent p3 (1 : Int32)).toInt8.toInt32 else if i = 0 then Value.int (own_sent p3 (0 : Int32)).toInt8.toInt32 else Value.int (0 : Int32)) i = (Value.int (own_sent p3 (Int32.ofNat i))) := by
  intro i hi
  rcases own_lt12 hi with rfl | rfl | rfl | rfl | rfl | rfl | rfl | rfl | rfl | rfl | rfl | rfl <;> exact congrArg Value.int (own_nn _)
theorem own_pl (v : Int64) : own_getl (own_b0 v) (own_b1 v) (own_b2 v) (own_b3 v) (own_b4 v) (own_b5 v) (own_b6 v) (own_b7 v) = v := by
  apply own_ext64
  intro i hi
  rw [own_getl_bit _ _ _ _ _ _ _ _ hi]
  by_cases c8 : i < 8
  · rw [if_pos c8]; unfold own_b7; rw [own_nb2 _ (by omega), own_lo32 _ (by omega)]
  rw [if_neg c8]
  by_cases c16 : i < 16
  · rw [if_pos c16]; unfold own_b6; rw [own_nb2 _ (by omega), own_lo32 _ (by omega)]; exact own_usl (s := 8) rfl (by omega)
  rw [if_neg c16]
  by_cases c24 : i < 24
  · rw [if_pos c24]; unfold own_b5; rw [own_nb2 _ (by omega), own_lo32 _ (by omega)]; exact own_usl (s := 16) rfl (by omega)
  rw [if_neg c24]
  by_cases c32 : i < 32
  · rw [if_pos c32]; unfold own_b4; rw [own_nb2 _ (by omega), own_lo32 _ (by omega)]; exact own_usl (s := 24) rfl (by omega)
  rw [if_neg c32]
  by_cases c40 : i < 40
  · rw [if_pos c40]; unfold own_b3; rw [own_nb2 _ (by omega), own_lo32 _ (by omega)]; exact own_usl (s := 32) rfl (by omega)
  rw [if_neg c40]
  by_cases c48 : i < 48
  · rw [if_pos c48]; unfold own_b2; rw [own_nb2 _ (by omega), own_lo32 _ (by omega)]; exact own_usl (s := 40) rfl (by omega)
  rw [if_neg c48]
  by_cases c56 : i < 56
  · rw [if_pos c56]; unfold own_b1; rw [own_nb2 _ (by omega), own_lo32 _ (by omega)]; exact own_usl (s := 48) rfl (by omega)
  rw [if_neg c56]
  unfold own_b0; rw [own_nb2 _ (by omega), own_lo32 _ (by omega)]; exact own_usl (s := 56) rfl (by omega)
theorem own_pi1 (v : Int64) : own_get (own_b0 v) (own_b1 v) (own_b2 v) (own_b3 v) = (((v.toUInt64 >>> ((32 : Int32) &&& 0x3f).toInt64.toUInt64).toInt64).toInt32) := by
  apply own_ext32
  intro i hi
  rw [own_get_bit _ _ _ _ hi, own_lo32 _ hi, own_usl (x := v) (s := 32) rfl rfl]
  by_cases c8 : i < 8
  · rw [if_pos c8]; unfold own_b3; rw [own_nb2 _ (by omega), own_lo32 _ (by omega)]; exact own_usl (s := 32) rfl (by omega)
  rw [if_neg c8]
  by_cases c16 : i < 16
  · rw [if_pos c16]; unfold own_b2; rw [own_nb2 _ (by omega), own_lo32 _ (by omega)]; exact own_usl (s := 40) rfl (by omega)
  rw [if_neg c16]
  by_cases c24 : i < 24
  · rw [if_pos c24]; unfold own_b1; rw [own_nb2 _ (by omega), own_lo32 _ (by omega)]; exact own_usl (s := 48) rfl (by omega)
  rw [if_neg c24]
  unfold own_b0; rw [own_nb2 _ (by omega), own_lo32 _ (by omega)]; exact own_usl (s := 56) rfl (by omega)
theorem own_pi2 (v : Int64) : own_get (own_b4 v) (own_b5 v) (own_b6 v) (own_b7 v) = (v.toInt32) := by
  apply own_ext32
  intro i hi
  rw [own_get_bit _ _ _ _ hi, own_lo32 _ hi]
  by_cases c8 : i < 8
  · rw [if_pos c8]; unfold own_b7; rw [own_nb2 _ (by omega), own_lo32 _ (by omega)]
  rw [if_neg c8]
  by_cases c16 : i < 16
  · rw [if_pos c16]; unfold own_b6; rw [own_nb2 _ (by omega), own_lo32 _ (by omega)]; exact own_usl (s := 8) rfl (by omega)
  rw [if_neg c16]
  by_cases c24 : i < 24
  · rw [if_pos c24]; unfold own_b5; rw [own_nb2 _ (by omega), own_lo32 _ (by omega)]; exact own_usl (s := 16) rfl (by omega)
  rw [if_neg c24]
  unfold own_b4; rw [own_nb2 _ (by omega), own_lo32 _ (by omega)]; exact own_usl (s := 24) rfl (by omega)
theorem d1_0 : decode method_2_code 0 = .ok (.iload_n 0, 1) := by decide +kernel
theorem d1_1 : decode method_2_code 1 = .ok (.iload_n 1, 1) := by decide +kernel
theorem d1_2 : decode method_2_code 2 = .ok (.bipush 37, 2) := by decide +kernel
theorem d1_4 : decode method_2_code 4 = .ok (.imul, 1) := by decide +kernel
theorem d1_5 : decode method_2_code 5 = .ok (.iadd, 1) := by decide +kernel
theorem d1_6 : decode method_2_code 6 = .ok (.i2b, 1) := by decide +kernel
theorem d1_7 : decode method_2_code 7 = .ok (.ireturn, 1) := by decide +kernel
theorem pn_1 : plainName "wardlog/BytesPutLongPinLaw" = true := by first | (simp [plainName, overriddenIn]; done) | decide +kernel
theorem ef_1 (m : MethodId) (x0 : Int32) (x1 : Int32) : entryFrame m #[(.int x0), (.int x1)] 2 = mkF m 0 #[.val (.int x0), .val (.int x1)] [] := by first | (simp [entryFrame, mkF, argsToLocals, Value.category]; done) | rfl
set_option maxRecDepth 65536 in
set_option maxHeartbeats 40000000 in
theorem rm1 (l : Launch) (Z : State) (a0 : Array Value) (hw : ∀ d ∈ tables_1, d.before a0 Z = true) (p1 : Int32) (p2 : Int32) (h0 : Heap) (n0 : Nat) (Z0 : n0 ≤ h0.size)   :
    Does l Z (⟨"wardlog/BytesPutLongPinLaw", "sent", "(II)B"⟩ : MethodName) method_2_code 2 (some .byte) ({ frames := 0, cells := 0, slots := 0, locals := 0 } : Room) #[(.int p1), (.int p2)] h0 (fun v h L => v = some (.int (own_sent p1 p2)) ∧ Fr n0 L ∧ h = h0) := by
  refine Does.body (plainFor_of_name pn_1) ?_
  intro p e s m below meth c T0 X0 hx hZ hby hml hown hnm hret hlk e0
  replace hown : s.vm.findClass "wardlog/BytesPutLongPinLaw" = some m.cls := hown
  have N0 := Fr.nil n0
  refine Go.frame (ef_1 m p1 p2) ?_
  show Go _ _ _ _ T0 (mkF m 0 #[.val (.int p1), .val (.int p2)] [])
  refine Go.st (fun t k => XS.iloadN X0.here hx rfl (hb hby d1_0) rfl k) ?_
  show Go _ _ _ _ T0 (mkF m 1 #[.val (.int p1), .val (.int p2)] [(.int p1)])
  refine Go.st (fun t k => XS.iloadN X0.here hx rfl (hb hby d1_1) rfl k) ?_
  show Go _ _ _ _ T0 (mkF m 2 #[.val (.int p1), .val (.int p2)] [(.int p2), (.int p1)])
  refine Go.st (fun t k => XS.bipush X0.here hx rfl (hb hby d1_2) k) ?_
  show Go _ _ _ _ T0 (mkF m 4 #[.val (.int p1), .val (.int p2)] [(.int (37 : Int32)), (.int p2), (.int p1)])
  refine Go.st (fun t k => XS.imul X0.here hx rfl (hb hby d1_4) rfl k) ?_
  show Go _ _ _ _ T0 (mkF m 5 #[.val (.int p1), .val (.int p2)] [(.int (p2 * (37 : Int32))), (.int p1)])
  refine Go.st (fun t k => XS.iadd X0.here hx rfl (hb hby d1_5) rfl k) ?_
  show Go _ _ _ _ T0 (mkF m 6 #[.val (.int p1), .val (.int p2)] [(.int (p1 + (p2 * (37 : Int32))))])
  refine Go.st (fun t k => XS.i2b X0.here hx rfl (hb hby d1_6) rfl k) ?_
  show Go _ _ _ _ T0 (mkF m 7 #[.val (.int p1), .val (.int p2)] [(.int ((p1 + (p2 * (37 : Int32))).toInt8.toInt32))])
  exact goN X0 hx hret hlk (by simp) (hb hby d1_7) (by decide) (by decide) ⟨congrArg (fun z => some (Value.int z)) (own_nn _), N0, e0⟩
theorem d2_0 : decode prog_11_method_4_code 0 = .ok (.aload_n 0, 1) := by decide +kernel
theorem d2_1 : decode prog_11_method_4_code 1 = .ok (.iload_n 1, 1) := by decide +kernel
theorem d2_2 : decode prog_11_method_4_code 2 = .ok (.lload_n 2, 1) := by decide +kernel
theorem d2_3 : decode prog_11_method_4_code 3 = .ok (.bipush 56, 2) := by decide +kernel
theorem d2_5 : decode prog_11_method_4_code 5 = .ok (.lushr, 1) := by decide +kernel
theorem d2_6 : decode prog_11_method_4_code 6 = .ok (.l2i, 1) := by decide +kernel
theorem d2_7 : decode prog_11_method_4_code 7 = .ok (.i2b, 1) := by decide +kernel
theorem d2_8 : decode prog_11_method_4_code 8 = .ok (.bastore, 1) := by decide +kernel
theorem d2_9 : decode prog_11_method_4_code 9 = .ok (.aload_n 0, 1) := by decide +kernel
theorem d2_10 : decode prog_11_method_4_code 10 = .ok (.iload_n 1, 1) := by decide +kernel
theorem d2_11 : decode prog_11_method_4_code 11 = .ok (.iconst 1, 1) := by decide +kernel
theorem d2_12 : decode prog_11_method_4_code 12 = .ok (.iadd, 1) := by decide +kernel
theorem d2_13 : decode prog_11_method_4_code 13 = .ok (.lload_n 2, 1) := by decide +kernel
theorem d2_14 : decode prog_11_method_4_code 14 = .ok (.bipush 48, 2) := by decide +kernel
theorem d2_16 : decode prog_11_method_4_code 16 = .ok (.lushr, 1) := by decide +kernel
theorem d2_17 : decode prog_11_method_4_code 17 = .ok (.l2i, 1) := by decide +kernel
theorem d2_18 : decode prog_11_method_4_code 18 = .ok (.i2b, 1) := by decide +kernel
theorem d2_19 : decode prog_11_method_4_code 19 = .ok (.bastore, 1) := by decide +kernel
theorem d2_20 : decode prog_11_method_4_code 20 = .ok (.aload_n 0, 1) := by decide +kernel
theorem d2_21 : decode prog_11_method_4_code 21 = .ok (.iload_n 1, 1) := by decide +kernel
theorem d2_22 : decode prog_11_method_4_code 22 = .ok (.iconst 2, 1) := by decide +kernel
theorem d2_23 : decode prog_11_method_4_code 23 = .ok (.iadd, 1) := by decide +kernel
theorem d2_24 : decode prog_11_method_4_code 24 = .ok (.lload_n 2, 1) := by decide +kernel
theorem d2_25 : decode prog_11_method_4_code 25 = .ok (.bipush 40, 2) := by decide +kernel
theorem d2_27 : decode prog_11_method_4_code 27 = .ok (.lushr, 1) := by decide +kernel
theorem d2_28 : decode prog_11_method_4_code 28 = .ok (.l2i, 1) := by decide +kernel
theorem d2_29 : decode prog_11_method_4_code 29 = .ok (.i2b, 1) := by decide +kernel
theorem d2_30 : decode prog_11_method_4_code 30 = .ok (.bastore, 1) := by decide +kernel
theorem d2_31 : decode prog_11_method_4_code 31 = .ok (.aload_n 0, 1) := by decide +kernel
theorem d2_32 : decode prog_11_method_4_code 32 = .ok (.iload_n 1, 1) := by decide +kernel
theorem d2_33 : decode prog_11_method_4_code 33 = .ok (.iconst 3, 1) := by decide +kernel
theorem d2_34 : decode prog_11_method_4_code 34 = .ok (.iadd, 1) := by decide +kernel
theorem d2_35 : decode prog_11_method_4_code 35 = .ok (.lload_n 2, 1) := by decide +kernel
theorem d2_36 : decode prog_11_method_4_code 36 = .ok (.bipush 32, 2) := by decide +kernel
theorem d2_38 : decode prog_11_method_4_code 38 = .ok (.lushr, 1) := by decide +kernel
theorem d2_39 : decode prog_11_method_4_code 39 = .ok (.l2i, 1) := by decide +kernel
theorem d2_40 : decode prog_11_method_4_code 40 = .ok (.i2b, 1) := by decide +kernel
theorem d2_41 : decode prog_11_method_4_code 41 = .ok (.bastore, 1) := by decide +kernel
theorem d2_42 : decode prog_11_method_4_code 42 = .ok (.aload_n 0, 1) := by decide +kernel
theorem d2_43 : decode prog_11_method_4_code 43 = .ok (.iload_n 1, 1) := by decide +kernel
theorem d2_44 : decode prog_11_method_4_code 44 = .ok (.iconst 4, 1) := by decide +kernel
theorem d2_45 : decode prog_11_method_4_code 45 = .ok (.iadd, 1) := by decide +kernel
theorem d2_46 : decode prog_11_method_4_code 46 = .ok (.lload_n 2, 1) := by decide +kernel
theorem d2_47 : decode prog_11_method_4_code 47 = .ok (.bipush 24, 2) := by decide +kernel
theorem d2_49 : decode prog_11_method_4_code 49 = .ok (.lushr, 1) := by decide +kernel
theorem d2_50 : decode prog_11_method_4_code 50 = .ok (.l2i, 1) := by decide +kernel
theorem d2_51 : decode prog_11_method_4_code 51 = .ok (.i2b, 1) := by decide +kernel
theorem d2_52 : decode prog_11_method_4_code 52 = .ok (.bastore, 1) := by decide +kernel
theorem d2_53 : decode prog_11_method_4_code 53 = .ok (.aload_n 0, 1) := by decide +kernel
theorem d2_54 : decode prog_11_method_4_code 54 = .ok (.iload_n 1, 1) := by decide +kernel
theorem d2_55 : decode prog_11_method_4_code 55 = .ok (.iconst 5, 1) := by decide +kernel
theorem d2_56 : decode prog_11_method_4_code 56 = .ok (.iadd, 1) := by decide +kernel
theorem d2_57 : decode prog_11_method_4_code 57 = .ok (.lload_n 2, 1) := by decide +kernel
theorem d2_58 : decode prog_11_method_4_code 58 = .ok (.bipush 16, 2) := by decide +kernel
theorem d2_60 : decode prog_11_method_4_code 60 = .ok (.lushr, 1) := by decide +kernel
theorem d2_61 : decode prog_11_method_4_code 61 = .ok (.l2i, 1) := by decide +kernel
theorem d2_62 : decode prog_11_method_4_code 62 = .ok (.i2b, 1) := by decide +kernel
theorem d2_63 : decode prog_11_method_4_code 63 = .ok (.bastore, 1) := by decide +kernel
theorem d2_64 : decode prog_11_method_4_code 64 = .ok (.aload_n 0, 1) := by decide +kernel
theorem d2_65 : decode prog_11_method_4_code 65 = .ok (.iload_n 1, 1) := by decide +kernel
theorem d2_66 : decode prog_11_method_4_code 66 = .ok (.bipush 6, 2) := by decide +kernel
theorem d2_68 : decode prog_11_method_4_code 68 = .ok (.iadd, 1) := by decide +kernel
theorem d2_69 : decode prog_11_method_4_code 69 = .ok (.lload_n 2, 1) := by decide +kernel
theorem d2_70 : decode prog_11_method_4_code 70 = .ok (.bipush 8, 2) := by decide +kernel
theorem d2_72 : decode prog_11_method_4_code 72 = .ok (.lushr, 1) := by decide +kernel
theorem d2_73 : decode prog_11_method_4_code 73 = .ok (.l2i, 1) := by decide +kernel
theorem d2_74 : decode prog_11_method_4_code 74 = .ok (.i2b, 1) := by decide +kernel
theorem d2_75 : decode prog_11_method_4_code 75 = .ok (.bastore, 1) := by decide +kernel
theorem d2_76 : decode prog_11_method_4_code 76 = .ok (.aload_n 0, 1) := by decide +kernel
theorem d2_77 : decode prog_11_method_4_code 77 = .ok (.iload_n 1, 1) := by decide +kernel
theorem d2_78 : decode prog_11_method_4_code 78 = .ok (.bipush 7, 2) := by decide +kernel
theorem d2_80 : decode prog_11_method_4_code 80 = .ok (.iadd, 1) := by decide +kernel
theorem d2_81 : decode prog_11_method_4_code 81 = .ok (.lload_n 2, 1) := by decide +kernel
theorem d2_82 : decode prog_11_method_4_code 82 = .ok (.l2i, 1) := by decide +kernel
theorem d2_83 : decode prog_11_method_4_code 83 = .ok (.i2b, 1) := by decide +kernel
theorem d2_84 : decode prog_11_method_4_code 84 = .ok (.bastore, 1) := by decide +kernel
theorem d2_85 : decode prog_11_method_4_code 85 = .ok (.iload_n 1, 1) := by decide +kernel
theorem d2_86 : decode prog_11_method_4_code 86 = .ok (.bipush 8, 2) := by decide +kernel
theorem d2_88 : decode prog_11_method_4_code 88 = .ok (.iadd, 1) := by decide +kernel
theorem d2_89 : decode prog_11_method_4_code 89 = .ok (.ireturn, 1) := by decide +kernel
theorem pn_2 : plainName "wardlog/Bytes" = true := by first | (simp [plainName, overriddenIn]; done) | decide +kernel
theorem ef_2 (m : MethodId) (x0 : Addr) (x1 : Int32) (x2 : Int64) : entryFrame m #[(.ref x0), (.int x1), (.long x2)] 4 = mkF m 0 #[.val (.ref x0), .val (.int x1), .val (.long x2), .second] [] := by first | (simp [entryFrame, mkF, argsToLocals, Value.category]; done) | rfl
set_option maxRecDepth 65536 in
set_option maxHeartbeats 40000000 in
theorem rm2 (l : Launch) (Z : State) (a0 : Array Value) (hw : ∀ d ∈ tables_1, d.before a0 Z = true) (a1 : Addr) (p2 : Int32) (q3 : Int64) (h0 : Heap) (n0 : Nat) (Z0 : n0 ≤ h0.size) (k n : Nat) (f : Nat → Value) (V_a1 : BA Z h0 a1 .byte n f) (g_a1 : n0 ≤ a1) (I0 : Ix p2 k n) (I1 : Ix (p2 + 1) (k + 1) n) (I2 : Ix (p2 + 2) (k + 2) n) (I3 : Ix (p2 + 3) (k + 3) n) (I4 : Ix (p2 + 4) (k + 4) n) (I5 : Ix (p2 + 5) (k + 5) n) (I6 : Ix (p2 + 6) (k + 6) n) (I7 : Ix (p2 + 7) (k + 7) n) :
    Does l Z (⟨"wardlog/Bytes", "putLong", "([BIJ)I"⟩ : MethodName) prog_11_method_4_code 4 (some .int) ({ frames := 0, cells := 0, slots := 0, locals := 0 } : Room) #[(.ref a1), (.int p2), (.long q3)] h0 (fun v h L => v = some (.int (p2 + (8 : Int32))) ∧ Fr n0 L ∧ Keep h0 h [a1] ∧ BA Z h a1 .byte n (fun i => if i = k + 7 then .int (own_b7 q3) else if i = k + 6 then .int (own_b6 q3) else if i = k + 5 then .int (own_b5 q3) else if i = k + 4 then .int (own_b4 q3) else if i = k + 3 then .int (own_b3 q3) else if i = k + 2 then .int (own_b2 q3) else if i = k + 1 then .int (own_b1 q3) else if i = k then .int (own_b0 q3) else f i)) := by
  refine Does.body (plainFor_of_name pn_2) ?_
  intro p e s m below meth c T0 X0 hx hZ hby hml hown hnm hret hlk e0
  replace hown : s.vm.findClass "wardlog/Bytes" = some m.cls := hown
  have N0 := Fr.nil n0
  refine Go.frame (ef_2 m a1 p2 q3) ?_
  have K0 : Keep h0 h0 [a1] := Keep.refl _ _
  show Go _ _ _ _ T0 (mkF m 0 #[.val (.ref a1), .val (.int p2), .val (.long q3), .second] [])
  refine Go.st (fun t k => XS.aloadN X0.here hx rfl (hb hby d2_0) rfl rfl k) ?_
  show Go _ _ _ _ T0 (mkF m 1 #[.val (.ref a1), .val (.int p2), .val (.long q3), .second] [(.ref a1)])
  refine Go.st (fun t k => XS.iloadN X0.here hx rfl (hb hby d2_1) rfl k) ?_
  show Go _ _ _ _ T0 (mkF m 2 #[.val (.ref a1), .val (.int p2), .val (.long q3), .second] [(.int p2), (.ref a1)])
  refine Go.st (fun t k => XS.lloadN X0.here hx rfl (hb hby d2_2) rfl k) ?_
  show Go _ _ _ _ T0 (mkF m 3 #[.val (.ref a1), .val (.int p2), .val (.long q3), .second] [(.long q3), (.int p2), (.ref a1)])
  refine Go.st (fun t k => XS.bipush X0.here hx rfl (hb hby d2_3) k) ?_
  show Go _ _ _ _ T0 (mkF m 5 #[.val (.ref a1), .val (.int p2), .val (.long q3), .second] [(.int (56 : Int32)), (.long q3), (.int p2), (.ref a1)])
  refine Go.st (fun t k => XS.lushr X0.here hx rfl (hb hby d2_5) rfl k) ?_
  show Go _ _ _ _ T0 (mkF m 6 #[.val (.ref a1), .val (.int p2), .val (.long q3), .second] [(.long ((q3.toUInt64 >>> ((56 : Int32) &&& 0x3f).toInt64.toUInt64).toInt64)), (.int p2), (.ref a1)])
  refine Go.st (fun t k => XS.l2i X0.here hx rfl (hb hby d2_6) rfl k) ?_
  show Go _ _ _ _ T0 (mkF m 7 #[.val (.ref a1), .val (.int p2), .val (.long q3), .second] [(.int (((q3.toUInt64 >>> ((56 : Int32) &&& 0x3f).toInt64.toUInt64).toInt64).toInt32)), (.int p2), (.ref a1)])
  refine Go.st (fun t k => XS.i2b X0.here hx rfl (hb hby d2_7) rfl k) ?_
  show Go _ _ _ _ T0 (mkF m 8 #[.val (.ref a1), .val (.int p2), .val (.long q3), .second] [(.int ((((q3.toUInt64 >>> ((56 : Int32) &&& 0x3f).toInt64.toUInt64).toInt64).toInt32).toInt8.toInt32)), (.int p2), (.ref a1)])
  refine goStB X0 hx hZ e0 N0 V_a1 g_a1 (g := (mkF m 8 #[.val (.ref a1), .val (.int p2), .val (.long q3), .second] [(.int ((((q3.toUInt64 >>> ((56 : Int32) &&& 0x3f).toInt64.toUInt64).toInt64).toInt32).toInt8.toInt32)), (.int p2), (.ref a1)])) rfl rfl (hb hby d2_8) I0 ?_
  intro T1 h1 L1 X1 e1 N1 W1 V_a1
  have Z1 := own_sz W1 Z0
  have K0 := K0.wr W1 (Or.inl (List.mem_of_getElem? (i := 0) rfl))
  show Go _ _ _ _ T1 (mkF m 9 #[.val (.ref a1), .val (.int p2), .val (.long q3), .second] [])
  refine Go.st (fun t k => XS.aloadN X1.here hx rfl (hb hby d2_9) rfl rfl k) ?_
  show Go _ _ _ _ T1 (mkF m 10 #[.val (.ref a1), .val (.int p2), .val (.long q3), .second] [(.ref a1)])
  refine Go.st (fun t k => XS.iloadN X1.here hx rfl (hb hby d2_10) rfl k) ?_
  show Go _ _ _ _ T1 (mkF m 11 #[.val (.ref a1), .val (.int p2), .val (.long q3), .second] [(.int p2), (.ref a1)])
  refine Go.st (fun t k => XS.iconst X1.here hx rfl (hb hby d2_11) k) ?_
  show Go _ _ _ _ T1 (mkF m 12 #[.val (.ref a1), .val (.int p2), .val (.long q3), .second] [(.int (1 : Int32)), (.int p2), (.ref a1)])
  refine Go.st (fun t k => XS.iadd X1.here hx rfl (hb hby d2_12) rfl k) ?_
  show Go _ _ _ _ T1 (mkF m 13 #[.val (.ref a1), .val (.int p2), .val (.long q3), .second] [(.int (p2 + (1 : Int32))), (.ref a1)])
  refine Go.st (fun t k => XS.lloadN X1.here hx rfl (hb hby d2_13) rfl k) ?_
  show Go _ _ _ _ T1 (mkF m 14 #[.val (.ref a1), .val (.int p2), .val (.long q3), .second] [(.long q3), (.int (p2 + (1 : Int32))), (.ref a1)])
  refine Go.st (fun t k => XS.bipush X1.here hx rfl (hb hby d2_14) k) ?_
  show Go _ _ _ _ T1 (mkF m 16 #[.val (.ref a1), .val (.int p2), .val (.long q3), .second] [(.int (48 : Int32)), (.long q3), (.int (p2 + (1 : Int32))), (.ref a1)])
  refine Go.st (fun t k => XS.lushr X1.here hx rfl (hb hby d2_16) rfl k) ?_
  show Go _ _ _ _ T1 (mkF m 17 #[.val (.ref a1), .val (.int p2), .val (.long q3), .second] [(.long ((q3.toUInt64 >>> ((48 : Int32) &&& 0x3f).toInt64.toUInt64).toInt64)), (.int (p2 + (1 : Int32))), (.ref a1)])
  refine Go.st (fun t k => XS.l2i X1.here hx rfl (hb hby d2_17) rfl k) ?_
  show Go _ _ _ _ T1 (mkF m 18 #[.val (.ref a1), .val (.int p2), .val (.long q3), .second] [(.int (((q3.toUInt64 >>> ((48 : Int32) &&& 0x3f).toInt64.toUInt64).toInt64).toInt32)), (.int (p2 + (1 : Int32))), (.ref a1)])
  refine Go.st (fun t k => XS.i2b X1.here hx rfl (hb hby d2_18) rfl k) ?_
  show Go _ _ _ _ T1 (mkF m 19 #[.val (.ref a1), .val (.int p2), .val (.long q3), .second] [(.int ((((q3.toUInt64 >>> ((48 : Int32) &&& 0x3f).toInt64.toUInt64).toInt64).toInt32).toInt8.toInt32)), (.int (p2 + (1 : Int32))), (.ref a1)])
  refine goStB X1 hx hZ e1 N1 V_a1 g_a1 (g := (mkF m 19 #[.val (.ref a1), .val (.int p2), .val (.long q3), .second] [(.int ((((q3.toUInt64 >>> ((48 : Int32) &&& 0x3f).toInt64.toUInt64).toInt64).toInt32).toInt8.toInt32)), (.int (p2 + (1 : Int32))), (.ref a1)])) rfl rfl (hb hby d2_19) I1 ?_
  intro T2 h2 L2 X2 e2 N2 W2 V_a1
  have Z2 := own_sz W2 Z1
  have K0 := K0.wr W2 (Or.inl (List.mem_of_getElem? (i := 0) rfl))
  show Go _ _ _ _ T2 (mkF m 20 #[.val (.ref a1), .val (.int p2), .val (.long q3), .second] [])
  refine Go.st (fun t k => XS.aloadN X2.here hx rfl (hb hby d2_20) rfl rfl k) ?_
  show Go _ _ _ _ T2 (mkF m 21 #[.val (.ref a1), .val (.int p2), .val (.long q3), .second] [(.ref a1)])
  refine Go.st (fun t k => XS.iloadN X2.here hx rfl (hb hby d2_21) rfl k) ?_
  show Go _ _ _ _ T2 (mkF m 22 #[.val (.ref a1), .val (.int p2), .val (.long q3), .second] [(.int p2), (.ref a1)])
  refine Go.st (fun t k => XS.iconst X2.here hx rfl (hb hby d2_22) k) ?_
  show Go _ _ _ _ T2 (mkF m 23 #[.val (.ref a1), .val (.int p2), .val (.long q3), .second] [(.int (2 : Int32)), (.int p2), (.ref a1)])
  refine Go.st (fun t k => XS.iadd X2.here hx rfl (hb hby d2_23) rfl k) ?_
  show Go _ _ _ _ T2 (mkF m 24 #[.val (.ref a1), .val (.int p2), .val (.long q3), .second] [(.int (p2 + (2 : Int32))), (.ref a1)])
  refine Go.st (fun t k => XS.lloadN X2.here hx rfl (hb hby d2_24) rfl k) ?_
  show Go _ _ _ _ T2 (mkF m 25 #[.val (.ref a1), .val (.int p2), .val (.long q3), .second] [(.long q3), (.int (p2 + (2 : Int32))), (.ref a1)])
  refine Go.st (fun t k => XS.bipush X2.here hx rfl (hb hby d2_25) k) ?_
  show Go _ _ _ _ T2 (mkF m 27 #[.val (.ref a1), .val (.int p2), .val (.long q3), .second] [(.int (40 : Int32)), (.long q3), (.int (p2 + (2 : Int32))), (.ref a1)])
  refine Go.st (fun t k => XS.lushr X2.here hx rfl (hb hby d2_27) rfl k) ?_
  show Go _ _ _ _ T2 (mkF m 28 #[.val (.ref a1), .val (.int p2), .val (.long q3), .second] [(.long ((q3.toUInt64 >>> ((40 : Int32) &&& 0x3f).toInt64.toUInt64).toInt64)), (.int (p2 + (2 : Int32))), (.ref a1)])
  refine Go.st (fun t k => XS.l2i X2.here hx rfl (hb hby d2_28) rfl k) ?_
  show Go _ _ _ _ T2 (mkF m 29 #[.val (.ref a1), .val (.int p2), .val (.long q3), .second] [(.int (((q3.toUInt64 >>> ((40 : Int32) &&& 0x3f).toInt64.toUInt64).toInt64).toInt32)), (.int (p2 + (2 : Int32))), (.ref a1)])
  refine Go.st (fun t k => XS.i2b X2.here hx rfl (hb hby d2_29) rfl k) ?_
  show Go _ _ _ _ T2 (mkF m 30 #[.val (.ref a1), .val (.int p2), .val (.long q3), .second] [(.int ((((q3.toUInt64 >>> ((40 : Int32) &&& 0x3f).toInt64.toUInt64).toInt64).toInt32).toInt8.toInt32)), (.int (p2 + (2 : Int32))), (.ref a1)])
  refine goStB X2 hx hZ e2 N2 V_a1 g_a1 (g := (mkF m 30 #[.val (.ref a1), .val (.int p2), .val (.long q3), .second] [(.int ((((q3.toUInt64 >>> ((40 : Int32) &&& 0x3f).toInt64.toUInt64).toInt64).toInt32).toInt8.toInt32)), (.int (p2 + (2 : Int32))), (.ref a1)])) rfl rfl (hb hby d2_30) I2 ?_
  intro T3 h3 L3 X3 e3 N3 W3 V_a1
  have Z3 := own_sz W3 Z2
  have K0 := K0.wr W3 (Or.inl (List.mem_of_getElem? (i := 0) rfl))
  show Go _ _ _ _ T3 (mkF m 31 #[.val (.ref a1), .val (.int p2), .val (.long q3), .second] [])
  refine Go.st (fun t k => XS.aloadN X3.here hx rfl (hb hby d2_31) rfl rfl k) ?_
  show Go _ _ _ _ T3 (mkF m 32 #[.val (.ref a1), .val (.int p2), .val (.long q3), .second] [(.ref a1)])
  refine Go.st (fun t k => XS.iloadN X3.here hx rfl (hb hby d2_32) rfl k) ?_
  show Go _ _ _ _ T3 (mkF m 33 #[.val (.ref a1), .val (.int p2), .val (.long q3), .second] [(.int p2), (.ref a1)])
  refine Go.st (fun t k => XS.iconst X3.here hx rfl (hb hby d2_33) k) ?_
  show Go _ _ _ _ T3 (mkF m 34 #[.val (.ref a1), .val (.int p2), .val (.long q3), .second] [(.int (3 : Int32)), (.int p2), (.ref a1)])
  refine Go.st (fun t k => XS.iadd X3.here hx rfl (hb hby d2_34) rfl k) ?_
  show Go _ _ _ _ T3 (mkF m 35 #[.val (.ref a1), .val (.int p2), .val (.long q3), .second] [(.int (p2 + (3 : Int32))), (.ref a1)])
  refine Go.st (fun t k => XS.lloadN X3.here hx rfl (hb hby d2_35) rfl k) ?_
  show Go _ _ _ _ T3 (mkF m 36 #[.val (.ref a1), .val (.int p2), .val (.long q3), .second] [(.long q3), (.int (p2 + (3 : Int32))), (.ref a1)])
  refine Go.st (fun t k => XS.bipush X3.here hx rfl (hb hby d2_36) k) ?_
  show Go _ _ _ _ T3 (mkF m 38 #[.val (.ref a1), .val (.int p2), .val (.long q3), .second] [(.int (32 : Int32)), (.long q3), (.int (p2 + (3 : Int32))), (.ref a1)])
  refine Go.st (fun t k => XS.lushr X3.here hx rfl (hb hby d2_38) rfl k) ?_
  show Go _ _ _ _ T3 (mkF m 39 #[.val (.ref a1), .val (.int p2), .val (.long q3), .second] [(.long ((q3.toUInt64 >>> ((32 : Int32) &&& 0x3f).toInt64.toUInt64).toInt64)), (.int (p2 + (3 : Int32))), (.ref a1)])
  refine Go.st (fun t k => XS.l2i X3.here hx rfl (hb hby d2_39) rfl k) ?_
  show Go _ _ _ _ T3 (mkF m 40 #[.val (.ref a1), .val (.int p2), .val (.long q3), .second] [(.int (((q3.toUInt64 >>> ((32 : Int32) &&& 0x3f).toInt64.toUInt64).toInt64).toInt32)), (.int (p2 + (3 : Int32))), (.ref a1)])
  refine Go.st (fun t k => XS.i2b X3.here hx rfl (hb hby d2_40) rfl k) ?_
  show Go _ _ _ _ T3 (mkF m 41 #[.val (.ref a1), .val (.int p2), .val (.long q3), .second] [(.int ((((q3.toUInt64 >>> ((32 : Int32) &&& 0x3f).toInt64.toUInt64).toInt64).toInt32).toInt8.toInt32)), (.int (p2 + (3 : Int32))), (.ref a1)])
  refine goStB X3 hx hZ e3 N3 V_a1 g_a1 (g := (mkF m 41 #[.val (.ref a1), .val (.int p2), .val (.long q3), .second] [(.int ((((q3.toUInt64 >>> ((32 : Int32) &&& 0x3f).toInt64.toUInt64).toInt64).toInt32).toInt8.toInt32)), (.int (p2 + (3 : Int32))), (.ref a1)])) rfl rfl (hb hby d2_41) I3 ?_
  intro T4 h4 L4 X4 e4 N4 W4 V_a1
  have Z4 := own_sz W4 Z3
  have K0 := K0.wr W4 (Or.inl (List.mem_of_getElem? (i := 0) rfl))
  show Go _ _ _ _ T4 (mkF m 42 #[.val (.ref a1), .val (.int p2), .val (.long q3), .second] [])
  refine Go.st (fun t k => XS.aloadN X4.here hx rfl (hb hby d2_42) rfl rfl k) ?_
  show Go _ _ _ _ T4 (mkF m 43 #[.val (.ref a1), .val (.int p2), .val (.long q3), .second] [(.ref a1)])
  refine Go.st (fun t k => XS.iloadN X4.here hx rfl (hb hby d2_43) rfl k) ?_
  show Go _ _ _ _ T4 (mkF m 44 #[.val (.ref a1), .val (.int p2), .val (.long q3), .second] [(.int p2), (.ref a1)])
  refine Go.st (fun t k => XS.iconst X4.here hx rfl (hb hby d2_44) k) ?_
  show Go _ _ _ _ T4 (mkF m 45 #[.val (.ref a1), .val (.int p2), .val (.long q3), .second] [(.int (4 : Int32)), (.int p2), (.ref a1)])
  refine Go.st (fun t k => XS.iadd X4.here hx rfl (hb hby d2_45) rfl k) ?_
  show Go _ _ _ _ T4 (mkF m 46 #[.val (.ref a1), .val (.int p2), .val (.long q3), .second] [(.int (p2 + (4 : Int32))), (.ref a1)])
  refine Go.st (fun t k => XS.lloadN X4.here hx rfl (hb hby d2_46) rfl k) ?_
  show Go _ _ _ _ T4 (mkF m 47 #[.val (.ref a1), .val (.int p2), .val (.long q3), .second] [(.long q3), (.int (p2 + (4 : Int32))), (.ref a1)])
  refine Go.st (fun t k => XS.bipush X4.here hx rfl (hb hby d2_47) k) ?_
  show Go _ _ _ _ T4 (mkF m 49 #[.val (.ref a1), .val (.int p2), .val (.long q3), .second] [(.int (24 : Int32)), (.long q3), (.int (p2 + (4 : Int32))), (.ref a1)])
  refine Go.st (fun t k => XS.lushr X4.here hx rfl (hb hby d2_49) rfl k) ?_
  show Go _ _ _ _ T4 (mkF m 50 #[.val (.ref a1), .val (.int p2), .val (.long q3), .second] [(.long ((q3.toUInt64 >>> ((24 : Int32) &&& 0x3f).toInt64.toUInt64).toInt64)), (.int (p2 + (4 : Int32))), (.ref a1)])
  refine Go.st (fun t k => XS.l2i X4.here hx rfl (hb hby d2_50) rfl k) ?_
  show Go _ _ _ _ T4 (mkF m 51 #[.val (.ref a1), .val (.int p2), .val (.long q3), .second] [(.int (((q3.toUInt64 >>> ((24 : Int32) &&& 0x3f).toInt64.toUInt64).toInt64).toInt32)), (.int (p2 + (4 : Int32))), (.ref a1)])
  refine Go.st (fun t k => XS.i2b X4.here hx rfl (hb hby d2_51) rfl k) ?_
  show Go _ _ _ _ T4 (mkF m 52 #[.val (.ref a1), .val (.int p2), .val (.long q3), .second] [(.int ((((q3.toUInt64 >>> ((24 : Int32) &&& 0x3f).toInt64.toUInt64).toInt64).toInt32).toInt8.toInt32)), (.int (p2 + (4 : Int32))), (.ref a1)])
  refine goStB X4 hx hZ e4 N4 V_a1 g_a1 (g := (mkF m 52 #[.val (.ref a1), .val (.int p2), .val (.long q3), .second] [(.int ((((q3.toUInt64 >>> ((24 : Int32) &&& 0x3f).toInt64.toUInt64).toInt64).toInt32).toInt8.toInt32)), (.int (p2 + (4 : Int32))), (.ref a1)])) rfl rfl (hb hby d2_52) I4 ?_
  intro T5 h5 L5 X5 e5 N5 W5 V_a1
  have Z5 := own_sz W5 Z4
  have K0 := K0.wr W5 (Or.inl (List.mem_of_getElem? (i := 0) rfl))
  show Go _ _ _ _ T5 (mkF m 53 #[.val (.ref a1), .val (.int p2), .val (.long q3), .second] [])
  refine Go.st (fun t k => XS.aloadN X5.here hx rfl (hb hby d2_53) rfl rfl k) ?_
  show Go _ _ _ _ T5 (mkF m 54 #[.val (.ref a1), .val (.int p2), .val (.long q3), .second] [(.ref a1)])
  refine Go.st (fun t k => XS.iloadN X5.here hx rfl (hb hby d2_54) rfl k) ?_
  show Go _ _ _ _ T5 (mkF m 55 #[.val (.ref a1), .val (.int p2), .val (.long q3), .second] [(.int p2), (.ref a1)])
  refine Go.st (fun t k => XS.iconst X5.here hx rfl (hb hby d2_55) k) ?_
  show Go _ _ _ _ T5 (mkF m 56 #[.val (.ref a1), .val (.int p2), .val (.long q3), .second] [(.int (5 : Int32)), (.int p2), (.ref a1)])
  refine Go.st (fun t k => XS.iadd X5.here hx rfl (hb hby d2_56) rfl k) ?_
  show Go _ _ _ _ T5 (mkF m 57 #[.val (.ref a1), .val (.int p2), .val (.long q3), .second] [(.int (p2 + (5 : Int32))), (.ref a1)])
  refine Go.st (fun t k => XS.lloadN X5.here hx rfl (hb hby d2_57) rfl k) ?_
  show Go _ _ _ _ T5 (mkF m 58 #[.val (.ref a1), .val (.int p2), .val (.long q3), .second] [(.long q3), (.int (p2 + (5 : Int32))), (.ref a1)])
  refine Go.st (fun t k => XS.bipush X5.here hx rfl (hb hby d2_58) k) ?_
  show Go _ _ _ _ T5 (mkF m 60 #[.val (.ref a1), .val (.int p2), .val (.long q3), .second] [(.int (16 : Int32)), (.long q3), (.int (p2 + (5 : Int32))), (.ref a1)])
  refine Go.st (fun t k => XS.lushr X5.here hx rfl (hb hby d2_60) rfl k) ?_
  show Go _ _ _ _ T5 (mkF m 61 #[.val (.ref a1), .val (.int p2), .val (.long q3), .second] [(.long ((q3.toUInt64 >>> ((16 : Int32) &&& 0x3f).toInt64.toUInt64).toInt64)), (.int (p2 + (5 : Int32))), (.ref a1)])
  refine Go.st (fun t k => XS.l2i X5.here hx rfl (hb hby d2_61) rfl k) ?_
  show Go _ _ _ _ T5 (mkF m 62 #[.val (.ref a1), .val (.int p2), .val (.long q3), .second] [(.int (((q3.toUInt64 >>> ((16 : Int32) &&& 0x3f).toInt64.toUInt64).toInt64).toInt32)), (.int (p2 + (5 : Int32))), (.ref a1)])
  refine Go.st (fun t k => XS.i2b X5.here hx rfl (hb hby d2_62) rfl k) ?_
  show Go _ _ _ _ T5 (mkF m 63 #[.val (.ref a1), .val (.int p2), .val (.long q3), .second] [(.int ((((q3.toUInt64 >>> ((16 : Int32) &&& 0x3f).toInt64.toUInt64).toInt64).toInt32).toInt8.toInt32)), (.int (p2 + (5 : Int32))), (.ref a1)])
  refine goStB X5 hx hZ e5 N5 V_a1 g_a1 (g := (mkF m 63 #[.val (.ref a1), .val (.int p2), .val (.long q3), .second] [(.int ((((q3.toUInt64 >>> ((16 : Int32) &&& 0x3f).toInt64.toUInt64).toInt64).toInt32).toInt8.toInt32)), (.int (p2 + (5 : Int32))), (.ref a1)])) rfl rfl (hb hby d2_63) I5 ?_
  intro T6 h6 L6 X6 e6 N6 W6 V_a1
  have Z6 := own_sz W6 Z5
  have K0 := K0.wr W6 (Or.inl (List.mem_of_getElem? (i := 0) rfl))
  show Go _ _ _ _ T6 (mkF m 64 #[.val (.ref a1), .val (.int p2), .val (.long q3), .second] [])
  refine Go.st (fun t k => XS.aloadN X6.here hx rfl (hb hby d2_64) rfl rfl k) ?_
  show Go _ _ _ _ T6 (mkF m 65 #[.val (.ref a1), .val (.int p2), .val (.long q3), .second] [(.ref a1)])
  refine Go.st (fun t k => XS.iloadN X6.here hx rfl (hb hby d2_65) rfl k) ?_
  show Go _ _ _ _ T6 (mkF m 66 #[.val (.ref a1), .val (.int p2), .val (.long q3), .second] [(.int p2), (.ref a1)])
  refine Go.st (fun t k => XS.bipush X6.here hx rfl (hb hby d2_66) k) ?_
  show Go _ _ _ _ T6 (mkF m 68 #[.val (.ref a1), .val (.int p2), .val (.long q3), .second] [(.int (6 : Int32)), (.int p2), (.ref a1)])
  refine Go.st (fun t k => XS.iadd X6.here hx rfl (hb hby d2_68) rfl k) ?_
  show Go _ _ _ _ T6 (mkF m 69 #[.val (.ref a1), .val (.int p2), .val (.long q3), .second] [(.int (p2 + (6 : Int32))), (.ref a1)])
  refine Go.st (fun t k => XS.lloadN X6.here hx rfl (hb hby d2_69) rfl k) ?_
  show Go _ _ _ _ T6 (mkF m 70 #[.val (.ref a1), .val (.int p2), .val (.long q3), .second] [(.long q3), (.int (p2 + (6 : Int32))), (.ref a1)])
  refine Go.st (fun t k => XS.bipush X6.here hx rfl (hb hby d2_70) k) ?_
  show Go _ _ _ _ T6 (mkF m 72 #[.val (.ref a1), .val (.int p2), .val (.long q3), .second] [(.int (8 : Int32)), (.long q3), (.int (p2 + (6 : Int32))), (.ref a1)])
  refine Go.st (fun t k => XS.lushr X6.here hx rfl (hb hby d2_72) rfl k) ?_
  show Go _ _ _ _ T6 (mkF m 73 #[.val (.ref a1), .val (.int p2), .val (.long q3), .second] [(.long ((q3.toUInt64 >>> ((8 : Int32) &&& 0x3f).toInt64.toUInt64).toInt64)), (.int (p2 + (6 : Int32))), (.ref a1)])
  refine Go.st (fun t k => XS.l2i X6.here hx rfl (hb hby d2_73) rfl k) ?_
  show Go _ _ _ _ T6 (mkF m 74 #[.val (.ref a1), .val (.int p2), .val (.long q3), .second] [(.int (((q3.toUInt64 >>> ((8 : Int32) &&& 0x3f).toInt64.toUInt64).toInt64).toInt32)), (.int (p2 + (6 : Int32))), (.ref a1)])
  refine Go.st (fun t k => XS.i2b X6.here hx rfl (hb hby d2_74) rfl k) ?_
  show Go _ _ _ _ T6 (mkF m 75 #[.val (.ref a1), .val (.int p2), .val (.long q3), .second] [(.int ((((q3.toUInt64 >>> ((8 : Int32) &&& 0x3f).toInt64.toUInt64).toInt64).toInt32).toInt8.toInt32)), (.int (p2 + (6 : Int32))), (.ref a1)])
  refine goStB X6 hx hZ e6 N6 V_a1 g_a1 (g := (mkF m 75 #[.val (.ref a1), .val (.int p2), .val (.long q3), .second] [(.int ((((q3.toUInt64 >>> ((8 : Int32) &&& 0x3f).toInt64.toUInt64).toInt64).toInt32).toInt8.toInt32)), (.int (p2 + (6 : Int32))), (.ref a1)])) rfl rfl (hb hby d2_75) I6 ?_
  intro T7 h7 L7 X7 e7 N7 W7 V_a1
  have Z7 := own_sz W7 Z6
  have K0 := K0.wr W7 (Or.inl (List.mem_of_getElem? (i := 0) rfl))
  show Go _ _ _ _ T7 (mkF m 76 #[.val (.ref a1), .val (.int p2), .val (.long q3), .second] [])
  refine Go.st (fun t k => XS.aloadN X7.here hx rfl (hb hby d2_76) rfl rfl k) ?_
  show Go _ _ _ _ T7 (mkF m 77 #[.val (.ref a1), .val (.int p2), .val (.long q3), .second] [(.ref a1)])
  refine Go.st (fun t k => XS.iloadN X7.here hx rfl (hb hby d2_77) rfl k) ?_
  show Go _ _ _ _ T7 (mkF m 78 #[.val (.ref a1), .val (.int p2), .val (.long q3), .second] [(.int p2), (.ref a1)])
  refine Go.st (fun t k => XS.bipush X7.here hx rfl (hb hby d2_78) k) ?_
  show Go _ _ _ _ T7 (mkF m 80 #[.val (.ref a1), .val (.int p2), .val (.long q3), .second] [(.int (7 : Int32)), (.int p2), (.ref a1)])
  refine Go.st (fun t k => XS.iadd X7.here hx rfl (hb hby d2_80) rfl k) ?_
  show Go _ _ _ _ T7 (mkF m 81 #[.val (.ref a1), .val (.int p2), .val (.long q3), .second] [(.int (p2 + (7 : Int32))), (.ref a1)])
  refine Go.st (fun t k => XS.lloadN X7.here hx rfl (hb hby d2_81) rfl k) ?_
  show Go _ _ _ _ T7 (mkF m 82 #[.val (.ref a1), .val (.int p2), .val (.long q3), .second] [(.long q3), (.int (p2 + (7 : Int32))), (.ref a1)])
  refine Go.st (fun t k => XS.l2i X7.here hx rfl (hb hby d2_82) rfl k) ?_
  show Go _ _ _ _ T7 (mkF m 83 #[.val (.ref a1), .val (.int p2), .val (.long q3), .second] [(.int (q3.toInt32)), (.int (p2 + (7 : Int32))), (.ref a1)])
  refine Go.st (fun t k => XS.i2b X7.here hx rfl (hb hby d2_83) rfl k) ?_
  show Go _ _ _ _ T7 (mkF m 84 #[.val (.ref a1), .val (.int p2), .val (.long q3), .second] [(.int ((q3.toInt32).toInt8.toInt32)), (.int (p2 + (7 : Int32))), (.ref a1)])
  refine goStB X7 hx hZ e7 N7 V_a1 g_a1 (g := (mkF m 84 #[.val (.ref a1), .val (.int p2), .val (.long q3), .second] [(.int ((q3.toInt32).toInt8.toInt32)), (.int (p2 + (7 : Int32))), (.ref a1)])) rfl rfl (hb hby d2_84) I7 ?_
  intro T8 h8 L8 X8 e8 N8 W8 V_a1
  have Z8 := own_sz W8 Z7
  have K0 := K0.wr W8 (Or.inl (List.mem_of_getElem? (i := 0) rfl))
  show Go _ _ _ _ T8 (mkF m 85 #[.val (.ref a1), .val (.int p2), .val (.long q3), .second] [])
  refine Go.st (fun t k => XS.iloadN X8.here hx rfl (hb hby d2_85) rfl k) ?_
  show Go _ _ _ _ T8 (mkF m 86 #[.val (.ref a1), .val (.int p2), .val (.long q3), .second] [(.int p2)])
  refine Go.st (fun t k => XS.bipush X8.here hx rfl (hb hby d2_86) k) ?_
  show Go _ _ _ _ T8 (mkF m 88 #[.val (.ref a1), .val (.int p2), .val (.long q3), .second] [(.int (8 : Int32)), (.int p2)])
  refine Go.st (fun t k => XS.iadd X8.here hx rfl (hb hby d2_88) rfl k) ?_
  show Go _ _ _ _ T8 (mkF m 89 #[.val (.ref a1), .val (.int p2), .val (.long q3), .second] [(.int (p2 + (8 : Int32)))])
  exact goI X8 hx hret hlk (hb hby d2_89) (by decide) (by decide) (by rw [e8]; exact ⟨rfl, N8, K0, V_a1⟩)
theorem d3_0 : decode prog_11_method_7_code 0 = .ok (.aload_n 0, 1) := by decide +kernel
theorem d3_1 : decode prog_11_method_7_code 1 = .ok (.iload_n 1, 1) := by decide +kernel
theorem d3_2 : decode prog_11_method_7_code 2 = .ok (.baload, 1) := by decide +kernel
theorem d3_3 : decode prog_11_method_7_code 3 = .ok (.i2l, 1) := by decide +kernel
theorem d3_4 : decode prog_11_method_7_code 4 = .ok (.bipush 56, 2) := by decide +kernel
theorem d3_6 : decode prog_11_method_7_code 6 = .ok (.lshl, 1) := by decide +kernel
theorem d3_7 : decode prog_11_method_7_code 7 = .ok (.aload_n 0, 1) := by decide +kernel
theorem d3_8 : decode prog_11_method_7_code 8 = .ok (.iload_n 1, 1) := by decide +kernel
theorem d3_9 : decode prog_11_method_7_code 9 = .ok (.iconst 1, 1) := by decide +kernel
theorem d3_10 : decode prog_11_method_7_code 10 = .ok (.iadd, 1) := by decide +kernel
theorem d3_11 : decode prog_11_method_7_code 11 = .ok (.baload, 1) := by decide +kernel
theorem d3_12 : decode prog_11_method_7_code 12 = .ok (.i2l, 1) := by decide +kernel
theorem d3_13 : decode prog_11_method_7_code 13 = .ok (.ldc2_w 13, 3) := by decide +kernel
theorem d3_16 : decode prog_11_method_7_code 16 = .ok (.land, 1) := by decide +kernel
theorem d3_17 : decode prog_11_method_7_code 17 = .ok (.bipush 48, 2) := by decide +kernel
theorem d3_19 : decode prog_11_method_7_code 19 = .ok (.lshl, 1) := by decide +kernel
theorem d3_20 : decode prog_11_method_7_code 20 = .ok (.lor, 1) := by decide +kernel
theorem d3_21 : decode prog_11_method_7_code 21 = .ok (.aload_n 0, 1) := by decide +kernel
theorem d3_22 : decode prog_11_method_7_code 22 = .ok (.iload_n 1, 1) := by decide +kernel
theorem d3_23 : decode prog_11_method_7_code 23 = .ok (.iconst 2, 1) := by decide +kernel
theorem d3_24 : decode prog_11_method_7_code 24 = .ok (.iadd, 1) := by decide +kernel
theorem d3_25 : decode prog_11_method_7_code 25 = .ok (.baload, 1) := by decide +kernel
theorem d3_26 : decode prog_11_method_7_code 26 = .ok (.i2l, 1) := by decide +kernel
theorem d3_27 : decode prog_11_method_7_code 27 = .ok (.ldc2_w 13, 3) := by decide +kernel
theorem d3_30 : decode prog_11_method_7_code 30 = .ok (.land, 1) := by decide +kernel
theorem d3_31 : decode prog_11_method_7_code 31 = .ok (.bipush 40, 2) := by decide +kernel
theorem d3_33 : decode prog_11_method_7_code 33 = .ok (.lshl, 1) := by decide +kernel
theorem d3_34 : decode prog_11_method_7_code 34 = .ok (.lor, 1) := by decide +kernel
theorem d3_35 : decode prog_11_method_7_code 35 = .ok (.aload_n 0, 1) := by decide +kernel
theorem d3_36 : decode prog_11_method_7_code 36 = .ok (.iload_n 1, 1) := by decide +kernel
theorem d3_37 : decode prog_11_method_7_code 37 = .ok (.iconst 3, 1) := by decide +kernel
theorem d3_38 : decode prog_11_method_7_code 38 = .ok (.iadd, 1) := by decide +kernel
theorem d3_39 : decode prog_11_method_7_code 39 = .ok (.baload, 1) := by decide +kernel
theorem d3_40 : decode prog_11_method_7_code 40 = .ok (.i2l, 1) := by decide +kernel
theorem d3_41 : decode prog_11_method_7_code 41 = .ok (.ldc2_w 13, 3) := by decide +kernel
theorem d3_44 : decode prog_11_method_7_code 44 = .ok (.land, 1) := by decide +kernel
theorem d3_45 : decode prog_11_method_7_code 45 = .ok (.bipush 32, 2) := by decide +kernel
theorem d3_47 : decode prog_11_method_7_code 47 = .ok (.lshl, 1) := by decide +kernel
theorem d3_48 : decode prog_11_method_7_code 48 = .ok (.lor, 1) := by decide +kernel
theorem d3_49 : decode prog_11_method_7_code 49 = .ok (.aload_n 0, 1) := by decide +kernel
theorem d3_50 : decode prog_11_method_7_code 50 = .ok (.iload_n 1, 1) := by decide +kernel
theorem d3_51 : decode prog_11_method_7_code 51 = .ok (.iconst 4, 1) := by decide +kernel
theorem d3_52 : decode prog_11_method_7_code 52 = .ok (.iadd, 1) := by decide +kernel
theorem d3_53 : decode prog_11_method_7_code 53 = .ok (.baload, 1) := by decide +kernel
theorem d3_54 : decode prog_11_method_7_code 54 = .ok (.i2l, 1) := by decide +kernel
theorem d3_55 : decode prog_11_method_7_code 55 = .ok (.ldc2_w 13, 3) := by decide +kernel
theorem d3_58 : decode prog_11_method_7_code 58 = .ok (.land, 1) := by decide +kernel
theorem d3_59 : decode prog_11_method_7_code 59 = .ok (.bipush 24, 2) := by decide +kernel
theorem d3_61 : decode prog_11_method_7_code 61 = .ok (.lshl, 1) := by decide +kernel
theorem d3_62 : decode prog_11_method_7_code 62 = .ok (.lor, 1) := by decide +kernel
theorem d3_63 : decode prog_11_method_7_code 63 = .ok (.aload_n 0, 1) := by decide +kernel
theorem d3_64 : decode prog_11_method_7_code 64 = .ok (.iload_n 1, 1) := by decide +kernel
theorem d3_65 : decode prog_11_method_7_code 65 = .ok (.iconst 5, 1) := by decide +kernel
theorem d3_66 : decode prog_11_method_7_code 66 = .ok (.iadd, 1) := by decide +kernel
theorem d3_67 : decode prog_11_method_7_code 67 = .ok (.baload, 1) := by decide +kernel
theorem d3_68 : decode prog_11_method_7_code 68 = .ok (.i2l, 1) := by decide +kernel
theorem d3_69 : decode prog_11_method_7_code 69 = .ok (.ldc2_w 13, 3) := by decide +kernel
theorem d3_72 : decode prog_11_method_7_code 72 = .ok (.land, 1) := by decide +kernel
theorem d3_73 : decode prog_11_method_7_code 73 = .ok (.bipush 16, 2) := by decide +kernel
theorem d3_75 : decode prog_11_method_7_code 75 = .ok (.lshl, 1) := by decide +kernel
theorem d3_76 : decode prog_11_method_7_code 76 = .ok (.lor, 1) := by decide +kernel
theorem d3_77 : decode prog_11_method_7_code 77 = .ok (.aload_n 0, 1) := by decide +kernel
theorem d3_78 : decode prog_11_method_7_code 78 = .ok (.iload_n 1, 1) := by decide +kernel
theorem d3_79 : decode prog_11_method_7_code 79 = .ok (.bipush 6, 2) := by decide +kernel
theorem d3_81 : decode prog_11_method_7_code 81 = .ok (.iadd, 1) := by decide +kernel
theorem d3_82 : decode prog_11_method_7_code 82 = .ok (.baload, 1) := by decide +kernel
theorem d3_83 : decode prog_11_method_7_code 83 = .ok (.i2l, 1) := by decide +kernel
theorem d3_84 : decode prog_11_method_7_code 84 = .ok (.ldc2_w 13, 3) := by decide +kernel
theorem d3_87 : decode prog_11_method_7_code 87 = .ok (.land, 1) := by decide +kernel
theorem d3_88 : decode prog_11_method_7_code 88 = .ok (.bipush 8, 2) := by decide +kernel
theorem d3_90 : decode prog_11_method_7_code 90 = .ok (.lshl, 1) := by decide +kernel
theorem d3_91 : decode prog_11_method_7_code 91 = .ok (.lor, 1) := by decide +kernel
theorem d3_92 : decode prog_11_method_7_code 92 = .ok (.aload_n 0, 1) := by decide +kernel
theorem d3_93 : decode prog_11_method_7_code 93 = .ok (.iload_n 1, 1) := by decide +kernel
theorem d3_94 : decode prog_11_method_7_code 94 = .ok (.bipush 7, 2) := by decide +kernel
theorem d3_96 : decode prog_11_method_7_code 96 = .ok (.iadd, 1) := by decide +kernel
theorem d3_97 : decode prog_11_method_7_code 97 = .ok (.baload, 1) := by decide +kernel
theorem d3_98 : decode prog_11_method_7_code 98 = .ok (.i2l, 1) := by decide +kernel
theorem d3_99 : decode prog_11_method_7_code 99 = .ok (.ldc2_w 13, 3) := by decide +kernel
theorem d3_102 : decode prog_11_method_7_code 102 = .ok (.land, 1) := by decide +kernel
theorem d3_103 : decode prog_11_method_7_code 103 = .ok (.lor, 1) := by decide +kernel
theorem d3_104 : decode prog_11_method_7_code 104 = .ok (.lreturn, 1) := by decide +kernel
theorem pn_3 : plainName "wardlog/Bytes" = true := by first | (simp [plainName, overriddenIn]; done) | decide +kernel
theorem ef_3 (m : MethodId) (x0 : Addr) (x1 : Int32) : entryFrame m #[(.ref x0), (.int x1)] 2 = mkF m 0 #[.val (.ref x0), .val (.int x1)] [] := by first | (simp [entryFrame, mkF, argsToLocals, Value.category]; done) | rfl
set_option maxRecDepth 65536 in
set_option maxHeartbeats 40000000 in
theorem rm3 (l : Launch) (Z : State) (a0 : Array Value) (hw : ∀ d ∈ tables_1, d.before a0 Z = true) (a1 : Addr) (p2 : Int32) (h0 : Heap) (n0 : Nat) (Z0 : n0 ≤ h0.size) (k n : Nat) (f : Nat → Value) (w0 w1 w2 w3 w4 w5 w6 w7 : Int32) (V_a1 : BA Z h0 a1 .byte n f) (I0 : Ix p2 k n) (I1 : Ix (p2 + 1) (k + 1) n) (I2 : Ix (p2 + 2) (k + 2) n) (I3 : Ix (p2 + 3) (k + 3) n) (I4 : Ix (p2 + 4) (k + 4) n) (I5 : Ix (p2 + 5) (k + 5) n) (I6 : Ix (p2 + 6) (k + 6) n) (I7 : Ix (p2 + 7) (k + 7) n) (H0 : f (k + 0) = .int w0) (H1 : f (k + 1) = .int w1) (H2 : f (k + 2) = .int w2) (H3 : f (k + 3) = .int w3) (H4 : f (k + 4) = .int w4) (H5 : f (k + 5) = .int w5) (H6 : f (k + 6) = .int w6) (H7 : f (k + 7) = .int w7) :
    Does l Z (⟨"wardlog/Bytes", "getLong", "([BI)J"⟩ : MethodName) prog_11_method_7_code 2 (some .long) ({ frames := 0, cells := 0, slots := 0, locals := 0 } : Room) #[(.ref a1), (.int p2)] h0 (fun v h L => v = some (.long (own_getl w0 w1 w2 w3 w4 w5 w6 w7)) ∧ Fr n0 L ∧ h = h0) := by
  refine Does.body (plainFor_of_name pn_3) ?_
  intro p e s m below meth c T0 X0 hx hZ hby hml hown hnm hret hlk e0
  replace hown : s.vm.findClass "wardlog/Bytes" = some m.cls := hown
  have N0 := Fr.nil n0
  refine Go.frame (ef_3 m a1 p2) ?_
  show Go _ _ _ _ T0 (mkF m 0 #[.val (.ref a1), .val (.int p2)] [])
  refine Go.st (fun t k => XS.aloadN X0.here hx rfl (hb hby d3_0) rfl rfl k) ?_
  show Go _ _ _ _ T0 (mkF m 1 #[.val (.ref a1), .val (.int p2)] [(.ref a1)])
  refine Go.st (fun t k => XS.iloadN X0.here hx rfl (hb hby d3_1) rfl k) ?_
  show Go _ _ _ _ T0 (mkF m 2 #[.val (.ref a1), .val (.int p2)] [(.int p2), (.ref a1)])
  refine goLdB X0 hx hZ e0 V_a1 (v := (.int w0)) (g := (mkF m 2 #[.val (.ref a1), .val (.int p2)] [(.int p2), (.ref a1)])) rfl rfl (hb hby d3_2) I0 H0 ?_
  show Go _ _ _ _ T0 (mkF m 3 #[.val (.ref a1), .val (.int p2)] [(.int w0)])
  refine Go.st (fun t k => XS.i2l X0.here hx rfl (hb hby d3_3) rfl k) ?_
  show Go _ _ _ _ T0 (mkF m 4 #[.val (.ref a1), .val (.int p2)] [(.long (w0.toInt64))])
  refine Go.st (fun t k => XS.bipush X0.here hx rfl (hb hby d3_4) k) ?_
  show Go _ _ _ _ T0 (mkF m 6 #[.val (.ref a1), .val (.int p2)] [(.int (56 : Int32)), (.long (w0.toInt64))])
  refine Go.st (fun t k => XS.lshl X0.here hx rfl (hb hby d3_6) rfl k) ?_
  show Go _ _ _ _ T0 (mkF m 7 #[.val (.ref a1), .val (.int p2)] [(.long ((w0.toInt64) <<< ((56 : Int32) &&& 0x3f).toInt64))])
  refine Go.st (fun t k => XS.aloadN X0.here hx rfl (hb hby d3_7) rfl rfl k) ?_
  show Go _ _ _ _ T0 (mkF m 8 #[.val (.ref a1), .val (.int p2)] [(.ref a1), (.long ((w0.toInt64) <<< ((56 : Int32) &&& 0x3f).toInt64))])
  refine Go.st (fun t k => XS.iloadN X0.here hx rfl (hb hby d3_8) rfl k) ?_
  show Go _ _ _ _ T0 (mkF m 9 #[.val (.ref a1), .val (.int p2)] [(.int p2), (.ref a1), (.long ((w0.toInt64) <<< ((56 : Int32) &&& 0x3f).toInt64))])
  refine Go.st (fun t k => XS.iconst X0.here hx rfl (hb hby d3_9) k) ?_
  show Go _ _ _ _ T0 (mkF m 10 #[.val (.ref a1), .val (.int p2)] [(.int (1 : Int32)), (.int p2), (.ref a1), (.long ((w0.toInt64) <<< ((56 : Int32) &&& 0x3f).toInt64))])
  refine Go.st (fun t k => XS.iadd X0.here hx rfl (hb hby d3_10) rfl k) ?_
  show Go _ _ _ _ T0 (mkF m 11 #[.val (.ref a1), .val (.int p2)] [(.int (p2 + (1 : Int32))), (.ref a1), (.long ((w0.toInt64) <<< ((56 : Int32) &&& 0x3f).toInt64))])
  refine goLdB X0 hx hZ e0 V_a1 (v := (.int w1)) (g := (mkF m 11 #[.val (.ref a1), .val (.int p2)] [(.int (p2 + (1 : Int32))), (.ref a1), (.long ((w0.toInt64) <<< ((56 : Int32) &&& 0x3f).toInt64))])) rfl rfl (hb hby d3_11) I1 H1 ?_
  show Go _ _ _ _ T0 (mkF m 12 #[.val (.ref a1), .val (.int p2)] [(.int w1), (.long ((w0.toInt64) <<< ((56 : Int32) &&& 0x3f).toInt64))])
  refine Go.st (fun t k => XS.i2l X0.here hx rfl (hb hby d3_12) rfl k) ?_
  show Go _ _ _ _ T0 (mkF m 13 #[.val (.ref a1), .val (.int p2)] [(.long (w1.toInt64)), (.long ((w0.toInt64) <<< ((56 : Int32) &&& 0x3f).toInt64))])
  refine Go.st (X0.ldc2Long hx hown (mvT hZ (hw _ (List.mem_of_getElem? (i := 12) rfl))) (g := (mkF m 13 #[.val (.ref a1), .val (.int p2)] [(.long (w1.toInt64)), (.long ((w0.toInt64) <<< ((56 : Int32) &&& 0x3f).toInt64))])) rfl (hb hby d3_13)) ?_
  show Go _ _ _ _ T0 (mkF m 16 #[.val (.ref a1), .val (.int p2)] [(.long (255 : Int64)), (.long (w1.toInt64)), (.long ((w0.toInt64) <<< ((56 : Int32) &&& 0x3f).toInt64))])
  refine Go.st (fun t k => XS.land X0.here hx rfl (hb hby d3_16) rfl k) ?_
  show Go _ _ _ _ T0 (mkF m 17 #[.val (.ref a1), .val (.int p2)] [(.long ((w1.toInt64) &&& (255 : Int64))), (.long ((w0.toInt64) <<< ((56 : Int32) &&& 0x3f).toInt64))])
  refine Go.st (fun t k => XS.bipush X0.here hx rfl (hb hby d3_17) k) ?_
  show Go _ _ _ _ T0 (mkF m 19 #[.val (.ref a1), .val (.int p2)] [(.int (48 : Int32)), (.long ((w1.toInt64) &&& (255 : Int64))), (.long ((w0.toInt64) <<< ((56 : Int32) &&& 0x3f).toInt64))])
  refine Go.st (fun t k => XS.lshl X0.here hx rfl (hb hby d3_19) rfl k) ?_
  show Go _ _ _ _ T0 (mkF m 20 #[.val (.ref a1), .val (.int p2)] [(.long (((w1.toInt64) &&& (255 : Int64)) <<< ((48 : Int32) &&& 0x3f).toInt64)), (.long ((w0.toInt64) <<< ((56 : Int32) &&& 0x3f).toInt64))])
  refine Go.st (fun t k => XS.lor X0.here hx rfl (hb hby d3_20) rfl k) ?_
  show Go _ _ _ _ T0 (mkF m 21 #[.val (.ref a1), .val (.int p2)] [(.long (((w0.toInt64) <<< ((56 : Int32) &&& 0x3f).toInt64) ||| (((w1.toInt64) &&& (255 : Int64)) <<< ((48 : Int32) &&& 0x3f).toInt64)))])
  refine Go.st (fun t k => XS.aloadN X0.here hx rfl (hb hby d3_21) rfl rfl k) ?_
  show Go _ _ _ _ T0 (mkF m 22 #[.val (.ref a1), .val (.int p2)] [(.ref a1), (.long (((w0.toInt64) <<< ((56 : Int32) &&& 0x3f).toInt64) ||| (((w1.toInt64) &&& (255 : Int64)) <<< ((48 : Int32) &&& 0x3f).toInt64)))])
  refine Go.st (fun t k => XS.iloadN X0.here hx rfl (hb hby d3_22) rfl k) ?_
  show Go _ _ _ _ T0 (mkF m 23 #[.val (.ref a1), .val (.int p2)] [(.int p2), (.ref a1), (.long (((w0.toInt64) <<< ((56 : Int32) &&& 0x3f).toInt64) ||| (((w1.toInt64) &&& (255 : Int64)) <<< ((48 : Int32) &&& 0x3f).toInt64)))])
  refine Go.st (fun t k => XS.iconst X0.here hx rfl (hb hby d3_23) k) ?_
  show Go _ _ _ _ T0 (mkF m 24 #[.val (.ref a1), .val (.int p2)] [(.int (2 : Int32)), (.int p2), (.ref a1), (.long (((w0.toInt64) <<< ((56 : Int32) &&& 0x3f).toInt64) ||| (((w1.toInt64) &&& (255 : Int64)) <<< ((48 : Int32) &&& 0x3f).toInt64)))])
  refine Go.st (fun t k => XS.iadd X0.here hx rfl (hb hby d3_24) rfl k) ?_
  show Go _ _ _ _ T0 (mkF m 25 #[.val (.ref a1), .val (.int p2)] [(.int (p2 + (2 : Int32))), (.ref a1), (.long (((w0.toInt64) <<< ((56 : Int32) &&& 0x3f).toInt64) ||| (((w1.toInt64) &&& (255 : Int64)) <<< ((48 : Int32) &&& 0x3f).toInt64)))])
  refine goLdB X0 hx hZ e0 V_a1 (v := (.int w2)) (g := (mkF m 25 #[.val (.ref a1), .val (.int p2)] [(.int (p2 + (2 : Int32))), (.ref a1), (.long (((w0.toInt64) <<< ((56 : Int32) &&& 0x3f).toInt64) ||| (((w1.toInt64) &&& (255 : Int64)) <<< ((48 : Int32) &&& 0x3f).toInt64)))])) rfl rfl (hb hby d3_25) I2 H2 ?_
  show Go _ _ _ _ T0 (mkF m 26 #[.val (.ref a1), .val (.int p2)] [(.int w2), (.long (((w0.toInt64) <<< ((56 : Int32) &&& 0x3f).toInt64) ||| (((w1.toInt64) &&& (255 : Int64)) <<< ((48 : Int32) &&& 0x3f).toInt64)))])
  refine Go.st (fun t k => XS.i2l X0.here hx rfl (hb hby d3_26) rfl k) ?_
  show Go _ _ _ _ T0 (mkF m 27 #[.val (.ref a1), .val (.int p2)] [(.long (w2.toInt64)), (.long (((w0.toInt64) <<< ((56 : Int32) &&& 0x3f).toInt64) ||| (((w1.toInt64) &&& (255 : Int64)) <<< ((48 : Int32) &&& 0x3f).toInt64)))])
  refine Go.st (X0.ldc2Long hx hown (mvT hZ (hw _ (List.mem_of_getElem? (i := 12) rfl))) (g := (mkF m 27 #[.val (.ref a1), .val (.int p2)] [(.long (w2.toInt64)), (.long (((w0.toInt64) <<< ((56 : Int32) &&& 0x3f).toInt64) ||| (((w1.toInt64) &&& (255 : Int64)) <<< ((48 : Int32) &&& 0x3f).toInt64)))])) rfl (hb hby d3_27)) ?_
  show Go _ _ _ _ T0 (mkF m 30 #[.val (.ref a1), .val (.int p2)] [(.long (255 : Int64)), (.long (w2.toInt64)), (.long (((w0.toInt64) <<< ((56 : Int32) &&& 0x3f).toInt64) ||| (((w1.toInt64) &&& (255 : Int64)) <<< ((48 : Int32) &&& 0x3f).toInt64)))])
  refine Go.st (fun t k => XS.land X0.here hx rfl (hb hby d3_30) rfl k) ?_
  show Go _ _ _ _ T0 (mkF m 31 #[.val (.ref a1), .val (.int p2)] [(.long ((w2.toInt64) &&& (255 : Int64))), (.long (((w0.toInt64) <<< ((56 : Int32) &&& 0x3f).toInt64) ||| (((w1.toInt64) &&& (255 : Int64)) <<< ((48 : Int32) &&& 0x3f).toInt64)))])
  refine Go.st (fun t k => XS.bipush X0.here hx rfl (hb hby d3_31) k) ?_
  show Go _ _ _ _ T0 (mkF m 33 #[.val (.ref a1), .val (.int p2)] [(.int (40 : Int32)), (.long ((w2.toInt64) &&& (255 : Int64))), (.long (((w0.toInt64) <<< ((56 : Int32) &&& 0x3f).toInt64) ||| (((w1.toInt64) &&& (255 : Int64)) <<< ((48 : Int32) &&& 0x3f).toInt64)))])
  refine Go.st (fun t k => XS.lshl X0.here hx rfl (hb hby d3_33) rfl k) ?_
  show Go _ _ _ _ T0 (mkF m 34 #[.val (.ref a1), .val (.int p2)] [(.long (((w2.toInt64) &&& (255 : Int64)) <<< ((40 : Int32) &&& 0x3f).toInt64)), (.long (((w0.toInt64) <<< ((56 : Int32) &&& 0x3f).toInt64) ||| (((w1.toInt64) &&& (255 : Int64)) <<< ((48 : Int32) &&& 0x3f).toInt64)))])
  refine Go.st (fun t k => XS.lor X0.here hx rfl (hb hby d3_34) rfl k) ?_
  show Go _ _ _ _ T0 (mkF m 35 #[.val (.ref a1), .val (.int p2)] [(.long ((((w0.toInt64) <<< ((56 : Int32) &&& 0x3f).toInt64) ||| (((w1.toInt64) &&& (255 : Int64)) <<< ((48 : Int32) &&& 0x3f).toInt64)) ||| (((w2.toInt64) &&& (255 : Int64)) <<< ((40 : Int32) &&& 0x3f).toInt64)))])
  refine Go.st (fun t k => XS.aloadN X0.here hx rfl (hb hby d3_35) rfl rfl k) ?_
  show Go _ _ _ _ T0 (mkF m 36 #[.val (.ref a1), .val (.int p2)] [(.ref a1), (.long ((((w0.toInt64) <<< ((56 : Int32) &&& 0x3f).toInt64) ||| (((w1.toInt64) &&& (255 : Int64)) <<< ((48 : Int32) &&& 0x3f).toInt64)) ||| (((w2.toInt64) &&& (255 : Int64)) <<< ((40 : Int32) &&& 0x3f).toInt64)))])
  refine Go.st (fun t k => XS.iloadN X0.here hx rfl (hb hby d3_36) rfl k) ?_
  show Go _ _ _ _ T0 (mkF m 37 #[.val (.ref a1), .val (.int p2)] [(.int p2), (.ref a1), (.long ((((w0.toInt64) <<< ((56 : Int32) &&& 0x3f).toInt64) ||| (((w1.toInt64) &&& (255 : Int64)) <<< ((48 : Int32) &&& 0x3f).toInt64)) ||| (((w2.toInt64) &&& (255 : Int64)) <<< ((40 : Int32) &&& 0x3f).toInt64)))])
  refine Go.st (fun t k => XS.iconst X0.here hx rfl (hb hby d3_37) k) ?_
  show Go _ _ _ _ T0 (mkF m 38 #[.val (.ref a1), .val (.int p2)] [(.int (3 : Int32)), (.int p2), (.ref a1), (.long ((((w0.toInt64) <<< ((56 : Int32) &&& 0x3f).toInt64) ||| (((w1.toInt64) &&& (255 : Int64)) <<< ((48 : Int32) &&& 0x3f).toInt64)) ||| (((w2.toInt64) &&& (255 : Int64)) <<< ((40 : Int32) &&& 0x3f).toInt64)))])
  refine Go.st (fun t k => XS.iadd X0.here hx rfl (hb hby d3_38) rfl k) ?_
  show Go _ _ _ _ T0 (mkF m 39 #[.val (.ref a1), .val (.int p2)] [(.int (p2 + (3 : Int32))), (.ref a1), (.long ((((w0.toInt64) <<< ((56 : Int32) &&& 0x3f).toInt64) ||| (((w1.toInt64) &&& (255 : Int64)) <<< ((48 : Int32) &&& 0x3f).toInt64)) ||| (((w2.toInt64) &&& (255 : Int64)) <<< ((40 : Int32) &&& 0x3f).toInt64)))])
  refine goLdB X0 hx hZ e0 V_a1 (v := (.int w3)) (g := (mkF m 39 #[.val (.ref a1), .val (.int p2)] [(.int (p2 + (3 : Int32))), (.ref a1), (.long ((((w0.toInt64) <<< ((56 : Int32) &&& 0x3f).toInt64) ||| (((w1.toInt64) &&& (255 : Int64)) <<< ((48 : Int32) &&& 0x3f).toInt64)) ||| (((w2.toInt64) &&& (255 : Int64)) <<< ((40 : Int32) &&& 0x3f).toInt64)))])) rfl rfl (hb hby d3_39) I3 H3 ?_
  show Go _ _ _ _ T0 (mkF m 40 #[.val (.ref a1), .val (.int p2)] [(.int w3), (.long ((((w0.toInt64) <<< ((56 : Int32) &&& 0x3f).toInt64) ||| (((w1.toInt64) &&& (255 : Int64)) <<< ((48 : Int32) &&& 0x3f).toInt64)) ||| (((w2.toInt64) &&& (255 : Int64)) <<< ((40 : Int32) &&& 0x3f).toInt64)))])
  refine Go.st (fun t k => XS.i2l X0.here hx rfl (hb hby d3_40) rfl k) ?_
  show Go _ _ _ _ T0 (mkF m 41 #[.val (.ref a1), .val (.int p2)] [(.long (w3.toInt64)), (.long ((((w0.toInt64) <<< ((56 : Int32) &&& 0x3f).toInt64) ||| (((w1.toInt64) &&& (255 : Int64)) <<< ((48 : Int32) &&& 0x3f).toInt64)) ||| (((w2.toInt64) &&& (255 : Int64)) <<< ((40 : Int32) &&& 0x3f).toInt64)))])
  refine Go.st (X0.ldc2Long hx hown (mvT hZ (hw _ (List.mem_of_getElem? (i := 12) rfl))) (g := (mkF m 41 #[.val (.ref a1), .val (.int p2)] [(.long (w3.toInt64)), (.long ((((w0.toInt64) <<< ((56 : Int32) &&& 0x3f).toInt64) ||| (((w1.toInt64) &&& (255 : Int64)) <<< ((48 : Int32) &&& 0x3f).toInt64)) ||| (((w2.toInt64) &&& (255 : Int64)) <<< ((40 : Int32) &&& 0x3f).toInt64)))])) rfl (hb hby d3_41)) ?_
  show Go _ _ _ _ T0 (mkF m 44 #[.val (.ref a1), .val (.int p2)] [(.long (255 : Int64)), (.long (w3.toInt64)), (.long ((((w0.toInt64) <<< ((56 : Int32) &&& 0x3f).toInt64) ||| (((w1.toInt64) &&& (255 : Int64)) <<< ((48 : Int32) &&& 0x3f).toInt64)) ||| (((w2.toInt64) &&& (255 : Int64)) <<< ((40 : Int32) &&& 0x3f).toInt64)))])
  refine Go.st (fun t k => XS.land X0.here hx rfl (hb hby d3_44) rfl k) ?_
  show Go _ _ _ _ T0 (mkF m 45 #[.val (.ref a1), .val (.int p2)] [(.long ((w3.toInt64) &&& (255 : Int64))), (.long ((((w0.toInt64) <<< ((56 : Int32) &&& 0x3f).toInt64) ||| (((w1.toInt64) &&& (255 : Int64)) <<< ((48 : Int32) &&& 0x3f).toInt64)) ||| (((w2.toInt64) &&& (255 : Int64)) <<< ((40 : Int32) &&& 0x3f).toInt64)))])
  refine Go.st (fun t k => XS.bipush X0.here hx rfl (hb hby d3_45) k) ?_
  show Go _ _ _ _ T0 (mkF m 47 #[.val (.ref a1), .val (.int p2)] [(.int (32 : Int32)), (.long ((w3.toInt64) &&& (255 : Int64))), (.long ((((w0.toInt64) <<< ((56 : Int32) &&& 0x3f).toInt64) ||| (((w1.toInt64) &&& (255 : Int64)) <<< ((48 : Int32) &&& 0x3f).toInt64)) ||| (((w2.toInt64) &&& (255 : Int64)) <<< ((40 : Int32) &&& 0x3f).toInt64)))])
  refine Go.st (fun t k => XS.lshl X0.here hx rfl (hb hby d3_47) rfl k) ?_
  show Go _ _ _ _ T0 (mkF m 48 #[.val (.ref a1), .val (.int p2)] [(.long (((w3.toInt64) &&& (255 : Int64)) <<< ((32 : Int32) &&& 0x3f).toInt64)), (.long ((((w0.toInt64) <<< ((56 : Int32) &&& 0x3f).toInt64) ||| (((w1.toInt64) &&& (255 : Int64)) <<< ((48 : Int32) &&& 0x3f).toInt64)) ||| (((w2.toInt64) &&& (255 : Int64)) <<< ((40 : Int32) &&& 0x3f).toInt64)))])
  refine Go.st (fun t k => XS.lor X0.here hx rfl (hb hby d3_48) rfl k) ?_
  show Go _ _ _ _ T0 (mkF m 49 #[.val (.ref a1), .val (.int p2)] [(.long (((((w0.toInt64) <<< ((56 : Int32) &&& 0x3f).toInt64) ||| (((w1.toInt64) &&& (255 : Int64)) <<< ((48 : Int32) &&& 0x3f).toInt64)) ||| (((w2.toInt64) &&& (255 : Int64)) <<< ((40 : Int32) &&& 0x3f).toInt64)) ||| (((w3.toInt64) &&& (255 : Int64)) <<< ((32 : Int32) &&& 0x3f).toInt64)))])
  refine Go.st (fun t k => XS.aloadN X0.here hx rfl (hb hby d3_49) rfl rfl k) ?_
  show Go _ _ _ _ T0 (mkF m 50 #[.val (.ref a1), .val (.int p2)] [(.ref a1), (.long (((((w0.toInt64) <<< ((56 : Int32) &&& 0x3f).toInt64) ||| (((w1.toInt64) &&& (255 : Int64)) <<< ((48 : Int32) &&& 0x3f).toInt64)) ||| (((w2.toInt64) &&& (255 : Int64)) <<< ((40 : Int32) &&& 0x3f).toInt64)) ||| (((w3.toInt64) &&& (255 : Int64)) <<< ((32 : Int32) &&& 0x3f).toInt64)))])
  refine Go.st (fun t k => XS.iloadN X0.here hx rfl (hb hby d3_50) rfl k) ?_
  show Go _ _ _ _ T0 (mkF m 51 #[.val (.ref a1), .val (.int p2)] [(.int p2), (.ref a1), (.long (((((w0.toInt64) <<< ((56 : Int32) &&& 0x3f).toInt64) ||| (((w1.toInt64) &&& (255 : Int64)) <<< ((48 : Int32) &&& 0x3f).toInt64)) ||| (((w2.toInt64) &&& (255 : Int64)) <<< ((40 : Int32) &&& 0x3f).toInt64)) ||| (((w3.toInt64) &&& (255 : Int64)) <<< ((32 : Int32) &&& 0x3f).toInt64)))])
  refine Go.st (fun t k => XS.iconst X0.here hx rfl (hb hby d3_51) k) ?_
  show Go _ _ _ _ T0 (mkF m 52 #[.val (.ref a1), .val (.int p2)] [(.int (4 : Int32)), (.int p2), (.ref a1), (.long (((((w0.toInt64) <<< ((56 : Int32) &&& 0x3f).toInt64) ||| (((w1.toInt64) &&& (255 : Int64)) <<< ((48 : Int32) &&& 0x3f).toInt64)) ||| (((w2.toInt64) &&& (255 : Int64)) <<< ((40 : Int32) &&& 0x3f).toInt64)) ||| (((w3.toInt64) &&& (255 : Int64)) <<< ((32 : Int32) &&& 0x3f).toInt64)))])
  refine Go.st (fun t k => XS.iadd X0.here hx rfl (hb hby d3_52) rfl k) ?_
  show Go _ _ _ _ T0 (mkF m 53 #[.val (.ref a1), .val (.int p2)] [(.int (p2 + (4 : Int32))), (.ref a1), (.long (((((w0.toInt64) <<< ((56 : Int32) &&& 0x3f).toInt64) ||| (((w1.toInt64) &&& (255 : Int64)) <<< ((48 : Int32) &&& 0x3f).toInt64)) ||| (((w2.toInt64) &&& (255 : Int64)) <<< ((40 : Int32) &&& 0x3f).toInt64)) ||| (((w3.toInt64) &&& (255 : Int64)) <<< ((32 : Int32) &&& 0x3f).toInt64)))])
  refine goLdB X0 hx hZ e0 V_a1 (v := (.int w4)) (g := (mkF m 53 #[.val (.ref a1), .val (.int p2)] [(.int (p2 + (4 : Int32))), (.ref a1), (.long (((((w0.toInt64) <<< ((56 : Int32) &&& 0x3f).toInt64) ||| (((w1.toInt64) &&& (255 : Int64)) <<< ((48 : Int32) &&& 0x3f).toInt64)) ||| (((w2.toInt64) &&& (255 : Int64)) <<< ((40 : Int32) &&& 0x3f).toInt64)) ||| (((w3.toInt64) &&& (255 : Int64)) <<< ((32 : Int32) &&& 0x3f).toInt64)))])) rfl rfl (hb hby d3_53) I4 H4 ?_
  show Go _ _ _ _ T0 (mkF m 54 #[.val (.ref a1), .val (.int p2)] [(.int w4), (.long (((((w0.toInt64) <<< ((56 : Int32) &&& 0x3f).toInt64) ||| (((w1.toInt64) &&& (255 : Int64)) <<< ((48 : Int32) &&& 0x3f).toInt64)) ||| (((w2.toInt64) &&& (255 : Int64)) <<< ((40 : Int32) &&& 0x3f).toInt64)) ||| (((w3.toInt64) &&& (255 : Int64)) <<< ((32 : Int32) &&& 0x3f).toInt64)))])
  refine Go.st (fun t k => XS.i2l X0.here hx rfl (hb hby d3_54) rfl k) ?_
  show Go _ _ _ _ T0 (mkF m 55 #[.val (.ref a1), .val (.int p2)] [(.long (w4.toInt64)), (.long (((((w0.toInt64) <<< ((56 : Int32) &&& 0x3f).toInt64) ||| (((w1.toInt64) &&& (255 : Int64)) <<< ((48 : Int32) &&& 0x3f).toInt64)) ||| (((w2.toInt64) &&& (255 : Int64)) <<< ((40 : Int32) &&& 0x3f).toInt64)) ||| (((w3.toInt64) &&& (255 : Int64)) <<< ((32 : Int32) &&& 0x3f).toInt64)))])
  refine Go.st (X0.ldc2Long hx hown (mvT hZ (hw _ (List.mem_of_getElem? (i := 12) rfl))) (g := (mkF m 55 #[.val (.ref a1), .val (.int p2)] [(.long (w4.toInt64)), (.long (((((w0.toInt64) <<< ((56 : Int32) &&& 0x3f).toInt64) ||| (((w1.toInt64) &&& (255 : Int64)) <<< ((48 : Int32) &&& 0x3f).toInt64)) ||| (((w2.toInt64) &&& (255 : Int64)) <<< ((40 : Int32) &&& 0x3f).toInt64)) ||| (((w3.toInt64) &&& (255 : Int64)) <<< ((32 : Int32) &&& 0x3f).toInt64)))])) rfl (hb hby d3_55)) ?_
  show Go _ _ _ _ T0 (mkF m 58 #[.val (.ref a1), .val (.int p2)] [(.long (255 : Int64)), (.long (w4.toInt64)), (.long (((((w0.toInt64) <<< ((56 : Int32) &&& 0x3f).toInt64) ||| (((w1.toInt64) &&& (255 : Int64)) <<< ((48 : Int32) &&& 0x3f).toInt64)) ||| (((w2.toInt64) &&& (255 : Int64)) <<< ((40 : Int32) &&& 0x3f).toInt64)) ||| (((w3.toInt64) &&& (255 : Int64)) <<< ((32 : Int32) &&& 0x3f).toInt64)))])
  refine Go.st (fun t k => XS.land X0.here hx rfl (hb hby d3_58) rfl k) ?_
  show Go _ _ _ _ T0 (mkF m 59 #[.val (.ref a1), .val (.int p2)] [(.long ((w4.toInt64) &&& (255 : Int64))), (.long (((((w0.toInt64) <<< ((56 : Int32) &&& 0x3f).toInt64) ||| (((w1.toInt64) &&& (255 : Int64)) <<< ((48 : Int32) &&& 0x3f).toInt64)) ||| (((w2.toInt64) &&& (255 : Int64)) <<< ((40 : Int32) &&& 0x3f).toInt64)) ||| (((w3.toInt64) &&& (255 : Int64)) <<< ((32 : Int32) &&& 0x3f).toInt64)))])
  refine Go.st (fun t k => XS.bipush X0.here hx rfl (hb hby d3_59) k) ?_
  show Go _ _ _ _ T0 (mkF m 61 #[.val (.ref a1), .val (.int p2)] [(.int (24 : Int32)), (.long ((w4.toInt64) &&& (255 : Int64))), (.long (((((w0.toInt64) <<< ((56 : Int32) &&& 0x3f).toInt64) ||| (((w1.toInt64) &&& (255 : Int64)) <<< ((48 : Int32) &&& 0x3f).toInt64)) ||| (((w2.toInt64) &&& (255 : Int64)) <<< ((40 : Int32) &&& 0x3f).toInt64)) ||| (((w3.toInt64) &&& (255 : Int64)) <<< ((32 : Int32) &&& 0x3f).toInt64)))])
  refine Go.st (fun t k => XS.lshl X0.here hx rfl (hb hby d3_61) rfl k) ?_
  show Go _ _ _ _ T0 (mkF m 62 #[.val (.ref a1), .val (.int p2)] [(.long (((w4.toInt64) &&& (255 : Int64)) <<< ((24 : Int32) &&& 0x3f).toInt64)), (.long (((((w0.toInt64) <<< ((56 : Int32) &&& 0x3f).toInt64) ||| (((w1.toInt64) &&& (255 : Int64)) <<< ((48 : Int32) &&& 0x3f).toInt64)) ||| (((w2.toInt64) &&& (255 : Int64)) <<< ((40 : Int32) &&& 0x3f).toInt64)) ||| (((w3.toInt64) &&& (255 : Int64)) <<< ((32 : Int32) &&& 0x3f).toInt64)))])
  refine Go.st (fun t k => XS.lor X0.here hx rfl (hb hby d3_62) rfl k) ?_
  show Go _ _ _ _ T0 (mkF m 63 #[.val (.ref a1), .val (.int p2)] [(.long ((((((w0.toInt64) <<< ((56 : Int32) &&& 0x3f).toInt64) ||| (((w1.toInt64) &&& (255 : Int64)) <<< ((48 : Int32) &&& 0x3f).toInt64)) ||| (((w2.toInt64) &&& (255 : Int64)) <<< ((40 : Int32) &&& 0x3f).toInt64)) ||| (((w3.toInt64) &&& (255 : Int64)) <<< ((32 : Int32) &&& 0x3f).toInt64)) ||| (((w4.toInt64) &&& (255 : Int64)) <<< ((24 : Int32) &&& 0x3f).toInt64)))])
  refine Go.st (fun t k => XS.aloadN X0.here hx rfl (hb hby d3_63) rfl rfl k) ?_
  show Go _ _ _ _ T0 (mkF m 64 #[.val (.ref a1), .val (.int p2)] [(.ref a1), (.long ((((((w0.toInt64) <<< ((56 : Int32) &&& 0x3f).toInt64) ||| (((w1.toInt64) &&& (255 : Int64)) <<< ((48 : Int32) &&& 0x3f).toInt64)) ||| (((w2.toInt64) &&& (255 : Int64)) <<< ((40 : Int32) &&& 0x3f).toInt64)) ||| (((w3.toInt64) &&& (255 : Int64)) <<< ((32 : Int32) &&& 0x3f).toInt64)) ||| (((w4.toInt64) &&& (255 : Int64)) <<< ((24 : Int32) &&& 0x3f).toInt64)))])
  refine Go.st (fun t k => XS.iloadN X0.here hx rfl (hb hby d3_64) rfl k) ?_
  show Go _ _ _ _ T0 (mkF m 65 #[.val (.ref a1), .val (.int p2)] [(.int p2), (.ref a1), (.long ((((((w0.toInt64) <<< ((56 : Int32) &&& 0x3f).toInt64) ||| (((w1.toInt64) &&& (255 : Int64)) <<< ((48 : Int32) &&& 0x3f).toInt64)) ||| (((w2.toInt64) &&& (255 : Int64)) <<< ((40 : Int32) &&& 0x3f).toInt64)) ||| (((w3.toInt64) &&& (255 : Int64)) <<< ((32 : Int32) &&& 0x3f).toInt64)) ||| (((w4.toInt64) &&& (255 : Int64)) <<< ((24 : Int32) &&& 0x3f).toInt64)))])
  refine Go.st (fun t k => XS.iconst X0.here hx rfl (hb hby d3_65) k) ?_
  show Go _ _ _ _ T0 (mkF m 66 #[.val (.ref a1), .val (.int p2)] [(.int (5 : Int32)), (.int p2), (.ref a1), (.long ((((((w0.toInt64) <<< ((56 : Int32) &&& 0x3f).toInt64) ||| (((w1.toInt64) &&& (255 : Int64)) <<< ((48 : Int32) &&& 0x3f).toInt64)) ||| (((w2.toInt64) &&& (255 : Int64)) <<< ((40 : Int32) &&& 0x3f).toInt64)) ||| (((w3.toInt64) &&& (255 : Int64)) <<< ((32 : Int32) &&& 0x3f).toInt64)) ||| (((w4.toInt64) &&& (255 : Int64)) <<< ((24 : Int32) &&& 0x3f).toInt64)))])
  refine Go.st (fun t k => XS.iadd X0.here hx rfl (hb hby d3_66) rfl k) ?_
  show Go _ _ _ _ T0 (mkF m 67 #[.val (.ref a1), .val (.int p2)] [(.int (p2 + (5 : Int32))), (.ref a1), (.long ((((((w0.toInt64) <<< ((56 : Int32) &&& 0x3f).toInt64) ||| (((w1.toInt64) &&& (255 : Int64)) <<< ((48 : Int32) &&& 0x3f).toInt64)) ||| (((w2.toInt64) &&& (255 : Int64)) <<< ((40 : Int32) &&& 0x3f).toInt64)) ||| (((w3.toInt64) &&& (255 : Int64)) <<< ((32 : Int32) &&& 0x3f).toInt64)) ||| (((w4.toInt64) &&& (255 : Int64)) <<< ((24 : Int32) &&& 0x3f).toInt64)))])
  refine goLdB X0 hx hZ e0 V_a1 (v := (.int w5)) (g := (mkF m 67 #[.val (.ref a1), .val (.int p2)] [(.int (p2 + (5 : Int32))), (.ref a1), (.long ((((((w0.toInt64) <<< ((56 : Int32) &&& 0x3f).toInt64) ||| (((w1.toInt64) &&& (255 : Int64)) <<< ((48 : Int32) &&& 0x3f).toInt64)) ||| (((w2.toInt64) &&& (255 : Int64)) <<< ((40 : Int32) &&& 0x3f).toInt64)) ||| (((w3.toInt64) &&& (255 : Int64)) <<< ((32 : Int32) &&& 0x3f).toInt64)) ||| (((w4.toInt64) &&& (255 : Int64)) <<< ((24 : Int32) &&& 0x3f).toInt64)))])) rfl rfl (hb hby d3_67) I5 H5 ?_
  show Go _ _ _ _ T0 (mkF m 68 #[.val (.ref a1), .val (.int p2)] [(.int w5), (.long ((((((w0.toInt64) <<< ((56 : Int32) &&& 0x3f).toInt64) ||| (((w1.toInt64) &&& (255 : Int64)) <<< ((48 : Int32) &&& 0x3f).toInt64)) ||| (((w2.toInt64) &&& (255 : Int64)) <<< ((40 : Int32) &&& 0x3f).toInt64)) ||| (((w3.toInt64) &&& (255 : Int64)) <<< ((32 : Int32) &&& 0x3f).toInt64)) ||| (((w4.toInt64) &&& (255 : Int64)) <<< ((24 : Int32) &&& 0x3f).toInt64)))])
  refine Go.st (fun t k => XS.i2l X0.here hx rfl (hb hby d3_68) rfl k) ?_
  show Go _ _ _ _ T0 (mkF m 69 #[.val (.ref a1), .val (.int p2)] [(.long (w5.toInt64)), (.long ((((((w0.toInt64) <<< ((56 : Int32) &&& 0x3f).toInt64) ||| (((w1.toInt64) &&& (255 : Int64)) <<< ((48 : Int32) &&& 0x3f).toInt64)) ||| (((w2.toInt64) &&& (255 : Int64)) <<< ((40 : Int32) &&& 0x3f).toInt64)) ||| (((w3.toInt64) &&& (255 : Int64)) <<< ((32 : Int32) &&& 0x3f).toInt64)) ||| (((w4.toInt64) &&& (255 : Int64)) <<< ((24 : Int32) &&& 0x3f).toInt64)))])
  refine Go.st (X0.ldc2Long hx hown (mvT hZ (hw _ (List.mem_of_getElem? (i := 12) rfl))) (g := (mkF m 69 #[.val (.ref a1), .val (.int p2)] [(.long (w5.toInt64)), (.long ((((((w0.toInt64) <<< ((56 : Int32) &&& 0x3f).toInt64) ||| (((w1.toInt64) &&& (255 : Int64)) <<< ((48 : Int32) &&& 0x3f).toInt64)) ||| (((w2.toInt64) &&& (255 : Int64)) <<< ((40 : Int32) &&& 0x3f).toInt64)) ||| (((w3.toInt64) &&& (255 : Int64)) <<< ((32 : Int32) &&& 0x3f).toInt64)) ||| (((w4.toInt64) &&& (255 : Int64)) <<< ((24 : Int32) &&& 0x3f).toInt64)))])) rfl (hb hby d3_69)) ?_
  show Go _ _ _ _ T0 (mkF m 72 #[.val (.ref a1), .val (.int p2)] [(.long (255 : Int64)), (.long (w5.toInt64)), (.long ((((((w0.toInt64) <<< ((56 : Int32) &&& 0x3f).toInt64) ||| (((w1.toInt64) &&& (255 : Int64)) <<< ((48 : Int32) &&& 0x3f).toInt64)) ||| (((w2.toInt64) &&& (255 : Int64)) <<< ((40 : Int32) &&& 0x3f).toInt64)) ||| (((w3.toInt64) &&& (255 : Int64)) <<< ((32 : Int32) &&& 0x3f).toInt64)) ||| (((w4.toInt64) &&& (255 : Int64)) <<< ((24 : Int32) &&& 0x3f).toInt64)))])
  refine Go.st (fun t k => XS.land X0.here hx rfl (hb hby d3_72) rfl k) ?_
  show Go _ _ _ _ T0 (mkF m 73 #[.val (.ref a1), .val (.int p2)] [(.long ((w5.toInt64) &&& (255 : Int64))), (.long ((((((w0.toInt64) <<< ((56 : Int32) &&& 0x3f).toInt64) ||| (((w1.toInt64) &&& (255 : Int64)) <<< ((48 : Int32) &&& 0x3f).toInt64)) ||| (((w2.toInt64) &&& (255 : Int64)) <<< ((40 : Int32) &&& 0x3f).toInt64)) ||| (((w3.toInt64) &&& (255 : Int64)) <<< ((32 : Int32) &&& 0x3f).toInt64)) ||| (((w4.toInt64) &&& (255 : Int64)) <<< ((24 : Int32) &&& 0x3f).toInt64)))])
  refine Go.st (fun t k => XS.bipush X0.here hx rfl (hb hby d3_73) k) ?_
  show Go _ _ _ _ T0 (mkF m 75 #[.val (.ref a1), .val (.int p2)] [(.int (16 : Int32)), (.long ((w5.toInt64) &&& (255 : Int64))), (.long ((((((w0.toInt64) <<< ((56 : Int32) &&& 0x3f).toInt64) ||| (((w1.toInt64) &&& (255 : Int64)) <<< ((48 : Int32) &&& 0x3f).toInt64)) ||| (((w2.toInt64) &&& (255 : Int64)) <<< ((40 : Int32) &&& 0x3f).toInt64)) ||| (((w3.toInt64) &&& (255 : Int64)) <<< ((32 : Int32) &&& 0x3f).toInt64)) ||| (((w4.toInt64) &&& (255 : Int64)) <<< ((24 : Int32) &&& 0x3f).toInt64)))])
  refine Go.st (fun t k => XS.lshl X0.here hx rfl (hb hby d3_75) rfl k) ?_
  show Go _ _ _ _ T0 (mkF m 76 #[.val (.ref a1), .val (.int p2)] [(.long (((w5.toInt64) &&& (255 : Int64)) <<< ((16 : Int32) &&& 0x3f).toInt64)), (.long ((((((w0.toInt64) <<< ((56 : Int32) &&& 0x3f).toInt64) ||| (((w1.toInt64) &&& (255 : Int64)) <<< ((48 : Int32) &&& 0x3f).toInt64)) ||| (((w2.toInt64) &&& (255 : Int64)) <<< ((40 : Int32) &&& 0x3f).toInt64)) ||| (((w3.toInt64) &&& (255 : Int64)) <<< ((32 : Int32) &&& 0x3f).toInt64)) ||| (((w4.toInt64) &&& (255 : Int64)) <<< ((24 : Int32) &&& 0x3f).toInt64)))])
  refine Go.st (fun t k => XS.lor X0.here hx rfl (hb hby d3_76) rfl k) ?_
  show Go _ _ _ _ T0 (mkF m 77 #[.val (.ref a1), .val (.int p2)] [(.long (((((((w0.toInt64) <<< ((56 : Int32) &&& 0x3f).toInt64) ||| (((w1.toInt64) &&& (255 : Int64)) <<< ((48 : Int32) &&& 0x3f).toInt64)) ||| (((w2.toInt64) &&& (255 : Int64)) <<< ((40 : Int32) &&& 0x3f).toInt64)) ||| (((w3.toInt64) &&& (255 : Int64)) <<< ((32 : Int32) &&& 0x3f).toInt64)) ||| (((w4.toInt64) &&& (255 : Int64)) <<< ((24 : Int32) &&& 0x3f).toInt64)) ||| (((w5.toInt64) &&& (255 : Int64)) <<< ((16 : Int32) &&& 0x3f).toInt64)))])
  refine Go.st (fun t k => XS.aloadN X0.here hx rfl (hb hby d3_77) rfl rfl k) ?_
  show Go _ _ _ _ T0 (mkF m 78 #[.val (.ref a1), .val (.int p2)] [(.ref a1), (.long (((((((w0.toInt64) <<< ((56 : Int32) &&& 0x3f).toInt64) ||| (((w1.toInt64) &&& (255 : Int64)) <<< ((48 : Int32) &&& 0x3f).toInt64)) ||| (((w2.toInt64) &&& (255 : Int64)) <<< ((40 : Int32) &&& 0x3f).toInt64)) ||| (((w3.toInt64) &&& (255 : Int64)) <<< ((32 : Int32) &&& 0x3f).toInt64)) ||| (((w4.toInt64) &&& (255 : Int64)) <<< ((24 : Int32) &&& 0x3f).toInt64)) ||| (((w5.toInt64) &&& (255 : Int64)) <<< ((16 : Int32) &&& 0x3f).toInt64)))])
  refine Go.st (fun t k => XS.iloadN X0.here hx rfl (hb hby d3_78) rfl k) ?_
  show Go _ _ _ _ T0 (mkF m 79 #[.val (.ref a1), .val (.int p2)] [(.int p2), (.ref a1), (.long (((((((w0.toInt64) <<< ((56 : Int32) &&& 0x3f).toInt64) ||| (((w1.toInt64) &&& (255 : Int64)) <<< ((48 : Int32) &&& 0x3f).toInt64)) ||| (((w2.toInt64) &&& (255 : Int64)) <<< ((40 : Int32) &&& 0x3f).toInt64)) ||| (((w3.toInt64) &&& (255 : Int64)) <<< ((32 : Int32) &&& 0x3f).toInt64)) ||| (((w4.toInt64) &&& (255 : Int64)) <<< ((24 : Int32) &&& 0x3f).toInt64)) ||| (((w5.toInt64) &&& (255 : Int64)) <<< ((16 : Int32) &&& 0x3f).toInt64)))])
  refine Go.st (fun t k => XS.bipush X0.here hx rfl (hb hby d3_79) k) ?_
  show Go _ _ _ _ T0 (mkF m 81 #[.val (.ref a1), .val (.int p2)] [(.int (6 : Int32)), (.int p2), (.ref a1), (.long (((((((w0.toInt64) <<< ((56 : Int32) &&& 0x3f).toInt64) ||| (((w1.toInt64) &&& (255 : Int64)) <<< ((48 : Int32) &&& 0x3f).toInt64)) ||| (((w2.toInt64) &&& (255 : Int64)) <<< ((40 : Int32) &&& 0x3f).toInt64)) ||| (((w3.toInt64) &&& (255 : Int64)) <<< ((32 : Int32) &&& 0x3f).toInt64)) ||| (((w4.toInt64) &&& (255 : Int64)) <<< ((24 : Int32) &&& 0x3f).toInt64)) ||| (((w5.toInt64) &&& (255 : Int64)) <<< ((16 : Int32) &&& 0x3f).toInt64)))])
  refine Go.st (fun t k => XS.iadd X0.here hx rfl (hb hby d3_81) rfl k) ?_
  show Go _ _ _ _ T0 (mkF m 82 #[.val (.ref a1), .val (.int p2)] [(.int (p2 + (6 : Int32))), (.ref a1), (.long (((((((w0.toInt64) <<< ((56 : Int32) &&& 0x3f).toInt64) ||| (((w1.toInt64) &&& (255 : Int64)) <<< ((48 : Int32) &&& 0x3f).toInt64)) ||| (((w2.toInt64) &&& (255 : Int64)) <<< ((40 : Int32) &&& 0x3f).toInt64)) ||| (((w3.toInt64) &&& (255 : Int64)) <<< ((32 : Int32) &&& 0x3f).toInt64)) ||| (((w4.toInt64) &&& (255 : Int64)) <<< ((24 : Int32) &&& 0x3f).toInt64)) ||| (((w5.toInt64) &&& (255 : Int64)) <<< ((16 : Int32) &&& 0x3f).toInt64)))])
  refine goLdB X0 hx hZ e0 V_a1 (v := (.int w6)) (g := (mkF m 82 #[.val (.ref a1), .val (.int p2)] [(.int (p2 + (6 : Int32))), (.ref a1), (.long (((((((w0.toInt64) <<< ((56 : Int32) &&& 0x3f).toInt64) ||| (((w1.toInt64) &&& (255 : Int64)) <<< ((48 : Int32) &&& 0x3f).toInt64)) ||| (((w2.toInt64) &&& (255 : Int64)) <<< ((40 : Int32) &&& 0x3f).toInt64)) ||| (((w3.toInt64) &&& (255 : Int64)) <<< ((32 : Int32) &&& 0x3f).toInt64)) ||| (((w4.toInt64) &&& (255 : Int64)) <<< ((24 : Int32) &&& 0x3f).toInt64)) ||| (((w5.toInt64) &&& (255 : Int64)) <<< ((16 : Int32) &&& 0x3f).toInt64)))])) rfl rfl (hb hby d3_82) I6 H6 ?_
  show Go _ _ _ _ T0 (mkF m 83 #[.val (.ref a1), .val (.int p2)] [(.int w6), (.long (((((((w0.toInt64) <<< ((56 : Int32) &&& 0x3f).toInt64) ||| (((w1.toInt64) &&& (255 : Int64)) <<< ((48 : Int32) &&& 0x3f).toInt64)) ||| (((w2.toInt64) &&& (255 : Int64)) <<< ((40 : Int32) &&& 0x3f).toInt64)) ||| (((w3.toInt64) &&& (255 : Int64)) <<< ((32 : Int32) &&& 0x3f).toInt64)) ||| (((w4.toInt64) &&& (255 : Int64)) <<< ((24 : Int32) &&& 0x3f).toInt64)) ||| (((w5.toInt64) &&& (255 : Int64)) <<< ((16 : Int32) &&& 0x3f).toInt64)))])
  refine Go.st (fun t k => XS.i2l X0.here hx rfl (hb hby d3_83) rfl k) ?_
  show Go _ _ _ _ T0 (mkF m 84 #[.val (.ref a1), .val (.int p2)] [(.long (w6.toInt64)), (.long (((((((w0.toInt64) <<< ((56 : Int32) &&& 0x3f).toInt64) ||| (((w1.toInt64) &&& (255 : Int64)) <<< ((48 : Int32) &&& 0x3f).toInt64)) ||| (((w2.toInt64) &&& (255 : Int64)) <<< ((40 : Int32) &&& 0x3f).toInt64)) ||| (((w3.toInt64) &&& (255 : Int64)) <<< ((32 : Int32) &&& 0x3f).toInt64)) ||| (((w4.toInt64) &&& (255 : Int64)) <<< ((24 : Int32) &&& 0x3f).toInt64)) ||| (((w5.toInt64) &&& (255 : Int64)) <<< ((16 : Int32) &&& 0x3f).toInt64)))])
  refine Go.st (X0.ldc2Long hx hown (mvT hZ (hw _ (List.mem_of_getElem? (i := 12) rfl))) (g := (mkF m 84 #[.val (.ref a1), .val (.int p2)] [(.long (w6.toInt64)), (.long (((((((w0.toInt64) <<< ((56 : Int32) &&& 0x3f).toInt64) ||| (((w1.toInt64) &&& (255 : Int64)) <<< ((48 : Int32) &&& 0x3f).toInt64)) ||| (((w2.toInt64) &&& (255 : Int64)) <<< ((40 : Int32) &&& 0x3f).toInt64)) ||| (((w3.toInt64) &&& (255 : Int64)) <<< ((32 : Int32) &&& 0x3f).toInt64)) ||| (((w4.toInt64) &&& (255 : Int64)) <<< ((24 : Int32) &&& 0x3f).toInt64)) ||| (((w5.toInt64) &&& (255 : Int64)) <<< ((16 : Int32) &&& 0x3f).toInt64)))])) rfl (hb hby d3_84)) ?_
  show Go _ _ _ _ T0 (mkF m 87 #[.val (.ref a1), .val (.int p2)] [(.long (255 : Int64)), (.long (w6.toInt64)), (.long (((((((w0.toInt64) <<< ((56 : Int32) &&& 0x3f).toInt64) ||| (((w1.toInt64) &&& (255 : Int64)) <<< ((48 : Int32) &&& 0x3f).toInt64)) ||| (((w2.toInt64) &&& (255 : Int64)) <<< ((40 : Int32) &&& 0x3f).toInt64)) ||| (((w3.toInt64) &&& (255 : Int64)) <<< ((32 : Int32) &&& 0x3f).toInt64)) ||| (((w4.toInt64) &&& (255 : Int64)) <<< ((24 : Int32) &&& 0x3f).toInt64)) ||| (((w5.toInt64) &&& (255 : Int64)) <<< ((16 : Int32) &&& 0x3f).toInt64)))])
  refine Go.st (fun t k => XS.land X0.here hx rfl (hb hby d3_87) rfl k) ?_
  show Go _ _ _ _ T0 (mkF m 88 #[.val (.ref a1), .val (.int p2)] [(.long ((w6.toInt64) &&& (255 : Int64))), (.long (((((((w0.toInt64) <<< ((56 : Int32) &&& 0x3f).toInt64) ||| (((w1.toInt64) &&& (255 : Int64)) <<< ((48 : Int32) &&& 0x3f).toInt64)) ||| (((w2.toInt64) &&& (255 : Int64)) <<< ((40 : Int32) &&& 0x3f).toInt64)) ||| (((w3.toInt64) &&& (255 : Int64)) <<< ((32 : Int32) &&& 0x3f).toInt64)) ||| (((w4.toInt64) &&& (255 : Int64)) <<< ((24 : Int32) &&& 0x3f).toInt64)) ||| (((w5.toInt64) &&& (255 : Int64)) <<< ((16 : Int32) &&& 0x3f).toInt64)))])
  refine Go.st (fun t k => XS.bipush X0.here hx rfl (hb hby d3_88) k) ?_
  show Go _ _ _ _ T0 (mkF m 90 #[.val (.ref a1), .val (.int p2)] [(.int (8 : Int32)), (.long ((w6.toInt64) &&& (255 : Int64))), (.long (((((((w0.toInt64) <<< ((56 : Int32) &&& 0x3f).toInt64) ||| (((w1.toInt64) &&& (255 : Int64)) <<< ((48 : Int32) &&& 0x3f).toInt64)) ||| (((w2.toInt64) &&& (255 : Int64)) <<< ((40 : Int32) &&& 0x3f).toInt64)) ||| (((w3.toInt64) &&& (255 : Int64)) <<< ((32 : Int32) &&& 0x3f).toInt64)) ||| (((w4.toInt64) &&& (255 : Int64)) <<< ((24 : Int32) &&& 0x3f).toInt64)) ||| (((w5.toInt64) &&& (255 : Int64)) <<< ((16 : Int32) &&& 0x3f).toInt64)))])
  refine Go.st (fun t k => XS.lshl X0.here hx rfl (hb hby d3_90) rfl k) ?_
  show Go _ _ _ _ T0 (mkF m 91 #[.val (.ref a1), .val (.int p2)] [(.long (((w6.toInt64) &&& (255 : Int64)) <<< ((8 : Int32) &&& 0x3f).toInt64)), (.long (((((((w0.toInt64) <<< ((56 : Int32) &&& 0x3f).toInt64) ||| (((w1.toInt64) &&& (255 : Int64)) <<< ((48 : Int32) &&& 0x3f).toInt64)) ||| (((w2.toInt64) &&& (255 : Int64)) <<< ((40 : Int32) &&& 0x3f).toInt64)) ||| (((w3.toInt64) &&& (255 : Int64)) <<< ((32 : Int32) &&& 0x3f).toInt64)) ||| (((w4.toInt64) &&& (255 : Int64)) <<< ((24 : Int32) &&& 0x3f).toInt64)) ||| (((w5.toInt64) &&& (255 : Int64)) <<< ((16 : Int32) &&& 0x3f).toInt64)))])
  refine Go.st (fun t k => XS.lor X0.here hx rfl (hb hby d3_91) rfl k) ?_
  show Go _ _ _ _ T0 (mkF m 92 #[.val (.ref a1), .val (.int p2)] [(.long ((((((((w0.toInt64) <<< ((56 : Int32) &&& 0x3f).toInt64) ||| (((w1.toInt64) &&& (255 : Int64)) <<< ((48 : Int32) &&& 0x3f).toInt64)) ||| (((w2.toInt64) &&& (255 : Int64)) <<< ((40 : Int32) &&& 0x3f).toInt64)) ||| (((w3.toInt64) &&& (255 : Int64)) <<< ((32 : Int32) &&& 0x3f).toInt64)) ||| (((w4.toInt64) &&& (255 : Int64)) <<< ((24 : Int32) &&& 0x3f).toInt64)) ||| (((w5.toInt64) &&& (255 : Int64)) <<< ((16 : Int32) &&& 0x3f).toInt64)) ||| (((w6.toInt64) &&& (255 : Int64)) <<< ((8 : Int32) &&& 0x3f).toInt64)))])
  refine Go.st (fun t k => XS.aloadN X0.here hx rfl (hb hby d3_92) rfl rfl k) ?_
  show Go _ _ _ _ T0 (mkF m 93 #[.val (.ref a1), .val (.int p2)] [(.ref a1), (.long ((((((((w0.toInt64) <<< ((56 : Int32) &&& 0x3f).toInt64) ||| (((w1.toInt64) &&& (255 : Int64)) <<< ((48 : Int32) &&& 0x3f).toInt64)) ||| (((w2.toInt64) &&& (255 : Int64)) <<< ((40 : Int32) &&& 0x3f).toInt64)) ||| (((w3.toInt64) &&& (255 : Int64)) <<< ((32 : Int32) &&& 0x3f).toInt64)) ||| (((w4.toInt64) &&& (255 : Int64)) <<< ((24 : Int32) &&& 0x3f).toInt64)) ||| (((w5.toInt64) &&& (255 : Int64)) <<< ((16 : Int32) &&& 0x3f).toInt64)) ||| (((w6.toInt64) &&& (255 : Int64)) <<< ((8 : Int32) &&& 0x3f).toInt64)))])
  refine Go.st (fun t k => XS.iloadN X0.here hx rfl (hb hby d3_93) rfl k) ?_
  show Go _ _ _ _ T0 (mkF m 94 #[.val (.ref a1), .val (.int p2)] [(.int p2), (.ref a1), (.long ((((((((w0.toInt64) <<< ((56 : Int32) &&& 0x3f).toInt64) ||| (((w1.toInt64) &&& (255 : Int64)) <<< ((48 : Int32) &&& 0x3f).toInt64)) ||| (((w2.toInt64) &&& (255 : Int64)) <<< ((40 : Int32) &&& 0x3f).toInt64)) ||| (((w3.toInt64) &&& (255 : Int64)) <<< ((32 : Int32) &&& 0x3f).toInt64)) ||| (((w4.toInt64) &&& (255 : Int64)) <<< ((24 : Int32) &&& 0x3f).toInt64)) ||| (((w5.toInt64) &&& (255 : Int64)) <<< ((16 : Int32) &&& 0x3f).toInt64)) ||| (((w6.toInt64) &&& (255 : Int64)) <<< ((8 : Int32) &&& 0x3f).toInt64)))])
  refine Go.st (fun t k => XS.bipush X0.here hx rfl (hb hby d3_94) k) ?_
  show Go _ _ _ _ T0 (mkF m 96 #[.val (.ref a1), .val (.int p2)] [(.int (7 : Int32)), (.int p2), (.ref a1), (.long ((((((((w0.toInt64) <<< ((56 : Int32) &&& 0x3f).toInt64) ||| (((w1.toInt64) &&& (255 : Int64)) <<< ((48 : Int32) &&& 0x3f).toInt64)) ||| (((w2.toInt64) &&& (255 : Int64)) <<< ((40 : Int32) &&& 0x3f).toInt64)) ||| (((w3.toInt64) &&& (255 : Int64)) <<< ((32 : Int32) &&& 0x3f).toInt64)) ||| (((w4.toInt64) &&& (255 : Int64)) <<< ((24 : Int32) &&& 0x3f).toInt64)) ||| (((w5.toInt64) &&& (255 : Int64)) <<< ((16 : Int32) &&& 0x3f).toInt64)) ||| (((w6.toInt64) &&& (255 : Int64)) <<< ((8 : Int32) &&& 0x3f).toInt64)))])
  refine Go.st (fun t k => XS.iadd X0.here hx rfl (hb hby d3_96) rfl k) ?_
  show Go _ _ _ _ T0 (mkF m 97 #[.val (.ref a1), .val (.int p2)] [(.int (p2 + (7 : Int32))), (.ref a1), (.long ((((((((w0.toInt64) <<< ((56 : Int32) &&& 0x3f).toInt64) ||| (((w1.toInt64) &&& (255 : Int64)) <<< ((48 : Int32) &&& 0x3f).toInt64)) ||| (((w2.toInt64) &&& (255 : Int64)) <<< ((40 : Int32) &&& 0x3f).toInt64)) ||| (((w3.toInt64) &&& (255 : Int64)) <<< ((32 : Int32) &&& 0x3f).toInt64)) ||| (((w4.toInt64) &&& (255 : Int64)) <<< ((24 : Int32) &&& 0x3f).toInt64)) ||| (((w5.toInt64) &&& (255 : Int64)) <<< ((16 : Int32) &&& 0x3f).toInt64)) ||| (((w6.toInt64) &&& (255 : Int64)) <<< ((8 : Int32) &&& 0x3f).toInt64)))])
  refine goLdB X0 hx hZ e0 V_a1 (v := (.int w7)) (g := (mkF m 97 #[.val (.ref a1), .val (.int p2)] [(.int (p2 + (7 : Int32))), (.ref a1), (.long ((((((((w0.toInt64) <<< ((56 : Int32) &&& 0x3f).toInt64) ||| (((w1.toInt64) &&& (255 : Int64)) <<< ((48 : Int32) &&& 0x3f).toInt64)) ||| (((w2.toInt64) &&& (255 : Int64)) <<< ((40 : Int32) &&& 0x3f).toInt64)) ||| (((w3.toInt64) &&& (255 : Int64)) <<< ((32 : Int32) &&& 0x3f).toInt64)) ||| (((w4.toInt64) &&& (255 : Int64)) <<< ((24 : Int32) &&& 0x3f).toInt64)) ||| (((w5.toInt64) &&& (255 : Int64)) <<< ((16 : Int32) &&& 0x3f).toInt64)) ||| (((w6.toInt64) &&& (255 : Int64)) <<< ((8 : Int32) &&& 0x3f).toInt64)))])) rfl rfl (hb hby d3_97) I7 H7 ?_
  show Go _ _ _ _ T0 (mkF m 98 #[.val (.ref a1), .val (.int p2)] [(.int w7), (.long ((((((((w0.toInt64) <<< ((56 : Int32) &&& 0x3f).toInt64) ||| (((w1.toInt64) &&& (255 : Int64)) <<< ((48 : Int32) &&& 0x3f).toInt64)) ||| (((w2.toInt64) &&& (255 : Int64)) <<< ((40 : Int32) &&& 0x3f).toInt64)) ||| (((w3.toInt64) &&& (255 : Int64)) <<< ((32 : Int32) &&& 0x3f).toInt64)) ||| (((w4.toInt64) &&& (255 : Int64)) <<< ((24 : Int32) &&& 0x3f).toInt64)) ||| (((w5.toInt64) &&& (255 : Int64)) <<< ((16 : Int32) &&& 0x3f).toInt64)) ||| (((w6.toInt64) &&& (255 : Int64)) <<< ((8 : Int32) &&& 0x3f).toInt64)))])
  refine Go.st (fun t k => XS.i2l X0.here hx rfl (hb hby d3_98) rfl k) ?_
  show Go _ _ _ _ T0 (mkF m 99 #[.val (.ref a1), .val (.int p2)] [(.long (w7.toInt64)), (.long ((((((((w0.toInt64) <<< ((56 : Int32) &&& 0x3f).toInt64) ||| (((w1.toInt64) &&& (255 : Int64)) <<< ((48 : Int32) &&& 0x3f).toInt64)) ||| (((w2.toInt64) &&& (255 : Int64)) <<< ((40 : Int32) &&& 0x3f).toInt64)) ||| (((w3.toInt64) &&& (255 : Int64)) <<< ((32 : Int32) &&& 0x3f).toInt64)) ||| (((w4.toInt64) &&& (255 : Int64)) <<< ((24 : Int32) &&& 0x3f).toInt64)) ||| (((w5.toInt64) &&& (255 : Int64)) <<< ((16 : Int32) &&& 0x3f).toInt64)) ||| (((w6.toInt64) &&& (255 : Int64)) <<< ((8 : Int32) &&& 0x3f).toInt64)))])
  refine Go.st (X0.ldc2Long hx hown (mvT hZ (hw _ (List.mem_of_getElem? (i := 12) rfl))) (g := (mkF m 99 #[.val (.ref a1), .val (.int p2)] [(.long (w7.toInt64)), (.long ((((((((w0.toInt64) <<< ((56 : Int32) &&& 0x3f).toInt64) ||| (((w1.toInt64) &&& (255 : Int64)) <<< ((48 : Int32) &&& 0x3f).toInt64)) ||| (((w2.toInt64) &&& (255 : Int64)) <<< ((40 : Int32) &&& 0x3f).toInt64)) ||| (((w3.toInt64) &&& (255 : Int64)) <<< ((32 : Int32) &&& 0x3f).toInt64)) ||| (((w4.toInt64) &&& (255 : Int64)) <<< ((24 : Int32) &&& 0x3f).toInt64)) ||| (((w5.toInt64) &&& (255 : Int64)) <<< ((16 : Int32) &&& 0x3f).toInt64)) ||| (((w6.toInt64) &&& (255 : Int64)) <<< ((8 : Int32) &&& 0x3f).toInt64)))])) rfl (hb hby d3_99)) ?_
  show Go _ _ _ _ T0 (mkF m 102 #[.val (.ref a1), .val (.int p2)] [(.long (255 : Int64)), (.long (w7.toInt64)), (.long ((((((((w0.toInt64) <<< ((56 : Int32) &&& 0x3f).toInt64) ||| (((w1.toInt64) &&& (255 : Int64)) <<< ((48 : Int32) &&& 0x3f).toInt64)) ||| (((w2.toInt64) &&& (255 : Int64)) <<< ((40 : Int32) &&& 0x3f).toInt64)) ||| (((w3.toInt64) &&& (255 : Int64)) <<< ((32 : Int32) &&& 0x3f).toInt64)) ||| (((w4.toInt64) &&& (255 : Int64)) <<< ((24 : Int32) &&& 0x3f).toInt64)) ||| (((w5.toInt64) &&& (255 : Int64)) <<< ((16 : Int32) &&& 0x3f).toInt64)) ||| (((w6.toInt64) &&& (255 : Int64)) <<< ((8 : Int32) &&& 0x3f).toInt64)))])
  refine Go.st (fun t k => XS.land X0.here hx rfl (hb hby d3_102) rfl k) ?_
  show Go _ _ _ _ T0 (mkF m 103 #[.val (.ref a1), .val (.int p2)] [(.long ((w7.toInt64) &&& (255 : Int64))), (.long ((((((((w0.toInt64) <<< ((56 : Int32) &&& 0x3f).toInt64) ||| (((w1.toInt64) &&& (255 : Int64)) <<< ((48 : Int32) &&& 0x3f).toInt64)) ||| (((w2.toInt64) &&& (255 : Int64)) <<< ((40 : Int32) &&& 0x3f).toInt64)) ||| (((w3.toInt64) &&& (255 : Int64)) <<< ((32 : Int32) &&& 0x3f).toInt64)) ||| (((w4.toInt64) &&& (255 : Int64)) <<< ((24 : Int32) &&& 0x3f).toInt64)) ||| (((w5.toInt64) &&& (255 : Int64)) <<< ((16 : Int32) &&& 0x3f).toInt64)) ||| (((w6.toInt64) &&& (255 : Int64)) <<< ((8 : Int32) &&& 0x3f).toInt64)))])
  refine Go.st (fun t k => XS.lor X0.here hx rfl (hb hby d3_103) rfl k) ?_
  show Go _ _ _ _ T0 (mkF m 104 #[.val (.ref a1), .val (.int p2)] [(.long (((((((((w0.toInt64) <<< ((56 : Int32) &&& 0x3f).toInt64) ||| (((w1.toInt64) &&& (255 : Int64)) <<< ((48 : Int32) &&& 0x3f).toInt64)) ||| (((w2.toInt64) &&& (255 : Int64)) <<< ((40 : Int32) &&& 0x3f).toInt64)) ||| (((w3.toInt64) &&& (255 : Int64)) <<< ((32 : Int32) &&& 0x3f).toInt64)) ||| (((w4.toInt64) &&& (255 : Int64)) <<< ((24 : Int32) &&& 0x3f).toInt64)) ||| (((w5.toInt64) &&& (255 : Int64)) <<< ((16 : Int32) &&& 0x3f).toInt64)) ||| (((w6.toInt64) &&& (255 : Int64)) <<< ((8 : Int32) &&& 0x3f).toInt64)) ||| ((w7.toInt64) &&& (255 : Int64))))])
  exact goJ X0 hx hret hlk (hb hby d3_104) (by decide) (by decide) ⟨rfl, N0, e0⟩
theorem d4_0 : decode prog_11_method_6_code 0 = .ok (.aload_n 0, 1) := by decide +kernel
theorem d4_1 : decode prog_11_method_6_code 1 = .ok (.iload_n 1, 1) := by decide +kernel
theorem d4_2 : decode prog_11_method_6_code 2 = .ok (.baload, 1) := by decide +kernel
theorem d4_3 : decode prog_11_method_6_code 3 = .ok (.bipush 24, 2) := by decide +kernel
theorem d4_5 : decode prog_11_method_6_code 5 = .ok (.ishl, 1) := by decide +kernel
theorem d4_6 : decode prog_11_method_6_code 6 = .ok (.aload_n 0, 1) := by decide +kernel
theorem d4_7 : decode prog_11_method_6_code 7 = .ok (.iload_n 1, 1) := by decide +kernel
theorem d4_8 : decode prog_11_method_6_code 8 = .ok (.iconst 1, 1) := by decide +kernel
theorem d4_9 : decode prog_11_method_6_code 9 = .ok (.iadd, 1) := by decide +kernel
theorem d4_10 : decode prog_11_method_6_code 10 = .ok (.baload, 1) := by decide +kernel
theorem d4_11 : decode prog_11_method_6_code 11 = .ok (.sipush 255, 3) := by decide +kernel
theorem d4_14 : decode prog_11_method_6_code 14 = .ok (.iand, 1) := by decide +kernel
theorem d4_15 : decode prog_11_method_6_code 15 = .ok (.bipush 16, 2) := by decide +kernel
theorem d4_17 : decode prog_11_method_6_code 17 = .ok (.ishl, 1) := by decide +kernel
theorem d4_18 : decode prog_11_method_6_code 18 = .ok (.ior, 1) := by decide +kernel
theorem d4_19 : decode prog_11_method_6_code 19 = .ok (.aload_n 0, 1) := by decide +kernel
theorem d4_20 : decode prog_11_method_6_code 20 = .ok (.iload_n 1, 1) := by decide +kernel
theorem d4_21 : decode prog_11_method_6_code 21 = .ok (.iconst 2, 1) := by decide +kernel
theorem d4_22 : decode prog_11_method_6_code 22 = .ok (.iadd, 1) := by decide +kernel
theorem d4_23 : decode prog_11_method_6_code 23 = .ok (.baload, 1) := by decide +kernel
theorem d4_24 : decode prog_11_method_6_code 24 = .ok (.sipush 255, 3) := by decide +kernel
theorem d4_27 : decode prog_11_method_6_code 27 = .ok (.iand, 1) := by decide +kernel
theorem d4_28 : decode prog_11_method_6_code 28 = .ok (.bipush 8, 2) := by decide +kernel
theorem d4_30 : decode prog_11_method_6_code 30 = .ok (.ishl, 1) := by decide +kernel
theorem d4_31 : decode prog_11_method_6_code 31 = .ok (.ior, 1) := by decide +kernel
theorem d4_32 : decode prog_11_method_6_code 32 = .ok (.aload_n 0, 1) := by decide +kernel
theorem d4_33 : decode prog_11_method_6_code 33 = .ok (.iload_n 1, 1) := by decide +kernel
theorem d4_34 : decode prog_11_method_6_code 34 = .ok (.iconst 3, 1) := by decide +kernel
theorem d4_35 : decode prog_11_method_6_code 35 = .ok (.iadd, 1) := by decide +kernel
theorem d4_36 : decode prog_11_method_6_code 36 = .ok (.baload, 1) := by decide +kernel
theorem d4_37 : decode prog_11_method_6_code 37 = .ok (.sipush 255, 3) := by decide +kernel
theorem d4_40 : decode prog_11_method_6_code 40 = .ok (.iand, 1) := by decide +kernel
theorem d4_41 : decode prog_11_method_6_code 41 = .ok (.ior, 1) := by decide +kernel
theorem d4_42 : decode prog_11_method_6_code 42 = .ok (.ireturn, 1) := by decide +kernel
theorem pn_4 : plainName "wardlog/Bytes" = true := by first | (simp [plainName, overriddenIn]; done) | decide +kernel
theorem ef_4 (m : MethodId) (x0 : Addr) (x1 : Int32) : entryFrame m #[(.ref x0), (.int x1)] 2 = mkF m 0 #[.val (.ref x0), .val (.int x1)] [] := by first | (simp [entryFrame, mkF, argsToLocals, Value.category]; done) | rfl
set_option maxRecDepth 65536 in
set_option maxHeartbeats 40000000 in
theorem rm4 (l : Launch) (Z : State) (a0 : Array Value) (hw : ∀ d ∈ tables_1, d.before a0 Z = true) (a1 : Addr) (p2 : Int32) (h0 : Heap) (n0 : Nat) (Z0 : n0 ≤ h0.size) (k n : Nat) (f : Nat → Value) (w0 w1 w2 w3 : Int32) (V_a1 : BA Z h0 a1 .byte n f) (I0 : Ix p2 k n) (I1 : Ix (p2 + 1) (k + 1) n) (I2 : Ix (p2 + 2) (k + 2) n) (I3 : Ix (p2 + 3) (k + 3) n) (H0 : f k = .int w0) (H1 : f (k + 1) = .int w1) (H2 : f (k + 2) = .int w2) (H3 : f (k + 3) = .int w3) :
    Does l Z (⟨"wardlog/Bytes", "getInt", "([BI)I"⟩ : MethodName) prog_11_method_6_code 2 (some .int) ({ frames := 0, cells := 0, slots := 0, locals := 0 } : Room) #[(.ref a1), (.int p2)] h0 (fun v h L => v = some (.int (own_get w0 w1 w2 w3)) ∧ Fr n0 L ∧ h = h0) := by
  refine Does.body (plainFor_of_name pn_4) ?_
  intro p e s m below meth c T0 X0 hx hZ hby hml hown hnm hret hlk e0
  replace hown : s.vm.findClass "wardlog/Bytes" = some m.cls := hown
  have N0 := Fr.nil n0
  refine Go.frame (ef_4 m a1 p2) ?_
  show Go _ _ _ _ T0 (mkF m 0 #[.val (.ref a1), .val (.int p2)] [])
  refine Go.st (fun t k => XS.aloadN X0.here hx rfl (hb hby d4_0) rfl rfl k) ?_
  show Go _ _ _ _ T0 (mkF m 1 #[.val (.ref a1), .val (.int p2)] [(.ref a1)])
  refine Go.st (fun t k => XS.iloadN X0.here hx rfl (hb hby d4_1) rfl k) ?_
  show Go _ _ _ _ T0 (mkF m 2 #[.val (.ref a1), .val (.int p2)] [(.int p2), (.ref a1)])
  refine goLdB X0 hx hZ e0 V_a1 (v := (.int w0)) (g := (mkF m 2 #[.val (.ref a1), .val (.int p2)] [(.int p2), (.ref a1)])) rfl rfl (hb hby d4_2) I0 H0 ?_
  show Go _ _ _ _ T0 (mkF m 3 #[.val (.ref a1), .val (.int p2)] [(.int w0)])
  refine Go.st (fun t k => XS.bipush X0.here hx rfl (hb hby d4_3) k) ?_
  show Go _ _ _ _ T0 (mkF m 5 #[.val (.ref a1), .val (.int p2)] [(.int (24 : Int32)), (.int w0)])
  refine Go.st (fun t k => XS.ishl X0.here hx rfl (hb hby d4_5) rfl k) ?_
  show Go _ _ _ _ T0 (mkF m 6 #[.val (.ref a1), .val (.int p2)] [(.int (w0 <<< ((24 : Int32) &&& 31)))])
  refine Go.st (fun t k => XS.aloadN X0.here hx rfl (hb hby d4_6) rfl rfl k) ?_
  show Go _ _ _ _ T0 (mkF m 7 #[.val (.ref a1), .val (.int p2)] [(.ref a1), (.int (w0 <<< ((24 : Int32) &&& 31)))])
  refine Go.st (fun t k => XS.iloadN X0.here hx rfl (hb hby d4_7) rfl k) ?_
  show Go _ _ _ _ T0 (mkF m 8 #[.val (.ref a1), .val (.int p2)] [(.int p2), (.ref a1), (.int (w0 <<< ((24 : Int32) &&& 31)))])
  refine Go.st (fun t k => XS.iconst X0.here hx rfl (hb hby d4_8) k) ?_
  show Go _ _ _ _ T0 (mkF m 9 #[.val (.ref a1), .val (.int p2)] [(.int (1 : Int32)), (.int p2), (.ref a1), (.int (w0 <<< ((24 : Int32) &&& 31)))])
  refine Go.st (fun t k => XS.iadd X0.here hx rfl (hb hby d4_9) rfl k) ?_
  show Go _ _ _ _ T0 (mkF m 10 #[.val (.ref a1), .val (.int p2)] [(.int (p2 + (1 : Int32))), (.ref a1), (.int (w0 <<< ((24 : Int32) &&& 31)))])
  refine goLdB X0 hx hZ e0 V_a1 (v := (.int w1)) (g := (mkF m 10 #[.val (.ref a1), .val (.int p2)] [(.int (p2 + (1 : Int32))), (.ref a1), (.int (w0 <<< ((24 : Int32) &&& 31)))])) rfl rfl (hb hby d4_10) I1 H1 ?_
  show Go _ _ _ _ T0 (mkF m 11 #[.val (.ref a1), .val (.int p2)] [(.int w1), (.int (w0 <<< ((24 : Int32) &&& 31)))])
  refine Go.st (fun t k => XS.sipush X0.here hx rfl (hb hby d4_11) k) ?_
  show Go _ _ _ _ T0 (mkF m 14 #[.val (.ref a1), .val (.int p2)] [(.int (255 : Int32)), (.int w1), (.int (w0 <<< ((24 : Int32) &&& 31)))])
  refine Go.st (fun t k => XS.iand X0.here hx rfl (hb hby d4_14) rfl k) ?_
  show Go _ _ _ _ T0 (mkF m 15 #[.val (.ref a1), .val (.int p2)] [(.int (w1 &&& (255 : Int32))), (.int (w0 <<< ((24 : Int32) &&& 31)))])
  refine Go.st (fun t k => XS.bipush X0.here hx rfl (hb hby d4_15) k) ?_
  show Go _ _ _ _ T0 (mkF m 17 #[.val (.ref a1), .val (.int p2)] [(.int (16 : Int32)), (.int (w1 &&& (255 : Int32))), (.int (w0 <<< ((24 : Int32) &&& 31)))])
  refine Go.st (fun t k => XS.ishl X0.here hx rfl (hb hby d4_17) rfl k) ?_
  show Go _ _ _ _ T0 (mkF m 18 #[.val (.ref a1), .val (.int p2)] [(.int ((w1 &&& (255 : Int32)) <<< ((16 : Int32) &&& 31))), (.int (w0 <<< ((24 : Int32) &&& 31)))])
  refine Go.st (fun t k => XS.ior X0.here hx rfl (hb hby d4_18) rfl k) ?_
  show Go _ _ _ _ T0 (mkF m 19 #[.val (.ref a1), .val (.int p2)] [(.int ((w0 <<< ((24 : Int32) &&& 31)) ||| ((w1 &&& (255 : Int32)) <<< ((16 : Int32) &&& 31))))])
  refine Go.st (fun t k => XS.aloadN X0.here hx rfl (hb hby d4_19) rfl rfl k) ?_
  show Go _ _ _ _ T0 (mkF m 20 #[.val (.ref a1), .val (.int p2)] [(.ref a1), (.int ((w0 <<< ((24 : Int32) &&& 31)) ||| ((w1 &&& (255 : Int32)) <<< ((16 : Int32) &&& 31))))])
  refine Go.st (fun t k => XS.iloadN X0.here hx rfl (hb hby d4_20) rfl k) ?_
  show Go _ _ _ _ T0 (mkF m 21 #[.val (.ref a1), .val (.int p2)] [(.int p2), (.ref a1), (.int ((w0 <<< ((24 : Int32) &&& 31)) ||| ((w1 &&& (255 : Int32)) <<< ((16 : Int32) &&& 31))))])
  refine Go.st (fun t k => XS.iconst X0.here hx rfl (hb hby d4_21) k) ?_
  show Go _ _ _ _ T0 (mkF m 22 #[.val (.ref a1), .val (.int p2)] [(.int (2 : Int32)), (.int p2), (.ref a1), (.int ((w0 <<< ((24 : Int32) &&& 31)) ||| ((w1 &&& (255 : Int32)) <<< ((16 : Int32) &&& 31))))])
  refine Go.st (fun t k => XS.iadd X0.here hx rfl (hb hby d4_22) rfl k) ?_
  show Go _ _ _ _ T0 (mkF m 23 #[.val (.ref a1), .val (.int p2)] [(.int (p2 + (2 : Int32))), (.ref a1), (.int ((w0 <<< ((24 : Int32) &&& 31)) ||| ((w1 &&& (255 : Int32)) <<< ((16 : Int32) &&& 31))))])
  refine goLdB X0 hx hZ e0 V_a1 (v := (.int w2)) (g := (mkF m 23 #[.val (.ref a1), .val (.int p2)] [(.int (p2 + (2 : Int32))), (.ref a1), (.int ((w0 <<< ((24 : Int32) &&& 31)) ||| ((w1 &&& (255 : Int32)) <<< ((16 : Int32) &&& 31))))])) rfl rfl (hb hby d4_23) I2 H2 ?_
  show Go _ _ _ _ T0 (mkF m 24 #[.val (.ref a1), .val (.int p2)] [(.int w2), (.int ((w0 <<< ((24 : Int32) &&& 31)) ||| ((w1 &&& (255 : Int32)) <<< ((16 : Int32) &&& 31))))])
  refine Go.st (fun t k => XS.sipush X0.here hx rfl (hb hby d4_24) k) ?_
  show Go _ _ _ _ T0 (mkF m 27 #[.val (.ref a1), .val (.int p2)] [(.int (255 : Int32)), (.int w2), (.int ((w0 <<< ((24 : Int32) &&& 31)) ||| ((w1 &&& (255 : Int32)) <<< ((16 : Int32) &&& 31))))])
  refine Go.st (fun t k => XS.iand X0.here hx rfl (hb hby d4_27) rfl k) ?_
  show Go _ _ _ _ T0 (mkF m 28 #[.val (.ref a1), .val (.int p2)] [(.int (w2 &&& (255 : Int32))), (.int ((w0 <<< ((24 : Int32) &&& 31)) ||| ((w1 &&& (255 : Int32)) <<< ((16 : Int32) &&& 31))))])
  refine Go.st (fun t k => XS.bipush X0.here hx rfl (hb hby d4_28) k) ?_
  show Go _ _ _ _ T0 (mkF m 30 #[.val (.ref a1), .val (.int p2)] [(.int (8 : Int32)), (.int (w2 &&& (255 : Int32))), (.int ((w0 <<< ((24 : Int32) &&& 31)) ||| ((w1 &&& (255 : Int32)) <<< ((16 : Int32) &&& 31))))])
  refine Go.st (fun t k => XS.ishl X0.here hx rfl (hb hby d4_30) rfl k) ?_
  show Go _ _ _ _ T0 (mkF m 31 #[.val (.ref a1), .val (.int p2)] [(.int ((w2 &&& (255 : Int32)) <<< ((8 : Int32) &&& 31))), (.int ((w0 <<< ((24 : Int32) &&& 31)) ||| ((w1 &&& (255 : Int32)) <<< ((16 : Int32) &&& 31))))])
  refine Go.st (fun t k => XS.ior X0.here hx rfl (hb hby d4_31) rfl k) ?_
  show Go _ _ _ _ T0 (mkF m 32 #[.val (.ref a1), .val (.int p2)] [(.int (((w0 <<< ((24 : Int32) &&& 31)) ||| ((w1 &&& (255 : Int32)) <<< ((16 : Int32) &&& 31))) ||| ((w2 &&& (255 : Int32)) <<< ((8 : Int32) &&& 31))))])
  refine Go.st (fun t k => XS.aloadN X0.here hx rfl (hb hby d4_32) rfl rfl k) ?_
  show Go _ _ _ _ T0 (mkF m 33 #[.val (.ref a1), .val (.int p2)] [(.ref a1), (.int (((w0 <<< ((24 : Int32) &&& 31)) ||| ((w1 &&& (255 : Int32)) <<< ((16 : Int32) &&& 31))) ||| ((w2 &&& (255 : Int32)) <<< ((8 : Int32) &&& 31))))])
  refine Go.st (fun t k => XS.iloadN X0.here hx rfl (hb hby d4_33) rfl k) ?_
  show Go _ _ _ _ T0 (mkF m 34 #[.val (.ref a1), .val (.int p2)] [(.int p2), (.ref a1), (.int (((w0 <<< ((24 : Int32) &&& 31)) ||| ((w1 &&& (255 : Int32)) <<< ((16 : Int32) &&& 31))) ||| ((w2 &&& (255 : Int32)) <<< ((8 : Int32) &&& 31))))])
  refine Go.st (fun t k => XS.iconst X0.here hx rfl (hb hby d4_34) k) ?_
  show Go _ _ _ _ T0 (mkF m 35 #[.val (.ref a1), .val (.int p2)] [(.int (3 : Int32)), (.int p2), (.ref a1), (.int (((w0 <<< ((24 : Int32) &&& 31)) ||| ((w1 &&& (255 : Int32)) <<< ((16 : Int32) &&& 31))) ||| ((w2 &&& (255 : Int32)) <<< ((8 : Int32) &&& 31))))])
  refine Go.st (fun t k => XS.iadd X0.here hx rfl (hb hby d4_35) rfl k) ?_
  show Go _ _ _ _ T0 (mkF m 36 #[.val (.ref a1), .val (.int p2)] [(.int (p2 + (3 : Int32))), (.ref a1), (.int (((w0 <<< ((24 : Int32) &&& 31)) ||| ((w1 &&& (255 : Int32)) <<< ((16 : Int32) &&& 31))) ||| ((w2 &&& (255 : Int32)) <<< ((8 : Int32) &&& 31))))])
  refine goLdB X0 hx hZ e0 V_a1 (v := (.int w3)) (g := (mkF m 36 #[.val (.ref a1), .val (.int p2)] [(.int (p2 + (3 : Int32))), (.ref a1), (.int (((w0 <<< ((24 : Int32) &&& 31)) ||| ((w1 &&& (255 : Int32)) <<< ((16 : Int32) &&& 31))) ||| ((w2 &&& (255 : Int32)) <<< ((8 : Int32) &&& 31))))])) rfl rfl (hb hby d4_36) I3 H3 ?_
  show Go _ _ _ _ T0 (mkF m 37 #[.val (.ref a1), .val (.int p2)] [(.int w3), (.int (((w0 <<< ((24 : Int32) &&& 31)) ||| ((w1 &&& (255 : Int32)) <<< ((16 : Int32) &&& 31))) ||| ((w2 &&& (255 : Int32)) <<< ((8 : Int32) &&& 31))))])
  refine Go.st (fun t k => XS.sipush X0.here hx rfl (hb hby d4_37) k) ?_
  show Go _ _ _ _ T0 (mkF m 40 #[.val (.ref a1), .val (.int p2)] [(.int (255 : Int32)), (.int w3), (.int (((w0 <<< ((24 : Int32) &&& 31)) ||| ((w1 &&& (255 : Int32)) <<< ((16 : Int32) &&& 31))) ||| ((w2 &&& (255 : Int32)) <<< ((8 : Int32) &&& 31))))])
  refine Go.st (fun t k => XS.iand X0.here hx rfl (hb hby d4_40) rfl k) ?_
  show Go _ _ _ _ T0 (mkF m 41 #[.val (.ref a1), .val (.int p2)] [(.int (w3 &&& (255 : Int32))), (.int (((w0 <<< ((24 : Int32) &&& 31)) ||| ((w1 &&& (255 : Int32)) <<< ((16 : Int32) &&& 31))) ||| ((w2 &&& (255 : Int32)) <<< ((8 : Int32) &&& 31))))])
  refine Go.st (fun t k => XS.ior X0.here hx rfl (hb hby d4_41) rfl k) ?_
  show Go _ _ _ _ T0 (mkF m 42 #[.val (.ref a1), .val (.int p2)] [(.int ((((w0 <<< ((24 : Int32) &&& 31)) ||| ((w1 &&& (255 : Int32)) <<< ((16 : Int32) &&& 31))) ||| ((w2 &&& (255 : Int32)) <<< ((8 : Int32) &&& 31))) ||| (w3 &&& (255 : Int32))))])
  exact goI X0 hx hret hlk (hb hby d4_42) (by decide) (by decide) ⟨rfl, N0, e0⟩
theorem d5_0 : decode method_3_code 0 = .ok (.iload_n 3, 1) := by decide +kernel
theorem d5_1 : decode method_3_code 1 = .ok (.iload_n 1, 1) := by decide +kernel
theorem d5_2 : decode method_3_code 2 = .ok (.if_icmp .lt 11, 3) := by decide +kernel
theorem d5_5 : decode method_3_code 5 = .ok (.iload_n 3, 1) := by decide +kernel
theorem d5_6 : decode method_3_code 6 = .ok (.iload_n 1, 1) := by decide +kernel
theorem d5_7 : decode method_3_code 7 = .ok (.bipush 8, 2) := by decide +kernel
theorem d5_9 : decode method_3_code 9 = .ok (.iadd, 1) := by decide +kernel
theorem d5_10 : decode method_3_code 10 = .ok (.if_icmp .lt 14, 3) := by decide +kernel
theorem d5_13 : decode method_3_code 13 = .ok (.aload_n 0, 1) := by decide +kernel
theorem d5_14 : decode method_3_code 14 = .ok (.iload_n 3, 1) := by decide +kernel
theorem d5_15 : decode method_3_code 15 = .ok (.baload, 1) := by decide +kernel
theorem d5_16 : decode method_3_code 16 = .ok (.iload_n 2, 1) := by decide +kernel
theorem d5_17 : decode method_3_code 17 = .ok (.iload_n 3, 1) := by decide +kernel
theorem d5_18 : decode method_3_code 18 = .ok (.invokestatic 7, 3) := by decide +kernel
theorem d5_21 : decode method_3_code 21 = .ok (.if_icmp .ne 7, 3) := by decide +kernel
theorem d5_24 : decode method_3_code 24 = .ok (.iconst 1, 1) := by decide +kernel
theorem d5_25 : decode method_3_code 25 = .ok (.goto 4, 3) := by decide +kernel
theorem d5_29 : decode method_3_code 29 = .ok (.ireturn, 1) := by decide +kernel
theorem pn_5 : plainName "wardlog/BytesPutLongPinLaw" = true := by first | (simp [plainName, overriddenIn]; done) | decide +kernel
theorem pd5_0 : parseMethodDescriptor "(II)B" = some ⟨[.int, .int], some .byte⟩ := by decide +kernel
theorem ef_5 (m : MethodId) (x0 : Addr) (x1 : Int32) (x2 : Int32) (x3 : Int32) : entryFrame m #[(.ref x0), (.int x1), (.int x2), (.int x3)] 4 = mkF m 0 #[.val (.ref x0), .val (.int x1), .val (.int x2), .val (.int x3)] [] := by first | (simp [entryFrame, mkF, argsToLocals, Value.category]; done) | rfl
set_option maxRecDepth 65536 in
set_option maxHeartbeats 40000000 in
theorem rm5 (l : Launch) (Z : State) (a0 : Array Value) (hw : ∀ d ∈ tables_1, d.before a0 Z = true) (a1 : Addr) (p2 : Int32) (p3 : Int32) (p4 : Int32) (h0 : Heap) (n0 : Nat) (Z0 : n0 ≤ h0.size) (k n : Nat) (f : Nat → Value) (w0 : Int32) (V_a1 : BA Z h0 a1 .byte n f) (Ik : Ix p4 k n) (Hk : f k = .int w0) (Hs : (p4 < p2 ∨ ¬ p4 < p2 + 8) → w0 = own_sent p3 p4) :
    Does l Z (⟨"wardlog/BytesPutLongPinLaw", "kept", "([BIII)Z"⟩ : MethodName) method_3_code 4 (some .boolean) ({ frames := 1, cells := 0, slots := 0, locals := 14 } : Room) #[(.ref a1), (.int p2), (.int p3), (.int p4)] h0 (fun v h L => v = some (.int 1) ∧ Fr n0 L ∧ h = h0) := by
  refine Does.body (plainFor_of_name pn_5) ?_
  intro p e s m below meth c T0 X0 hx hZ hby hml hown hnm hret hlk e0
  replace hown : s.vm.findClass "wardlog/BytesPutLongPinLaw" = some m.cls := hown
  have N0 := Fr.nil n0
  refine Go.frame (ef_5 m a1 p2 p3 p4) ?_
  show Go _ _ _ _ T0 (mkF m 0 #[.val (.ref a1), .val (.int p2), .val (.int p3), .val (.int p4)] [])
  refine Go.st (fun t k => XS.iloadN X0.here hx rfl (hb hby d5_0) rfl k) ?_
  show Go _ _ _ _ T0 (mkF m 1 #[.val (.ref a1), .val (.int p2), .val (.int p3), .val (.int p4)] [(.int p4)])
  refine Go.st (fun t k => XS.iloadN X0.here hx rfl (hb hby d5_1) rfl k) ?_
  show Go _ _ _ _ T0 (mkF m 2 #[.val (.ref a1), .val (.int p2), .val (.int p3), .val (.int p4)] [(.int p2), (.int p4)])
  by_cases hA : p4 < p2
  ·
    refine Go.st (fun t k => XS.icmpYes X0.here hx rfl (pc0 := 2) (pc' := 13) rfl (hb hby d5_2) rfl (tlt hA).1 (by decide) (by decide) k) ?_
    show Go _ _ _ _ T0 (mkF m 13 #[.val (.ref a1), .val (.int p2), .val (.int p3), .val (.int p4)] [])
    refine Go.st (fun t k => XS.aloadN X0.here hx rfl (hb hby d5_13) rfl rfl k) ?_
    show Go _ _ _ _ T0 (mkF m 14 #[.val (.ref a1), .val (.int p2), .val (.int p3), .val (.int p4)] [(.ref a1)])
    refine Go.st (fun t k => XS.iloadN X0.here hx rfl (hb hby d5_14) rfl k) ?_
    show Go _ _ _ _ T0 (mkF m 15 #[.val (.ref a1), .val (.int p2), .val (.int p3), .val (.int p4)] [(.int p4), (.ref a1)])
    refine goLdB X0 hx hZ e0 V_a1 (v := (.int w0)) (g := (mkF m 15 #[.val (.ref a1), .val (.int p2), .val (.int p3), .val (.int p4)] [(.int p4), (.ref a1)])) rfl rfl (hb hby d5_15) Ik Hk ?_
    show Go _ _ _ _ T0 (mkF m 16 #[.val (.ref a1), .val (.int p2), .val (.int p3), .val (.int p4)] [(.int w0)])
    refine Go.st (fun t k => XS.iloadN X0.here hx rfl (hb hby d5_16) rfl k) ?_
    show Go _ _ _ _ T0 (mkF m 17 #[.val (.ref a1), .val (.int p2), .val (.int p3), .val (.int p4)] [(.int p3), (.int w0)])
    refine Go.st (fun t k => XS.iloadN X0.here hx rfl (hb hby d5_17) rfl k) ?_
    show Go _ _ _ _ T0 (mkF m 18 #[.val (.ref a1), .val (.int p2), .val (.int p3), .val (.int p4)] [(.int p4), (.int p3), (.int w0)])
    refine goS X0 hx hZ (y := (⟨"wardlog/BytesPutLongPinLaw", "sent", "(II)B"⟩ : MethodName)) hown (hw _ (List.mem_of_getElem? (i := 1) rfl)) (hw _ (List.mem_of_getElem? (i := 2) rfl)) (hw _ (List.mem_of_getElem? (i := 3) rfl)) (hw _ (List.mem_of_getElem? (i := 4) rfl)) (by decide) (rm1 l Z a0 hw p3 p4 h0 n0 Z0) e0 N0 1 (by decide) (by decide) (by decide) (by decide) (g := (mkF m 18 #[.val (.ref a1), .val (.int p2), .val (.int p3), .val (.int p4)] [(.int p4), (.int p3), (.int w0)])) rfl (by rw [hml]; rfl) [(.int p3), (.int p4)] [(.int w0)] (lenOf pd5_0 rfl) rfl rfl (by show 2 * 0 + _ ≤ _; exact Nat.le_of_eq rfl) (hb hby d5_18) ?_
    intro T2 v2 L2 M2 X2 N2 hq2
    obtain ⟨rfl, N2q, e2⟩ := hq2
    replace N2 := N2 N2q
    show Go _ _ _ _ T2 (mkF m 21 #[.val (.ref a1), .val (.int p2), .val (.int p3), .val (.int p4)] [(.int (own_sent p3 p4)), (.int w0)])
    refine Go.st (fun t k => XS.icmpNo X2.here hx rfl (hb hby d5_21) rfl (teq (Hs (Or.inl hA))).2 k) ?_
    show Go _ _ _ _ T2 (mkF m 24 #[.val (.ref a1), .val (.int p2), .val (.int p3), .val (.int p4)] [])
    refine Go.st (fun t k => XS.iconst X2.here hx rfl (hb hby d5_24) k) ?_
    show Go _ _ _ _ T2 (mkF m 25 #[.val (.ref a1), .val (.int p2), .val (.int p3), .val (.int p4)] [(.int (1 : Int32))])
    refine Go.st (fun t k => XS.goto X2.here hx rfl (pc0 := 25) (pc' := 29) rfl (hb hby d5_25) (by decide) (by decide) k) ?_
    show Go _ _ _ _ T2 (mkF m 29 #[.val (.ref a1), .val (.int p2), .val (.int p3), .val (.int p4)] [(.int (1 : Int32))])
    exact goN X2 hx hret hlk (by simp) (hb hby d5_29) (by decide) (by decide) ⟨rfl, N2, e2⟩
  ·
    refine Go.st (fun t k => XS.icmpNo X0.here hx rfl (hb hby d5_2) rfl (flt hA).1 k) ?_
    show Go _ _ _ _ T0 (mkF m 5 #[.val (.ref a1), .val (.int p2), .val (.int p3), .val (.int p4)] [])
    refine Go.st (fun t k => XS.iloadN X0.here hx rfl (hb hby d5_5) rfl k) ?_
    show Go _ _ _ _ T0 (mkF m 6 #[.val (.ref a1), .val (.int p2), .val (.int p3), .val (.int p4)] [(.int p4)])
    refine Go.st (fun t k => XS.iloadN X0.here hx rfl (hb hby d5_6) rfl k) ?_
    show Go _ _ _ _ T0 (mkF m 7 #[.val (.ref a1), .val (.int p2), .val (.int p3), .val (.int p4)] [(.int p2), (.int p4)])
    refine Go.st (fun t k => XS.bipush X0.here hx rfl (hb hby d5_7) k) ?_
    show Go _ _ _ _ T0 (mkF m 9 #[.val (.ref a1), .val (.int p2), .val (.int p3), .val (.int p4)] [(.int (8 : Int32)), (.int p2), (.int p4)])
    refine Go.st (fun t k => XS.iadd X0.here hx rfl (hb hby d5_9) rfl k) ?_
    show Go _ _ _ _ T0 (mkF m 10 #[.val (.ref a1), .val (.int p2), .val (.int p3), .val (.int p4)] [(.int (p2 + (8 : Int32))), (.int p4)])
    by_cases hB : p4 < (p2 + (8 : Int32))
    ·
      refine Go.st (fun t k => XS.icmpYes X0.here hx rfl (pc0 := 10) (pc' := 24) rfl (hb hby d5_10) rfl (tlt hB).1 (by decide) (by decide) k) ?_
      show Go _ _ _ _ T0 (mkF m 24 #[.val (.ref a1), .val (.int p2), .val (.int p3), .val (.int p4)] [])
      refine Go.st (fun t k => XS.iconst X0.here hx rfl (hb hby d5_24) k) ?_
      show Go _ _ _ _ T0 (mkF m 25 #[.val (.ref a1), .val (.int p2), .val (.int p3), .val (.int p4)] [(.int (1 : Int32))])
      refine Go.st (fun t k => XS.goto X0.here hx rfl (pc0 := 25) (pc' := 29) rfl (hb hby d5_25) (by decide) (by decide) k) ?_
      show Go _ _ _ _ T0 (mkF m 29 #[.val (.ref a1), .val (.int p2), .val (.int p3), .val (.int p4)] [(.int (1 : Int32))])
      exact goN X0 hx hret hlk (by simp) (hb hby d5_29) (by decide) (by decide) ⟨rfl, N0, e0⟩
    ·
      refine Go.st (fun t k => XS.icmpNo X0.here hx rfl (hb hby d5_10) rfl (flt hB).1 k) ?_
      show Go _ _ _ _ T0 (mkF m 13 #[.val (.ref a1), .val (.int p2), .val (.int p3), .val (.int p4)] [])
      refine Go.st (fun t k => XS.aloadN X0.here hx rfl (hb hby d5_13) rfl rfl k) ?_
      show Go _ _ _ _ T0 (mkF m 14 #[.val (.ref a1), .val (.int p2), .val (.int p3), .val (.int p4)] [(.ref a1)])
      refine Go.st (fun t k => XS.iloadN X0.here hx rfl (hb hby d5_14) rfl k) ?_
      show Go _ _ _ _ T0 (mkF m 15 #[.val (.ref a1), .val (.int p2), .val (.int p3), .val (.int p4)] [(.int p4), (.ref a1)])
      refine goLdB X0 hx hZ e0 V_a1 (v := (.int w0)) (g := (mkF m 15 #[.val (.ref a1), .val (.int p2), .val (.int p3), .val (.int p4)] [(.int p4), (.ref a1)])) rfl rfl (hb hby d5_15) Ik Hk ?_
      show Go _ _ _ _ T0 (mkF m 16 #[.val (.ref a1), .val (.int p2), .val (.int p3), .val (.int p4)] [(.int w0)])
      refine Go.st (fun t k => XS.iloadN X0.here hx rfl (hb hby d5_16) rfl k) ?_
      show Go _ _ _ _ T0 (mkF m 17 #[.val (.ref a1), .val (.int p2), .val (.int p3), .val (.int p4)] [(.int p3), (.int w0)])
      refine Go.st (fun t k => XS.iloadN X0.here hx rfl (hb hby d5_17) rfl k) ?_
      show Go _ _ _ _ T0 (mkF m 18 #[.val (.ref a1), .val (.int p2), .val (.int p3), .val (.int p4)] [(.int p4), (.int p3), (.int w0)])
      refine goS X0 hx hZ (y := (⟨"wardlog/BytesPutLongPinLaw", "sent", "(II)B"⟩ : MethodName)) hown (hw _ (List.mem_of_getElem? (i := 1) rfl)) (hw _ (List.mem_of_getElem? (i := 2) rfl)) (hw _ (List.mem_of_getElem? (i := 3) rfl)) (hw _ (List.mem_of_getElem? (i := 4) rfl)) (by decide) (rm1 l Z a0 hw p3 p4 h0 n0 Z0) e0 N0 1 (by decide) (by decide) (by decide) (by decide) (g := (mkF m 18 #[.val (.ref a1), .val (.int p2), .val (.int p3), .val (.int p4)] [(.int p4), (.int p3), (.int w0)])) rfl (by rw [hml]; rfl) [(.int p3), (.int p4)] [(.int w0)] (lenOf pd5_0 rfl) rfl rfl (by show 2 * 0 + _ ≤ _; exact Nat.le_of_eq rfl) (hb hby d5_18) ?_
      intro T4 v4 L4 M4 X4 N4 hq4
      obtain ⟨rfl, N4q, e4⟩ := hq4
      replace N4 := N4 N4q
      show Go _ _ _ _ T4 (mkF m 21 #[.val (.ref a1), .val (.int p2), .val (.int p3), .val (.int p4)] [(.int (own_sent p3 p4)), (.int w0)])
      refine Go.st (fun t k => XS.icmpNo X4.here hx rfl (hb hby d5_21) rfl (teq (Hs (Or.inr hB))).2 k) ?_
      show Go _ _ _ _ T4 (mkF m 24 #[.val (.ref a1), .val (.int p2), .val (.int p3), .val (.int p4)] [])
      refine Go.st (fun t k => XS.iconst X4.here hx rfl (hb hby d5_24) k) ?_
      show Go _ _ _ _ T4 (mkF m 25 #[.val (.ref a1), .val (.int p2), .val (.int p3), .val (.int p4)] [(.int (1 : Int32))])
      refine Go.st (fun t k => XS.goto X4.here hx rfl (pc0 := 25) (pc' := 29) rfl (hb hby d5_25) (by decide) (by decide) k) ?_
      show Go _ _ _ _ T4 (mkF m 29 #[.val (.ref a1), .val (.int p2), .val (.int p3), .val (.int p4)] [(.int (1 : Int32))])
      exact goN X4 hx hret hlk (by simp) (hb hby d5_29) (by decide) (by decide) ⟨rfl, N4, e4⟩
theorem pn_0 : plainName "wardlog/BytesPutLongPinLaw" = true := by first | (simp [plainName, overriddenIn]; done) | decide +kernel
theorem pd0_0 : parseMethodDescriptor "(II)B" = some ⟨[.int, .int], some .byte⟩ := by decide +kernel
theorem pd0_1 : parseMethodDescriptor "([BIJ)I" = some ⟨[(.array .byte), .int, .long], some .int⟩ := by decide +kernel
theorem pd0_2 : parseMethodDescriptor "([BI)J" = some ⟨[(.array .byte), .int], some .long⟩ := by decide +kernel
theorem pd0_3 : parseMethodDescriptor "([BI)I" = some ⟨[(.array .byte), .int], some .int⟩ := by decide +kernel
theorem pd0_4 : parseMethodDescriptor "([BIII)Z" = some ⟨[(.array .byte), .int, .int, .int], some .boolean⟩ := by decide +kernel
theorem ef_0 (m : MethodId) (x0 : Int64) (x1 : Int32) (x2 : Int32) : entryFrame m #[(.long x0), (.int x1), (.int x2)] maxLocals = mkF m 0 #[.val (.long x0), .second, .val (.int x1), .val (.int x2), .unset, .unset, .unset] [] := by first | (simp [entryFrame, mkF, argsToLocals, Value.category, maxLocals]; done) | rfl
set_option maxRecDepth 65536 in
set_option maxHeartbeats 40000000 in
theorem rm0 (l : Launch) (Z : State) (a0 : Array Value) (hw : ∀ d ∈ tables_1, d.before a0 Z = true) (q1 : Int64) (p2 : Int32) (p3 : Int32) (h0 : Heap) (n0 : Nat) (Z0 : n0 ≤ h0.size)   :
    Does l Z x code maxLocals ret room_1 #[(.long q1), (.int p2), (.int p3)] h0 (fun v h L => v = some (.int 1) ∧ Fr n0 L) := by
  refine Does.body (plainFor_of_name pn_0) ?_
  intro p e s m below meth c T0 X0 hx hZ hby hml hown hnm hret hlk e0
  replace hown : s.vm.findClass "wardlog/BytesPutLongPinLaw" = some m.cls := hown
  have N0 := Fr.nil n0
  refine Go.frame (ef_0 m q1 p2 p3) ?_
  show Go _ _ _ _ T0 (mkF m 0 #[.val (.long q1), .second, .val (.int p2), .val (.int p3), .unset, .unset, .unset] [])
  refine Go.st (fun t k => XS.iloadN X0.here hx rfl (hb hby at_0) rfl k) ?_
  show Go _ _ _ _ T0 (mkF m 1 #[.val (.long q1), .second, .val (.int p2), .val (.int p3), .unset, .unset, .unset] [(.int p2)])
  refine Go.st (fun t k => XS.iconst X0.here hx rfl (hb hby at_1) k) ?_
  show Go _ _ _ _ T0 (mkF m 2 #[.val (.long q1), .second, .val (.int p2), .val (.int p3), .unset, .unset, .unset] [(.int (3 : Int32)), (.int p2)])
  refine Go.st (fun t k => XS.iand X0.here hx rfl (hb hby at_2) rfl k) ?_
  show Go _ _ _ _ T0 (mkF m 3 #[.val (.long q1), .second, .val (.int p2), .val (.int p3), .unset, .unset, .unset] [(.int (p2 &&& (3 : Int32)))])
  obtain ⟨q, k, hq, hcase, I0, I1, I2, I3, I4, I5, I6, I7, J1, J2, J3⟩ := own_at p2
  rw [hq]
  show Go _ _ _ _ T0 (mkF m 3 #[.val (.long q1), .second, .val (.int p2), .val (.int p3), .unset, .unset, .unset] [(.int q)])
  refine Go.st (fun t k => XS.istore X0.here hx rfl (hb hby at_3) rfl (l' := #[.val (.long q1), .second, .val (.int p2), .val (.int p3), .val (.int q), .unset, .unset]) rfl k) ?_
  show Go _ _ _ _ T0 (mkF m 5 #[.val (.long q1), .second, .val (.int p2), .val (.int p3), .val (.int q), .unset, .unset] [])
  refine Go.st (fun t k => XS.bipush X0.here hx rfl (hb hby at_5) k) ?_
  show Go _ _ _ _ T0 (mkF m 7 #[.val (.long q1), .second, .val (.int p2), .val (.int p3), .val (.int q), .unset, .unset] [(.int (12 : Int32))])
  refine goNew X0 hx hZ (hw _ (List.mem_of_getElem? (i := 0) rfl)) e0 Z0 (by decide) (show Int32.toNatClampNeg (12 : Int32) = 12 from rfl) 12 (by decide) (by decide) (by decide) (by decide) (g := (mkF m 7 #[.val (.long q1), .second, .val (.int p2), .val (.int p3), .val (.int q), .unset, .unset] [(.int (12 : Int32))])) rfl rfl (hb hby at_7) ?_
  intro T1 h1 b1 X1 e1 E1 qz1 g_b1 Z1 V_b1
  replace V_b1 : BA Z h1 b1 .byte 12 (fun _ => (.int (0 : Int32))) := V_b1
  show Go _ _ _ _ T1 (mkF m 9 #[.val (.long q1), .second, .val (.int p2), .val (.int p3), .val (.int q), .unset, .unset] [(.ref b1)])
  refine Go.st (fun t k => XS.astore X1.here hx rfl (hb hby at_9) rfl rfl (l' := #[.val (.long q1), .second, .val (.int p2), .val (.int p3), .val (.int q), .val (.ref b1), .unset]) rfl k) ?_
  show Go _ _ _ _ T1 (mkF m 11 #[.val (.long q1), .second, .val (.int p2), .val (.int p3), .val (.int q), .val (.ref b1), .unset] [])
  refine Go.st (fun t k => XS.aload X1.here hx rfl (hb hby at_11) rfl rfl k) ?_
  show Go _ _ _ _ T1 (mkF m 13 #[.val (.long q1), .second, .val (.int p2), .val (.int p3), .val (.int q), .val (.ref b1), .unset] [(.ref b1)])
  refine Go.st (fun t k => XS.iconst X1.here hx rfl (hb hby at_13) k) ?_
  show Go _ _ _ _ T1 (mkF m 14 #[.val (.long q1), .second, .val (.int p2), .val (.int p3), .val (.int q), .val (.ref b1), .unset] [(.int (0 : Int32)), (.ref b1)])
  refine Go.st (fun t k => XS.iloadN X1.here hx rfl (hb hby at_14) rfl k) ?_
  show Go _ _ _ _ T1 (mkF m 15 #[.val (.long q1), .second, .val (.int p2), .val (.int p3), .val (.int q), .val (.ref b1), .unset] [(.int p3), (.int (0 : Int32)), (.ref b1)])
  refine Go.st (fun t k => XS.iconst X1.here hx rfl (hb hby at_15) k) ?_
  show Go _ _ _ _ T1 (mkF m 16 #[.val (.long q1), .second, .val (.int p2), .val (.int p3), .val (.int q), .val (.ref b1), .unset] [(.int (0 : Int32)), (.int p3), (.int (0 : Int32)), (.ref b1)])
  refine goS X1 hx hZ (y := (⟨"wardlog/BytesPutLongPinLaw", "sent", "(II)B"⟩ : MethodName)) hown (hw _ (List.mem_of_getElem? (i := 1) rfl)) (hw _ (List.mem_of_getElem? (i := 2) rfl)) (hw _ (List.mem_of_getElem? (i := 3) rfl)) (hw _ (List.mem_of_getElem? (i := 4) rfl)) (by decide) (rm1 l Z a0 hw p3 (0 : Int32) h1 n0 Z1) e1 N0 2 (by decide) (by decide) (by decide) (by decide) (g := (mkF m 16 #[.val (.long q1), .second, .val (.int p2), .val (.int p3), .val (.int q), .val (.ref b1), .unset] [(.int (0 : Int32)), (.int p3), (.int (0 : Int32)), (.ref b1)])) rfl (by rw [hml]; rfl) [(.int p3), (.int (0 : Int32))] [(.int (0 : Int32)), (.ref b1)] (lenOf pd0_0 rfl) rfl rfl (by show 2 * 0 + _ ≤ _; exact Nat.le_of_eq rfl) (hb hby at_16) ?_
  intro T2 v2 L2 M2 X2 N2 hq2
  obtain ⟨rfl, N2q, e2⟩ := hq2
  replace N2 := N2 N2q
  show Go _ _ _ _ T2 (mkF m 19 #[.val (.long q1), .second, .val (.int p2), .val (.int p3), .val (.int q), .val (.ref b1), .unset] [(.int (own_sent p3 (0 : Int32))), (.int (0 : Int32)), (.ref b1)])
  refine goStB X2 hx hZ e2 N2 V_b1 g_b1 (g := (mkF m 19 #[.val (.long q1), .second, .val (.int p2), .val (.int p3), .val (.int q), .val (.ref b1), .unset] [(.int (own_sent p3 (0 : Int32))), (.int (0 : Int32)), (.ref b1)])) rfl rfl (hb hby at_19) (k := 0) ⟨by decide, rfl, by decide⟩ ?_
  intro T3 h3 L3 X3 e3 N3 W3 V_b1
  have Z3 := own_sz W3 Z1
  show Go _ _ _ _ T3 (mkF m 20 #[.val (.long q1), .second, .val (.int p2), .val (.int p3), .val (.int q), .val (.ref b1), .unset] [])
  refine Go.st (fun t k => XS.aload X3.here hx rfl (hb hby at_20) rfl rfl k) ?_
  show Go _ _ _ _ T3 (mkF m 22 #[.val (.long q1), .second, .val (.int p2), .val (.int p3), .val (.int q), .val (.ref b1), .unset] [(.ref b1)])
  refine Go.st (fun t k => XS.iconst X3.here hx rfl (hb hby at_22) k) ?_
  show Go _ _ _ _ T3 (mkF m 23 #[.val (.long q1), .second, .val (.int p2), .val (.int p3), .val (.int q), .val (.ref b1), .unset] [(.int (1 : Int32)), (.ref b1)])
  refine Go.st (fun t k => XS.iloadN X3.here hx rfl (hb hby at_23) rfl k) ?_
  show Go _ _ _ _ T3 (mkF m 24 #[.val (.long q1), .second, .val (.int p2), .val (.int p3), .val (.int q), .val (.ref b1), .unset] [(.int p3), (.int (1 : Int32)), (.ref b1)])
  refine Go.st (fun t k => XS.iconst X3.here hx rfl (hb hby at_24) k) ?_
  show Go _ _ _ _ T3 (mkF m 25 #[.val (.long q1), .second, .val (.int p2), .val (.int p3), .val (.int q), .val (.ref b1), .unset] [(.int (1 : Int32)), (.int p3), (.int (1 : Int32)), (.ref b1)])
  refine goS X3 hx hZ (y := (⟨"wardlog/BytesPutLongPinLaw", "sent", "(II)B"⟩ : MethodName)) hown (hw _ (List.mem_of_getElem? (i := 1) rfl)) (hw _ (List.mem_of_getElem? (i := 2) rfl)) (hw _ (List.mem_of_getElem? (i := 3) rfl)) (hw _ (List.mem_of_getElem? (i := 4) rfl)) (by decide) (rm1 l Z a0 hw p3 (1 : Int32) h3 n0 Z3) e3 N3 2 (by decide) (by decide) (by decide) (by decide) (g := (mkF m 25 #[.val (.long q1), .second, .val (.int p2), .val (.int p3), .val (.int q), .val (.ref b1), .unset] [(.int (1 : Int32)), (.int p3), (.int (1 : Int32)), (.ref b1)])) rfl (by rw [hml]; rfl) [(.int p3), (.int (1 : Int32))] [(.int (1 : Int32)), (.ref b1)] (lenOf pd0_0 rfl) rfl rfl (by show 2 * 0 + _ ≤ _; exact Nat.le_of_eq rfl) (hb hby at_25) ?_
  intro T4 v4 L4 M4 X4 N4 hq4
  obtain ⟨rfl, N4q, e4⟩ := hq4
  replace N4 := N4 N4q
  show Go _ _ _ _ T4 (mkF m 28 #[.val (.long q1), .second, .val (.int p2), .val (.int p3), .val (.int q), .val (.ref b1), .unset] [(.int (own_sent p3 (1 : Int32))), (.int (1 : Int32)), (.ref b1)])
  refine goStB X4 hx hZ e4 N4 V_b1 g_b1 (g := (mkF m 28 #[.val (.long q1), .second, .val (.int p2), .val (.int p3), .val (.int q), .val (.ref b1), .unset] [(.int (own_sent p3 (1 : Int32))), (.int (1 : Int32)), (.ref b1)])) rfl rfl (hb hby at_28) (k := 1) ⟨by decide, rfl, by decide⟩ ?_
  intro T5 h5 L5 X5 e5 N5 W5 V_b1
  have Z5 := own_sz W5 Z3
  show Go _ _ _ _ T5 (mkF m 29 #[.val (.long q1), .second, .val (.int p2), .val (.int p3), .val (.int q), .val (.ref b1), .unset] [])
  refine Go.st (fun t k => XS.aload X5.here hx rfl (hb hby at_29) rfl rfl k) ?_
  show Go _ _ _ _ T5 (mkF m 31 #[.val (.long q1), .second, .val (.int p2), .val (.int p3), .val (.int q), .val (.ref b1), .unset] [(.ref b1)])
  refine Go.st (fun t k => XS.iconst X5.here hx rfl (hb hby at_31) k) ?_
  show Go _ _ _ _ T5 (mkF m 32 #[.val (.long q1), .second, .val (.int p2), .val (.int p3), .val (.int q), .val (.ref b1), .unset] [(.int (2 : Int32)), (.ref b1)])
  refine Go.st (fun t k => XS.iloadN X5.here hx rfl (hb hby at_32) rfl k) ?_
  show Go _ _ _ _ T5 (mkF m 33 #[.val (.long q1), .second, .val (.int p2), .val (.int p3), .val (.int q), .val (.ref b1), .unset] [(.int p3), (.int (2 : Int32)), (.ref b1)])
  refine Go.st (fun t k => XS.iconst X5.here hx rfl (hb hby at_33) k) ?_
  show Go _ _ _ _ T5 (mkF m 34 #[.val (.long q1), .second, .val (.int p2), .val (.int p3), .val (.int q), .val (.ref b1), .unset] [(.int (2 : Int32)), (.int p3), (.int (2 : Int32)), (.ref b1)])
  refine goS X5 hx hZ (y := (⟨"wardlog/BytesPutLongPinLaw", "sent", "(II)B"⟩ : MethodName)) hown (hw _ (List.mem_of_getElem? (i := 1) rfl)) (hw _ (List.mem_of_getElem? (i := 2) rfl)) (hw _ (List.mem_of_getElem? (i := 3) rfl)) (hw _ (List.mem_of_getElem? (i := 4) rfl)) (by decide) (rm1 l Z a0 hw p3 (2 : Int32) h5 n0 Z5) e5 N5 2 (by decide) (by decide) (by decide) (by decide) (g := (mkF m 34 #[.val (.long q1), .second, .val (.int p2), .val (.int p3), .val (.int q), .val (.ref b1), .unset] [(.int (2 : Int32)), (.int p3), (.int (2 : Int32)), (.ref b1)])) rfl (by rw [hml]; rfl) [(.int p3), (.int (2 : Int32))] [(.int (2 : Int32)), (.ref b1)] (lenOf pd0_0 rfl) rfl rfl (by show 2 * 0 + _ ≤ _; exact Nat.le_of_eq rfl) (hb hby at_34) ?_
  intro T6 v6 L6 M6 X6 N6 hq6
  obtain ⟨rfl, N6q, e6⟩ := hq6
  replace N6 := N6 N6q
  show Go _ _ _ _ T6 (mkF m 37 #[.val (.long q1), .second, .val (.int p2), .val (.int p3), .val (.int q), .val (.ref b1), .unset] [(.int (own_sent p3 (2 : Int32))), (.int (2 : Int32)), (.ref b1)])
  refine goStB X6 hx hZ e6 N6 V_b1 g_b1 (g := (mkF m 37 #[.val (.long q1), .second, .val (.int p2), .val (.int p3), .val (.int q), .val (.ref b1), .unset] [(.int (own_sent p3 (2 : Int32))), (.int (2 : Int32)), (.ref b1)])) rfl rfl (hb hby at_37) (k := 2) ⟨by decide, rfl, by decide⟩ ?_
  intro T7 h7 L7 X7 e7 N7 W7 V_b1
  have Z7 := own_sz W7 Z5
  show Go _ _ _ _ T7 (mkF m 38 #[.val (.long q1), .second, .val (.int p2), .val (.int p3), .val (.int q), .val (.ref b1), .unset] [])
  refine Go.st (fun t k => XS.aload X7.here hx rfl (hb hby at_38) rfl rfl k) ?_
  show Go _ _ _ _ T7 (mkF m 40 #[.val (.long q1), .second, .val (.int p2), .val (.int p3), .val (.int q), .val (.ref b1), .unset] [(.ref b1)])
  refine Go.st (fun t k => XS.iconst X7.here hx rfl (hb hby at_40) k) ?_
  show Go _ _ _ _ T7 (mkF m 41 #[.val (.long q1), .second, .val (.int p2), .val (.int p3), .val (.int q), .val (.ref b1), .unset] [(.int (3 : Int32)), (.ref b1)])
  refine Go.st (fun t k => XS.iloadN X7.here hx rfl (hb hby at_41) rfl k) ?_
  show Go _ _ _ _ T7 (mkF m 42 #[.val (.long q1), .second, .val (.int p2), .val (.int p3), .val (.int q), .val (.ref b1), .unset] [(.int p3), (.int (3 : Int32)), (.ref b1)])
  refine Go.st (fun t k => XS.iconst X7.here hx rfl (hb hby at_42) k) ?_
  show Go _ _ _ _ T7 (mkF m 43 #[.val (.long q1), .second, .val (.int p2), .val (.int p3), .val (.int q), .val (.ref b1), .unset] [(.int (3 : Int32)), (.int p3), (.int (3 : Int32)), (.ref b1)])
  refine goS X7 hx hZ (y := (⟨"wardlog/BytesPutLongPinLaw", "sent", "(II)B"⟩ : MethodName)) hown (hw _ (List.mem_of_getElem? (i := 1) rfl)) (hw _ (List.mem_of_getElem? (i := 2) rfl)) (hw _ (List.mem_of_getElem? (i := 3) rfl)) (hw _ (List.mem_of_getElem? (i := 4) rfl)) (by decide) (rm1 l Z a0 hw p3 (3 : Int32) h7 n0 Z7) e7 N7 2 (by decide) (by decide) (by decide) (by decide) (g := (mkF m 43 #[.val (.long q1), .second, .val (.int p2), .val (.int p3), .val (.int q), .val (.ref b1), .unset] [(.int (3 : Int32)), (.int p3), (.int (3 : Int32)), (.ref b1)])) rfl (by rw [hml]; rfl) [(.int p3), (.int (3 : Int32))] [(.int (3 : Int32)), (.ref b1)] (lenOf pd0_0 rfl) rfl rfl (by show 2 * 0 + _ ≤ _; exact Nat.le_of_eq rfl) (hb hby at_43) ?_
  intro T8 v8 L8 M8 X8 N8 hq8
  obtain ⟨rfl, N8q, e8⟩ := hq8
  replace N8 := N8 N8q
  show Go _ _ _ _ T8 (mkF m 46 #[.val (.long q1), .second, .val (.int p2), .val (.int p3), .val (.int q), .val (.ref b1), .unset] [(.int (own_sent p3 (3 : Int32))), (.int (3 : Int32)), (.ref b1)])
  refine goStB X8 hx hZ e8 N8 V_b1 g_b1 (g := (mkF m 46 #[.val (.long q1), .second, .val (.int p2), .val (.int p3), .val (.int q), .val (.ref b1), .unset] [(.int (own_sent p3 (3 : Int32))), (.int (3 : Int32)), (.ref b1)])) rfl rfl (hb hby at_46) (k := 3) ⟨by decide, rfl, by decide⟩ ?_
  intro T9 h9 L9 X9 e9 N9 W9 V_b1
  have Z9 := own_sz W9 Z7
  show Go _ _ _ _ T9 (mkF m 47 #[.val (.long q1), .second, .val (.int p2), .val (.int p3), .val (.int q), .val (.ref b1), .unset] [])
  refine Go.st (fun t k => XS.aload X9.here hx rfl (hb hby at_47) rfl rfl k) ?_
  show Go _ _ _ _ T9 (mkF m 49 #[.val (.long q1), .second, .val (.int p2), .val (.int p3), .val (.int q), .val (.ref b1), .unset] [(.ref b1)])
  refine Go.st (fun t k => XS.iconst X9.here hx rfl (hb hby at_49) k) ?_
  show Go _ _ _ _ T9 (mkF m 50 #[.val (.long q1), .second, .val (.int p2), .val (.int p3), .val (.int q), .val (.ref b1), .unset] [(.int (4 : Int32)), (.ref b1)])
  refine Go.st (fun t k => XS.iloadN X9.here hx rfl (hb hby at_50) rfl k) ?_
  show Go _ _ _ _ T9 (mkF m 51 #[.val (.long q1), .second, .val (.int p2), .val (.int p3), .val (.int q), .val (.ref b1), .unset] [(.int p3), (.int (4 : Int32)), (.ref b1)])
  refine Go.st (fun t k => XS.iconst X9.here hx rfl (hb hby at_51) k) ?_
  show Go _ _ _ _ T9 (mkF m 52 #[.val (.long q1), .second, .val (.int p2), .val (.int p3), .val (.int q), .val (.ref b1), .unset] [(.int (4 : Int32)), (.int p3), (.int (4 : Int32)), (.ref b1)])
  refine goS X9 hx hZ (y := (⟨"wardlog/BytesPutLongPinLaw", "sent", "(II)B"⟩ : MethodName)) hown (hw _ (List.mem_of_getElem? (i := 1) rfl)) (hw _ (List.mem_of_getElem? (i := 2) rfl)) (hw _ (List.mem_of_getElem? (i := 3) rfl)) (hw _ (List.mem_of_getElem? (i := 4) rfl)) (by decide) (rm1 l Z a0 hw p3 (4 : Int32) h9 n0 Z9) e9 N9 2 (by decide) (by decide) (by decide) (by decide) (g := (mkF m 52 #[.val (.long q1), .second, .val (.int p2), .val (.int p3), .val (.int q), .val (.ref b1), .unset] [(.int (4 : Int32)), (.int p3), (.int (4 : Int32)), (.ref b1)])) rfl (by rw [hml]; rfl) [(.int p3), (.int (4 : Int32))] [(.int (4 : Int32)), (.ref b1)] (lenOf pd0_0 rfl) rfl rfl (by show 2 * 0 + _ ≤ _; exact Nat.le_of_eq rfl) (hb hby at_52) ?_
  intro T10 v10 L10 M10 X10 N10 hq10
  obtain ⟨rfl, N10q, e10⟩ := hq10
  replace N10 := N10 N10q
  show Go _ _ _ _ T10 (mkF m 55 #[.val (.long q1), .second, .val (.int p2), .val (.int p3), .val (.int q), .val (.ref b1), .unset] [(.int (own_sent p3 (4 : Int32))), (.int (4 : Int32)), (.ref b1)])
  refine goStB X10 hx hZ e10 N10 V_b1 g_b1 (g := (mkF m 55 #[.val (.long q1), .second, .val (.int p2), .val (.int p3), .val (.int q), .val (.ref b1), .unset] [(.int (own_sent p3 (4 : Int32))), (.int (4 : Int32)), (.ref b1)])) rfl rfl (hb hby at_55) (k := 4) ⟨by decide, rfl, by decide⟩ ?_
  intro T11 h11 L11 X11 e11 N11 W11 V_b1
  have Z11 := own_sz W11 Z9
  show Go _ _ _ _ T11 (mkF m 56 #[.val (.long q1), .second, .val (.int p2), .val (.int p3), .val (.int q), .val (.ref b1), .unset] [])
  refine Go.st (fun t k => XS.aload X11.here hx rfl (hb hby at_56) rfl rfl k) ?_
  show Go _ _ _ _ T11 (mkF m 58 #[.val (.long q1), .second, .val (.int p2), .val (.int p3), .val (.int q), .val (.ref b1), .unset] [(.ref b1)])
  refine Go.st (fun t k => XS.iconst X11.here hx rfl (hb hby at_58) k) ?_
  show Go _ _ _ _ T11 (mkF m 59 #[.val (.long q1), .second, .val (.int p2), .val (.int p3), .val (.int q), .val (.ref b1), .unset] [(.int (5 : Int32)), (.ref b1)])
  refine Go.st (fun t k => XS.iloadN X11.here hx rfl (hb hby at_59) rfl k) ?_
  show Go _ _ _ _ T11 (mkF m 60 #[.val (.long q1), .second, .val (.int p2), .val (.int p3), .val (.int q), .val (.ref b1), .unset] [(.int p3), (.int (5 : Int32)), (.ref b1)])
  refine Go.st (fun t k => XS.iconst X11.here hx rfl (hb hby at_60) k) ?_
  show Go _ _ _ _ T11 (mkF m 61 #[.val (.long q1), .second, .val (.int p2), .val (.int p3), .val (.int q), .val (.ref b1), .unset] [(.int (5 : Int32)), (.int p3), (.int (5 : Int32)), (.ref b1)])
  refine goS X11 hx hZ (y := (⟨"wardlog/BytesPutLongPinLaw", "sent", "(II)B"⟩ : MethodName)) hown (hw _ (List.mem_of_getElem? (i := 1) rfl)) (hw _ (List.mem_of_getElem? (i := 2) rfl)) (hw _ (List.mem_of_getElem? (i := 3) rfl)) (hw _ (List.mem_of_getElem? (i := 4) rfl)) (by decide) (rm1 l Z a0 hw p3 (5 : Int32) h11 n0 Z11) e11 N11 2 (by decide) (by decide) (by decide) (by decide) (g := (mkF m 61 #[.val (.long q1), .second, .val (.int p2), .val (.int p3), .val (.int q), .val (.ref b1), .unset] [(.int (5 : Int32)), (.int p3), (.int (5 : Int32)), (.ref b1)])) rfl (by rw [hml]; rfl) [(.int p3), (.int (5 : Int32))] [(.int (5 : Int32)), (.ref b1)] (lenOf pd0_0 rfl) rfl rfl (by show 2 * 0 + _ ≤ _; exact Nat.le_of_eq rfl) (hb hby at_61) ?_
  intro T12 v12 L12 M12 X12 N12 hq12
  obtain ⟨rfl, N12q, e12⟩ := hq12
  replace N12 := N12 N12q
  show Go _ _ _ _ T12 (mkF m 64 #[.val (.long q1), .second, .val (.int p2), .val (.int p3), .val (.int q), .val (.ref b1), .unset] [(.int (own_sent p3 (5 : Int32))), (.int (5 : Int32)), (.ref b1)])
  refine goStB X12 hx hZ e12 N12 V_b1 g_b1 (g := (mkF m 64 #[.val (.long q1), .second, .val (.int p2), .val (.int p3), .val (.int q), .val (.ref b1), .unset] [(.int (own_sent p3 (5 : Int32))), (.int (5 : Int32)), (.ref b1)])) rfl rfl (hb hby at_64) (k := 5) ⟨by decide, rfl, by decide⟩ ?_
  intro T13 h13 L13 X13 e13 N13 W13 V_b1
  have Z13 := own_sz W13 Z11
  show Go _ _ _ _ T13 (mkF m 65 #[.val (.long q1), .second, .val (.int p2), .val (.int p3), .val (.int q), .val (.ref b1), .unset] [])
  refine Go.st (fun t k => XS.aload X13.here hx rfl (hb hby at_65) rfl rfl k) ?_
  show Go _ _ _ _ T13 (mkF m 67 #[.val (.long q1), .second, .val (.int p2), .val (.int p3), .val (.int q), .val (.ref b1), .unset] [(.ref b1)])
  refine Go.st (fun t k => XS.bipush X13.here hx rfl (hb hby at_67) k) ?_
  show Go _ _ _ _ T13 (mkF m 69 #[.val (.long q1), .second, .val (.int p2), .val (.int p3), .val (.int q), .val (.ref b1), .unset] [(.int (6 : Int32)), (.ref b1)])
  refine Go.st (fun t k => XS.iloadN X13.here hx rfl (hb hby at_69) rfl k) ?_
  show Go _ _ _ _ T13 (mkF m 70 #[.val (.long q1), .second, .val (.int p2), .val (.int p3), .val (.int q), .val (.ref b1), .unset] [(.int p3), (.int (6 : Int32)), (.ref b1)])
  refine Go.st (fun t k => XS.bipush X13.here hx rfl (hb hby at_70) k) ?_
  show Go _ _ _ _ T13 (mkF m 72 #[.val (.long q1), .second, .val (.int p2), .val (.int p3), .val (.int q), .val (.ref b1), .unset] [(.int (6 : Int32)), (.int p3), (.int (6 : Int32)), (.ref b1)])
  refine goS X13 hx hZ (y := (⟨"wardlog/BytesPutLongPinLaw", "sent", "(II)B"⟩ : MethodName)) hown (hw _ (List.mem_of_getElem? (i := 1) rfl)) (hw _ (List.mem_of_getElem? (i := 2) rfl)) (hw _ (List.mem_of_getElem? (i := 3) rfl)) (hw _ (List.mem_of_getElem? (i := 4) rfl)) (by decide) (rm1 l Z a0 hw p3 (6 : Int32) h13 n0 Z13) e13 N13 2 (by decide) (by decide) (by decide) (by decide) (g := (mkF m 72 #[.val (.long q1), .second, .val (.int p2), .val (.int p3), .val (.int q), .val (.ref b1), .unset] [(.int (6 : Int32)), (.int p3), (.int (6 : Int32)), (.ref b1)])) rfl (by rw [hml]; rfl) [(.int p3), (.int (6 : Int32))] [(.int (6 : Int32)), (.ref b1)] (lenOf pd0_0 rfl) rfl rfl (by show 2 * 0 + _ ≤ _; exact Nat.le_of_eq rfl) (hb hby at_72) ?_
  intro T14 v14 L14 M14 X14 N14 hq14
  obtain ⟨rfl, N14q, e14⟩ := hq14
  replace N14 := N14 N14q
  show Go _ _ _ _ T14 (mkF m 75 #[.val (.long q1), .second, .val (.int p2), .val (.int p3), .val (.int q), .val (.ref b1), .unset] [(.int (own_sent p3 (6 : Int32))), (.int (6 : Int32)), (.ref b1)])
  refine goStB X14 hx hZ e14 N14 V_b1 g_b1 (g := (mkF m 75 #[.val (.long q1), .second, .val (.int p2), .val (.int p3), .val (.int q), .val (.ref b1), .unset] [(.int (own_sent p3 (6 : Int32))), (.int (6 : Int32)), (.ref b1)])) rfl rfl (hb hby at_75) (k := 6) ⟨by decide, rfl, by decide⟩ ?_
  intro T15 h15 L15 X15 e15 N15 W15 V_b1
  have Z15 := own_sz W15 Z13
  show Go _ _ _ _ T15 (mkF m 76 #[.val (.long q1), .second, .val (.int p2), .val (.int p3), .val (.int q), .val (.ref b1), .unset] [])
  refine Go.st (fun t k => XS.aload X15.here hx rfl (hb hby at_76) rfl rfl k) ?_
  show Go _ _ _ _ T15 (mkF m 78 #[.val (.long q1), .second, .val (.int p2), .val (.int p3), .val (.int q), .val (.ref b1), .unset] [(.ref b1)])
  refine Go.st (fun t k => XS.bipush X15.here hx rfl (hb hby at_78) k) ?_
  show Go _ _ _ _ T15 (mkF m 80 #[.val (.long q1), .second, .val (.int p2), .val (.int p3), .val (.int q), .val (.ref b1), .unset] [(.int (7 : Int32)), (.ref b1)])
  refine Go.st (fun t k => XS.iloadN X15.here hx rfl (hb hby at_80) rfl k) ?_
  show Go _ _ _ _ T15 (mkF m 81 #[.val (.long q1), .second, .val (.int p2), .val (.int p3), .val (.int q), .val (.ref b1), .unset] [(.int p3), (.int (7 : Int32)), (.ref b1)])
  refine Go.st (fun t k => XS.bipush X15.here hx rfl (hb hby at_81) k) ?_
  show Go _ _ _ _ T15 (mkF m 83 #[.val (.long q1), .second, .val (.int p2), .val (.int p3), .val (.int q), .val (.ref b1), .unset] [(.int (7 : Int32)), (.int p3), (.int (7 : Int32)), (.ref b1)])
  refine goS X15 hx hZ (y := (⟨"wardlog/BytesPutLongPinLaw", "sent", "(II)B"⟩ : MethodName)) hown (hw _ (List.mem_of_getElem? (i := 1) rfl)) (hw _ (List.mem_of_getElem? (i := 2) rfl)) (hw _ (List.mem_of_getElem? (i := 3) rfl)) (hw _ (List.mem_of_getElem? (i := 4) rfl)) (by decide) (rm1 l Z a0 hw p3 (7 : Int32) h15 n0 Z15) e15 N15 2 (by decide) (by decide) (by decide) (by decide) (g := (mkF m 83 #[.val (.long q1), .second, .val (.int p2), .val (.int p3), .val (.int q), .val (.ref b1), .unset] [(.int (7 : Int32)), (.int p3), (.int (7 : Int32)), (.ref b1)])) rfl (by rw [hml]; rfl) [(.int p3), (.int (7 : Int32))] [(.int (7 : Int32)), (.ref b1)] (lenOf pd0_0 rfl) rfl rfl (by show 2 * 0 + _ ≤ _; exact Nat.le_of_eq rfl) (hb hby at_83) ?_
  intro T16 v16 L16 M16 X16 N16 hq16
  obtain ⟨rfl, N16q, e16⟩ := hq16
  replace N16 := N16 N16q
  show Go _ _ _ _ T16 (mkF m 86 #[.val (.long q1), .second, .val (.int p2), .val (.int p3), .val (.int q), .val (.ref b1), .unset] [(.int (own_sent p3 (7 : Int32))), (.int (7 : Int32)), (.ref b1)])
  refine goStB X16 hx hZ e16 N16 V_b1 g_b1 (g := (mkF m 86 #[.val (.long q1), .second, .val (.int p2), .val (.int p3), .val (.int q), .val (.ref b1), .unset] [(.int (own_sent p3 (7 : Int32))), (.int (7 : Int32)), (.ref b1)])) rfl rfl (hb hby at_86) (k := 7) ⟨by decide, rfl, by decide⟩ ?_
  intro T17 h17 L17 X17 e17 N17 W17 V_b1
  have Z17 := own_sz W17 Z15
  show Go _ _ _ _ T17 (mkF m 87 #[.val (.long q1), .second, .val (.int p2), .val (.int p3), .val (.int q), .val (.ref b1), .unset] [])
  refine Go.st (fun t k => XS.aload X17.here hx rfl (hb hby at_87) rfl rfl k) ?_
  show Go _ _ _ _ T17 (mkF m 89 #[.val (.long q1), .second, .val (.int p2), .val (.int p3), .val (.int q), .val (.ref b1), .unset] [(.ref b1)])
  refine Go.st (fun t k => XS.bipush X17.here hx rfl (hb hby at_89) k) ?_
  show Go _ _ _ _ T17 (mkF m 91 #[.val (.long q1), .second, .val (.int p2), .val (.int p3), .val (.int q), .val (.ref b1), .unset] [(.int (8 : Int32)), (.ref b1)])
  refine Go.st (fun t k => XS.iloadN X17.here hx rfl (hb hby at_91) rfl k) ?_
  show Go _ _ _ _ T17 (mkF m 92 #[.val (.long q1), .second, .val (.int p2), .val (.int p3), .val (.int q), .val (.ref b1), .unset] [(.int p3), (.int (8 : Int32)), (.ref b1)])
  refine Go.st (fun t k => XS.bipush X17.here hx rfl (hb hby at_92) k) ?_
  show Go _ _ _ _ T17 (mkF m 94 #[.val (.long q1), .second, .val (.int p2), .val (.int p3), .val (.int q), .val (.ref b1), .unset] [(.int (8 : Int32)), (.int p3), (.int (8 : Int32)), (.ref b1)])
  refine goS X17 hx hZ (y := (⟨"wardlog/BytesPutLongPinLaw", "sent", "(II)B"⟩ : MethodName)) hown (hw _ (List.mem_of_getElem? (i := 1) rfl)) (hw _ (List.mem_of_getElem? (i := 2) rfl)) (hw _ (List.mem_of_getElem? (i := 3) rfl)) (hw _ (List.mem_of_getElem? (i := 4) rfl)) (by decide) (rm1 l Z a0 hw p3 (8 : Int32) h17 n0 Z17) e17 N17 2 (by decide) (by decide) (by decide) (by decide) (g := (mkF m 94 #[.val (.long q1), .second, .val (.int p2), .val (.int p3), .val (.int q), .val (.ref b1), .unset] [(.int (8 : Int32)), (.int p3), (.int (8 : Int32)), (.ref b1)])) rfl (by rw [hml]; rfl) [(.int p3), (.int (8 : Int32))] [(.int (8 : Int32)), (.ref b1)] (lenOf pd0_0 rfl) rfl rfl (by show 2 * 0 + _ ≤ _; exact Nat.le_of_eq rfl) (hb hby at_94) ?_
  intro T18 v18 L18 M18 X18 N18 hq18
  obtain ⟨rfl, N18q, e18⟩ := hq18
  replace N18 := N18 N18q
  show Go _ _ _ _ T18 (mkF m 97 #[.val (.long q1), .second, .val (.int p2), .val (.int p3), .val (.int q), .val (.ref b1), .unset] [(.int (own_sent p3 (8 : Int32))), (.int (8 : Int32)), (.ref b1)])
  refine goStB X18 hx hZ e18 N18 V_b1 g_b1 (g := (mkF m 97 #[.val (.long q1), .second, .val (.int p2), .val (.int p3), .val (.int q), .val (.ref b1), .unset] [(.int (own_sent p3 (8 : Int32))), (.int (8 : Int32)), (.ref b1)])) rfl rfl (hb hby at_97) (k := 8) ⟨by decide, rfl, by decide⟩ ?_
  intro T19 h19 L19 X19 e19 N19 W19 V_b1
  have Z19 := own_sz W19 Z17
  show Go _ _ _ _ T19 (mkF m 98 #[.val (.long q1), .second, .val (.int p2), .val (.int p3), .val (.int q), .val (.ref b1), .unset] [])
  refine Go.st (fun t k => XS.aload X19.here hx rfl (hb hby at_98) rfl rfl k) ?_
  show Go _ _ _ _ T19 (mkF m 100 #[.val (.long q1), .second, .val (.int p2), .val (.int p3), .val (.int q), .val (.ref b1), .unset] [(.ref b1)])
  refine Go.st (fun t k => XS.bipush X19.here hx rfl (hb hby at_100) k) ?_
  show Go _ _ _ _ T19 (mkF m 102 #[.val (.long q1), .second, .val (.int p2), .val (.int p3), .val (.int q), .val (.ref b1), .unset] [(.int (9 : Int32)), (.ref b1)])
  refine Go.st (fun t k => XS.iloadN X19.here hx rfl (hb hby at_102) rfl k) ?_
  show Go _ _ _ _ T19 (mkF m 103 #[.val (.long q1), .second, .val (.int p2), .val (.int p3), .val (.int q), .val (.ref b1), .unset] [(.int p3), (.int (9 : Int32)), (.ref b1)])
  refine Go.st (fun t k => XS.bipush X19.here hx rfl (hb hby at_103) k) ?_
  show Go _ _ _ _ T19 (mkF m 105 #[.val (.long q1), .second, .val (.int p2), .val (.int p3), .val (.int q), .val (.ref b1), .unset] [(.int (9 : Int32)), (.int p3), (.int (9 : Int32)), (.ref b1)])
  refine goS X19 hx hZ (y := (⟨"wardlog/BytesPutLongPinLaw", "sent", "(II)B"⟩ : MethodName)) hown (hw _ (List.mem_of_getElem? (i := 1) rfl)) (hw _ (List.mem_of_getElem? (i := 2) rfl)) (hw _ (List.mem_of_getElem? (i := 3) rfl)) (hw _ (List.mem_of_getElem? (i := 4) rfl)) (by decide) (rm1 l Z a0 hw p3 (9 : Int32) h19 n0 Z19) e19 N19 2 (by decide) (by decide) (by decide) (by decide) (g := (mkF m 105 #[.val (.long q1), .second, .val (.int p2), .val (.int p3), .val (.int q), .val (.ref b1), .unset] [(.int (9 : Int32)), (.int p3), (.int (9 : Int32)), (.ref b1)])) rfl (by rw [hml]; rfl) [(.int p3), (.int (9 : Int32))] [(.int (9 : Int32)), (.ref b1)] (lenOf pd0_0 rfl) rfl rfl (by show 2 * 0 + _ ≤ _; exact Nat.le_of_eq rfl) (hb hby at_105) ?_
  intro T20 v20 L20 M20 X20 N20 hq20
  obtain ⟨rfl, N20q, e20⟩ := hq20
  replace N20 := N20 N20q
  show Go _ _ _ _ T20 (mkF m 108 #[.val (.long q1), .second, .val (.int p2), .val (.int p3), .val (.int q), .val (.ref b1), .unset] [(.int (own_sent p3 (9 : Int32))), (.int (9 : Int32)), (.ref b1)])
  refine goStB X20 hx hZ e20 N20 V_b1 g_b1 (g := (mkF m 108 #[.val (.long q1), .second, .val (.int p2), .val (.int p3), .val (.int q), .val (.ref b1), .unset] [(.int (own_sent p3 (9 : Int32))), (.int (9 : Int32)), (.ref b1)])) rfl rfl (hb hby at_108) (k := 9) ⟨by decide, rfl, by decide⟩ ?_
  intro T21 h21 L21 X21 e21 N21 W21 V_b1
  have Z21 := own_sz W21 Z19
  show Go _ _ _ _ T21 (mkF m 109 #[.val (.long q1), .second, .val (.int p2), .val (.int p3), .val (.int q), .val (.ref b1), .unset] [])
  refine Go.st (fun t k => XS.aload X21.here hx rfl (hb hby at_109) rfl rfl k) ?_
  show Go _ _ _ _ T21 (mkF m 111 #[.val (.long q1), .second, .val (.int p2), .val (.int p3), .val (.int q), .val (.ref b1), .unset] [(.ref b1)])
  refine Go.st (fun t k => XS.bipush X21.here hx rfl (hb hby at_111) k) ?_
  show Go _ _ _ _ T21 (mkF m 113 #[.val (.long q1), .second, .val (.int p2), .val (.int p3), .val (.int q), .val (.ref b1), .unset] [(.int (10 : Int32)), (.ref b1)])
  refine Go.st (fun t k => XS.iloadN X21.here hx rfl (hb hby at_113) rfl k) ?_
  show Go _ _ _ _ T21 (mkF m 114 #[.val (.long q1), .second, .val (.int p2), .val (.int p3), .val (.int q), .val (.ref b1), .unset] [(.int p3), (.int (10 : Int32)), (.ref b1)])
  refine Go.st (fun t k => XS.bipush X21.here hx rfl (hb hby at_114) k) ?_
  show Go _ _ _ _ T21 (mkF m 116 #[.val (.long q1), .second, .val (.int p2), .val (.int p3), .val (.int q), .val (.ref b1), .unset] [(.int (10 : Int32)), (.int p3), (.int (10 : Int32)), (.ref b1)])
  refine goS X21 hx hZ (y := (⟨"wardlog/BytesPutLongPinLaw", "sent", "(II)B"⟩ : MethodName)) hown (hw _ (List.mem_of_getElem? (i := 1) rfl)) (hw _ (List.mem_of_getElem? (i := 2) rfl)) (hw _ (List.mem_of_getElem? (i := 3) rfl)) (hw _ (List.mem_of_getElem? (i := 4) rfl)) (by decide) (rm1 l Z a0 hw p3 (10 : Int32) h21 n0 Z21) e21 N21 2 (by decide) (by decide) (by decide) (by decide) (g := (mkF m 116 #[.val (.long q1), .second, .val (.int p2), .val (.int p3), .val (.int q), .val (.ref b1), .unset] [(.int (10 : Int32)), (.int p3), (.int (10 : Int32)), (.ref b1)])) rfl (by rw [hml]; rfl) [(.int p3), (.int (10 : Int32))] [(.int (10 : Int32)), (.ref b1)] (lenOf pd0_0 rfl) rfl rfl (by show 2 * 0 + _ ≤ _; exact Nat.le_of_eq rfl) (hb hby at_116) ?_
  intro T22 v22 L22 M22 X22 N22 hq22
  obtain ⟨rfl, N22q, e22⟩ := hq22
  replace N22 := N22 N22q
  show Go _ _ _ _ T22 (mkF m 119 #[.val (.long q1), .second, .val (.int p2), .val (.int p3), .val (.int q), .val (.ref b1), .unset] [(.int (own_sent p3 (10 : Int32))), (.int (10 : Int32)), (.ref b1)])
  refine goStB X22 hx hZ e22 N22 V_b1 g_b1 (g := (mkF m 119 #[.val (.long q1), .second, .val (.int p2), .val (.int p3), .val (.int q), .val (.ref b1), .unset] [(.int (own_sent p3 (10 : Int32))), (.int (10 : Int32)), (.ref b1)])) rfl rfl (hb hby at_119) (k := 10) ⟨by decide, rfl, by decide⟩ ?_
  intro T23 h23 L23 X23 e23 N23 W23 V_b1
  have Z23 := own_sz W23 Z21
  show Go _ _ _ _ T23 (mkF m 120 #[.val (.long q1), .second, .val (.int p2), .val (.int p3), .val (.int q), .val (.ref b1), .unset] [])
  refine Go.st (fun t k => XS.aload X23.here hx rfl (hb hby at_120) rfl rfl k) ?_
  show Go _ _ _ _ T23 (mkF m 122 #[.val (.long q1), .second, .val (.int p2), .val (.int p3), .val (.int q), .val (.ref b1), .unset] [(.ref b1)])
  refine Go.st (fun t k => XS.bipush X23.here hx rfl (hb hby at_122) k) ?_
  show Go _ _ _ _ T23 (mkF m 124 #[.val (.long q1), .second, .val (.int p2), .val (.int p3), .val (.int q), .val (.ref b1), .unset] [(.int (11 : Int32)), (.ref b1)])
  refine Go.st (fun t k => XS.iloadN X23.here hx rfl (hb hby at_124) rfl k) ?_
  show Go _ _ _ _ T23 (mkF m 125 #[.val (.long q1), .second, .val (.int p2), .val (.int p3), .val (.int q), .val (.ref b1), .unset] [(.int p3), (.int (11 : Int32)), (.ref b1)])
  refine Go.st (fun t k => XS.bipush X23.here hx rfl (hb hby at_125) k) ?_
  show Go _ _ _ _ T23 (mkF m 127 #[.val (.long q1), .second, .val (.int p2), .val (.int p3), .val (.int q), .val (.ref b1), .unset] [(.int (11 : Int32)), (.int p3), (.int (11 : Int32)), (.ref b1)])
  refine goS X23 hx hZ (y := (⟨"wardlog/BytesPutLongPinLaw", "sent", "(II)B"⟩ : MethodName)) hown (hw _ (List.mem_of_getElem? (i := 1) rfl)) (hw _ (List.mem_of_getElem? (i := 2) rfl)) (hw _ (List.mem_of_getElem? (i := 3) rfl)) (hw _ (List.mem_of_getElem? (i := 4) rfl)) (by decide) (rm1 l Z a0 hw p3 (11 : Int32) h23 n0 Z23) e23 N23 2 (by decide) (by decide) (by decide) (by decide) (g := (mkF m 127 #[.val (.long q1), .second, .val (.int p2), .val (.int p3), .val (.int q), .val (.ref b1), .unset] [(.int (11 : Int32)), (.int p3), (.int (11 : Int32)), (.ref b1)])) rfl (by rw [hml]; rfl) [(.int p3), (.int (11 : Int32))] [(.int (11 : Int32)), (.ref b1)] (lenOf pd0_0 rfl) rfl rfl (by show 2 * 0 + _ ≤ _; exact Nat.le_of_eq rfl) (hb hby at_127) ?_
  intro T24 v24 L24 M24 X24 N24 hq24
  obtain ⟨rfl, N24q, e24⟩ := hq24
  replace N24 := N24 N24q
  show Go _ _ _ _ T24 (mkF m 130 #[.val (.long q1), .second, .val (.int p2), .val (.int p3), .val (.int q), .val (.ref b1), .unset] [(.int (own_sent p3 (11 : Int32))), (.int (11 : Int32)), (.ref b1)])
  refine goStB X24 hx hZ e24 N24 V_b1 g_b1 (g := (mkF m 130 #[.val (.long q1), .second, .val (.int p2), .val (.int p3), .val (.int q), .val (.ref b1), .unset] [(.int (own_sent p3 (11 : Int32))), (.int (11 : Int32)), (.ref b1)])) rfl rfl (hb hby at_130) (k := 11) ⟨by decide, rfl, by decide⟩ ?_
  intro T25 h25 L25 X25 e25 N25 W25 V_b1
  have Z25 := own_sz W25 Z23
  show Go _ _ _ _ T25 (mkF m 131 #[.val (.long q1), .second, .val (.int p2), .val (.int p3), .val (.int q), .val (.ref b1), .unset] [])
  replace V_b1 := V_b1.to (f' := fun i => .int (own_sent p3 (Int32.ofNat i))) (own_fill p3)
  refine Go.st (fun t k => XS.aload X25.here hx rfl (hb hby at_131) rfl rfl k) ?_
  show Go _ _ _ _ T25 (mkF m 133 #[.val (.long q1), .second, .val (.int p2), .val (.int p3), .val (.int q), .val (.ref b1), .unset] [(.ref b1)])
  refine Go.st (fun t k => XS.iload X25.here hx rfl (hb hby at_133) rfl k) ?_
  show Go _ _ _ _ T25 (mkF m 135 #[.val (.long q1), .second, .val (.int p2), .val (.int p3), .val (.int q), .val (.ref b1), .unset] [(.int q), (.ref b1)])
  refine Go.st (fun t k => XS.lloadN X25.here hx rfl (hb hby at_135) rfl k) ?_
  show Go _ _ _ _ T25 (mkF m 136 #[.val (.long q1), .second, .val (.int p2), .val (.int p3), .val (.int q), .val (.ref b1), .unset] [(.long q1), (.int q), (.ref b1)])
  refine goS X25 hx hZ (y := (⟨"wardlog/Bytes", "putLong", "([BIJ)I"⟩ : MethodName)) hown (hw _ (List.mem_of_getElem? (i := 5) rfl)) (hw _ (List.mem_of_getElem? (i := 6) rfl)) (hw _ (List.mem_of_getElem? (i := 7) rfl)) (hw _ (List.mem_of_getElem? (i := 8) rfl)) (by decide) (rm2 l Z a0 hw b1 q q1 h25 n0 Z25 k 12 _ V_b1 g_b1 I0 I1 I2 I3 I4 I5 I6 I7) e25 N25 0 (by decide) (by decide) (by decide) (by decide) (g := (mkF m 136 #[.val (.long q1), .second, .val (.int p2), .val (.int p3), .val (.int q), .val (.ref b1), .unset] [(.long q1), (.int q), (.ref b1)])) rfl (by rw [hml]; rfl) [(.ref b1), (.int q), (.long q1)] [] (lenOf pd0_1 rfl) rfl rfl (by show 2 * 0 + _ ≤ _; exact Nat.le_of_eq rfl) (hb hby at_136) ?_
  intro T26 v26 L26 M26 X26 N26 hq26
  obtain ⟨rfl, N26q, K26, V_b1⟩ := hq26
  replace N26 := N26 N26q
  have Z26 := Nat.le_trans Z25 K26.1
  show Go _ _ _ _ T26 (mkF m 139 #[.val (.long q1), .second, .val (.int p2), .val (.int p3), .val (.int q), .val (.ref b1), .unset] [(.int (q + (8 : Int32)))])
  refine Go.st (fun t k => XS.istore X26.here hx rfl (hb hby at_139) rfl (l' := #[.val (.long q1), .second, .val (.int p2), .val (.int p3), .val (.int q), .val (.ref b1), .val (.int (q + (8 : Int32)))]) rfl k) ?_
  show Go _ _ _ _ T26 (mkF m 141 #[.val (.long q1), .second, .val (.int p2), .val (.int p3), .val (.int q), .val (.ref b1), .val (.int (q + (8 : Int32)))] [])
  refine Go.st (fun t k => XS.iload X26.here hx rfl (hb hby at_141) rfl k) ?_
  show Go _ _ _ _ T26 (mkF m 143 #[.val (.long q1), .second, .val (.int p2), .val (.int p3), .val (.int q), .val (.ref b1), .val (.int (q + (8 : Int32)))] [(.int (q + (8 : Int32)))])
  refine Go.st (fun t k => XS.iload X26.here hx rfl (hb hby at_143) rfl k) ?_
  show Go _ _ _ _ T26 (mkF m 145 #[.val (.long q1), .second, .val (.int p2), .val (.int p3), .val (.int q), .val (.ref b1), .val (.int (q + (8 : Int32)))] [(.int q), (.int (q + (8 : Int32)))])
  refine Go.st (fun t k => XS.bipush X26.here hx rfl (hb hby at_145) k) ?_
  show Go _ _ _ _ T26 (mkF m 147 #[.val (.long q1), .second, .val (.int p2), .val (.int p3), .val (.int q), .val (.ref b1), .val (.int (q + (8 : Int32)))] [(.int (8 : Int32)), (.int q), (.int (q + (8 : Int32)))])
  refine Go.st (fun t k => XS.iadd X26.here hx rfl (hb hby at_147) rfl k) ?_
  show Go _ _ _ _ T26 (mkF m 148 #[.val (.long q1), .second, .val (.int p2), .val (.int p3), .val (.int q), .val (.ref b1), .val (.int (q + (8 : Int32)))] [(.int (q + (8 : Int32))), (.int (q + (8 : Int32)))])
  refine Go.st (fun t k => XS.icmpYes X26.here hx rfl (pc0 := 148) (pc' := 153) rfl (hb hby at_148) rfl (teq rfl).1 (by decide) (by decide) k) ?_
  show Go _ _ _ _ T26 (mkF m 153 #[.val (.long q1), .second, .val (.int p2), .val (.int p3), .val (.int q), .val (.ref b1), .val (.int (q + (8 : Int32)))] [])
  refine Go.st (fun t k => XS.aload X26.here hx rfl (hb hby at_153) rfl rfl k) ?_
  show Go _ _ _ _ T26 (mkF m 155 #[.val (.long q1), .second, .val (.int p2), .val (.int p3), .val (.int q), .val (.ref b1), .val (.int (q + (8 : Int32)))] [(.ref b1)])
  refine Go.st (fun t k => XS.iload X26.here hx rfl (hb hby at_155) rfl k) ?_
  show Go _ _ _ _ T26 (mkF m 157 #[.val (.long q1), .second, .val (.int p2), .val (.int p3), .val (.int q), .val (.ref b1), .val (.int (q + (8 : Int32)))] [(.int q), (.ref b1)])
  refine goS X26 hx hZ (y := (⟨"wardlog/Bytes", "getLong", "([BI)J"⟩ : MethodName)) hown (hw _ (List.mem_of_getElem? (i := 9) rfl)) (hw _ (List.mem_of_getElem? (i := 10) rfl)) (hw _ (List.mem_of_getElem? (i := 7) rfl)) (hw _ (List.mem_of_getElem? (i := 11) rfl)) (by decide) (rm3 l Z a0 hw b1 q T26.heap n0 Z26 k 12 _ (own_b0 q1) (own_b1 q1) (own_b2 q1) (own_b3 q1) (own_b4 q1) (own_b5 q1) (own_b6 q1) (own_b7 q1) V_b1 I0 I1 I2 I3 I4 I5 I6 I7 (by simp) (by simp) (by simp) (by simp) (by simp) (by simp) (by simp) (by simp)) rfl N26 0 (by decide) (by decide) (by decide) (by decide) (g := (mkF m 157 #[.val (.long q1), .second, .val (.int p2), .val (.int p3), .val (.int q), .val (.ref b1), .val (.int (q + (8 : Int32)))] [(.int q), (.ref b1)])) rfl (by rw [hml]; rfl) [(.ref b1), (.int q)] [] (lenOf pd0_2 rfl) rfl rfl (by show 2 * 0 + _ ≤ _; exact Nat.le_of_eq rfl) (hb hby at_157) ?_
  intro T27 v27 L27 M27 X27 N27 hq27
  obtain ⟨rfl, N27q, e27⟩ := hq27
  replace N27 := N27 N27q
  show Go _ _ _ _ T27 (mkF m 160 #[.val (.long q1), .second, .val (.int p2), .val (.int p3), .val (.int q), .val (.ref b1), .val (.int (q + (8 : Int32)))] [(.long (own_getl (own_b0 q1) (own_b1 q1) (own_b2 q1) (own_b3 q1) (own_b4 q1) (own_b5 q1) (own_b6 q1) (own_b7 q1)))])
  refine Go.st (fun t k => XS.lloadN X27.here hx rfl (hb hby at_160) rfl k) ?_
  show Go _ _ _ _ T27 (mkF m 161 #[.val (.long q1), .second, .val (.int p2), .val (.int p3), .val (.int q), .val (.ref b1), .val (.int (q + (8 : Int32)))] [(.long q1), (.long (own_getl (own_b0 q1) (own_b1 q1) (own_b2 q1) (own_b3 q1) (own_b4 q1) (own_b5 q1) (own_b6 q1) (own_b7 q1)))])
  refine Go.st (fun t k => XS.lcmp X27.here hx rfl (hb hby at_161) rfl k) ?_
  show Go _ _ _ _ T27 (mkF m 162 #[.val (.long q1), .second, .val (.int p2), .val (.int p3), .val (.int q), .val (.ref b1), .val (.int (q + (8 : Int32)))] [(.int (lcmpW (own_getl (own_b0 q1) (own_b1 q1) (own_b2 q1) (own_b3 q1) (own_b4 q1) (own_b5 q1) (own_b6 q1) (own_b7 q1)) q1))])
  refine Go.st (fun t k => XS.ifYes X27.here hx rfl (pc0 := 162) (pc' := 167) rfl (hb hby at_162) rfl ((if0 _ _).trans (teq ((lw_eq _ _).mpr (own_pl q1))).1) (by decide) (by decide) k) ?_
  show Go _ _ _ _ T27 (mkF m 167 #[.val (.long q1), .second, .val (.int p2), .val (.int p3), .val (.int q), .val (.ref b1), .val (.int (q + (8 : Int32)))] [])
  refine Go.st (fun t k => XS.aload X27.here hx rfl (hb hby at_167) rfl rfl k) ?_
  show Go _ _ _ _ T27 (mkF m 169 #[.val (.long q1), .second, .val (.int p2), .val (.int p3), .val (.int q), .val (.ref b1), .val (.int (q + (8 : Int32)))] [(.ref b1)])
  refine Go.st (fun t k => XS.iload X27.here hx rfl (hb hby at_169) rfl k) ?_
  show Go _ _ _ _ T27 (mkF m 171 #[.val (.long q1), .second, .val (.int p2), .val (.int p3), .val (.int q), .val (.ref b1), .val (.int (q + (8 : Int32)))] [(.int q), (.ref b1)])
  refine goS X27 hx hZ (y := (⟨"wardlog/Bytes", "getInt", "([BI)I"⟩ : MethodName)) hown (hw _ (List.mem_of_getElem? (i := 13) rfl)) (hw _ (List.mem_of_getElem? (i := 14) rfl)) (hw _ (List.mem_of_getElem? (i := 7) rfl)) (hw _ (List.mem_of_getElem? (i := 15) rfl)) (by decide) (rm4 l Z a0 hw b1 q T26.heap n0 Z26 k 12 _ (own_b0 q1) (own_b1 q1) (own_b2 q1) (own_b3 q1) V_b1 I0 I1 I2 I3 (by simp) (by simp) (by simp) (by simp)) e27 N27 0 (by decide) (by decide) (by decide) (by decide) (g := (mkF m 171 #[.val (.long q1), .second, .val (.int p2), .val (.int p3), .val (.int q), .val (.ref b1), .val (.int (q + (8 : Int32)))] [(.int q), (.ref b1)])) rfl (by rw [hml]; rfl) [(.ref b1), (.int q)] [] (lenOf pd0_3 rfl) rfl rfl (by show 2 * 0 + _ ≤ _; exact Nat.le_of_eq rfl) (hb hby at_171) ?_
  intro T28 v28 L28 M28 X28 N28 hq28
  obtain ⟨rfl, N28q, e28⟩ := hq28
  replace N28 := N28 N28q
  show Go _ _ _ _ T28 (mkF m 174 #[.val (.long q1), .second, .val (.int p2), .val (.int p3), .val (.int q), .val (.ref b1), .val (.int (q + (8 : Int32)))] [(.int (own_get (own_b0 q1) (own_b1 q1) (own_b2 q1) (own_b3 q1)))])
  refine Go.st (fun t k => XS.lloadN X28.here hx rfl (hb hby at_174) rfl k) ?_
  show Go _ _ _ _ T28 (mkF m 175 #[.val (.long q1), .second, .val (.int p2), .val (.int p3), .val (.int q), .val (.ref b1), .val (.int (q + (8 : Int32)))] [(.long q1), (.int (own_get (own_b0 q1) (own_b1 q1) (own_b2 q1) (own_b3 q1)))])
  refine Go.st (fun t k => XS.bipush X28.here hx rfl (hb hby at_175) k) ?_
  show Go _ _ _ _ T28 (mkF m 177 #[.val (.long q1), .second, .val (.int p2), .val (.int p3), .val (.int q), .val (.ref b1), .val (.int (q + (8 : Int32)))] [(.int (32 : Int32)), (.long q1), (.int (own_get (own_b0 q1) (own_b1 q1) (own_b2 q1) (own_b3 q1)))])
  refine Go.st (fun t k => XS.lushr X28.here hx rfl (hb hby at_177) rfl k) ?_
  show Go _ _ _ _ T28 (mkF m 178 #[.val (.long q1), .second, .val (.int p2), .val (.int p3), .val (.int q), .val (.ref b1), .val (.int (q + (8 : Int32)))] [(.long ((q1.toUInt64 >>> ((32 : Int32) &&& 0x3f).toInt64.toUInt64).toInt64)), (.int (own_get (own_b0 q1) (own_b1 q1) (own_b2 q1) (own_b3 q1)))])
  refine Go.st (fun t k => XS.l2i X28.here hx rfl (hb hby at_178) rfl k) ?_
  show Go _ _ _ _ T28 (mkF m 179 #[.val (.long q1), .second, .val (.int p2), .val (.int p3), .val (.int q), .val (.ref b1), .val (.int (q + (8 : Int32)))] [(.int (((q1.toUInt64 >>> ((32 : Int32) &&& 0x3f).toInt64.toUInt64).toInt64).toInt32)), (.int (own_get (own_b0 q1) (own_b1 q1) (own_b2 q1) (own_b3 q1)))])
  refine Go.st (fun t k => XS.icmpYes X28.here hx rfl (pc0 := 179) (pc' := 184) rfl (hb hby at_179) rfl (teq (own_pi1 q1)).1 (by decide) (by decide) k) ?_
  show Go _ _ _ _ T28 (mkF m 184 #[.val (.long q1), .second, .val (.int p2), .val (.int p3), .val (.int q), .val (.ref b1), .val (.int (q + (8 : Int32)))] [])
  refine Go.st (fun t k => XS.aload X28.here hx rfl (hb hby at_184) rfl rfl k) ?_
  show Go _ _ _ _ T28 (mkF m 186 #[.val (.long q1), .second, .val (.int p2), .val (.int p3), .val (.int q), .val (.ref b1), .val (.int (q + (8 : Int32)))] [(.ref b1)])
  refine Go.st (fun t k => XS.iload X28.here hx rfl (hb hby at_186) rfl k) ?_
  show Go _ _ _ _ T28 (mkF m 188 #[.val (.long q1), .second, .val (.int p2), .val (.int p3), .val (.int q), .val (.ref b1), .val (.int (q + (8 : Int32)))] [(.int q), (.ref b1)])
  refine Go.st (fun t k => XS.iconst X28.here hx rfl (hb hby at_188) k) ?_
  show Go _ _ _ _ T28 (mkF m 189 #[.val (.long q1), .second, .val (.int p2), .val (.int p3), .val (.int q), .val (.ref b1), .val (.int (q + (8 : Int32)))] [(.int (4 : Int32)), (.int q), (.ref b1)])
  refine Go.st (fun t k => XS.iadd X28.here hx rfl (hb hby at_189) rfl k) ?_
  show Go _ _ _ _ T28 (mkF m 190 #[.val (.long q1), .second, .val (.int p2), .val (.int p3), .val (.int q), .val (.ref b1), .val (.int (q + (8 : Int32)))] [(.int (q + (4 : Int32))), (.ref b1)])
  refine goS X28 hx hZ (y := (⟨"wardlog/Bytes", "getInt", "([BI)I"⟩ : MethodName)) hown (hw _ (List.mem_of_getElem? (i := 13) rfl)) (hw _ (List.mem_of_getElem? (i := 14) rfl)) (hw _ (List.mem_of_getElem? (i := 7) rfl)) (hw _ (List.mem_of_getElem? (i := 15) rfl)) (by decide) (rm4 l Z a0 hw b1 (q + (4 : Int32)) T26.heap n0 Z26 (k + 4) 12 _ (own_b4 q1) (own_b5 q1) (own_b6 q1) (own_b7 q1) V_b1 I4 J1 J2 J3 (by simp) (by simp) (by simp) (by simp)) e28 N28 0 (by decide) (by decide) (by decide) (by decide) (g := (mkF m 190 #[.val (.long q1), .second, .val (.int p2), .val (.int p3), .val (.int q), .val (.ref b1), .val (.int (q + (8 : Int32)))] [(.int (q + (4 : Int32))), (.ref b1)])) rfl (by rw [hml]; rfl) [(.ref b1), (.int (q + (4 : Int32)))] [] (lenOf pd0_3 rfl) rfl rfl (by show 2 * 0 + _ ≤ _; exact Nat.le_of_eq rfl) (hb hby at_190) ?_
  intro T29 v29 L29 M29 X29 N29 hq29
  obtain ⟨rfl, N29q, e29⟩ := hq29
  replace N29 := N29 N29q
  show Go _ _ _ _ T29 (mkF m 193 #[.val (.long q1), .second, .val (.int p2), .val (.int p3), .val (.int q), .val (.ref b1), .val (.int (q + (8 : Int32)))] [(.int (own_get (own_b4 q1) (own_b5 q1) (own_b6 q1) (own_b7 q1)))])
  refine Go.st (fun t k => XS.lloadN X29.here hx rfl (hb hby at_193) rfl k) ?_
  show Go _ _ _ _ T29 (mkF m 194 #[.val (.long q1), .second, .val (.int p2), .val (.int p3), .val (.int q), .val (.ref b1), .val (.int (q + (8 : Int32)))] [(.long q1), (.int (own_get (own_b4 q1) (own_b5 q1) (own_b6 q1) (own_b7 q1)))])
  refine Go.st (fun t k => XS.l2i X29.here hx rfl (hb hby at_194) rfl k) ?_
  show Go _ _ _ _ T29 (mkF m 195 #[.val (.long q1), .second, .val (.int p2), .val (.int p3), .val (.int q), .val (.ref b1), .val (.int (q + (8 : Int32)))] [(.int (q1.toInt32)), (.int (own_get (own_b4 q1) (own_b5 q1) (own_b6 q1) (own_b7 q1)))])
  refine Go.st (fun t k => XS.icmpYes X29.here hx rfl (pc0 := 195) (pc' := 200) rfl (hb hby at_195) rfl (teq (own_pi2 q1)).1 (by decide) (by decide) k) ?_
  show Go _ _ _ _ T29 (mkF m 200 #[.val (.long q1), .second, .val (.int p2), .val (.int p3), .val (.int q), .val (.ref b1), .val (.int (q + (8 : Int32)))] [])
  refine Go.st (fun t k => XS.aload X29.here hx rfl (hb hby at_200) rfl rfl k) ?_
  show Go _ _ _ _ T29 (mkF m 202 #[.val (.long q1), .second, .val (.int p2), .val (.int p3), .val (.int q), .val (.ref b1), .val (.int (q + (8 : Int32)))] [(.ref b1)])
  refine Go.st (fun t k => XS.iload X29.here hx rfl (hb hby at_202) rfl k) ?_
  show Go _ _ _ _ T29 (mkF m 204 #[.val (.long q1), .second, .val (.int p2), .val (.int p3), .val (.int q), .val (.ref b1), .val (.int (q + (8 : Int32)))] [(.int q), (.ref b1)])
  refine goLdB X29 hx hZ e29 V_b1 (v := (.int (own_b0 q1))) (g := (mkF m 204 #[.val (.long q1), .second, .val (.int p2), .val (.int p3), .val (.int q), .val (.ref b1), .val (.int (q + (8 : Int32)))] [(.int q), (.ref b1)])) rfl rfl (hb hby at_204) I0 (by simp) ?_
  show Go _ _ _ _ T29 (mkF m 205 #[.val (.long q1), .second, .val (.int p2), .val (.int p3), .val (.int q), .val (.ref b1), .val (.int (q + (8 : Int32)))] [(.int (own_b0 q1))])
  refine Go.st (fun t k => XS.lloadN X29.here hx rfl (hb hby at_205) rfl k) ?_
  show Go _ _ _ _ T29 (mkF m 206 #[.val (.long q1), .second, .val (.int p2), .val (.int p3), .val (.int q), .val (.ref b1), .val (.int (q + (8 : Int32)))] [(.long q1), (.int (own_b0 q1))])
  refine Go.st (fun t k => XS.bipush X29.here hx rfl (hb hby at_206) k) ?_
  show Go _ _ _ _ T29 (mkF m 208 #[.val (.long q1), .second, .val (.int p2), .val (.int p3), .val (.int q), .val (.ref b1), .val (.int (q + (8 : Int32)))] [(.int (56 : Int32)), (.long q1), (.int (own_b0 q1))])
  refine Go.st (fun t k => XS.lushr X29.here hx rfl (hb hby at_208) rfl k) ?_
  show Go _ _ _ _ T29 (mkF m 209 #[.val (.long q1), .second, .val (.int p2), .val (.int p3), .val (.int q), .val (.ref b1), .val (.int (q + (8 : Int32)))] [(.long ((q1.toUInt64 >>> ((56 : Int32) &&& 0x3f).toInt64.toUInt64).toInt64)), (.int (own_b0 q1))])
  refine Go.st (fun t k => XS.l2i X29.here hx rfl (hb hby at_209) rfl k) ?_
  show Go _ _ _ _ T29 (mkF m 210 #[.val (.long q1), .second, .val (.int p2), .val (.int p3), .val (.int q), .val (.ref b1), .val (.int (q + (8 : Int32)))] [(.int (((q1.toUInt64 >>> ((56 : Int32) &&& 0x3f).toInt64.toUInt64).toInt64).toInt32)), (.int (own_b0 q1))])
  refine Go.st (fun t k => XS.i2b X29.here hx rfl (hb hby at_210) rfl k) ?_
  show Go _ _ _ _ T29 (mkF m 211 #[.val (.long q1), .second, .val (.int p2), .val (.int p3), .val (.int q), .val (.ref b1), .val (.int (q + (8 : Int32)))] [(.int ((((q1.toUInt64 >>> ((56 : Int32) &&& 0x3f).toInt64.toUInt64).toInt64).toInt32).toInt8.toInt32)), (.int (own_b0 q1))])
  refine Go.st (fun t k => XS.icmpYes X29.here hx rfl (pc0 := 211) (pc' := 216) rfl (hb hby at_211) rfl (teq (own_nn _)).1 (by decide) (by decide) k) ?_
  show Go _ _ _ _ T29 (mkF m 216 #[.val (.long q1), .second, .val (.int p2), .val (.int p3), .val (.int q), .val (.ref b1), .val (.int (q + (8 : Int32)))] [])
  refine Go.st (fun t k => XS.aload X29.here hx rfl (hb hby at_216) rfl rfl k) ?_
  show Go _ _ _ _ T29 (mkF m 218 #[.val (.long q1), .second, .val (.int p2), .val (.int p3), .val (.int q), .val (.ref b1), .val (.int (q + (8 : Int32)))] [(.ref b1)])
  refine Go.st (fun t k => XS.iload X29.here hx rfl (hb hby at_218) rfl k) ?_
  show Go _ _ _ _ T29 (mkF m 220 #[.val (.long q1), .second, .val (.int p2), .val (.int p3), .val (.int q), .val (.ref b1), .val (.int (q + (8 : Int32)))] [(.int q), (.ref b1)])
  refine Go.st (fun t k => XS.bipush X29.here hx rfl (hb hby at_220) k) ?_
  show Go _ _ _ _ T29 (mkF m 222 #[.val (.long q1), .second, .val (.int p2), .val (.int p3), .val (.int q), .val (.ref b1), .val (.int (q + (8 : Int32)))] [(.int (7 : Int32)), (.int q), (.ref b1)])
  refine Go.st (fun t k => XS.iadd X29.here hx rfl (hb hby at_222) rfl k) ?_
  show Go _ _ _ _ T29 (mkF m 223 #[.val (.long q1), .second, .val (.int p2), .val (.int p3), .val (.int q), .val (.ref b1), .val (.int (q + (8 : Int32)))] [(.int (q + (7 : Int32))), (.ref b1)])
  refine goLdB X29 hx hZ e29 V_b1 (v := (.int (own_b7 q1))) (g := (mkF m 223 #[.val (.long q1), .second, .val (.int p2), .val (.int p3), .val (.int q), .val (.ref b1), .val (.int (q + (8 : Int32)))] [(.int (q + (7 : Int32))), (.ref b1)])) rfl rfl (hb hby at_223) I7 (by simp) ?_
  show Go _ _ _ _ T29 (mkF m 224 #[.val (.long q1), .second, .val (.int p2), .val (.int p3), .val (.int q), .val (.ref b1), .val (.int (q + (8 : Int32)))] [(.int (own_b7 q1))])
  refine Go.st (fun t k => XS.lloadN X29.here hx rfl (hb hby at_224) rfl k) ?_
  show Go _ _ _ _ T29 (mkF m 225 #[.val (.long q1), .second, .val (.int p2), .val (.int p3), .val (.int q), .val (.ref b1), .val (.int (q + (8 : Int32)))] [(.long q1), (.int (own_b7 q1))])
  refine Go.st (fun t k => XS.l2i X29.here hx rfl (hb hby at_225) rfl k) ?_
  show Go _ _ _ _ T29 (mkF m 226 #[.val (.long q1), .second, .val (.int p2), .val (.int p3), .val (.int q), .val (.ref b1), .val (.int (q + (8 : Int32)))] [(.int (q1.toInt32)), (.int (own_b7 q1))])
  refine Go.st (fun t k => XS.i2b X29.here hx rfl (hb hby at_226) rfl k) ?_
  show Go _ _ _ _ T29 (mkF m 227 #[.val (.long q1), .second, .val (.int p2), .val (.int p3), .val (.int q), .val (.ref b1), .val (.int (q + (8 : Int32)))] [(.int ((q1.toInt32).toInt8.toInt32)), (.int (own_b7 q1))])
  refine Go.st (fun t k => XS.icmpYes X29.here hx rfl (pc0 := 227) (pc' := 232) rfl (hb hby at_227) rfl (teq (own_nn _)).1 (by decide) (by decide) k) ?_
  show Go _ _ _ _ T29 (mkF m 232 #[.val (.long q1), .second, .val (.int p2), .val (.int p3), .val (.int q), .val (.ref b1), .val (.int (q + (8 : Int32)))] [])
  refine Go.st (fun t k => XS.aload X29.here hx rfl (hb hby at_232) rfl rfl k) ?_
  show Go _ _ _ _ T29 (mkF m 234 #[.val (.long q1), .second, .val (.int p2), .val (.int p3), .val (.int q), .val (.ref b1), .val (.int (q + (8 : Int32)))] [(.ref b1)])
  refine Go.st (fun t k => XS.iload X29.here hx rfl (hb hby at_234) rfl k) ?_
  show Go _ _ _ _ T29 (mkF m 236 #[.val (.long q1), .second, .val (.int p2), .val (.int p3), .val (.int q), .val (.ref b1), .val (.int (q + (8 : Int32)))] [(.int q), (.ref b1)])
  refine Go.st (fun t k => XS.iloadN X29.here hx rfl (hb hby at_236) rfl k) ?_
  show Go _ _ _ _ T29 (mkF m 237 #[.val (.long q1), .second, .val (.int p2), .val (.int p3), .val (.int q), .val (.ref b1), .val (.int (q + (8 : Int32)))] [(.int p3), (.int q), (.ref b1)])
  refine Go.st (fun t k => XS.iconst X29.here hx rfl (hb hby at_237) k) ?_
  show Go _ _ _ _ T29 (mkF m 238 #[.val (.long q1), .second, .val (.int p2), .val (.int p3), .val (.int q), .val (.ref b1), .val (.int (q + (8 : Int32)))] [(.int (0 : Int32)), (.int p3), (.int q), (.ref b1)])
  obtain ⟨w0, Hk0, Hs0⟩ := own_keep q1 p3 hcase 0 (by decide)
  refine goS X29 hx hZ (y := (⟨"wardlog/BytesPutLongPinLaw", "kept", "([BIII)Z"⟩ : MethodName)) hown (hw _ (List.mem_of_getElem? (i := 16) rfl)) (hw _ (List.mem_of_getElem? (i := 17) rfl)) (hw _ (List.mem_of_getElem? (i := 3) rfl)) (hw _ (List.mem_of_getElem? (i := 18) rfl)) (by decide) (rm5 l Z a0 hw b1 q p3 (0 : Int32) T26.heap n0 Z26 0 12 _ w0 V_b1 ⟨by decide, rfl, by decide⟩ Hk0 Hs0) e29 N29 0 (by decide) (by decide) (by decide) (by decide) (g := (mkF m 238 #[.val (.long q1), .second, .val (.int p2), .val (.int p3), .val (.int q), .val (.ref b1), .val (.int (q + (8 : Int32)))] [(.int (0 : Int32)), (.int p3), (.int q), (.ref b1)])) rfl (by rw [hml]; rfl) [(.ref b1), (.int q), (.int p3), (.int (0 : Int32))] [] (lenOf pd0_4 rfl) rfl rfl (by show 2 * 0 + _ ≤ _; exact Nat.le_of_eq rfl) (hb hby at_238) ?_
  intro T30 v30 L30 M30 X30 N30 hq30
  obtain ⟨rfl, N30q, e30⟩ := hq30
  replace N30 := N30 N30q
  show Go _ _ _ _ T30 (mkF m 241 #[.val (.long q1), .second, .val (.int p2), .val (.int p3), .val (.int q), .val (.ref b1), .val (.int (q + (8 : Int32)))] [(.int (1 : Int32))])
  refine Go.st (fun t k => XS.ifNo X30.here hx rfl (hb hby at_241) rfl (by decide) k) ?_
  show Go _ _ _ _ T30 (mkF m 244 #[.val (.long q1), .second, .val (.int p2), .val (.int p3), .val (.int q), .val (.ref b1), .val (.int (q + (8 : Int32)))] [])
  refine Go.st (fun t k => XS.aload X30.here hx rfl (hb hby at_244) rfl rfl k) ?_
  show Go _ _ _ _ T30 (mkF m 246 #[.val (.long q1), .second, .val (.int p2), .val (.int p3), .val (.int q), .val (.ref b1), .val (.int (q + (8 : Int32)))] [(.ref b1)])
  refine Go.st (fun t k => XS.iload X30.here hx rfl (hb hby at_246) rfl k) ?_
  show Go _ _ _ _ T30 (mkF m 248 #[.val (.long q1), .second, .val (.int p2), .val (.int p3), .val (.int q), .val (.ref b1), .val (.int (q + (8 : Int32)))] [(.int q), (.ref b1)])
  refine Go.st (fun t k => XS.iloadN X30.here hx rfl (hb hby at_248) rfl k) ?_
  show Go _ _ _ _ T30 (mkF m 249 #[.val (.long q1), .second, .val (.int p2), .val (.int p3), .val (.int q), .val (.ref b1), .val (.int (q + (8 : Int32)))] [(.int p3), (.int q), (.ref b1)])
  refine Go.st (fun t k => XS.iconst X30.here hx rfl (hb hby at_249) k) ?_
  show Go _ _ _ _ T30 (mkF m 250 #[.val (.long q1), .second, .val (.int p2), .val (.int p3), .val (.int q), .val (.ref b1), .val (.int (q + (8 : Int32)))] [(.int (1 : Int32)), (.int p3), (.int q), (.ref b1)])
  obtain ⟨w1, Hk1, Hs1⟩ := own_keep q1 p3 hcase 1 (by decide)
  refine goS X30 hx hZ (y := (⟨"wardlog/BytesPutLongPinLaw", "kept", "([BIII)Z"⟩ : MethodName)) hown (hw _ (List.mem_of_getElem? (i := 16) rfl)) (hw _ (List.mem_of_getElem? (i := 17) rfl)) (hw _ (List.mem_of_getElem? (i := 3) rfl)) (hw _ (List.mem_of_getElem? (i := 18) rfl)) (by decide) (rm5 l Z a0 hw b1 q p3 (1 : Int32) T26.heap n0 Z26 1 12 _ w1 V_b1 ⟨by decide, rfl, by decide⟩ Hk1 Hs1) e30 N30 0 (by decide) (by decide) (by decide) (by decide) (g := (mkF m 250 #[.val (.long q1), .second, .val (.int p2), .val (.int p3), .val (.int q), .val (.ref b1), .val (.int (q + (8 : Int32)))] [(.int (1 : Int32)), (.int p3), (.int q), (.ref b1)])) rfl (by rw [hml]; rfl) [(.ref b1), (.int q), (.int p3), (.int (1 : Int32))] [] (lenOf pd0_4 rfl) rfl rfl (by show 2 * 0 + _ ≤ _; exact Nat.le_of_eq rfl) (hb hby at_250) ?_
  intro T31 v31 L31 M31 X31 N31 hq31
  obtain ⟨rfl, N31q, e31⟩ := hq31
  replace N31 := N31 N31q
  show Go _ _ _ _ T31 (mkF m 253 #[.val (.long q1), .second, .val (.int p2), .val (.int p3), .val (.int q), .val (.ref b1), .val (.int (q + (8 : Int32)))] [(.int (1 : Int32))])
  refine Go.st (fun t k => XS.ifNo X31.here hx rfl (hb hby at_253) rfl (by decide) k) ?_
  show Go _ _ _ _ T31 (mkF m 256 #[.val (.long q1), .second, .val (.int p2), .val (.int p3), .val (.int q), .val (.ref b1), .val (.int (q + (8 : Int32)))] [])
  refine Go.st (fun t k => XS.aload X31.here hx rfl (hb hby at_256) rfl rfl k) ?_
  show Go _ _ _ _ T31 (mkF m 258 #[.val (.long q1), .second, .val (.int p2), .val (.int p3), .val (.int q), .val (.ref b1), .val (.int (q + (8 : Int32)))] [(.ref b1)])
  refine Go.st (fun t k => XS.iload X31.here hx rfl (hb hby at_258) rfl k) ?_
  show Go _ _ _ _ T31 (mkF m 260 #[.val (.long q1), .second, .val (.int p2), .val (.int p3), .val (.int q), .val (.ref b1), .val (.int (q + (8 : Int32)))] [(.int q), (.ref b1)])
  refine Go.st (fun t k => XS.iloadN X31.here hx rfl (hb hby at_260) rfl k) ?_
  show Go _ _ _ _ T31 (mkF m 261 #[.val (.long q1), .second, .val (.int p2), .val (.int p3), .val (.int q), .val (.ref b1), .val (.int (q + (8 : Int32)))] [(.int p3), (.int q), (.ref b1)])
  refine Go.st (fun t k => XS.iconst X31.here hx rfl (hb hby at_261) k) ?_
  show Go _ _ _ _ T31 (mkF m 262 #[.val (.long q1), .second, .val (.int p2), .val (.int p3), .val (.int q), .val (.ref b1), .val (.int (q + (8 : Int32)))] [(.int (2 : Int32)), (.int p3), (.int q), (.ref b1)])
  obtain ⟨w2, Hk2, Hs2⟩ := own_keep q1 p3 hcase 2 (by decide)
  refine goS X31 hx hZ (y := (⟨"wardlog/BytesPutLongPinLaw", "kept", "([BIII)Z"⟩ : MethodName)) hown (hw _ (List.mem_of_getElem? (i := 16) rfl)) (hw _ (List.mem_of_getElem? (i := 17) rfl)) (hw _ (List.mem_of_getElem? (i := 3) rfl)) (hw _ (List.mem_of_getElem? (i := 18) rfl)) (by decide) (rm5 l Z a0 hw b1 q p3 (2 : Int32) T26.heap n0 Z26 2 12 _ w2 V_b1 ⟨by decide, rfl, by decide⟩ Hk2 Hs2) e31 N31 0 (by decide) (by decide) (by decide) (by decide) (g := (mkF m 262 #[.val (.long q1), .second, .val (.int p2), .val (.int p3), .val (.int q), .val (.ref b1), .val (.int (q + (8 : Int32)))] [(.int (2 : Int32)), (.int p3), (.int q), (.ref b1)])) rfl (by rw [hml]; rfl) [(.ref b1), (.int q), (.int p3), (.int (2 : Int32))] [] (lenOf pd0_4 rfl) rfl rfl (by show 2 * 0 + _ ≤ _; exact Nat.le_of_eq rfl) (hb hby at_262) ?_
  intro T32 v32 L32 M32 X32 N32 hq32
  obtain ⟨rfl, N32q, e32⟩ := hq32
  replace N32 := N32 N32q
  show Go _ _ _ _ T32 (mkF m 265 #[.val (.long q1), .second, .val (.int p2), .val (.int p3), .val (.int q), .val (.ref b1), .val (.int (q + (8 : Int32)))] [(.int (1 : Int32))])
  refine Go.st (fun t k => XS.ifNo X32.here hx rfl (hb hby at_265) rfl (by decide) k) ?_
  show Go _ _ _ _ T32 (mkF m 268 #[.val (.long q1), .second, .val (.int p2), .val (.int p3), .val (.int q), .val (.ref b1), .val (.int (q + (8 : Int32)))] [])
  refine Go.st (fun t k => XS.aload X32.here hx rfl (hb hby at_268) rfl rfl k) ?_
  show Go _ _ _ _ T32 (mkF m 270 #[.val (.long q1), .second, .val (.int p2), .val (.int p3), .val (.int q), .val (.ref b1), .val (.int (q + (8 : Int32)))] [(.ref b1)])
  refine Go.st (fun t k => XS.iload X32.here hx rfl (hb hby at_270) rfl k) ?_
  show Go _ _ _ _ T32 (mkF m 272 #[.val (.long q1), .second, .val (.int p2), .val (.int p3), .val (.int q), .val (.ref b1), .val (.int (q + (8 : Int32)))] [(.int q), (.ref b1)])
  refine Go.st (fun t k => XS.iloadN X32.here hx rfl (hb hby at_272) rfl k) ?_
  show Go _ _ _ _ T32 (mkF m 273 #[.val (.long q1), .second, .val (.int p2), .val (.int p3), .val (.int q), .val (.ref b1), .val (.int (q + (8 : Int32)))] [(.int p3), (.int q), (.ref b1)])
  refine Go.st (fun t k => XS.iconst X32.here hx rfl (hb hby at_273) k) ?_
  show Go _ _ _ _ T32 (mkF m 274 #[.val (.long q1), .second, .val (.int p2), .val (.int p3), .val (.int q), .val (.ref b1), .val (.int (q + (8 : Int32)))] [(.int (3 : Int32)), (.int p3), (.int q), (.ref b1)])
  obtain ⟨w3, Hk3, Hs3⟩ := own_keep q1 p3 hcase 3 (by decide)
  refine goS X32 hx hZ (y := (⟨"wardlog/BytesPutLongPinLaw", "kept", "([BIII)Z"⟩ : MethodName)) hown (hw _ (List.mem_of_getElem? (i := 16) rfl)) (hw _ (List.mem_of_getElem? (i := 17) rfl)) (hw _ (List.mem_of_getElem? (i := 3) rfl)) (hw _ (List.mem_of_getElem? (i := 18) rfl)) (by decide) (rm5 l Z a0 hw b1 q p3 (3 : Int32) T26.heap n0 Z26 3 12 _ w3 V_b1 ⟨by decide, rfl, by decide⟩ Hk3 Hs3) e32 N32 0 (by decide) (by decide) (by decide) (by decide) (g := (mkF m 274 #[.val (.long q1), .second, .val (.int p2), .val (.int p3), .val (.int q), .val (.ref b1), .val (.int (q + (8 : Int32)))] [(.int (3 : Int32)), (.int p3), (.int q), (.ref b1)])) rfl (by rw [hml]; rfl) [(.ref b1), (.int q), (.int p3), (.int (3 : Int32))] [] (lenOf pd0_4 rfl) rfl rfl (by show 2 * 0 + _ ≤ _; exact Nat.le_of_eq rfl) (hb hby at_274) ?_
  intro T33 v33 L33 M33 X33 N33 hq33
  obtain ⟨rfl, N33q, e33⟩ := hq33
  replace N33 := N33 N33q
  show Go _ _ _ _ T33 (mkF m 277 #[.val (.long q1), .second, .val (.int p2), .val (.int p3), .val (.int q), .val (.ref b1), .val (.int (q + (8 : Int32)))] [(.int (1 : Int32))])
  refine Go.st (fun t k => XS.ifNo X33.here hx rfl (hb hby at_277) rfl (by decide) k) ?_
  show Go _ _ _ _ T33 (mkF m 280 #[.val (.long q1), .second, .val (.int p2), .val (.int p3), .val (.int q), .val (.ref b1), .val (.int (q + (8 : Int32)))] [])
  refine Go.st (fun t k => XS.aload X33.here hx rfl (hb hby at_280) rfl rfl k) ?_
  show Go _ _ _ _ T33 (mkF m 282 #[.val (.long q1), .second, .val (.int p2), .val (.int p3), .val (.int q), .val (.ref b1), .val (.int (q + (8 : Int32)))] [(.ref b1)])
  refine Go.st (fun t k => XS.iload X33.here hx rfl (hb hby at_282) rfl k) ?_
  show Go _ _ _ _ T33 (mkF m 284 #[.val (.long q1), .second, .val (.int p2), .val (.int p3), .val (.int q), .val (.ref b1), .val (.int (q + (8 : Int32)))] [(.int q), (.ref b1)])
  refine Go.st (fun t k => XS.iloadN X33.here hx rfl (hb hby at_284) rfl k) ?_
  show Go _ _ _ _ T33 (mkF m 285 #[.val (.long q1), .second, .val (.int p2), .val (.int p3), .val (.int q), .val (.ref b1), .val (.int (q + (8 : Int32)))] [(.int p3), (.int q), (.ref b1)])
  refine Go.st (fun t k => XS.iconst X33.here hx rfl (hb hby at_285) k) ?_
  show Go _ _ _ _ T33 (mkF m 286 #[.val (.long q1), .second, .val (.int p2), .val (.int p3), .val (.int q), .val (.ref b1), .val (.int (q + (8 : Int32)))] [(.int (4 : Int32)), (.int p3), (.int q), (.ref b1)])
  obtain ⟨w4, Hk4, Hs4⟩ := own_keep q1 p3 hcase 4 (by decide)
  refine goS X33 hx hZ (y := (⟨"wardlog/BytesPutLongPinLaw", "kept", "([BIII)Z"⟩ : MethodName)) hown (hw _ (List.mem_of_getElem? (i := 16) rfl)) (hw _ (List.mem_of_getElem? (i := 17) rfl)) (hw _ (List.mem_of_getElem? (i := 3) rfl)) (hw _ (List.mem_of_getElem? (i := 18) rfl)) (by decide) (rm5 l Z a0 hw b1 q p3 (4 : Int32) T26.heap n0 Z26 4 12 _ w4 V_b1 ⟨by decide, rfl, by decide⟩ Hk4 Hs4) e33 N33 0 (by decide) (by decide) (by decide) (by decide) (g := (mkF m 286 #[.val (.long q1), .second, .val (.int p2), .val (.int p3), .val (.int q), .val (.ref b1), .val (.int (q + (8 : Int32)))] [(.int (4 : Int32)), (.int p3), (.int q), (.ref b1)])) rfl (by rw [hml]; rfl) [(.ref b1), (.int q), (.int p3), (.int (4 : Int32))] [] (lenOf pd0_4 rfl) rfl rfl (by show 2 * 0 + _ ≤ _; exact Nat.le_of_eq rfl) (hb hby at_286) ?_
  intro T34 v34 L34 M34 X34 N34 hq34
  obtain ⟨rfl, N34q, e34⟩ := hq34
  replace N34 := N34 N34q
  show Go _ _ _ _ T34 (mkF m 289 #[.val (.long q1), .second, .val (.int p2), .val (.int p3), .val (.int q), .val (.ref b1), .val (.int (q + (8 : Int32)))] [(.int (1 : Int32))])
  refine Go.st (fun t k => XS.ifNo X34.here hx rfl (hb hby at_289) rfl (by decide) k) ?_
  show Go _ _ _ _ T34 (mkF m 292 #[.val (.long q1), .second, .val (.int p2), .val (.int p3), .val (.int q), .val (.ref b1), .val (.int (q + (8 : Int32)))] [])
  refine Go.st (fun t k => XS.aload X34.here hx rfl (hb hby at_292) rfl rfl k) ?_
  show Go _ _ _ _ T34 (mkF m 294 #[.val (.long q1), .second, .val (.int p2), .val (.int p3), .val (.int q), .val (.ref b1), .val (.int (q + (8 : Int32)))] [(.ref b1)])
  refine Go.st (fun t k => XS.iload X34.here hx rfl (hb hby at_294) rfl k) ?_
  show Go _ _ _ _ T34 (mkF m 296 #[.val (.long q1), .second, .val (.int p2), .val (.int p3), .val (.int q), .val (.ref b1), .val (.int (q + (8 : Int32)))] [(.int q), (.ref b1)])
  refine Go.st (fun t k => XS.iloadN X34.here hx rfl (hb hby at_296) rfl k) ?_
  show Go _ _ _ _ T34 (mkF m 297 #[.val (.long q1), .second, .val (.int p2), .val (.int p3), .val (.int q), .val (.ref b1), .val (.int (q + (8 : Int32)))] [(.int p3), (.int q), (.ref b1)])
  refine Go.st (fun t k => XS.iconst X34.here hx rfl (hb hby at_297) k) ?_
  show Go _ _ _ _ T34 (mkF m 298 #[.val (.long q1), .second, .val (.int p2), .val (.int p3), .val (.int q), .val (.ref b1), .val (.int (q + (8 : Int32)))] [(.int (5 : Int32)), (.int p3), (.int q), (.ref b1)])
  obtain ⟨w5, Hk5, Hs5⟩ := own_keep q1 p3 hcase 5 (by decide)
  refine goS X34 hx hZ (y := (⟨"wardlog/BytesPutLongPinLaw", "kept", "([BIII)Z"⟩ : MethodName)) hown (hw _ (List.mem_of_getElem? (i := 16) rfl)) (hw _ (List.mem_of_getElem? (i := 17) rfl)) (hw _ (List.mem_of_getElem? (i := 3) rfl)) (hw _ (List.mem_of_getElem? (i := 18) rfl)) (by decide) (rm5 l Z a0 hw b1 q p3 (5 : Int32) T26.heap n0 Z26 5 12 _ w5 V_b1 ⟨by decide, rfl, by decide⟩ Hk5 Hs5) e34 N34 0 (by decide) (by decide) (by decide) (by decide) (g := (mkF m 298 #[.val (.long q1), .second, .val (.int p2), .val (.int p3), .val (.int q), .val (.ref b1), .val (.int (q + (8 : Int32)))] [(.int (5 : Int32)), (.int p3), (.int q), (.ref b1)])) rfl (by rw [hml]; rfl) [(.ref b1), (.int q), (.int p3), (.int (5 : Int32))] [] (lenOf pd0_4 rfl) rfl rfl (by show 2 * 0 + _ ≤ _; exact Nat.le_of_eq rfl) (hb hby at_298) ?_
  intro T35 v35 L35 M35 X35 N35 hq35
  obtain ⟨rfl, N35q, e35⟩ := hq35
  replace N35 := N35 N35q
  show Go _ _ _ _ T35 (mkF m 301 #[.val (.long q1), .second, .val (.int p2), .val (.int p3), .val (.int q), .val (.ref b1), .val (.int (q + (8 : Int32)))] [(.int (1 : Int32))])
  refine Go.st (fun t k => XS.ifNo X35.here hx rfl (hb hby at_301) rfl (by decide) k) ?_
  show Go _ _ _ _ T35 (mkF m 304 #[.val (.long q1), .second, .val (.int p2), .val (.int p3), .val (.int q), .val (.ref b1), .val (.int (q + (8 : Int32)))] [])
  refine Go.st (fun t k => XS.aload X35.here hx rfl (hb hby at_304) rfl rfl k) ?_
  show Go _ _ _ _ T35 (mkF m 306 #[.val (.long q1), .second, .val (.int p2), .val (.int p3), .val (.int q), .val (.ref b1), .val (.int (q + (8 : Int32)))] [(.ref b1)])
  refine Go.st (fun t k => XS.iload X35.here hx rfl (hb hby at_306) rfl k) ?_
  show Go _ _ _ _ T35 (mkF m 308 #[.val (.long q1), .second, .val (.int p2), .val (.int p3), .val (.int q), .val (.ref b1), .val (.int (q + (8 : Int32)))] [(.int q), (.ref b1)])
  refine Go.st (fun t k => XS.iloadN X35.here hx rfl (hb hby at_308) rfl k) ?_
  show Go _ _ _ _ T35 (mkF m 309 #[.val (.long q1), .second, .val (.int p2), .val (.int p3), .val (.int q), .val (.ref b1), .val (.int (q + (8 : Int32)))] [(.int p3), (.int q), (.ref b1)])
  refine Go.st (fun t k => XS.bipush X35.here hx rfl (hb hby at_309) k) ?_
  show Go _ _ _ _ T35 (mkF m 311 #[.val (.long q1), .second, .val (.int p2), .val (.int p3), .val (.int q), .val (.ref b1), .val (.int (q + (8 : Int32)))] [(.int (6 : Int32)), (.int p3), (.int q), (.ref b1)])
  obtain ⟨w6, Hk6, Hs6⟩ := own_keep q1 p3 hcase 6 (by decide)
  refine goS X35 hx hZ (y := (⟨"wardlog/BytesPutLongPinLaw", "kept", "([BIII)Z"⟩ : MethodName)) hown (hw _ (List.mem_of_getElem? (i := 16) rfl)) (hw _ (List.mem_of_getElem? (i := 17) rfl)) (hw _ (List.mem_of_getElem? (i := 3) rfl)) (hw _ (List.mem_of_getElem? (i := 18) rfl)) (by decide) (rm5 l Z a0 hw b1 q p3 (6 : Int32) T26.heap n0 Z26 6 12 _ w6 V_b1 ⟨by decide, rfl, by decide⟩ Hk6 Hs6) e35 N35 0 (by decide) (by decide) (by decide) (by decide) (g := (mkF m 311 #[.val (.long q1), .second, .val (.int p2), .val (.int p3), .val (.int q), .val (.ref b1), .val (.int (q + (8 : Int32)))] [(.int (6 : Int32)), (.int p3), (.int q), (.ref b1)])) rfl (by rw [hml]; rfl) [(.ref b1), (.int q), (.int p3), (.int (6 : Int32))] [] (lenOf pd0_4 rfl) rfl rfl (by show 2 * 0 + _ ≤ _; exact Nat.le_of_eq rfl) (hb hby at_311) ?_
  intro T36 v36 L36 M36 X36 N36 hq36
  obtain ⟨rfl, N36q, e36⟩ := hq36
  replace N36 := N36 N36q
  show Go _ _ _ _ T36 (mkF m 314 #[.val (.long q1), .second, .val (.int p2), .val (.int p3), .val (.int q), .val (.ref b1), .val (.int (q + (8 : Int32)))] [(.int (1 : Int32))])
  refine Go.st (fun t k => XS.ifNo X36.here hx rfl (hb hby at_314) rfl (by decide) k) ?_
  show Go _ _ _ _ T36 (mkF m 317 #[.val (.long q1), .second, .val (.int p2), .val (.int p3), .val (.int q), .val (.ref b1), .val (.int (q + (8 : Int32)))] [])
  refine Go.st (fun t k => XS.aload X36.here hx rfl (hb hby at_317) rfl rfl k) ?_
  show Go _ _ _ _ T36 (mkF m 319 #[.val (.long q1), .second, .val (.int p2), .val (.int p3), .val (.int q), .val (.ref b1), .val (.int (q + (8 : Int32)))] [(.ref b1)])
  refine Go.st (fun t k => XS.iload X36.here hx rfl (hb hby at_319) rfl k) ?_
  show Go _ _ _ _ T36 (mkF m 321 #[.val (.long q1), .second, .val (.int p2), .val (.int p3), .val (.int q), .val (.ref b1), .val (.int (q + (8 : Int32)))] [(.int q), (.ref b1)])
  refine Go.st (fun t k => XS.iloadN X36.here hx rfl (hb hby at_321) rfl k) ?_
  show Go _ _ _ _ T36 (mkF m 322 #[.val (.long q1), .second, .val (.int p2), .val (.int p3), .val (.int q), .val (.ref b1), .val (.int (q + (8 : Int32)))] [(.int p3), (.int q), (.ref b1)])
  refine Go.st (fun t k => XS.bipush X36.here hx rfl (hb hby at_322) k) ?_
  show Go _ _ _ _ T36 (mkF m 324 #[.val (.long q1), .second, .val (.int p2), .val (.int p3), .val (.int q), .val (.ref b1), .val (.int (q + (8 : Int32)))] [(.int (7 : Int32)), (.int p3), (.int q), (.ref b1)])
  obtain ⟨w7, Hk7, Hs7⟩ := own_keep q1 p3 hcase 7 (by decide)
  refine goS X36 hx hZ (y := (⟨"wardlog/BytesPutLongPinLaw", "kept", "([BIII)Z"⟩ : MethodName)) hown (hw _ (List.mem_of_getElem? (i := 16) rfl)) (hw _ (List.mem_of_getElem? (i := 17) rfl)) (hw _ (List.mem_of_getElem? (i := 3) rfl)) (hw _ (List.mem_of_getElem? (i := 18) rfl)) (by decide) (rm5 l Z a0 hw b1 q p3 (7 : Int32) T26.heap n0 Z26 7 12 _ w7 V_b1 ⟨by decide, rfl, by decide⟩ Hk7 Hs7) e36 N36 0 (by decide) (by decide) (by decide) (by decide) (g := (mkF m 324 #[.val (.long q1), .second, .val (.int p2), .val (.int p3), .val (.int q), .val (.ref b1), .val (.int (q + (8 : Int32)))] [(.int (7 : Int32)), (.int p3), (.int q), (.ref b1)])) rfl (by rw [hml]; rfl) [(.ref b1), (.int q), (.int p3), (.int (7 : Int32))] [] (lenOf pd0_4 rfl) rfl rfl (by show 2 * 0 + _ ≤ _; exact Nat.le_of_eq rfl) (hb hby at_324) ?_
  intro T37 v37 L37 M37 X37 N37 hq37
  obtain ⟨rfl, N37q, e37⟩ := hq37
  replace N37 := N37 N37q
  show Go _ _ _ _ T37 (mkF m 327 #[.val (.long q1), .second, .val (.int p2), .val (.int p3), .val (.int q), .val (.ref b1), .val (.int (q + (8 : Int32)))] [(.int (1 : Int32))])
  refine Go.st (fun t k => XS.ifNo X37.here hx rfl (hb hby at_327) rfl (by decide) k) ?_
  show Go _ _ _ _ T37 (mkF m 330 #[.val (.long q1), .second, .val (.int p2), .val (.int p3), .val (.int q), .val (.ref b1), .val (.int (q + (8 : Int32)))] [])
  refine Go.st (fun t k => XS.aload X37.here hx rfl (hb hby at_330) rfl rfl k) ?_
  show Go _ _ _ _ T37 (mkF m 332 #[.val (.long q1), .second, .val (.int p2), .val (.int p3), .val (.int q), .val (.ref b1), .val (.int (q + (8 : Int32)))] [(.ref b1)])
  refine Go.st (fun t k => XS.iload X37.here hx rfl (hb hby at_332) rfl k) ?_
  show Go _ _ _ _ T37 (mkF m 334 #[.val (.long q1), .second, .val (.int p2), .val (.int p3), .val (.int q), .val (.ref b1), .val (.int (q + (8 : Int32)))] [(.int q), (.ref b1)])
  refine Go.st (fun t k => XS.iloadN X37.here hx rfl (hb hby at_334) rfl k) ?_
  show Go _ _ _ _ T37 (mkF m 335 #[.val (.long q1), .second, .val (.int p2), .val (.int p3), .val (.int q), .val (.ref b1), .val (.int (q + (8 : Int32)))] [(.int p3), (.int q), (.ref b1)])
  refine Go.st (fun t k => XS.bipush X37.here hx rfl (hb hby at_335) k) ?_
  show Go _ _ _ _ T37 (mkF m 337 #[.val (.long q1), .second, .val (.int p2), .val (.int p3), .val (.int q), .val (.ref b1), .val (.int (q + (8 : Int32)))] [(.int (8 : Int32)), (.int p3), (.int q), (.ref b1)])
  obtain ⟨w8, Hk8, Hs8⟩ := own_keep q1 p3 hcase 8 (by decide)
  refine goS X37 hx hZ (y := (⟨"wardlog/BytesPutLongPinLaw", "kept", "([BIII)Z"⟩ : MethodName)) hown (hw _ (List.mem_of_getElem? (i := 16) rfl)) (hw _ (List.mem_of_getElem? (i := 17) rfl)) (hw _ (List.mem_of_getElem? (i := 3) rfl)) (hw _ (List.mem_of_getElem? (i := 18) rfl)) (by decide) (rm5 l Z a0 hw b1 q p3 (8 : Int32) T26.heap n0 Z26 8 12 _ w8 V_b1 ⟨by decide, rfl, by decide⟩ Hk8 Hs8) e37 N37 0 (by decide) (by decide) (by decide) (by decide) (g := (mkF m 337 #[.val (.long q1), .second, .val (.int p2), .val (.int p3), .val (.int q), .val (.ref b1), .val (.int (q + (8 : Int32)))] [(.int (8 : Int32)), (.int p3), (.int q), (.ref b1)])) rfl (by rw [hml]; rfl) [(.ref b1), (.int q), (.int p3), (.int (8 : Int32))] [] (lenOf pd0_4 rfl) rfl rfl (by show 2 * 0 + _ ≤ _; exact Nat.le_of_eq rfl) (hb hby at_337) ?_
  intro T38 v38 L38 M38 X38 N38 hq38
  obtain ⟨rfl, N38q, e38⟩ := hq38
  replace N38 := N38 N38q
  show Go _ _ _ _ T38 (mkF m 340 #[.val (.long q1), .second, .val (.int p2), .val (.int p3), .val (.int q), .val (.ref b1), .val (.int (q + (8 : Int32)))] [(.int (1 : Int32))])
  refine Go.st (fun t k => XS.ifNo X38.here hx rfl (hb hby at_340) rfl (by decide) k) ?_
  show Go _ _ _ _ T38 (mkF m 343 #[.val (.long q1), .second, .val (.int p2), .val (.int p3), .val (.int q), .val (.ref b1), .val (.int (q + (8 : Int32)))] [])
  refine Go.st (fun t k => XS.aload X38.here hx rfl (hb hby at_343) rfl rfl k) ?_
  show Go _ _ _ _ T38 (mkF m 345 #[.val (.long q1), .second, .val (.int p2), .val (.int p3), .val (.int q), .val (.ref b1), .val (.int (q + (8 : Int32)))] [(.ref b1)])
  refine Go.st (fun t k => XS.iload X38.here hx rfl (hb hby at_345) rfl k) ?_
  show Go _ _ _ _ T38 (mkF m 347 #[.val (.long q1), .second, .val (.int p2), .val (.int p3), .val (.int q), .val (.ref b1), .val (.int (q + (8 : Int32)))] [(.int q), (.ref b1)])
  refine Go.st (fun t k => XS.iloadN X38.here hx rfl (hb hby at_347) rfl k) ?_
  show Go _ _ _ _ T38 (mkF m 348 #[.val (.long q1), .second, .val (.int p2), .val (.int p3), .val (.int q), .val (.ref b1), .val (.int (q + (8 : Int32)))] [(.int p3), (.int q), (.ref b1)])
  refine Go.st (fun t k => XS.bipush X38.here hx rfl (hb hby at_348) k) ?_
  show Go _ _ _ _ T38 (mkF m 350 #[.val (.long q1), .second, .val (.int p2), .val (.int p3), .val (.int q), .val (.ref b1), .val (.int (q + (8 : Int32)))] [(.int (9 : Int32)), (.int p3), (.int q), (.ref b1)])
  obtain ⟨w9, Hk9, Hs9⟩ := own_keep q1 p3 hcase 9 (by decide)
  refine goS X38 hx hZ (y := (⟨"wardlog/BytesPutLongPinLaw", "kept", "([BIII)Z"⟩ : MethodName)) hown (hw _ (List.mem_of_getElem? (i := 16) rfl)) (hw _ (List.mem_of_getElem? (i := 17) rfl)) (hw _ (List.mem_of_getElem? (i := 3) rfl)) (hw _ (List.mem_of_getElem? (i := 18) rfl)) (by decide) (rm5 l Z a0 hw b1 q p3 (9 : Int32) T26.heap n0 Z26 9 12 _ w9 V_b1 ⟨by decide, rfl, by decide⟩ Hk9 Hs9) e38 N38 0 (by decide) (by decide) (by decide) (by decide) (g := (mkF m 350 #[.val (.long q1), .second, .val (.int p2), .val (.int p3), .val (.int q), .val (.ref b1), .val (.int (q + (8 : Int32)))] [(.int (9 : Int32)), (.int p3), (.int q), (.ref b1)])) rfl (by rw [hml]; rfl) [(.ref b1), (.int q), (.int p3), (.int (9 : Int32))] [] (lenOf pd0_4 rfl) rfl rfl (by show 2 * 0 + _ ≤ _; exact Nat.le_of_eq rfl) (hb hby at_350) ?_
  intro T39 v39 L39 M39 X39 N39 hq39
  obtain ⟨rfl, N39q, e39⟩ := hq39
  replace N39 := N39 N39q
  show Go _ _ _ _ T39 (mkF m 353 #[.val (.long q1), .second, .val (.int p2), .val (.int p3), .val (.int q), .val (.ref b1), .val (.int (q + (8 : Int32)))] [(.int (1 : Int32))])
  refine Go.st (fun t k => XS.ifNo X39.here hx rfl (hb hby at_353) rfl (by decide) k) ?_
  show Go _ _ _ _ T39 (mkF m 356 #[.val (.long q1), .second, .val (.int p2), .val (.int p3), .val (.int q), .val (.ref b1), .val (.int (q + (8 : Int32)))] [])
  refine Go.st (fun t k => XS.aload X39.here hx rfl (hb hby at_356) rfl rfl k) ?_
  show Go _ _ _ _ T39 (mkF m 358 #[.val (.long q1), .second, .val (.int p2), .val (.int p3), .val (.int q), .val (.ref b1), .val (.int (q + (8 : Int32)))] [(.ref b1)])
  refine Go.st (fun t k => XS.iload X39.here hx rfl (hb hby at_358) rfl k) ?_
  show Go _ _ _ _ T39 (mkF m 360 #[.val (.long q1), .second, .val (.int p2), .val (.int p3), .val (.int q), .val (.ref b1), .val (.int (q + (8 : Int32)))] [(.int q), (.ref b1)])
  refine Go.st (fun t k => XS.iloadN X39.here hx rfl (hb hby at_360) rfl k) ?_
  show Go _ _ _ _ T39 (mkF m 361 #[.val (.long q1), .second, .val (.int p2), .val (.int p3), .val (.int q), .val (.ref b1), .val (.int (q + (8 : Int32)))] [(.int p3), (.int q), (.ref b1)])
  refine Go.st (fun t k => XS.bipush X39.here hx rfl (hb hby at_361) k) ?_
  show Go _ _ _ _ T39 (mkF m 363 #[.val (.long q1), .second, .val (.int p2), .val (.int p3), .val (.int q), .val (.ref b1), .val (.int (q + (8 : Int32)))] [(.int (10 : Int32)), (.int p3), (.int q), (.ref b1)])
  obtain ⟨w10, Hk10, Hs10⟩ := own_keep q1 p3 hcase 10 (by decide)
  refine goS X39 hx hZ (y := (⟨"wardlog/BytesPutLongPinLaw", "kept", "([BIII)Z"⟩ : MethodName)) hown (hw _ (List.mem_of_getElem? (i := 16) rfl)) (hw _ (List.mem_of_getElem? (i := 17) rfl)) (hw _ (List.mem_of_getElem? (i := 3) rfl)) (hw _ (List.mem_of_getElem? (i := 18) rfl)) (by decide) (rm5 l Z a0 hw b1 q p3 (10 : Int32) T26.heap n0 Z26 10 12 _ w10 V_b1 ⟨by decide, rfl, by decide⟩ Hk10 Hs10) e39 N39 0 (by decide) (by decide) (by decide) (by decide) (g := (mkF m 363 #[.val (.long q1), .second, .val (.int p2), .val (.int p3), .val (.int q), .val (.ref b1), .val (.int (q + (8 : Int32)))] [(.int (10 : Int32)), (.int p3), (.int q), (.ref b1)])) rfl (by rw [hml]; rfl) [(.ref b1), (.int q), (.int p3), (.int (10 : Int32))] [] (lenOf pd0_4 rfl) rfl rfl (by show 2 * 0 + _ ≤ _; exact Nat.le_of_eq rfl) (hb hby at_363) ?_
  intro T40 v40 L40 M40 X40 N40 hq40
  obtain ⟨rfl, N40q, e40⟩ := hq40
  replace N40 := N40 N40q
  show Go _ _ _ _ T40 (mkF m 366 #[.val (.long q1), .second, .val (.int p2), .val (.int p3), .val (.int q), .val (.ref b1), .val (.int (q + (8 : Int32)))] [(.int (1 : Int32))])
  refine Go.st (fun t k => XS.ifNo X40.here hx rfl (hb hby at_366) rfl (by decide) k) ?_
  show Go _ _ _ _ T40 (mkF m 369 #[.val (.long q1), .second, .val (.int p2), .val (.int p3), .val (.int q), .val (.ref b1), .val (.int (q + (8 : Int32)))] [])
  refine Go.st (fun t k => XS.aload X40.here hx rfl (hb hby at_369) rfl rfl k) ?_
  show Go _ _ _ _ T40 (mkF m 371 #[.val (.long q1), .second, .val (.int p2), .val (.int p3), .val (.int q), .val (.ref b1), .val (.int (q + (8 : Int32)))] [(.ref b1)])
  refine Go.st (fun t k => XS.iload X40.here hx rfl (hb hby at_371) rfl k) ?_
  show Go _ _ _ _ T40 (mkF m 373 #[.val (.long q1), .second, .val (.int p2), .val (.int p3), .val (.int q), .val (.ref b1), .val (.int (q + (8 : Int32)))] [(.int q), (.ref b1)])
  refine Go.st (fun t k => XS.iloadN X40.here hx rfl (hb hby at_373) rfl k) ?_
  show Go _ _ _ _ T40 (mkF m 374 #[.val (.long q1), .second, .val (.int p2), .val (.int p3), .val (.int q), .val (.ref b1), .val (.int (q + (8 : Int32)))] [(.int p3), (.int q), (.ref b1)])
  refine Go.st (fun t k => XS.bipush X40.here hx rfl (hb hby at_374) k) ?_
  show Go _ _ _ _ T40 (mkF m 376 #[.val (.long q1), .second, .val (.int p2), .val (.int p3), .val (.int q), .val (.ref b1), .val (.int (q + (8 : Int32)))] [(.int (11 : Int32)), (.int p3), (.int q), (.ref b1)])
  obtain ⟨w11, Hk11, Hs11⟩ := own_keep q1 p3 hcase 11 (by decide)
  refine goS X40 hx hZ (y := (⟨"wardlog/BytesPutLongPinLaw", "kept", "([BIII)Z"⟩ : MethodName)) hown (hw _ (List.mem_of_getElem? (i := 16) rfl)) (hw _ (List.mem_of_getElem? (i := 17) rfl)) (hw _ (List.mem_of_getElem? (i := 3) rfl)) (hw _ (List.mem_of_getElem? (i := 18) rfl)) (by decide) (rm5 l Z a0 hw b1 q p3 (11 : Int32) T26.heap n0 Z26 11 12 _ w11 V_b1 ⟨by decide, rfl, by decide⟩ Hk11 Hs11) e40 N40 0 (by decide) (by decide) (by decide) (by decide) (g := (mkF m 376 #[.val (.long q1), .second, .val (.int p2), .val (.int p3), .val (.int q), .val (.ref b1), .val (.int (q + (8 : Int32)))] [(.int (11 : Int32)), (.int p3), (.int q), (.ref b1)])) rfl (by rw [hml]; rfl) [(.ref b1), (.int q), (.int p3), (.int (11 : Int32))] [] (lenOf pd0_4 rfl) rfl rfl (by show 2 * 0 + _ ≤ _; exact Nat.le_of_eq rfl) (hb hby at_376) ?_
  intro T41 v41 L41 M41 X41 N41 hq41
  obtain ⟨rfl, N41q, e41⟩ := hq41
  replace N41 := N41 N41q
  show Go _ _ _ _ T41 (mkF m 379 #[.val (.long q1), .second, .val (.int p2), .val (.int p3), .val (.int q), .val (.ref b1), .val (.int (q + (8 : Int32)))] [(.int (1 : Int32))])
  refine Go.st (fun t k => XS.ifNo X41.here hx rfl (hb hby at_379) rfl (by decide) k) ?_
  show Go _ _ _ _ T41 (mkF m 382 #[.val (.long q1), .second, .val (.int p2), .val (.int p3), .val (.int q), .val (.ref b1), .val (.int (q + (8 : Int32)))] [])
  refine Go.st (fun t k => XS.iconst X41.here hx rfl (hb hby at_382) k) ?_
  show Go _ _ _ _ T41 (mkF m 383 #[.val (.long q1), .second, .val (.int p2), .val (.int p3), .val (.int q), .val (.ref b1), .val (.int (q + (8 : Int32)))] [(.int (1 : Int32))])
  refine Go.st (fun t k => XS.goto X41.here hx rfl (pc0 := 383) (pc' := 387) rfl (hb hby at_383) (by decide) (by decide) k) ?_
  show Go _ _ _ _ T41 (mkF m 387 #[.val (.long q1), .second, .val (.int p2), .val (.int p3), .val (.int q), .val (.ref b1), .val (.int (q + (8 : Int32)))] [(.int (1 : Int32))])
  exact goN X41 hx hret hlk (by simp) (hb hby at_387) (by decide) (by decide) ⟨rfl, N41⟩
set_option maxRecDepth 65536 in
set_option maxHeartbeats 40000000 in
theorem comes_1 {Post : Tables → Env → Array Value → State → Outcome → State → Prop} (hpost : ∀ tb e args s v u, (limb_1_1.after args s (.returned v) u = true ∧ limb_1_2.after args s (.returned v) u = true ∧ True) → FrameEnd s (.returned v) u (Jvm.fieldLocs frame_1_writes args s ++ Jvm.arrayLocs frame_1_arrays args s ++ Jvm.staticLocs frame_1_statics s) 16 128 → Post tb e args s (.returned v) u) :
    ArmFor flags0 classFile x code maxLocals ret World_1 tables_1 room_1 Calls_1 rest_1 Pre_1 Post := by
  intro l hfl _ _ p e ha hc hk s m args below hf hA hF happ hP
  obtain ⟨hcalls, hrest, hpre⟩ := hP
  obtain ⟨-, -, -, hnamed, -, -, -, hat⟩ := (Spec.applies_iff hf).mp happ
  obtain ⟨hg, hn⟩ := and_e (Cond.before_iff.mp (show (Jvm.Cond.and given_1 narrow_1).before args s = true from hpre))
  obtain ⟨ga1, gb1⟩ := and_e hg
  obtain ⟨ga2, gb2⟩ := and_e gb1
  obtain ⟨ga3, gb3⟩ := and_e gb2
  obtain ⟨w0, w1, w2, rfl⟩ : ∃ w0 w1 w2 : Value, args = #[w0, w1, w2] := by
    have hs : args.size = 3 := by simpa [Cond.value, given_1] using ga1
    obtain ⟨L⟩ := args
    match L, hs with
    | [w0, w1, w2], _ => exact ⟨w0, w1, w2, rfl⟩
  have hw := fun d (hd : d ∈ tables_1) => atoms_spec (ws := Jvm.Cond.code x code maxLocals ret :: tables_1) hat d (List.mem_cons_of_mem _ hd)
  obtain ⟨i0, ei0⟩ := isL_v ga2
  obtain rfl : w0 = (.long i0) := Option.some.inj ei0
  obtain ⟨i1, ei1⟩ := is_v ga3
  obtain rfl : w1 = (.int i1) := Option.some.inj ei1
  obtain ⟨i2, ei2⟩ := is_v gb3
  obtain rfl : w2 = (.int i2) := Option.some.inj ei2
  obtain ⟨n, o, h1, h2, h3, _, L, rfl, ⟨rfl, N⟩, hq⟩ := rm0 l s _ hw i0 i1 i2 s.heap s.heap.size (Nat.le_refl _)  tables_1 p e ha hc hk s m _ below hf ((Spec.applies_iff_loose hf).mp happ).1 ⟨rfl, State.Warmed39.refl s, rfl⟩ trivial
  refine ⟨n, _, h1, h2, h3, hpost _ _ _ _ _ _ ⟨Cond.after_iff.mpr rfl, Cond.after_iff.mpr (eq_i res_at (Term.int_eval (1)) rfl), trivial⟩ ⟨hq.1, hq.2.1, (hq.2.2.sift fun y hy => Or.inr (N y hy)).mono (by decide) (by decide)⟩⟩
theorem main_1_1 : Claimed_1_1 := comes_1 fun _ _ _ _ _ _ h hF => ⟨h.1, hF⟩
theorem main_1_2 : Claimed_1_2 := comes_1 fun _ _ _ _ _ _ h hF => ⟨h.2.1, hF⟩
end Jvm.Pilot.@@N@@
namespace Jvm.Pilot.@@N@@
open Jvm Jvm.ClassFile Sem Op Lib Jvm.Free Jvm.Stand Jvm.Pilot.@@N@@.Jvm.D
/-! MADE BY PROGRAM (witnessworld.py) out of the Statement's table words and the real class files: 9 classes; the members and pool entries that the words name. The judged class is class 1, her method 3. -/
namespace start1
open Jvm.ClassFile
def u (s : String) : CpInfo := .utf8 (stringToUtf16 s)
/-- a pool by its gaps: so many unusable entries, then the entry; so many at the end -/
def gap : Nat → List CpInfo → List CpInfo
  | 0, r => r
  | n + 1, r => .unusable :: gap n r
def poolList (es : List (Nat × CpInfo)) (last : Nat) : List CpInfo := es.foldr (fun e r => gap e.1 (e.2 :: r)) (gap last [])
def pool (es : List (Nat × CpInfo)) (last : Nat) : Array CpInfo := ⟨poolList es last⟩
def fileOf (pool : Array CpInfo) (this : Nat) (attrs : Array Attribute := #[]) (ms : Array MethodInfo := #[]) (fl : Nat := 33) (sup : Nat := 0) (ifs : Array Nat := #[]) (fds : Array FieldInfo := #[]) : ClassFile where
  minorVersion := 0
  majorVersion := 65
  constantPool := pool
  accessFlags := fl
  thisClass := this
  superClass := sup
  interfaces := ifs
  fields := fds
  methods := ms
  attributes := attrs
def plain (name : String) (sup : Option ClassId) : Class where
  name := name
  kind := .ordinary
  loader := none
  accessFlags := 33
  super := sup
  interfaces := #[]
  cf := none
  fields := #[]
  methods := #[]
  instanceTypes := #[]
  staticTypes := #[]
  resolved := #[]
  callSites := []
  init := .initialized
  statics := none
  mirror := none

def pool0 : Array CpInfo := pool [(5, u "<init>"), (0, u "()V"), (1, .class_ 10), (1, u "java/lang/Object")] 113

def k0m0 : Method := { name := "<init>", desc := "()V", sig := { parameters := [], returnType := none }, accessFlags := 1, code := none }
/-- java/lang/Object -/
def k0 : Class := { plain "java/lang/Object" none with
  accessFlags := 33
  interfaces := #[]
  cf := some (fileOf pool0 8 #[] #[{ accessFlags := 1, nameIndex := 5, descriptorIndex := 6, attributes := #[] }] 33 0 #[] #[])
  fields := #[]
  methods := #[k0m0]
  instanceTypes := #[]
  staticTypes := #[]
  resolved := Array.replicate 124 none
  statics := none }

def pool1 : Array CpInfo := pool [(2, .class_ 4), (1, u "java/lang/Object"), (0, u "<init>"), (0, u "()V"), (0, .methodref 8 9), (0, .class_ 10), (0, .nameAndType 11 12), (0, u "wardlog/BytesPutLongPinLaw"), (0, u "sent"), (0, u "(II)B"), (0, .methodref 14 15), (0, .class_ 16), (0, .nameAndType 17 18), (0, u "wardlog/Bytes"), (0, u "putLong"), (0, u "([BIJ)I"), (0, .methodref 14 20), (0, .nameAndType 21 22), (0, u "getLong"), (0, u "([BI)J"), (0, .methodref 14 24), (0, .nameAndType 25 26), (0, u "getInt"), (0, u "([BI)I"), (0, .methodref 8 28), (0, .nameAndType 29 30), (0, u "kept"), (0, u "([BIII)Z"), (3, u "law"), (0, u "(JII)Z")] 4

def k1m0 : Method := { name := "<init>", desc := "()V", sig := { parameters := [], returnType := none }, accessFlags := 1, code := none }
def k1c1 : Code := { maxStack := 3, maxLocals := 2, code := method_2_code, exceptionTable := #[], attributes := #[] }
def k1m1 : Method := { name := "sent", desc := "(II)B", sig := { parameters := [.int, .int], returnType := some .byte }, accessFlags := 10, code := some k1c1 }
def k1c2 : Code := { maxStack := 3, maxLocals := 4, code := method_3_code, exceptionTable := #[], attributes := #[] }
def k1m2 : Method := { name := "kept", desc := "([BIII)Z", sig := { parameters := [(.array .byte), .int, .int, .int], returnType := some .boolean }, accessFlags := 10, code := some k1c2 }
def k1c3 : Code := { maxStack := 4, maxLocals := 7, code := code, exceptionTable := #[], attributes := #[] }
def k1m3 : Method := { name := "law", desc := "(JII)Z", sig := { parameters := [.long, .int, .int], returnType := some .boolean }, accessFlags := 9, code := some k1c3 }
/-- wardlog/BytesPutLongPinLaw -/
def k1 : Class := { plain "wardlog/BytesPutLongPinLaw" (some 0) with
  accessFlags := 49
  interfaces := #[]
  cf := some (fileOf pool1 8 #[] #[{ accessFlags := 1, nameIndex := 5, descriptorIndex := 6, attributes := #[] }, { accessFlags := 10, nameIndex := 11, descriptorIndex := 12, attributes := #[] }, { accessFlags := 10, nameIndex := 29, descriptorIndex := 30, attributes := #[] }, { accessFlags := 9, nameIndex := 34, descriptorIndex := 35, attributes := #[] }] 49 2 #[] #[])
  fields := #[]
  methods := #[k1m0, k1m1, k1m2, k1m3]
  instanceTypes := #[]
  staticTypes := #[]
  resolved := Array.replicate 40 none
  statics := none }

def pool2 : Array CpInfo := pool [(2, .class_ 4), (1, u "java/lang/Object"), (0, u "<init>"), (0, u "()V"), (6, .long 255), (1, .class_ 16), (0, u "wardlog/Bytes"), (5, u "putLong"), (0, u "([BIJ)I"), (1, u "([BI)I"), (0, u "getInt"), (0, u "getLong"), (0, u "([BI)J")] 2

def k2m0 : Method := { name := "<init>", desc := "()V", sig := { parameters := [], returnType := none }, accessFlags := 2, code := none }
def k2c1 : Code := { maxStack := 5, maxLocals := 4, code := prog_11_method_4_code, exceptionTable := #[], attributes := #[] }
def k2m1 : Method := { name := "putLong", desc := "([BIJ)I", sig := { parameters := [(.array .byte), .int, .long], returnType := some .int }, accessFlags := 8, code := some k2c1 }
def k2c2 : Code := { maxStack := 4, maxLocals := 2, code := prog_11_method_6_code, exceptionTable := #[], attributes := #[] }
def k2m2 : Method := { name := "getInt", desc := "([BI)I", sig := { parameters := [(.array .byte), .int], returnType := some .int }, accessFlags := 8, code := some k2c2 }
def k2c3 : Code := { maxStack := 6, maxLocals := 2, code := prog_11_method_7_code, exceptionTable := #[], attributes := #[] }
def k2m3 : Method := { name := "getLong", desc := "([BI)J", sig := { parameters := [(.array .byte), .int], returnType := some .long }, accessFlags := 8, code := some k2c3 }
/-- wardlog/Bytes -/
def k2 : Class := { plain "wardlog/Bytes" (some 0) with
  accessFlags := 48
  interfaces := #[]
  cf := some (fileOf pool2 15 #[] #[{ accessFlags := 2, nameIndex := 5, descriptorIndex := 6, attributes := #[] }, { accessFlags := 8, nameIndex := 22, descriptorIndex := 23, attributes := #[] }, { accessFlags := 8, nameIndex := 26, descriptorIndex := 25, attributes := #[] }, { accessFlags := 8, nameIndex := 27, descriptorIndex := 28, attributes := #[] }] 48 2 #[] #[])
  fields := #[]
  methods := #[k2m0, k2m1, k2m2, k2m3]
  instanceTypes := #[]
  staticTypes := #[]
  resolved := Array.replicate 31 none
  statics := none }

def pool3 : Array CpInfo := pool [(1, u "java/lang/Cloneable"), (0, .class_ 1), (0, u "java/lang/Object"), (0, .class_ 3)] 3

/-- java/lang/Cloneable -/
def k3 : Class := { plain "java/lang/Cloneable" (some 0) with
  accessFlags := 1537
  interfaces := #[]
  cf := some (fileOf pool3 2 #[] #[] 1537 4 #[] #[])
  fields := #[]
  methods := #[]
  instanceTypes := #[]
  staticTypes := #[]
  resolved := Array.replicate 8 none
  statics := none }

def pool4 : Array CpInfo := pool [(1, u "java/io/Serializable"), (0, .class_ 1), (0, u "java/lang/Object"), (0, .class_ 3)] 3

/-- java/io/Serializable -/
def k4 : Class := { plain "java/io/Serializable" (some 0) with
  accessFlags := 1537
  interfaces := #[]
  cf := some (fileOf pool4 2 #[] #[] 1537 4 #[] #[])
  fields := #[]
  methods := #[]
  instanceTypes := #[]
  staticTypes := #[]
  resolved := Array.replicate 8 none
  statics := none }

/-- the primitive byte -/
def k5 : Class := { plain "byte" none with kind := .primitive 'B', accessFlags := 0x411 }
/-- [B -/
def k6 : Class := { plain "[B" (some 0) with kind := .array 5 .byte, interfaces := #[3, 4], accessFlags := 1041 }

/-- the primitive int -/
def k7 : Class := { plain "int" none with kind := .primitive 'I', accessFlags := 0x411 }
/-- [I -/
def k8 : Class := { plain "[I" (some 0) with kind := .array 7 .int, interfaces := #[3, 4], accessFlags := 1041 }

def heap : Heap := #[]
def classes : Array Class := #[k0, k1, k2, k3, k4, k5, k6, k7, k8]
def interned : List (Array UInt16 × Addr) := []
def slotsUsed : Nat := 0
def theMethod : MethodId := ⟨1, 3⟩
def args0 : Array Value := #[.long 5, .int 7, .int 9]
def aboutOver (below : List Frame) : State where
  vm := { classes := classes, interned := interned.toArray }
  heap := heap
  slotsUsed := slotsUsed
  threads := #[{ frames := .invoking theMethod args0 :: below }]
def below0 : List Frame := [.native { method := ⟨0, 0⟩, args := #[] }]
def about1 : State := aboutOver below0
def p0 : Program := .bare "" "" ""
def e0 : Env := launch0.env 0 0 0
theorem w_frames : about1.frames = Frame.invoking theMethod args0 :: below0 := rfl
set_option maxRecDepth 65536 in
theorem w_args : argsFit about1.vm theMethod args0 = true := by decide +kernel
set_option maxRecDepth 65536 in
theorem w_heap : heapFits about1 = true := by decide +kernel
set_option maxRecDepth 65536 in
theorem w_runnable : about1.curStatus? = some .runnable := by decide +kernel
set_option maxRecDepth 65536 in
theorem w_alone : about1.alone = true := by decide +kernel
set_option maxRecDepth 65536 in
theorem w_named : about1.methodNamed? x = some theMethod := by decide +kernel
set_option maxRecDepth 65536 in
theorem w_hears : about1.hears theMethod below0 = true := by decide +kernel
set_option maxRecDepth 65536 in
theorem w_ripe : about1.ripe theMethod args0 below0 = true := by decide +kernel
theorem w_running : about1.status = .running := rfl
set_option maxRecDepth 65536 in
theorem w_room : about1.hasRoom e0.platform room_1 = true :=
  launch0.hasRoom_least _ room_1 (by decide +kernel) (by decide +kernel) (by decide +kernel) (by decide +kernel) (by decide +kernel) (by decide +kernel)
theorem allAtoms_all (ts : List Jvm.Cond) (a : Array Jvm.Value) (st : Jvm.State) : (allAtoms ts).before a st = ts.all (fun c => c.before a st) := by
  induction ts with
  | nil => rfl
  | cons c t ih =>
    show (Jvm.Cond.and c (allAtoms t)).before a st = _
    rw [Jvm.Cond.before_and, ih, List.all_cons]
def words1 : List Jvm.Cond := Jvm.Cond.code x code maxLocals ret :: tables_1
/-- a 'code' word, met by the world's own term for the bytes: nothing is compared byte by byte -/
theorem code_word {y : MethodName} {bytes : ByteArray} {mx : Nat} {rt : Option FieldType} {a : Array Value} {s : State} {m : MethodId} {meth : Method} {c : Code} (h1 : s.methodNamed? y = some m) (h2 : s.vm.method? m = some meth) (h3 : meth.code = some c) (h4 : c.code = bytes)
    (h5 : (c.maxLocals == mx && c.exceptionTable.isEmpty && decide (c.maxStack ≤ mostOperands) && decide (meth.sig.returnType = rt) && !meth.locks && decide (parseMethodDescriptor y.desc = some meth.sig)) = true) : (Jvm.Cond.code y bytes mx rt).before a s = true := by
  simp only [Bool.and_eq_true, beq_iff_eq, Bool.not_eq_true', decide_eq_true_eq] at h5
  obtain ⟨⟨⟨⟨⟨g1, g2⟩, g3⟩, g4⟩, g5⟩, g6⟩ := h5
  simp [Cond.before, Cond.holds, Cond.value, h1, h2, h3, h4, g1, g2, g3, g4, g5, g6]
def isCode : Jvm.Cond → Bool
  | .code _ _ _ _ => true
  | _ => false
theorem all_split {L : List Jvm.Cond} {P : Jvm.Cond → Bool} (h1 : L.all (fun c => isCode c || P c) = true) (h2 : ∀ c ∈ L.filter isCode, P c = true) : L.all P = true := by
  refine List.all_eq_true.mpr fun c hc => ?_
  have h := List.all_eq_true.mp h1 c hc
  rcases Bool.eq_false_or_eq_true (isCode c) with hi | hi
  · exact h2 c (List.mem_filter.mpr ⟨hc, hi⟩)
  · simpa [hi] using h
set_option maxRecDepth 65536 in
theorem w_c0 : (Jvm.Cond.code x code maxLocals ret).before args0 about1 = true := code_word (m := ⟨1, 3⟩) (meth := k1m3) (c := k1c3) (by decide +kernel) rfl rfl rfl (by decide +kernel)
set_option maxRecDepth 65536 in
theorem w_c1 : (Jvm.Cond.code ({ cls := "wardlog/BytesPutLongPinLaw", name := "sent", desc := "(II)B" } : Jvm.MethodName) method_2_code (2 : Nat) (Option.some Jvm.ClassFile.FieldType.byte)).before args0 about1 = true := code_word (m := ⟨1, 1⟩) (meth := k1m1) (c := k1c1) (by decide +kernel) rfl rfl rfl (by decide +kernel)
set_option maxRecDepth 65536 in
theorem w_c2 : (Jvm.Cond.code ({ cls := "wardlog/Bytes", name := "putLong", desc := "([BIJ)I" } : Jvm.MethodName) prog_11_method_4_code (4 : Nat) (Option.some Jvm.ClassFile.FieldType.int)).before args0 about1 = true := code_word (m := ⟨2, 1⟩) (meth := k2m1) (c := k2c1) (by decide +kernel) rfl rfl rfl (by decide +kernel)
set_option maxRecDepth 65536 in
theorem w_c3 : (Jvm.Cond.code ({ cls := "wardlog/Bytes", name := "getLong", desc := "([BI)J" } : Jvm.MethodName) prog_11_method_7_code (2 : Nat) (Option.some Jvm.ClassFile.FieldType.long)).before args0 about1 = true := code_word (m := ⟨2, 3⟩) (meth := k2m3) (c := k2c3) (by decide +kernel) rfl rfl rfl (by decide +kernel)
set_option maxRecDepth 65536 in
theorem w_c4 : (Jvm.Cond.code ({ cls := "wardlog/Bytes", name := "getInt", desc := "([BI)I" } : Jvm.MethodName) prog_11_method_6_code (2 : Nat) (Option.some Jvm.ClassFile.FieldType.int)).before args0 about1 = true := code_word (m := ⟨2, 2⟩) (meth := k2m2) (c := k2c2) (by decide +kernel) rfl rfl rfl (by decide +kernel)
set_option maxRecDepth 65536 in
theorem w_c5 : (Jvm.Cond.code ({ cls := "wardlog/BytesPutLongPinLaw", name := "kept", desc := "([BIII)Z" } : Jvm.MethodName) method_3_code (4 : Nat) (Option.some Jvm.ClassFile.FieldType.boolean)).before args0 about1 = true := code_word (m := ⟨1, 2⟩) (meth := k1m2) (c := k1c2) (by decide +kernel) rfl rfl rfl (by decide +kernel)
def codes1 : List Jvm.Cond := [Jvm.Cond.code x code maxLocals ret, Jvm.Cond.code ({ cls := "wardlog/BytesPutLongPinLaw", name := "sent", desc := "(II)B" } : Jvm.MethodName) method_2_code (2 : Nat) (Option.some Jvm.ClassFile.FieldType.byte), Jvm.Cond.code ({ cls := "wardlog/Bytes", name := "putLong", desc := "([BIJ)I" } : Jvm.MethodName) prog_11_method_4_code (4 : Nat) (Option.some Jvm.ClassFile.FieldType.int), Jvm.Cond.code ({ cls := "wardlog/Bytes", name := "getLong", desc := "([BI)J" } : Jvm.MethodName) prog_11_method_7_code (2 : Nat) (Option.some Jvm.ClassFile.FieldType.long), Jvm.Cond.code ({ cls := "wardlog/Bytes", name := "getInt", desc := "([BI)I" } : Jvm.MethodName) prog_11_method_6_code (2 : Nat) (Option.some Jvm.ClassFile.FieldType.int), Jvm.Cond.code ({ cls := "wardlog/BytesPutLongPinLaw", name := "kept", desc := "([BIII)Z" } : Jvm.MethodName) method_3_code (4 : Nat) (Option.some Jvm.ClassFile.FieldType.boolean)]
set_option maxRecDepth 65536 in
theorem codes_eq : words1.filter isCode = codes1 := rfl
theorem w_codes : ∀ c ∈ words1.filter isCode, c.before args0 about1 = true := by
  rw [codes_eq]
  intro c hc
  simp only [codes1, List.mem_cons, List.not_mem_nil, or_false] at hc
  rcases hc with rfl | rfl | rfl | rfl | rfl | rfl
  · exact w_c0
  · exact w_c1
  · exact w_c2
  · exact w_c3
  · exact w_c4
  · exact w_c5
set_option maxRecDepth 65536 in
theorem w_t1 : words1.all (fun c => isCode c || c.before args0 about1) = true := by decide +kernel
theorem w_tables : (allAtoms (Jvm.Cond.code x code maxLocals ret :: tables_1)).before args0 about1 = true := by
  rw [allAtoms_all]
  show words1.all (fun c => c.before args0 about1) = true
  refine all_split ?_ w_codes
  rw [w_t1]
set_option maxRecDepth 65536 in
theorem w_case : (Jvm.Cond.and given_1 narrow_1).before args0 about1 = true := by decide +kernel
theorem w_applies : (headSpec (Jvm.Cond.code x code maxLocals ret :: tables_1) room_1).applies x e0.platform about1 = true :=
  (Spec.applies_iff w_frames).mpr ⟨w_running, w_runnable, w_alone, w_named, w_hears, w_ripe, w_room, w_tables⟩
theorem atStart : AtStart classFile x code maxLocals ret World_1 tables_1 room_1 Calls_1 rest_1 Pre_1 launch0 p0 e0 about1 theMethod args0 below0 :=
  ⟨lists_1, trivial, launch0.admits_env _ _ _, launch0.least_env, fairChoices_fair.cas, fairChoices_fair.clock, w_frames, w_args, w_heap, w_applies, trivial, trivial, w_case⟩
end start1
theorem witness_1 : WitnessClaimed_1 := ⟨start1.p0, start1.e0, start1.about1, start1.theMethod, start1.args0, start1.below0, start1.atStart⟩
end Jvm.Pilot.@@N@@
