import JvmDerived
import JvmDerived.Pilot.@@N@@Statement
import JvmDerived.Pilot.@@N@@Code
set_option linter.unusedVariables false
set_option linter.unusedSimpArgs false
@@BLOCK:NumsL.lean.txt@@
@@BLOCK:Masks.lean.txt@@
namespace Jvm.Pilot.@@N@@
open Jvm Jvm.ClassFile Sem Op Lib Jvm.Free Jvm.Stand Jvm.LawKit Jvm.RoadKit Bundle Jvm.Pilot.@@N@@.Jvm.D

/-! OWN KIT: the walk in continuation form; arrays by their cell as functions of the place -/
section OwnKit
variable {p : Program} {l : Launch} {e : Env} {R : Room} {s : State} {m : MethodId} {args : Array Value} {below : List Frame} {meth : Method} {c : Code} {T : State} {locs : List Loc} {cells slots : Nat} {Z : State} {a0 : Array Value} {h h' h0 : Heap} {a b : Addr} {v : Value} {sl : Nat} {ty : FieldType} {n k : Nat} {f f' : Nat → Value} {n0 : Nat} {ws : List Addr}
/-- from this state with this top frame the run ends as F says -/
def Go (tb : Tables) (e : Env) (below : List Frame) (F : Outcome → State → Prop) (T : State) (g : JFrame) : Prop :=
  ∃ s₂ o, Steps tb e below (T.setTop g) s₂ ∧ s₂.status = .running ∧ Ended s₂ below o ∧ F o s₂
theorem Go.st {tb : Tables} {F : Outcome → State → Prop} {T T' : State} {g g' : JFrame} (st : ∀ t, Steps tb e below (T'.setTop g') t → Steps tb e below (T.setTop g) t) (k : Go tb e below F T' g') : Go tb e below F T g := by
  obtain ⟨s₂, o, h1, h2⟩ := k
  exact ⟨s₂, o, st _ h1, h2⟩
theorem Go.frame {tb : Tables} {F : Outcome → State → Prop} {T : State} {g g' : JFrame} (q : g = g') (k : Go tb e below F T g') : Go tb e below F T g := q ▸ k
theorem own_join {α : Type} {tb : Tables} {F : Outcome → State → Prop} {T T2 : State} {g : α → JFrame} {g2 : JFrame} (J : ∀ z, Go tb e below F T (g z)) (k : (∀ z, Go tb e below F T (g z)) → Go tb e below F T2 g2) : Go tb e below F T2 g2 := k J
/-- what a body's end must say -/
def Fi (s : State) (Q : Option Value → Heap → List Loc → Prop) (k n : Nat) (o : Outcome) (U : State) : Prop :=
  ∃ v L, o = .returned v ∧ Q v U.heap L ∧ FrameEnd s o U L k n
/-- a body's contract: called with these values at this heap it returns and Q holds -/
def Does (l : Launch) (Z : State) (y : MethodName) (bytes : ByteArray) (mx : Nat) (ret : Option FieldType) (rm : Room) (as' : Array Value) (h : Heap) (Q : Option Value → Heap → List Loc → Prop) : Prop :=
  ∀ ws, MetFree l y (head1 (Jvm.Cond.code y bytes mx ret :: ws) rm) (fun a U => a = as' ∧ Z.Warmed39 U.vm ∧ U.heap = h) (fun _ _ _ _ _ => True) (fun _ U o U' => Fi U Q rm.cells rm.slots o U')
theorem Does.body {y : MethodName} {bytes : ByteArray} {mx : Nat} {ret : Option FieldType} {rm : Room} {as' : Array Value} {h : Heap} {Q : Option Value → Heap → List Loc → Prop} (hy : plainFor y = true)
    (B : ∀ (p : Program) (e : Env) (s : State) (m : MethodId) (below : List Frame) (meth : Method) (c : Code) (T : State), Stand p l e rm s m as' below meth c T [] 0 0 → p.tables.exec = Jvm.exec → Z.Warmed39 s.vm → c.code = bytes → c.maxLocals = mx → s.vm.findClass y.cls = some m.cls → meth.name = y.name → meth.sig.returnType = ret → meth.locks = false → T.heap = h → Go p.tables e below (Fi s Q rm.cells rm.slots) T (entryFrame m as' mx)) : Does l Z y bytes mx ret rm as' h Q := fun ws => by
  refine MetFree.of_bodySF hy hisR ?_
  intro p e s m args below meth c s₁ Bd hml0 hP hK
  obtain ⟨ha, hZ, hh⟩ := hP
  subst ha
  exact B p e s m below meth c s₁ (Stand.of_body Bd) Bd.exec hZ Bd.bytes hml0 (findClass_of_methodNamed Bd.named) (name_of_methodNamed Bd.named Bd.method).1 Bd.returns Bd.notSynchronized (by rw [← hh, Bd.state]; rfl)
/-! the returns -/
theorem goI (X : Stand p l e R s m args below meth c T locs cells slots) (hx : p.tables.exec = Jvm.exec) (hret : meth.sig.returnType = some .int) (hlk : meth.locks = false) {pc : Nat} {Ls : Array Slot} {z : Int32} {rest : List Value} (hd : decode c.code pc = .ok (.ireturn, 1)) {Q : Option Value → Heap → List Loc → Prop} {k n : Nat} (hk : cells ≤ k) (hn : slots ≤ n) (q : Q (some (.int z)) T.heap locs) :
    Go p.tables e below (Fi s Q k n) T (mkF m pc Ls (.int z :: rest)) := by
  obtain ⟨fs, hr, hrun, hended, hW, hsame⟩ := X.leave (v := some (.int z)) (fun h => by rw [hret] at h; cases h) hlk
  exact ⟨_, _, retOut X hx hret rfl (Or.inl ⟨rfl, Or.inl rfl, z, rfl⟩) hd hr, hrun, hended, _, _, rfl, q, ⟨_, rfl⟩, hW, hsame.mono hk hn⟩
theorem goN (X : Stand p l e R s m args below meth c T locs cells slots) (hx : p.tables.exec = Jvm.exec) {t : FieldType} (hret : meth.sig.returnType = some t) (hlk : meth.locks = false) (ht : t = .boolean ∨ t = .byte ∨ t = .char ∨ t = .short) {pc : Nat} {Ls : Array Slot} {z : Int32} {rest : List Value} (hd : decode c.code pc = .ok (.ireturn, 1)) {Q : Option Value → Heap → List Loc → Prop} {k n : Nat} (hk : cells ≤ k) (hn : slots ≤ n) (q : Q (some (.int (nar t z))) T.heap locs) :
    Go p.tables e below (Fi s Q k n) T (mkF m pc Ls (.int z :: rest)) := by
  obtain ⟨fs, hr, hrun, hended, hW, hsame⟩ := X.leave (v := some (.int (nar t z))) (fun h => by rw [hret] at h; cases h) hlk
  exact ⟨_, _, retN X hx hret ht hd hr, hrun, hended, _, _, rfl, q, ⟨_, rfl⟩, hW, hsame.mono hk hn⟩
theorem goJ (X : Stand p l e R s m args below meth c T locs cells slots) (hx : p.tables.exec = Jvm.exec) (hret : meth.sig.returnType = some .long) (hlk : meth.locks = false) {pc : Nat} {Ls : Array Slot} {z : Int64} {rest : List Value} (hd : decode c.code pc = .ok (.lreturn, 1)) {Q : Option Value → Heap → List Loc → Prop} {k n : Nat} (hk : cells ≤ k) (hn : slots ≤ n) (q : Q (some (.long z)) T.heap locs) :
    Go p.tables e below (Fi s Q k n) T (mkF m pc Ls (.long z :: rest)) := by
  obtain ⟨fs, hr, hrun, hended, hW, hsame⟩ := X.leave (v := some (.long z)) (fun h => by rw [hret] at h; cases h) hlk
  exact ⟨_, _, retOut X hx hret rfl (Or.inr (Or.inl ⟨rfl, rfl, z, rfl⟩)) hd hr, hrun, hended, _, _, rfl, q, ⟨_, rfl⟩, hW, hsame.mono hk hn⟩
theorem goA (X : Stand p l e R s m args below meth c T locs cells slots) (hx : p.tables.exec = Jvm.exec) {t : FieldType} (hret : meth.sig.returnType = some t) (hlk : meth.locks = false) (ht : t.isReference = true) (hnr : ∀ z : Addr, narrow t (.ref z) = .ref z) {pc : Nat} {Ls : Array Slot} {z : Addr} {rest : List Value} (hd : decode c.code pc = .ok (.areturn, 1)) {Q : Option Value → Heap → List Loc → Prop} {k n : Nat} (hk : cells ≤ k) (hn : slots ≤ n) (q : Q (some (.ref z)) T.heap locs) :
    Go p.tables e below (Fi s Q k n) T (mkF m pc Ls (.ref z :: rest)) := by
  obtain ⟨fs, hr, hrun, hended, hW, hsame⟩ := X.leave (v := some (.ref z)) (fun h => by rw [hret] at h; cases h) hlk
  exact ⟨_, _, retOut X hx hret (hnr z) (Or.inr (Or.inr (Or.inr (Or.inr ⟨rfl, ht, rfl⟩)))) hd hr, hrun, hended, _, _, rfl, q, ⟨_, rfl⟩, hW, hsame.mono hk hn⟩
theorem goV (X : Stand p l e R s m args below meth c T locs cells slots) (hx : p.tables.exec = Jvm.exec) (hret : meth.sig.returnType = none) (hlk : meth.locks = false) {pc : Nat} {Ls : Array Slot} (hd : decode c.code pc = .ok (.return_, 1)) {Q : Option Value → Heap → List Loc → Prop} {k n : Nat} (hk : cells ≤ k) (hn : slots ≤ n) (q : Q none T.heap locs) :
    Go p.tables e below (Fi s Q k n) T (mkF m pc Ls []) := by
  obtain ⟨fs, hr, hrun, hended, hW, hsame⟩ := X.leave (v := none) (fun _ => rfl) hlk
  exact ⟨_, _, X.returnOut hx hret hd hr, hrun, hended, _, _, rfl, q, ⟨_, rfl⟩, hW, hsame.mono hk hn⟩
/-! the calls -/
theorem own_one {k : Nat} {L : List Loc} (N : Fr k L) (q : k ≤ a) : Fr k (L ++ [⟨a, sl⟩]) := N.app fun y hy => by cases List.mem_singleton.mp hy; exact q
theorem goS (X : Stand p l e R s m args below meth c T locs cells slots) (hx : p.tables.exec = Jvm.exec) (hZ : Z.Warmed39 s.vm) {own : String} {index : Nat} {y : MethodName} {bytes : ByteArray} {mx : Nat} {ret : Option FieldType} (hown : s.vm.findClass own = some m.cls)
    (w1 : (Jvm.Cond.methodLink own index y).before a0 Z = true) (w2 : (Jvm.Cond.static y).before a0 Z = true) (w3 : (Jvm.Cond.initialized y.cls).before a0 Z = true) (w4 : (Jvm.Cond.code y bytes mx ret).before a0 Z = true) (hy : y.cls ≠ "java/lang/invoke/MethodHandle" ∧ y.cls ≠ "java/lang/invoke/VarHandle")
    {rm : Room} {as' : Array Value} {Q : Option Value → Heap → List Loc → Prop} (D : Does l Z y bytes mx ret rm as' h Q) (eT : T.heap = h) (N : Fr n0 locs) (W : Nat) (hf : rm.frames + 1 ≤ R.frames) (hl : W + (mx + 11) + rm.locals ≤ R.locals) (hc : cells + rm.cells ≤ R.cells) (hs : slots + rm.slots ≤ R.slots)
    {g : JFrame} (hg : g.method = m) (hsize : g.locals.size = c.maxLocals) (argsL rest : List Value) (hlen : ∀ sig, parseMethodDescriptor y.desc = some sig → argsL.length = sig.parameters.length) (has : argsL.toArray = as')
    (hstack : g.stack = argsL.reverse ++ rest) (hW : 2 * g.monitorRoom + (rest.map fun v => v.category).sum ≤ W) (hd : decode c.code g.pc = .ok (.invokestatic index, 3)) {F : Outcome → State → Prop}
    (kk : ∀ (T' : State) (v : Option Value) (L L' : List Loc), Stand p l e R s m args below meth c T' L' (cells + rm.cells) (slots + rm.slots) → (Fr n0 L → Fr n0 L') → Q v T'.heap L → Go p.tables e below F T' { g with pc := g.pc + 3, stack := v.toList ++ rest }) : Go p.tables e below F T g := by
  obtain ⟨v, _, ⟨T', L', k', n'⟩, -, X', ⟨L, hq, e1, e2, e3⟩, st⟩ := Jvm.LawKit.callS X hx hown (mvT hZ w1) (mvT hZ w2) (mvT hZ w3) (mvT hZ w4) hy (backOf (W := W) (Q := Q) (D []) hZ w4 w3 hf hl) hg hsize hlen hstack hW hd (fun _ _ => ⟨has, eT, hc, hs⟩)
  dsimp only [Pt.U, Pt.locs, Pt.cells, Pt.slots] at X' e1 e2 e3 st hq
  subst e1 e2 e3
  exact Go.st st (kk T' v L _ X' (fun q => N.app q) hq)
theorem goM (X : Stand p l e R s m args below meth c T locs cells slots) (hx : p.tables.exec = Jvm.exec) (hZ : Z.Warmed39 s.vm) {own C : String} {index : Nat} {y z : MethodName} {bytes : ByteArray} {mx : Nat} {ret : Option FieldType} (hown : s.vm.findClass own = some m.cls)
    (w1 : (Jvm.Cond.methodLink own index y).before a0 Z = true) (w2 : (Jvm.Cond.declares y).before a0 Z = true) (w3 : (Jvm.Cond.selects C y z).before a0 Z = true) (w4 : (Jvm.Cond.instanceMethod z).before a0 Z = true) (w5 : (Jvm.Cond.code z bytes mx ret).before a0 Z = true) (w6 : (Jvm.Cond.initialized z.cls).before a0 Z = true) (hnf : NotFace s y) (hy : y.cls ≠ "java/lang/invoke/MethodHandle" ∧ y.cls ≠ "java/lang/invoke/VarHandle")
    {rm : Room} {as' : Array Value} {Q : Option Value → Heap → List Loc → Prop} (D : Does l Z z bytes mx ret rm as' h Q) (eT : T.heap = h) (N : Fr n0 locs) (E : Exa Z h b C) (W : Nat) (hf : rm.frames + 1 ≤ R.frames) (hl : W + (mx + 11) + rm.locals ≤ R.locals) (hc : cells + rm.cells ≤ R.cells) (hs : slots + rm.slots ≤ R.slots)
    {g : JFrame} (hg : g.method = m) (hsize : g.locals.size = c.maxLocals) (argsL rest : List Value) (hlen : ∀ sig, parseMethodDescriptor y.desc = some sig → argsL.length = sig.parameters.length) (has : (.ref b :: argsL).toArray = as')
    (hstack : g.stack = argsL.reverse ++ .ref b :: rest) (hW : 2 * g.monitorRoom + (rest.map fun v => v.category).sum ≤ W) (hd : decode c.code g.pc = .ok (.invokevirtual index, 3)) {F : Outcome → State → Prop}
    (kk : ∀ (T' : State) (v : Option Value) (L L' : List Loc), Stand p l e R s m args below meth c T' L' (cells + rm.cells) (slots + rm.slots) → (Fr n0 L → Fr n0 L') → Q v T'.heap L → Go p.tables e below F T' { g with pc := g.pc + 3, stack := v.toList ++ rest }) : Go p.tables e below F T g := by
  obtain ⟨cq, kq, qa, qb, qc⟩ := isOf hZ eT E
  obtain ⟨v, _, ⟨T', L', k', n'⟩, -, X', ⟨L, hq, e1, e2, e3⟩, st⟩ := X.virtualBack hx hown (mvT hZ w1) (mvT hZ w2) hnf (mvT hZ w3) (mvT hZ w4) hy (backOf (W := W) (Q := Q) (D []) hZ w5 w6 hf hl) qa qc hg hsize (Steps.refl _) hlen hstack hW hd (fun _ _ => ⟨has, eT, hc, hs⟩)
  dsimp only [Pt.U, Pt.locs, Pt.cells, Pt.slots] at X' e1 e2 e3 st hq
  subst e1 e2 e3
  exact Go.st (fun t k => st.trans k) (kk T' v L _ X' (fun q => N.app q) hq)
theorem goC (X : Stand p l e R s m args below meth c T locs cells slots) (hx : p.tables.exec = Jvm.exec) (hZ : Z.Warmed39 s.vm) {own : String} {index : Nat} {y : MethodName} {bytes : ByteArray} {mx : Nat} (hy1 : y.name = "<init>") (hown : s.vm.findClass own = some m.cls)
    (w1 : (Jvm.Cond.methodLink own index y).before a0 Z = true) (w2 : (Jvm.Cond.instanceMethod y).before a0 Z = true) (w3 : (Jvm.Cond.initialized y.cls).before a0 Z = true) (w4 : (Jvm.Cond.code y bytes mx none).before a0 Z = true) (hy : y.cls ≠ "java/lang/invoke/MethodHandle" ∧ y.cls ≠ "java/lang/invoke/VarHandle")
    {rm : Room} {as' : Array Value} {Q : Option Value → Heap → List Loc → Prop} (D : Does l Z y bytes mx none rm as' h Q) (eT : T.heap = h) (N : Fr n0 locs) (W : Nat) (hf : rm.frames + 1 ≤ R.frames) (hl : W + (mx + 11) + rm.locals ≤ R.locals) (hc : cells + rm.cells ≤ R.cells) (hs : slots + rm.slots ≤ R.slots)
    {g : JFrame} (hg : g.method = m) (hsize : g.locals.size = c.maxLocals) (argsL rest : List Value) (hlen : ∀ sig, parseMethodDescriptor y.desc = some sig → argsL.length = sig.parameters.length) (has : (.ref b :: argsL).toArray = as')
    (hstack : g.stack = argsL.reverse ++ .ref b :: rest) (hW : 2 * g.monitorRoom + (rest.map fun v => v.category).sum ≤ W) (hd : decode c.code g.pc = .ok (.invokespecial index, 3)) {F : Outcome → State → Prop}
    (kk : ∀ (T' : State) (v : Option Value) (L L' : List Loc), Stand p l e R s m args below meth c T' L' (cells + rm.cells) (slots + rm.slots) → (Fr n0 L → Fr n0 L') → Q v T'.heap L → Go p.tables e below F T' { g with pc := g.pc + 3, stack := v.toList ++ rest }) : Go p.tables e below F T g := by
  obtain ⟨v, _, ⟨T', L', k', n'⟩, -, X', ⟨L, hq, e1, e2, e3⟩, st⟩ := X.specialBack hx hy1 hown (mvT hZ w1) (mvT hZ w2) (mvT hZ w4) hy (backOf (W := W) (Q := Q) (D []) hZ w4 w3 hf hl) hg hsize (Steps.refl _) hlen hstack hW hd (fun _ _ => ⟨has, eT, hc, hs⟩)
  dsimp only [Pt.U, Pt.locs, Pt.cells, Pt.slots] at X' e1 e2 e3 st hq
  subst e1 e2 e3
  exact Go.st (fun t k => st.trans k) (kk T' v L _ X' (fun q => N.app q) hq)
/-! arrays -/
/-- the array at a has n places, place i holds f i -/
def BA (Z : State) (h : Heap) (a : Addr) (ty : FieldType) (n : Nat) (f : Nat → Value) : Prop := ∃ c : Cell, Arr Z h a c ty ∧ c.slots.size = n ∧ ∀ i, i < n → c.slots[i]? = some (f i)
theorem BA.lt (V : BA Z h a ty n f) : a < h.size := by obtain ⟨c, A, -⟩ := V; exact A.lt
theorem BA.ext (V : BA Z h a ty n f) (E : Ext h h') : BA Z h' a ty n f := by obtain ⟨c, A, r⟩ := V; exact ⟨c, A.ext E, r⟩
theorem BA.other (V : BA Z h b ty n f) (W : Wr h h' a sl v) (q : b ≠ a) : BA Z h' b ty n f := by obtain ⟨c, A, r⟩ := V; exact ⟨c, A.other W q, r⟩
theorem BA.keep (V : BA Z h a ty n f) (K : Keep h h' ws) (q : a ∉ ws) : BA Z h' a ty n f := by obtain ⟨c, A, r⟩ := V; exact ⟨c, ⟨K.2.1 a c A.1 q, A.2⟩, r⟩
theorem BA.set (V : BA Z h a ty n f) (W : Wr h h' a k v) : BA Z h' a ty n (fun i => if i = k then v else f i) := by
  obtain ⟨c, A, S, H⟩ := V
  refine ⟨_, A.same W, by rw [sz_set]; exact S, fun i hi => ?_⟩
  show _ = some (if i = k then v else f i)
  by_cases q : i = k
  · subst q; rw [if_pos rfl]; simp [Cell.setSlot, S, hi]
  · rw [if_neg q]; simp only [Cell.setSlot]; rw [Array.getElem?_setIfInBounds_ne (fun z => q z.symm)]; exact H i hi
theorem BA.to (V : BA Z h a ty n f) (q : ∀ i, i < n → f i = f' i) : BA Z h a ty n f' := by
  obtain ⟨c, A, S, H⟩ := V
  exact ⟨c, A, S, fun i hi => by rw [H i hi, q i hi]⟩
theorem BA.new {kc : ClassId} {z : Int32} (A : Arr Z h a (newA kc ty z) ty) (hz : z.toNatClampNeg = n) : BA Z h a ty n (fun _ => defaultValue ty) := ⟨_, A, by rw [sz_new]; exact hz, fun i hi => by
  have : i < z.toNatClampNeg := by rw [hz]; exact hi
  simp [newA, this]⟩
/-- the int j is the place k of n -/
def Ix (j : Int32) (k n : Nat) : Prop := ¬ j < 0 ∧ j.toNatClampNeg = k ∧ k < n
theorem Ix.hin {j : Int32} {c : Cell} (I : Ix j k n) (S : c.slots.size = n) : ¬ (j < 0 ∨ c.slots.size ≤ j.toNatClampNeg) := by
  obtain ⟨h1, h2, h3⟩ := I
  rw [S, h2]; intro q; rcases q with q | q
  · exact h1 q
  · omega
theorem goStB (X : Stand p l e R s m args below meth c T locs cells slots) (hx : p.tables.exec = Jvm.exec) (hZ : Z.Warmed39 s.vm) (eT : T.heap = h) (N : Fr n0 locs) (V : BA Z h a .byte n f) (ga : n0 ≤ a) {j x : Int32} {g : JFrame} (hg : g.method = m) {rest : List Value} (hs : g.stack = .int x :: .int j :: .ref a :: rest) (hd : decode c.code g.pc = .ok (.bastore, 1)) (I : Ix j k n) {F : Outcome → State → Prop}
    (kk : ∀ (T' : State) (h' : Heap) (L : List Loc), Stand p l e R s m args below meth c T' L cells slots → T'.heap = h' → Fr n0 L → Wr h h' a k (.int x.toInt8.toInt32) → BA Z h' a .byte n (fun i => if i = k then .int x.toInt8.toInt32 else f i) → Go p.tables e below F T' { g with pc := g.pc + 1, stack := rest }) : Go p.tables e below F T g := by
  have V0 := V
  obtain ⟨cl, A, S, H⟩ := V
  obtain ⟨T', h', X', e', W, st⟩ := stB X hx hZ eT A (I.hin S) hg hs hd
  obtain ⟨h1, h2, h3⟩ := I
  subst h2
  exact Go.st st (kk T' h' _ X' e' (own_one N ga) W (V0.set W))
theorem goStI (X : Stand p l e R s m args below meth c T locs cells slots) (hx : p.tables.exec = Jvm.exec) (hZ : Z.Warmed39 s.vm) (eT : T.heap = h) (N : Fr n0 locs) (V : BA Z h a .int n f) (ga : n0 ≤ a) {j x : Int32} {g : JFrame} (hg : g.method = m) {rest : List Value} (hs : g.stack = .int x :: .int j :: .ref a :: rest) (hd : decode c.code g.pc = .ok (.iastore, 1)) (I : Ix j k n) {F : Outcome → State → Prop}
    (kk : ∀ (T' : State) (h' : Heap) (L : List Loc), Stand p l e R s m args below meth c T' L cells slots → T'.heap = h' → Fr n0 L → Wr h h' a k (.int x) → BA Z h' a .int n (fun i => if i = k then .int x else f i) → Go p.tables e below F T' { g with pc := g.pc + 1, stack := rest }) : Go p.tables e below F T g := by
  have V0 := V
  obtain ⟨cl, A, S, H⟩ := V
  obtain ⟨T', h', X', e', W, st⟩ := stI X hx hZ eT A (I.hin S) hg hs hd
  obtain ⟨h1, h2, h3⟩ := I
  subst h2
  exact Go.st st (kk T' h' _ X' e' (own_one N ga) W (V0.set W))
theorem goStJ (X : Stand p l e R s m args below meth c T locs cells slots) (hx : p.tables.exec = Jvm.exec) (hZ : Z.Warmed39 s.vm) (eT : T.heap = h) (N : Fr n0 locs) (V : BA Z h a .long n f) (ga : n0 ≤ a) {j : Int32} {x : Int64} {g : JFrame} (hg : g.method = m) {rest : List Value} (hs : g.stack = .long x :: .int j :: .ref a :: rest) (hd : decode c.code g.pc = .ok (.lastore, 1)) (I : Ix j k n) {F : Outcome → State → Prop}
    (kk : ∀ (T' : State) (h' : Heap) (L : List Loc), Stand p l e R s m args below meth c T' L cells slots → T'.heap = h' → Fr n0 L → Wr h h' a k (.long x) → BA Z h' a .long n (fun i => if i = k then .long x else f i) → Go p.tables e below F T' { g with pc := g.pc + 1, stack := rest }) : Go p.tables e below F T g := by
  have V0 := V
  obtain ⟨cl, A, S, H⟩ := V
  obtain ⟨T', h', X', e', W, st⟩ := stJ X hx hZ eT A (I.hin S) hg hs hd
  obtain ⟨h1, h2, h3⟩ := I
  subst h2
  exact Go.st st (kk T' h' _ X' e' (own_one N ga) W (V0.set W))
theorem goLdB (X : Stand p l e R s m args below meth c T locs cells slots) (hx : p.tables.exec = Jvm.exec) (hZ : Z.Warmed39 s.vm) (eT : T.heap = h) (V : BA Z h a .byte n f) {j : Int32} {v : Value} {g : JFrame} (hg : g.method = m) {rest : List Value} (hs : g.stack = .int j :: .ref a :: rest) (hd : decode c.code g.pc = .ok (.baload, 1)) (I : Ix j k n) (hv : f k = v) {F : Outcome → State → Prop}
    (kk : Go p.tables e below F T { g with pc := g.pc + 1, stack := v :: rest }) : Go p.tables e below F T g := by
  obtain ⟨cl, A, S, H⟩ := V
  exact Go.st (fun t q => X.baloadBytes hx (by rw [eT]; exact A.1) (State.isArrayOf_alike hZ.alike A.2.1) A.2.2 (I.hin S) (by rw [I.2.1, H k I.2.2, hv]) hg hs hd t q) kk
theorem goLdI (X : Stand p l e R s m args below meth c T locs cells slots) (hx : p.tables.exec = Jvm.exec) (hZ : Z.Warmed39 s.vm) (eT : T.heap = h) (V : BA Z h a .int n f) {j : Int32} {v : Value} {g : JFrame} (hg : g.method = m) {rest : List Value} (hs : g.stack = .int j :: .ref a :: rest) (hd : decode c.code g.pc = .ok (.iaload, 1)) (I : Ix j k n) (hv : f k = v) {F : Outcome → State → Prop}
    (kk : Go p.tables e below F T { g with pc := g.pc + 1, stack := v :: rest }) : Go p.tables e below F T g := by
  obtain ⟨cl, A, S, H⟩ := V
  exact Go.st (fun t q => X.iaload hx (by rw [eT]; exact A.1) (State.isArrayOf_alike hZ.alike A.2.1) A.2.2 (I.hin S) (by rw [I.2.1, H k I.2.2, hv]) hg hs hd t q) kk
theorem goLdJ (X : Stand p l e R s m args below meth c T locs cells slots) (hx : p.tables.exec = Jvm.exec) (hZ : Z.Warmed39 s.vm) (eT : T.heap = h) (V : BA Z h a .long n f) {j : Int32} {v : Value} {g : JFrame} (hg : g.method = m) {rest : List Value} (hs : g.stack = .int j :: .ref a :: rest) (hd : decode c.code g.pc = .ok (.laload, 1)) (I : Ix j k n) (hv : f k = v) {F : Outcome → State → Prop}
    (kk : Go p.tables e below F T { g with pc := g.pc + 1, stack := v :: rest }) : Go p.tables e below F T g := by
  obtain ⟨cl, A, S, H⟩ := V
  exact Go.st (fun t q => X.laload hx (by rw [eT]; exact A.1) (State.isArrayOf_alike hZ.alike A.2.1) A.2.2 (I.hin S) (by rw [I.2.1, H k I.2.2, hv]) hg hs hd t q) kk
theorem goLen (X : Stand p l e R s m args below meth c T locs cells slots) (hx : p.tables.exec = Jvm.exec) (hZ : Z.Warmed39 s.vm) (eT : T.heap = h) (V : BA Z h a ty n f) {z : Int32} (hz : n.toInt32 = z) {g : JFrame} (hg : g.method = m) {rest : List Value} (hs : g.stack = .ref a :: rest) (hd : decode c.code g.pc = .ok (.arraylength, 1)) {F : Outcome → State → Prop}
    (kk : Go p.tables e below F T { g with pc := g.pc + 1, stack := .int z :: rest }) : Go p.tables e below F T g := by
  obtain ⟨cl, A, S, H⟩ := V
  exact Go.st (fun t q => X.arraylength hx (by rw [eT]; exact A.1) (State.isArrayOf_alike hZ.alike A.2.1) hg hs hd t (by rw [S, hz]; exact q)) kk
theorem goNew (X : Stand p l e R s m args below meth c T locs cells slots) (hx : p.tables.exec = Jvm.exec) (hZ : Z.Warmed39 s.vm) {aty : ArrayType} (w : (Jvm.Cond.arrayClass (newarray.typeOf aty)).before a0 Z = true) (eT : T.heap = h) (Zs : n0 ≤ h.size) {z : Int32} (hz : ¬ z < 0) (hn : z.toNatClampNeg = n) (cap : Nat) (hcap : n ≤ cap) (hb : cap * 8 ≤ 536870912) (hc : cells + 1 ≤ R.cells) (hl : slots + cap ≤ R.slots)
    {g : JFrame} (hg : g.method = m) {rest : List Value} (hs : g.stack = .int z :: rest) (hd : decode c.code g.pc = .ok (.newarray aty, 2)) {F : Outcome → State → Prop}
    (kk : ∀ (T' : State) (h' : Heap) (b : Addr), Stand p l e R s m args below meth c T' locs (cells + 1) (slots + cap) → T'.heap = h' → Ext h h' → b = h.size → n0 ≤ b → n0 ≤ h'.size → BA Z h' b (newarray.typeOf aty) n (fun _ => defaultValue (newarray.typeOf aty)) → Go p.tables e below F T' { g with pc := g.pc + 2, stack := .ref b :: rest }) : Go p.tables e below F T g := by
  obtain ⟨T', h', cA, X', e', E, A, st⟩ := newP X hx hZ w eT hg hd hs hz (cap := cap) (by rw [hn]; exact hcap) hb hc hl
  exact Go.st st (kk T' h' _ X' e' E rfl Zs (Nat.le_trans Zs E.1) (BA.new A hn))
theorem own_sz (W : Wr h h' a sl v) (q : n0 ≤ h.size) : n0 ≤ h'.size := by rw [W.size]; exact q
end OwnKit

theorem own_bit (p : Int32) : ∃ (q : Int32) (k : Nat), (p &&& (1 : Int32)) = q ∧ Ix q k 3 ∧ Ix (q + 1) (k + 1) 3 ∧ Ix (q + 0) k 3 := by
  rcases and_one p with h | h <;> rw [h]
  · exact ⟨_, 0, rfl, ⟨by decide, by decide, by decide⟩, ⟨by decide, by decide, by decide⟩, ⟨by decide, by decide, by decide⟩⟩
  · exact ⟨_, 1, rfl, ⟨by decide, by decide, by decide⟩, ⟨by decide, by decide, by decide⟩, ⟨by decide, by decide, by decide⟩⟩
theorem own_w3 (p : Int32) : ∃ wd : Int32, (((p.toUInt32 >>> ((4 : Int32) &&& 31).toUInt32).toInt32) - (((p.toUInt32 >>> ((4 : Int32) &&& 31).toUInt32).toInt32) / (3 : Int32)) * (3 : Int32)) = wd ∧ (wd = 0 ∨ wd = 1 ∨ wd = 2) := by
  have hn : (0 : Int32) ≤ ((p.toUInt32 >>> ((4 : Int32) &&& 31).toUInt32).toInt32) := Jvm.Kit.i32_iushr_nonneg p (k := 4) rfl (by decide) (by decide)
  generalize ((p.toUInt32 >>> ((4 : Int32) &&& 31).toUInt32).toInt32) = x at *
  have h2 := Jvm.LawKit.rem_toInt x 3
  generalize (x - (x / (3 : Int32)) * (3 : Int32)) = r at *
  have e3 : (3 : Int32).toInt = 3 := rfl
  have hx : 0 ≤ x.toInt := Jvm.Kit.i32_nonneg.mp hn
  rw [e3, Int.tmod_eq_emod_of_nonneg hx] at h2
  have h3 : r.toInt = 0 ∨ r.toInt = 1 ∨ r.toInt = 2 := by omega
  refine ⟨r, rfl, ?_⟩
  rcases h3 with h | h | h
  · exact Or.inl (Int32.toInt_inj.mp h)
  · exact Or.inr (Or.inl (Int32.toInt_inj.mp h))
  · exact Or.inr (Or.inr (Int32.toInt_inj.mp h))
theorem own_ones : ∀ i, i < 64 → (-1 : Int64).toBitVec.getLsbD i = true := by decide
theorem own_zero : ∀ i, i < 64 → (0 : Int64).toBitVec.getLsbD i = false := by decide
theorem own_ext64 {x y : Int64} (h : ∀ i, i < 64 → x.toBitVec.getLsbD i = y.toBitVec.getLsbD i) : x = y := Int64.toBitVec_inj.mp (BitVec.eq_of_getLsbD_eq h)
theorem own_sub (x y : Int64) : (x &&& (y ^^^ (-1 : Int64))) = (0 : Int64) ↔ (x ||| y) = y := by
  have b1 : ∀ i, i < 64 → (x &&& (y ^^^ (-1 : Int64))).toBitVec.getLsbD i = (x.toBitVec.getLsbD i && !(y.toBitVec.getLsbD i)) := fun i hi => by
    show (x.toBitVec &&& (y.toBitVec ^^^ (-1 : Int64).toBitVec)).getLsbD i = _
    rw [BitVec.getLsbD_and, BitVec.getLsbD_xor, own_ones i hi]; simp
  have b2 : ∀ i, i < 64 → (x ||| y).toBitVec.getLsbD i = (x.toBitVec.getLsbD i || y.toBitVec.getLsbD i) := fun i hi => by
    show (x.toBitVec ||| y.toBitVec).getLsbD i = _
    rw [BitVec.getLsbD_or]
  constructor
  · intro h; apply own_ext64; intro i hi
    have q := b1 i hi
    rw [h, own_zero i hi] at q
    rw [b2 i hi]
    revert q
    cases x.toBitVec.getLsbD i <;> cases y.toBitVec.getLsbD i <;> simp
  · intro h; apply own_ext64; intro i hi
    have q := b2 i hi
    rw [h] at q
    rw [b1 i hi, own_zero i hi]
    revert q
    cases x.toBitVec.getLsbD i <;> cases y.toBitVec.getLsbD i <;> simp
theorem d1_0 : decode prog_98_method_44_code 0 = .ok (.iconst 0, 1) := by decide +kernel
theorem d1_1 : decode prog_98_method_44_code 1 = .ok (.istore 5, 2) := by decide +kernel
theorem d1_3 : decode prog_98_method_44_code 3 = .ok (.iload 5, 2) := by decide +kernel
theorem d1_5 : decode prog_98_method_44_code 5 = .ok (.iload 4, 2) := by decide +kernel
theorem d1_7 : decode prog_98_method_44_code 7 = .ok (.if_icmp .ge 33, 3) := by decide +kernel
theorem d1_10 : decode prog_98_method_44_code 10 = .ok (.aload_n 0, 1) := by decide +kernel
theorem d1_11 : decode prog_98_method_44_code 11 = .ok (.iload_n 1, 1) := by decide +kernel
theorem d1_12 : decode prog_98_method_44_code 12 = .ok (.iload 5, 2) := by decide +kernel
theorem d1_14 : decode prog_98_method_44_code 14 = .ok (.iadd, 1) := by decide +kernel
theorem d1_15 : decode prog_98_method_44_code 15 = .ok (.laload, 1) := by decide +kernel
theorem d1_16 : decode prog_98_method_44_code 16 = .ok (.aload_n 2, 1) := by decide +kernel
theorem d1_17 : decode prog_98_method_44_code 17 = .ok (.iload_n 3, 1) := by decide +kernel
theorem d1_18 : decode prog_98_method_44_code 18 = .ok (.iload 5, 2) := by decide +kernel
theorem d1_20 : decode prog_98_method_44_code 20 = .ok (.iadd, 1) := by decide +kernel
theorem d1_21 : decode prog_98_method_44_code 21 = .ok (.laload, 1) := by decide +kernel
theorem d1_22 : decode prog_98_method_44_code 22 = .ok (.ldc2_w 246, 3) := by decide +kernel
theorem d1_25 : decode prog_98_method_44_code 25 = .ok (.lxor, 1) := by decide +kernel
theorem d1_26 : decode prog_98_method_44_code 26 = .ok (.land, 1) := by decide +kernel
theorem d1_27 : decode prog_98_method_44_code 27 = .ok (.lconst 0, 1) := by decide +kernel
theorem d1_28 : decode prog_98_method_44_code 28 = .ok (.lcmp, 1) := by decide +kernel
theorem d1_29 : decode prog_98_method_44_code 29 = .ok (.ifCond .eq 5, 3) := by decide +kernel
theorem d1_32 : decode prog_98_method_44_code 32 = .ok (.iconst 0, 1) := by decide +kernel
theorem d1_33 : decode prog_98_method_44_code 33 = .ok (.ireturn, 1) := by decide +kernel
theorem d1_34 : decode prog_98_method_44_code 34 = .ok (.iinc 5 1, 3) := by decide +kernel
theorem d1_37 : decode prog_98_method_44_code 37 = .ok (.goto (-34), 3) := by decide +kernel
theorem d1_40 : decode prog_98_method_44_code 40 = .ok (.iconst 1, 1) := by decide +kernel
theorem d1_41 : decode prog_98_method_44_code 41 = .ok (.ireturn, 1) := by decide +kernel
theorem pn_1 : plainName "com/example/counterpath/counterpath/analysis/Zone" = true := by first | (simp [plainName, overriddenIn]; done) | decide +kernel
theorem ef_1 (m : MethodId) (x0 : Addr) (x1 : Int32) (x2 : Addr) (x3 : Int32) (x4 : Int32) : entryFrame m #[(.ref x0), (.int x1), (.ref x2), (.int x3), (.int x4)] 6 = mkF m 0 #[.val (.ref x0), .val (.int x1), .val (.ref x2), .val (.int x3), .val (.int x4), .unset] [] := by first | (simp [entryFrame, mkF, argsToLocals, Value.category]; done) | rfl
set_option maxRecDepth 65536 in
set_option maxHeartbeats 40000000 in
theorem rm1 (l : Launch) (Z : State) (a0 : Array Value) (hw : ∀ d ∈ tables_1, d.before a0 Z = true) (a1 : Addr) (p2 : Int32) (a3 : Addr) (p4 : Int32) (p5 : Int32) (h0 : Heap) (n0 : Nat) (Z0 : n0 ≤ h0.size) (k1 k3 n : Nat) (f g : Nat → Value) (x0 x1 y0 y1 : Int64) (hw5 : p5 = 0 ∨ p5 = 1 ∨ p5 = 2) (V_a1 : BA Z h0 a1 .long n f) (V_a3 : BA Z h0 a3 .long n g) (I0 : Ix (p2 + 0) k1 n) (I1 : Ix (p2 + 1) (k1 + 1) n) (J0 : Ix (p4 + 0) k3 n) (J1 : Ix (p4 + 1) (k3 + 1) n) (H0 : f k1 = .long x0) (H1 : f (k1 + 1) = .long x1) (G0 : g k3 = .long y0) (G1 : g (k3 + 1) = .long y1) :
    Does l Z (⟨"com/example/counterpath/counterpath/analysis/Zone", "mayInclude", "([JI[JII)Z"⟩ : MethodName) prog_98_method_44_code 6 (some .boolean) ({ frames := 0, cells := 0, slots := 0, locals := 0 } : Room) #[(.ref a1), (.int p2), (.ref a3), (.int p4), (.int p5)] h0 (fun v h L => (((((0 : Int32) < p5 → (x0 &&& (y0 ^^^ (-1 : Int64))) = (0 : Int64)) ∧ ((1 : Int32) < p5 → (x1 &&& (y1 ^^^ (-1 : Int64))) = (0 : Int64))) ∧ v = some (.int 1)) ∨ (¬ (((0 : Int32) < p5 → (x0 &&& (y0 ^^^ (-1 : Int64))) = (0 : Int64)) ∧ ((1 : Int32) < p5 → (x1 &&& (y1 ^^^ (-1 : Int64))) = (0 : Int64))) ∧ v = some (.int 0))) ∧ Fr n0 L ∧ h = h0) := by
  refine Does.body (plainFor_of_name pn_1) ?_
  intro p e s m below meth c T0 X0 hx hZ hby hml hown hnm hret hlk e0
  replace hown : s.vm.findClass "com/example/counterpath/counterpath/analysis/Zone" = some m.cls := hown
  have N0 := Fr.nil n0
  refine Go.frame (ef_1 m a1 p2 a3 p4 p5) ?_
  show Go _ _ _ _ T0 (mkF m 0 #[.val (.ref a1), .val (.int p2), .val (.ref a3), .val (.int p4), .val (.int p5), .unset] [])
  refine Go.st (fun t k => XS.iconst X0.here hx rfl (hb hby d1_0) k) ?_
  show Go _ _ _ _ T0 (mkF m 1 #[.val (.ref a1), .val (.int p2), .val (.ref a3), .val (.int p4), .val (.int p5), .unset] [(.int (0 : Int32))])
  refine Go.st (fun t k => XS.istore X0.here hx rfl (hb hby d1_1) rfl (l' := #[.val (.ref a1), .val (.int p2), .val (.ref a3), .val (.int p4), .val (.int p5), .val (.int (0 : Int32))]) rfl k) ?_
  show Go _ _ _ _ T0 (mkF m 3 #[.val (.ref a1), .val (.int p2), .val (.ref a3), .val (.int p4), .val (.int p5), .val (.int (0 : Int32))] [])
  rcases hw5 with rfl | rfl | rfl
  ·
    show Go _ _ _ _ T0 (mkF m 3 #[.val (.ref a1), .val (.int p2), .val (.ref a3), .val (.int p4), .val (.int (0 : Int32)), .val (.int (0 : Int32))] [])
    show Go _ _ _ _ T0 (mkF m 3 #[.val (.ref a1), .val (.int p2), .val (.ref a3), .val (.int p4), .val (.int (0 : Int32)), .val (.int (0 : Int32))] [])
    refine Go.st (fun t k => XS.iload X0.here hx rfl (hb hby d1_3) rfl k) ?_
    show Go _ _ _ _ T0 (mkF m 5 #[.val (.ref a1), .val (.int p2), .val (.ref a3), .val (.int p4), .val (.int (0 : Int32)), .val (.int (0 : Int32))] [(.int (0 : Int32))])
    refine Go.st (fun t k => XS.iload X0.here hx rfl (hb hby d1_5) rfl k) ?_
    show Go _ _ _ _ T0 (mkF m 7 #[.val (.ref a1), .val (.int p2), .val (.ref a3), .val (.int p4), .val (.int (0 : Int32)), .val (.int (0 : Int32))] [(.int (0 : Int32)), (.int (0 : Int32))])
    refine Go.st (fun t k => XS.icmpYes X0.here hx rfl (pc0 := 7) (pc' := 40) rfl (hb hby d1_7) rfl (by decide) (by decide) (by decide) k) ?_
    show Go _ _ _ _ T0 (mkF m 40 #[.val (.ref a1), .val (.int p2), .val (.ref a3), .val (.int p4), .val (.int (0 : Int32)), .val (.int (0 : Int32))] [])
    refine Go.st (fun t k => XS.iconst X0.here hx rfl (hb hby d1_40) k) ?_
    show Go _ _ _ _ T0 (mkF m 41 #[.val (.ref a1), .val (.int p2), .val (.ref a3), .val (.int p4), .val (.int (0 : Int32)), .val (.int (0 : Int32))] [(.int (1 : Int32))])
    exact goN X0 hx hret hlk (by simp) (hb hby d1_41) (by decide) (by decide) ⟨Or.inl ⟨⟨fun q => absurd q (by decide), fun q => absurd q (by decide)⟩, rfl⟩, N0, e0⟩
  ·
    show Go _ _ _ _ T0 (mkF m 3 #[.val (.ref a1), .val (.int p2), .val (.ref a3), .val (.int p4), .val (.int (1 : Int32)), .val (.int (0 : Int32))] [])
    show Go _ _ _ _ T0 (mkF m 3 #[.val (.ref a1), .val (.int p2), .val (.ref a3), .val (.int p4), .val (.int (1 : Int32)), .val (.int (0 : Int32))] [])
    refine Go.st (fun t k => XS.iload X0.here hx rfl (hb hby d1_3) rfl k) ?_
    show Go _ _ _ _ T0 (mkF m 5 #[.val (.ref a1), .val (.int p2), .val (.ref a3), .val (.int p4), .val (.int (1 : Int32)), .val (.int (0 : Int32))] [(.int (0 : Int32))])
    refine Go.st (fun t k => XS.iload X0.here hx rfl (hb hby d1_5) rfl k) ?_
    show Go _ _ _ _ T0 (mkF m 7 #[.val (.ref a1), .val (.int p2), .val (.ref a3), .val (.int p4), .val (.int (1 : Int32)), .val (.int (0 : Int32))] [(.int (1 : Int32)), (.int (0 : Int32))])
    refine Go.st (fun t k => XS.icmpNo X0.here hx rfl (hb hby d1_7) rfl (by decide) k) ?_
    show Go _ _ _ _ T0 (mkF m 10 #[.val (.ref a1), .val (.int p2), .val (.ref a3), .val (.int p4), .val (.int (1 : Int32)), .val (.int (0 : Int32))] [])
    refine Go.st (fun t k => XS.aloadN X0.here hx rfl (hb hby d1_10) rfl rfl k) ?_
    show Go _ _ _ _ T0 (mkF m 11 #[.val (.ref a1), .val (.int p2), .val (.ref a3), .val (.int p4), .val (.int (1 : Int32)), .val (.int (0 : Int32))] [(.ref a1)])
    refine Go.st (fun t k => XS.iloadN X0.here hx rfl (hb hby d1_11) rfl k) ?_
    show Go _ _ _ _ T0 (mkF m 12 #[.val (.ref a1), .val (.int p2), .val (.ref a3), .val (.int p4), .val (.int (1 : Int32)), .val (.int (0 : Int32))] [(.int p2), (.ref a1)])
    refine Go.st (fun t k => XS.iload X0.here hx rfl (hb hby d1_12) rfl k) ?_
    show Go _ _ _ _ T0 (mkF m 14 #[.val (.ref a1), .val (.int p2), .val (.ref a3), .val (.int p4), .val (.int (1 : Int32)), .val (.int (0 : Int32))] [(.int (0 : Int32)), (.int p2), (.ref a1)])
    refine Go.st (fun t k => XS.iadd X0.here hx rfl (hb hby d1_14) rfl k) ?_
    show Go _ _ _ _ T0 (mkF m 15 #[.val (.ref a1), .val (.int p2), .val (.ref a3), .val (.int p4), .val (.int (1 : Int32)), .val (.int (0 : Int32))] [(.int (p2 + (0 : Int32))), (.ref a1)])
    refine goLdJ X0 hx hZ e0 V_a1 (v := (.long x0)) (g := (mkF m 15 #[.val (.ref a1), .val (.int p2), .val (.ref a3), .val (.int p4), .val (.int (1 : Int32)), .val (.int (0 : Int32))] [(.int (p2 + (0 : Int32))), (.ref a1)])) rfl rfl (hb hby d1_15) I0 H0 ?_
    show Go _ _ _ _ T0 (mkF m 16 #[.val (.ref a1), .val (.int p2), .val (.ref a3), .val (.int p4), .val (.int (1 : Int32)), .val (.int (0 : Int32))] [(.long x0)])
    refine Go.st (fun t k => XS.aloadN X0.here hx rfl (hb hby d1_16) rfl rfl k) ?_
    show Go _ _ _ _ T0 (mkF m 17 #[.val (.ref a1), .val (.int p2), .val (.ref a3), .val (.int p4), .val (.int (1 : Int32)), .val (.int (0 : Int32))] [(.ref a3), (.long x0)])
    refine Go.st (fun t k => XS.iloadN X0.here hx rfl (hb hby d1_17) rfl k) ?_
    show Go _ _ _ _ T0 (mkF m 18 #[.val (.ref a1), .val (.int p2), .val (.ref a3), .val (.int p4), .val (.int (1 : Int32)), .val (.int (0 : Int32))] [(.int p4), (.ref a3), (.long x0)])
    refine Go.st (fun t k => XS.iload X0.here hx rfl (hb hby d1_18) rfl k) ?_
    show Go _ _ _ _ T0 (mkF m 20 #[.val (.ref a1), .val (.int p2), .val (.ref a3), .val (.int p4), .val (.int (1 : Int32)), .val (.int (0 : Int32))] [(.int (0 : Int32)), (.int p4), (.ref a3), (.long x0)])
    refine Go.st (fun t k => XS.iadd X0.here hx rfl (hb hby d1_20) rfl k) ?_
    show Go _ _ _ _ T0 (mkF m 21 #[.val (.ref a1), .val (.int p2), .val (.ref a3), .val (.int p4), .val (.int (1 : Int32)), .val (.int (0 : Int32))] [(.int (p4 + (0 : Int32))), (.ref a3), (.long x0)])
    refine goLdJ X0 hx hZ e0 V_a3 (v := (.long y0)) (g := (mkF m 21 #[.val (.ref a1), .val (.int p2), .val (.ref a3), .val (.int p4), .val (.int (1 : Int32)), .val (.int (0 : Int32))] [(.int (p4 + (0 : Int32))), (.ref a3), (.long x0)])) rfl rfl (hb hby d1_21) J0 G0 ?_
    show Go _ _ _ _ T0 (mkF m 22 #[.val (.ref a1), .val (.int p2), .val (.ref a3), .val (.int p4), .val (.int (1 : Int32)), .val (.int (0 : Int32))] [(.long y0), (.long x0)])
    refine Go.st (X0.ldc2Long hx hown (mvT hZ (hw _ (List.mem_of_getElem? (i := 6) rfl))) (g := (mkF m 22 #[.val (.ref a1), .val (.int p2), .val (.ref a3), .val (.int p4), .val (.int (1 : Int32)), .val (.int (0 : Int32))] [(.long y0), (.long x0)])) rfl (hb hby d1_22)) ?_
    show Go _ _ _ _ T0 (mkF m 25 #[.val (.ref a1), .val (.int p2), .val (.ref a3), .val (.int p4), .val (.int (1 : Int32)), .val (.int (0 : Int32))] [(.long (-1 : Int64)), (.long y0), (.long x0)])
    refine Go.st (fun t k => XS.lxor X0.here hx rfl (hb hby d1_25) rfl k) ?_
    show Go _ _ _ _ T0 (mkF m 26 #[.val (.ref a1), .val (.int p2), .val (.ref a3), .val (.int p4), .val (.int (1 : Int32)), .val (.int (0 : Int32))] [(.long (y0 ^^^ (-1 : Int64))), (.long x0)])
    refine Go.st (fun t k => XS.land X0.here hx rfl (hb hby d1_26) rfl k) ?_
    show Go _ _ _ _ T0 (mkF m 27 #[.val (.ref a1), .val (.int p2), .val (.ref a3), .val (.int p4), .val (.int (1 : Int32)), .val (.int (0 : Int32))] [(.long (x0 &&& (y0 ^^^ (-1 : Int64))))])
    refine Go.st (fun t k => XS.lconst X0.here hx rfl (hb hby d1_27) k) ?_
    show Go _ _ _ _ T0 (mkF m 28 #[.val (.ref a1), .val (.int p2), .val (.ref a3), .val (.int p4), .val (.int (1 : Int32)), .val (.int (0 : Int32))] [(.long (0 : Int64)), (.long (x0 &&& (y0 ^^^ (-1 : Int64))))])
    refine Go.st (fun t k => XS.lcmp X0.here hx rfl (hb hby d1_28) rfl k) ?_
    show Go _ _ _ _ T0 (mkF m 29 #[.val (.ref a1), .val (.int p2), .val (.ref a3), .val (.int p4), .val (.int (1 : Int32)), .val (.int (0 : Int32))] [(.int (lcmpW (x0 &&& (y0 ^^^ (-1 : Int64))) (0 : Int64)))])
    by_cases hA0 : (lcmpW (x0 &&& (y0 ^^^ (-1 : Int64))) (0 : Int64)) = (0 : Int32)
    ·
      refine Go.st (fun t k => XS.ifYes X0.here hx rfl (pc0 := 29) (pc' := 34) rfl (hb hby d1_29) rfl ((if0 _ _).trans (teq hA0).1) (by decide) (by decide) k) ?_
      show Go _ _ _ _ T0 (mkF m 34 #[.val (.ref a1), .val (.int p2), .val (.ref a3), .val (.int p4), .val (.int (1 : Int32)), .val (.int (0 : Int32))] [])
      refine Go.st (fun t k => XS.iinc X0.here hx rfl (hb hby d1_34) rfl (l' := #[.val (.ref a1), .val (.int p2), .val (.ref a3), .val (.int p4), .val (.int (1 : Int32)), .val (.int (1 : Int32))]) rfl k) ?_
      show Go _ _ _ _ T0 (mkF m 37 #[.val (.ref a1), .val (.int p2), .val (.ref a3), .val (.int p4), .val (.int (1 : Int32)), .val (.int (1 : Int32))] [])
      refine Go.st (fun t k => XS.goto X0.here hx rfl (pc0 := 37) (pc' := 3) rfl (hb hby d1_37) (by decide) (by decide) k) ?_
      show Go _ _ _ _ T0 (mkF m 3 #[.val (.ref a1), .val (.int p2), .val (.ref a3), .val (.int p4), .val (.int (1 : Int32)), .val (.int (1 : Int32))] [])
      refine Go.st (fun t k => XS.iload X0.here hx rfl (hb hby d1_3) rfl k) ?_
      show Go _ _ _ _ T0 (mkF m 5 #[.val (.ref a1), .val (.int p2), .val (.ref a3), .val (.int p4), .val (.int (1 : Int32)), .val (.int (1 : Int32))] [(.int (1 : Int32))])
      refine Go.st (fun t k => XS.iload X0.here hx rfl (hb hby d1_5) rfl k) ?_
      show Go _ _ _ _ T0 (mkF m 7 #[.val (.ref a1), .val (.int p2), .val (.ref a3), .val (.int p4), .val (.int (1 : Int32)), .val (.int (1 : Int32))] [(.int (1 : Int32)), (.int (1 : Int32))])
      refine Go.st (fun t k => XS.icmpYes X0.here hx rfl (pc0 := 7) (pc' := 40) rfl (hb hby d1_7) rfl (by decide) (by decide) (by decide) k) ?_
      show Go _ _ _ _ T0 (mkF m 40 #[.val (.ref a1), .val (.int p2), .val (.ref a3), .val (.int p4), .val (.int (1 : Int32)), .val (.int (1 : Int32))] [])
      refine Go.st (fun t k => XS.iconst X0.here hx rfl (hb hby d1_40) k) ?_
      show Go _ _ _ _ T0 (mkF m 41 #[.val (.ref a1), .val (.int p2), .val (.ref a3), .val (.int p4), .val (.int (1 : Int32)), .val (.int (1 : Int32))] [(.int (1 : Int32))])
      exact goN X0 hx hret hlk (by simp) (hb hby d1_41) (by decide) (by decide) ⟨Or.inl ⟨⟨fun _ => (lw_eq _ _).mp hA0, fun q => absurd q (by decide)⟩, rfl⟩, N0, e0⟩
    ·
      refine Go.st (fun t k => XS.ifNo X0.here hx rfl (hb hby d1_29) rfl ((if0 _ _).trans (feq hA0).1) k) ?_
      show Go _ _ _ _ T0 (mkF m 32 #[.val (.ref a1), .val (.int p2), .val (.ref a3), .val (.int p4), .val (.int (1 : Int32)), .val (.int (0 : Int32))] [])
      refine Go.st (fun t k => XS.iconst X0.here hx rfl (hb hby d1_32) k) ?_
      show Go _ _ _ _ T0 (mkF m 33 #[.val (.ref a1), .val (.int p2), .val (.ref a3), .val (.int p4), .val (.int (1 : Int32)), .val (.int (0 : Int32))] [(.int (0 : Int32))])
      exact goN X0 hx hret hlk (by simp) (hb hby d1_33) (by decide) (by decide) ⟨Or.inr ⟨fun q => hA0 ((lw_eq _ _).mpr (q.1 (by decide))), rfl⟩, N0, e0⟩
  ·
    show Go _ _ _ _ T0 (mkF m 3 #[.val (.ref a1), .val (.int p2), .val (.ref a3), .val (.int p4), .val (.int (2 : Int32)), .val (.int (0 : Int32))] [])
    show Go _ _ _ _ T0 (mkF m 3 #[.val (.ref a1), .val (.int p2), .val (.ref a3), .val (.int p4), .val (.int (2 : Int32)), .val (.int (0 : Int32))] [])
    refine Go.st (fun t k => XS.iload X0.here hx rfl (hb hby d1_3) rfl k) ?_
    show Go _ _ _ _ T0 (mkF m 5 #[.val (.ref a1), .val (.int p2), .val (.ref a3), .val (.int p4), .val (.int (2 : Int32)), .val (.int (0 : Int32))] [(.int (0 : Int32))])
    refine Go.st (fun t k => XS.iload X0.here hx rfl (hb hby d1_5) rfl k) ?_
    show Go _ _ _ _ T0 (mkF m 7 #[.val (.ref a1), .val (.int p2), .val (.ref a3), .val (.int p4), .val (.int (2 : Int32)), .val (.int (0 : Int32))] [(.int (2 : Int32)), (.int (0 : Int32))])
    refine Go.st (fun t k => XS.icmpNo X0.here hx rfl (hb hby d1_7) rfl (by decide) k) ?_
    show Go _ _ _ _ T0 (mkF m 10 #[.val (.ref a1), .val (.int p2), .val (.ref a3), .val (.int p4), .val (.int (2 : Int32)), .val (.int (0 : Int32))] [])
    refine Go.st (fun t k => XS.aloadN X0.here hx rfl (hb hby d1_10) rfl rfl k) ?_
    show Go _ _ _ _ T0 (mkF m 11 #[.val (.ref a1), .val (.int p2), .val (.ref a3), .val (.int p4), .val (.int (2 : Int32)), .val (.int (0 : Int32))] [(.ref a1)])
    refine Go.st (fun t k => XS.iloadN X0.here hx rfl (hb hby d1_11) rfl k) ?_
    show Go _ _ _ _ T0 (mkF m 12 #[.val (.ref a1), .val (.int p2), .val (.ref a3), .val (.int p4), .val (.int (2 : Int32)), .val (.int (0 : Int32))] [(.int p2), (.ref a1)])
    refine Go.st (fun t k => XS.iload X0.here hx rfl (hb hby d1_12) rfl k) ?_
    show Go _ _ _ _ T0 (mkF m 14 #[.val (.ref a1), .val (.int p2), .val (.ref a3), .val (.int p4), .val (.int (2 : Int32)), .val (.int (0 : Int32))] [(.int (0 : Int32)), (.int p2), (.ref a1)])
    refine Go.st (fun t k => XS.iadd X0.here hx rfl (hb hby d1_14) rfl k) ?_
    show Go _ _ _ _ T0 (mkF m 15 #[.val (.ref a1), .val (.int p2), .val (.ref a3), .val (.int p4), .val (.int (2 : Int32)), .val (.int (0 : Int32))] [(.int (p2 + (0 : Int32))), (.ref a1)])
    refine goLdJ X0 hx hZ e0 V_a1 (v := (.long x0)) (g := (mkF m 15 #[.val (.ref a1), .val (.int p2), .val (.ref a3), .val (.int p4), .val (.int (2 : Int32)), .val (.int (0 : Int32))] [(.int (p2 + (0 : Int32))), (.ref a1)])) rfl rfl (hb hby d1_15) I0 H0 ?_
    show Go _ _ _ _ T0 (mkF m 16 #[.val (.ref a1), .val (.int p2), .val (.ref a3), .val (.int p4), .val (.int (2 : Int32)), .val (.int (0 : Int32))] [(.long x0)])
    refine Go.st (fun t k => XS.aloadN X0.here hx rfl (hb hby d1_16) rfl rfl k) ?_
    show Go _ _ _ _ T0 (mkF m 17 #[.val (.ref a1), .val (.int p2), .val (.ref a3), .val (.int p4), .val (.int (2 : Int32)), .val (.int (0 : Int32))] [(.ref a3), (.long x0)])
    refine Go.st (fun t k => XS.iloadN X0.here hx rfl (hb hby d1_17) rfl k) ?_
    show Go _ _ _ _ T0 (mkF m 18 #[.val (.ref a1), .val (.int p2), .val (.ref a3), .val (.int p4), .val (.int (2 : Int32)), .val (.int (0 : Int32))] [(.int p4), (.ref a3), (.long x0)])
    refine Go.st (fun t k => XS.iload X0.here hx rfl (hb hby d1_18) rfl k) ?_
    show Go _ _ _ _ T0 (mkF m 20 #[.val (.ref a1), .val (.int p2), .val (.ref a3), .val (.int p4), .val (.int (2 : Int32)), .val (.int (0 : Int32))] [(.int (0 : Int32)), (.int p4), (.ref a3), (.long x0)])
    refine Go.st (fun t k => XS.iadd X0.here hx rfl (hb hby d1_20) rfl k) ?_
    show Go _ _ _ _ T0 (mkF m 21 #[.val (.ref a1), .val (.int p2), .val (.ref a3), .val (.int p4), .val (.int (2 : Int32)), .val (.int (0 : Int32))] [(.int (p4 + (0 : Int32))), (.ref a3), (.long x0)])
    refine goLdJ X0 hx hZ e0 V_a3 (v := (.long y0)) (g := (mkF m 21 #[.val (.ref a1), .val (.int p2), .val (.ref a3), .val (.int p4), .val (.int (2 : Int32)), .val (.int (0 : Int32))] [(.int (p4 + (0 : Int32))), (.ref a3), (.long x0)])) rfl rfl (hb hby d1_21) J0 G0 ?_
    show Go _ _ _ _ T0 (mkF m 22 #[.val (.ref a1), .val (.int p2), .val (.ref a3), .val (.int p4), .val (.int (2 : Int32)), .val (.int (0 : Int32))] [(.long y0), (.long x0)])
    refine Go.st (X0.ldc2Long hx hown (mvT hZ (hw _ (List.mem_of_getElem? (i := 6) rfl))) (g := (mkF m 22 #[.val (.ref a1), .val (.int p2), .val (.ref a3), .val (.int p4), .val (.int (2 : Int32)), .val (.int (0 : Int32))] [(.long y0), (.long x0)])) rfl (hb hby d1_22)) ?_
    show Go _ _ _ _ T0 (mkF m 25 #[.val (.ref a1), .val (.int p2), .val (.ref a3), .val (.int p4), .val (.int (2 : Int32)), .val (.int (0 : Int32))] [(.long (-1 : Int64)), (.long y0), (.long x0)])
    refine Go.st (fun t k => XS.lxor X0.here hx rfl (hb hby d1_25) rfl k) ?_
    show Go _ _ _ _ T0 (mkF m 26 #[.val (.ref a1), .val (.int p2), .val (.ref a3), .val (.int p4), .val (.int (2 : Int32)), .val (.int (0 : Int32))] [(.long (y0 ^^^ (-1 : Int64))), (.long x0)])
    refine Go.st (fun t k => XS.land X0.here hx rfl (hb hby d1_26) rfl k) ?_
    show Go _ _ _ _ T0 (mkF m 27 #[.val (.ref a1), .val (.int p2), .val (.ref a3), .val (.int p4), .val (.int (2 : Int32)), .val (.int (0 : Int32))] [(.long (x0 &&& (y0 ^^^ (-1 : Int64))))])
    refine Go.st (fun t k => XS.lconst X0.here hx rfl (hb hby d1_27) k) ?_
    show Go _ _ _ _ T0 (mkF m 28 #[.val (.ref a1), .val (.int p2), .val (.ref a3), .val (.int p4), .val (.int (2 : Int32)), .val (.int (0 : Int32))] [(.long (0 : Int64)), (.long (x0 &&& (y0 ^^^ (-1 : Int64))))])
    refine Go.st (fun t k => XS.lcmp X0.here hx rfl (hb hby d1_28) rfl k) ?_
    show Go _ _ _ _ T0 (mkF m 29 #[.val (.ref a1), .val (.int p2), .val (.ref a3), .val (.int p4), .val (.int (2 : Int32)), .val (.int (0 : Int32))] [(.int (lcmpW (x0 &&& (y0 ^^^ (-1 : Int64))) (0 : Int64)))])
    by_cases hA0 : (lcmpW (x0 &&& (y0 ^^^ (-1 : Int64))) (0 : Int64)) = (0 : Int32)
    ·
      refine Go.st (fun t k => XS.ifYes X0.here hx rfl (pc0 := 29) (pc' := 34) rfl (hb hby d1_29) rfl ((if0 _ _).trans (teq hA0).1) (by decide) (by decide) k) ?_
      show Go _ _ _ _ T0 (mkF m 34 #[.val (.ref a1), .val (.int p2), .val (.ref a3), .val (.int p4), .val (.int (2 : Int32)), .val (.int (0 : Int32))] [])
      refine Go.st (fun t k => XS.iinc X0.here hx rfl (hb hby d1_34) rfl (l' := #[.val (.ref a1), .val (.int p2), .val (.ref a3), .val (.int p4), .val (.int (2 : Int32)), .val (.int (1 : Int32))]) rfl k) ?_
      show Go _ _ _ _ T0 (mkF m 37 #[.val (.ref a1), .val (.int p2), .val (.ref a3), .val (.int p4), .val (.int (2 : Int32)), .val (.int (1 : Int32))] [])
      refine Go.st (fun t k => XS.goto X0.here hx rfl (pc0 := 37) (pc' := 3) rfl (hb hby d1_37) (by decide) (by decide) k) ?_
      show Go _ _ _ _ T0 (mkF m 3 #[.val (.ref a1), .val (.int p2), .val (.ref a3), .val (.int p4), .val (.int (2 : Int32)), .val (.int (1 : Int32))] [])
      refine Go.st (fun t k => XS.iload X0.here hx rfl (hb hby d1_3) rfl k) ?_
      show Go _ _ _ _ T0 (mkF m 5 #[.val (.ref a1), .val (.int p2), .val (.ref a3), .val (.int p4), .val (.int (2 : Int32)), .val (.int (1 : Int32))] [(.int (1 : Int32))])
      refine Go.st (fun t k => XS.iload X0.here hx rfl (hb hby d1_5) rfl k) ?_
      show Go _ _ _ _ T0 (mkF m 7 #[.val (.ref a1), .val (.int p2), .val (.ref a3), .val (.int p4), .val (.int (2 : Int32)), .val (.int (1 : Int32))] [(.int (2 : Int32)), (.int (1 : Int32))])
      refine Go.st (fun t k => XS.icmpNo X0.here hx rfl (hb hby d1_7) rfl (by decide) k) ?_
      show Go _ _ _ _ T0 (mkF m 10 #[.val (.ref a1), .val (.int p2), .val (.ref a3), .val (.int p4), .val (.int (2 : Int32)), .val (.int (1 : Int32))] [])
      refine Go.st (fun t k => XS.aloadN X0.here hx rfl (hb hby d1_10) rfl rfl k) ?_
      show Go _ _ _ _ T0 (mkF m 11 #[.val (.ref a1), .val (.int p2), .val (.ref a3), .val (.int p4), .val (.int (2 : Int32)), .val (.int (1 : Int32))] [(.ref a1)])
      refine Go.st (fun t k => XS.iloadN X0.here hx rfl (hb hby d1_11) rfl k) ?_
      show Go _ _ _ _ T0 (mkF m 12 #[.val (.ref a1), .val (.int p2), .val (.ref a3), .val (.int p4), .val (.int (2 : Int32)), .val (.int (1 : Int32))] [(.int p2), (.ref a1)])
      refine Go.st (fun t k => XS.iload X0.here hx rfl (hb hby d1_12) rfl k) ?_
      show Go _ _ _ _ T0 (mkF m 14 #[.val (.ref a1), .val (.int p2), .val (.ref a3), .val (.int p4), .val (.int (2 : Int32)), .val (.int (1 : Int32))] [(.int (1 : Int32)), (.int p2), (.ref a1)])
      refine Go.st (fun t k => XS.iadd X0.here hx rfl (hb hby d1_14) rfl k) ?_
      show Go _ _ _ _ T0 (mkF m 15 #[.val (.ref a1), .val (.int p2), .val (.ref a3), .val (.int p4), .val (.int (2 : Int32)), .val (.int (1 : Int32))] [(.int (p2 + (1 : Int32))), (.ref a1)])
      refine goLdJ X0 hx hZ e0 V_a1 (v := (.long x1)) (g := (mkF m 15 #[.val (.ref a1), .val (.int p2), .val (.ref a3), .val (.int p4), .val (.int (2 : Int32)), .val (.int (1 : Int32))] [(.int (p2 + (1 : Int32))), (.ref a1)])) rfl rfl (hb hby d1_15) I1 H1 ?_
      show Go _ _ _ _ T0 (mkF m 16 #[.val (.ref a1), .val (.int p2), .val (.ref a3), .val (.int p4), .val (.int (2 : Int32)), .val (.int (1 : Int32))] [(.long x1)])
      refine Go.st (fun t k => XS.aloadN X0.here hx rfl (hb hby d1_16) rfl rfl k) ?_
      show Go _ _ _ _ T0 (mkF m 17 #[.val (.ref a1), .val (.int p2), .val (.ref a3), .val (.int p4), .val (.int (2 : Int32)), .val (.int (1 : Int32))] [(.ref a3), (.long x1)])
      refine Go.st (fun t k => XS.iloadN X0.here hx rfl (hb hby d1_17) rfl k) ?_
      show Go _ _ _ _ T0 (mkF m 18 #[.val (.ref a1), .val (.int p2), .val (.ref a3), .val (.int p4), .val (.int (2 : Int32)), .val (.int (1 : Int32))] [(.int p4), (.ref a3), (.long x1)])
      refine Go.st (fun t k => XS.iload X0.here hx rfl (hb hby d1_18) rfl k) ?_
      show Go _ _ _ _ T0 (mkF m 20 #[.val (.ref a1), .val (.int p2), .val (.ref a3), .val (.int p4), .val (.int (2 : Int32)), .val (.int (1 : Int32))] [(.int (1 : Int32)), (.int p4), (.ref a3), (.long x1)])
      refine Go.st (fun t k => XS.iadd X0.here hx rfl (hb hby d1_20) rfl k) ?_
      show Go _ _ _ _ T0 (mkF m 21 #[.val (.ref a1), .val (.int p2), .val (.ref a3), .val (.int p4), .val (.int (2 : Int32)), .val (.int (1 : Int32))] [(.int (p4 + (1 : Int32))), (.ref a3), (.long x1)])
      refine goLdJ X0 hx hZ e0 V_a3 (v := (.long y1)) (g := (mkF m 21 #[.val (.ref a1), .val (.int p2), .val (.ref a3), .val (.int p4), .val (.int (2 : Int32)), .val (.int (1 : Int32))] [(.int (p4 + (1 : Int32))), (.ref a3), (.long x1)])) rfl rfl (hb hby d1_21) J1 G1 ?_
      show Go _ _ _ _ T0 (mkF m 22 #[.val (.ref a1), .val (.int p2), .val (.ref a3), .val (.int p4), .val (.int (2 : Int32)), .val (.int (1 : Int32))] [(.long y1), (.long x1)])
      refine Go.st (X0.ldc2Long hx hown (mvT hZ (hw _ (List.mem_of_getElem? (i := 6) rfl))) (g := (mkF m 22 #[.val (.ref a1), .val (.int p2), .val (.ref a3), .val (.int p4), .val (.int (2 : Int32)), .val (.int (1 : Int32))] [(.long y1), (.long x1)])) rfl (hb hby d1_22)) ?_
      show Go _ _ _ _ T0 (mkF m 25 #[.val (.ref a1), .val (.int p2), .val (.ref a3), .val (.int p4), .val (.int (2 : Int32)), .val (.int (1 : Int32))] [(.long (-1 : Int64)), (.long y1), (.long x1)])
      refine Go.st (fun t k => XS.lxor X0.here hx rfl (hb hby d1_25) rfl k) ?_
      show Go _ _ _ _ T0 (mkF m 26 #[.val (.ref a1), .val (.int p2), .val (.ref a3), .val (.int p4), .val (.int (2 : Int32)), .val (.int (1 : Int32))] [(.long (y1 ^^^ (-1 : Int64))), (.long x1)])
      refine Go.st (fun t k => XS.land X0.here hx rfl (hb hby d1_26) rfl k) ?_
      show Go _ _ _ _ T0 (mkF m 27 #[.val (.ref a1), .val (.int p2), .val (.ref a3), .val (.int p4), .val (.int (2 : Int32)), .val (.int (1 : Int32))] [(.long (x1 &&& (y1 ^^^ (-1 : Int64))))])
      refine Go.st (fun t k => XS.lconst X0.here hx rfl (hb hby d1_27) k) ?_
      show Go _ _ _ _ T0 (mkF m 28 #[.val (.ref a1), .val (.int p2), .val (.ref a3), .val (.int p4), .val (.int (2 : Int32)), .val (.int (1 : Int32))] [(.long (0 : Int64)), (.long (x1 &&& (y1 ^^^ (-1 : Int64))))])
      refine Go.st (fun t k => XS.lcmp X0.here hx rfl (hb hby d1_28) rfl k) ?_
      show Go _ _ _ _ T0 (mkF m 29 #[.val (.ref a1), .val (.int p2), .val (.ref a3), .val (.int p4), .val (.int (2 : Int32)), .val (.int (1 : Int32))] [(.int (lcmpW (x1 &&& (y1 ^^^ (-1 : Int64))) (0 : Int64)))])
      by_cases hA1 : (lcmpW (x1 &&& (y1 ^^^ (-1 : Int64))) (0 : Int64)) = (0 : Int32)
      ·
        refine Go.st (fun t k => XS.ifYes X0.here hx rfl (pc0 := 29) (pc' := 34) rfl (hb hby d1_29) rfl ((if0 _ _).trans (teq hA1).1) (by decide) (by decide) k) ?_
        show Go _ _ _ _ T0 (mkF m 34 #[.val (.ref a1), .val (.int p2), .val (.ref a3), .val (.int p4), .val (.int (2 : Int32)), .val (.int (1 : Int32))] [])
        refine Go.st (fun t k => XS.iinc X0.here hx rfl (hb hby d1_34) rfl (l' := #[.val (.ref a1), .val (.int p2), .val (.ref a3), .val (.int p4), .val (.int (2 : Int32)), .val (.int (2 : Int32))]) rfl k) ?_
        show Go _ _ _ _ T0 (mkF m 37 #[.val (.ref a1), .val (.int p2), .val (.ref a3), .val (.int p4), .val (.int (2 : Int32)), .val (.int (2 : Int32))] [])
        refine Go.st (fun t k => XS.goto X0.here hx rfl (pc0 := 37) (pc' := 3) rfl (hb hby d1_37) (by decide) (by decide) k) ?_
        show Go _ _ _ _ T0 (mkF m 3 #[.val (.ref a1), .val (.int p2), .val (.ref a3), .val (.int p4), .val (.int (2 : Int32)), .val (.int (2 : Int32))] [])
        refine Go.st (fun t k => XS.iload X0.here hx rfl (hb hby d1_3) rfl k) ?_
        show Go _ _ _ _ T0 (mkF m 5 #[.val (.ref a1), .val (.int p2), .val (.ref a3), .val (.int p4), .val (.int (2 : Int32)), .val (.int (2 : Int32))] [(.int (2 : Int32))])
        refine Go.st (fun t k => XS.iload X0.here hx rfl (hb hby d1_5) rfl k) ?_
        show Go _ _ _ _ T0 (mkF m 7 #[.val (.ref a1), .val (.int p2), .val (.ref a3), .val (.int p4), .val (.int (2 : Int32)), .val (.int (2 : Int32))] [(.int (2 : Int32)), (.int (2 : Int32))])
        refine Go.st (fun t k => XS.icmpYes X0.here hx rfl (pc0 := 7) (pc' := 40) rfl (hb hby d1_7) rfl (by decide) (by decide) (by decide) k) ?_
        show Go _ _ _ _ T0 (mkF m 40 #[.val (.ref a1), .val (.int p2), .val (.ref a3), .val (.int p4), .val (.int (2 : Int32)), .val (.int (2 : Int32))] [])
        refine Go.st (fun t k => XS.iconst X0.here hx rfl (hb hby d1_40) k) ?_
        show Go _ _ _ _ T0 (mkF m 41 #[.val (.ref a1), .val (.int p2), .val (.ref a3), .val (.int p4), .val (.int (2 : Int32)), .val (.int (2 : Int32))] [(.int (1 : Int32))])
        exact goN X0 hx hret hlk (by simp) (hb hby d1_41) (by decide) (by decide) ⟨Or.inl ⟨⟨fun _ => (lw_eq _ _).mp hA0, fun _ => (lw_eq _ _).mp hA1⟩, rfl⟩, N0, e0⟩
      ·
        refine Go.st (fun t k => XS.ifNo X0.here hx rfl (hb hby d1_29) rfl ((if0 _ _).trans (feq hA1).1) k) ?_
        show Go _ _ _ _ T0 (mkF m 32 #[.val (.ref a1), .val (.int p2), .val (.ref a3), .val (.int p4), .val (.int (2 : Int32)), .val (.int (1 : Int32))] [])
        refine Go.st (fun t k => XS.iconst X0.here hx rfl (hb hby d1_32) k) ?_
        show Go _ _ _ _ T0 (mkF m 33 #[.val (.ref a1), .val (.int p2), .val (.ref a3), .val (.int p4), .val (.int (2 : Int32)), .val (.int (1 : Int32))] [(.int (0 : Int32))])
        exact goN X0 hx hret hlk (by simp) (hb hby d1_33) (by decide) (by decide) ⟨Or.inr ⟨fun q => hA1 ((lw_eq _ _).mpr (q.2 (by decide))), rfl⟩, N0, e0⟩
    ·
      refine Go.st (fun t k => XS.ifNo X0.here hx rfl (hb hby d1_29) rfl ((if0 _ _).trans (feq hA0).1) k) ?_
      show Go _ _ _ _ T0 (mkF m 32 #[.val (.ref a1), .val (.int p2), .val (.ref a3), .val (.int p4), .val (.int (2 : Int32)), .val (.int (0 : Int32))] [])
      refine Go.st (fun t k => XS.iconst X0.here hx rfl (hb hby d1_32) k) ?_
      show Go _ _ _ _ T0 (mkF m 33 #[.val (.ref a1), .val (.int p2), .val (.ref a3), .val (.int p4), .val (.int (2 : Int32)), .val (.int (0 : Int32))] [(.int (0 : Int32))])
      exact goN X0 hx hret hlk (by simp) (hb hby d1_33) (by decide) (by decide) ⟨Or.inr ⟨fun q => hA0 ((lw_eq _ _).mpr (q.1 (by decide))), rfl⟩, N0, e0⟩
theorem pn_0 : plainName "com/example/counterpath/counterpath/analysis/ZoneMayIncludePinLaw" = true := by first | (simp [plainName, overriddenIn]; done) | decide +kernel
theorem pd0_0 : parseMethodDescriptor "([JI[JII)Z" = some ⟨[(.array .long), .int, (.array .long), .int, .int], some .boolean⟩ := by decide +kernel
theorem ef_0 (m : MethodId) (x0 : Int64) (x1 : Int64) (x2 : Int64) (x3 : Int64) (x4 : Int32) : entryFrame m #[(.long x0), (.long x1), (.long x2), (.long x3), (.int x4)] maxLocals = mkF m 0 #[.val (.long x0), .second, .val (.long x1), .second, .val (.long x2), .second, .val (.long x3), .second, .val (.int x4), .unset, .unset, .unset, .unset, .unset, .unset, .unset, .unset, .unset, .unset, .unset, .unset] [] := by first | (simp [entryFrame, mkF, argsToLocals, Value.category, maxLocals]; done) | rfl
set_option maxRecDepth 65536 in
set_option maxHeartbeats 40000000 in
theorem rm0 (l : Launch) (Z : State) (a0 : Array Value) (hw : ∀ d ∈ tables_1, d.before a0 Z = true) (q1 : Int64) (q2 : Int64) (q3 : Int64) (q4 : Int64) (p5 : Int32) (h0 : Heap) (n0 : Nat) (Z0 : n0 ≤ h0.size)   :
    Does l Z x code maxLocals ret room_1 #[(.long q1), (.long q2), (.long q3), (.long q4), (.int p5)] h0 (fun v h L => v = some (.int 1) ∧ Fr n0 L) := by
  refine Does.body (plainFor_of_name pn_0) ?_
  intro p e s m below meth c T0 X0 hx hZ hby hml hown hnm hret hlk e0
  replace hown : s.vm.findClass "com/example/counterpath/counterpath/analysis/ZoneMayIncludePinLaw" = some m.cls := hown
  have N0 := Fr.nil n0
  refine Go.frame (ef_0 m q1 q2 q3 q4 p5) ?_
  show Go _ _ _ _ T0 (mkF m 0 #[.val (.long q1), .second, .val (.long q2), .second, .val (.long q3), .second, .val (.long q4), .second, .val (.int p5), .unset, .unset, .unset, .unset, .unset, .unset, .unset, .unset, .unset, .unset, .unset, .unset] [])
  refine Go.st (fun t k => XS.iload X0.here hx rfl (hb hby at_0) rfl k) ?_
  show Go _ _ _ _ T0 (mkF m 2 #[.val (.long q1), .second, .val (.long q2), .second, .val (.long q3), .second, .val (.long q4), .second, .val (.int p5), .unset, .unset, .unset, .unset, .unset, .unset, .unset, .unset, .unset, .unset, .unset, .unset] [(.int p5)])
  refine Go.st (fun t k => XS.iconst X0.here hx rfl (hb hby at_2) k) ?_
  show Go _ _ _ _ T0 (mkF m 3 #[.val (.long q1), .second, .val (.long q2), .second, .val (.long q3), .second, .val (.long q4), .second, .val (.int p5), .unset, .unset, .unset, .unset, .unset, .unset, .unset, .unset, .unset, .unset, .unset, .unset] [(.int (1 : Int32)), (.int p5)])
  refine Go.st (fun t k => XS.iand X0.here hx rfl (hb hby at_3) rfl k) ?_
  show Go _ _ _ _ T0 (mkF m 4 #[.val (.long q1), .second, .val (.long q2), .second, .val (.long q3), .second, .val (.long q4), .second, .val (.int p5), .unset, .unset, .unset, .unset, .unset, .unset, .unset, .unset, .unset, .unset, .unset, .unset] [(.int (p5 &&& (1 : Int32)))])
  obtain ⟨oa, ka, hoa, A0, A1, A2⟩ := own_bit p5
  rw [hoa]
  show Go _ _ _ _ T0 (mkF m 4 #[.val (.long q1), .second, .val (.long q2), .second, .val (.long q3), .second, .val (.long q4), .second, .val (.int p5), .unset, .unset, .unset, .unset, .unset, .unset, .unset, .unset, .unset, .unset, .unset, .unset] [(.int oa)])
  refine Go.st (fun t k => XS.istore X0.here hx rfl (hb hby at_4) rfl (l' := #[.val (.long q1), .second, .val (.long q2), .second, .val (.long q3), .second, .val (.long q4), .second, .val (.int p5), .val (.int oa), .unset, .unset, .unset, .unset, .unset, .unset, .unset, .unset, .unset, .unset, .unset]) rfl k) ?_
  show Go _ _ _ _ T0 (mkF m 6 #[.val (.long q1), .second, .val (.long q2), .second, .val (.long q3), .second, .val (.long q4), .second, .val (.int p5), .val (.int oa), .unset, .unset, .unset, .unset, .unset, .unset, .unset, .unset, .unset, .unset, .unset] [])
  refine Go.st (fun t k => XS.iload X0.here hx rfl (hb hby at_6) rfl k) ?_
  show Go _ _ _ _ T0 (mkF m 8 #[.val (.long q1), .second, .val (.long q2), .second, .val (.long q3), .second, .val (.long q4), .second, .val (.int p5), .val (.int oa), .unset, .unset, .unset, .unset, .unset, .unset, .unset, .unset, .unset, .unset, .unset] [(.int p5)])
  refine Go.st (fun t k => XS.iconst X0.here hx rfl (hb hby at_8) k) ?_
  show Go _ _ _ _ T0 (mkF m 9 #[.val (.long q1), .second, .val (.long q2), .second, .val (.long q3), .second, .val (.long q4), .second, .val (.int p5), .val (.int oa), .unset, .unset, .unset, .unset, .unset, .unset, .unset, .unset, .unset, .unset, .unset] [(.int (1 : Int32)), (.int p5)])
  refine Go.st (fun t k => XS.iushr X0.here hx rfl (hb hby at_9) rfl k) ?_
  show Go _ _ _ _ T0 (mkF m 10 #[.val (.long q1), .second, .val (.long q2), .second, .val (.long q3), .second, .val (.long q4), .second, .val (.int p5), .val (.int oa), .unset, .unset, .unset, .unset, .unset, .unset, .unset, .unset, .unset, .unset, .unset] [(.int ((p5.toUInt32 >>> ((1 : Int32) &&& 31).toUInt32).toInt32))])
  refine Go.st (fun t k => XS.iconst X0.here hx rfl (hb hby at_10) k) ?_
  show Go _ _ _ _ T0 (mkF m 11 #[.val (.long q1), .second, .val (.long q2), .second, .val (.long q3), .second, .val (.long q4), .second, .val (.int p5), .val (.int oa), .unset, .unset, .unset, .unset, .unset, .unset, .unset, .unset, .unset, .unset, .unset] [(.int (1 : Int32)), (.int ((p5.toUInt32 >>> ((1 : Int32) &&& 31).toUInt32).toInt32))])
  refine Go.st (fun t k => XS.iand X0.here hx rfl (hb hby at_11) rfl k) ?_
  show Go _ _ _ _ T0 (mkF m 12 #[.val (.long q1), .second, .val (.long q2), .second, .val (.long q3), .second, .val (.long q4), .second, .val (.int p5), .val (.int oa), .unset, .unset, .unset, .unset, .unset, .unset, .unset, .unset, .unset, .unset, .unset] [(.int (((p5.toUInt32 >>> ((1 : Int32) &&& 31).toUInt32).toInt32) &&& (1 : Int32)))])
  obtain ⟨ia, kb, hia, B0, B1, B2⟩ := own_bit ((p5.toUInt32 >>> ((1 : Int32) &&& 31).toUInt32).toInt32)
  rw [hia]
  show Go _ _ _ _ T0 (mkF m 12 #[.val (.long q1), .second, .val (.long q2), .second, .val (.long q3), .second, .val (.long q4), .second, .val (.int p5), .val (.int oa), .unset, .unset, .unset, .unset, .unset, .unset, .unset, .unset, .unset, .unset, .unset] [(.int ia)])
  refine Go.st (fun t k => XS.istore X0.here hx rfl (hb hby at_12) rfl (l' := #[.val (.long q1), .second, .val (.long q2), .second, .val (.long q3), .second, .val (.long q4), .second, .val (.int p5), .val (.int oa), .val (.int ia), .unset, .unset, .unset, .unset, .unset, .unset, .unset, .unset, .unset, .unset]) rfl k) ?_
  show Go _ _ _ _ T0 (mkF m 14 #[.val (.long q1), .second, .val (.long q2), .second, .val (.long q3), .second, .val (.long q4), .second, .val (.int p5), .val (.int oa), .val (.int ia), .unset, .unset, .unset, .unset, .unset, .unset, .unset, .unset, .unset, .unset] [])
  refine own_join (T := T0) (g := fun z : Int64 => (mkF m 32 #[.val (.long q1), .second, .val (.long q2), .second, .val (.long q3), .second, .val (.long q4), .second, .val (.int p5), .val (.int oa), .val (.int ia), .unset, .unset, .unset, .unset, .unset, .unset, .unset, .unset, .unset, .unset] [(.long z)])) ?_ ?_
  ·
    intro c0
    show Go _ _ _ _ T0 (mkF m 32 #[.val (.long q1), .second, .val (.long q2), .second, .val (.long q3), .second, .val (.long q4), .second, .val (.int p5), .val (.int oa), .val (.int ia), .unset, .unset, .unset, .unset, .unset, .unset, .unset, .unset, .unset, .unset] [(.long c0)])
    refine Go.st (fun t k => XS.lstore X0.here hx rfl (hb hby at_32) rfl (l' := #[.val (.long q1), .second, .val (.long q2), .second, .val (.long q3), .second, .val (.long q4), .second, .val (.int p5), .val (.int oa), .val (.int ia), .val (.long c0), .second, .unset, .unset, .unset, .unset, .unset, .unset, .unset, .unset]) rfl k) ?_
    show Go _ _ _ _ T0 (mkF m 34 #[.val (.long q1), .second, .val (.long q2), .second, .val (.long q3), .second, .val (.long q4), .second, .val (.int p5), .val (.int oa), .val (.int ia), .val (.long c0), .second, .unset, .unset, .unset, .unset, .unset, .unset, .unset, .unset] [])
    refine own_join (T := T0) (g := fun z : Int64 => (mkF m 52 #[.val (.long q1), .second, .val (.long q2), .second, .val (.long q3), .second, .val (.long q4), .second, .val (.int p5), .val (.int oa), .val (.int ia), .val (.long c0), .second, .unset, .unset, .unset, .unset, .unset, .unset, .unset, .unset] [(.long z)])) ?_ ?_
    ·
      intro c1
      show Go _ _ _ _ T0 (mkF m 52 #[.val (.long q1), .second, .val (.long q2), .second, .val (.long q3), .second, .val (.long q4), .second, .val (.int p5), .val (.int oa), .val (.int ia), .val (.long c0), .second, .unset, .unset, .unset, .unset, .unset, .unset, .unset, .unset] [(.long c1)])
      refine Go.st (fun t k => XS.lstore X0.here hx rfl (hb hby at_52) rfl (l' := #[.val (.long q1), .second, .val (.long q2), .second, .val (.long q3), .second, .val (.long q4), .second, .val (.int p5), .val (.int oa), .val (.int ia), .val (.long c0), .second, .val (.long c1), .second, .unset, .unset, .unset, .unset, .unset, .unset]) rfl k) ?_
      show Go _ _ _ _ T0 (mkF m 54 #[.val (.long q1), .second, .val (.long q2), .second, .val (.long q3), .second, .val (.long q4), .second, .val (.int p5), .val (.int oa), .val (.int ia), .val (.long c0), .second, .val (.long c1), .second, .unset, .unset, .unset, .unset, .unset, .unset] [])
      refine Go.st (fun t k => XS.iload X0.here hx rfl (hb hby at_54) rfl k) ?_
      show Go _ _ _ _ T0 (mkF m 56 #[.val (.long q1), .second, .val (.long q2), .second, .val (.long q3), .second, .val (.long q4), .second, .val (.int p5), .val (.int oa), .val (.int ia), .val (.long c0), .second, .val (.long c1), .second, .unset, .unset, .unset, .unset, .unset, .unset] [(.int p5)])
      refine Go.st (fun t k => XS.iconst X0.here hx rfl (hb hby at_56) k) ?_
      show Go _ _ _ _ T0 (mkF m 57 #[.val (.long q1), .second, .val (.long q2), .second, .val (.long q3), .second, .val (.long q4), .second, .val (.int p5), .val (.int oa), .val (.int ia), .val (.long c0), .second, .val (.long c1), .second, .unset, .unset, .unset, .unset, .unset, .unset] [(.int (4 : Int32)), (.int p5)])
      refine Go.st (fun t k => XS.iushr X0.here hx rfl (hb hby at_57) rfl k) ?_
      show Go _ _ _ _ T0 (mkF m 58 #[.val (.long q1), .second, .val (.long q2), .second, .val (.long q3), .second, .val (.long q4), .second, .val (.int p5), .val (.int oa), .val (.int ia), .val (.long c0), .second, .val (.long c1), .second, .unset, .unset, .unset, .unset, .unset, .unset] [(.int ((p5.toUInt32 >>> ((4 : Int32) &&& 31).toUInt32).toInt32))])
      refine Go.st (fun t k => XS.iconst X0.here hx rfl (hb hby at_58) k) ?_
      show Go _ _ _ _ T0 (mkF m 59 #[.val (.long q1), .second, .val (.long q2), .second, .val (.long q3), .second, .val (.long q4), .second, .val (.int p5), .val (.int oa), .val (.int ia), .val (.long c0), .second, .val (.long c1), .second, .unset, .unset, .unset, .unset, .unset, .unset] [(.int (3 : Int32)), (.int ((p5.toUInt32 >>> ((4 : Int32) &&& 31).toUInt32).toInt32))])
      refine Go.st (fun t k => XS.irem X0.here hx rfl (hb hby at_59) rfl (by decide) k) ?_
      show Go _ _ _ _ T0 (mkF m 60 #[.val (.long q1), .second, .val (.long q2), .second, .val (.long q3), .second, .val (.long q4), .second, .val (.int p5), .val (.int oa), .val (.int ia), .val (.long c0), .second, .val (.long c1), .second, .unset, .unset, .unset, .unset, .unset, .unset] [(.int (((p5.toUInt32 >>> ((4 : Int32) &&& 31).toUInt32).toInt32) - (((p5.toUInt32 >>> ((4 : Int32) &&& 31).toUInt32).toInt32) / (3 : Int32)) * (3 : Int32)))])
      obtain ⟨wd, hwd, hw3⟩ := own_w3 p5
      rw [hwd]
      show Go _ _ _ _ T0 (mkF m 60 #[.val (.long q1), .second, .val (.long q2), .second, .val (.long q3), .second, .val (.long q4), .second, .val (.int p5), .val (.int oa), .val (.int ia), .val (.long c0), .second, .val (.long c1), .second, .unset, .unset, .unset, .unset, .unset, .unset] [(.int wd)])
      refine Go.st (fun t k => XS.istore X0.here hx rfl (hb hby at_60) rfl (l' := #[.val (.long q1), .second, .val (.long q2), .second, .val (.long q3), .second, .val (.long q4), .second, .val (.int p5), .val (.int oa), .val (.int ia), .val (.long c0), .second, .val (.long c1), .second, .val (.int wd), .unset, .unset, .unset, .unset, .unset]) rfl k) ?_
      show Go _ _ _ _ T0 (mkF m 62 #[.val (.long q1), .second, .val (.long q2), .second, .val (.long q3), .second, .val (.long q4), .second, .val (.int p5), .val (.int oa), .val (.int ia), .val (.long c0), .second, .val (.long c1), .second, .val (.int wd), .unset, .unset, .unset, .unset, .unset] [])
      refine Go.st (fun t k => XS.iconst X0.here hx rfl (hb hby at_62) k) ?_
      show Go _ _ _ _ T0 (mkF m 63 #[.val (.long q1), .second, .val (.long q2), .second, .val (.long q3), .second, .val (.long q4), .second, .val (.int p5), .val (.int oa), .val (.int ia), .val (.long c0), .second, .val (.long c1), .second, .val (.int wd), .unset, .unset, .unset, .unset, .unset] [(.int (3 : Int32))])
      refine goNew X0 hx hZ (hw _ (List.mem_of_getElem? (i := 0) rfl)) e0 Z0 (by decide) (show Int32.toNatClampNeg (3 : Int32) = 3 from rfl) 3 (by decide) (by decide) (by decide) (by decide) (g := (mkF m 63 #[.val (.long q1), .second, .val (.long q2), .second, .val (.long q3), .second, .val (.long q4), .second, .val (.int p5), .val (.int oa), .val (.int ia), .val (.long c0), .second, .val (.long c1), .second, .val (.int wd), .unset, .unset, .unset, .unset, .unset] [(.int (3 : Int32))])) rfl rfl (hb hby at_63) ?_
      intro T1 h1 b1 X1 e1 E1 qz1 g_b1 Z1 V_b1
      replace V_b1 : BA Z h1 b1 .long 3 (fun _ => (.long (0 : Int64))) := V_b1
      show Go _ _ _ _ T1 (mkF m 65 #[.val (.long q1), .second, .val (.long q2), .second, .val (.long q3), .second, .val (.long q4), .second, .val (.int p5), .val (.int oa), .val (.int ia), .val (.long c0), .second, .val (.long c1), .second, .val (.int wd), .unset, .unset, .unset, .unset, .unset] [(.ref b1)])
      refine Go.st (fun t k => XS.dup X1.here hx rfl (hb hby at_65) rfl rfl k) ?_
      show Go _ _ _ _ T1 (mkF m 66 #[.val (.long q1), .second, .val (.long q2), .second, .val (.long q3), .second, .val (.long q4), .second, .val (.int p5), .val (.int oa), .val (.int ia), .val (.long c0), .second, .val (.long c1), .second, .val (.int wd), .unset, .unset, .unset, .unset, .unset] [(.ref b1), (.ref b1)])
      refine Go.st (fun t k => XS.iconst X1.here hx rfl (hb hby at_66) k) ?_
      show Go _ _ _ _ T1 (mkF m 67 #[.val (.long q1), .second, .val (.long q2), .second, .val (.long q3), .second, .val (.long q4), .second, .val (.int p5), .val (.int oa), .val (.int ia), .val (.long c0), .second, .val (.long c1), .second, .val (.int wd), .unset, .unset, .unset, .unset, .unset] [(.int (0 : Int32)), (.ref b1), (.ref b1)])
      refine Go.st (X1.ldc2Long hx hown (mvT hZ (hw _ (List.mem_of_getElem? (i := 1) rfl))) (g := (mkF m 67 #[.val (.long q1), .second, .val (.long q2), .second, .val (.long q3), .second, .val (.long q4), .second, .val (.int p5), .val (.int oa), .val (.int ia), .val (.long c0), .second, .val (.long c1), .second, .val (.int wd), .unset, .unset, .unset, .unset, .unset] [(.int (0 : Int32)), (.ref b1), (.ref b1)])) rfl (hb hby at_67)) ?_
      show Go _ _ _ _ T1 (mkF m 70 #[.val (.long q1), .second, .val (.long q2), .second, .val (.long q3), .second, .val (.long q4), .second, .val (.int p5), .val (.int oa), .val (.int ia), .val (.long c0), .second, .val (.long c1), .second, .val (.int wd), .unset, .unset, .unset, .unset, .unset] [(.long (-1 : Int64)), (.int (0 : Int32)), (.ref b1), (.ref b1)])
      refine goStJ X1 hx hZ e1 N0 V_b1 g_b1 (g := (mkF m 70 #[.val (.long q1), .second, .val (.long q2), .second, .val (.long q3), .second, .val (.long q4), .second, .val (.int p5), .val (.int oa), .val (.int ia), .val (.long c0), .second, .val (.long c1), .second, .val (.int wd), .unset, .unset, .unset, .unset, .unset] [(.long (-1 : Int64)), (.int (0 : Int32)), (.ref b1), (.ref b1)])) rfl rfl (hb hby at_70) (k := 0) ⟨by decide, rfl, by decide⟩ ?_
      intro T2 h2 L2 X2 e2 N2 W2 V_b1
      have Z2 := own_sz W2 Z1
      show Go _ _ _ _ T2 (mkF m 71 #[.val (.long q1), .second, .val (.long q2), .second, .val (.long q3), .second, .val (.long q4), .second, .val (.int p5), .val (.int oa), .val (.int ia), .val (.long c0), .second, .val (.long c1), .second, .val (.int wd), .unset, .unset, .unset, .unset, .unset] [(.ref b1)])
      refine Go.st (fun t k => XS.dup X2.here hx rfl (hb hby at_71) rfl rfl k) ?_
      show Go _ _ _ _ T2 (mkF m 72 #[.val (.long q1), .second, .val (.long q2), .second, .val (.long q3), .second, .val (.long q4), .second, .val (.int p5), .val (.int oa), .val (.int ia), .val (.long c0), .second, .val (.long c1), .second, .val (.int wd), .unset, .unset, .unset, .unset, .unset] [(.ref b1), (.ref b1)])
      refine Go.st (fun t k => XS.iconst X2.here hx rfl (hb hby at_72) k) ?_
      show Go _ _ _ _ T2 (mkF m 73 #[.val (.long q1), .second, .val (.long q2), .second, .val (.long q3), .second, .val (.long q4), .second, .val (.int p5), .val (.int oa), .val (.int ia), .val (.long c0), .second, .val (.long c1), .second, .val (.int wd), .unset, .unset, .unset, .unset, .unset] [(.int (1 : Int32)), (.ref b1), (.ref b1)])
      refine Go.st (X2.ldc2Long hx hown (mvT hZ (hw _ (List.mem_of_getElem? (i := 1) rfl))) (g := (mkF m 73 #[.val (.long q1), .second, .val (.long q2), .second, .val (.long q3), .second, .val (.long q4), .second, .val (.int p5), .val (.int oa), .val (.int ia), .val (.long c0), .second, .val (.long c1), .second, .val (.int wd), .unset, .unset, .unset, .unset, .unset] [(.int (1 : Int32)), (.ref b1), (.ref b1)])) rfl (hb hby at_73)) ?_
      show Go _ _ _ _ T2 (mkF m 76 #[.val (.long q1), .second, .val (.long q2), .second, .val (.long q3), .second, .val (.long q4), .second, .val (.int p5), .val (.int oa), .val (.int ia), .val (.long c0), .second, .val (.long c1), .second, .val (.int wd), .unset, .unset, .unset, .unset, .unset] [(.long (-1 : Int64)), (.int (1 : Int32)), (.ref b1), (.ref b1)])
      refine goStJ X2 hx hZ e2 N2 V_b1 g_b1 (g := (mkF m 76 #[.val (.long q1), .second, .val (.long q2), .second, .val (.long q3), .second, .val (.long q4), .second, .val (.int p5), .val (.int oa), .val (.int ia), .val (.long c0), .second, .val (.long c1), .second, .val (.int wd), .unset, .unset, .unset, .unset, .unset] [(.long (-1 : Int64)), (.int (1 : Int32)), (.ref b1), (.ref b1)])) rfl rfl (hb hby at_76) (k := 1) ⟨by decide, rfl, by decide⟩ ?_
      intro T3 h3 L3 X3 e3 N3 W3 V_b1
      have Z3 := own_sz W3 Z2
      show Go _ _ _ _ T3 (mkF m 77 #[.val (.long q1), .second, .val (.long q2), .second, .val (.long q3), .second, .val (.long q4), .second, .val (.int p5), .val (.int oa), .val (.int ia), .val (.long c0), .second, .val (.long c1), .second, .val (.int wd), .unset, .unset, .unset, .unset, .unset] [(.ref b1)])
      refine Go.st (fun t k => XS.dup X3.here hx rfl (hb hby at_77) rfl rfl k) ?_
      show Go _ _ _ _ T3 (mkF m 78 #[.val (.long q1), .second, .val (.long q2), .second, .val (.long q3), .second, .val (.long q4), .second, .val (.int p5), .val (.int oa), .val (.int ia), .val (.long c0), .second, .val (.long c1), .second, .val (.int wd), .unset, .unset, .unset, .unset, .unset] [(.ref b1), (.ref b1)])
      refine Go.st (fun t k => XS.iconst X3.here hx rfl (hb hby at_78) k) ?_
      show Go _ _ _ _ T3 (mkF m 79 #[.val (.long q1), .second, .val (.long q2), .second, .val (.long q3), .second, .val (.long q4), .second, .val (.int p5), .val (.int oa), .val (.int ia), .val (.long c0), .second, .val (.long c1), .second, .val (.int wd), .unset, .unset, .unset, .unset, .unset] [(.int (2 : Int32)), (.ref b1), (.ref b1)])
      refine Go.st (X3.ldc2Long hx hown (mvT hZ (hw _ (List.mem_of_getElem? (i := 1) rfl))) (g := (mkF m 79 #[.val (.long q1), .second, .val (.long q2), .second, .val (.long q3), .second, .val (.long q4), .second, .val (.int p5), .val (.int oa), .val (.int ia), .val (.long c0), .second, .val (.long c1), .second, .val (.int wd), .unset, .unset, .unset, .unset, .unset] [(.int (2 : Int32)), (.ref b1), (.ref b1)])) rfl (hb hby at_79)) ?_
      show Go _ _ _ _ T3 (mkF m 82 #[.val (.long q1), .second, .val (.long q2), .second, .val (.long q3), .second, .val (.long q4), .second, .val (.int p5), .val (.int oa), .val (.int ia), .val (.long c0), .second, .val (.long c1), .second, .val (.int wd), .unset, .unset, .unset, .unset, .unset] [(.long (-1 : Int64)), (.int (2 : Int32)), (.ref b1), (.ref b1)])
      refine goStJ X3 hx hZ e3 N3 V_b1 g_b1 (g := (mkF m 82 #[.val (.long q1), .second, .val (.long q2), .second, .val (.long q3), .second, .val (.long q4), .second, .val (.int p5), .val (.int oa), .val (.int ia), .val (.long c0), .second, .val (.long c1), .second, .val (.int wd), .unset, .unset, .unset, .unset, .unset] [(.long (-1 : Int64)), (.int (2 : Int32)), (.ref b1), (.ref b1)])) rfl rfl (hb hby at_82) (k := 2) ⟨by decide, rfl, by decide⟩ ?_
      intro T4 h4 L4 X4 e4 N4 W4 V_b1
      have Z4 := own_sz W4 Z3
      show Go _ _ _ _ T4 (mkF m 83 #[.val (.long q1), .second, .val (.long q2), .second, .val (.long q3), .second, .val (.long q4), .second, .val (.int p5), .val (.int oa), .val (.int ia), .val (.long c0), .second, .val (.long c1), .second, .val (.int wd), .unset, .unset, .unset, .unset, .unset] [(.ref b1)])
      refine Go.st (fun t k => XS.astore X4.here hx rfl (hb hby at_83) rfl rfl (l' := #[.val (.long q1), .second, .val (.long q2), .second, .val (.long q3), .second, .val (.long q4), .second, .val (.int p5), .val (.int oa), .val (.int ia), .val (.long c0), .second, .val (.long c1), .second, .val (.int wd), .val (.ref b1), .unset, .unset, .unset, .unset]) rfl k) ?_
      show Go _ _ _ _ T4 (mkF m 85 #[.val (.long q1), .second, .val (.long q2), .second, .val (.long q3), .second, .val (.long q4), .second, .val (.int p5), .val (.int oa), .val (.int ia), .val (.long c0), .second, .val (.long c1), .second, .val (.int wd), .val (.ref b1), .unset, .unset, .unset, .unset] [])
      refine Go.st (fun t k => XS.iconst X4.here hx rfl (hb hby at_85) k) ?_
      show Go _ _ _ _ T4 (mkF m 86 #[.val (.long q1), .second, .val (.long q2), .second, .val (.long q3), .second, .val (.long q4), .second, .val (.int p5), .val (.int oa), .val (.int ia), .val (.long c0), .second, .val (.long c1), .second, .val (.int wd), .val (.ref b1), .unset, .unset, .unset, .unset] [(.int (3 : Int32))])
      refine goNew X4 hx hZ (hw _ (List.mem_of_getElem? (i := 0) rfl)) e4 Z4 (by decide) (show Int32.toNatClampNeg (3 : Int32) = 3 from rfl) 3 (by decide) (by decide) (by decide) (by decide) (g := (mkF m 86 #[.val (.long q1), .second, .val (.long q2), .second, .val (.long q3), .second, .val (.long q4), .second, .val (.int p5), .val (.int oa), .val (.int ia), .val (.long c0), .second, .val (.long c1), .second, .val (.int wd), .val (.ref b1), .unset, .unset, .unset, .unset] [(.int (3 : Int32))])) rfl rfl (hb hby at_86) ?_
      intro T5 h5 b5 X5 e5 E5 qz5 g_b5 Z5 V_b5
      replace V_b5 : BA Z h5 b5 .long 3 (fun _ => (.long (0 : Int64))) := V_b5
      have ne_b1_b5 : b1 ≠ b5 := fun z => absurd V_b1.lt (by rw [z, qz5]; exact Nat.lt_irrefl _)
      have V_b1 := V_b1.ext E5
      show Go _ _ _ _ T5 (mkF m 88 #[.val (.long q1), .second, .val (.long q2), .second, .val (.long q3), .second, .val (.long q4), .second, .val (.int p5), .val (.int oa), .val (.int ia), .val (.long c0), .second, .val (.long c1), .second, .val (.int wd), .val (.ref b1), .unset, .unset, .unset, .unset] [(.ref b5)])
      refine Go.st (fun t k => XS.astore X5.here hx rfl (hb hby at_88) rfl rfl (l' := #[.val (.long q1), .second, .val (.long q2), .second, .val (.long q3), .second, .val (.long q4), .second, .val (.int p5), .val (.int oa), .val (.int ia), .val (.long c0), .second, .val (.long c1), .second, .val (.int wd), .val (.ref b1), .val (.ref b5), .unset, .unset, .unset]) rfl k) ?_
      show Go _ _ _ _ T5 (mkF m 90 #[.val (.long q1), .second, .val (.long q2), .second, .val (.long q3), .second, .val (.long q4), .second, .val (.int p5), .val (.int oa), .val (.int ia), .val (.long c0), .second, .val (.long c1), .second, .val (.int wd), .val (.ref b1), .val (.ref b5), .unset, .unset, .unset] [])
      refine Go.st (fun t k => XS.aload X5.here hx rfl (hb hby at_90) rfl rfl k) ?_
      show Go _ _ _ _ T5 (mkF m 92 #[.val (.long q1), .second, .val (.long q2), .second, .val (.long q3), .second, .val (.long q4), .second, .val (.int p5), .val (.int oa), .val (.int ia), .val (.long c0), .second, .val (.long c1), .second, .val (.int wd), .val (.ref b1), .val (.ref b5), .unset, .unset, .unset] [(.ref b1)])
      refine Go.st (fun t k => XS.iload X5.here hx rfl (hb hby at_92) rfl k) ?_
      show Go _ _ _ _ T5 (mkF m 94 #[.val (.long q1), .second, .val (.long q2), .second, .val (.long q3), .second, .val (.long q4), .second, .val (.int p5), .val (.int oa), .val (.int ia), .val (.long c0), .second, .val (.long c1), .second, .val (.int wd), .val (.ref b1), .val (.ref b5), .unset, .unset, .unset] [(.int oa), (.ref b1)])
      refine Go.st (fun t k => XS.lloadN X5.here hx rfl (hb hby at_94) rfl k) ?_
      show Go _ _ _ _ T5 (mkF m 95 #[.val (.long q1), .second, .val (.long q2), .second, .val (.long q3), .second, .val (.long q4), .second, .val (.int p5), .val (.int oa), .val (.int ia), .val (.long c0), .second, .val (.long c1), .second, .val (.int wd), .val (.ref b1), .val (.ref b5), .unset, .unset, .unset] [(.long q1), (.int oa), (.ref b1)])
      refine goStJ X5 hx hZ e5 N4 V_b1 g_b1 (g := (mkF m 95 #[.val (.long q1), .second, .val (.long q2), .second, .val (.long q3), .second, .val (.long q4), .second, .val (.int p5), .val (.int oa), .val (.int ia), .val (.long c0), .second, .val (.long c1), .second, .val (.int wd), .val (.ref b1), .val (.ref b5), .unset, .unset, .unset] [(.long q1), (.int oa), (.ref b1)])) rfl rfl (hb hby at_95) A0 ?_
      intro T6 h6 L6 X6 e6 N6 W6 V_b1
      have Z6 := own_sz W6 Z5
      have V_b5 := V_b5.other W6 (Ne.symm ne_b1_b5)
      show Go _ _ _ _ T6 (mkF m 96 #[.val (.long q1), .second, .val (.long q2), .second, .val (.long q3), .second, .val (.long q4), .second, .val (.int p5), .val (.int oa), .val (.int ia), .val (.long c0), .second, .val (.long c1), .second, .val (.int wd), .val (.ref b1), .val (.ref b5), .unset, .unset, .unset] [])
      refine Go.st (fun t k => XS.aload X6.here hx rfl (hb hby at_96) rfl rfl k) ?_
      show Go _ _ _ _ T6 (mkF m 98 #[.val (.long q1), .second, .val (.long q2), .second, .val (.long q3), .second, .val (.long q4), .second, .val (.int p5), .val (.int oa), .val (.int ia), .val (.long c0), .second, .val (.long c1), .second, .val (.int wd), .val (.ref b1), .val (.ref b5), .unset, .unset, .unset] [(.ref b1)])
      refine Go.st (fun t k => XS.iload X6.here hx rfl (hb hby at_98) rfl k) ?_
      show Go _ _ _ _ T6 (mkF m 100 #[.val (.long q1), .second, .val (.long q2), .second, .val (.long q3), .second, .val (.long q4), .second, .val (.int p5), .val (.int oa), .val (.int ia), .val (.long c0), .second, .val (.long c1), .second, .val (.int wd), .val (.ref b1), .val (.ref b5), .unset, .unset, .unset] [(.int oa), (.ref b1)])
      refine Go.st (fun t k => XS.iconst X6.here hx rfl (hb hby at_100) k) ?_
      show Go _ _ _ _ T6 (mkF m 101 #[.val (.long q1), .second, .val (.long q2), .second, .val (.long q3), .second, .val (.long q4), .second, .val (.int p5), .val (.int oa), .val (.int ia), .val (.long c0), .second, .val (.long c1), .second, .val (.int wd), .val (.ref b1), .val (.ref b5), .unset, .unset, .unset] [(.int (1 : Int32)), (.int oa), (.ref b1)])
      refine Go.st (fun t k => XS.iadd X6.here hx rfl (hb hby at_101) rfl k) ?_
      show Go _ _ _ _ T6 (mkF m 102 #[.val (.long q1), .second, .val (.long q2), .second, .val (.long q3), .second, .val (.long q4), .second, .val (.int p5), .val (.int oa), .val (.int ia), .val (.long c0), .second, .val (.long c1), .second, .val (.int wd), .val (.ref b1), .val (.ref b5), .unset, .unset, .unset] [(.int (oa + (1 : Int32))), (.ref b1)])
      refine Go.st (fun t k => XS.lloadN X6.here hx rfl (hb hby at_102) rfl k) ?_
      show Go _ _ _ _ T6 (mkF m 103 #[.val (.long q1), .second, .val (.long q2), .second, .val (.long q3), .second, .val (.long q4), .second, .val (.int p5), .val (.int oa), .val (.int ia), .val (.long c0), .second, .val (.long c1), .second, .val (.int wd), .val (.ref b1), .val (.ref b5), .unset, .unset, .unset] [(.long q2), (.int (oa + (1 : Int32))), (.ref b1)])
      refine goStJ X6 hx hZ e6 N6 V_b1 g_b1 (g := (mkF m 103 #[.val (.long q1), .second, .val (.long q2), .second, .val (.long q3), .second, .val (.long q4), .second, .val (.int p5), .val (.int oa), .val (.int ia), .val (.long c0), .second, .val (.long c1), .second, .val (.int wd), .val (.ref b1), .val (.ref b5), .unset, .unset, .unset] [(.long q2), (.int (oa + (1 : Int32))), (.ref b1)])) rfl rfl (hb hby at_103) A1 ?_
      intro T7 h7 L7 X7 e7 N7 W7 V_b1
      have Z7 := own_sz W7 Z6
      have V_b5 := V_b5.other W7 (Ne.symm ne_b1_b5)
      show Go _ _ _ _ T7 (mkF m 104 #[.val (.long q1), .second, .val (.long q2), .second, .val (.long q3), .second, .val (.long q4), .second, .val (.int p5), .val (.int oa), .val (.int ia), .val (.long c0), .second, .val (.long c1), .second, .val (.int wd), .val (.ref b1), .val (.ref b5), .unset, .unset, .unset] [])
      refine Go.st (fun t k => XS.aload X7.here hx rfl (hb hby at_104) rfl rfl k) ?_
      show Go _ _ _ _ T7 (mkF m 106 #[.val (.long q1), .second, .val (.long q2), .second, .val (.long q3), .second, .val (.long q4), .second, .val (.int p5), .val (.int oa), .val (.int ia), .val (.long c0), .second, .val (.long c1), .second, .val (.int wd), .val (.ref b1), .val (.ref b5), .unset, .unset, .unset] [(.ref b5)])
      refine Go.st (fun t k => XS.iload X7.here hx rfl (hb hby at_106) rfl k) ?_
      show Go _ _ _ _ T7 (mkF m 108 #[.val (.long q1), .second, .val (.long q2), .second, .val (.long q3), .second, .val (.long q4), .second, .val (.int p5), .val (.int oa), .val (.int ia), .val (.long c0), .second, .val (.long c1), .second, .val (.int wd), .val (.ref b1), .val (.ref b5), .unset, .unset, .unset] [(.int ia), (.ref b5)])
      refine Go.st (fun t k => XS.lload X7.here hx rfl (hb hby at_108) rfl k) ?_
      show Go _ _ _ _ T7 (mkF m 110 #[.val (.long q1), .second, .val (.long q2), .second, .val (.long q3), .second, .val (.long q4), .second, .val (.int p5), .val (.int oa), .val (.int ia), .val (.long c0), .second, .val (.long c1), .second, .val (.int wd), .val (.ref b1), .val (.ref b5), .unset, .unset, .unset] [(.long c0), (.int ia), (.ref b5)])
      refine goStJ X7 hx hZ e7 N7 V_b5 g_b5 (g := (mkF m 110 #[.val (.long q1), .second, .val (.long q2), .second, .val (.long q3), .second, .val (.long q4), .second, .val (.int p5), .val (.int oa), .val (.int ia), .val (.long c0), .second, .val (.long c1), .second, .val (.int wd), .val (.ref b1), .val (.ref b5), .unset, .unset, .unset] [(.long c0), (.int ia), (.ref b5)])) rfl rfl (hb hby at_110) B0 ?_
      intro T8 h8 L8 X8 e8 N8 W8 V_b5
      have Z8 := own_sz W8 Z7
      have V_b1 := V_b1.other W8 ne_b1_b5
      show Go _ _ _ _ T8 (mkF m 111 #[.val (.long q1), .second, .val (.long q2), .second, .val (.long q3), .second, .val (.long q4), .second, .val (.int p5), .val (.int oa), .val (.int ia), .val (.long c0), .second, .val (.long c1), .second, .val (.int wd), .val (.ref b1), .val (.ref b5), .unset, .unset, .unset] [])
      refine Go.st (fun t k => XS.aload X8.here hx rfl (hb hby at_111) rfl rfl k) ?_
      show Go _ _ _ _ T8 (mkF m 113 #[.val (.long q1), .second, .val (.long q2), .second, .val (.long q3), .second, .val (.long q4), .second, .val (.int p5), .val (.int oa), .val (.int ia), .val (.long c0), .second, .val (.long c1), .second, .val (.int wd), .val (.ref b1), .val (.ref b5), .unset, .unset, .unset] [(.ref b5)])
      refine Go.st (fun t k => XS.iload X8.here hx rfl (hb hby at_113) rfl k) ?_
      show Go _ _ _ _ T8 (mkF m 115 #[.val (.long q1), .second, .val (.long q2), .second, .val (.long q3), .second, .val (.long q4), .second, .val (.int p5), .val (.int oa), .val (.int ia), .val (.long c0), .second, .val (.long c1), .second, .val (.int wd), .val (.ref b1), .val (.ref b5), .unset, .unset, .unset] [(.int ia), (.ref b5)])
      refine Go.st (fun t k => XS.iconst X8.here hx rfl (hb hby at_115) k) ?_
      show Go _ _ _ _ T8 (mkF m 116 #[.val (.long q1), .second, .val (.long q2), .second, .val (.long q3), .second, .val (.long q4), .second, .val (.int p5), .val (.int oa), .val (.int ia), .val (.long c0), .second, .val (.long c1), .second, .val (.int wd), .val (.ref b1), .val (.ref b5), .unset, .unset, .unset] [(.int (1 : Int32)), (.int ia), (.ref b5)])
      refine Go.st (fun t k => XS.iadd X8.here hx rfl (hb hby at_116) rfl k) ?_
      show Go _ _ _ _ T8 (mkF m 117 #[.val (.long q1), .second, .val (.long q2), .second, .val (.long q3), .second, .val (.long q4), .second, .val (.int p5), .val (.int oa), .val (.int ia), .val (.long c0), .second, .val (.long c1), .second, .val (.int wd), .val (.ref b1), .val (.ref b5), .unset, .unset, .unset] [(.int (ia + (1 : Int32))), (.ref b5)])
      refine Go.st (fun t k => XS.lload X8.here hx rfl (hb hby at_117) rfl k) ?_
      show Go _ _ _ _ T8 (mkF m 119 #[.val (.long q1), .second, .val (.long q2), .second, .val (.long q3), .second, .val (.long q4), .second, .val (.int p5), .val (.int oa), .val (.int ia), .val (.long c0), .second, .val (.long c1), .second, .val (.int wd), .val (.ref b1), .val (.ref b5), .unset, .unset, .unset] [(.long c1), (.int (ia + (1 : Int32))), (.ref b5)])
      refine goStJ X8 hx hZ e8 N8 V_b5 g_b5 (g := (mkF m 119 #[.val (.long q1), .second, .val (.long q2), .second, .val (.long q3), .second, .val (.long q4), .second, .val (.int p5), .val (.int oa), .val (.int ia), .val (.long c0), .second, .val (.long c1), .second, .val (.int wd), .val (.ref b1), .val (.ref b5), .unset, .unset, .unset] [(.long c1), (.int (ia + (1 : Int32))), (.ref b5)])) rfl rfl (hb hby at_119) B1 ?_
      intro T9 h9 L9 X9 e9 N9 W9 V_b5
      have Z9 := own_sz W9 Z8
      have V_b1 := V_b1.other W9 ne_b1_b5
      show Go _ _ _ _ T9 (mkF m 120 #[.val (.long q1), .second, .val (.long q2), .second, .val (.long q3), .second, .val (.long q4), .second, .val (.int p5), .val (.int oa), .val (.int ia), .val (.long c0), .second, .val (.long c1), .second, .val (.int wd), .val (.ref b1), .val (.ref b5), .unset, .unset, .unset] [])
      refine Go.st (fun t k => XS.lloadN X9.here hx rfl (hb hby at_120) rfl k) ?_
      show Go _ _ _ _ T9 (mkF m 121 #[.val (.long q1), .second, .val (.long q2), .second, .val (.long q3), .second, .val (.long q4), .second, .val (.int p5), .val (.int oa), .val (.int ia), .val (.long c0), .second, .val (.long c1), .second, .val (.int wd), .val (.ref b1), .val (.ref b5), .unset, .unset, .unset] [(.long q1)])
      refine Go.st (fun t k => XS.lload X9.here hx rfl (hb hby at_121) rfl k) ?_
      show Go _ _ _ _ T9 (mkF m 123 #[.val (.long q1), .second, .val (.long q2), .second, .val (.long q3), .second, .val (.long q4), .second, .val (.int p5), .val (.int oa), .val (.int ia), .val (.long c0), .second, .val (.long c1), .second, .val (.int wd), .val (.ref b1), .val (.ref b5), .unset, .unset, .unset] [(.long c0), (.long q1)])
      refine Go.st (fun t k => XS.lor X9.here hx rfl (hb hby at_123) rfl k) ?_
      show Go _ _ _ _ T9 (mkF m 124 #[.val (.long q1), .second, .val (.long q2), .second, .val (.long q3), .second, .val (.long q4), .second, .val (.int p5), .val (.int oa), .val (.int ia), .val (.long c0), .second, .val (.long c1), .second, .val (.int wd), .val (.ref b1), .val (.ref b5), .unset, .unset, .unset] [(.long (q1 ||| c0))])
      refine Go.st (fun t k => XS.lload X9.here hx rfl (hb hby at_124) rfl k) ?_
      show Go _ _ _ _ T9 (mkF m 126 #[.val (.long q1), .second, .val (.long q2), .second, .val (.long q3), .second, .val (.long q4), .second, .val (.int p5), .val (.int oa), .val (.int ia), .val (.long c0), .second, .val (.long c1), .second, .val (.int wd), .val (.ref b1), .val (.ref b5), .unset, .unset, .unset] [(.long c0), (.long (q1 ||| c0))])
      refine Go.st (fun t k => XS.lcmp X9.here hx rfl (hb hby at_126) rfl k) ?_
      show Go _ _ _ _ T9 (mkF m 127 #[.val (.long q1), .second, .val (.long q2), .second, .val (.long q3), .second, .val (.long q4), .second, .val (.int p5), .val (.int oa), .val (.int ia), .val (.long c0), .second, .val (.long c1), .second, .val (.int wd), .val (.ref b1), .val (.ref b5), .unset, .unset, .unset] [(.int (lcmpW (q1 ||| c0) c0))])
      by_cases hs0 : (lcmpW (q1 ||| c0) c0) = (0 : Int32)
      ·
        refine Go.st (fun t k => XS.ifNo X9.here hx rfl (hb hby at_127) rfl ((if0 _ _).trans (teq hs0).2) k) ?_
        show Go _ _ _ _ T9 (mkF m 130 #[.val (.long q1), .second, .val (.long q2), .second, .val (.long q3), .second, .val (.long q4), .second, .val (.int p5), .val (.int oa), .val (.int ia), .val (.long c0), .second, .val (.long c1), .second, .val (.int wd), .val (.ref b1), .val (.ref b5), .unset, .unset, .unset] [])
        refine Go.st (fun t k => XS.iconst X9.here hx rfl (hb hby at_130) k) ?_
        show Go _ _ _ _ T9 (mkF m 131 #[.val (.long q1), .second, .val (.long q2), .second, .val (.long q3), .second, .val (.long q4), .second, .val (.int p5), .val (.int oa), .val (.int ia), .val (.long c0), .second, .val (.long c1), .second, .val (.int wd), .val (.ref b1), .val (.ref b5), .unset, .unset, .unset] [(.int (1 : Int32))])
        refine Go.st (fun t k => XS.goto X9.here hx rfl (pc0 := 131) (pc' := 135) rfl (hb hby at_131) (by decide) (by decide) k) ?_
        show Go _ _ _ _ T9 (mkF m 135 #[.val (.long q1), .second, .val (.long q2), .second, .val (.long q3), .second, .val (.long q4), .second, .val (.int p5), .val (.int oa), .val (.int ia), .val (.long c0), .second, .val (.long c1), .second, .val (.int wd), .val (.ref b1), .val (.ref b5), .unset, .unset, .unset] [(.int (1 : Int32))])
        refine Go.st (fun t k => XS.istore X9.here hx rfl (hb hby at_135) rfl (l' := #[.val (.long q1), .second, .val (.long q2), .second, .val (.long q3), .second, .val (.long q4), .second, .val (.int p5), .val (.int oa), .val (.int ia), .val (.long c0), .second, .val (.long c1), .second, .val (.int wd), .val (.ref b1), .val (.ref b5), .val (.int (1 : Int32)), .unset, .unset]) rfl k) ?_
        show Go _ _ _ _ T9 (mkF m 137 #[.val (.long q1), .second, .val (.long q2), .second, .val (.long q3), .second, .val (.long q4), .second, .val (.int p5), .val (.int oa), .val (.int ia), .val (.long c0), .second, .val (.long c1), .second, .val (.int wd), .val (.ref b1), .val (.ref b5), .val (.int (1 : Int32)), .unset, .unset] [])
        refine Go.st (fun t k => XS.lloadN X9.here hx rfl (hb hby at_137) rfl k) ?_
        show Go _ _ _ _ T9 (mkF m 138 #[.val (.long q1), .second, .val (.long q2), .second, .val (.long q3), .second, .val (.long q4), .second, .val (.int p5), .val (.int oa), .val (.int ia), .val (.long c0), .second, .val (.long c1), .second, .val (.int wd), .val (.ref b1), .val (.ref b5), .val (.int (1 : Int32)), .unset, .unset] [(.long q2)])
        refine Go.st (fun t k => XS.lload X9.here hx rfl (hb hby at_138) rfl k) ?_
        show Go _ _ _ _ T9 (mkF m 140 #[.val (.long q1), .second, .val (.long q2), .second, .val (.long q3), .second, .val (.long q4), .second, .val (.int p5), .val (.int oa), .val (.int ia), .val (.long c0), .second, .val (.long c1), .second, .val (.int wd), .val (.ref b1), .val (.ref b5), .val (.int (1 : Int32)), .unset, .unset] [(.long c1), (.long q2)])
        refine Go.st (fun t k => XS.lor X9.here hx rfl (hb hby at_140) rfl k) ?_
        show Go _ _ _ _ T9 (mkF m 141 #[.val (.long q1), .second, .val (.long q2), .second, .val (.long q3), .second, .val (.long q4), .second, .val (.int p5), .val (.int oa), .val (.int ia), .val (.long c0), .second, .val (.long c1), .second, .val (.int wd), .val (.ref b1), .val (.ref b5), .val (.int (1 : Int32)), .unset, .unset] [(.long (q2 ||| c1))])
        refine Go.st (fun t k => XS.lload X9.here hx rfl (hb hby at_141) rfl k) ?_
        show Go _ _ _ _ T9 (mkF m 143 #[.val (.long q1), .second, .val (.long q2), .second, .val (.long q3), .second, .val (.long q4), .second, .val (.int p5), .val (.int oa), .val (.int ia), .val (.long c0), .second, .val (.long c1), .second, .val (.int wd), .val (.ref b1), .val (.ref b5), .val (.int (1 : Int32)), .unset, .unset] [(.long c1), (.long (q2 ||| c1))])
        refine Go.st (fun t k => XS.lcmp X9.here hx rfl (hb hby at_143) rfl k) ?_
        show Go _ _ _ _ T9 (mkF m 144 #[.val (.long q1), .second, .val (.long q2), .second, .val (.long q3), .second, .val (.long q4), .second, .val (.int p5), .val (.int oa), .val (.int ia), .val (.long c0), .second, .val (.long c1), .second, .val (.int wd), .val (.ref b1), .val (.ref b5), .val (.int (1 : Int32)), .unset, .unset] [(.int (lcmpW (q2 ||| c1) c1))])
        by_cases hs1 : (lcmpW (q2 ||| c1) c1) = (0 : Int32)
        ·
          refine Go.st (fun t k => XS.ifNo X9.here hx rfl (hb hby at_144) rfl ((if0 _ _).trans (teq hs1).2) k) ?_
          show Go _ _ _ _ T9 (mkF m 147 #[.val (.long q1), .second, .val (.long q2), .second, .val (.long q3), .second, .val (.long q4), .second, .val (.int p5), .val (.int oa), .val (.int ia), .val (.long c0), .second, .val (.long c1), .second, .val (.int wd), .val (.ref b1), .val (.ref b5), .val (.int (1 : Int32)), .unset, .unset] [])
          refine Go.st (fun t k => XS.iconst X9.here hx rfl (hb hby at_147) k) ?_
          show Go _ _ _ _ T9 (mkF m 148 #[.val (.long q1), .second, .val (.long q2), .second, .val (.long q3), .second, .val (.long q4), .second, .val (.int p5), .val (.int oa), .val (.int ia), .val (.long c0), .second, .val (.long c1), .second, .val (.int wd), .val (.ref b1), .val (.ref b5), .val (.int (1 : Int32)), .unset, .unset] [(.int (1 : Int32))])
          refine Go.st (fun t k => XS.goto X9.here hx rfl (pc0 := 148) (pc' := 152) rfl (hb hby at_148) (by decide) (by decide) k) ?_
          show Go _ _ _ _ T9 (mkF m 152 #[.val (.long q1), .second, .val (.long q2), .second, .val (.long q3), .second, .val (.long q4), .second, .val (.int p5), .val (.int oa), .val (.int ia), .val (.long c0), .second, .val (.long c1), .second, .val (.int wd), .val (.ref b1), .val (.ref b5), .val (.int (1 : Int32)), .unset, .unset] [(.int (1 : Int32))])
          refine Go.st (fun t k => XS.istore X9.here hx rfl (hb hby at_152) rfl (l' := #[.val (.long q1), .second, .val (.long q2), .second, .val (.long q3), .second, .val (.long q4), .second, .val (.int p5), .val (.int oa), .val (.int ia), .val (.long c0), .second, .val (.long c1), .second, .val (.int wd), .val (.ref b1), .val (.ref b5), .val (.int (1 : Int32)), .val (.int (1 : Int32)), .unset]) rfl k) ?_
          show Go _ _ _ _ T9 (mkF m 154 #[.val (.long q1), .second, .val (.long q2), .second, .val (.long q3), .second, .val (.long q4), .second, .val (.int p5), .val (.int oa), .val (.int ia), .val (.long c0), .second, .val (.long c1), .second, .val (.int wd), .val (.ref b1), .val (.ref b5), .val (.int (1 : Int32)), .val (.int (1 : Int32)), .unset] [])
          rcases hw3 with rfl | rfl | rfl
          ·
            show Go _ _ _ _ T9 (mkF m 154 #[.val (.long q1), .second, .val (.long q2), .second, .val (.long q3), .second, .val (.long q4), .second, .val (.int p5), .val (.int oa), .val (.int ia), .val (.long c0), .second, .val (.long c1), .second, .val (.int (0 : Int32)), .val (.ref b1), .val (.ref b5), .val (.int (1 : Int32)), .val (.int (1 : Int32)), .unset] [])
            show Go _ _ _ _ T9 (mkF m 154 #[.val (.long q1), .second, .val (.long q2), .second, .val (.long q3), .second, .val (.long q4), .second, .val (.int p5), .val (.int oa), .val (.int ia), .val (.long c0), .second, .val (.long c1), .second, .val (.int (0 : Int32)), .val (.ref b1), .val (.ref b5), .val (.int (1 : Int32)), .val (.int (1 : Int32)), .unset] [])
            refine Go.st (fun t k => XS.iload X9.here hx rfl (hb hby at_154) rfl k) ?_
            show Go _ _ _ _ T9 (mkF m 156 #[.val (.long q1), .second, .val (.long q2), .second, .val (.long q3), .second, .val (.long q4), .second, .val (.int p5), .val (.int oa), .val (.int ia), .val (.long c0), .second, .val (.long c1), .second, .val (.int (0 : Int32)), .val (.ref b1), .val (.ref b5), .val (.int (1 : Int32)), .val (.int (1 : Int32)), .unset] [(.int (0 : Int32))])
            refine Go.st (fun t k => XS.ifYes X9.here hx rfl (pc0 := 156) (pc' := 175) rfl (hb hby at_156) rfl (by decide) (by decide) (by decide) k) ?_
            show Go _ _ _ _ T9 (mkF m 175 #[.val (.long q1), .second, .val (.long q2), .second, .val (.long q3), .second, .val (.long q4), .second, .val (.int p5), .val (.int oa), .val (.int ia), .val (.long c0), .second, .val (.long c1), .second, .val (.int (0 : Int32)), .val (.ref b1), .val (.ref b5), .val (.int (1 : Int32)), .val (.int (1 : Int32)), .unset] [])
            refine Go.st (fun t k => XS.iconst X9.here hx rfl (hb hby at_175) k) ?_
            show Go _ _ _ _ T9 (mkF m 176 #[.val (.long q1), .second, .val (.long q2), .second, .val (.long q3), .second, .val (.long q4), .second, .val (.int p5), .val (.int oa), .val (.int ia), .val (.long c0), .second, .val (.long c1), .second, .val (.int (0 : Int32)), .val (.ref b1), .val (.ref b5), .val (.int (1 : Int32)), .val (.int (1 : Int32)), .unset] [(.int (1 : Int32))])
            refine Go.st (fun t k => XS.goto X9.here hx rfl (pc0 := 176) (pc' := 180) rfl (hb hby at_176) (by decide) (by decide) k) ?_
            show Go _ _ _ _ T9 (mkF m 180 #[.val (.long q1), .second, .val (.long q2), .second, .val (.long q3), .second, .val (.long q4), .second, .val (.int p5), .val (.int oa), .val (.int ia), .val (.long c0), .second, .val (.long c1), .second, .val (.int (0 : Int32)), .val (.ref b1), .val (.ref b5), .val (.int (1 : Int32)), .val (.int (1 : Int32)), .unset] [(.int (1 : Int32))])
            refine Go.st (fun t k => XS.istore X9.here hx rfl (hb hby at_180) rfl (l' := #[.val (.long q1), .second, .val (.long q2), .second, .val (.long q3), .second, .val (.long q4), .second, .val (.int p5), .val (.int oa), .val (.int ia), .val (.long c0), .second, .val (.long c1), .second, .val (.int (0 : Int32)), .val (.ref b1), .val (.ref b5), .val (.int (1 : Int32)), .val (.int (1 : Int32)), .val (.int (1 : Int32))]) rfl k) ?_
            show Go _ _ _ _ T9 (mkF m 182 #[.val (.long q1), .second, .val (.long q2), .second, .val (.long q3), .second, .val (.long q4), .second, .val (.int p5), .val (.int oa), .val (.int ia), .val (.long c0), .second, .val (.long c1), .second, .val (.int (0 : Int32)), .val (.ref b1), .val (.ref b5), .val (.int (1 : Int32)), .val (.int (1 : Int32)), .val (.int (1 : Int32))] [])
            refine Go.st (fun t k => XS.aload X9.here hx rfl (hb hby at_182) rfl rfl k) ?_
            show Go _ _ _ _ T9 (mkF m 184 #[.val (.long q1), .second, .val (.long q2), .second, .val (.long q3), .second, .val (.long q4), .second, .val (.int p5), .val (.int oa), .val (.int ia), .val (.long c0), .second, .val (.long c1), .second, .val (.int (0 : Int32)), .val (.ref b1), .val (.ref b5), .val (.int (1 : Int32)), .val (.int (1 : Int32)), .val (.int (1 : Int32))] [(.ref b1)])
            refine Go.st (fun t k => XS.iload X9.here hx rfl (hb hby at_184) rfl k) ?_
            show Go _ _ _ _ T9 (mkF m 186 #[.val (.long q1), .second, .val (.long q2), .second, .val (.long q3), .second, .val (.long q4), .second, .val (.int p5), .val (.int oa), .val (.int ia), .val (.long c0), .second, .val (.long c1), .second, .val (.int (0 : Int32)), .val (.ref b1), .val (.ref b5), .val (.int (1 : Int32)), .val (.int (1 : Int32)), .val (.int (1 : Int32))] [(.int oa), (.ref b1)])
            refine Go.st (fun t k => XS.aload X9.here hx rfl (hb hby at_186) rfl rfl k) ?_
            show Go _ _ _ _ T9 (mkF m 188 #[.val (.long q1), .second, .val (.long q2), .second, .val (.long q3), .second, .val (.long q4), .second, .val (.int p5), .val (.int oa), .val (.int ia), .val (.long c0), .second, .val (.long c1), .second, .val (.int (0 : Int32)), .val (.ref b1), .val (.ref b5), .val (.int (1 : Int32)), .val (.int (1 : Int32)), .val (.int (1 : Int32))] [(.ref b5), (.int oa), (.ref b1)])
            refine Go.st (fun t k => XS.iload X9.here hx rfl (hb hby at_188) rfl k) ?_
            show Go _ _ _ _ T9 (mkF m 190 #[.val (.long q1), .second, .val (.long q2), .second, .val (.long q3), .second, .val (.long q4), .second, .val (.int p5), .val (.int oa), .val (.int ia), .val (.long c0), .second, .val (.long c1), .second, .val (.int (0 : Int32)), .val (.ref b1), .val (.ref b5), .val (.int (1 : Int32)), .val (.int (1 : Int32)), .val (.int (1 : Int32))] [(.int ia), (.ref b5), (.int oa), (.ref b1)])
            refine Go.st (fun t k => XS.iload X9.here hx rfl (hb hby at_190) rfl k) ?_
            show Go _ _ _ _ T9 (mkF m 192 #[.val (.long q1), .second, .val (.long q2), .second, .val (.long q3), .second, .val (.long q4), .second, .val (.int p5), .val (.int oa), .val (.int ia), .val (.long c0), .second, .val (.long c1), .second, .val (.int (0 : Int32)), .val (.ref b1), .val (.ref b5), .val (.int (1 : Int32)), .val (.int (1 : Int32)), .val (.int (1 : Int32))] [(.int (0 : Int32)), (.int ia), (.ref b5), (.int oa), (.ref b1)])
            refine goS X9 hx hZ (y := (⟨"com/example/counterpath/counterpath/analysis/Zone", "mayInclude", "([JI[JII)Z"⟩ : MethodName)) hown (hw _ (List.mem_of_getElem? (i := 2) rfl)) (hw _ (List.mem_of_getElem? (i := 3) rfl)) (hw _ (List.mem_of_getElem? (i := 4) rfl)) (hw _ (List.mem_of_getElem? (i := 5) rfl)) (by decide) (rm1 l Z a0 hw b1 oa b5 ia (0 : Int32) h9 n0 Z9 ka kb 3 _ _ q1 q2 c0 c1 (by decide) V_b1 V_b5 A2 A1 B2 B1 (by simp) (by simp) (by simp) (by simp)) e9 N9 0 (by decide) (by decide) (by decide) (by decide) (g := (mkF m 192 #[.val (.long q1), .second, .val (.long q2), .second, .val (.long q3), .second, .val (.long q4), .second, .val (.int p5), .val (.int oa), .val (.int ia), .val (.long c0), .second, .val (.long c1), .second, .val (.int (0 : Int32)), .val (.ref b1), .val (.ref b5), .val (.int (1 : Int32)), .val (.int (1 : Int32)), .val (.int (1 : Int32))] [(.int (0 : Int32)), (.int ia), (.ref b5), (.int oa), (.ref b1)])) rfl (by rw [hml]; rfl) [(.ref b1), (.int oa), (.ref b5), (.int ia), (.int (0 : Int32))] [] (lenOf pd0_0 rfl) rfl rfl (by show 2 * 0 + _ ≤ _; exact Nat.le_of_eq rfl) (hb hby at_192) ?_
            intro T12 v12 L12 M12 X12 N12 hq12
            obtain ⟨hq12, N12q, e12⟩ := hq12
            replace N12 := N12 N12q
            rcases hq12 with ⟨hr12, rfl⟩ | ⟨hr12, rfl⟩
            ·
              show Go _ _ _ _ T12 (mkF m 195 #[.val (.long q1), .second, .val (.long q2), .second, .val (.long q3), .second, .val (.long q4), .second, .val (.int p5), .val (.int oa), .val (.int ia), .val (.long c0), .second, .val (.long c1), .second, .val (.int (0 : Int32)), .val (.ref b1), .val (.ref b5), .val (.int (1 : Int32)), .val (.int (1 : Int32)), .val (.int (1 : Int32))] [(.int (1 : Int32))])
              refine Go.st (fun t k => XS.iload X12.here hx rfl (hb hby at_195) rfl k) ?_
              show Go _ _ _ _ T12 (mkF m 197 #[.val (.long q1), .second, .val (.long q2), .second, .val (.long q3), .second, .val (.long q4), .second, .val (.int p5), .val (.int oa), .val (.int ia), .val (.long c0), .second, .val (.long c1), .second, .val (.int (0 : Int32)), .val (.ref b1), .val (.ref b5), .val (.int (1 : Int32)), .val (.int (1 : Int32)), .val (.int (1 : Int32))] [(.int (1 : Int32)), (.int (1 : Int32))])
              refine Go.st (fun t k => XS.icmpNo X12.here hx rfl (hb hby at_197) rfl (by decide) k) ?_
              show Go _ _ _ _ T12 (mkF m 200 #[.val (.long q1), .second, .val (.long q2), .second, .val (.long q3), .second, .val (.long q4), .second, .val (.int p5), .val (.int oa), .val (.int ia), .val (.long c0), .second, .val (.long c1), .second, .val (.int (0 : Int32)), .val (.ref b1), .val (.ref b5), .val (.int (1 : Int32)), .val (.int (1 : Int32)), .val (.int (1 : Int32))] [])
              refine Go.st (fun t k => XS.iconst X12.here hx rfl (hb hby at_200) k) ?_
              show Go _ _ _ _ T12 (mkF m 201 #[.val (.long q1), .second, .val (.long q2), .second, .val (.long q3), .second, .val (.long q4), .second, .val (.int p5), .val (.int oa), .val (.int ia), .val (.long c0), .second, .val (.long c1), .second, .val (.int (0 : Int32)), .val (.ref b1), .val (.ref b5), .val (.int (1 : Int32)), .val (.int (1 : Int32)), .val (.int (1 : Int32))] [(.int (1 : Int32))])
              refine Go.st (fun t k => XS.goto X12.here hx rfl (pc0 := 201) (pc' := 205) rfl (hb hby at_201) (by decide) (by decide) k) ?_
              show Go _ _ _ _ T12 (mkF m 205 #[.val (.long q1), .second, .val (.long q2), .second, .val (.long q3), .second, .val (.long q4), .second, .val (.int p5), .val (.int oa), .val (.int ia), .val (.long c0), .second, .val (.long c1), .second, .val (.int (0 : Int32)), .val (.ref b1), .val (.ref b5), .val (.int (1 : Int32)), .val (.int (1 : Int32)), .val (.int (1 : Int32))] [(.int (1 : Int32))])
              exact goN X12 hx hret hlk (by simp) (hb hby at_205) (by decide) (by decide) ⟨rfl, N12⟩
            ·
              exact absurd ⟨fun q => absurd q (by decide), fun q => absurd q (by decide)⟩ hr12
          ·
            show Go _ _ _ _ T9 (mkF m 154 #[.val (.long q1), .second, .val (.long q2), .second, .val (.long q3), .second, .val (.long q4), .second, .val (.int p5), .val (.int oa), .val (.int ia), .val (.long c0), .second, .val (.long c1), .second, .val (.int (1 : Int32)), .val (.ref b1), .val (.ref b5), .val (.int (1 : Int32)), .val (.int (1 : Int32)), .unset] [])
            show Go _ _ _ _ T9 (mkF m 154 #[.val (.long q1), .second, .val (.long q2), .second, .val (.long q3), .second, .val (.long q4), .second, .val (.int p5), .val (.int oa), .val (.int ia), .val (.long c0), .second, .val (.long c1), .second, .val (.int (1 : Int32)), .val (.ref b1), .val (.ref b5), .val (.int (1 : Int32)), .val (.int (1 : Int32)), .unset] [])
            refine Go.st (fun t k => XS.iload X9.here hx rfl (hb hby at_154) rfl k) ?_
            show Go _ _ _ _ T9 (mkF m 156 #[.val (.long q1), .second, .val (.long q2), .second, .val (.long q3), .second, .val (.long q4), .second, .val (.int p5), .val (.int oa), .val (.int ia), .val (.long c0), .second, .val (.long c1), .second, .val (.int (1 : Int32)), .val (.ref b1), .val (.ref b5), .val (.int (1 : Int32)), .val (.int (1 : Int32)), .unset] [(.int (1 : Int32))])
            refine Go.st (fun t k => XS.ifNo X9.here hx rfl (hb hby at_156) rfl (by decide) k) ?_
            show Go _ _ _ _ T9 (mkF m 159 #[.val (.long q1), .second, .val (.long q2), .second, .val (.long q3), .second, .val (.long q4), .second, .val (.int p5), .val (.int oa), .val (.int ia), .val (.long c0), .second, .val (.long c1), .second, .val (.int (1 : Int32)), .val (.ref b1), .val (.ref b5), .val (.int (1 : Int32)), .val (.int (1 : Int32)), .unset] [])
            refine Go.st (fun t k => XS.iload X9.here hx rfl (hb hby at_159) rfl k) ?_
            show Go _ _ _ _ T9 (mkF m 161 #[.val (.long q1), .second, .val (.long q2), .second, .val (.long q3), .second, .val (.long q4), .second, .val (.int p5), .val (.int oa), .val (.int ia), .val (.long c0), .second, .val (.long c1), .second, .val (.int (1 : Int32)), .val (.ref b1), .val (.ref b5), .val (.int (1 : Int32)), .val (.int (1 : Int32)), .unset] [(.int (1 : Int32))])
            refine Go.st (fun t k => XS.ifNo X9.here hx rfl (hb hby at_161) rfl (by decide) k) ?_
            show Go _ _ _ _ T9 (mkF m 164 #[.val (.long q1), .second, .val (.long q2), .second, .val (.long q3), .second, .val (.long q4), .second, .val (.int p5), .val (.int oa), .val (.int ia), .val (.long c0), .second, .val (.long c1), .second, .val (.int (1 : Int32)), .val (.ref b1), .val (.ref b5), .val (.int (1 : Int32)), .val (.int (1 : Int32)), .unset] [])
            refine Go.st (fun t k => XS.iload X9.here hx rfl (hb hby at_164) rfl k) ?_
            show Go _ _ _ _ T9 (mkF m 166 #[.val (.long q1), .second, .val (.long q2), .second, .val (.long q3), .second, .val (.long q4), .second, .val (.int p5), .val (.int oa), .val (.int ia), .val (.long c0), .second, .val (.long c1), .second, .val (.int (1 : Int32)), .val (.ref b1), .val (.ref b5), .val (.int (1 : Int32)), .val (.int (1 : Int32)), .unset] [(.int (1 : Int32))])
            refine Go.st (fun t k => XS.iconst X9.here hx rfl (hb hby at_166) k) ?_
            show Go _ _ _ _ T9 (mkF m 167 #[.val (.long q1), .second, .val (.long q2), .second, .val (.long q3), .second, .val (.long q4), .second, .val (.int p5), .val (.int oa), .val (.int ia), .val (.long c0), .second, .val (.long c1), .second, .val (.int (1 : Int32)), .val (.ref b1), .val (.ref b5), .val (.int (1 : Int32)), .val (.int (1 : Int32)), .unset] [(.int (1 : Int32)), (.int (1 : Int32))])
            refine Go.st (fun t k => XS.icmpYes X9.here hx rfl (pc0 := 167) (pc' := 175) rfl (hb hby at_167) rfl (by decide) (by decide) (by decide) k) ?_
            show Go _ _ _ _ T9 (mkF m 175 #[.val (.long q1), .second, .val (.long q2), .second, .val (.long q3), .second, .val (.long q4), .second, .val (.int p5), .val (.int oa), .val (.int ia), .val (.long c0), .second, .val (.long c1), .second, .val (.int (1 : Int32)), .val (.ref b1), .val (.ref b5), .val (.int (1 : Int32)), .val (.int (1 : Int32)), .unset] [])
            refine Go.st (fun t k => XS.iconst X9.here hx rfl (hb hby at_175) k) ?_
            show Go _ _ _ _ T9 (mkF m 176 #[.val (.long q1), .second, .val (.long q2), .second, .val (.long q3), .second, .val (.long q4), .second, .val (.int p5), .val (.int oa), .val (.int ia), .val (.long c0), .second, .val (.long c1), .second, .val (.int (1 : Int32)), .val (.ref b1), .val (.ref b5), .val (.int (1 : Int32)), .val (.int (1 : Int32)), .unset] [(.int (1 : Int32))])
            refine Go.st (fun t k => XS.goto X9.here hx rfl (pc0 := 176) (pc' := 180) rfl (hb hby at_176) (by decide) (by decide) k) ?_
            show Go _ _ _ _ T9 (mkF m 180 #[.val (.long q1), .second, .val (.long q2), .second, .val (.long q3), .second, .val (.long q4), .second, .val (.int p5), .val (.int oa), .val (.int ia), .val (.long c0), .second, .val (.long c1), .second, .val (.int (1 : Int32)), .val (.ref b1), .val (.ref b5), .val (.int (1 : Int32)), .val (.int (1 : Int32)), .unset] [(.int (1 : Int32))])
            refine Go.st (fun t k => XS.istore X9.here hx rfl (hb hby at_180) rfl (l' := #[.val (.long q1), .second, .val (.long q2), .second, .val (.long q3), .second, .val (.long q4), .second, .val (.int p5), .val (.int oa), .val (.int ia), .val (.long c0), .second, .val (.long c1), .second, .val (.int (1 : Int32)), .val (.ref b1), .val (.ref b5), .val (.int (1 : Int32)), .val (.int (1 : Int32)), .val (.int (1 : Int32))]) rfl k) ?_
            show Go _ _ _ _ T9 (mkF m 182 #[.val (.long q1), .second, .val (.long q2), .second, .val (.long q3), .second, .val (.long q4), .second, .val (.int p5), .val (.int oa), .val (.int ia), .val (.long c0), .second, .val (.long c1), .second, .val (.int (1 : Int32)), .val (.ref b1), .val (.ref b5), .val (.int (1 : Int32)), .val (.int (1 : Int32)), .val (.int (1 : Int32))] [])
            refine Go.st (fun t k => XS.aload X9.here hx rfl (hb hby at_182) rfl rfl k) ?_
            show Go _ _ _ _ T9 (mkF m 184 #[.val (.long q1), .second, .val (.long q2), .second, .val (.long q3), .second, .val (.long q4), .second, .val (.int p5), .val (.int oa), .val (.int ia), .val (.long c0), .second, .val (.long c1), .second, .val (.int (1 : Int32)), .val (.ref b1), .val (.ref b5), .val (.int (1 : Int32)), .val (.int (1 : Int32)), .val (.int (1 : Int32))] [(.ref b1)])
            refine Go.st (fun t k => XS.iload X9.here hx rfl (hb hby at_184) rfl k) ?_
            show Go _ _ _ _ T9 (mkF m 186 #[.val (.long q1), .second, .val (.long q2), .second, .val (.long q3), .second, .val (.long q4), .second, .val (.int p5), .val (.int oa), .val (.int ia), .val (.long c0), .second, .val (.long c1), .second, .val (.int (1 : Int32)), .val (.ref b1), .val (.ref b5), .val (.int (1 : Int32)), .val (.int (1 : Int32)), .val (.int (1 : Int32))] [(.int oa), (.ref b1)])
            refine Go.st (fun t k => XS.aload X9.here hx rfl (hb hby at_186) rfl rfl k) ?_
            show Go _ _ _ _ T9 (mkF m 188 #[.val (.long q1), .second, .val (.long q2), .second, .val (.long q3), .second, .val (.long q4), .second, .val (.int p5), .val (.int oa), .val (.int ia), .val (.long c0), .second, .val (.long c1), .second, .val (.int (1 : Int32)), .val (.ref b1), .val (.ref b5), .val (.int (1 : Int32)), .val (.int (1 : Int32)), .val (.int (1 : Int32))] [(.ref b5), (.int oa), (.ref b1)])
            refine Go.st (fun t k => XS.iload X9.here hx rfl (hb hby at_188) rfl k) ?_
            show Go _ _ _ _ T9 (mkF m 190 #[.val (.long q1), .second, .val (.long q2), .second, .val (.long q3), .second, .val (.long q4), .second, .val (.int p5), .val (.int oa), .val (.int ia), .val (.long c0), .second, .val (.long c1), .second, .val (.int (1 : Int32)), .val (.ref b1), .val (.ref b5), .val (.int (1 : Int32)), .val (.int (1 : Int32)), .val (.int (1 : Int32))] [(.int ia), (.ref b5), (.int oa), (.ref b1)])
            refine Go.st (fun t k => XS.iload X9.here hx rfl (hb hby at_190) rfl k) ?_
            show Go _ _ _ _ T9 (mkF m 192 #[.val (.long q1), .second, .val (.long q2), .second, .val (.long q3), .second, .val (.long q4), .second, .val (.int p5), .val (.int oa), .val (.int ia), .val (.long c0), .second, .val (.long c1), .second, .val (.int (1 : Int32)), .val (.ref b1), .val (.ref b5), .val (.int (1 : Int32)), .val (.int (1 : Int32)), .val (.int (1 : Int32))] [(.int (1 : Int32)), (.int ia), (.ref b5), (.int oa), (.ref b1)])
            refine goS X9 hx hZ (y := (⟨"com/example/counterpath/counterpath/analysis/Zone", "mayInclude", "([JI[JII)Z"⟩ : MethodName)) hown (hw _ (List.mem_of_getElem? (i := 2) rfl)) (hw _ (List.mem_of_getElem? (i := 3) rfl)) (hw _ (List.mem_of_getElem? (i := 4) rfl)) (hw _ (List.mem_of_getElem? (i := 5) rfl)) (by decide) (rm1 l Z a0 hw b1 oa b5 ia (1 : Int32) h9 n0 Z9 ka kb 3 _ _ q1 q2 c0 c1 (by decide) V_b1 V_b5 A2 A1 B2 B1 (by simp) (by simp) (by simp) (by simp)) e9 N9 0 (by decide) (by decide) (by decide) (by decide) (g := (mkF m 192 #[.val (.long q1), .second, .val (.long q2), .second, .val (.long q3), .second, .val (.long q4), .second, .val (.int p5), .val (.int oa), .val (.int ia), .val (.long c0), .second, .val (.long c1), .second, .val (.int (1 : Int32)), .val (.ref b1), .val (.ref b5), .val (.int (1 : Int32)), .val (.int (1 : Int32)), .val (.int (1 : Int32))] [(.int (1 : Int32)), (.int ia), (.ref b5), (.int oa), (.ref b1)])) rfl (by rw [hml]; rfl) [(.ref b1), (.int oa), (.ref b5), (.int ia), (.int (1 : Int32))] [] (lenOf pd0_0 rfl) rfl rfl (by show 2 * 0 + _ ≤ _; exact Nat.le_of_eq rfl) (hb hby at_192) ?_
            intro T13 v13 L13 M13 X13 N13 hq13
            obtain ⟨hq13, N13q, e13⟩ := hq13
            replace N13 := N13 N13q
            rcases hq13 with ⟨hr13, rfl⟩ | ⟨hr13, rfl⟩
            ·
              show Go _ _ _ _ T13 (mkF m 195 #[.val (.long q1), .second, .val (.long q2), .second, .val (.long q3), .second, .val (.long q4), .second, .val (.int p5), .val (.int oa), .val (.int ia), .val (.long c0), .second, .val (.long c1), .second, .val (.int (1 : Int32)), .val (.ref b1), .val (.ref b5), .val (.int (1 : Int32)), .val (.int (1 : Int32)), .val (.int (1 : Int32))] [(.int (1 : Int32))])
              refine Go.st (fun t k => XS.iload X13.here hx rfl (hb hby at_195) rfl k) ?_
              show Go _ _ _ _ T13 (mkF m 197 #[.val (.long q1), .second, .val (.long q2), .second, .val (.long q3), .second, .val (.long q4), .second, .val (.int p5), .val (.int oa), .val (.int ia), .val (.long c0), .second, .val (.long c1), .second, .val (.int (1 : Int32)), .val (.ref b1), .val (.ref b5), .val (.int (1 : Int32)), .val (.int (1 : Int32)), .val (.int (1 : Int32))] [(.int (1 : Int32)), (.int (1 : Int32))])
              refine Go.st (fun t k => XS.icmpNo X13.here hx rfl (hb hby at_197) rfl (by decide) k) ?_
              show Go _ _ _ _ T13 (mkF m 200 #[.val (.long q1), .second, .val (.long q2), .second, .val (.long q3), .second, .val (.long q4), .second, .val (.int p5), .val (.int oa), .val (.int ia), .val (.long c0), .second, .val (.long c1), .second, .val (.int (1 : Int32)), .val (.ref b1), .val (.ref b5), .val (.int (1 : Int32)), .val (.int (1 : Int32)), .val (.int (1 : Int32))] [])
              refine Go.st (fun t k => XS.iconst X13.here hx rfl (hb hby at_200) k) ?_
              show Go _ _ _ _ T13 (mkF m 201 #[.val (.long q1), .second, .val (.long q2), .second, .val (.long q3), .second, .val (.long q4), .second, .val (.int p5), .val (.int oa), .val (.int ia), .val (.long c0), .second, .val (.long c1), .second, .val (.int (1 : Int32)), .val (.ref b1), .val (.ref b5), .val (.int (1 : Int32)), .val (.int (1 : Int32)), .val (.int (1 : Int32))] [(.int (1 : Int32))])
              refine Go.st (fun t k => XS.goto X13.here hx rfl (pc0 := 201) (pc' := 205) rfl (hb hby at_201) (by decide) (by decide) k) ?_
              show Go _ _ _ _ T13 (mkF m 205 #[.val (.long q1), .second, .val (.long q2), .second, .val (.long q3), .second, .val (.long q4), .second, .val (.int p5), .val (.int oa), .val (.int ia), .val (.long c0), .second, .val (.long c1), .second, .val (.int (1 : Int32)), .val (.ref b1), .val (.ref b5), .val (.int (1 : Int32)), .val (.int (1 : Int32)), .val (.int (1 : Int32))] [(.int (1 : Int32))])
              exact goN X13 hx hret hlk (by simp) (hb hby at_205) (by decide) (by decide) ⟨rfl, N13⟩
            ·
              exact absurd ⟨fun _ => (own_sub _ _).mpr ((lw_eq _ _).mp hs0), fun q => absurd q (by decide)⟩ hr13
          ·
            show Go _ _ _ _ T9 (mkF m 154 #[.val (.long q1), .second, .val (.long q2), .second, .val (.long q3), .second, .val (.long q4), .second, .val (.int p5), .val (.int oa), .val (.int ia), .val (.long c0), .second, .val (.long c1), .second, .val (.int (2 : Int32)), .val (.ref b1), .val (.ref b5), .val (.int (1 : Int32)), .val (.int (1 : Int32)), .unset] [])
            show Go _ _ _ _ T9 (mkF m 154 #[.val (.long q1), .second, .val (.long q2), .second, .val (.long q3), .second, .val (.long q4), .second, .val (.int p5), .val (.int oa), .val (.int ia), .val (.long c0), .second, .val (.long c1), .second, .val (.int (2 : Int32)), .val (.ref b1), .val (.ref b5), .val (.int (1 : Int32)), .val (.int (1 : Int32)), .unset] [])
            refine Go.st (fun t k => XS.iload X9.here hx rfl (hb hby at_154) rfl k) ?_
            show Go _ _ _ _ T9 (mkF m 156 #[.val (.long q1), .second, .val (.long q2), .second, .val (.long q3), .second, .val (.long q4), .second, .val (.int p5), .val (.int oa), .val (.int ia), .val (.long c0), .second, .val (.long c1), .second, .val (.int (2 : Int32)), .val (.ref b1), .val (.ref b5), .val (.int (1 : Int32)), .val (.int (1 : Int32)), .unset] [(.int (2 : Int32))])
            refine Go.st (fun t k => XS.ifNo X9.here hx rfl (hb hby at_156) rfl (by decide) k) ?_
            show Go _ _ _ _ T9 (mkF m 159 #[.val (.long q1), .second, .val (.long q2), .second, .val (.long q3), .second, .val (.long q4), .second, .val (.int p5), .val (.int oa), .val (.int ia), .val (.long c0), .second, .val (.long c1), .second, .val (.int (2 : Int32)), .val (.ref b1), .val (.ref b5), .val (.int (1 : Int32)), .val (.int (1 : Int32)), .unset] [])
            refine Go.st (fun t k => XS.iload X9.here hx rfl (hb hby at_159) rfl k) ?_
            show Go _ _ _ _ T9 (mkF m 161 #[.val (.long q1), .second, .val (.long q2), .second, .val (.long q3), .second, .val (.long q4), .second, .val (.int p5), .val (.int oa), .val (.int ia), .val (.long c0), .second, .val (.long c1), .second, .val (.int (2 : Int32)), .val (.ref b1), .val (.ref b5), .val (.int (1 : Int32)), .val (.int (1 : Int32)), .unset] [(.int (1 : Int32))])
            refine Go.st (fun t k => XS.ifNo X9.here hx rfl (hb hby at_161) rfl (by decide) k) ?_
            show Go _ _ _ _ T9 (mkF m 164 #[.val (.long q1), .second, .val (.long q2), .second, .val (.long q3), .second, .val (.long q4), .second, .val (.int p5), .val (.int oa), .val (.int ia), .val (.long c0), .second, .val (.long c1), .second, .val (.int (2 : Int32)), .val (.ref b1), .val (.ref b5), .val (.int (1 : Int32)), .val (.int (1 : Int32)), .unset] [])
            refine Go.st (fun t k => XS.iload X9.here hx rfl (hb hby at_164) rfl k) ?_
            show Go _ _ _ _ T9 (mkF m 166 #[.val (.long q1), .second, .val (.long q2), .second, .val (.long q3), .second, .val (.long q4), .second, .val (.int p5), .val (.int oa), .val (.int ia), .val (.long c0), .second, .val (.long c1), .second, .val (.int (2 : Int32)), .val (.ref b1), .val (.ref b5), .val (.int (1 : Int32)), .val (.int (1 : Int32)), .unset] [(.int (2 : Int32))])
            refine Go.st (fun t k => XS.iconst X9.here hx rfl (hb hby at_166) k) ?_
            show Go _ _ _ _ T9 (mkF m 167 #[.val (.long q1), .second, .val (.long q2), .second, .val (.long q3), .second, .val (.long q4), .second, .val (.int p5), .val (.int oa), .val (.int ia), .val (.long c0), .second, .val (.long c1), .second, .val (.int (2 : Int32)), .val (.ref b1), .val (.ref b5), .val (.int (1 : Int32)), .val (.int (1 : Int32)), .unset] [(.int (1 : Int32)), (.int (2 : Int32))])
            refine Go.st (fun t k => XS.icmpNo X9.here hx rfl (hb hby at_167) rfl (by decide) k) ?_
            show Go _ _ _ _ T9 (mkF m 170 #[.val (.long q1), .second, .val (.long q2), .second, .val (.long q3), .second, .val (.long q4), .second, .val (.int p5), .val (.int oa), .val (.int ia), .val (.long c0), .second, .val (.long c1), .second, .val (.int (2 : Int32)), .val (.ref b1), .val (.ref b5), .val (.int (1 : Int32)), .val (.int (1 : Int32)), .unset] [])
            refine Go.st (fun t k => XS.iload X9.here hx rfl (hb hby at_170) rfl k) ?_
            show Go _ _ _ _ T9 (mkF m 172 #[.val (.long q1), .second, .val (.long q2), .second, .val (.long q3), .second, .val (.long q4), .second, .val (.int p5), .val (.int oa), .val (.int ia), .val (.long c0), .second, .val (.long c1), .second, .val (.int (2 : Int32)), .val (.ref b1), .val (.ref b5), .val (.int (1 : Int32)), .val (.int (1 : Int32)), .unset] [(.int (1 : Int32))])
            refine Go.st (fun t k => XS.ifNo X9.here hx rfl (hb hby at_172) rfl (by decide) k) ?_
            show Go _ _ _ _ T9 (mkF m 175 #[.val (.long q1), .second, .val (.long q2), .second, .val (.long q3), .second, .val (.long q4), .second, .val (.int p5), .val (.int oa), .val (.int ia), .val (.long c0), .second, .val (.long c1), .second, .val (.int (2 : Int32)), .val (.ref b1), .val (.ref b5), .val (.int (1 : Int32)), .val (.int (1 : Int32)), .unset] [])
            refine Go.st (fun t k => XS.iconst X9.here hx rfl (hb hby at_175) k) ?_
            show Go _ _ _ _ T9 (mkF m 176 #[.val (.long q1), .second, .val (.long q2), .second, .val (.long q3), .second, .val (.long q4), .second, .val (.int p5), .val (.int oa), .val (.int ia), .val (.long c0), .second, .val (.long c1), .second, .val (.int (2 : Int32)), .val (.ref b1), .val (.ref b5), .val (.int (1 : Int32)), .val (.int (1 : Int32)), .unset] [(.int (1 : Int32))])
            refine Go.st (fun t k => XS.goto X9.here hx rfl (pc0 := 176) (pc' := 180) rfl (hb hby at_176) (by decide) (by decide) k) ?_
            show Go _ _ _ _ T9 (mkF m 180 #[.val (.long q1), .second, .val (.long q2), .second, .val (.long q3), .second, .val (.long q4), .second, .val (.int p5), .val (.int oa), .val (.int ia), .val (.long c0), .second, .val (.long c1), .second, .val (.int (2 : Int32)), .val (.ref b1), .val (.ref b5), .val (.int (1 : Int32)), .val (.int (1 : Int32)), .unset] [(.int (1 : Int32))])
            refine Go.st (fun t k => XS.istore X9.here hx rfl (hb hby at_180) rfl (l' := #[.val (.long q1), .second, .val (.long q2), .second, .val (.long q3), .second, .val (.long q4), .second, .val (.int p5), .val (.int oa), .val (.int ia), .val (.long c0), .second, .val (.long c1), .second, .val (.int (2 : Int32)), .val (.ref b1), .val (.ref b5), .val (.int (1 : Int32)), .val (.int (1 : Int32)), .val (.int (1 : Int32))]) rfl k) ?_
            show Go _ _ _ _ T9 (mkF m 182 #[.val (.long q1), .second, .val (.long q2), .second, .val (.long q3), .second, .val (.long q4), .second, .val (.int p5), .val (.int oa), .val (.int ia), .val (.long c0), .second, .val (.long c1), .second, .val (.int (2 : Int32)), .val (.ref b1), .val (.ref b5), .val (.int (1 : Int32)), .val (.int (1 : Int32)), .val (.int (1 : Int32))] [])
            refine Go.st (fun t k => XS.aload X9.here hx rfl (hb hby at_182) rfl rfl k) ?_
            show Go _ _ _ _ T9 (mkF m 184 #[.val (.long q1), .second, .val (.long q2), .second, .val (.long q3), .second, .val (.long q4), .second, .val (.int p5), .val (.int oa), .val (.int ia), .val (.long c0), .second, .val (.long c1), .second, .val (.int (2 : Int32)), .val (.ref b1), .val (.ref b5), .val (.int (1 : Int32)), .val (.int (1 : Int32)), .val (.int (1 : Int32))] [(.ref b1)])
            refine Go.st (fun t k => XS.iload X9.here hx rfl (hb hby at_184) rfl k) ?_
            show Go _ _ _ _ T9 (mkF m 186 #[.val (.long q1), .second, .val (.long q2), .second, .val (.long q3), .second, .val (.long q4), .second, .val (.int p5), .val (.int oa), .val (.int ia), .val (.long c0), .second, .val (.long c1), .second, .val (.int (2 : Int32)), .val (.ref b1), .val (.ref b5), .val (.int (1 : Int32)), .val (.int (1 : Int32)), .val (.int (1 : Int32))] [(.int oa), (.ref b1)])
            refine Go.st (fun t k => XS.aload X9.here hx rfl (hb hby at_186) rfl rfl k) ?_
            show Go _ _ _ _ T9 (mkF m 188 #[.val (.long q1), .second, .val (.long q2), .second, .val (.long q3), .second, .val (.long q4), .second, .val (.int p5), .val (.int oa), .val (.int ia), .val (.long c0), .second, .val (.long c1), .second, .val (.int (2 : Int32)), .val (.ref b1), .val (.ref b5), .val (.int (1 : Int32)), .val (.int (1 : Int32)), .val (.int (1 : Int32))] [(.ref b5), (.int oa), (.ref b1)])
            refine Go.st (fun t k => XS.iload X9.here hx rfl (hb hby at_188) rfl k) ?_
            show Go _ _ _ _ T9 (mkF m 190 #[.val (.long q1), .second, .val (.long q2), .second, .val (.long q3), .second, .val (.long q4), .second, .val (.int p5), .val (.int oa), .val (.int ia), .val (.long c0), .second, .val (.long c1), .second, .val (.int (2 : Int32)), .val (.ref b1), .val (.ref b5), .val (.int (1 : Int32)), .val (.int (1 : Int32)), .val (.int (1 : Int32))] [(.int ia), (.ref b5), (.int oa), (.ref b1)])
            refine Go.st (fun t k => XS.iload X9.here hx rfl (hb hby at_190) rfl k) ?_
            show Go _ _ _ _ T9 (mkF m 192 #[.val (.long q1), .second, .val (.long q2), .second, .val (.long q3), .second, .val (.long q4), .second, .val (.int p5), .val (.int oa), .val (.int ia), .val (.long c0), .second, .val (.long c1), .second, .val (.int (2 : Int32)), .val (.ref b1), .val (.ref b5), .val (.int (1 : Int32)), .val (.int (1 : Int32)), .val (.int (1 : Int32))] [(.int (2 : Int32)), (.int ia), (.ref b5), (.int oa), (.ref b1)])
            refine goS X9 hx hZ (y := (⟨"com/example/counterpath/counterpath/analysis/Zone", "mayInclude", "([JI[JII)Z"⟩ : MethodName)) hown (hw _ (List.mem_of_getElem? (i := 2) rfl)) (hw _ (List.mem_of_getElem? (i := 3) rfl)) (hw _ (List.mem_of_getElem? (i := 4) rfl)) (hw _ (List.mem_of_getElem? (i := 5) rfl)) (by decide) (rm1 l Z a0 hw b1 oa b5 ia (2 : Int32) h9 n0 Z9 ka kb 3 _ _ q1 q2 c0 c1 (by decide) V_b1 V_b5 A2 A1 B2 B1 (by simp) (by simp) (by simp) (by simp)) e9 N9 0 (by decide) (by decide) (by decide) (by decide) (g := (mkF m 192 #[.val (.long q1), .second, .val (.long q2), .second, .val (.long q3), .second, .val (.long q4), .second, .val (.int p5), .val (.int oa), .val (.int ia), .val (.long c0), .second, .val (.long c1), .second, .val (.int (2 : Int32)), .val (.ref b1), .val (.ref b5), .val (.int (1 : Int32)), .val (.int (1 : Int32)), .val (.int (1 : Int32))] [(.int (2 : Int32)), (.int ia), (.ref b5), (.int oa), (.ref b1)])) rfl (by rw [hml]; rfl) [(.ref b1), (.int oa), (.ref b5), (.int ia), (.int (2 : Int32))] [] (lenOf pd0_0 rfl) rfl rfl (by show 2 * 0 + _ ≤ _; exact Nat.le_of_eq rfl) (hb hby at_192) ?_
            intro T14 v14 L14 M14 X14 N14 hq14
            obtain ⟨hq14, N14q, e14⟩ := hq14
            replace N14 := N14 N14q
            rcases hq14 with ⟨hr14, rfl⟩ | ⟨hr14, rfl⟩
            ·
              show Go _ _ _ _ T14 (mkF m 195 #[.val (.long q1), .second, .val (.long q2), .second, .val (.long q3), .second, .val (.long q4), .second, .val (.int p5), .val (.int oa), .val (.int ia), .val (.long c0), .second, .val (.long c1), .second, .val (.int (2 : Int32)), .val (.ref b1), .val (.ref b5), .val (.int (1 : Int32)), .val (.int (1 : Int32)), .val (.int (1 : Int32))] [(.int (1 : Int32))])
              refine Go.st (fun t k => XS.iload X14.here hx rfl (hb hby at_195) rfl k) ?_
              show Go _ _ _ _ T14 (mkF m 197 #[.val (.long q1), .second, .val (.long q2), .second, .val (.long q3), .second, .val (.long q4), .second, .val (.int p5), .val (.int oa), .val (.int ia), .val (.long c0), .second, .val (.long c1), .second, .val (.int (2 : Int32)), .val (.ref b1), .val (.ref b5), .val (.int (1 : Int32)), .val (.int (1 : Int32)), .val (.int (1 : Int32))] [(.int (1 : Int32)), (.int (1 : Int32))])
              refine Go.st (fun t k => XS.icmpNo X14.here hx rfl (hb hby at_197) rfl (by decide) k) ?_
              show Go _ _ _ _ T14 (mkF m 200 #[.val (.long q1), .second, .val (.long q2), .second, .val (.long q3), .second, .val (.long q4), .second, .val (.int p5), .val (.int oa), .val (.int ia), .val (.long c0), .second, .val (.long c1), .second, .val (.int (2 : Int32)), .val (.ref b1), .val (.ref b5), .val (.int (1 : Int32)), .val (.int (1 : Int32)), .val (.int (1 : Int32))] [])
              refine Go.st (fun t k => XS.iconst X14.here hx rfl (hb hby at_200) k) ?_
              show Go _ _ _ _ T14 (mkF m 201 #[.val (.long q1), .second, .val (.long q2), .second, .val (.long q3), .second, .val (.long q4), .second, .val (.int p5), .val (.int oa), .val (.int ia), .val (.long c0), .second, .val (.long c1), .second, .val (.int (2 : Int32)), .val (.ref b1), .val (.ref b5), .val (.int (1 : Int32)), .val (.int (1 : Int32)), .val (.int (1 : Int32))] [(.int (1 : Int32))])
              refine Go.st (fun t k => XS.goto X14.here hx rfl (pc0 := 201) (pc' := 205) rfl (hb hby at_201) (by decide) (by decide) k) ?_
              show Go _ _ _ _ T14 (mkF m 205 #[.val (.long q1), .second, .val (.long q2), .second, .val (.long q3), .second, .val (.long q4), .second, .val (.int p5), .val (.int oa), .val (.int ia), .val (.long c0), .second, .val (.long c1), .second, .val (.int (2 : Int32)), .val (.ref b1), .val (.ref b5), .val (.int (1 : Int32)), .val (.int (1 : Int32)), .val (.int (1 : Int32))] [(.int (1 : Int32))])
              exact goN X14 hx hret hlk (by simp) (hb hby at_205) (by decide) (by decide) ⟨rfl, N14⟩
            ·
              exact absurd ⟨fun _ => (own_sub _ _).mpr ((lw_eq _ _).mp hs0), fun _ => (own_sub _ _).mpr ((lw_eq _ _).mp hs1)⟩ hr14
        ·
          refine Go.st (fun t k => XS.ifYes X9.here hx rfl (pc0 := 144) (pc' := 151) rfl (hb hby at_144) rfl ((if0 _ _).trans (feq hs1).2) (by decide) (by decide) k) ?_
          show Go _ _ _ _ T9 (mkF m 151 #[.val (.long q1), .second, .val (.long q2), .second, .val (.long q3), .second, .val (.long q4), .second, .val (.int p5), .val (.int oa), .val (.int ia), .val (.long c0), .second, .val (.long c1), .second, .val (.int wd), .val (.ref b1), .val (.ref b5), .val (.int (1 : Int32)), .unset, .unset] [])
          refine Go.st (fun t k => XS.iconst X9.here hx rfl (hb hby at_151) k) ?_
          show Go _ _ _ _ T9 (mkF m 152 #[.val (.long q1), .second, .val (.long q2), .second, .val (.long q3), .second, .val (.long q4), .second, .val (.int p5), .val (.int oa), .val (.int ia), .val (.long c0), .second, .val (.long c1), .second, .val (.int wd), .val (.ref b1), .val (.ref b5), .val (.int (1 : Int32)), .unset, .unset] [(.int (0 : Int32))])
          refine Go.st (fun t k => XS.istore X9.here hx rfl (hb hby at_152) rfl (l' := #[.val (.long q1), .second, .val (.long q2), .second, .val (.long q3), .second, .val (.long q4), .second, .val (.int p5), .val (.int oa), .val (.int ia), .val (.long c0), .second, .val (.long c1), .second, .val (.int wd), .val (.ref b1), .val (.ref b5), .val (.int (1 : Int32)), .val (.int (0 : Int32)), .unset]) rfl k) ?_
          show Go _ _ _ _ T9 (mkF m 154 #[.val (.long q1), .second, .val (.long q2), .second, .val (.long q3), .second, .val (.long q4), .second, .val (.int p5), .val (.int oa), .val (.int ia), .val (.long c0), .second, .val (.long c1), .second, .val (.int wd), .val (.ref b1), .val (.ref b5), .val (.int (1 : Int32)), .val (.int (0 : Int32)), .unset] [])
          rcases hw3 with rfl | rfl | rfl
          ·
            show Go _ _ _ _ T9 (mkF m 154 #[.val (.long q1), .second, .val (.long q2), .second, .val (.long q3), .second, .val (.long q4), .second, .val (.int p5), .val (.int oa), .val (.int ia), .val (.long c0), .second, .val (.long c1), .second, .val (.int (0 : Int32)), .val (.ref b1), .val (.ref b5), .val (.int (1 : Int32)), .val (.int (0 : Int32)), .unset] [])
            show Go _ _ _ _ T9 (mkF m 154 #[.val (.long q1), .second, .val (.long q2), .second, .val (.long q3), .second, .val (.long q4), .second, .val (.int p5), .val (.int oa), .val (.int ia), .val (.long c0), .second, .val (.long c1), .second, .val (.int (0 : Int32)), .val (.ref b1), .val (.ref b5), .val (.int (1 : Int32)), .val (.int (0 : Int32)), .unset] [])
            refine Go.st (fun t k => XS.iload X9.here hx rfl (hb hby at_154) rfl k) ?_
            show Go _ _ _ _ T9 (mkF m 156 #[.val (.long q1), .second, .val (.long q2), .second, .val (.long q3), .second, .val (.long q4), .second, .val (.int p5), .val (.int oa), .val (.int ia), .val (.long c0), .second, .val (.long c1), .second, .val (.int (0 : Int32)), .val (.ref b1), .val (.ref b5), .val (.int (1 : Int32)), .val (.int (0 : Int32)), .unset] [(.int (0 : Int32))])
            refine Go.st (fun t k => XS.ifYes X9.here hx rfl (pc0 := 156) (pc' := 175) rfl (hb hby at_156) rfl (by decide) (by decide) (by decide) k) ?_
            show Go _ _ _ _ T9 (mkF m 175 #[.val (.long q1), .second, .val (.long q2), .second, .val (.long q3), .second, .val (.long q4), .second, .val (.int p5), .val (.int oa), .val (.int ia), .val (.long c0), .second, .val (.long c1), .second, .val (.int (0 : Int32)), .val (.ref b1), .val (.ref b5), .val (.int (1 : Int32)), .val (.int (0 : Int32)), .unset] [])
            refine Go.st (fun t k => XS.iconst X9.here hx rfl (hb hby at_175) k) ?_
            show Go _ _ _ _ T9 (mkF m 176 #[.val (.long q1), .second, .val (.long q2), .second, .val (.long q3), .second, .val (.long q4), .second, .val (.int p5), .val (.int oa), .val (.int ia), .val (.long c0), .second, .val (.long c1), .second, .val (.int (0 : Int32)), .val (.ref b1), .val (.ref b5), .val (.int (1 : Int32)), .val (.int (0 : Int32)), .unset] [(.int (1 : Int32))])
            refine Go.st (fun t k => XS.goto X9.here hx rfl (pc0 := 176) (pc' := 180) rfl (hb hby at_176) (by decide) (by decide) k) ?_
            show Go _ _ _ _ T9 (mkF m 180 #[.val (.long q1), .second, .val (.long q2), .second, .val (.long q3), .second, .val (.long q4), .second, .val (.int p5), .val (.int oa), .val (.int ia), .val (.long c0), .second, .val (.long c1), .second, .val (.int (0 : Int32)), .val (.ref b1), .val (.ref b5), .val (.int (1 : Int32)), .val (.int (0 : Int32)), .unset] [(.int (1 : Int32))])
            refine Go.st (fun t k => XS.istore X9.here hx rfl (hb hby at_180) rfl (l' := #[.val (.long q1), .second, .val (.long q2), .second, .val (.long q3), .second, .val (.long q4), .second, .val (.int p5), .val (.int oa), .val (.int ia), .val (.long c0), .second, .val (.long c1), .second, .val (.int (0 : Int32)), .val (.ref b1), .val (.ref b5), .val (.int (1 : Int32)), .val (.int (0 : Int32)), .val (.int (1 : Int32))]) rfl k) ?_
            show Go _ _ _ _ T9 (mkF m 182 #[.val (.long q1), .second, .val (.long q2), .second, .val (.long q3), .second, .val (.long q4), .second, .val (.int p5), .val (.int oa), .val (.int ia), .val (.long c0), .second, .val (.long c1), .second, .val (.int (0 : Int32)), .val (.ref b1), .val (.ref b5), .val (.int (1 : Int32)), .val (.int (0 : Int32)), .val (.int (1 : Int32))] [])
            refine Go.st (fun t k => XS.aload X9.here hx rfl (hb hby at_182) rfl rfl k) ?_
            show Go _ _ _ _ T9 (mkF m 184 #[.val (.long q1), .second, .val (.long q2), .second, .val (.long q3), .second, .val (.long q4), .second, .val (.int p5), .val (.int oa), .val (.int ia), .val (.long c0), .second, .val (.long c1), .second, .val (.int (0 : Int32)), .val (.ref b1), .val (.ref b5), .val (.int (1 : Int32)), .val (.int (0 : Int32)), .val (.int (1 : Int32))] [(.ref b1)])
            refine Go.st (fun t k => XS.iload X9.here hx rfl (hb hby at_184) rfl k) ?_
            show Go _ _ _ _ T9 (mkF m 186 #[.val (.long q1), .second, .val (.long q2), .second, .val (.long q3), .second, .val (.long q4), .second, .val (.int p5), .val (.int oa), .val (.int ia), .val (.long c0), .second, .val (.long c1), .second, .val (.int (0 : Int32)), .val (.ref b1), .val (.ref b5), .val (.int (1 : Int32)), .val (.int (0 : Int32)), .val (.int (1 : Int32))] [(.int oa), (.ref b1)])
            refine Go.st (fun t k => XS.aload X9.here hx rfl (hb hby at_186) rfl rfl k) ?_
            show Go _ _ _ _ T9 (mkF m 188 #[.val (.long q1), .second, .val (.long q2), .second, .val (.long q3), .second, .val (.long q4), .second, .val (.int p5), .val (.int oa), .val (.int ia), .val (.long c0), .second, .val (.long c1), .second, .val (.int (0 : Int32)), .val (.ref b1), .val (.ref b5), .val (.int (1 : Int32)), .val (.int (0 : Int32)), .val (.int (1 : Int32))] [(.ref b5), (.int oa), (.ref b1)])
            refine Go.st (fun t k => XS.iload X9.here hx rfl (hb hby at_188) rfl k) ?_
            show Go _ _ _ _ T9 (mkF m 190 #[.val (.long q1), .second, .val (.long q2), .second, .val (.long q3), .second, .val (.long q4), .second, .val (.int p5), .val (.int oa), .val (.int ia), .val (.long c0), .second, .val (.long c1), .second, .val (.int (0 : Int32)), .val (.ref b1), .val (.ref b5), .val (.int (1 : Int32)), .val (.int (0 : Int32)), .val (.int (1 : Int32))] [(.int ia), (.ref b5), (.int oa), (.ref b1)])
            refine Go.st (fun t k => XS.iload X9.here hx rfl (hb hby at_190) rfl k) ?_
            show Go _ _ _ _ T9 (mkF m 192 #[.val (.long q1), .second, .val (.long q2), .second, .val (.long q3), .second, .val (.long q4), .second, .val (.int p5), .val (.int oa), .val (.int ia), .val (.long c0), .second, .val (.long c1), .second, .val (.int (0 : Int32)), .val (.ref b1), .val (.ref b5), .val (.int (1 : Int32)), .val (.int (0 : Int32)), .val (.int (1 : Int32))] [(.int (0 : Int32)), (.int ia), (.ref b5), (.int oa), (.ref b1)])
            refine goS X9 hx hZ (y := (⟨"com/example/counterpath/counterpath/analysis/Zone", "mayInclude", "([JI[JII)Z"⟩ : MethodName)) hown (hw _ (List.mem_of_getElem? (i := 2) rfl)) (hw _ (List.mem_of_getElem? (i := 3) rfl)) (hw _ (List.mem_of_getElem? (i := 4) rfl)) (hw _ (List.mem_of_getElem? (i := 5) rfl)) (by decide) (rm1 l Z a0 hw b1 oa b5 ia (0 : Int32) h9 n0 Z9 ka kb 3 _ _ q1 q2 c0 c1 (by decide) V_b1 V_b5 A2 A1 B2 B1 (by simp) (by simp) (by simp) (by simp)) e9 N9 0 (by decide) (by decide) (by decide) (by decide) (g := (mkF m 192 #[.val (.long q1), .second, .val (.long q2), .second, .val (.long q3), .second, .val (.long q4), .second, .val (.int p5), .val (.int oa), .val (.int ia), .val (.long c0), .second, .val (.long c1), .second, .val (.int (0 : Int32)), .val (.ref b1), .val (.ref b5), .val (.int (1 : Int32)), .val (.int (0 : Int32)), .val (.int (1 : Int32))] [(.int (0 : Int32)), (.int ia), (.ref b5), (.int oa), (.ref b1)])) rfl (by rw [hml]; rfl) [(.ref b1), (.int oa), (.ref b5), (.int ia), (.int (0 : Int32))] [] (lenOf pd0_0 rfl) rfl rfl (by show 2 * 0 + _ ≤ _; exact Nat.le_of_eq rfl) (hb hby at_192) ?_
            intro T15 v15 L15 M15 X15 N15 hq15
            obtain ⟨hq15, N15q, e15⟩ := hq15
            replace N15 := N15 N15q
            rcases hq15 with ⟨hr15, rfl⟩ | ⟨hr15, rfl⟩
            ·
              show Go _ _ _ _ T15 (mkF m 195 #[.val (.long q1), .second, .val (.long q2), .second, .val (.long q3), .second, .val (.long q4), .second, .val (.int p5), .val (.int oa), .val (.int ia), .val (.long c0), .second, .val (.long c1), .second, .val (.int (0 : Int32)), .val (.ref b1), .val (.ref b5), .val (.int (1 : Int32)), .val (.int (0 : Int32)), .val (.int (1 : Int32))] [(.int (1 : Int32))])
              refine Go.st (fun t k => XS.iload X15.here hx rfl (hb hby at_195) rfl k) ?_
              show Go _ _ _ _ T15 (mkF m 197 #[.val (.long q1), .second, .val (.long q2), .second, .val (.long q3), .second, .val (.long q4), .second, .val (.int p5), .val (.int oa), .val (.int ia), .val (.long c0), .second, .val (.long c1), .second, .val (.int (0 : Int32)), .val (.ref b1), .val (.ref b5), .val (.int (1 : Int32)), .val (.int (0 : Int32)), .val (.int (1 : Int32))] [(.int (1 : Int32)), (.int (1 : Int32))])
              refine Go.st (fun t k => XS.icmpNo X15.here hx rfl (hb hby at_197) rfl (by decide) k) ?_
              show Go _ _ _ _ T15 (mkF m 200 #[.val (.long q1), .second, .val (.long q2), .second, .val (.long q3), .second, .val (.long q4), .second, .val (.int p5), .val (.int oa), .val (.int ia), .val (.long c0), .second, .val (.long c1), .second, .val (.int (0 : Int32)), .val (.ref b1), .val (.ref b5), .val (.int (1 : Int32)), .val (.int (0 : Int32)), .val (.int (1 : Int32))] [])
              refine Go.st (fun t k => XS.iconst X15.here hx rfl (hb hby at_200) k) ?_
              show Go _ _ _ _ T15 (mkF m 201 #[.val (.long q1), .second, .val (.long q2), .second, .val (.long q3), .second, .val (.long q4), .second, .val (.int p5), .val (.int oa), .val (.int ia), .val (.long c0), .second, .val (.long c1), .second, .val (.int (0 : Int32)), .val (.ref b1), .val (.ref b5), .val (.int (1 : Int32)), .val (.int (0 : Int32)), .val (.int (1 : Int32))] [(.int (1 : Int32))])
              refine Go.st (fun t k => XS.goto X15.here hx rfl (pc0 := 201) (pc' := 205) rfl (hb hby at_201) (by decide) (by decide) k) ?_
              show Go _ _ _ _ T15 (mkF m 205 #[.val (.long q1), .second, .val (.long q2), .second, .val (.long q3), .second, .val (.long q4), .second, .val (.int p5), .val (.int oa), .val (.int ia), .val (.long c0), .second, .val (.long c1), .second, .val (.int (0 : Int32)), .val (.ref b1), .val (.ref b5), .val (.int (1 : Int32)), .val (.int (0 : Int32)), .val (.int (1 : Int32))] [(.int (1 : Int32))])
              exact goN X15 hx hret hlk (by simp) (hb hby at_205) (by decide) (by decide) ⟨rfl, N15⟩
            ·
              exact absurd ⟨fun q => absurd q (by decide), fun q => absurd q (by decide)⟩ hr15
          ·
            show Go _ _ _ _ T9 (mkF m 154 #[.val (.long q1), .second, .val (.long q2), .second, .val (.long q3), .second, .val (.long q4), .second, .val (.int p5), .val (.int oa), .val (.int ia), .val (.long c0), .second, .val (.long c1), .second, .val (.int (1 : Int32)), .val (.ref b1), .val (.ref b5), .val (.int (1 : Int32)), .val (.int (0 : Int32)), .unset] [])
            show Go _ _ _ _ T9 (mkF m 154 #[.val (.long q1), .second, .val (.long q2), .second, .val (.long q3), .second, .val (.long q4), .second, .val (.int p5), .val (.int oa), .val (.int ia), .val (.long c0), .second, .val (.long c1), .second, .val (.int (1 : Int32)), .val (.ref b1), .val (.ref b5), .val (.int (1 : Int32)), .val (.int (0 : Int32)), .unset] [])
            refine Go.st (fun t k => XS.iload X9.here hx rfl (hb hby at_154) rfl k) ?_
            show Go _ _ _ _ T9 (mkF m 156 #[.val (.long q1), .second, .val (.long q2), .second, .val (.long q3), .second, .val (.long q4), .second, .val (.int p5), .val (.int oa), .val (.int ia), .val (.long c0), .second, .val (.long c1), .second, .val (.int (1 : Int32)), .val (.ref b1), .val (.ref b5), .val (.int (1 : Int32)), .val (.int (0 : Int32)), .unset] [(.int (1 : Int32))])
            refine Go.st (fun t k => XS.ifNo X9.here hx rfl (hb hby at_156) rfl (by decide) k) ?_
            show Go _ _ _ _ T9 (mkF m 159 #[.val (.long q1), .second, .val (.long q2), .second, .val (.long q3), .second, .val (.long q4), .second, .val (.int p5), .val (.int oa), .val (.int ia), .val (.long c0), .second, .val (.long c1), .second, .val (.int (1 : Int32)), .val (.ref b1), .val (.ref b5), .val (.int (1 : Int32)), .val (.int (0 : Int32)), .unset] [])
            refine Go.st (fun t k => XS.iload X9.here hx rfl (hb hby at_159) rfl k) ?_
            show Go _ _ _ _ T9 (mkF m 161 #[.val (.long q1), .second, .val (.long q2), .second, .val (.long q3), .second, .val (.long q4), .second, .val (.int p5), .val (.int oa), .val (.int ia), .val (.long c0), .second, .val (.long c1), .second, .val (.int (1 : Int32)), .val (.ref b1), .val (.ref b5), .val (.int (1 : Int32)), .val (.int (0 : Int32)), .unset] [(.int (1 : Int32))])
            refine Go.st (fun t k => XS.ifNo X9.here hx rfl (hb hby at_161) rfl (by decide) k) ?_
            show Go _ _ _ _ T9 (mkF m 164 #[.val (.long q1), .second, .val (.long q2), .second, .val (.long q3), .second, .val (.long q4), .second, .val (.int p5), .val (.int oa), .val (.int ia), .val (.long c0), .second, .val (.long c1), .second, .val (.int (1 : Int32)), .val (.ref b1), .val (.ref b5), .val (.int (1 : Int32)), .val (.int (0 : Int32)), .unset] [])
            refine Go.st (fun t k => XS.iload X9.here hx rfl (hb hby at_164) rfl k) ?_
            show Go _ _ _ _ T9 (mkF m 166 #[.val (.long q1), .second, .val (.long q2), .second, .val (.long q3), .second, .val (.long q4), .second, .val (.int p5), .val (.int oa), .val (.int ia), .val (.long c0), .second, .val (.long c1), .second, .val (.int (1 : Int32)), .val (.ref b1), .val (.ref b5), .val (.int (1 : Int32)), .val (.int (0 : Int32)), .unset] [(.int (1 : Int32))])
            refine Go.st (fun t k => XS.iconst X9.here hx rfl (hb hby at_166) k) ?_
            show Go _ _ _ _ T9 (mkF m 167 #[.val (.long q1), .second, .val (.long q2), .second, .val (.long q3), .second, .val (.long q4), .second, .val (.int p5), .val (.int oa), .val (.int ia), .val (.long c0), .second, .val (.long c1), .second, .val (.int (1 : Int32)), .val (.ref b1), .val (.ref b5), .val (.int (1 : Int32)), .val (.int (0 : Int32)), .unset] [(.int (1 : Int32)), (.int (1 : Int32))])
            refine Go.st (fun t k => XS.icmpYes X9.here hx rfl (pc0 := 167) (pc' := 175) rfl (hb hby at_167) rfl (by decide) (by decide) (by decide) k) ?_
            show Go _ _ _ _ T9 (mkF m 175 #[.val (.long q1), .second, .val (.long q2), .second, .val (.long q3), .second, .val (.long q4), .second, .val (.int p5), .val (.int oa), .val (.int ia), .val (.long c0), .second, .val (.long c1), .second, .val (.int (1 : Int32)), .val (.ref b1), .val (.ref b5), .val (.int (1 : Int32)), .val (.int (0 : Int32)), .unset] [])
            refine Go.st (fun t k => XS.iconst X9.here hx rfl (hb hby at_175) k) ?_
            show Go _ _ _ _ T9 (mkF m 176 #[.val (.long q1), .second, .val (.long q2), .second, .val (.long q3), .second, .val (.long q4), .second, .val (.int p5), .val (.int oa), .val (.int ia), .val (.long c0), .second, .val (.long c1), .second, .val (.int (1 : Int32)), .val (.ref b1), .val (.ref b5), .val (.int (1 : Int32)), .val (.int (0 : Int32)), .unset] [(.int (1 : Int32))])
            refine Go.st (fun t k => XS.goto X9.here hx rfl (pc0 := 176) (pc' := 180) rfl (hb hby at_176) (by decide) (by decide) k) ?_
            show Go _ _ _ _ T9 (mkF m 180 #[.val (.long q1), .second, .val (.long q2), .second, .val (.long q3), .second, .val (.long q4), .second, .val (.int p5), .val (.int oa), .val (.int ia), .val (.long c0), .second, .val (.long c1), .second, .val (.int (1 : Int32)), .val (.ref b1), .val (.ref b5), .val (.int (1 : Int32)), .val (.int (0 : Int32)), .unset] [(.int (1 : Int32))])
            refine Go.st (fun t k => XS.istore X9.here hx rfl (hb hby at_180) rfl (l' := #[.val (.long q1), .second, .val (.long q2), .second, .val (.long q3), .second, .val (.long q4), .second, .val (.int p5), .val (.int oa), .val (.int ia), .val (.long c0), .second, .val (.long c1), .second, .val (.int (1 : Int32)), .val (.ref b1), .val (.ref b5), .val (.int (1 : Int32)), .val (.int (0 : Int32)), .val (.int (1 : Int32))]) rfl k) ?_
            show Go _ _ _ _ T9 (mkF m 182 #[.val (.long q1), .second, .val (.long q2), .second, .val (.long q3), .second, .val (.long q4), .second, .val (.int p5), .val (.int oa), .val (.int ia), .val (.long c0), .second, .val (.long c1), .second, .val (.int (1 : Int32)), .val (.ref b1), .val (.ref b5), .val (.int (1 : Int32)), .val (.int (0 : Int32)), .val (.int (1 : Int32))] [])
            refine Go.st (fun t k => XS.aload X9.here hx rfl (hb hby at_182) rfl rfl k) ?_
            show Go _ _ _ _ T9 (mkF m 184 #[.val (.long q1), .second, .val (.long q2), .second, .val (.long q3), .second, .val (.long q4), .second, .val (.int p5), .val (.int oa), .val (.int ia), .val (.long c0), .second, .val (.long c1), .second, .val (.int (1 : Int32)), .val (.ref b1), .val (.ref b5), .val (.int (1 : Int32)), .val (.int (0 : Int32)), .val (.int (1 : Int32))] [(.ref b1)])
            refine Go.st (fun t k => XS.iload X9.here hx rfl (hb hby at_184) rfl k) ?_
            show Go _ _ _ _ T9 (mkF m 186 #[.val (.long q1), .second, .val (.long q2), .second, .val (.long q3), .second, .val (.long q4), .second, .val (.int p5), .val (.int oa), .val (.int ia), .val (.long c0), .second, .val (.long c1), .second, .val (.int (1 : Int32)), .val (.ref b1), .val (.ref b5), .val (.int (1 : Int32)), .val (.int (0 : Int32)), .val (.int (1 : Int32))] [(.int oa), (.ref b1)])
            refine Go.st (fun t k => XS.aload X9.here hx rfl (hb hby at_186) rfl rfl k) ?_
            show Go _ _ _ _ T9 (mkF m 188 #[.val (.long q1), .second, .val (.long q2), .second, .val (.long q3), .second, .val (.long q4), .second, .val (.int p5), .val (.int oa), .val (.int ia), .val (.long c0), .second, .val (.long c1), .second, .val (.int (1 : Int32)), .val (.ref b1), .val (.ref b5), .val (.int (1 : Int32)), .val (.int (0 : Int32)), .val (.int (1 : Int32))] [(.ref b5), (.int oa), (.ref b1)])
            refine Go.st (fun t k => XS.iload X9.here hx rfl (hb hby at_188) rfl k) ?_
            show Go _ _ _ _ T9 (mkF m 190 #[.val (.long q1), .second, .val (.long q2), .second, .val (.long q3), .second, .val (.long q4), .second, .val (.int p5), .val (.int oa), .val (.int ia), .val (.long c0), .second, .val (.long c1), .second, .val (.int (1 : Int32)), .val (.ref b1), .val (.ref b5), .val (.int (1 : Int32)), .val (.int (0 : Int32)), .val (.int (1 : Int32))] [(.int ia), (.ref b5), (.int oa), (.ref b1)])
            refine Go.st (fun t k => XS.iload X9.here hx rfl (hb hby at_190) rfl k) ?_
            show Go _ _ _ _ T9 (mkF m 192 #[.val (.long q1), .second, .val (.long q2), .second, .val (.long q3), .second, .val (.long q4), .second, .val (.int p5), .val (.int oa), .val (.int ia), .val (.long c0), .second, .val (.long c1), .second, .val (.int (1 : Int32)), .val (.ref b1), .val (.ref b5), .val (.int (1 : Int32)), .val (.int (0 : Int32)), .val (.int (1 : Int32))] [(.int (1 : Int32)), (.int ia), (.ref b5), (.int oa), (.ref b1)])
            refine goS X9 hx hZ (y := (⟨"com/example/counterpath/counterpath/analysis/Zone", "mayInclude", "([JI[JII)Z"⟩ : MethodName)) hown (hw _ (List.mem_of_getElem? (i := 2) rfl)) (hw _ (List.mem_of_getElem? (i := 3) rfl)) (hw _ (List.mem_of_getElem? (i := 4) rfl)) (hw _ (List.mem_of_getElem? (i := 5) rfl)) (by decide) (rm1 l Z a0 hw b1 oa b5 ia (1 : Int32) h9 n0 Z9 ka kb 3 _ _ q1 q2 c0 c1 (by decide) V_b1 V_b5 A2 A1 B2 B1 (by simp) (by simp) (by simp) (by simp)) e9 N9 0 (by decide) (by decide) (by decide) (by decide) (g := (mkF m 192 #[.val (.long q1), .second, .val (.long q2), .second, .val (.long q3), .second, .val (.long q4), .second, .val (.int p5), .val (.int oa), .val (.int ia), .val (.long c0), .second, .val (.long c1), .second, .val (.int (1 : Int32)), .val (.ref b1), .val (.ref b5), .val (.int (1 : Int32)), .val (.int (0 : Int32)), .val (.int (1 : Int32))] [(.int (1 : Int32)), (.int ia), (.ref b5), (.int oa), (.ref b1)])) rfl (by rw [hml]; rfl) [(.ref b1), (.int oa), (.ref b5), (.int ia), (.int (1 : Int32))] [] (lenOf pd0_0 rfl) rfl rfl (by show 2 * 0 + _ ≤ _; exact Nat.le_of_eq rfl) (hb hby at_192) ?_
            intro T16 v16 L16 M16 X16 N16 hq16
            obtain ⟨hq16, N16q, e16⟩ := hq16
            replace N16 := N16 N16q
            rcases hq16 with ⟨hr16, rfl⟩ | ⟨hr16, rfl⟩
            ·
              show Go _ _ _ _ T16 (mkF m 195 #[.val (.long q1), .second, .val (.long q2), .second, .val (.long q3), .second, .val (.long q4), .second, .val (.int p5), .val (.int oa), .val (.int ia), .val (.long c0), .second, .val (.long c1), .second, .val (.int (1 : Int32)), .val (.ref b1), .val (.ref b5), .val (.int (1 : Int32)), .val (.int (0 : Int32)), .val (.int (1 : Int32))] [(.int (1 : Int32))])
              refine Go.st (fun t k => XS.iload X16.here hx rfl (hb hby at_195) rfl k) ?_
              show Go _ _ _ _ T16 (mkF m 197 #[.val (.long q1), .second, .val (.long q2), .second, .val (.long q3), .second, .val (.long q4), .second, .val (.int p5), .val (.int oa), .val (.int ia), .val (.long c0), .second, .val (.long c1), .second, .val (.int (1 : Int32)), .val (.ref b1), .val (.ref b5), .val (.int (1 : Int32)), .val (.int (0 : Int32)), .val (.int (1 : Int32))] [(.int (1 : Int32)), (.int (1 : Int32))])
              refine Go.st (fun t k => XS.icmpNo X16.here hx rfl (hb hby at_197) rfl (by decide) k) ?_
              show Go _ _ _ _ T16 (mkF m 200 #[.val (.long q1), .second, .val (.long q2), .second, .val (.long q3), .second, .val (.long q4), .second, .val (.int p5), .val (.int oa), .val (.int ia), .val (.long c0), .second, .val (.long c1), .second, .val (.int (1 : Int32)), .val (.ref b1), .val (.ref b5), .val (.int (1 : Int32)), .val (.int (0 : Int32)), .val (.int (1 : Int32))] [])
              refine Go.st (fun t k => XS.iconst X16.here hx rfl (hb hby at_200) k) ?_
              show Go _ _ _ _ T16 (mkF m 201 #[.val (.long q1), .second, .val (.long q2), .second, .val (.long q3), .second, .val (.long q4), .second, .val (.int p5), .val (.int oa), .val (.int ia), .val (.long c0), .second, .val (.long c1), .second, .val (.int (1 : Int32)), .val (.ref b1), .val (.ref b5), .val (.int (1 : Int32)), .val (.int (0 : Int32)), .val (.int (1 : Int32))] [(.int (1 : Int32))])
              refine Go.st (fun t k => XS.goto X16.here hx rfl (pc0 := 201) (pc' := 205) rfl (hb hby at_201) (by decide) (by decide) k) ?_
              show Go _ _ _ _ T16 (mkF m 205 #[.val (.long q1), .second, .val (.long q2), .second, .val (.long q3), .second, .val (.long q4), .second, .val (.int p5), .val (.int oa), .val (.int ia), .val (.long c0), .second, .val (.long c1), .second, .val (.int (1 : Int32)), .val (.ref b1), .val (.ref b5), .val (.int (1 : Int32)), .val (.int (0 : Int32)), .val (.int (1 : Int32))] [(.int (1 : Int32))])
              exact goN X16 hx hret hlk (by simp) (hb hby at_205) (by decide) (by decide) ⟨rfl, N16⟩
            ·
              exact absurd ⟨fun _ => (own_sub _ _).mpr ((lw_eq _ _).mp hs0), fun q => absurd q (by decide)⟩ hr16
          ·
            show Go _ _ _ _ T9 (mkF m 154 #[.val (.long q1), .second, .val (.long q2), .second, .val (.long q3), .second, .val (.long q4), .second, .val (.int p5), .val (.int oa), .val (.int ia), .val (.long c0), .second, .val (.long c1), .second, .val (.int (2 : Int32)), .val (.ref b1), .val (.ref b5), .val (.int (1 : Int32)), .val (.int (0 : Int32)), .unset] [])
            show Go _ _ _ _ T9 (mkF m 154 #[.val (.long q1), .second, .val (.long q2), .second, .val (.long q3), .second, .val (.long q4), .second, .val (.int p5), .val (.int oa), .val (.int ia), .val (.long c0), .second, .val (.long c1), .second, .val (.int (2 : Int32)), .val (.ref b1), .val (.ref b5), .val (.int (1 : Int32)), .val (.int (0 : Int32)), .unset] [])
            refine Go.st (fun t k => XS.iload X9.here hx rfl (hb hby at_154) rfl k) ?_
            show Go _ _ _ _ T9 (mkF m 156 #[.val (.long q1), .second, .val (.long q2), .second, .val (.long q3), .second, .val (.long q4), .second, .val (.int p5), .val (.int oa), .val (.int ia), .val (.long c0), .second, .val (.long c1), .second, .val (.int (2 : Int32)), .val (.ref b1), .val (.ref b5), .val (.int (1 : Int32)), .val (.int (0 : Int32)), .unset] [(.int (2 : Int32))])
            refine Go.st (fun t k => XS.ifNo X9.here hx rfl (hb hby at_156) rfl (by decide) k) ?_
            show Go _ _ _ _ T9 (mkF m 159 #[.val (.long q1), .second, .val (.long q2), .second, .val (.long q3), .second, .val (.long q4), .second, .val (.int p5), .val (.int oa), .val (.int ia), .val (.long c0), .second, .val (.long c1), .second, .val (.int (2 : Int32)), .val (.ref b1), .val (.ref b5), .val (.int (1 : Int32)), .val (.int (0 : Int32)), .unset] [])
            refine Go.st (fun t k => XS.iload X9.here hx rfl (hb hby at_159) rfl k) ?_
            show Go _ _ _ _ T9 (mkF m 161 #[.val (.long q1), .second, .val (.long q2), .second, .val (.long q3), .second, .val (.long q4), .second, .val (.int p5), .val (.int oa), .val (.int ia), .val (.long c0), .second, .val (.long c1), .second, .val (.int (2 : Int32)), .val (.ref b1), .val (.ref b5), .val (.int (1 : Int32)), .val (.int (0 : Int32)), .unset] [(.int (1 : Int32))])
            refine Go.st (fun t k => XS.ifNo X9.here hx rfl (hb hby at_161) rfl (by decide) k) ?_
            show Go _ _ _ _ T9 (mkF m 164 #[.val (.long q1), .second, .val (.long q2), .second, .val (.long q3), .second, .val (.long q4), .second, .val (.int p5), .val (.int oa), .val (.int ia), .val (.long c0), .second, .val (.long c1), .second, .val (.int (2 : Int32)), .val (.ref b1), .val (.ref b5), .val (.int (1 : Int32)), .val (.int (0 : Int32)), .unset] [])
            refine Go.st (fun t k => XS.iload X9.here hx rfl (hb hby at_164) rfl k) ?_
            show Go _ _ _ _ T9 (mkF m 166 #[.val (.long q1), .second, .val (.long q2), .second, .val (.long q3), .second, .val (.long q4), .second, .val (.int p5), .val (.int oa), .val (.int ia), .val (.long c0), .second, .val (.long c1), .second, .val (.int (2 : Int32)), .val (.ref b1), .val (.ref b5), .val (.int (1 : Int32)), .val (.int (0 : Int32)), .unset] [(.int (2 : Int32))])
            refine Go.st (fun t k => XS.iconst X9.here hx rfl (hb hby at_166) k) ?_
            show Go _ _ _ _ T9 (mkF m 167 #[.val (.long q1), .second, .val (.long q2), .second, .val (.long q3), .second, .val (.long q4), .second, .val (.int p5), .val (.int oa), .val (.int ia), .val (.long c0), .second, .val (.long c1), .second, .val (.int (2 : Int32)), .val (.ref b1), .val (.ref b5), .val (.int (1 : Int32)), .val (.int (0 : Int32)), .unset] [(.int (1 : Int32)), (.int (2 : Int32))])
            refine Go.st (fun t k => XS.icmpNo X9.here hx rfl (hb hby at_167) rfl (by decide) k) ?_
            show Go _ _ _ _ T9 (mkF m 170 #[.val (.long q1), .second, .val (.long q2), .second, .val (.long q3), .second, .val (.long q4), .second, .val (.int p5), .val (.int oa), .val (.int ia), .val (.long c0), .second, .val (.long c1), .second, .val (.int (2 : Int32)), .val (.ref b1), .val (.ref b5), .val (.int (1 : Int32)), .val (.int (0 : Int32)), .unset] [])
            refine Go.st (fun t k => XS.iload X9.here hx rfl (hb hby at_170) rfl k) ?_
            show Go _ _ _ _ T9 (mkF m 172 #[.val (.long q1), .second, .val (.long q2), .second, .val (.long q3), .second, .val (.long q4), .second, .val (.int p5), .val (.int oa), .val (.int ia), .val (.long c0), .second, .val (.long c1), .second, .val (.int (2 : Int32)), .val (.ref b1), .val (.ref b5), .val (.int (1 : Int32)), .val (.int (0 : Int32)), .unset] [(.int (0 : Int32))])
            refine Go.st (fun t k => XS.ifYes X9.here hx rfl (pc0 := 172) (pc' := 179) rfl (hb hby at_172) rfl (by decide) (by decide) (by decide) k) ?_
            show Go _ _ _ _ T9 (mkF m 179 #[.val (.long q1), .second, .val (.long q2), .second, .val (.long q3), .second, .val (.long q4), .second, .val (.int p5), .val (.int oa), .val (.int ia), .val (.long c0), .second, .val (.long c1), .second, .val (.int (2 : Int32)), .val (.ref b1), .val (.ref b5), .val (.int (1 : Int32)), .val (.int (0 : Int32)), .unset] [])
            refine Go.st (fun t k => XS.iconst X9.here hx rfl (hb hby at_179) k) ?_
            show Go _ _ _ _ T9 (mkF m 180 #[.val (.long q1), .second, .val (.long q2), .second, .val (.long q3), .second, .val (.long q4), .second, .val (.int p5), .val (.int oa), .val (.int ia), .val (.long c0), .second, .val (.long c1), .second, .val (.int (2 : Int32)), .val (.ref b1), .val (.ref b5), .val (.int (1 : Int32)), .val (.int (0 : Int32)), .unset] [(.int (0 : Int32))])
            refine Go.st (fun t k => XS.istore X9.here hx rfl (hb hby at_180) rfl (l' := #[.val (.long q1), .second, .val (.long q2), .second, .val (.long q3), .second, .val (.long q4), .second, .val (.int p5), .val (.int oa), .val (.int ia), .val (.long c0), .second, .val (.long c1), .second, .val (.int (2 : Int32)), .val (.ref b1), .val (.ref b5), .val (.int (1 : Int32)), .val (.int (0 : Int32)), .val (.int (0 : Int32))]) rfl k) ?_
            show Go _ _ _ _ T9 (mkF m 182 #[.val (.long q1), .second, .val (.long q2), .second, .val (.long q3), .second, .val (.long q4), .second, .val (.int p5), .val (.int oa), .val (.int ia), .val (.long c0), .second, .val (.long c1), .second, .val (.int (2 : Int32)), .val (.ref b1), .val (.ref b5), .val (.int (1 : Int32)), .val (.int (0 : Int32)), .val (.int (0 : Int32))] [])
            refine Go.st (fun t k => XS.aload X9.here hx rfl (hb hby at_182) rfl rfl k) ?_
            show Go _ _ _ _ T9 (mkF m 184 #[.val (.long q1), .second, .val (.long q2), .second, .val (.long q3), .second, .val (.long q4), .second, .val (.int p5), .val (.int oa), .val (.int ia), .val (.long c0), .second, .val (.long c1), .second, .val (.int (2 : Int32)), .val (.ref b1), .val (.ref b5), .val (.int (1 : Int32)), .val (.int (0 : Int32)), .val (.int (0 : Int32))] [(.ref b1)])
            refine Go.st (fun t k => XS.iload X9.here hx rfl (hb hby at_184) rfl k) ?_
            show Go _ _ _ _ T9 (mkF m 186 #[.val (.long q1), .second, .val (.long q2), .second, .val (.long q3), .second, .val (.long q4), .second, .val (.int p5), .val (.int oa), .val (.int ia), .val (.long c0), .second, .val (.long c1), .second, .val (.int (2 : Int32)), .val (.ref b1), .val (.ref b5), .val (.int (1 : Int32)), .val (.int (0 : Int32)), .val (.int (0 : Int32))] [(.int oa), (.ref b1)])
            refine Go.st (fun t k => XS.aload X9.here hx rfl (hb hby at_186) rfl rfl k) ?_
            show Go _ _ _ _ T9 (mkF m 188 #[.val (.long q1), .second, .val (.long q2), .second, .val (.long q3), .second, .val (.long q4), .second, .val (.int p5), .val (.int oa), .val (.int ia), .val (.long c0), .second, .val (.long c1), .second, .val (.int (2 : Int32)), .val (.ref b1), .val (.ref b5), .val (.int (1 : Int32)), .val (.int (0 : Int32)), .val (.int (0 : Int32))] [(.ref b5), (.int oa), (.ref b1)])
            refine Go.st (fun t k => XS.iload X9.here hx rfl (hb hby at_188) rfl k) ?_
            show Go _ _ _ _ T9 (mkF m 190 #[.val (.long q1), .second, .val (.long q2), .second, .val (.long q3), .second, .val (.long q4), .second, .val (.int p5), .val (.int oa), .val (.int ia), .val (.long c0), .second, .val (.long c1), .second, .val (.int (2 : Int32)), .val (.ref b1), .val (.ref b5), .val (.int (1 : Int32)), .val (.int (0 : Int32)), .val (.int (0 : Int32))] [(.int ia), (.ref b5), (.int oa), (.ref b1)])
            refine Go.st (fun t k => XS.iload X9.here hx rfl (hb hby at_190) rfl k) ?_
            show Go _ _ _ _ T9 (mkF m 192 #[.val (.long q1), .second, .val (.long q2), .second, .val (.long q3), .second, .val (.long q4), .second, .val (.int p5), .val (.int oa), .val (.int ia), .val (.long c0), .second, .val (.long c1), .second, .val (.int (2 : Int32)), .val (.ref b1), .val (.ref b5), .val (.int (1 : Int32)), .val (.int (0 : Int32)), .val (.int (0 : Int32))] [(.int (2 : Int32)), (.int ia), (.ref b5), (.int oa), (.ref b1)])
            refine goS X9 hx hZ (y := (⟨"com/example/counterpath/counterpath/analysis/Zone", "mayInclude", "([JI[JII)Z"⟩ : MethodName)) hown (hw _ (List.mem_of_getElem? (i := 2) rfl)) (hw _ (List.mem_of_getElem? (i := 3) rfl)) (hw _ (List.mem_of_getElem? (i := 4) rfl)) (hw _ (List.mem_of_getElem? (i := 5) rfl)) (by decide) (rm1 l Z a0 hw b1 oa b5 ia (2 : Int32) h9 n0 Z9 ka kb 3 _ _ q1 q2 c0 c1 (by decide) V_b1 V_b5 A2 A1 B2 B1 (by simp) (by simp) (by simp) (by simp)) e9 N9 0 (by decide) (by decide) (by decide) (by decide) (g := (mkF m 192 #[.val (.long q1), .second, .val (.long q2), .second, .val (.long q3), .second, .val (.long q4), .second, .val (.int p5), .val (.int oa), .val (.int ia), .val (.long c0), .second, .val (.long c1), .second, .val (.int (2 : Int32)), .val (.ref b1), .val (.ref b5), .val (.int (1 : Int32)), .val (.int (0 : Int32)), .val (.int (0 : Int32))] [(.int (2 : Int32)), (.int ia), (.ref b5), (.int oa), (.ref b1)])) rfl (by rw [hml]; rfl) [(.ref b1), (.int oa), (.ref b5), (.int ia), (.int (2 : Int32))] [] (lenOf pd0_0 rfl) rfl rfl (by show 2 * 0 + _ ≤ _; exact Nat.le_of_eq rfl) (hb hby at_192) ?_
            intro T17 v17 L17 M17 X17 N17 hq17
            obtain ⟨hq17, N17q, e17⟩ := hq17
            replace N17 := N17 N17q
            rcases hq17 with ⟨hr17, rfl⟩ | ⟨hr17, rfl⟩
            ·
              exact absurd (hr17.2 (by decide)) (fun q => hs1 ((lw_eq _ _).mpr ((own_sub _ _).mp q)))
            ·
              show Go _ _ _ _ T17 (mkF m 195 #[.val (.long q1), .second, .val (.long q2), .second, .val (.long q3), .second, .val (.long q4), .second, .val (.int p5), .val (.int oa), .val (.int ia), .val (.long c0), .second, .val (.long c1), .second, .val (.int (2 : Int32)), .val (.ref b1), .val (.ref b5), .val (.int (1 : Int32)), .val (.int (0 : Int32)), .val (.int (0 : Int32))] [(.int (0 : Int32))])
              refine Go.st (fun t k => XS.iload X17.here hx rfl (hb hby at_195) rfl k) ?_
              show Go _ _ _ _ T17 (mkF m 197 #[.val (.long q1), .second, .val (.long q2), .second, .val (.long q3), .second, .val (.long q4), .second, .val (.int p5), .val (.int oa), .val (.int ia), .val (.long c0), .second, .val (.long c1), .second, .val (.int (2 : Int32)), .val (.ref b1), .val (.ref b5), .val (.int (1 : Int32)), .val (.int (0 : Int32)), .val (.int (0 : Int32))] [(.int (0 : Int32)), (.int (0 : Int32))])
              refine Go.st (fun t k => XS.icmpNo X17.here hx rfl (hb hby at_197) rfl (by decide) k) ?_
              show Go _ _ _ _ T17 (mkF m 200 #[.val (.long q1), .second, .val (.long q2), .second, .val (.long q3), .second, .val (.long q4), .second, .val (.int p5), .val (.int oa), .val (.int ia), .val (.long c0), .second, .val (.long c1), .second, .val (.int (2 : Int32)), .val (.ref b1), .val (.ref b5), .val (.int (1 : Int32)), .val (.int (0 : Int32)), .val (.int (0 : Int32))] [])
              refine Go.st (fun t k => XS.iconst X17.here hx rfl (hb hby at_200) k) ?_
              show Go _ _ _ _ T17 (mkF m 201 #[.val (.long q1), .second, .val (.long q2), .second, .val (.long q3), .second, .val (.long q4), .second, .val (.int p5), .val (.int oa), .val (.int ia), .val (.long c0), .second, .val (.long c1), .second, .val (.int (2 : Int32)), .val (.ref b1), .val (.ref b5), .val (.int (1 : Int32)), .val (.int (0 : Int32)), .val (.int (0 : Int32))] [(.int (1 : Int32))])
              refine Go.st (fun t k => XS.goto X17.here hx rfl (pc0 := 201) (pc' := 205) rfl (hb hby at_201) (by decide) (by decide) k) ?_
              show Go _ _ _ _ T17 (mkF m 205 #[.val (.long q1), .second, .val (.long q2), .second, .val (.long q3), .second, .val (.long q4), .second, .val (.int p5), .val (.int oa), .val (.int ia), .val (.long c0), .second, .val (.long c1), .second, .val (.int (2 : Int32)), .val (.ref b1), .val (.ref b5), .val (.int (1 : Int32)), .val (.int (0 : Int32)), .val (.int (0 : Int32))] [(.int (1 : Int32))])
              exact goN X17 hx hret hlk (by simp) (hb hby at_205) (by decide) (by decide) ⟨rfl, N17⟩
      ·
        refine Go.st (fun t k => XS.ifYes X9.here hx rfl (pc0 := 127) (pc' := 134) rfl (hb hby at_127) rfl ((if0 _ _).trans (feq hs0).2) (by decide) (by decide) k) ?_
        show Go _ _ _ _ T9 (mkF m 134 #[.val (.long q1), .second, .val (.long q2), .second, .val (.long q3), .second, .val (.long q4), .second, .val (.int p5), .val (.int oa), .val (.int ia), .val (.long c0), .second, .val (.long c1), .second, .val (.int wd), .val (.ref b1), .val (.ref b5), .unset, .unset, .unset] [])
        refine Go.st (fun t k => XS.iconst X9.here hx rfl (hb hby at_134) k) ?_
        show Go _ _ _ _ T9 (mkF m 135 #[.val (.long q1), .second, .val (.long q2), .second, .val (.long q3), .second, .val (.long q4), .second, .val (.int p5), .val (.int oa), .val (.int ia), .val (.long c0), .second, .val (.long c1), .second, .val (.int wd), .val (.ref b1), .val (.ref b5), .unset, .unset, .unset] [(.int (0 : Int32))])
        refine Go.st (fun t k => XS.istore X9.here hx rfl (hb hby at_135) rfl (l' := #[.val (.long q1), .second, .val (.long q2), .second, .val (.long q3), .second, .val (.long q4), .second, .val (.int p5), .val (.int oa), .val (.int ia), .val (.long c0), .second, .val (.long c1), .second, .val (.int wd), .val (.ref b1), .val (.ref b5), .val (.int (0 : Int32)), .unset, .unset]) rfl k) ?_
        show Go _ _ _ _ T9 (mkF m 137 #[.val (.long q1), .second, .val (.long q2), .second, .val (.long q3), .second, .val (.long q4), .second, .val (.int p5), .val (.int oa), .val (.int ia), .val (.long c0), .second, .val (.long c1), .second, .val (.int wd), .val (.ref b1), .val (.ref b5), .val (.int (0 : Int32)), .unset, .unset] [])
        refine Go.st (fun t k => XS.lloadN X9.here hx rfl (hb hby at_137) rfl k) ?_
        show Go _ _ _ _ T9 (mkF m 138 #[.val (.long q1), .second, .val (.long q2), .second, .val (.long q3), .second, .val (.long q4), .second, .val (.int p5), .val (.int oa), .val (.int ia), .val (.long c0), .second, .val (.long c1), .second, .val (.int wd), .val (.ref b1), .val (.ref b5), .val (.int (0 : Int32)), .unset, .unset] [(.long q2)])
        refine Go.st (fun t k => XS.lload X9.here hx rfl (hb hby at_138) rfl k) ?_
        show Go _ _ _ _ T9 (mkF m 140 #[.val (.long q1), .second, .val (.long q2), .second, .val (.long q3), .second, .val (.long q4), .second, .val (.int p5), .val (.int oa), .val (.int ia), .val (.long c0), .second, .val (.long c1), .second, .val (.int wd), .val (.ref b1), .val (.ref b5), .val (.int (0 : Int32)), .unset, .unset] [(.long c1), (.long q2)])
        refine Go.st (fun t k => XS.lor X9.here hx rfl (hb hby at_140) rfl k) ?_
        show Go _ _ _ _ T9 (mkF m 141 #[.val (.long q1), .second, .val (.long q2), .second, .val (.long q3), .second, .val (.long q4), .second, .val (.int p5), .val (.int oa), .val (.int ia), .val (.long c0), .second, .val (.long c1), .second, .val (.int wd), .val (.ref b1), .val (.ref b5), .val (.int (0 : Int32)), .unset, .unset] [(.long (q2 ||| c1))])
        refine Go.st (fun t k => XS.lload X9.here hx rfl (hb hby at_141) rfl k) ?_
        show Go _ _ _ _ T9 (mkF m 143 #[.val (.long q1), .second, .val (.long q2), .second, .val (.long q3), .second, .val (.long q4), .second, .val (.int p5), .val (.int oa), .val (.int ia), .val (.long c0), .second, .val (.long c1), .second, .val (.int wd), .val (.ref b1), .val (.ref b5), .val (.int (0 : Int32)), .unset, .unset] [(.long c1), (.long (q2 ||| c1))])
        refine Go.st (fun t k => XS.lcmp X9.here hx rfl (hb hby at_143) rfl k) ?_
        show Go _ _ _ _ T9 (mkF m 144 #[.val (.long q1), .second, .val (.long q2), .second, .val (.long q3), .second, .val (.long q4), .second, .val (.int p5), .val (.int oa), .val (.int ia), .val (.long c0), .second, .val (.long c1), .second, .val (.int wd), .val (.ref b1), .val (.ref b5), .val (.int (0 : Int32)), .unset, .unset] [(.int (lcmpW (q2 ||| c1) c1))])
        by_cases hs1 : (lcmpW (q2 ||| c1) c1) = (0 : Int32)
        ·
          refine Go.st (fun t k => XS.ifNo X9.here hx rfl (hb hby at_144) rfl ((if0 _ _).trans (teq hs1).2) k) ?_
          show Go _ _ _ _ T9 (mkF m 147 #[.val (.long q1), .second, .val (.long q2), .second, .val (.long q3), .second, .val (.long q4), .second, .val (.int p5), .val (.int oa), .val (.int ia), .val (.long c0), .second, .val (.long c1), .second, .val (.int wd), .val (.ref b1), .val (.ref b5), .val (.int (0 : Int32)), .unset, .unset] [])
          refine Go.st (fun t k => XS.iconst X9.here hx rfl (hb hby at_147) k) ?_
          show Go _ _ _ _ T9 (mkF m 148 #[.val (.long q1), .second, .val (.long q2), .second, .val (.long q3), .second, .val (.long q4), .second, .val (.int p5), .val (.int oa), .val (.int ia), .val (.long c0), .second, .val (.long c1), .second, .val (.int wd), .val (.ref b1), .val (.ref b5), .val (.int (0 : Int32)), .unset, .unset] [(.int (1 : Int32))])
          refine Go.st (fun t k => XS.goto X9.here hx rfl (pc0 := 148) (pc' := 152) rfl (hb hby at_148) (by decide) (by decide) k) ?_
          show Go _ _ _ _ T9 (mkF m 152 #[.val (.long q1), .second, .val (.long q2), .second, .val (.long q3), .second, .val (.long q4), .second, .val (.int p5), .val (.int oa), .val (.int ia), .val (.long c0), .second, .val (.long c1), .second, .val (.int wd), .val (.ref b1), .val (.ref b5), .val (.int (0 : Int32)), .unset, .unset] [(.int (1 : Int32))])
          refine Go.st (fun t k => XS.istore X9.here hx rfl (hb hby at_152) rfl (l' := #[.val (.long q1), .second, .val (.long q2), .second, .val (.long q3), .second, .val (.long q4), .second, .val (.int p5), .val (.int oa), .val (.int ia), .val (.long c0), .second, .val (.long c1), .second, .val (.int wd), .val (.ref b1), .val (.ref b5), .val (.int (0 : Int32)), .val (.int (1 : Int32)), .unset]) rfl k) ?_
          show Go _ _ _ _ T9 (mkF m 154 #[.val (.long q1), .second, .val (.long q2), .second, .val (.long q3), .second, .val (.long q4), .second, .val (.int p5), .val (.int oa), .val (.int ia), .val (.long c0), .second, .val (.long c1), .second, .val (.int wd), .val (.ref b1), .val (.ref b5), .val (.int (0 : Int32)), .val (.int (1 : Int32)), .unset] [])
          rcases hw3 with rfl | rfl | rfl
          ·
            show Go _ _ _ _ T9 (mkF m 154 #[.val (.long q1), .second, .val (.long q2), .second, .val (.long q3), .second, .val (.long q4), .second, .val (.int p5), .val (.int oa), .val (.int ia), .val (.long c0), .second, .val (.long c1), .second, .val (.int (0 : Int32)), .val (.ref b1), .val (.ref b5), .val (.int (0 : Int32)), .val (.int (1 : Int32)), .unset] [])
            show Go _ _ _ _ T9 (mkF m 154 #[.val (.long q1), .second, .val (.long q2), .second, .val (.long q3), .second, .val (.long q4), .second, .val (.int p5), .val (.int oa), .val (.int ia), .val (.long c0), .second, .val (.long c1), .second, .val (.int (0 : Int32)), .val (.ref b1), .val (.ref b5), .val (.int (0 : Int32)), .val (.int (1 : Int32)), .unset] [])
            refine Go.st (fun t k => XS.iload X9.here hx rfl (hb hby at_154) rfl k) ?_
            show Go _ _ _ _ T9 (mkF m 156 #[.val (.long q1), .second, .val (.long q2), .second, .val (.long q3), .second, .val (.long q4), .second, .val (.int p5), .val (.int oa), .val (.int ia), .val (.long c0), .second, .val (.long c1), .second, .val (.int (0 : Int32)), .val (.ref b1), .val (.ref b5), .val (.int (0 : Int32)), .val (.int (1 : Int32)), .unset] [(.int (0 : Int32))])
            refine Go.st (fun t k => XS.ifYes X9.here hx rfl (pc0 := 156) (pc' := 175) rfl (hb hby at_156) rfl (by decide) (by decide) (by decide) k) ?_
            show Go _ _ _ _ T9 (mkF m 175 #[.val (.long q1), .second, .val (.long q2), .second, .val (.long q3), .second, .val (.long q4), .second, .val (.int p5), .val (.int oa), .val (.int ia), .val (.long c0), .second, .val (.long c1), .second, .val (.int (0 : Int32)), .val (.ref b1), .val (.ref b5), .val (.int (0 : Int32)), .val (.int (1 : Int32)), .unset] [])
            refine Go.st (fun t k => XS.iconst X9.here hx rfl (hb hby at_175) k) ?_
            show Go _ _ _ _ T9 (mkF m 176 #[.val (.long q1), .second, .val (.long q2), .second, .val (.long q3), .second, .val (.long q4), .second, .val (.int p5), .val (.int oa), .val (.int ia), .val (.long c0), .second, .val (.long c1), .second, .val (.int (0 : Int32)), .val (.ref b1), .val (.ref b5), .val (.int (0 : Int32)), .val (.int (1 : Int32)), .unset] [(.int (1 : Int32))])
            refine Go.st (fun t k => XS.goto X9.here hx rfl (pc0 := 176) (pc' := 180) rfl (hb hby at_176) (by decide) (by decide) k) ?_
            show Go _ _ _ _ T9 (mkF m 180 #[.val (.long q1), .second, .val (.long q2), .second, .val (.long q3), .second, .val (.long q4), .second, .val (.int p5), .val (.int oa), .val (.int ia), .val (.long c0), .second, .val (.long c1), .second, .val (.int (0 : Int32)), .val (.ref b1), .val (.ref b5), .val (.int (0 : Int32)), .val (.int (1 : Int32)), .unset] [(.int (1 : Int32))])
            refine Go.st (fun t k => XS.istore X9.here hx rfl (hb hby at_180) rfl (l' := #[.val (.long q1), .second, .val (.long q2), .second, .val (.long q3), .second, .val (.long q4), .second, .val (.int p5), .val (.int oa), .val (.int ia), .val (.long c0), .second, .val (.long c1), .second, .val (.int (0 : Int32)), .val (.ref b1), .val (.ref b5), .val (.int (0 : Int32)), .val (.int (1 : Int32)), .val (.int (1 : Int32))]) rfl k) ?_
            show Go _ _ _ _ T9 (mkF m 182 #[.val (.long q1), .second, .val (.long q2), .second, .val (.long q3), .second, .val (.long q4), .second, .val (.int p5), .val (.int oa), .val (.int ia), .val (.long c0), .second, .val (.long c1), .second, .val (.int (0 : Int32)), .val (.ref b1), .val (.ref b5), .val (.int (0 : Int32)), .val (.int (1 : Int32)), .val (.int (1 : Int32))] [])
            refine Go.st (fun t k => XS.aload X9.here hx rfl (hb hby at_182) rfl rfl k) ?_
            show Go _ _ _ _ T9 (mkF m 184 #[.val (.long q1), .second, .val (.long q2), .second, .val (.long q3), .second, .val (.long q4), .second, .val (.int p5), .val (.int oa), .val (.int ia), .val (.long c0), .second, .val (.long c1), .second, .val (.int (0 : Int32)), .val (.ref b1), .val (.ref b5), .val (.int (0 : Int32)), .val (.int (1 : Int32)), .val (.int (1 : Int32))] [(.ref b1)])
            refine Go.st (fun t k => XS.iload X9.here hx rfl (hb hby at_184) rfl k) ?_
            show Go _ _ _ _ T9 (mkF m 186 #[.val (.long q1), .second, .val (.long q2), .second, .val (.long q3), .second, .val (.long q4), .second, .val (.int p5), .val (.int oa), .val (.int ia), .val (.long c0), .second, .val (.long c1), .second, .val (.int (0 : Int32)), .val (.ref b1), .val (.ref b5), .val (.int (0 : Int32)), .val (.int (1 : Int32)), .val (.int (1 : Int32))] [(.int oa), (.ref b1)])
            refine Go.st (fun t k => XS.aload X9.here hx rfl (hb hby at_186) rfl rfl k) ?_
            show Go _ _ _ _ T9 (mkF m 188 #[.val (.long q1), .second, .val (.long q2), .second, .val (.long q3), .second, .val (.long q4), .second, .val (.int p5), .val (.int oa), .val (.int ia), .val (.long c0), .second, .val (.long c1), .second, .val (.int (0 : Int32)), .val (.ref b1), .val (.ref b5), .val (.int (0 : Int32)), .val (.int (1 : Int32)), .val (.int (1 : Int32))] [(.ref b5), (.int oa), (.ref b1)])
            refine Go.st (fun t k => XS.iload X9.here hx rfl (hb hby at_188) rfl k) ?_
            show Go _ _ _ _ T9 (mkF m 190 #[.val (.long q1), .second, .val (.long q2), .second, .val (.long q3), .second, .val (.long q4), .second, .val (.int p5), .val (.int oa), .val (.int ia), .val (.long c0), .second, .val (.long c1), .second, .val (.int (0 : Int32)), .val (.ref b1), .val (.ref b5), .val (.int (0 : Int32)), .val (.int (1 : Int32)), .val (.int (1 : Int32))] [(.int ia), (.ref b5), (.int oa), (.ref b1)])
            refine Go.st (fun t k => XS.iload X9.here hx rfl (hb hby at_190) rfl k) ?_
            show Go _ _ _ _ T9 (mkF m 192 #[.val (.long q1), .second, .val (.long q2), .second, .val (.long q3), .second, .val (.long q4), .second, .val (.int p5), .val (.int oa), .val (.int ia), .val (.long c0), .second, .val (.long c1), .second, .val (.int (0 : Int32)), .val (.ref b1), .val (.ref b5), .val (.int (0 : Int32)), .val (.int (1 : Int32)), .val (.int (1 : Int32))] [(.int (0 : Int32)), (.int ia), (.ref b5), (.int oa), (.ref b1)])
            refine goS X9 hx hZ (y := (⟨"com/example/counterpath/counterpath/analysis/Zone", "mayInclude", "([JI[JII)Z"⟩ : MethodName)) hown (hw _ (List.mem_of_getElem? (i := 2) rfl)) (hw _ (List.mem_of_getElem? (i := 3) rfl)) (hw _ (List.mem_of_getElem? (i := 4) rfl)) (hw _ (List.mem_of_getElem? (i := 5) rfl)) (by decide) (rm1 l Z a0 hw b1 oa b5 ia (0 : Int32) h9 n0 Z9 ka kb 3 _ _ q1 q2 c0 c1 (by decide) V_b1 V_b5 A2 A1 B2 B1 (by simp) (by simp) (by simp) (by simp)) e9 N9 0 (by decide) (by decide) (by decide) (by decide) (g := (mkF m 192 #[.val (.long q1), .second, .val (.long q2), .second, .val (.long q3), .second, .val (.long q4), .second, .val (.int p5), .val (.int oa), .val (.int ia), .val (.long c0), .second, .val (.long c1), .second, .val (.int (0 : Int32)), .val (.ref b1), .val (.ref b5), .val (.int (0 : Int32)), .val (.int (1 : Int32)), .val (.int (1 : Int32))] [(.int (0 : Int32)), (.int ia), (.ref b5), (.int oa), (.ref b1)])) rfl (by rw [hml]; rfl) [(.ref b1), (.int oa), (.ref b5), (.int ia), (.int (0 : Int32))] [] (lenOf pd0_0 rfl) rfl rfl (by show 2 * 0 + _ ≤ _; exact Nat.le_of_eq rfl) (hb hby at_192) ?_
            intro T19 v19 L19 M19 X19 N19 hq19
            obtain ⟨hq19, N19q, e19⟩ := hq19
            replace N19 := N19 N19q
            rcases hq19 with ⟨hr19, rfl⟩ | ⟨hr19, rfl⟩
            ·
              show Go _ _ _ _ T19 (mkF m 195 #[.val (.long q1), .second, .val (.long q2), .second, .val (.long q3), .second, .val (.long q4), .second, .val (.int p5), .val (.int oa), .val (.int ia), .val (.long c0), .second, .val (.long c1), .second, .val (.int (0 : Int32)), .val (.ref b1), .val (.ref b5), .val (.int (0 : Int32)), .val (.int (1 : Int32)), .val (.int (1 : Int32))] [(.int (1 : Int32))])
              refine Go.st (fun t k => XS.iload X19.here hx rfl (hb hby at_195) rfl k) ?_
              show Go _ _ _ _ T19 (mkF m 197 #[.val (.long q1), .second, .val (.long q2), .second, .val (.long q3), .second, .val (.long q4), .second, .val (.int p5), .val (.int oa), .val (.int ia), .val (.long c0), .second, .val (.long c1), .second, .val (.int (0 : Int32)), .val (.ref b1), .val (.ref b5), .val (.int (0 : Int32)), .val (.int (1 : Int32)), .val (.int (1 : Int32))] [(.int (1 : Int32)), (.int (1 : Int32))])
              refine Go.st (fun t k => XS.icmpNo X19.here hx rfl (hb hby at_197) rfl (by decide) k) ?_
              show Go _ _ _ _ T19 (mkF m 200 #[.val (.long q1), .second, .val (.long q2), .second, .val (.long q3), .second, .val (.long q4), .second, .val (.int p5), .val (.int oa), .val (.int ia), .val (.long c0), .second, .val (.long c1), .second, .val (.int (0 : Int32)), .val (.ref b1), .val (.ref b5), .val (.int (0 : Int32)), .val (.int (1 : Int32)), .val (.int (1 : Int32))] [])
              refine Go.st (fun t k => XS.iconst X19.here hx rfl (hb hby at_200) k) ?_
              show Go _ _ _ _ T19 (mkF m 201 #[.val (.long q1), .second, .val (.long q2), .second, .val (.long q3), .second, .val (.long q4), .second, .val (.int p5), .val (.int oa), .val (.int ia), .val (.long c0), .second, .val (.long c1), .second, .val (.int (0 : Int32)), .val (.ref b1), .val (.ref b5), .val (.int (0 : Int32)), .val (.int (1 : Int32)), .val (.int (1 : Int32))] [(.int (1 : Int32))])
              refine Go.st (fun t k => XS.goto X19.here hx rfl (pc0 := 201) (pc' := 205) rfl (hb hby at_201) (by decide) (by decide) k) ?_
              show Go _ _ _ _ T19 (mkF m 205 #[.val (.long q1), .second, .val (.long q2), .second, .val (.long q3), .second, .val (.long q4), .second, .val (.int p5), .val (.int oa), .val (.int ia), .val (.long c0), .second, .val (.long c1), .second, .val (.int (0 : Int32)), .val (.ref b1), .val (.ref b5), .val (.int (0 : Int32)), .val (.int (1 : Int32)), .val (.int (1 : Int32))] [(.int (1 : Int32))])
              exact goN X19 hx hret hlk (by simp) (hb hby at_205) (by decide) (by decide) ⟨rfl, N19⟩
            ·
              exact absurd ⟨fun q => absurd q (by decide), fun q => absurd q (by decide)⟩ hr19
          ·
            show Go _ _ _ _ T9 (mkF m 154 #[.val (.long q1), .second, .val (.long q2), .second, .val (.long q3), .second, .val (.long q4), .second, .val (.int p5), .val (.int oa), .val (.int ia), .val (.long c0), .second, .val (.long c1), .second, .val (.int (1 : Int32)), .val (.ref b1), .val (.ref b5), .val (.int (0 : Int32)), .val (.int (1 : Int32)), .unset] [])
            show Go _ _ _ _ T9 (mkF m 154 #[.val (.long q1), .second, .val (.long q2), .second, .val (.long q3), .second, .val (.long q4), .second, .val (.int p5), .val (.int oa), .val (.int ia), .val (.long c0), .second, .val (.long c1), .second, .val (.int (1 : Int32)), .val (.ref b1), .val (.ref b5), .val (.int (0 : Int32)), .val (.int (1 : Int32)), .unset] [])
            refine Go.st (fun t k => XS.iload X9.here hx rfl (hb hby at_154) rfl k) ?_
            show Go _ _ _ _ T9 (mkF m 156 #[.val (.long q1), .second, .val (.long q2), .second, .val (.long q3), .second, .val (.long q4), .second, .val (.int p5), .val (.int oa), .val (.int ia), .val (.long c0), .second, .val (.long c1), .second, .val (.int (1 : Int32)), .val (.ref b1), .val (.ref b5), .val (.int (0 : Int32)), .val (.int (1 : Int32)), .unset] [(.int (1 : Int32))])
            refine Go.st (fun t k => XS.ifNo X9.here hx rfl (hb hby at_156) rfl (by decide) k) ?_
            show Go _ _ _ _ T9 (mkF m 159 #[.val (.long q1), .second, .val (.long q2), .second, .val (.long q3), .second, .val (.long q4), .second, .val (.int p5), .val (.int oa), .val (.int ia), .val (.long c0), .second, .val (.long c1), .second, .val (.int (1 : Int32)), .val (.ref b1), .val (.ref b5), .val (.int (0 : Int32)), .val (.int (1 : Int32)), .unset] [])
            refine Go.st (fun t k => XS.iload X9.here hx rfl (hb hby at_159) rfl k) ?_
            show Go _ _ _ _ T9 (mkF m 161 #[.val (.long q1), .second, .val (.long q2), .second, .val (.long q3), .second, .val (.long q4), .second, .val (.int p5), .val (.int oa), .val (.int ia), .val (.long c0), .second, .val (.long c1), .second, .val (.int (1 : Int32)), .val (.ref b1), .val (.ref b5), .val (.int (0 : Int32)), .val (.int (1 : Int32)), .unset] [(.int (0 : Int32))])
            refine Go.st (fun t k => XS.ifYes X9.here hx rfl (pc0 := 161) (pc' := 179) rfl (hb hby at_161) rfl (by decide) (by decide) (by decide) k) ?_
            show Go _ _ _ _ T9 (mkF m 179 #[.val (.long q1), .second, .val (.long q2), .second, .val (.long q3), .second, .val (.long q4), .second, .val (.int p5), .val (.int oa), .val (.int ia), .val (.long c0), .second, .val (.long c1), .second, .val (.int (1 : Int32)), .val (.ref b1), .val (.ref b5), .val (.int (0 : Int32)), .val (.int (1 : Int32)), .unset] [])
            refine Go.st (fun t k => XS.iconst X9.here hx rfl (hb hby at_179) k) ?_
            show Go _ _ _ _ T9 (mkF m 180 #[.val (.long q1), .second, .val (.long q2), .second, .val (.long q3), .second, .val (.long q4), .second, .val (.int p5), .val (.int oa), .val (.int ia), .val (.long c0), .second, .val (.long c1), .second, .val (.int (1 : Int32)), .val (.ref b1), .val (.ref b5), .val (.int (0 : Int32)), .val (.int (1 : Int32)), .unset] [(.int (0 : Int32))])
            refine Go.st (fun t k => XS.istore X9.here hx rfl (hb hby at_180) rfl (l' := #[.val (.long q1), .second, .val (.long q2), .second, .val (.long q3), .second, .val (.long q4), .second, .val (.int p5), .val (.int oa), .val (.int ia), .val (.long c0), .second, .val (.long c1), .second, .val (.int (1 : Int32)), .val (.ref b1), .val (.ref b5), .val (.int (0 : Int32)), .val (.int (1 : Int32)), .val (.int (0 : Int32))]) rfl k) ?_
            show Go _ _ _ _ T9 (mkF m 182 #[.val (.long q1), .second, .val (.long q2), .second, .val (.long q3), .second, .val (.long q4), .second, .val (.int p5), .val (.int oa), .val (.int ia), .val (.long c0), .second, .val (.long c1), .second, .val (.int (1 : Int32)), .val (.ref b1), .val (.ref b5), .val (.int (0 : Int32)), .val (.int (1 : Int32)), .val (.int (0 : Int32))] [])
            refine Go.st (fun t k => XS.aload X9.here hx rfl (hb hby at_182) rfl rfl k) ?_
            show Go _ _ _ _ T9 (mkF m 184 #[.val (.long q1), .second, .val (.long q2), .second, .val (.long q3), .second, .val (.long q4), .second, .val (.int p5), .val (.int oa), .val (.int ia), .val (.long c0), .second, .val (.long c1), .second, .val (.int (1 : Int32)), .val (.ref b1), .val (.ref b5), .val (.int (0 : Int32)), .val (.int (1 : Int32)), .val (.int (0 : Int32))] [(.ref b1)])
            refine Go.st (fun t k => XS.iload X9.here hx rfl (hb hby at_184) rfl k) ?_
            show Go _ _ _ _ T9 (mkF m 186 #[.val (.long q1), .second, .val (.long q2), .second, .val (.long q3), .second, .val (.long q4), .second, .val (.int p5), .val (.int oa), .val (.int ia), .val (.long c0), .second, .val (.long c1), .second, .val (.int (1 : Int32)), .val (.ref b1), .val (.ref b5), .val (.int (0 : Int32)), .val (.int (1 : Int32)), .val (.int (0 : Int32))] [(.int oa), (.ref b1)])
            refine Go.st (fun t k => XS.aload X9.here hx rfl (hb hby at_186) rfl rfl k) ?_
            show Go _ _ _ _ T9 (mkF m 188 #[.val (.long q1), .second, .val (.long q2), .second, .val (.long q3), .second, .val (.long q4), .second, .val (.int p5), .val (.int oa), .val (.int ia), .val (.long c0), .second, .val (.long c1), .second, .val (.int (1 : Int32)), .val (.ref b1), .val (.ref b5), .val (.int (0 : Int32)), .val (.int (1 : Int32)), .val (.int (0 : Int32))] [(.ref b5), (.int oa), (.ref b1)])
            refine Go.st (fun t k => XS.iload X9.here hx rfl (hb hby at_188) rfl k) ?_
            show Go _ _ _ _ T9 (mkF m 190 #[.val (.long q1), .second, .val (.long q2), .second, .val (.long q3), .second, .val (.long q4), .second, .val (.int p5), .val (.int oa), .val (.int ia), .val (.long c0), .second, .val (.long c1), .second, .val (.int (1 : Int32)), .val (.ref b1), .val (.ref b5), .val (.int (0 : Int32)), .val (.int (1 : Int32)), .val (.int (0 : Int32))] [(.int ia), (.ref b5), (.int oa), (.ref b1)])
            refine Go.st (fun t k => XS.iload X9.here hx rfl (hb hby at_190) rfl k) ?_
            show Go _ _ _ _ T9 (mkF m 192 #[.val (.long q1), .second, .val (.long q2), .second, .val (.long q3), .second, .val (.long q4), .second, .val (.int p5), .val (.int oa), .val (.int ia), .val (.long c0), .second, .val (.long c1), .second, .val (.int (1 : Int32)), .val (.ref b1), .val (.ref b5), .val (.int (0 : Int32)), .val (.int (1 : Int32)), .val (.int (0 : Int32))] [(.int (1 : Int32)), (.int ia), (.ref b5), (.int oa), (.ref b1)])
            refine goS X9 hx hZ (y := (⟨"com/example/counterpath/counterpath/analysis/Zone", "mayInclude", "([JI[JII)Z"⟩ : MethodName)) hown (hw _ (List.mem_of_getElem? (i := 2) rfl)) (hw _ (List.mem_of_getElem? (i := 3) rfl)) (hw _ (List.mem_of_getElem? (i := 4) rfl)) (hw _ (List.mem_of_getElem? (i := 5) rfl)) (by decide) (rm1 l Z a0 hw b1 oa b5 ia (1 : Int32) h9 n0 Z9 ka kb 3 _ _ q1 q2 c0 c1 (by decide) V_b1 V_b5 A2 A1 B2 B1 (by simp) (by simp) (by simp) (by simp)) e9 N9 0 (by decide) (by decide) (by decide) (by decide) (g := (mkF m 192 #[.val (.long q1), .second, .val (.long q2), .second, .val (.long q3), .second, .val (.long q4), .second, .val (.int p5), .val (.int oa), .val (.int ia), .val (.long c0), .second, .val (.long c1), .second, .val (.int (1 : Int32)), .val (.ref b1), .val (.ref b5), .val (.int (0 : Int32)), .val (.int (1 : Int32)), .val (.int (0 : Int32))] [(.int (1 : Int32)), (.int ia), (.ref b5), (.int oa), (.ref b1)])) rfl (by rw [hml]; rfl) [(.ref b1), (.int oa), (.ref b5), (.int ia), (.int (1 : Int32))] [] (lenOf pd0_0 rfl) rfl rfl (by show 2 * 0 + _ ≤ _; exact Nat.le_of_eq rfl) (hb hby at_192) ?_
            intro T20 v20 L20 M20 X20 N20 hq20
            obtain ⟨hq20, N20q, e20⟩ := hq20
            replace N20 := N20 N20q
            rcases hq20 with ⟨hr20, rfl⟩ | ⟨hr20, rfl⟩
            ·
              exact absurd (hr20.1 (by decide)) (fun q => hs0 ((lw_eq _ _).mpr ((own_sub _ _).mp q)))
            ·
              show Go _ _ _ _ T20 (mkF m 195 #[.val (.long q1), .second, .val (.long q2), .second, .val (.long q3), .second, .val (.long q4), .second, .val (.int p5), .val (.int oa), .val (.int ia), .val (.long c0), .second, .val (.long c1), .second, .val (.int (1 : Int32)), .val (.ref b1), .val (.ref b5), .val (.int (0 : Int32)), .val (.int (1 : Int32)), .val (.int (0 : Int32))] [(.int (0 : Int32))])
              refine Go.st (fun t k => XS.iload X20.here hx rfl (hb hby at_195) rfl k) ?_
              show Go _ _ _ _ T20 (mkF m 197 #[.val (.long q1), .second, .val (.long q2), .second, .val (.long q3), .second, .val (.long q4), .second, .val (.int p5), .val (.int oa), .val (.int ia), .val (.long c0), .second, .val (.long c1), .second, .val (.int (1 : Int32)), .val (.ref b1), .val (.ref b5), .val (.int (0 : Int32)), .val (.int (1 : Int32)), .val (.int (0 : Int32))] [(.int (0 : Int32)), (.int (0 : Int32))])
              refine Go.st (fun t k => XS.icmpNo X20.here hx rfl (hb hby at_197) rfl (by decide) k) ?_
              show Go _ _ _ _ T20 (mkF m 200 #[.val (.long q1), .second, .val (.long q2), .second, .val (.long q3), .second, .val (.long q4), .second, .val (.int p5), .val (.int oa), .val (.int ia), .val (.long c0), .second, .val (.long c1), .second, .val (.int (1 : Int32)), .val (.ref b1), .val (.ref b5), .val (.int (0 : Int32)), .val (.int (1 : Int32)), .val (.int (0 : Int32))] [])
              refine Go.st (fun t k => XS.iconst X20.here hx rfl (hb hby at_200) k) ?_
              show Go _ _ _ _ T20 (mkF m 201 #[.val (.long q1), .second, .val (.long q2), .second, .val (.long q3), .second, .val (.long q4), .second, .val (.int p5), .val (.int oa), .val (.int ia), .val (.long c0), .second, .val (.long c1), .second, .val (.int (1 : Int32)), .val (.ref b1), .val (.ref b5), .val (.int (0 : Int32)), .val (.int (1 : Int32)), .val (.int (0 : Int32))] [(.int (1 : Int32))])
              refine Go.st (fun t k => XS.goto X20.here hx rfl (pc0 := 201) (pc' := 205) rfl (hb hby at_201) (by decide) (by decide) k) ?_
              show Go _ _ _ _ T20 (mkF m 205 #[.val (.long q1), .second, .val (.long q2), .second, .val (.long q3), .second, .val (.long q4), .second, .val (.int p5), .val (.int oa), .val (.int ia), .val (.long c0), .second, .val (.long c1), .second, .val (.int (1 : Int32)), .val (.ref b1), .val (.ref b5), .val (.int (0 : Int32)), .val (.int (1 : Int32)), .val (.int (0 : Int32))] [(.int (1 : Int32))])
              exact goN X20 hx hret hlk (by simp) (hb hby at_205) (by decide) (by decide) ⟨rfl, N20⟩
          ·
            show Go _ _ _ _ T9 (mkF m 154 #[.val (.long q1), .second, .val (.long q2), .second, .val (.long q3), .second, .val (.long q4), .second, .val (.int p5), .val (.int oa), .val (.int ia), .val (.long c0), .second, .val (.long c1), .second, .val (.int (2 : Int32)), .val (.ref b1), .val (.ref b5), .val (.int (0 : Int32)), .val (.int (1 : Int32)), .unset] [])
            show Go _ _ _ _ T9 (mkF m 154 #[.val (.long q1), .second, .val (.long q2), .second, .val (.long q3), .second, .val (.long q4), .second, .val (.int p5), .val (.int oa), .val (.int ia), .val (.long c0), .second, .val (.long c1), .second, .val (.int (2 : Int32)), .val (.ref b1), .val (.ref b5), .val (.int (0 : Int32)), .val (.int (1 : Int32)), .unset] [])
            refine Go.st (fun t k => XS.iload X9.here hx rfl (hb hby at_154) rfl k) ?_
            show Go _ _ _ _ T9 (mkF m 156 #[.val (.long q1), .second, .val (.long q2), .second, .val (.long q3), .second, .val (.long q4), .second, .val (.int p5), .val (.int oa), .val (.int ia), .val (.long c0), .second, .val (.long c1), .second, .val (.int (2 : Int32)), .val (.ref b1), .val (.ref b5), .val (.int (0 : Int32)), .val (.int (1 : Int32)), .unset] [(.int (2 : Int32))])
            refine Go.st (fun t k => XS.ifNo X9.here hx rfl (hb hby at_156) rfl (by decide) k) ?_
            show Go _ _ _ _ T9 (mkF m 159 #[.val (.long q1), .second, .val (.long q2), .second, .val (.long q3), .second, .val (.long q4), .second, .val (.int p5), .val (.int oa), .val (.int ia), .val (.long c0), .second, .val (.long c1), .second, .val (.int (2 : Int32)), .val (.ref b1), .val (.ref b5), .val (.int (0 : Int32)), .val (.int (1 : Int32)), .unset] [])
            refine Go.st (fun t k => XS.iload X9.here hx rfl (hb hby at_159) rfl k) ?_
            show Go _ _ _ _ T9 (mkF m 161 #[.val (.long q1), .second, .val (.long q2), .second, .val (.long q3), .second, .val (.long q4), .second, .val (.int p5), .val (.int oa), .val (.int ia), .val (.long c0), .second, .val (.long c1), .second, .val (.int (2 : Int32)), .val (.ref b1), .val (.ref b5), .val (.int (0 : Int32)), .val (.int (1 : Int32)), .unset] [(.int (0 : Int32))])
            refine Go.st (fun t k => XS.ifYes X9.here hx rfl (pc0 := 161) (pc' := 179) rfl (hb hby at_161) rfl (by decide) (by decide) (by decide) k) ?_
            show Go _ _ _ _ T9 (mkF m 179 #[.val (.long q1), .second, .val (.long q2), .second, .val (.long q3), .second, .val (.long q4), .second, .val (.int p5), .val (.int oa), .val (.int ia), .val (.long c0), .second, .val (.long c1), .second, .val (.int (2 : Int32)), .val (.ref b1), .val (.ref b5), .val (.int (0 : Int32)), .val (.int (1 : Int32)), .unset] [])
            refine Go.st (fun t k => XS.iconst X9.here hx rfl (hb hby at_179) k) ?_
            show Go _ _ _ _ T9 (mkF m 180 #[.val (.long q1), .second, .val (.long q2), .second, .val (.long q3), .second, .val (.long q4), .second, .val (.int p5), .val (.int oa), .val (.int ia), .val (.long c0), .second, .val (.long c1), .second, .val (.int (2 : Int32)), .val (.ref b1), .val (.ref b5), .val (.int (0 : Int32)), .val (.int (1 : Int32)), .unset] [(.int (0 : Int32))])
            refine Go.st (fun t k => XS.istore X9.here hx rfl (hb hby at_180) rfl (l' := #[.val (.long q1), .second, .val (.long q2), .second, .val (.long q3), .second, .val (.long q4), .second, .val (.int p5), .val (.int oa), .val (.int ia), .val (.long c0), .second, .val (.long c1), .second, .val (.int (2 : Int32)), .val (.ref b1), .val (.ref b5), .val (.int (0 : Int32)), .val (.int (1 : Int32)), .val (.int (0 : Int32))]) rfl k) ?_
            show Go _ _ _ _ T9 (mkF m 182 #[.val (.long q1), .second, .val (.long q2), .second, .val (.long q3), .second, .val (.long q4), .second, .val (.int p5), .val (.int oa), .val (.int ia), .val (.long c0), .second, .val (.long c1), .second, .val (.int (2 : Int32)), .val (.ref b1), .val (.ref b5), .val (.int (0 : Int32)), .val (.int (1 : Int32)), .val (.int (0 : Int32))] [])
            refine Go.st (fun t k => XS.aload X9.here hx rfl (hb hby at_182) rfl rfl k) ?_
            show Go _ _ _ _ T9 (mkF m 184 #[.val (.long q1), .second, .val (.long q2), .second, .val (.long q3), .second, .val (.long q4), .second, .val (.int p5), .val (.int oa), .val (.int ia), .val (.long c0), .second, .val (.long c1), .second, .val (.int (2 : Int32)), .val (.ref b1), .val (.ref b5), .val (.int (0 : Int32)), .val (.int (1 : Int32)), .val (.int (0 : Int32))] [(.ref b1)])
            refine Go.st (fun t k => XS.iload X9.here hx rfl (hb hby at_184) rfl k) ?_
            show Go _ _ _ _ T9 (mkF m 186 #[.val (.long q1), .second, .val (.long q2), .second, .val (.long q3), .second, .val (.long q4), .second, .val (.int p5), .val (.int oa), .val (.int ia), .val (.long c0), .second, .val (.long c1), .second, .val (.int (2 : Int32)), .val (.ref b1), .val (.ref b5), .val (.int (0 : Int32)), .val (.int (1 : Int32)), .val (.int (0 : Int32))] [(.int oa), (.ref b1)])
            refine Go.st (fun t k => XS.aload X9.here hx rfl (hb hby at_186) rfl rfl k) ?_
            show Go _ _ _ _ T9 (mkF m 188 #[.val (.long q1), .second, .val (.long q2), .second, .val (.long q3), .second, .val (.long q4), .second, .val (.int p5), .val (.int oa), .val (.int ia), .val (.long c0), .second, .val (.long c1), .second, .val (.int (2 : Int32)), .val (.ref b1), .val (.ref b5), .val (.int (0 : Int32)), .val (.int (1 : Int32)), .val (.int (0 : Int32))] [(.ref b5), (.int oa), (.ref b1)])
            refine Go.st (fun t k => XS.iload X9.here hx rfl (hb hby at_188) rfl k) ?_
            show Go _ _ _ _ T9 (mkF m 190 #[.val (.long q1), .second, .val (.long q2), .second, .val (.long q3), .second, .val (.long q4), .second, .val (.int p5), .val (.int oa), .val (.int ia), .val (.long c0), .second, .val (.long c1), .second, .val (.int (2 : Int32)), .val (.ref b1), .val (.ref b5), .val (.int (0 : Int32)), .val (.int (1 : Int32)), .val (.int (0 : Int32))] [(.int ia), (.ref b5), (.int oa), (.ref b1)])
            refine Go.st (fun t k => XS.iload X9.here hx rfl (hb hby at_190) rfl k) ?_
            show Go _ _ _ _ T9 (mkF m 192 #[.val (.long q1), .second, .val (.long q2), .second, .val (.long q3), .second, .val (.long q4), .second, .val (.int p5), .val (.int oa), .val (.int ia), .val (.long c0), .second, .val (.long c1), .second, .val (.int (2 : Int32)), .val (.ref b1), .val (.ref b5), .val (.int (0 : Int32)), .val (.int (1 : Int32)), .val (.int (0 : Int32))] [(.int (2 : Int32)), (.int ia), (.ref b5), (.int oa), (.ref b1)])
            refine goS X9 hx hZ (y := (⟨"com/example/counterpath/counterpath/analysis/Zone", "mayInclude", "([JI[JII)Z"⟩ : MethodName)) hown (hw _ (List.mem_of_getElem? (i := 2) rfl)) (hw _ (List.mem_of_getElem? (i := 3) rfl)) (hw _ (List.mem_of_getElem? (i := 4) rfl)) (hw _ (List.mem_of_getElem? (i := 5) rfl)) (by decide) (rm1 l Z a0 hw b1 oa b5 ia (2 : Int32) h9 n0 Z9 ka kb 3 _ _ q1 q2 c0 c1 (by decide) V_b1 V_b5 A2 A1 B2 B1 (by simp) (by simp) (by simp) (by simp)) e9 N9 0 (by decide) (by decide) (by decide) (by decide) (g := (mkF m 192 #[.val (.long q1), .second, .val (.long q2), .second, .val (.long q3), .second, .val (.long q4), .second, .val (.int p5), .val (.int oa), .val (.int ia), .val (.long c0), .second, .val (.long c1), .second, .val (.int (2 : Int32)), .val (.ref b1), .val (.ref b5), .val (.int (0 : Int32)), .val (.int (1 : Int32)), .val (.int (0 : Int32))] [(.int (2 : Int32)), (.int ia), (.ref b5), (.int oa), (.ref b1)])) rfl (by rw [hml]; rfl) [(.ref b1), (.int oa), (.ref b5), (.int ia), (.int (2 : Int32))] [] (lenOf pd0_0 rfl) rfl rfl (by show 2 * 0 + _ ≤ _; exact Nat.le_of_eq rfl) (hb hby at_192) ?_
            intro T21 v21 L21 M21 X21 N21 hq21
            obtain ⟨hq21, N21q, e21⟩ := hq21
            replace N21 := N21 N21q
            rcases hq21 with ⟨hr21, rfl⟩ | ⟨hr21, rfl⟩
            ·
              exact absurd (hr21.1 (by decide)) (fun q => hs0 ((lw_eq _ _).mpr ((own_sub _ _).mp q)))
            ·
              show Go _ _ _ _ T21 (mkF m 195 #[.val (.long q1), .second, .val (.long q2), .second, .val (.long q3), .second, .val (.long q4), .second, .val (.int p5), .val (.int oa), .val (.int ia), .val (.long c0), .second, .val (.long c1), .second, .val (.int (2 : Int32)), .val (.ref b1), .val (.ref b5), .val (.int (0 : Int32)), .val (.int (1 : Int32)), .val (.int (0 : Int32))] [(.int (0 : Int32))])
              refine Go.st (fun t k => XS.iload X21.here hx rfl (hb hby at_195) rfl k) ?_
              show Go _ _ _ _ T21 (mkF m 197 #[.val (.long q1), .second, .val (.long q2), .second, .val (.long q3), .second, .val (.long q4), .second, .val (.int p5), .val (.int oa), .val (.int ia), .val (.long c0), .second, .val (.long c1), .second, .val (.int (2 : Int32)), .val (.ref b1), .val (.ref b5), .val (.int (0 : Int32)), .val (.int (1 : Int32)), .val (.int (0 : Int32))] [(.int (0 : Int32)), (.int (0 : Int32))])
              refine Go.st (fun t k => XS.icmpNo X21.here hx rfl (hb hby at_197) rfl (by decide) k) ?_
              show Go _ _ _ _ T21 (mkF m 200 #[.val (.long q1), .second, .val (.long q2), .second, .val (.long q3), .second, .val (.long q4), .second, .val (.int p5), .val (.int oa), .val (.int ia), .val (.long c0), .second, .val (.long c1), .second, .val (.int (2 : Int32)), .val (.ref b1), .val (.ref b5), .val (.int (0 : Int32)), .val (.int (1 : Int32)), .val (.int (0 : Int32))] [])
              refine Go.st (fun t k => XS.iconst X21.here hx rfl (hb hby at_200) k) ?_
              show Go _ _ _ _ T21 (mkF m 201 #[.val (.long q1), .second, .val (.long q2), .second, .val (.long q3), .second, .val (.long q4), .second, .val (.int p5), .val (.int oa), .val (.int ia), .val (.long c0), .second, .val (.long c1), .second, .val (.int (2 : Int32)), .val (.ref b1), .val (.ref b5), .val (.int (0 : Int32)), .val (.int (1 : Int32)), .val (.int (0 : Int32))] [(.int (1 : Int32))])
              refine Go.st (fun t k => XS.goto X21.here hx rfl (pc0 := 201) (pc' := 205) rfl (hb hby at_201) (by decide) (by decide) k) ?_
              show Go _ _ _ _ T21 (mkF m 205 #[.val (.long q1), .second, .val (.long q2), .second, .val (.long q3), .second, .val (.long q4), .second, .val (.int p5), .val (.int oa), .val (.int ia), .val (.long c0), .second, .val (.long c1), .second, .val (.int (2 : Int32)), .val (.ref b1), .val (.ref b5), .val (.int (0 : Int32)), .val (.int (1 : Int32)), .val (.int (0 : Int32))] [(.int (1 : Int32))])
              exact goN X21 hx hret hlk (by simp) (hb hby at_205) (by decide) (by decide) ⟨rfl, N21⟩
        ·
          refine Go.st (fun t k => XS.ifYes X9.here hx rfl (pc0 := 144) (pc' := 151) rfl (hb hby at_144) rfl ((if0 _ _).trans (feq hs1).2) (by decide) (by decide) k) ?_
          show Go _ _ _ _ T9 (mkF m 151 #[.val (.long q1), .second, .val (.long q2), .second, .val (.long q3), .second, .val (.long q4), .second, .val (.int p5), .val (.int oa), .val (.int ia), .val (.long c0), .second, .val (.long c1), .second, .val (.int wd), .val (.ref b1), .val (.ref b5), .val (.int (0 : Int32)), .unset, .unset] [])
          refine Go.st (fun t k => XS.iconst X9.here hx rfl (hb hby at_151) k) ?_
          show Go _ _ _ _ T9 (mkF m 152 #[.val (.long q1), .second, .val (.long q2), .second, .val (.long q3), .second, .val (.long q4), .second, .val (.int p5), .val (.int oa), .val (.int ia), .val (.long c0), .second, .val (.long c1), .second, .val (.int wd), .val (.ref b1), .val (.ref b5), .val (.int (0 : Int32)), .unset, .unset] [(.int (0 : Int32))])
          refine Go.st (fun t k => XS.istore X9.here hx rfl (hb hby at_152) rfl (l' := #[.val (.long q1), .second, .val (.long q2), .second, .val (.long q3), .second, .val (.long q4), .second, .val (.int p5), .val (.int oa), .val (.int ia), .val (.long c0), .second, .val (.long c1), .second, .val (.int wd), .val (.ref b1), .val (.ref b5), .val (.int (0 : Int32)), .val (.int (0 : Int32)), .unset]) rfl k) ?_
          show Go _ _ _ _ T9 (mkF m 154 #[.val (.long q1), .second, .val (.long q2), .second, .val (.long q3), .second, .val (.long q4), .second, .val (.int p5), .val (.int oa), .val (.int ia), .val (.long c0), .second, .val (.long c1), .second, .val (.int wd), .val (.ref b1), .val (.ref b5), .val (.int (0 : Int32)), .val (.int (0 : Int32)), .unset] [])
          rcases hw3 with rfl | rfl | rfl
          ·
            show Go _ _ _ _ T9 (mkF m 154 #[.val (.long q1), .second, .val (.long q2), .second, .val (.long q3), .second, .val (.long q4), .second, .val (.int p5), .val (.int oa), .val (.int ia), .val (.long c0), .second, .val (.long c1), .second, .val (.int (0 : Int32)), .val (.ref b1), .val (.ref b5), .val (.int (0 : Int32)), .val (.int (0 : Int32)), .unset] [])
            show Go _ _ _ _ T9 (mkF m 154 #[.val (.long q1), .second, .val (.long q2), .second, .val (.long q3), .second, .val (.long q4), .second, .val (.int p5), .val (.int oa), .val (.int ia), .val (.long c0), .second, .val (.long c1), .second, .val (.int (0 : Int32)), .val (.ref b1), .val (.ref b5), .val (.int (0 : Int32)), .val (.int (0 : Int32)), .unset] [])
            refine Go.st (fun t k => XS.iload X9.here hx rfl (hb hby at_154) rfl k) ?_
            show Go _ _ _ _ T9 (mkF m 156 #[.val (.long q1), .second, .val (.long q2), .second, .val (.long q3), .second, .val (.long q4), .second, .val (.int p5), .val (.int oa), .val (.int ia), .val (.long c0), .second, .val (.long c1), .second, .val (.int (0 : Int32)), .val (.ref b1), .val (.ref b5), .val (.int (0 : Int32)), .val (.int (0 : Int32)), .unset] [(.int (0 : Int32))])
            refine Go.st (fun t k => XS.ifYes X9.here hx rfl (pc0 := 156) (pc' := 175) rfl (hb hby at_156) rfl (by decide) (by decide) (by decide) k) ?_
            show Go _ _ _ _ T9 (mkF m 175 #[.val (.long q1), .second, .val (.long q2), .second, .val (.long q3), .second, .val (.long q4), .second, .val (.int p5), .val (.int oa), .val (.int ia), .val (.long c0), .second, .val (.long c1), .second, .val (.int (0 : Int32)), .val (.ref b1), .val (.ref b5), .val (.int (0 : Int32)), .val (.int (0 : Int32)), .unset] [])
            refine Go.st (fun t k => XS.iconst X9.here hx rfl (hb hby at_175) k) ?_
            show Go _ _ _ _ T9 (mkF m 176 #[.val (.long q1), .second, .val (.long q2), .second, .val (.long q3), .second, .val (.long q4), .second, .val (.int p5), .val (.int oa), .val (.int ia), .val (.long c0), .second, .val (.long c1), .second, .val (.int (0 : Int32)), .val (.ref b1), .val (.ref b5), .val (.int (0 : Int32)), .val (.int (0 : Int32)), .unset] [(.int (1 : Int32))])
            refine Go.st (fun t k => XS.goto X9.here hx rfl (pc0 := 176) (pc' := 180) rfl (hb hby at_176) (by decide) (by decide) k) ?_
            show Go _ _ _ _ T9 (mkF m 180 #[.val (.long q1), .second, .val (.long q2), .second, .val (.long q3), .second, .val (.long q4), .second, .val (.int p5), .val (.int oa), .val (.int ia), .val (.long c0), .second, .val (.long c1), .second, .val (.int (0 : Int32)), .val (.ref b1), .val (.ref b5), .val (.int (0 : Int32)), .val (.int (0 : Int32)), .unset] [(.int (1 : Int32))])
            refine Go.st (fun t k => XS.istore X9.here hx rfl (hb hby at_180) rfl (l' := #[.val (.long q1), .second, .val (.long q2), .second, .val (.long q3), .second, .val (.long q4), .second, .val (.int p5), .val (.int oa), .val (.int ia), .val (.long c0), .second, .val (.long c1), .second, .val (.int (0 : Int32)), .val (.ref b1), .val (.ref b5), .val (.int (0 : Int32)), .val (.int (0 : Int32)), .val (.int (1 : Int32))]) rfl k) ?_
            show Go _ _ _ _ T9 (mkF m 182 #[.val (.long q1), .second, .val (.long q2), .second, .val (.long q3), .second, .val (.long q4), .second, .val (.int p5), .val (.int oa), .val (.int ia), .val (.long c0), .second, .val (.long c1), .second, .val (.int (0 : Int32)), .val (.ref b1), .val (.ref b5), .val (.int (0 : Int32)), .val (.int (0 : Int32)), .val (.int (1 : Int32))] [])
            refine Go.st (fun t k => XS.aload X9.here hx rfl (hb hby at_182) rfl rfl k) ?_
            show Go _ _ _ _ T9 (mkF m 184 #[.val (.long q1), .second, .val (.long q2), .second, .val (.long q3), .second, .val (.long q4), .second, .val (.int p5), .val (.int oa), .val (.int ia), .val (.long c0), .second, .val (.long c1), .second, .val (.int (0 : Int32)), .val (.ref b1), .val (.ref b5), .val (.int (0 : Int32)), .val (.int (0 : Int32)), .val (.int (1 : Int32))] [(.ref b1)])
            refine Go.st (fun t k => XS.iload X9.here hx rfl (hb hby at_184) rfl k) ?_
            show Go _ _ _ _ T9 (mkF m 186 #[.val (.long q1), .second, .val (.long q2), .second, .val (.long q3), .second, .val (.long q4), .second, .val (.int p5), .val (.int oa), .val (.int ia), .val (.long c0), .second, .val (.long c1), .second, .val (.int (0 : Int32)), .val (.ref b1), .val (.ref b5), .val (.int (0 : Int32)), .val (.int (0 : Int32)), .val (.int (1 : Int32))] [(.int oa), (.ref b1)])
            refine Go.st (fun t k => XS.aload X9.here hx rfl (hb hby at_186) rfl rfl k) ?_
            show Go _ _ _ _ T9 (mkF m 188 #[.val (.long q1), .second, .val (.long q2), .second, .val (.long q3), .second, .val (.long q4), .second, .val (.int p5), .val (.int oa), .val (.int ia), .val (.long c0), .second, .val (.long c1), .second, .val (.int (0 : Int32)), .val (.ref b1), .val (.ref b5), .val (.int (0 : Int32)), .val (.int (0 : Int32)), .val (.int (1 : Int32))] [(.ref b5), (.int oa), (.ref b1)])
            refine Go.st (fun t k => XS.iload X9.here hx rfl (hb hby at_188) rfl k) ?_
            show Go _ _ _ _ T9 (mkF m 190 #[.val (.long q1), .second, .val (.long q2), .second, .val (.long q3), .second, .val (.long q4), .second, .val (.int p5), .val (.int oa), .val (.int ia), .val (.long c0), .second, .val (.long c1), .second, .val (.int (0 : Int32)), .val (.ref b1), .val (.ref b5), .val (.int (0 : Int32)), .val (.int (0 : Int32)), .val (.int (1 : Int32))] [(.int ia), (.ref b5), (.int oa), (.ref b1)])
            refine Go.st (fun t k => XS.iload X9.here hx rfl (hb hby at_190) rfl k) ?_
            show Go _ _ _ _ T9 (mkF m 192 #[.val (.long q1), .second, .val (.long q2), .second, .val (.long q3), .second, .val (.long q4), .second, .val (.int p5), .val (.int oa), .val (.int ia), .val (.long c0), .second, .val (.long c1), .second, .val (.int (0 : Int32)), .val (.ref b1), .val (.ref b5), .val (.int (0 : Int32)), .val (.int (0 : Int32)), .val (.int (1 : Int32))] [(.int (0 : Int32)), (.int ia), (.ref b5), (.int oa), (.ref b1)])
            refine goS X9 hx hZ (y := (⟨"com/example/counterpath/counterpath/analysis/Zone", "mayInclude", "([JI[JII)Z"⟩ : MethodName)) hown (hw _ (List.mem_of_getElem? (i := 2) rfl)) (hw _ (List.mem_of_getElem? (i := 3) rfl)) (hw _ (List.mem_of_getElem? (i := 4) rfl)) (hw _ (List.mem_of_getElem? (i := 5) rfl)) (by decide) (rm1 l Z a0 hw b1 oa b5 ia (0 : Int32) h9 n0 Z9 ka kb 3 _ _ q1 q2 c0 c1 (by decide) V_b1 V_b5 A2 A1 B2 B1 (by simp) (by simp) (by simp) (by simp)) e9 N9 0 (by decide) (by decide) (by decide) (by decide) (g := (mkF m 192 #[.val (.long q1), .second, .val (.long q2), .second, .val (.long q3), .second, .val (.long q4), .second, .val (.int p5), .val (.int oa), .val (.int ia), .val (.long c0), .second, .val (.long c1), .second, .val (.int (0 : Int32)), .val (.ref b1), .val (.ref b5), .val (.int (0 : Int32)), .val (.int (0 : Int32)), .val (.int (1 : Int32))] [(.int (0 : Int32)), (.int ia), (.ref b5), (.int oa), (.ref b1)])) rfl (by rw [hml]; rfl) [(.ref b1), (.int oa), (.ref b5), (.int ia), (.int (0 : Int32))] [] (lenOf pd0_0 rfl) rfl rfl (by show 2 * 0 + _ ≤ _; exact Nat.le_of_eq rfl) (hb hby at_192) ?_
            intro T22 v22 L22 M22 X22 N22 hq22
            obtain ⟨hq22, N22q, e22⟩ := hq22
            replace N22 := N22 N22q
            rcases hq22 with ⟨hr22, rfl⟩ | ⟨hr22, rfl⟩
            ·
              show Go _ _ _ _ T22 (mkF m 195 #[.val (.long q1), .second, .val (.long q2), .second, .val (.long q3), .second, .val (.long q4), .second, .val (.int p5), .val (.int oa), .val (.int ia), .val (.long c0), .second, .val (.long c1), .second, .val (.int (0 : Int32)), .val (.ref b1), .val (.ref b5), .val (.int (0 : Int32)), .val (.int (0 : Int32)), .val (.int (1 : Int32))] [(.int (1 : Int32))])
              refine Go.st (fun t k => XS.iload X22.here hx rfl (hb hby at_195) rfl k) ?_
              show Go _ _ _ _ T22 (mkF m 197 #[.val (.long q1), .second, .val (.long q2), .second, .val (.long q3), .second, .val (.long q4), .second, .val (.int p5), .val (.int oa), .val (.int ia), .val (.long c0), .second, .val (.long c1), .second, .val (.int (0 : Int32)), .val (.ref b1), .val (.ref b5), .val (.int (0 : Int32)), .val (.int (0 : Int32)), .val (.int (1 : Int32))] [(.int (1 : Int32)), (.int (1 : Int32))])
              refine Go.st (fun t k => XS.icmpNo X22.here hx rfl (hb hby at_197) rfl (by decide) k) ?_
              show Go _ _ _ _ T22 (mkF m 200 #[.val (.long q1), .second, .val (.long q2), .second, .val (.long q3), .second, .val (.long q4), .second, .val (.int p5), .val (.int oa), .val (.int ia), .val (.long c0), .second, .val (.long c1), .second, .val (.int (0 : Int32)), .val (.ref b1), .val (.ref b5), .val (.int (0 : Int32)), .val (.int (0 : Int32)), .val (.int (1 : Int32))] [])
              refine Go.st (fun t k => XS.iconst X22.here hx rfl (hb hby at_200) k) ?_
              show Go _ _ _ _ T22 (mkF m 201 #[.val (.long q1), .second, .val (.long q2), .second, .val (.long q3), .second, .val (.long q4), .second, .val (.int p5), .val (.int oa), .val (.int ia), .val (.long c0), .second, .val (.long c1), .second, .val (.int (0 : Int32)), .val (.ref b1), .val (.ref b5), .val (.int (0 : Int32)), .val (.int (0 : Int32)), .val (.int (1 : Int32))] [(.int (1 : Int32))])
              refine Go.st (fun t k => XS.goto X22.here hx rfl (pc0 := 201) (pc' := 205) rfl (hb hby at_201) (by decide) (by decide) k) ?_
              show Go _ _ _ _ T22 (mkF m 205 #[.val (.long q1), .second, .val (.long q2), .second, .val (.long q3), .second, .val (.long q4), .second, .val (.int p5), .val (.int oa), .val (.int ia), .val (.long c0), .second, .val (.long c1), .second, .val (.int (0 : Int32)), .val (.ref b1), .val (.ref b5), .val (.int (0 : Int32)), .val (.int (0 : Int32)), .val (.int (1 : Int32))] [(.int (1 : Int32))])
              exact goN X22 hx hret hlk (by simp) (hb hby at_205) (by decide) (by decide) ⟨rfl, N22⟩
            ·
              exact absurd ⟨fun q => absurd q (by decide), fun q => absurd q (by decide)⟩ hr22
          ·
            show Go _ _ _ _ T9 (mkF m 154 #[.val (.long q1), .second, .val (.long q2), .second, .val (.long q3), .second, .val (.long q4), .second, .val (.int p5), .val (.int oa), .val (.int ia), .val (.long c0), .second, .val (.long c1), .second, .val (.int (1 : Int32)), .val (.ref b1), .val (.ref b5), .val (.int (0 : Int32)), .val (.int (0 : Int32)), .unset] [])
            show Go _ _ _ _ T9 (mkF m 154 #[.val (.long q1), .second, .val (.long q2), .second, .val (.long q3), .second, .val (.long q4), .second, .val (.int p5), .val (.int oa), .val (.int ia), .val (.long c0), .second, .val (.long c1), .second, .val (.int (1 : Int32)), .val (.ref b1), .val (.ref b5), .val (.int (0 : Int32)), .val (.int (0 : Int32)), .unset] [])
            refine Go.st (fun t k => XS.iload X9.here hx rfl (hb hby at_154) rfl k) ?_
            show Go _ _ _ _ T9 (mkF m 156 #[.val (.long q1), .second, .val (.long q2), .second, .val (.long q3), .second, .val (.long q4), .second, .val (.int p5), .val (.int oa), .val (.int ia), .val (.long c0), .second, .val (.long c1), .second, .val (.int (1 : Int32)), .val (.ref b1), .val (.ref b5), .val (.int (0 : Int32)), .val (.int (0 : Int32)), .unset] [(.int (1 : Int32))])
            refine Go.st (fun t k => XS.ifNo X9.here hx rfl (hb hby at_156) rfl (by decide) k) ?_
            show Go _ _ _ _ T9 (mkF m 159 #[.val (.long q1), .second, .val (.long q2), .second, .val (.long q3), .second, .val (.long q4), .second, .val (.int p5), .val (.int oa), .val (.int ia), .val (.long c0), .second, .val (.long c1), .second, .val (.int (1 : Int32)), .val (.ref b1), .val (.ref b5), .val (.int (0 : Int32)), .val (.int (0 : Int32)), .unset] [])
            refine Go.st (fun t k => XS.iload X9.here hx rfl (hb hby at_159) rfl k) ?_
            show Go _ _ _ _ T9 (mkF m 161 #[.val (.long q1), .second, .val (.long q2), .second, .val (.long q3), .second, .val (.long q4), .second, .val (.int p5), .val (.int oa), .val (.int ia), .val (.long c0), .second, .val (.long c1), .second, .val (.int (1 : Int32)), .val (.ref b1), .val (.ref b5), .val (.int (0 : Int32)), .val (.int (0 : Int32)), .unset] [(.int (0 : Int32))])
            refine Go.st (fun t k => XS.ifYes X9.here hx rfl (pc0 := 161) (pc' := 179) rfl (hb hby at_161) rfl (by decide) (by decide) (by decide) k) ?_
            show Go _ _ _ _ T9 (mkF m 179 #[.val (.long q1), .second, .val (.long q2), .second, .val (.long q3), .second, .val (.long q4), .second, .val (.int p5), .val (.int oa), .val (.int ia), .val (.long c0), .second, .val (.long c1), .second, .val (.int (1 : Int32)), .val (.ref b1), .val (.ref b5), .val (.int (0 : Int32)), .val (.int (0 : Int32)), .unset] [])
            refine Go.st (fun t k => XS.iconst X9.here hx rfl (hb hby at_179) k) ?_
            show Go _ _ _ _ T9 (mkF m 180 #[.val (.long q1), .second, .val (.long q2), .second, .val (.long q3), .second, .val (.long q4), .second, .val (.int p5), .val (.int oa), .val (.int ia), .val (.long c0), .second, .val (.long c1), .second, .val (.int (1 : Int32)), .val (.ref b1), .val (.ref b5), .val (.int (0 : Int32)), .val (.int (0 : Int32)), .unset] [(.int (0 : Int32))])
            refine Go.st (fun t k => XS.istore X9.here hx rfl (hb hby at_180) rfl (l' := #[.val (.long q1), .second, .val (.long q2), .second, .val (.long q3), .second, .val (.long q4), .second, .val (.int p5), .val (.int oa), .val (.int ia), .val (.long c0), .second, .val (.long c1), .second, .val (.int (1 : Int32)), .val (.ref b1), .val (.ref b5), .val (.int (0 : Int32)), .val (.int (0 : Int32)), .val (.int (0 : Int32))]) rfl k) ?_
            show Go _ _ _ _ T9 (mkF m 182 #[.val (.long q1), .second, .val (.long q2), .second, .val (.long q3), .second, .val (.long q4), .second, .val (.int p5), .val (.int oa), .val (.int ia), .val (.long c0), .second, .val (.long c1), .second, .val (.int (1 : Int32)), .val (.ref b1), .val (.ref b5), .val (.int (0 : Int32)), .val (.int (0 : Int32)), .val (.int (0 : Int32))] [])
            refine Go.st (fun t k => XS.aload X9.here hx rfl (hb hby at_182) rfl rfl k) ?_
            show Go _ _ _ _ T9 (mkF m 184 #[.val (.long q1), .second, .val (.long q2), .second, .val (.long q3), .second, .val (.long q4), .second, .val (.int p5), .val (.int oa), .val (.int ia), .val (.long c0), .second, .val (.long c1), .second, .val (.int (1 : Int32)), .val (.ref b1), .val (.ref b5), .val (.int (0 : Int32)), .val (.int (0 : Int32)), .val (.int (0 : Int32))] [(.ref b1)])
            refine Go.st (fun t k => XS.iload X9.here hx rfl (hb hby at_184) rfl k) ?_
            show Go _ _ _ _ T9 (mkF m 186 #[.val (.long q1), .second, .val (.long q2), .second, .val (.long q3), .second, .val (.long q4), .second, .val (.int p5), .val (.int oa), .val (.int ia), .val (.long c0), .second, .val (.long c1), .second, .val (.int (1 : Int32)), .val (.ref b1), .val (.ref b5), .val (.int (0 : Int32)), .val (.int (0 : Int32)), .val (.int (0 : Int32))] [(.int oa), (.ref b1)])
            refine Go.st (fun t k => XS.aload X9.here hx rfl (hb hby at_186) rfl rfl k) ?_
            show Go _ _ _ _ T9 (mkF m 188 #[.val (.long q1), .second, .val (.long q2), .second, .val (.long q3), .second, .val (.long q4), .second, .val (.int p5), .val (.int oa), .val (.int ia), .val (.long c0), .second, .val (.long c1), .second, .val (.int (1 : Int32)), .val (.ref b1), .val (.ref b5), .val (.int (0 : Int32)), .val (.int (0 : Int32)), .val (.int (0 : Int32))] [(.ref b5), (.int oa), (.ref b1)])
            refine Go.st (fun t k => XS.iload X9.here hx rfl (hb hby at_188) rfl k) ?_
            show Go _ _ _ _ T9 (mkF m 190 #[.val (.long q1), .second, .val (.long q2), .second, .val (.long q3), .second, .val (.long q4), .second, .val (.int p5), .val (.int oa), .val (.int ia), .val (.long c0), .second, .val (.long c1), .second, .val (.int (1 : Int32)), .val (.ref b1), .val (.ref b5), .val (.int (0 : Int32)), .val (.int (0 : Int32)), .val (.int (0 : Int32))] [(.int ia), (.ref b5), (.int oa), (.ref b1)])
            refine Go.st (fun t k => XS.iload X9.here hx rfl (hb hby at_190) rfl k) ?_
            show Go _ _ _ _ T9 (mkF m 192 #[.val (.long q1), .second, .val (.long q2), .second, .val (.long q3), .second, .val (.long q4), .second, .val (.int p5), .val (.int oa), .val (.int ia), .val (.long c0), .second, .val (.long c1), .second, .val (.int (1 : Int32)), .val (.ref b1), .val (.ref b5), .val (.int (0 : Int32)), .val (.int (0 : Int32)), .val (.int (0 : Int32))] [(.int (1 : Int32)), (.int ia), (.ref b5), (.int oa), (.ref b1)])
            refine goS X9 hx hZ (y := (⟨"com/example/counterpath/counterpath/analysis/Zone", "mayInclude", "([JI[JII)Z"⟩ : MethodName)) hown (hw _ (List.mem_of_getElem? (i := 2) rfl)) (hw _ (List.mem_of_getElem? (i := 3) rfl)) (hw _ (List.mem_of_getElem? (i := 4) rfl)) (hw _ (List.mem_of_getElem? (i := 5) rfl)) (by decide) (rm1 l Z a0 hw b1 oa b5 ia (1 : Int32) h9 n0 Z9 ka kb 3 _ _ q1 q2 c0 c1 (by decide) V_b1 V_b5 A2 A1 B2 B1 (by simp) (by simp) (by simp) (by simp)) e9 N9 0 (by decide) (by decide) (by decide) (by decide) (g := (mkF m 192 #[.val (.long q1), .second, .val (.long q2), .second, .val (.long q3), .second, .val (.long q4), .second, .val (.int p5), .val (.int oa), .val (.int ia), .val (.long c0), .second, .val (.long c1), .second, .val (.int (1 : Int32)), .val (.ref b1), .val (.ref b5), .val (.int (0 : Int32)), .val (.int (0 : Int32)), .val (.int (0 : Int32))] [(.int (1 : Int32)), (.int ia), (.ref b5), (.int oa), (.ref b1)])) rfl (by rw [hml]; rfl) [(.ref b1), (.int oa), (.ref b5), (.int ia), (.int (1 : Int32))] [] (lenOf pd0_0 rfl) rfl rfl (by show 2 * 0 + _ ≤ _; exact Nat.le_of_eq rfl) (hb hby at_192) ?_
            intro T23 v23 L23 M23 X23 N23 hq23
            obtain ⟨hq23, N23q, e23⟩ := hq23
            replace N23 := N23 N23q
            rcases hq23 with ⟨hr23, rfl⟩ | ⟨hr23, rfl⟩
            ·
              exact absurd (hr23.1 (by decide)) (fun q => hs0 ((lw_eq _ _).mpr ((own_sub _ _).mp q)))
            ·
              show Go _ _ _ _ T23 (mkF m 195 #[.val (.long q1), .second, .val (.long q2), .second, .val (.long q3), .second, .val (.long q4), .second, .val (.int p5), .val (.int oa), .val (.int ia), .val (.long c0), .second, .val (.long c1), .second, .val (.int (1 : Int32)), .val (.ref b1), .val (.ref b5), .val (.int (0 : Int32)), .val (.int (0 : Int32)), .val (.int (0 : Int32))] [(.int (0 : Int32))])
              refine Go.st (fun t k => XS.iload X23.here hx rfl (hb hby at_195) rfl k) ?_
              show Go _ _ _ _ T23 (mkF m 197 #[.val (.long q1), .second, .val (.long q2), .second, .val (.long q3), .second, .val (.long q4), .second, .val (.int p5), .val (.int oa), .val (.int ia), .val (.long c0), .second, .val (.long c1), .second, .val (.int (1 : Int32)), .val (.ref b1), .val (.ref b5), .val (.int (0 : Int32)), .val (.int (0 : Int32)), .val (.int (0 : Int32))] [(.int (0 : Int32)), (.int (0 : Int32))])
              refine Go.st (fun t k => XS.icmpNo X23.here hx rfl (hb hby at_197) rfl (by decide) k) ?_
              show Go _ _ _ _ T23 (mkF m 200 #[.val (.long q1), .second, .val (.long q2), .second, .val (.long q3), .second, .val (.long q4), .second, .val (.int p5), .val (.int oa), .val (.int ia), .val (.long c0), .second, .val (.long c1), .second, .val (.int (1 : Int32)), .val (.ref b1), .val (.ref b5), .val (.int (0 : Int32)), .val (.int (0 : Int32)), .val (.int (0 : Int32))] [])
              refine Go.st (fun t k => XS.iconst X23.here hx rfl (hb hby at_200) k) ?_
              show Go _ _ _ _ T23 (mkF m 201 #[.val (.long q1), .second, .val (.long q2), .second, .val (.long q3), .second, .val (.long q4), .second, .val (.int p5), .val (.int oa), .val (.int ia), .val (.long c0), .second, .val (.long c1), .second, .val (.int (1 : Int32)), .val (.ref b1), .val (.ref b5), .val (.int (0 : Int32)), .val (.int (0 : Int32)), .val (.int (0 : Int32))] [(.int (1 : Int32))])
              refine Go.st (fun t k => XS.goto X23.here hx rfl (pc0 := 201) (pc' := 205) rfl (hb hby at_201) (by decide) (by decide) k) ?_
              show Go _ _ _ _ T23 (mkF m 205 #[.val (.long q1), .second, .val (.long q2), .second, .val (.long q3), .second, .val (.long q4), .second, .val (.int p5), .val (.int oa), .val (.int ia), .val (.long c0), .second, .val (.long c1), .second, .val (.int (1 : Int32)), .val (.ref b1), .val (.ref b5), .val (.int (0 : Int32)), .val (.int (0 : Int32)), .val (.int (0 : Int32))] [(.int (1 : Int32))])
              exact goN X23 hx hret hlk (by simp) (hb hby at_205) (by decide) (by decide) ⟨rfl, N23⟩
          ·
            show Go _ _ _ _ T9 (mkF m 154 #[.val (.long q1), .second, .val (.long q2), .second, .val (.long q3), .second, .val (.long q4), .second, .val (.int p5), .val (.int oa), .val (.int ia), .val (.long c0), .second, .val (.long c1), .second, .val (.int (2 : Int32)), .val (.ref b1), .val (.ref b5), .val (.int (0 : Int32)), .val (.int (0 : Int32)), .unset] [])
            show Go _ _ _ _ T9 (mkF m 154 #[.val (.long q1), .second, .val (.long q2), .second, .val (.long q3), .second, .val (.long q4), .second, .val (.int p5), .val (.int oa), .val (.int ia), .val (.long c0), .second, .val (.long c1), .second, .val (.int (2 : Int32)), .val (.ref b1), .val (.ref b5), .val (.int (0 : Int32)), .val (.int (0 : Int32)), .unset] [])
            refine Go.st (fun t k => XS.iload X9.here hx rfl (hb hby at_154) rfl k) ?_
            show Go _ _ _ _ T9 (mkF m 156 #[.val (.long q1), .second, .val (.long q2), .second, .val (.long q3), .second, .val (.long q4), .second, .val (.int p5), .val (.int oa), .val (.int ia), .val (.long c0), .second, .val (.long c1), .second, .val (.int (2 : Int32)), .val (.ref b1), .val (.ref b5), .val (.int (0 : Int32)), .val (.int (0 : Int32)), .unset] [(.int (2 : Int32))])
            refine Go.st (fun t k => XS.ifNo X9.here hx rfl (hb hby at_156) rfl (by decide) k) ?_
            show Go _ _ _ _ T9 (mkF m 159 #[.val (.long q1), .second, .val (.long q2), .second, .val (.long q3), .second, .val (.long q4), .second, .val (.int p5), .val (.int oa), .val (.int ia), .val (.long c0), .second, .val (.long c1), .second, .val (.int (2 : Int32)), .val (.ref b1), .val (.ref b5), .val (.int (0 : Int32)), .val (.int (0 : Int32)), .unset] [])
            refine Go.st (fun t k => XS.iload X9.here hx rfl (hb hby at_159) rfl k) ?_
            show Go _ _ _ _ T9 (mkF m 161 #[.val (.long q1), .second, .val (.long q2), .second, .val (.long q3), .second, .val (.long q4), .second, .val (.int p5), .val (.int oa), .val (.int ia), .val (.long c0), .second, .val (.long c1), .second, .val (.int (2 : Int32)), .val (.ref b1), .val (.ref b5), .val (.int (0 : Int32)), .val (.int (0 : Int32)), .unset] [(.int (0 : Int32))])
            refine Go.st (fun t k => XS.ifYes X9.here hx rfl (pc0 := 161) (pc' := 179) rfl (hb hby at_161) rfl (by decide) (by decide) (by decide) k) ?_
            show Go _ _ _ _ T9 (mkF m 179 #[.val (.long q1), .second, .val (.long q2), .second, .val (.long q3), .second, .val (.long q4), .second, .val (.int p5), .val (.int oa), .val (.int ia), .val (.long c0), .second, .val (.long c1), .second, .val (.int (2 : Int32)), .val (.ref b1), .val (.ref b5), .val (.int (0 : Int32)), .val (.int (0 : Int32)), .unset] [])
            refine Go.st (fun t k => XS.iconst X9.here hx rfl (hb hby at_179) k) ?_
            show Go _ _ _ _ T9 (mkF m 180 #[.val (.long q1), .second, .val (.long q2), .second, .val (.long q3), .second, .val (.long q4), .second, .val (.int p5), .val (.int oa), .val (.int ia), .val (.long c0), .second, .val (.long c1), .second, .val (.int (2 : Int32)), .val (.ref b1), .val (.ref b5), .val (.int (0 : Int32)), .val (.int (0 : Int32)), .unset] [(.int (0 : Int32))])
            refine Go.st (fun t k => XS.istore X9.here hx rfl (hb hby at_180) rfl (l' := #[.val (.long q1), .second, .val (.long q2), .second, .val (.long q3), .second, .val (.long q4), .second, .val (.int p5), .val (.int oa), .val (.int ia), .val (.long c0), .second, .val (.long c1), .second, .val (.int (2 : Int32)), .val (.ref b1), .val (.ref b5), .val (.int (0 : Int32)), .val (.int (0 : Int32)), .val (.int (0 : Int32))]) rfl k) ?_
            show Go _ _ _ _ T9 (mkF m 182 #[.val (.long q1), .second, .val (.long q2), .second, .val (.long q3), .second, .val (.long q4), .second, .val (.int p5), .val (.int oa), .val (.int ia), .val (.long c0), .second, .val (.long c1), .second, .val (.int (2 : Int32)), .val (.ref b1), .val (.ref b5), .val (.int (0 : Int32)), .val (.int (0 : Int32)), .val (.int (0 : Int32))] [])
            refine Go.st (fun t k => XS.aload X9.here hx rfl (hb hby at_182) rfl rfl k) ?_
            show Go _ _ _ _ T9 (mkF m 184 #[.val (.long q1), .second, .val (.long q2), .second, .val (.long q3), .second, .val (.long q4), .second, .val (.int p5), .val (.int oa), .val (.int ia), .val (.long c0), .second, .val (.long c1), .second, .val (.int (2 : Int32)), .val (.ref b1), .val (.ref b5), .val (.int (0 : Int32)), .val (.int (0 : Int32)), .val (.int (0 : Int32))] [(.ref b1)])
            refine Go.st (fun t k => XS.iload X9.here hx rfl (hb hby at_184) rfl k) ?_
            show Go _ _ _ _ T9 (mkF m 186 #[.val (.long q1), .second, .val (.long q2), .second, .val (.long q3), .second, .val (.long q4), .second, .val (.int p5), .val (.int oa), .val (.int ia), .val (.long c0), .second, .val (.long c1), .second, .val (.int (2 : Int32)), .val (.ref b1), .val (.ref b5), .val (.int (0 : Int32)), .val (.int (0 : Int32)), .val (.int (0 : Int32))] [(.int oa), (.ref b1)])
            refine Go.st (fun t k => XS.aload X9.here hx rfl (hb hby at_186) rfl rfl k) ?_
            show Go _ _ _ _ T9 (mkF m 188 #[.val (.long q1), .second, .val (.long q2), .second, .val (.long q3), .second, .val (.long q4), .second, .val (.int p5), .val (.int oa), .val (.int ia), .val (.long c0), .second, .val (.long c1), .second, .val (.int (2 : Int32)), .val (.ref b1), .val (.ref b5), .val (.int (0 : Int32)), .val (.int (0 : Int32)), .val (.int (0 : Int32))] [(.ref b5), (.int oa), (.ref b1)])
            refine Go.st (fun t k => XS.iload X9.here hx rfl (hb hby at_188) rfl k) ?_
            show Go _ _ _ _ T9 (mkF m 190 #[.val (.long q1), .second, .val (.long q2), .second, .val (.long q3), .second, .val (.long q4), .second, .val (.int p5), .val (.int oa), .val (.int ia), .val (.long c0), .second, .val (.long c1), .second, .val (.int (2 : Int32)), .val (.ref b1), .val (.ref b5), .val (.int (0 : Int32)), .val (.int (0 : Int32)), .val (.int (0 : Int32))] [(.int ia), (.ref b5), (.int oa), (.ref b1)])
            refine Go.st (fun t k => XS.iload X9.here hx rfl (hb hby at_190) rfl k) ?_
            show Go _ _ _ _ T9 (mkF m 192 #[.val (.long q1), .second, .val (.long q2), .second, .val (.long q3), .second, .val (.long q4), .second, .val (.int p5), .val (.int oa), .val (.int ia), .val (.long c0), .second, .val (.long c1), .second, .val (.int (2 : Int32)), .val (.ref b1), .val (.ref b5), .val (.int (0 : Int32)), .val (.int (0 : Int32)), .val (.int (0 : Int32))] [(.int (2 : Int32)), (.int ia), (.ref b5), (.int oa), (.ref b1)])
            refine goS X9 hx hZ (y := (⟨"com/example/counterpath/counterpath/analysis/Zone", "mayInclude", "([JI[JII)Z"⟩ : MethodName)) hown (hw _ (List.mem_of_getElem? (i := 2) rfl)) (hw _ (List.mem_of_getElem? (i := 3) rfl)) (hw _ (List.mem_of_getElem? (i := 4) rfl)) (hw _ (List.mem_of_getElem? (i := 5) rfl)) (by decide) (rm1 l Z a0 hw b1 oa b5 ia (2 : Int32) h9 n0 Z9 ka kb 3 _ _ q1 q2 c0 c1 (by decide) V_b1 V_b5 A2 A1 B2 B1 (by simp) (by simp) (by simp) (by simp)) e9 N9 0 (by decide) (by decide) (by decide) (by decide) (g := (mkF m 192 #[.val (.long q1), .second, .val (.long q2), .second, .val (.long q3), .second, .val (.long q4), .second, .val (.int p5), .val (.int oa), .val (.int ia), .val (.long c0), .second, .val (.long c1), .second, .val (.int (2 : Int32)), .val (.ref b1), .val (.ref b5), .val (.int (0 : Int32)), .val (.int (0 : Int32)), .val (.int (0 : Int32))] [(.int (2 : Int32)), (.int ia), (.ref b5), (.int oa), (.ref b1)])) rfl (by rw [hml]; rfl) [(.ref b1), (.int oa), (.ref b5), (.int ia), (.int (2 : Int32))] [] (lenOf pd0_0 rfl) rfl rfl (by show 2 * 0 + _ ≤ _; exact Nat.le_of_eq rfl) (hb hby at_192) ?_
            intro T24 v24 L24 M24 X24 N24 hq24
            obtain ⟨hq24, N24q, e24⟩ := hq24
            replace N24 := N24 N24q
            rcases hq24 with ⟨hr24, rfl⟩ | ⟨hr24, rfl⟩
            ·
              exact absurd (hr24.1 (by decide)) (fun q => hs0 ((lw_eq _ _).mpr ((own_sub _ _).mp q)))
            ·
              show Go _ _ _ _ T24 (mkF m 195 #[.val (.long q1), .second, .val (.long q2), .second, .val (.long q3), .second, .val (.long q4), .second, .val (.int p5), .val (.int oa), .val (.int ia), .val (.long c0), .second, .val (.long c1), .second, .val (.int (2 : Int32)), .val (.ref b1), .val (.ref b5), .val (.int (0 : Int32)), .val (.int (0 : Int32)), .val (.int (0 : Int32))] [(.int (0 : Int32))])
              refine Go.st (fun t k => XS.iload X24.here hx rfl (hb hby at_195) rfl k) ?_
              show Go _ _ _ _ T24 (mkF m 197 #[.val (.long q1), .second, .val (.long q2), .second, .val (.long q3), .second, .val (.long q4), .second, .val (.int p5), .val (.int oa), .val (.int ia), .val (.long c0), .second, .val (.long c1), .second, .val (.int (2 : Int32)), .val (.ref b1), .val (.ref b5), .val (.int (0 : Int32)), .val (.int (0 : Int32)), .val (.int (0 : Int32))] [(.int (0 : Int32)), (.int (0 : Int32))])
              refine Go.st (fun t k => XS.icmpNo X24.here hx rfl (hb hby at_197) rfl (by decide) k) ?_
              show Go _ _ _ _ T24 (mkF m 200 #[.val (.long q1), .second, .val (.long q2), .second, .val (.long q3), .second, .val (.long q4), .second, .val (.int p5), .val (.int oa), .val (.int ia), .val (.long c0), .second, .val (.long c1), .second, .val (.int (2 : Int32)), .val (.ref b1), .val (.ref b5), .val (.int (0 : Int32)), .val (.int (0 : Int32)), .val (.int (0 : Int32))] [])
              refine Go.st (fun t k => XS.iconst X24.here hx rfl (hb hby at_200) k) ?_
              show Go _ _ _ _ T24 (mkF m 201 #[.val (.long q1), .second, .val (.long q2), .second, .val (.long q3), .second, .val (.long q4), .second, .val (.int p5), .val (.int oa), .val (.int ia), .val (.long c0), .second, .val (.long c1), .second, .val (.int (2 : Int32)), .val (.ref b1), .val (.ref b5), .val (.int (0 : Int32)), .val (.int (0 : Int32)), .val (.int (0 : Int32))] [(.int (1 : Int32))])
              refine Go.st (fun t k => XS.goto X24.here hx rfl (pc0 := 201) (pc' := 205) rfl (hb hby at_201) (by decide) (by decide) k) ?_
              show Go _ _ _ _ T24 (mkF m 205 #[.val (.long q1), .second, .val (.long q2), .second, .val (.long q3), .second, .val (.long q4), .second, .val (.int p5), .val (.int oa), .val (.int ia), .val (.long c0), .second, .val (.long c1), .second, .val (.int (2 : Int32)), .val (.ref b1), .val (.ref b5), .val (.int (0 : Int32)), .val (.int (0 : Int32)), .val (.int (0 : Int32))] [(.int (1 : Int32))])
              exact goN X24 hx hret hlk (by simp) (hb hby at_205) (by decide) (by decide) ⟨rfl, N24⟩
    ·
      intro J52
      show Go _ _ _ _ T0 (mkF m 34 #[.val (.long q1), .second, .val (.long q2), .second, .val (.long q3), .second, .val (.long q4), .second, .val (.int p5), .val (.int oa), .val (.int ia), .val (.long c0), .second, .unset, .unset, .unset, .unset, .unset, .unset, .unset, .unset] [])
      refine Go.st (fun t k => XS.iload X0.here hx rfl (hb hby at_34) rfl k) ?_
      show Go _ _ _ _ T0 (mkF m 36 #[.val (.long q1), .second, .val (.long q2), .second, .val (.long q3), .second, .val (.long q4), .second, .val (.int p5), .val (.int oa), .val (.int ia), .val (.long c0), .second, .unset, .unset, .unset, .unset, .unset, .unset, .unset, .unset] [(.int p5)])
      refine Go.st (fun t k => XS.iconst X0.here hx rfl (hb hby at_36) k) ?_
      show Go _ _ _ _ T0 (mkF m 37 #[.val (.long q1), .second, .val (.long q2), .second, .val (.long q3), .second, .val (.long q4), .second, .val (.int p5), .val (.int oa), .val (.int ia), .val (.long c0), .second, .unset, .unset, .unset, .unset, .unset, .unset, .unset, .unset] [(.int (3 : Int32)), (.int p5)])
      refine Go.st (fun t k => XS.iushr X0.here hx rfl (hb hby at_37) rfl k) ?_
      show Go _ _ _ _ T0 (mkF m 38 #[.val (.long q1), .second, .val (.long q2), .second, .val (.long q3), .second, .val (.long q4), .second, .val (.int p5), .val (.int oa), .val (.int ia), .val (.long c0), .second, .unset, .unset, .unset, .unset, .unset, .unset, .unset, .unset] [(.int ((p5.toUInt32 >>> ((3 : Int32) &&& 31).toUInt32).toInt32))])
      refine Go.st (fun t k => XS.iconst X0.here hx rfl (hb hby at_38) k) ?_
      show Go _ _ _ _ T0 (mkF m 39 #[.val (.long q1), .second, .val (.long q2), .second, .val (.long q3), .second, .val (.long q4), .second, .val (.int p5), .val (.int oa), .val (.int ia), .val (.long c0), .second, .unset, .unset, .unset, .unset, .unset, .unset, .unset, .unset] [(.int (1 : Int32)), (.int ((p5.toUInt32 >>> ((3 : Int32) &&& 31).toUInt32).toInt32))])
      refine Go.st (fun t k => XS.iand X0.here hx rfl (hb hby at_39) rfl k) ?_
      show Go _ _ _ _ T0 (mkF m 40 #[.val (.long q1), .second, .val (.long q2), .second, .val (.long q3), .second, .val (.long q4), .second, .val (.int p5), .val (.int oa), .val (.int ia), .val (.long c0), .second, .unset, .unset, .unset, .unset, .unset, .unset, .unset, .unset] [(.int (((p5.toUInt32 >>> ((3 : Int32) &&& 31).toUInt32).toInt32) &&& (1 : Int32)))])
      by_cases hk1 : (((p5.toUInt32 >>> ((3 : Int32) &&& 31).toUInt32).toInt32) &&& (1 : Int32)) = (0 : Int32)
      ·
        refine Go.st (fun t k => XS.ifYes X0.here hx rfl (pc0 := 40) (pc' := 50) rfl (hb hby at_40) rfl ((if0 _ _).trans (teq hk1).1) (by decide) (by decide) k) ?_
        show Go _ _ _ _ T0 (mkF m 50 #[.val (.long q1), .second, .val (.long q2), .second, .val (.long q3), .second, .val (.long q4), .second, .val (.int p5), .val (.int oa), .val (.int ia), .val (.long c0), .second, .unset, .unset, .unset, .unset, .unset, .unset, .unset, .unset] [])
        refine Go.st (fun t k => XS.lload X0.here hx rfl (hb hby at_50) rfl k) ?_
        show Go _ _ _ _ T0 (mkF m 52 #[.val (.long q1), .second, .val (.long q2), .second, .val (.long q3), .second, .val (.long q4), .second, .val (.int p5), .val (.int oa), .val (.int ia), .val (.long c0), .second, .unset, .unset, .unset, .unset, .unset, .unset, .unset, .unset] [(.long q4)])
        exact J52 _
      ·
        refine Go.st (fun t k => XS.ifNo X0.here hx rfl (hb hby at_40) rfl ((if0 _ _).trans (feq hk1).1) k) ?_
        show Go _ _ _ _ T0 (mkF m 43 #[.val (.long q1), .second, .val (.long q2), .second, .val (.long q3), .second, .val (.long q4), .second, .val (.int p5), .val (.int oa), .val (.int ia), .val (.long c0), .second, .unset, .unset, .unset, .unset, .unset, .unset, .unset, .unset] [])
        refine Go.st (fun t k => XS.lload X0.here hx rfl (hb hby at_43) rfl k) ?_
        show Go _ _ _ _ T0 (mkF m 45 #[.val (.long q1), .second, .val (.long q2), .second, .val (.long q3), .second, .val (.long q4), .second, .val (.int p5), .val (.int oa), .val (.int ia), .val (.long c0), .second, .unset, .unset, .unset, .unset, .unset, .unset, .unset, .unset] [(.long q4)])
        refine Go.st (fun t k => XS.lloadN X0.here hx rfl (hb hby at_45) rfl k) ?_
        show Go _ _ _ _ T0 (mkF m 46 #[.val (.long q1), .second, .val (.long q2), .second, .val (.long q3), .second, .val (.long q4), .second, .val (.int p5), .val (.int oa), .val (.int ia), .val (.long c0), .second, .unset, .unset, .unset, .unset, .unset, .unset, .unset, .unset] [(.long q2), (.long q4)])
        refine Go.st (fun t k => XS.lor X0.here hx rfl (hb hby at_46) rfl k) ?_
        show Go _ _ _ _ T0 (mkF m 47 #[.val (.long q1), .second, .val (.long q2), .second, .val (.long q3), .second, .val (.long q4), .second, .val (.int p5), .val (.int oa), .val (.int ia), .val (.long c0), .second, .unset, .unset, .unset, .unset, .unset, .unset, .unset, .unset] [(.long (q4 ||| q2))])
        refine Go.st (fun t k => XS.goto X0.here hx rfl (pc0 := 47) (pc' := 52) rfl (hb hby at_47) (by decide) (by decide) k) ?_
        show Go _ _ _ _ T0 (mkF m 52 #[.val (.long q1), .second, .val (.long q2), .second, .val (.long q3), .second, .val (.long q4), .second, .val (.int p5), .val (.int oa), .val (.int ia), .val (.long c0), .second, .unset, .unset, .unset, .unset, .unset, .unset, .unset, .unset] [(.long (q4 ||| q2))])
        exact J52 _
  ·
    intro J32
    show Go _ _ _ _ T0 (mkF m 14 #[.val (.long q1), .second, .val (.long q2), .second, .val (.long q3), .second, .val (.long q4), .second, .val (.int p5), .val (.int oa), .val (.int ia), .unset, .unset, .unset, .unset, .unset, .unset, .unset, .unset, .unset, .unset] [])
    refine Go.st (fun t k => XS.iload X0.here hx rfl (hb hby at_14) rfl k) ?_
    show Go _ _ _ _ T0 (mkF m 16 #[.val (.long q1), .second, .val (.long q2), .second, .val (.long q3), .second, .val (.long q4), .second, .val (.int p5), .val (.int oa), .val (.int ia), .unset, .unset, .unset, .unset, .unset, .unset, .unset, .unset, .unset, .unset] [(.int p5)])
    refine Go.st (fun t k => XS.iconst X0.here hx rfl (hb hby at_16) k) ?_
    show Go _ _ _ _ T0 (mkF m 17 #[.val (.long q1), .second, .val (.long q2), .second, .val (.long q3), .second, .val (.long q4), .second, .val (.int p5), .val (.int oa), .val (.int ia), .unset, .unset, .unset, .unset, .unset, .unset, .unset, .unset, .unset, .unset] [(.int (2 : Int32)), (.int p5)])
    refine Go.st (fun t k => XS.iushr X0.here hx rfl (hb hby at_17) rfl k) ?_
    show Go _ _ _ _ T0 (mkF m 18 #[.val (.long q1), .second, .val (.long q2), .second, .val (.long q3), .second, .val (.long q4), .second, .val (.int p5), .val (.int oa), .val (.int ia), .unset, .unset, .unset, .unset, .unset, .unset, .unset, .unset, .unset, .unset] [(.int ((p5.toUInt32 >>> ((2 : Int32) &&& 31).toUInt32).toInt32))])
    refine Go.st (fun t k => XS.iconst X0.here hx rfl (hb hby at_18) k) ?_
    show Go _ _ _ _ T0 (mkF m 19 #[.val (.long q1), .second, .val (.long q2), .second, .val (.long q3), .second, .val (.long q4), .second, .val (.int p5), .val (.int oa), .val (.int ia), .unset, .unset, .unset, .unset, .unset, .unset, .unset, .unset, .unset, .unset] [(.int (1 : Int32)), (.int ((p5.toUInt32 >>> ((2 : Int32) &&& 31).toUInt32).toInt32))])
    refine Go.st (fun t k => XS.iand X0.here hx rfl (hb hby at_19) rfl k) ?_
    show Go _ _ _ _ T0 (mkF m 20 #[.val (.long q1), .second, .val (.long q2), .second, .val (.long q3), .second, .val (.long q4), .second, .val (.int p5), .val (.int oa), .val (.int ia), .unset, .unset, .unset, .unset, .unset, .unset, .unset, .unset, .unset, .unset] [(.int (((p5.toUInt32 >>> ((2 : Int32) &&& 31).toUInt32).toInt32) &&& (1 : Int32)))])
    by_cases hk0 : (((p5.toUInt32 >>> ((2 : Int32) &&& 31).toUInt32).toInt32) &&& (1 : Int32)) = (0 : Int32)
    ·
      refine Go.st (fun t k => XS.ifYes X0.here hx rfl (pc0 := 20) (pc' := 30) rfl (hb hby at_20) rfl ((if0 _ _).trans (teq hk0).1) (by decide) (by decide) k) ?_
      show Go _ _ _ _ T0 (mkF m 30 #[.val (.long q1), .second, .val (.long q2), .second, .val (.long q3), .second, .val (.long q4), .second, .val (.int p5), .val (.int oa), .val (.int ia), .unset, .unset, .unset, .unset, .unset, .unset, .unset, .unset, .unset, .unset] [])
      refine Go.st (fun t k => XS.lload X0.here hx rfl (hb hby at_30) rfl k) ?_
      show Go _ _ _ _ T0 (mkF m 32 #[.val (.long q1), .second, .val (.long q2), .second, .val (.long q3), .second, .val (.long q4), .second, .val (.int p5), .val (.int oa), .val (.int ia), .unset, .unset, .unset, .unset, .unset, .unset, .unset, .unset, .unset, .unset] [(.long q3)])
      exact J32 _
    ·
      refine Go.st (fun t k => XS.ifNo X0.here hx rfl (hb hby at_20) rfl ((if0 _ _).trans (feq hk0).1) k) ?_
      show Go _ _ _ _ T0 (mkF m 23 #[.val (.long q1), .second, .val (.long q2), .second, .val (.long q3), .second, .val (.long q4), .second, .val (.int p5), .val (.int oa), .val (.int ia), .unset, .unset, .unset, .unset, .unset, .unset, .unset, .unset, .unset, .unset] [])
      refine Go.st (fun t k => XS.lload X0.here hx rfl (hb hby at_23) rfl k) ?_
      show Go _ _ _ _ T0 (mkF m 25 #[.val (.long q1), .second, .val (.long q2), .second, .val (.long q3), .second, .val (.long q4), .second, .val (.int p5), .val (.int oa), .val (.int ia), .unset, .unset, .unset, .unset, .unset, .unset, .unset, .unset, .unset, .unset] [(.long q3)])
      refine Go.st (fun t k => XS.lloadN X0.here hx rfl (hb hby at_25) rfl k) ?_
      show Go _ _ _ _ T0 (mkF m 26 #[.val (.long q1), .second, .val (.long q2), .second, .val (.long q3), .second, .val (.long q4), .second, .val (.int p5), .val (.int oa), .val (.int ia), .unset, .unset, .unset, .unset, .unset, .unset, .unset, .unset, .unset, .unset] [(.long q1), (.long q3)])
      refine Go.st (fun t k => XS.lor X0.here hx rfl (hb hby at_26) rfl k) ?_
      show Go _ _ _ _ T0 (mkF m 27 #[.val (.long q1), .second, .val (.long q2), .second, .val (.long q3), .second, .val (.long q4), .second, .val (.int p5), .val (.int oa), .val (.int ia), .unset, .unset, .unset, .unset, .unset, .unset, .unset, .unset, .unset, .unset] [(.long (q3 ||| q1))])
      refine Go.st (fun t k => XS.goto X0.here hx rfl (pc0 := 27) (pc' := 32) rfl (hb hby at_27) (by decide) (by decide) k) ?_
      show Go _ _ _ _ T0 (mkF m 32 #[.val (.long q1), .second, .val (.long q2), .second, .val (.long q3), .second, .val (.long q4), .second, .val (.int p5), .val (.int oa), .val (.int ia), .unset, .unset, .unset, .unset, .unset, .unset, .unset, .unset, .unset, .unset] [(.long (q3 ||| q1))])
      exact J32 _
set_option maxRecDepth 65536 in
set_option maxHeartbeats 40000000 in
theorem comes_1 {Post : Tables → Env → Array Value → State → Outcome → State → Prop} (hpost : ∀ tb e args s v u, (limb_1_1.after args s (.returned v) u = true ∧ limb_1_2.after args s (.returned v) u = true ∧ True) → FrameEnd s (.returned v) u (Jvm.fieldLocs frame_1_writes args s ++ Jvm.arrayLocs frame_1_arrays args s ++ Jvm.staticLocs frame_1_statics s) 16 128 → Post tb e args s (.returned v) u) :
    ArmFor flags0 classFile x code maxLocals ret World_1 tables_1 room_1 Calls_1 rest_1 Pre_1 Post := by
  intro l hfl _ _ p e ha hc hk s m args below hf hA hF happ hP
  obtain ⟨hcalls, hrest, hpre⟩ := hP
  obtain ⟨-, -, -, hnamed, -, -, -, hat⟩ := (Spec.applies_iff hf).mp happ
  obtain ⟨hg, hn⟩ := and_e (Cond.before_iff.mp (show (Jvm.Cond.and given_1 narrow_1).before args s = true from hpre))
  obtain ⟨ga1, gb1⟩ := and_e hg
  obtain ⟨ga2, gb2⟩ := and_e gb1
  obtain ⟨ga3, gb3⟩ := and_e gb2
  obtain ⟨ga4, gb4⟩ := and_e gb3
  obtain ⟨ga5, gb5⟩ := and_e gb4
  obtain ⟨w0, w1, w2, w3, w4, rfl⟩ : ∃ w0 w1 w2 w3 w4 : Value, args = #[w0, w1, w2, w3, w4] := by
    have hs : args.size = 5 := by simpa [Cond.value, given_1] using ga1
    obtain ⟨L⟩ := args
    match L, hs with
    | [w0, w1, w2, w3, w4], _ => exact ⟨w0, w1, w2, w3, w4, rfl⟩
  have hw := fun d (hd : d ∈ tables_1) => atoms_spec (ws := Jvm.Cond.code x code maxLocals ret :: tables_1) hat d (List.mem_cons_of_mem _ hd)
  obtain ⟨i0, ei0⟩ := isL_v ga2
  obtain rfl : w0 = (.long i0) := Option.some.inj ei0
  obtain ⟨i1, ei1⟩ := isL_v ga3
  obtain rfl : w1 = (.long i1) := Option.some.inj ei1
  obtain ⟨i2, ei2⟩ := isL_v ga4
  obtain rfl : w2 = (.long i2) := Option.some.inj ei2
  obtain ⟨i3, ei3⟩ := isL_v ga5
  obtain rfl : w3 = (.long i3) := Option.some.inj ei3
  obtain ⟨i4, ei4⟩ := is_v gb5
  obtain rfl : w4 = (.int i4) := Option.some.inj ei4
  obtain ⟨n, o, h1, h2, h3, _, L, rfl, ⟨rfl, N⟩, hq⟩ := rm0 l s _ hw i0 i1 i2 i3 i4 s.heap s.heap.size (Nat.le_refl _)  tables_1 p e ha hc hk s m _ below hf ((Spec.applies_iff_loose hf).mp happ).1 ⟨rfl, State.Warmed39.refl s, rfl⟩ trivial
  refine ⟨n, _, h1, h2, h3, hpost _ _ _ _ _ _ ⟨Cond.after_iff.mpr rfl, Cond.after_iff.mpr (eq_i res_at (Term.int_eval (1)) rfl), trivial⟩ ⟨hq.1, hq.2.1, (hq.2.2.sift fun y hy => Or.inr (N y hy)).mono (by decide) (by decide)⟩⟩
theorem main_1_1 : Claimed_1_1 := comes_1 fun _ _ _ _ _ _ h hF => ⟨h.1, hF⟩
theorem main_1_2 : Claimed_1_2 := comes_1 fun _ _ _ _ _ _ h hF => ⟨h.2.1, hF⟩
end Jvm.Pilot.@@N@@
namespace Jvm.Pilot.@@N@@
open Jvm Jvm.ClassFile Sem Op Lib Jvm.Free Jvm.Stand Jvm.Pilot.@@N@@.Jvm.D
/-! MADE BY PROGRAM (witnessworld.py) out of the Statement's table words and the real class files: 11 classes; the members and pool entries that the words name. The judged class is class 1, her method 1. -/
namespace start1
open Jvm.ClassFile
def u (s : String) : CpInfo := .utf8 (stringToUtf16 s)
/-- a pool by its gaps: so many unusable entries, then the entry; so many at the end -/
def gap : Nat → List CpInfo → List CpInfo
  | 0, r => r
  | n + 1, r => .unusable :: gap n r
def poolList (es : List (Nat × CpInfo)) (last : Nat) : List CpInfo := es.foldr (fun e r => gap e.1 (e.2 :: r)) (gap last [])
def pool (es : List (Nat × CpInfo)) (last : Nat) : Array CpInfo := ⟨poolList es last⟩
def fileOf (pool : Array CpInfo) (this : Nat) (attrs : Array Attribute := #[]) (ms : Array MethodInfo := #[]) (fl : Nat := 33) (sup : Nat := 0) (ifs : Array Nat := #[]) (fds : Array FieldInfo := #[]) : ClassFile where
  minorVersion := 0
  majorVersion := 65
  constantPool := pool
  accessFlags := fl
  thisClass := this
  superClass := sup
  interfaces := ifs
  fields := fds
  methods := ms
  attributes := attrs
def plain (name : String) (sup : Option ClassId) : Class where
  name := name
  kind := .ordinary
  loader := none
  accessFlags := 33
  super := sup
  interfaces := #[]
  cf := none
  fields := #[]
  methods := #[]
  instanceTypes := #[]
  staticTypes := #[]
  resolved := #[]
  callSites := []
  init := .initialized
  statics := none
  mirror := none

def pool0 : Array CpInfo := pool [(5, u "<init>"), (0, u "()V"), (1, .class_ 10), (1, u "java/lang/Object")] 113

def k0m0 : Method := { name := "<init>", desc := "()V", sig := { parameters := [], returnType := none }, accessFlags := 1, code := none }
/-- java/lang/Object -/
def k0 : Class := { plain "java/lang/Object" none with
  accessFlags := 33
  interfaces := #[]
  cf := some (fileOf pool0 8 #[] #[{ accessFlags := 1, nameIndex := 5, descriptorIndex := 6, attributes := #[] }] 33 0 #[] #[])
  fields := #[]
  methods := #[k0m0]
  instanceTypes := #[]
  staticTypes := #[]
  resolved := Array.replicate 124 none
  statics := none }

def pool1 : Array CpInfo := pool [(2, .class_ 4), (1, u "java/lang/Object"), (0, u "<init>"), (0, u "()V"), (0, .long 18446744073709551615), (1, .methodref 10 11), (0, .class_ 12), (0, .nameAndType 13 14), (0, u "com/example/counterpath/counterpath/analysis/Zone"), (0, u "mayInclude"), (0, u "([JI[JII)Z"), (0, .class_ 16), (0, u "com/example/counterpath/counterpath/analysis/ZoneMayIncludePinLaw"), (2, u "law"), (0, u "(JJJJI)Z")] 5

def k1m0 : Method := { name := "<init>", desc := "()V", sig := { parameters := [], returnType := none }, accessFlags := 1, code := none }
def k1c1 : Code := { maxStack := 5, maxLocals := 21, code := code, exceptionTable := #[], attributes := #[] }
def k1m1 : Method := { name := "law", desc := "(JJJJI)Z", sig := { parameters := [.long, .long, .long, .long, .int], returnType := some .boolean }, accessFlags := 9, code := some k1c1 }
/-- com/example/counterpath/counterpath/analysis/ZoneMayIncludePinLaw -/
def k1 : Class := { plain "com/example/counterpath/counterpath/analysis/ZoneMayIncludePinLaw" (some 0) with
  accessFlags := 49
  interfaces := #[]
  cf := some (fileOf pool1 15 #[] #[{ accessFlags := 1, nameIndex := 5, descriptorIndex := 6, attributes := #[] }, { accessFlags := 9, nameIndex := 19, descriptorIndex := 20, attributes := #[] }] 49 2 #[] #[])
  fields := #[]
  methods := #[k1m0, k1m1]
  instanceTypes := #[]
  staticTypes := #[]
  resolved := Array.replicate 26 none
  statics := none }

def pool2 : Array CpInfo := pool [(6, .class_ 8), (1, u "java/lang/Object"), (3, .class_ 14), (1, u "com/example/counterpath/counterpath/analysis/Zone"), (0, u "size"), (0, u "I"), (2, u "bounds"), (0, u "[J"), (2, u "unit"), (0, u "J"), (2, u "MAX_CLOCKS"), (25, u "LESS_OR_EQUAL_ZERO"), (28, u "RELATIONS"), (0, u "[Lcom/example/counterpath/counterpath/model/BinaryOperator;"), (42, .class_ 127), (0, u "com/example/counterpath/counterpath/analysis/Zone$Bound"), (55, .class_ 185), (1, u "com/example/counterpath/counterpath/analysis/Zone$1"), (41, .class_ 229), (1, u "com/example/counterpath/counterpath/analysis/Zone$Outside"), (6, .class_ 237), (0, u "com/example/counterpath/counterpath/analysis/Zone$Packed"), (8, .long 18446744073709551615), (35, u "loosened"), (45, u "HIGHEST_BITS"), (0, u "REFERENCE"), (2, u "INFINITY"), (0, u "MAX_BOUNDS"), (2, u "SIGNATURE_WORDS"), (1, u "BOUND_INTS"), (1, u "RELATION_BITS"), (1, u "CODES"), (44, u "mayInclude"), (0, u "([JI[JII)Z")] 26

def k2c0 : Code := { maxStack := 6, maxLocals := 6, code := prog_98_method_44_code, exceptionTable := #[], attributes := #[] }
def k2m0 : Method := { name := "mayInclude", desc := "([JI[JII)Z", sig := { parameters := [(.array .long), .int, (.array .long), .int, .int], returnType := some .boolean }, accessFlags := 8, code := some k2c0 }
/-- com/example/counterpath/counterpath/analysis/Zone -/
def k2 : Class := { plain "com/example/counterpath/counterpath/analysis/Zone" (some 0) with
  accessFlags := 48
  interfaces := #[]
  cf := some (fileOf pool2 12 #[.nestMembers #[183, 236, 227, 126]] #[{ accessFlags := 8, nameIndex := 387, descriptorIndex := 388, attributes := #[] }] 48 6 #[] #[{ accessFlags := 24, nameIndex := 329, descriptorIndex := 16, attributes := #[] }, { accessFlags := 26, nameIndex := 332, descriptorIndex := 24, attributes := #[] }, { accessFlags := 26, nameIndex := 53, descriptorIndex := 24, attributes := #[] }, { accessFlags := 26, nameIndex := 333, descriptorIndex := 24, attributes := #[] }, { accessFlags := 26, nameIndex := 27, descriptorIndex := 16, attributes := #[] }, { accessFlags := 26, nameIndex := 336, descriptorIndex := 16, attributes := #[] }, { accessFlags := 26, nameIndex := 338, descriptorIndex := 16, attributes := #[] }, { accessFlags := 26, nameIndex := 340, descriptorIndex := 16, attributes := #[] }, { accessFlags := 26, nameIndex := 82, descriptorIndex := 83, attributes := #[] }, { accessFlags := 26, nameIndex := 342, descriptorIndex := 16, attributes := #[] }, { accessFlags := 26, nameIndex := 328, descriptorIndex := 20, attributes := #[] }, { accessFlags := 18, nameIndex := 15, descriptorIndex := 16, attributes := #[] }, { accessFlags := 18, nameIndex := 19, descriptorIndex := 20, attributes := #[] }, { accessFlags := 18, nameIndex := 23, descriptorIndex := 24, attributes := #[] }, { accessFlags := 2, nameIndex := 282, descriptorIndex := 20, attributes := #[] }])
  fields := #[{ name := "REFERENCE", type := .int, accessFlags := 24, slot := 0, constantValue := 0 }, { name := "INFINITY", type := .long, accessFlags := 26, slot := 1, constantValue := 0 }, { name := "LESS_OR_EQUAL_ZERO", type := .long, accessFlags := 26, slot := 2, constantValue := 0 }, { name := "MAX_BOUNDS", type := .long, accessFlags := 26, slot := 3, constantValue := 0 }, { name := "MAX_CLOCKS", type := .int, accessFlags := 26, slot := 4, constantValue := 0 }, { name := "SIGNATURE_WORDS", type := .int, accessFlags := 26, slot := 5, constantValue := 0 }, { name := "BOUND_INTS", type := .int, accessFlags := 26, slot := 6, constantValue := 0 }, { name := "RELATION_BITS", type := .int, accessFlags := 26, slot := 7, constantValue := 0 }, { name := "RELATIONS", type := (.array (.object "com/example/counterpath/counterpath/model/BinaryOperator")), accessFlags := 26, slot := 8, constantValue := 0 }, { name := "CODES", type := .int, accessFlags := 26, slot := 9, constantValue := 0 }, { name := "HIGHEST_BITS", type := (.array .long), accessFlags := 26, slot := 10, constantValue := 0 }, { name := "size", type := .int, accessFlags := 18, slot := 0, constantValue := 0 }, { name := "bounds", type := (.array .long), accessFlags := 18, slot := 1, constantValue := 0 }, { name := "unit", type := .long, accessFlags := 18, slot := 2, constantValue := 0 }, { name := "loosened", type := (.array .long), accessFlags := 2, slot := 3, constantValue := 0 }]
  methods := #[k2m0]
  instanceTypes := #[.int, (.array .long), .long, (.array .long)]
  staticTypes := #[.int, .long, .long, .long, .int, .int, .int, .int, (.array (.object "com/example/counterpath/counterpath/model/BinaryOperator")), .int, (.array .long)]
  resolved := Array.replicate 415 none
  statics := none }

def pool3 : Array CpInfo := pool [(1, u "java/lang/Cloneable"), (0, .class_ 1), (0, u "java/lang/Object"), (0, .class_ 3)] 3

/-- java/lang/Cloneable -/
def k3 : Class := { plain "java/lang/Cloneable" (some 0) with
  accessFlags := 1537
  interfaces := #[]
  cf := some (fileOf pool3 2 #[] #[] 1537 4 #[] #[])
  fields := #[]
  methods := #[]
  instanceTypes := #[]
  staticTypes := #[]
  resolved := Array.replicate 8 none
  statics := none }

def pool4 : Array CpInfo := pool [(1, u "java/io/Serializable"), (0, .class_ 1), (0, u "java/lang/Object"), (0, .class_ 3)] 3

/-- java/io/Serializable -/
def k4 : Class := { plain "java/io/Serializable" (some 0) with
  accessFlags := 1537
  interfaces := #[]
  cf := some (fileOf pool4 2 #[] #[] 1537 4 #[] #[])
  fields := #[]
  methods := #[]
  instanceTypes := #[]
  staticTypes := #[]
  resolved := Array.replicate 8 none
  statics := none }

/-- the primitive byte -/
def k5 : Class := { plain "byte" none with kind := .primitive 'B', accessFlags := 0x411 }
/-- [B -/
def k6 : Class := { plain "[B" (some 0) with kind := .array 5 .byte, interfaces := #[3, 4], accessFlags := 1041 }

/-- the primitive int -/
def k7 : Class := { plain "int" none with kind := .primitive 'I', accessFlags := 0x411 }
/-- [I -/
def k8 : Class := { plain "[I" (some 0) with kind := .array 7 .int, interfaces := #[3, 4], accessFlags := 1041 }

/-- the primitive long -/
def k9 : Class := { plain "long" none with kind := .primitive 'J', accessFlags := 0x411 }
/-- [J -/
def k10 : Class := { plain "[J" (some 0) with kind := .array 9 .long, interfaces := #[3, 4], accessFlags := 1041 }

def heap : Heap := #[]
def classes : Array Class := #[k0, k1, k2, k3, k4, k5, k6, k7, k8, k9, k10]
def interned : List (Array UInt16 × Addr) := []
def slotsUsed : Nat := 0
def theMethod : MethodId := ⟨1, 1⟩
def args0 : Array Value := #[.long 5, .long 7, .long 6, .long 3, .int 40]
def aboutOver (below : List Frame) : State where
  vm := { classes := classes, interned := interned.toArray }
  heap := heap
  slotsUsed := slotsUsed
  threads := #[{ frames := .invoking theMethod args0 :: below }]
def below0 : List Frame := [.native { method := ⟨0, 0⟩, args := #[] }]
def about1 : State := aboutOver below0
def p0 : Program := .bare "" "" ""
def e0 : Env := launch0.env 0 0 0
theorem w_frames : about1.frames = Frame.invoking theMethod args0 :: below0 := rfl
set_option maxRecDepth 65536 in
theorem w_args : argsFit about1.vm theMethod args0 = true := by decide +kernel
set_option maxRecDepth 65536 in
theorem w_heap : heapFits about1 = true := by decide +kernel
set_option maxRecDepth 65536 in
theorem w_runnable : about1.curStatus? = some .runnable := by decide +kernel
set_option maxRecDepth 65536 in
theorem w_alone : about1.alone = true := by decide +kernel
set_option maxRecDepth 65536 in
theorem w_named : about1.methodNamed? x = some theMethod := by decide +kernel
set_option maxRecDepth 65536 in
theorem w_hears : about1.hears theMethod below0 = true := by decide +kernel
set_option maxRecDepth 65536 in
theorem w_ripe : about1.ripe theMethod args0 below0 = true := by decide +kernel
theorem w_running : about1.status = .running := rfl
set_option maxRecDepth 65536 in
theorem w_room : about1.hasRoom e0.platform room_1 = true :=
  launch0.hasRoom_least _ room_1 (by decide +kernel) (by decide +kernel) (by decide +kernel) (by decide +kernel) (by decide +kernel) (by decide +kernel)
theorem allAtoms_all (ts : List Jvm.Cond) (a : Array Jvm.Value) (st : Jvm.State) : (allAtoms ts).before a st = ts.all (fun c => c.before a st) := by
  induction ts with
  | nil => rfl
  | cons c t ih =>
    show (Jvm.Cond.and c (allAtoms t)).before a st = _
    rw [Jvm.Cond.before_and, ih, List.all_cons]
def words1 : List Jvm.Cond := Jvm.Cond.code x code maxLocals ret :: tables_1
/-- a 'code' word, met by the world's own term for the bytes: nothing is compared byte by byte -/
theorem code_word {y : MethodName} {bytes : ByteArray} {mx : Nat} {rt : Option FieldType} {a : Array Value} {s : State} {m : MethodId} {meth : Method} {c : Code} (h1 : s.methodNamed? y = some m) (h2 : s.vm.method? m = some meth) (h3 : meth.code = some c) (h4 : c.code = bytes)
    (h5 : (c.maxLocals == mx && c.exceptionTable.isEmpty && decide (c.maxStack ≤ mostOperands) && decide (meth.sig.returnType = rt) && !meth.locks && decide (parseMethodDescriptor y.desc = some meth.sig)) = true) : (Jvm.Cond.code y bytes mx rt).before a s = true := by
  simp only [Bool.and_eq_true, beq_iff_eq, Bool.not_eq_true', decide_eq_true_eq] at h5
  obtain ⟨⟨⟨⟨⟨g1, g2⟩, g3⟩, g4⟩, g5⟩, g6⟩ := h5
  simp [Cond.before, Cond.holds, Cond.value, h1, h2, h3, h4, g1, g2, g3, g4, g5, g6]
def isCode : Jvm.Cond → Bool
  | .code _ _ _ _ => true
  | _ => false
theorem all_split {L : List Jvm.Cond} {P : Jvm.Cond → Bool} (h1 : L.all (fun c => isCode c || P c) = true) (h2 : ∀ c ∈ L.filter isCode, P c = true) : L.all P = true := by
  refine List.all_eq_true.mpr fun c hc => ?_
  have h := List.all_eq_true.mp h1 c hc
  rcases Bool.eq_false_or_eq_true (isCode c) with hi | hi
  · exact h2 c (List.mem_filter.mpr ⟨hc, hi⟩)
  · simpa [hi] using h
set_option maxRecDepth 65536 in
theorem w_c0 : (Jvm.Cond.code x code maxLocals ret).before args0 about1 = true := code_word (m := ⟨1, 1⟩) (meth := k1m1) (c := k1c1) (by decide +kernel) rfl rfl rfl (by decide +kernel)
set_option maxRecDepth 65536 in
theorem w_c1 : (Jvm.Cond.code ({ cls := "com/example/counterpath/counterpath/analysis/Zone", name := "mayInclude", desc := "([JI[JII)Z" } : Jvm.MethodName) prog_98_method_44_code (6 : Nat) (Option.some Jvm.ClassFile.FieldType.boolean)).before args0 about1 = true := code_word (m := ⟨2, 0⟩) (meth := k2m0) (c := k2c0) (by decide +kernel) rfl rfl rfl (by decide +kernel)
def codes1 : List Jvm.Cond := [Jvm.Cond.code x code maxLocals ret, Jvm.Cond.code ({ cls := "com/example/counterpath/counterpath/analysis/Zone", name := "mayInclude", desc := "([JI[JII)Z" } : Jvm.MethodName) prog_98_method_44_code (6 : Nat) (Option.some Jvm.ClassFile.FieldType.boolean)]
set_option maxRecDepth 65536 in
theorem codes_eq : words1.filter isCode = codes1 := rfl
theorem w_codes : ∀ c ∈ words1.filter isCode, c.before args0 about1 = true := by
  rw [codes_eq]
  intro c hc
  simp only [codes1, List.mem_cons, List.not_mem_nil, or_false] at hc
  rcases hc with rfl | rfl
  · exact w_c0
  · exact w_c1
set_option maxRecDepth 65536 in
theorem w_t1 : words1.all (fun c => isCode c || c.before args0 about1) = true := by decide +kernel
theorem w_tables : (allAtoms (Jvm.Cond.code x code maxLocals ret :: tables_1)).before args0 about1 = true := by
  rw [allAtoms_all]
  show words1.all (fun c => c.before args0 about1) = true
  refine all_split ?_ w_codes
  rw [w_t1]
set_option maxRecDepth 65536 in
theorem w_case : (Jvm.Cond.and given_1 narrow_1).before args0 about1 = true := by decide +kernel
theorem w_applies : (headSpec (Jvm.Cond.code x code maxLocals ret :: tables_1) room_1).applies x e0.platform about1 = true :=
  (Spec.applies_iff w_frames).mpr ⟨w_running, w_runnable, w_alone, w_named, w_hears, w_ripe, w_room, w_tables⟩
theorem atStart : AtStart classFile x code maxLocals ret World_1 tables_1 room_1 Calls_1 rest_1 Pre_1 launch0 p0 e0 about1 theMethod args0 below0 :=
  ⟨lists_1, trivial, launch0.admits_env _ _ _, launch0.least_env, fairChoices_fair.cas, fairChoices_fair.clock, w_frames, w_args, w_heap, w_applies, trivial, trivial, w_case⟩
end start1
theorem witness_1 : WitnessClaimed_1 := ⟨start1.p0, start1.e0, start1.about1, start1.theMethod, start1.args0, start1.below0, start1.atStart⟩
end Jvm.Pilot.@@N@@
