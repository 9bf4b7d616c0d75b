import JvmDerived
import JvmDerived.Pilot.@@N@@Statement
import JvmDerived.Pilot.@@N@@Code
set_option linter.unusedVariables false
set_option linter.unusedSimpArgs false
namespace Jvm.Pilot.@@N@@
open Jvm Jvm.ClassFile Sem Op Lib Jvm.Free Jvm.Stand Jvm.LawKit Jvm.RoadKit Bundle Jvm.Pilot.@@N@@.Jvm.D

/-! OWN KIT: the walk in continuation form; arrays by their cell as functions of the place -/
section OwnKit
variable {p : Program} {l : Launch} {e : Env} {R : Room} {s : State} {m : MethodId} {args : Array Value} {below : List Frame} {meth : Method} {c : Code} {T : State} {locs : List Loc} {cells slots : Nat} {Z : State} {a0 : Array Value} {h h' h0 : Heap} {a b : Addr} {v : Value} {sl : Nat} {ty : FieldType} {n k : Nat} {f f' : Nat → Value} {n0 : Nat} {ws : List Addr}
/-- from this state with this top frame the run ends as F says -/
def Go (tb : Tables) (e : Env) (below : List Frame) (F : Outcome → State → Prop) (T : State) (g : JFrame) : Prop :=
  ∃ s₂ o, Steps tb e below (T.setTop g) s₂ ∧ s₂.status = .running ∧ Ended s₂ below o ∧ F o s₂
theorem Go.st {tb : Tables} {F : Outcome → State → Prop} {T T' : State} {g g' : JFrame} (st : ∀ t, Steps tb e below (T'.setTop g') t → Steps tb e below (T.setTop g) t) (k : Go tb e below F T' g') : Go tb e below F T g := by
  obtain ⟨s₂, o, h1, h2⟩ := k
  exact ⟨s₂, o, st _ h1, h2⟩
theorem Go.frame {tb : Tables} {F : Outcome → State → Prop} {T : State} {g g' : JFrame} (q : g = g') (k : Go tb e below F T g') : Go tb e below F T g := q ▸ k
theorem own_join {α : Type} {tb : Tables} {F : Outcome → State → Prop} {T T2 : State} {g : α → JFrame} {g2 : JFrame} (J : ∀ z, Go tb e below F T (g z)) (k : (∀ z, Go tb e below F T (g z)) → Go tb e below F T2 g2) : Go tb e below F T2 g2 := k J
/-- what a body's end must say -/
def Fi (s : State) (Q : Option Value → Heap → List Loc → Prop) (k n : Nat) (o : Outcome) (U : State) : Prop :=
  ∃ v L, o = .returned v ∧ Q v U.heap L ∧ FrameEnd s o U L k n
/-- a body's contract: called with these values at this heap it returns and Q holds -/
def Does (l : Launch) (Z : State) (y : MethodName) (bytes : ByteArray) (mx : Nat) (ret : Option FieldType) (rm : Room) (as' : Array Value) (h : Heap) (Q : Option Value → Heap → List Loc → Prop) : Prop :=
  ∀ ws, MetFree l y (head1 (Jvm.Cond.code y bytes mx ret :: ws) rm) (fun a U => a = as' ∧ Z.Warmed39 U.vm ∧ U.heap = h) (fun _ _ _ _ _ => True) (fun _ U o U' => Fi U Q rm.cells rm.slots o U')
theorem Does.body {y : MethodName} {bytes : ByteArray} {mx : Nat} {ret : Option FieldType} {rm : Room} {as' : Array Value} {h : Heap} {Q : Option Value → Heap → List Loc → Prop} (hy : plainFor y = true)
    (B : ∀ (p : Program) (e : Env) (s : State) (m : MethodId) (below : List Frame) (meth : Method) (c : Code) (T : State), Stand p l e rm s m as' below meth c T [] 0 0 → p.tables.exec = Jvm.exec → Z.Warmed39 s.vm → c.code = bytes → c.maxLocals = mx → s.vm.findClass y.cls = some m.cls → meth.name = y.name → meth.sig.returnType = ret → meth.locks = false → T.heap = h → Go p.tables e below (Fi s Q rm.cells rm.slots) T (entryFrame m as' mx)) : Does l Z y bytes mx ret rm as' h Q := fun ws => by
  refine MetFree.of_bodySF hy hisR ?_
  intro p e s m args below meth c s₁ Bd hml0 hP hK
  obtain ⟨ha, hZ, hh⟩ := hP
  subst ha
  exact B p e s m below meth c s₁ (Stand.of_body Bd) Bd.exec hZ Bd.bytes hml0 (findClass_of_methodNamed Bd.named) (name_of_methodNamed Bd.named Bd.method).1 Bd.returns Bd.notSynchronized (by rw [← hh, Bd.state]; rfl)
/-! the returns -/
theorem goI (X : Stand p l e R s m args below meth c T locs cells slots) (hx : p.tables.exec = Jvm.exec) (hret : meth.sig.returnType = some .int) (hlk : meth.locks = false) {pc : Nat} {Ls : Array Slot} {z : Int32} {rest : List Value} (hd : decode c.code pc = .ok (.ireturn, 1)) {Q : Option Value → Heap → List Loc → Prop} {k n : Nat} (hk : cells ≤ k) (hn : slots ≤ n) (q : Q (some (.int z)) T.heap locs) :
    Go p.tables e below (Fi s Q k n) T (mkF m pc Ls (.int z :: rest)) := by
  obtain ⟨fs, hr, hrun, hended, hW, hsame⟩ := X.leave (v := some (.int z)) (fun h => by rw [hret] at h; cases h) hlk
  exact ⟨_, _, retOut X hx hret rfl (Or.inl ⟨rfl, Or.inl rfl, z, rfl⟩) hd hr, hrun, hended, _, _, rfl, q, ⟨_, rfl⟩, hW, hsame.mono hk hn⟩
theorem goN (X : Stand p l e R s m args below meth c T locs cells slots) (hx : p.tables.exec = Jvm.exec) {t : FieldType} (hret : meth.sig.returnType = some t) (hlk : meth.locks = false) (ht : t = .boolean ∨ t = .byte ∨ t = .char ∨ t = .short) {pc : Nat} {Ls : Array Slot} {z : Int32} {rest : List Value} (hd : decode c.code pc = .ok (.ireturn, 1)) {Q : Option Value → Heap → List Loc → Prop} {k n : Nat} (hk : cells ≤ k) (hn : slots ≤ n) (q : Q (some (.int (nar t z))) T.heap locs) :
    Go p.tables e below (Fi s Q k n) T (mkF m pc Ls (.int z :: rest)) := by
  obtain ⟨fs, hr, hrun, hended, hW, hsame⟩ := X.leave (v := some (.int (nar t z))) (fun h => by rw [hret] at h; cases h) hlk
  exact ⟨_, _, retN X hx hret ht hd hr, hrun, hended, _, _, rfl, q, ⟨_, rfl⟩, hW, hsame.mono hk hn⟩
theorem goJ (X : Stand p l e R s m args below meth c T locs cells slots) (hx : p.tables.exec = Jvm.exec) (hret : meth.sig.returnType = some .long) (hlk : meth.locks = false) {pc : Nat} {Ls : Array Slot} {z : Int64} {rest : List Value} (hd : decode c.code pc = .ok (.lreturn, 1)) {Q : Option Value → Heap → List Loc → Prop} {k n : Nat} (hk : cells ≤ k) (hn : slots ≤ n) (q : Q (some (.long z)) T.heap locs) :
    Go p.tables e below (Fi s Q k n) T (mkF m pc Ls (.long z :: rest)) := by
  obtain ⟨fs, hr, hrun, hended, hW, hsame⟩ := X.leave (v := some (.long z)) (fun h => by rw [hret] at h; cases h) hlk
  exact ⟨_, _, retOut X hx hret rfl (Or.inr (Or.inl ⟨rfl, rfl, z, rfl⟩)) hd hr, hrun, hended, _, _, rfl, q, ⟨_, rfl⟩, hW, hsame.mono hk hn⟩
theorem goA (X : Stand p l e R s m args below meth c T locs cells slots) (hx : p.tables.exec = Jvm.exec) {t : FieldType} (hret : meth.sig.returnType = some t) (hlk : meth.locks = false) (ht : t.isReference = true) (hnr : ∀ z : Addr, narrow t (.ref z) = .ref z) {pc : Nat} {Ls : Array Slot} {z : Addr} {rest : List Value} (hd : decode c.code pc = .ok (.areturn, 1)) {Q : Option Value → Heap → List Loc → Prop} {k n : Nat} (hk : cells ≤ k) (hn : slots ≤ n) (q : Q (some (.ref z)) T.heap locs) :
    Go p.tables e below (Fi s Q k n) T (mkF m pc Ls (.ref z :: rest)) := by
  obtain ⟨fs, hr, hrun, hended, hW, hsame⟩ := X.leave (v := some (.ref z)) (fun h => by rw [hret] at h; cases h) hlk
  exact ⟨_, _, retOut X hx hret (hnr z) (Or.inr (Or.inr (Or.inr (Or.inr ⟨rfl, ht, rfl⟩)))) hd hr, hrun, hended, _, _, rfl, q, ⟨_, rfl⟩, hW, hsame.mono hk hn⟩
theorem goV (X : Stand p l e R s m args below meth c T locs cells slots) (hx : p.tables.exec = Jvm.exec) (hret : meth.sig.returnType = none) (hlk : meth.locks = false) {pc : Nat} {Ls : Array Slot} (hd : decode c.code pc = .ok (.return_, 1)) {Q : Option Value → Heap → List Loc → Prop} {k n : Nat} (hk : cells ≤ k) (hn : slots ≤ n) (q : Q none T.heap locs) :
    Go p.tables e below (Fi s Q k n) T (mkF m pc Ls []) := by
  obtain ⟨fs, hr, hrun, hended, hW, hsame⟩ := X.leave (v := none) (fun _ => rfl) hlk
  exact ⟨_, _, X.returnOut hx hret hd hr, hrun, hended, _, _, rfl, q, ⟨_, rfl⟩, hW, hsame.mono hk hn⟩
/-! the calls -/
theorem own_one {k : Nat} {L : List Loc} (N : Fr k L) (q : k ≤ a) : Fr k (L ++ [⟨a, sl⟩]) := N.app fun y hy => by cases List.mem_singleton.mp hy; exact q
theorem goS (X : Stand p l e R s m args below meth c T locs cells slots) (hx : p.tables.exec = Jvm.exec) (hZ : Z.Warmed39 s.vm) {own : String} {index : Nat} {y : MethodName} {bytes : ByteArray} {mx : Nat} {ret : Option FieldType} (hown : s.vm.findClass own = some m.cls)
    (w1 : (Jvm.Cond.methodLink own index y).before a0 Z = true) (w2 : (Jvm.Cond.static y).before a0 Z = true) (w3 : (Jvm.Cond.initialized y.cls).before a0 Z = true) (w4 : (Jvm.Cond.code y bytes mx ret).before a0 Z = true) (hy : y.cls ≠ "java/lang/invoke/MethodHandle" ∧ y.cls ≠ "java/lang/invoke/VarHandle")
    {rm : Room} {as' : Array Value} {Q : Option Value → Heap → List Loc → Prop} (D : Does l Z y bytes mx ret rm as' h Q) (eT : T.heap = h) (N : Fr n0 locs) (W : Nat) (hf : rm.frames + 1 ≤ R.frames) (hl : W + (mx + 11) + rm.locals ≤ R.locals) (hc : cells + rm.cells ≤ R.cells) (hs : slots + rm.slots ≤ R.slots)
    {g : JFrame} (hg : g.method = m) (hsize : g.locals.size = c.maxLocals) (argsL rest : List Value) (hlen : ∀ sig, parseMethodDescriptor y.desc = some sig → argsL.length = sig.parameters.length) (has : argsL.toArray = as')
    (hstack : g.stack = argsL.reverse ++ rest) (hW : 2 * g.monitorRoom + (rest.map fun v => v.category).sum ≤ W) (hd : decode c.code g.pc = .ok (.invokestatic index, 3)) {F : Outcome → State → Prop}
    (kk : ∀ (T' : State) (v : Option Value) (L L' : List Loc), Stand p l e R s m args below meth c T' L' (cells + rm.cells) (slots + rm.slots) → (Fr n0 L → Fr n0 L') → Q v T'.heap L → Go p.tables e below F T' { g with pc := g.pc + 3, stack := v.toList ++ rest }) : Go p.tables e below F T g := by
  obtain ⟨v, _, ⟨T', L', k', n'⟩, -, X', ⟨L, hq, e1, e2, e3⟩, st⟩ := Jvm.LawKit.callS X hx hown (mvT hZ w1) (mvT hZ w2) (mvT hZ w3) (mvT hZ w4) hy (backOf (W := W) (Q := Q) (D []) hZ w4 w3 hf hl) hg hsize hlen hstack hW hd (fun _ _ => ⟨has, eT, hc, hs⟩)
  dsimp only [Pt.U, Pt.locs, Pt.cells, Pt.slots] at X' e1 e2 e3 st hq
  subst e1 e2 e3
  exact Go.st st (kk T' v L _ X' (fun q => N.app q) hq)
theorem goM (X : Stand p l e R s m args below meth c T locs cells slots) (hx : p.tables.exec = Jvm.exec) (hZ : Z.Warmed39 s.vm) {own C : String} {index : Nat} {y z : MethodName} {bytes : ByteArray} {mx : Nat} {ret : Option FieldType} (hown : s.vm.findClass own = some m.cls)
    (w1 : (Jvm.Cond.methodLink own index y).before a0 Z = true) (w2 : (Jvm.Cond.declares y).before a0 Z = true) (w3 : (Jvm.Cond.selects C y z).before a0 Z = true) (w4 : (Jvm.Cond.instanceMethod z).before a0 Z = true) (w5 : (Jvm.Cond.code z bytes mx ret).before a0 Z = true) (w6 : (Jvm.Cond.initialized z.cls).before a0 Z = true) (hnf : NotFace s y) (hy : y.cls ≠ "java/lang/invoke/MethodHandle" ∧ y.cls ≠ "java/lang/invoke/VarHandle")
    {rm : Room} {as' : Array Value} {Q : Option Value → Heap → List Loc → Prop} (D : Does l Z z bytes mx ret rm as' h Q) (eT : T.heap = h) (N : Fr n0 locs) (E : Exa Z h b C) (W : Nat) (hf : rm.frames + 1 ≤ R.frames) (hl : W + (mx + 11) + rm.locals ≤ R.locals) (hc : cells + rm.cells ≤ R.cells) (hs : slots + rm.slots ≤ R.slots)
    {g : JFrame} (hg : g.method = m) (hsize : g.locals.size = c.maxLocals) (argsL rest : List Value) (hlen : ∀ sig, parseMethodDescriptor y.desc = some sig → argsL.length = sig.parameters.length) (has : (.ref b :: argsL).toArray = as')
    (hstack : g.stack = argsL.reverse ++ .ref b :: rest) (hW : 2 * g.monitorRoom + (rest.map fun v => v.category).sum ≤ W) (hd : decode c.code g.pc = .ok (.invokevirtual index, 3)) {F : Outcome → State → Prop}
    (kk : ∀ (T' : State) (v : Option Value) (L L' : List Loc), Stand p l e R s m args below meth c T' L' (cells + rm.cells) (slots + rm.slots) → (Fr n0 L → Fr n0 L') → Q v T'.heap L → Go p.tables e below F T' { g with pc := g.pc + 3, stack := v.toList ++ rest }) : Go p.tables e below F T g := by
  obtain ⟨cq, kq, qa, qb, qc⟩ := isOf hZ eT E
  obtain ⟨v, _, ⟨T', L', k', n'⟩, -, X', ⟨L, hq, e1, e2, e3⟩, st⟩ := X.virtualBack hx hown (mvT hZ w1) (mvT hZ w2) hnf (mvT hZ w3) (mvT hZ w4) hy (backOf (W := W) (Q := Q) (D []) hZ w5 w6 hf hl) qa qc hg hsize (Steps.refl _) hlen hstack hW hd (fun _ _ => ⟨has, eT, hc, hs⟩)
  dsimp only [Pt.U, Pt.locs, Pt.cells, Pt.slots] at X' e1 e2 e3 st hq
  subst e1 e2 e3
  exact Go.st (fun t k => st.trans k) (kk T' v L _ X' (fun q => N.app q) hq)
theorem goC (X : Stand p l e R s m args below meth c T locs cells slots) (hx : p.tables.exec = Jvm.exec) (hZ : Z.Warmed39 s.vm) {own : String} {index : Nat} {y : MethodName} {bytes : ByteArray} {mx : Nat} (hy1 : y.name = "<init>") (hown : s.vm.findClass own = some m.cls)
    (w1 : (Jvm.Cond.methodLink own index y).before a0 Z = true) (w2 : (Jvm.Cond.instanceMethod y).before a0 Z = true) (w3 : (Jvm.Cond.initialized y.cls).before a0 Z = true) (w4 : (Jvm.Cond.code y bytes mx none).before a0 Z = true) (hy : y.cls ≠ "java/lang/invoke/MethodHandle" ∧ y.cls ≠ "java/lang/invoke/VarHandle")
    {rm : Room} {as' : Array Value} {Q : Option Value → Heap → List Loc → Prop} (D : Does l Z y bytes mx none rm as' h Q) (eT : T.heap = h) (N : Fr n0 locs) (W : Nat) (hf : rm.frames + 1 ≤ R.frames) (hl : W + (mx + 11) + rm.locals ≤ R.locals) (hc : cells + rm.cells ≤ R.cells) (hs : slots + rm.slots ≤ R.slots)
    {g : JFrame} (hg : g.method = m) (hsize : g.locals.size = c.maxLocals) (argsL rest : List Value) (hlen : ∀ sig, parseMethodDescriptor y.desc = some sig → argsL.length = sig.parameters.length) (has : (.ref b :: argsL).toArray = as')
    (hstack : g.stack = argsL.reverse ++ .ref b :: rest) (hW : 2 * g.monitorRoom + (rest.map fun v => v.category).sum ≤ W) (hd : decode c.code g.pc = .ok (.invokespecial index, 3)) {F : Outcome → State → Prop}
    (kk : ∀ (T' : State) (v : Option Value) (L L' : List Loc), Stand p l e R s m args below meth c T' L' (cells + rm.cells) (slots + rm.slots) → (Fr n0 L → Fr n0 L') → Q v T'.heap L → Go p.tables e below F T' { g with pc := g.pc + 3, stack := v.toList ++ rest }) : Go p.tables e below F T g := by
  obtain ⟨v, _, ⟨T', L', k', n'⟩, -, X', ⟨L, hq, e1, e2, e3⟩, st⟩ := X.specialBack hx hy1 hown (mvT hZ w1) (mvT hZ w2) (mvT hZ w4) hy (backOf (W := W) (Q := Q) (D []) hZ w4 w3 hf hl) hg hsize (Steps.refl _) hlen hstack hW hd (fun _ _ => ⟨has, eT, hc, hs⟩)
  dsimp only [Pt.U, Pt.locs, Pt.cells, Pt.slots] at X' e1 e2 e3 st hq
  subst e1 e2 e3
  exact Go.st (fun t k => st.trans k) (kk T' v L _ X' (fun q => N.app q) hq)
/-! arrays -/
/-- the array at a has n places, place i holds f i -/
def BA (Z : State) (h : Heap) (a : Addr) (ty : FieldType) (n : Nat) (f : Nat → Value) : Prop := ∃ c : Cell, Arr Z h a c ty ∧ c.slots.size = n ∧ ∀ i, i < n → c.slots[i]? = some (f i)
theorem BA.lt (V : BA Z h a ty n f) : a < h.size := by obtain ⟨c, A, -⟩ := V; exact A.lt
theorem BA.ext (V : BA Z h a ty n f) (E : Ext h h') : BA Z h' a ty n f := by obtain ⟨c, A, r⟩ := V; exact ⟨c, A.ext E, r⟩
theorem BA.other (V : BA Z h b ty n f) (W : Wr h h' a sl v) (q : b ≠ a) : BA Z h' b ty n f := by obtain ⟨c, A, r⟩ := V; exact ⟨c, A.other W q, r⟩
theorem BA.keep (V : BA Z h a ty n f) (K : Keep h h' ws) (q : a ∉ ws) : BA Z h' a ty n f := by obtain ⟨c, A, r⟩ := V; exact ⟨c, ⟨K.2.1 a c A.1 q, A.2⟩, r⟩
theorem BA.set (V : BA Z h a ty n f) (W : Wr h h' a k v) : BA Z h' a ty n (fun i => if i = k then v else f i) := by
  obtain ⟨c, A, S, H⟩ := V
  refine ⟨_, A.same W, by rw [sz_set]; exact S, fun i hi => ?_⟩
  show _ = some (if i = k then v else f i)
  by_cases q : i = k
  · subst q; rw [if_pos rfl]; simp [Cell.setSlot, S, hi]
  · rw [if_neg q]; simp only [Cell.setSlot]; rw [Array.getElem?_setIfInBounds_ne (fun z => q z.symm)]; exact H i hi
theorem BA.to (V : BA Z h a ty n f) (q : ∀ i, i < n → f i = f' i) : BA Z h a ty n f' := by
  obtain ⟨c, A, S, H⟩ := V
  exact ⟨c, A, S, fun i hi => by rw [H i hi, q i hi]⟩
theorem BA.new {kc : ClassId} {z : Int32} (A : Arr Z h a (newA kc ty z) ty) (hz : z.toNatClampNeg = n) : BA Z h a ty n (fun _ => defaultValue ty) := ⟨_, A, by rw [sz_new]; exact hz, fun i hi => by
  have : i < z.toNatClampNeg := by rw [hz]; exact hi
  simp [newA, this]⟩
/-- the int j is the place k of n -/
def Ix (j : Int32) (k n : Nat) : Prop := ¬ j < 0 ∧ j.toNatClampNeg = k ∧ k < n
theorem Ix.hin {j : Int32} {c : Cell} (I : Ix j k n) (S : c.slots.size = n) : ¬ (j < 0 ∨ c.slots.size ≤ j.toNatClampNeg) := by
  obtain ⟨h1, h2, h3⟩ := I
  rw [S, h2]; intro q; rcases q with q | q
  · exact h1 q
  · omega
theorem goStB (X : Stand p l e R s m args below meth c T locs cells slots) (hx : p.tables.exec = Jvm.exec) (hZ : Z.Warmed39 s.vm) (eT : T.heap = h) (N : Fr n0 locs) (V : BA Z h a .byte n f) (ga : n0 ≤ a) {j x : Int32} {g : JFrame} (hg : g.method = m) {rest : List Value} (hs : g.stack = .int x :: .int j :: .ref a :: rest) (hd : decode c.code g.pc = .ok (.bastore, 1)) (I : Ix j k n) {F : Outcome → State → Prop}
    (kk : ∀ (T' : State) (h' : Heap) (L : List Loc), Stand p l e R s m args below meth c T' L cells slots → T'.heap = h' → Fr n0 L → Wr h h' a k (.int x.toInt8.toInt32) → BA Z h' a .byte n (fun i => if i = k then .int x.toInt8.toInt32 else f i) → Go p.tables e below F T' { g with pc := g.pc + 1, stack := rest }) : Go p.tables e below F T g := by
  have V0 := V
  obtain ⟨cl, A, S, H⟩ := V
  obtain ⟨T', h', X', e', W, st⟩ := stB X hx hZ eT A (I.hin S) hg hs hd
  obtain ⟨h1, h2, h3⟩ := I
  subst h2
  exact Go.st st (kk T' h' _ X' e' (own_one N ga) W (V0.set W))
theorem goStI (X : Stand p l e R s m args below meth c T locs cells slots) (hx : p.tables.exec = Jvm.exec) (hZ : Z.Warmed39 s.vm) (eT : T.heap = h) (N : Fr n0 locs) (V : BA Z h a .int n f) (ga : n0 ≤ a) {j x : Int32} {g : JFrame} (hg : g.method = m) {rest : List Value} (hs : g.stack = .int x :: .int j :: .ref a :: rest) (hd : decode c.code g.pc = .ok (.iastore, 1)) (I : Ix j k n) {F : Outcome → State → Prop}
    (kk : ∀ (T' : State) (h' : Heap) (L : List Loc), Stand p l e R s m args below meth c T' L cells slots → T'.heap = h' → Fr n0 L → Wr h h' a k (.int x) → BA Z h' a .int n (fun i => if i = k then .int x else f i) → Go p.tables e below F T' { g with pc := g.pc + 1, stack := rest }) : Go p.tables e below F T g := by
  have V0 := V
  obtain ⟨cl, A, S, H⟩ := V
  obtain ⟨T', h', X', e', W, st⟩ := stI X hx hZ eT A (I.hin S) hg hs hd
  obtain ⟨h1, h2, h3⟩ := I
  subst h2
  exact Go.st st (kk T' h' _ X' e' (own_one N ga) W (V0.set W))
theorem goStJ (X : Stand p l e R s m args below meth c T locs cells slots) (hx : p.tables.exec = Jvm.exec) (hZ : Z.Warmed39 s.vm) (eT : T.heap = h) (N : Fr n0 locs) (V : BA Z h a .long n f) (ga : n0 ≤ a) {j : Int32} {x : Int64} {g : JFrame} (hg : g.method = m) {rest : List Value} (hs : g.stack = .long x :: .int j :: .ref a :: rest) (hd : decode c.code g.pc = .ok (.lastore, 1)) (I : Ix j k n) {F : Outcome → State → Prop}
    (kk : ∀ (T' : State) (h' : Heap) (L : List Loc), Stand p l e R s m args below meth c T' L cells slots → T'.heap = h' → Fr n0 L → Wr h h' a k (.long x) → BA Z h' a .long n (fun i => if i = k then .long x else f i) → Go p.tables e below F T' { g with pc := g.pc + 1, stack := rest }) : Go p.tables e below F T g := by
  have V0 := V
  obtain ⟨cl, A, S, H⟩ := V
  obtain ⟨T', h', X', e', W, st⟩ := stJ X hx hZ eT A (I.hin S) hg hs hd
  obtain ⟨h1, h2, h3⟩ := I
  subst h2
  exact Go.st st (kk T' h' _ X' e' (own_one N ga) W (V0.set W))
theorem goLdB (X : Stand p l e R s m args below meth c T locs cells slots) (hx : p.tables.exec = Jvm.exec) (hZ : Z.Warmed39 s.vm) (eT : T.heap = h) (V : BA Z h a .byte n f) {j : Int32} {v : Value} {g : JFrame} (hg : g.method = m) {rest : List Value} (hs : g.stack = .int j :: .ref a :: rest) (hd : decode c.code g.pc = .ok (.baload, 1)) (I : Ix j k n) (hv : f k = v) {F : Outcome → State → Prop}
    (kk : Go p.tables e below F T { g with pc := g.pc + 1, stack := v :: rest }) : Go p.tables e below F T g := by
  obtain ⟨cl, A, S, H⟩ := V
  exact Go.st (fun t q => X.baloadBytes hx (by rw [eT]; exact A.1) (State.isArrayOf_alike hZ.alike A.2.1) A.2.2 (I.hin S) (by rw [I.2.1, H k I.2.2, hv]) hg hs hd t q) kk
theorem goLdI (X : Stand p l e R s m args below meth c T locs cells slots) (hx : p.tables.exec = Jvm.exec) (hZ : Z.Warmed39 s.vm) (eT : T.heap = h) (V : BA Z h a .int n f) {j : Int32} {v : Value} {g : JFrame} (hg : g.method = m) {rest : List Value} (hs : g.stack = .int j :: .ref a :: rest) (hd : decode c.code g.pc = .ok (.iaload, 1)) (I : Ix j k n) (hv : f k = v) {F : Outcome → State → Prop}
    (kk : Go p.tables e below F T { g with pc := g.pc + 1, stack := v :: rest }) : Go p.tables e below F T g := by
  obtain ⟨cl, A, S, H⟩ := V
  exact Go.st (fun t q => X.iaload hx (by rw [eT]; exact A.1) (State.isArrayOf_alike hZ.alike A.2.1) A.2.2 (I.hin S) (by rw [I.2.1, H k I.2.2, hv]) hg hs hd t q) kk
theorem goLdJ (X : Stand p l e R s m args below meth c T locs cells slots) (hx : p.tables.exec = Jvm.exec) (hZ : Z.Warmed39 s.vm) (eT : T.heap = h) (V : BA Z h a .long n f) {j : Int32} {v : Value} {g : JFrame} (hg : g.method = m) {rest : List Value} (hs : g.stack = .int j :: .ref a :: rest) (hd : decode c.code g.pc = .ok (.laload, 1)) (I : Ix j k n) (hv : f k = v) {F : Outcome → State → Prop}
    (kk : Go p.tables e below F T { g with pc := g.pc + 1, stack := v :: rest }) : Go p.tables e below F T g := by
  obtain ⟨cl, A, S, H⟩ := V
  exact Go.st (fun t q => X.laload hx (by rw [eT]; exact A.1) (State.isArrayOf_alike hZ.alike A.2.1) A.2.2 (I.hin S) (by rw [I.2.1, H k I.2.2, hv]) hg hs hd t q) kk
theorem goLen (X : Stand p l e R s m args below meth c T locs cells slots) (hx : p.tables.exec = Jvm.exec) (hZ : Z.Warmed39 s.vm) (eT : T.heap = h) (V : BA Z h a ty n f) {z : Int32} (hz : n.toInt32 = z) {g : JFrame} (hg : g.method = m) {rest : List Value} (hs : g.stack = .ref a :: rest) (hd : decode c.code g.pc = .ok (.arraylength, 1)) {F : Outcome → State → Prop}
    (kk : Go p.tables e below F T { g with pc := g.pc + 1, stack := .int z :: rest }) : Go p.tables e below F T g := by
  obtain ⟨cl, A, S, H⟩ := V
  exact Go.st (fun t q => X.arraylength hx (by rw [eT]; exact A.1) (State.isArrayOf_alike hZ.alike A.2.1) hg hs hd t (by rw [S, hz]; exact q)) kk
theorem goNew (X : Stand p l e R s m args below meth c T locs cells slots) (hx : p.tables.exec = Jvm.exec) (hZ : Z.Warmed39 s.vm) {aty : ArrayType} (w : (Jvm.Cond.arrayClass (newarray.typeOf aty)).before a0 Z = true) (eT : T.heap = h) (Zs : n0 ≤ h.size) {z : Int32} (hz : ¬ z < 0) (hn : z.toNatClampNeg = n) (cap : Nat) (hcap : n ≤ cap) (hb : cap * 8 ≤ 536870912) (hc : cells + 1 ≤ R.cells) (hl : slots + cap ≤ R.slots)
    {g : JFrame} (hg : g.method = m) {rest : List Value} (hs : g.stack = .int z :: rest) (hd : decode c.code g.pc = .ok (.newarray aty, 2)) {F : Outcome → State → Prop}
    (kk : ∀ (T' : State) (h' : Heap) (b : Addr), Stand p l e R s m args below meth c T' locs (cells + 1) (slots + cap) → T'.heap = h' → Ext h h' → b = h.size → n0 ≤ b → n0 ≤ h'.size → BA Z h' b (newarray.typeOf aty) n (fun _ => defaultValue (newarray.typeOf aty)) → Go p.tables e below F T' { g with pc := g.pc + 2, stack := .ref b :: rest }) : Go p.tables e below F T g := by
  obtain ⟨T', h', cA, X', e', E, A, st⟩ := newP X hx hZ w eT hg hd hs hz (cap := cap) (by rw [hn]; exact hcap) hb hc hl
  exact Go.st st (kk T' h' _ X' e' E rfl Zs (Nat.le_trans Zs E.1) (BA.new A hn))
theorem own_sz (W : Wr h h' a sl v) (q : n0 ≤ h.size) : n0 ≤ h'.size := by rw [W.size]; exact q
end OwnKit

theorem d1_0 : decode jdk_29_method_69_code 0 = .ok (.iload_n 0, 1) := by decide +kernel
theorem d1_1 : decode jdk_29_method_69_code 1 = .ok (.iload_n 1, 1) := by decide +kernel
theorem d1_2 : decode jdk_29_method_69_code 2 = .ok (.if_icmp .gt 7, 3) := by decide +kernel
theorem d1_5 : decode jdk_29_method_69_code 5 = .ok (.iload_n 0, 1) := by decide +kernel
theorem d1_6 : decode jdk_29_method_69_code 6 = .ok (.goto 4, 3) := by decide +kernel
theorem d1_9 : decode jdk_29_method_69_code 9 = .ok (.iload_n 1, 1) := by decide +kernel
theorem d1_10 : decode jdk_29_method_69_code 10 = .ok (.ireturn, 1) := by decide +kernel
theorem ef_1 (m : MethodId) (x0 : Int32) (x1 : Int32) : entryFrame m #[(.int x0), (.int x1)] 2 = mkF m 0 #[.val (.int x0), .val (.int x1)] [] := by first | (simp [entryFrame, mkF, argsToLocals, Value.category]; done) | rfl
set_option maxRecDepth 65536 in
set_option maxHeartbeats 40000000 in
theorem rm1 (l : Launch) (Z : State) (a0 : Array Value) (hw : ∀ d ∈ tables_1, d.before a0 Z = true) (p1 : Int32) (p2 : Int32) (h0 : Heap) (n0 : Nat) (Z0 : n0 ≤ h0.size)   :
    Does l Z (⟨"java/lang/Math", "min", "(II)I"⟩ : MethodName) jdk_29_method_69_code 2 (some .int) ({ frames := 0, cells := 0, slots := 0, locals := 0 } : Room) #[(.int p1), (.int p2)] h0 (fun v h L => v = some (.int (if p2 < p1 then p2 else p1)) ∧ Fr n0 L ∧ h = h0) := by
  refine Does.body (Jvm.Free.JP.mathPlain rfl (by decide +kernel)) ?_
  intro p e s m below meth c T0 X0 hx hZ hby hml hown hnm hret hlk e0
  replace hown : s.vm.findClass "java/lang/Math" = some m.cls := hown
  have N0 := Fr.nil n0
  refine Go.frame (ef_1 m p1 p2) ?_
  show Go _ _ _ _ T0 (mkF m 0 #[.val (.int p1), .val (.int p2)] [])
  refine Go.st (fun t k => XS.iloadN X0.here hx rfl (hb hby d1_0) rfl k) ?_
  show Go _ _ _ _ T0 (mkF m 1 #[.val (.int p1), .val (.int p2)] [(.int p1)])
  refine Go.st (fun t k => XS.iloadN X0.here hx rfl (hb hby d1_1) rfl k) ?_
  show Go _ _ _ _ T0 (mkF m 2 #[.val (.int p1), .val (.int p2)] [(.int p2), (.int p1)])
  by_cases hc : p2 < p1
  ·
    refine Go.st (fun t k => XS.icmpYes X0.here hx rfl (pc0 := 2) (pc' := 9) rfl (hb hby d1_2) rfl (tlt hc).2.2.1 (by decide) (by decide) k) ?_
    show Go _ _ _ _ T0 (mkF m 9 #[.val (.int p1), .val (.int p2)] [])
    refine Go.st (fun t k => XS.iloadN X0.here hx rfl (hb hby d1_9) rfl k) ?_
    show Go _ _ _ _ T0 (mkF m 10 #[.val (.int p1), .val (.int p2)] [(.int p2)])
    exact goI X0 hx hret hlk (hb hby d1_10) (by decide) (by decide) ⟨by simp [hc], N0, e0⟩
  ·
    refine Go.st (fun t k => XS.icmpNo X0.here hx rfl (hb hby d1_2) rfl (flt hc).2.2.1 k) ?_
    show Go _ _ _ _ T0 (mkF m 5 #[.val (.int p1), .val (.int p2)] [])
    refine Go.st (fun t k => XS.iloadN X0.here hx rfl (hb hby d1_5) rfl k) ?_
    show Go _ _ _ _ T0 (mkF m 6 #[.val (.int p1), .val (.int p2)] [(.int p1)])
    refine Go.st (fun t k => XS.goto X0.here hx rfl (pc0 := 6) (pc' := 10) rfl (hb hby d1_6) (by decide) (by decide) k) ?_
    show Go _ _ _ _ T0 (mkF m 10 #[.val (.int p1), .val (.int p2)] [(.int p1)])
    exact goI X0 hx hret hlk (hb hby d1_10) (by decide) (by decide) ⟨by simp [hc], N0, e0⟩
theorem d2_0 : decode jdk_29_method_65_code 0 = .ok (.iload_n 0, 1) := by decide +kernel
theorem d2_1 : decode jdk_29_method_65_code 1 = .ok (.iload_n 1, 1) := by decide +kernel
theorem d2_2 : decode jdk_29_method_65_code 2 = .ok (.if_icmp .lt 7, 3) := by decide +kernel
theorem d2_5 : decode jdk_29_method_65_code 5 = .ok (.iload_n 0, 1) := by decide +kernel
theorem d2_6 : decode jdk_29_method_65_code 6 = .ok (.goto 4, 3) := by decide +kernel
theorem d2_9 : decode jdk_29_method_65_code 9 = .ok (.iload_n 1, 1) := by decide +kernel
theorem d2_10 : decode jdk_29_method_65_code 10 = .ok (.ireturn, 1) := by decide +kernel
theorem ef_2 (m : MethodId) (x0 : Int32) (x1 : Int32) : entryFrame m #[(.int x0), (.int x1)] 2 = mkF m 0 #[.val (.int x0), .val (.int x1)] [] := by first | (simp [entryFrame, mkF, argsToLocals, Value.category]; done) | rfl
set_option maxRecDepth 65536 in
set_option maxHeartbeats 40000000 in
theorem rm2 (l : Launch) (Z : State) (a0 : Array Value) (hw : ∀ d ∈ tables_1, d.before a0 Z = true) (p1 : Int32) (p2 : Int32) (h0 : Heap) (n0 : Nat) (Z0 : n0 ≤ h0.size)   :
    Does l Z (⟨"java/lang/Math", "max", "(II)I"⟩ : MethodName) jdk_29_method_65_code 2 (some .int) ({ frames := 0, cells := 0, slots := 0, locals := 0 } : Room) #[(.int p1), (.int p2)] h0 (fun v h L => v = some (.int (if p1 < p2 then p2 else p1)) ∧ Fr n0 L ∧ h = h0) := by
  refine Does.body (Jvm.Free.JP.mathPlain rfl (by decide +kernel)) ?_
  intro p e s m below meth c T0 X0 hx hZ hby hml hown hnm hret hlk e0
  replace hown : s.vm.findClass "java/lang/Math" = some m.cls := hown
  have N0 := Fr.nil n0
  refine Go.frame (ef_2 m p1 p2) ?_
  show Go _ _ _ _ T0 (mkF m 0 #[.val (.int p1), .val (.int p2)] [])
  refine Go.st (fun t k => XS.iloadN X0.here hx rfl (hb hby d2_0) rfl k) ?_
  show Go _ _ _ _ T0 (mkF m 1 #[.val (.int p1), .val (.int p2)] [(.int p1)])
  refine Go.st (fun t k => XS.iloadN X0.here hx rfl (hb hby d2_1) rfl k) ?_
  show Go _ _ _ _ T0 (mkF m 2 #[.val (.int p1), .val (.int p2)] [(.int p2), (.int p1)])
  by_cases hc : p1 < p2
  ·
    refine Go.st (fun t k => XS.icmpYes X0.here hx rfl (pc0 := 2) (pc' := 9) rfl (hb hby d2_2) rfl (tlt hc).1 (by decide) (by decide) k) ?_
    show Go _ _ _ _ T0 (mkF m 9 #[.val (.int p1), .val (.int p2)] [])
    refine Go.st (fun t k => XS.iloadN X0.here hx rfl (hb hby d2_9) rfl k) ?_
    show Go _ _ _ _ T0 (mkF m 10 #[.val (.int p1), .val (.int p2)] [(.int p2)])
    exact goI X0 hx hret hlk (hb hby d2_10) (by decide) (by decide) ⟨by simp [hc], N0, e0⟩
  ·
    refine Go.st (fun t k => XS.icmpNo X0.here hx rfl (hb hby d2_2) rfl (flt hc).1 k) ?_
    show Go _ _ _ _ T0 (mkF m 5 #[.val (.int p1), .val (.int p2)] [])
    refine Go.st (fun t k => XS.iloadN X0.here hx rfl (hb hby d2_5) rfl k) ?_
    show Go _ _ _ _ T0 (mkF m 6 #[.val (.int p1), .val (.int p2)] [(.int p1)])
    refine Go.st (fun t k => XS.goto X0.here hx rfl (pc0 := 6) (pc' := 10) rfl (hb hby d2_6) (by decide) (by decide) k) ?_
    show Go _ _ _ _ T0 (mkF m 10 #[.val (.int p1), .val (.int p2)] [(.int p1)])
    exact goI X0 hx hret hlk (hb hby d2_10) (by decide) (by decide) ⟨by simp [hc], N0, e0⟩
theorem d3_0 : decode prog_60_method_2_code 0 = .ok (.iload_n 0, 1) := by decide +kernel
theorem d3_1 : decode prog_60_method_2_code 1 = .ok (.sipush 2048, 3) := by decide +kernel
theorem d3_4 : decode prog_60_method_2_code 4 = .ok (.if_icmp .lt 7, 3) := by decide +kernel
theorem d3_7 : decode prog_60_method_2_code 7 = .ok (.iconst 1, 1) := by decide +kernel
theorem d3_8 : decode prog_60_method_2_code 8 = .ok (.goto 4, 3) := by decide +kernel
theorem d3_11 : decode prog_60_method_2_code 11 = .ok (.iconst 0, 1) := by decide +kernel
theorem d3_12 : decode prog_60_method_2_code 12 = .ok (.ireturn, 1) := by decide +kernel
theorem pn_3 : plainName "com/example/vetter/vetter/service/KeyPolicy" = true := by first | (simp [plainName, overriddenIn]; done) | decide +kernel
theorem ef_3 (m : MethodId) (x0 : Int32) : entryFrame m #[(.int x0)] 1 = mkF m 0 #[.val (.int x0)] [] := by first | (simp [entryFrame, mkF, argsToLocals, Value.category]; done) | rfl
set_option maxRecDepth 65536 in
set_option maxHeartbeats 40000000 in
theorem rm3 (l : Launch) (Z : State) (a0 : Array Value) (hw : ∀ d ∈ tables_1, d.before a0 Z = true) (p1 : Int32) (h0 : Heap) (n0 : Nat) (Z0 : n0 ≤ h0.size)   :
    Does l Z (⟨"com/example/vetter/vetter/service/KeyPolicy", "trustsRsaBits", "(I)Z"⟩ : MethodName) prog_60_method_2_code 1 (some .boolean) ({ frames := 0, cells := 0, slots := 0, locals := 0 } : Room) #[(.int p1)] h0 (fun v h L => ((¬ p1 < (2048 : Int32) ∧ v = some (.int 1)) ∨ (p1 < (2048 : Int32) ∧ v = some (.int 0))) ∧ Fr n0 L ∧ h = h0) := by
  refine Does.body (plainFor_of_name pn_3) ?_
  intro p e s m below meth c T0 X0 hx hZ hby hml hown hnm hret hlk e0
  replace hown : s.vm.findClass "com/example/vetter/vetter/service/KeyPolicy" = some m.cls := hown
  have N0 := Fr.nil n0
  refine Go.frame (ef_3 m p1) ?_
  show Go _ _ _ _ T0 (mkF m 0 #[.val (.int p1)] [])
  refine Go.st (fun t k => XS.iloadN X0.here hx rfl (hb hby d3_0) rfl k) ?_
  show Go _ _ _ _ T0 (mkF m 1 #[.val (.int p1)] [(.int p1)])
  refine Go.st (fun t k => XS.sipush X0.here hx rfl (hb hby d3_1) k) ?_
  show Go _ _ _ _ T0 (mkF m 4 #[.val (.int p1)] [(.int (2048 : Int32)), (.int p1)])
  by_cases hc : p1 < (2048 : Int32)
  ·
    refine Go.st (fun t k => XS.icmpYes X0.here hx rfl (pc0 := 4) (pc' := 11) rfl (hb hby d3_4) rfl (tlt hc).1 (by decide) (by decide) k) ?_
    show Go _ _ _ _ T0 (mkF m 11 #[.val (.int p1)] [])
    refine Go.st (fun t k => XS.iconst X0.here hx rfl (hb hby d3_11) k) ?_
    show Go _ _ _ _ T0 (mkF m 12 #[.val (.int p1)] [(.int (0 : Int32))])
    exact goN X0 hx hret hlk (by simp) (hb hby d3_12) (by decide) (by decide) ⟨Or.inr ⟨hc, rfl⟩, N0, e0⟩
  ·
    refine Go.st (fun t k => XS.icmpNo X0.here hx rfl (hb hby d3_4) rfl (flt hc).1 k) ?_
    show Go _ _ _ _ T0 (mkF m 7 #[.val (.int p1)] [])
    refine Go.st (fun t k => XS.iconst X0.here hx rfl (hb hby d3_7) k) ?_
    show Go _ _ _ _ T0 (mkF m 8 #[.val (.int p1)] [(.int (1 : Int32))])
    refine Go.st (fun t k => XS.goto X0.here hx rfl (pc0 := 8) (pc' := 12) rfl (hb hby d3_8) (by decide) (by decide) k) ?_
    show Go _ _ _ _ T0 (mkF m 12 #[.val (.int p1)] [(.int (1 : Int32))])
    exact goN X0 hx hret hlk (by simp) (hb hby d3_12) (by decide) (by decide) ⟨Or.inl ⟨hc, rfl⟩, N0, e0⟩
theorem own_le (p1 p2 : Int32) : ¬ (if p1 < p2 then p2 else p1) < (if p2 < p1 then p2 else p1) := by
  split <;> split <;> simp only [Int32.lt_iff_toInt_lt] at * <;> omega
theorem own_mono {lo hi t : Int32} (h : ¬ hi < lo) (q : hi < t) : lo < t := by
  simp only [Int32.lt_iff_toInt_lt] at *; omega
theorem pn_0 : plainName "com/example/vetter/vetter/service/KeyPolicyTrustsRsaBitsPinLaw" = true := by first | (simp [plainName, overriddenIn]; done) | decide +kernel
theorem pd0_0 : parseMethodDescriptor "(II)I" = some ⟨[.int, .int], some .int⟩ := by decide +kernel
theorem pd0_1 : parseMethodDescriptor "(I)Z" = some ⟨[.int], some .boolean⟩ := by decide +kernel
theorem ef_0 (m : MethodId) (x0 : Int32) (x1 : Int32) : entryFrame m #[(.int x0), (.int x1)] maxLocals = mkF m 0 #[.val (.int x0), .val (.int x1), .unset, .unset, .unset, .unset, .unset, .unset, .unset] [] := by first | (simp [entryFrame, mkF, argsToLocals, Value.category, maxLocals]; done) | rfl
set_option maxRecDepth 65536 in
set_option maxHeartbeats 40000000 in
theorem rm0 (l : Launch) (Z : State) (a0 : Array Value) (hw : ∀ d ∈ tables_1, d.before a0 Z = true) (p1 : Int32) (p2 : Int32) (h0 : Heap) (n0 : Nat) (Z0 : n0 ≤ h0.size)   :
    Does l Z x code maxLocals ret room_1 #[(.int p1), (.int p2)] h0 (fun v h L => v = some (.int 1) ∧ Fr n0 L) := by
  refine Does.body (plainFor_of_name pn_0) ?_
  intro p e s m below meth c T0 X0 hx hZ hby hml hown hnm hret hlk e0
  replace hown : s.vm.findClass "com/example/vetter/vetter/service/KeyPolicyTrustsRsaBitsPinLaw" = some m.cls := hown
  have N0 := Fr.nil n0
  refine Go.frame (ef_0 m p1 p2) ?_
  show Go _ _ _ _ T0 (mkF m 0 #[.val (.int p1), .val (.int p2), .unset, .unset, .unset, .unset, .unset, .unset, .unset] [])
  refine Go.st (fun t k => XS.iloadN X0.here hx rfl (hb hby at_0) rfl k) ?_
  show Go _ _ _ _ T0 (mkF m 1 #[.val (.int p1), .val (.int p2), .unset, .unset, .unset, .unset, .unset, .unset, .unset] [(.int p1)])
  refine Go.st (fun t k => XS.iloadN X0.here hx rfl (hb hby at_1) rfl k) ?_
  show Go _ _ _ _ T0 (mkF m 2 #[.val (.int p1), .val (.int p2), .unset, .unset, .unset, .unset, .unset, .unset, .unset] [(.int p2), (.int p1)])
  refine goS X0 hx hZ (y := (⟨"java/lang/Math", "min", "(II)I"⟩ : MethodName)) hown (hw _ (List.mem_of_getElem? (i := 0) rfl)) (hw _ (List.mem_of_getElem? (i := 1) rfl)) (hw _ (List.mem_of_getElem? (i := 2) rfl)) (hw _ (List.mem_of_getElem? (i := 3) rfl)) (by decide) (rm1 l Z a0 hw p1 p2 h0 n0 Z0) e0 N0 0 (by decide) (by decide) (by decide) (by decide) (g := (mkF m 2 #[.val (.int p1), .val (.int p2), .unset, .unset, .unset, .unset, .unset, .unset, .unset] [(.int p2), (.int p1)])) rfl (by rw [hml]; rfl) [(.int p1), (.int p2)] [] (lenOf pd0_0 rfl) rfl rfl (by show 2 * 0 + _ ≤ _; exact Nat.le_of_eq rfl) (hb hby at_2) ?_
  intro T1 v1 L1 M1 X1 N1 hq1
  obtain ⟨rfl, N1q, e1⟩ := hq1
  replace N1 := N1 N1q
  show Go _ _ _ _ T1 (mkF m 5 #[.val (.int p1), .val (.int p2), .unset, .unset, .unset, .unset, .unset, .unset, .unset] [(.int (if p2 < p1 then p2 else p1))])
  refine Go.st (fun t k => XS.istoreN X1.here hx rfl (hb hby at_5) rfl (l' := #[.val (.int p1), .val (.int p2), .val (.int (if p2 < p1 then p2 else p1)), .unset, .unset, .unset, .unset, .unset, .unset]) rfl k) ?_
  show Go _ _ _ _ T1 (mkF m 6 #[.val (.int p1), .val (.int p2), .val (.int (if p2 < p1 then p2 else p1)), .unset, .unset, .unset, .unset, .unset, .unset] [])
  refine Go.st (fun t k => XS.iloadN X1.here hx rfl (hb hby at_6) rfl k) ?_
  show Go _ _ _ _ T1 (mkF m 7 #[.val (.int p1), .val (.int p2), .val (.int (if p2 < p1 then p2 else p1)), .unset, .unset, .unset, .unset, .unset, .unset] [(.int p1)])
  refine Go.st (fun t k => XS.iloadN X1.here hx rfl (hb hby at_7) rfl k) ?_
  show Go _ _ _ _ T1 (mkF m 8 #[.val (.int p1), .val (.int p2), .val (.int (if p2 < p1 then p2 else p1)), .unset, .unset, .unset, .unset, .unset, .unset] [(.int p2), (.int p1)])
  refine goS X1 hx hZ (y := (⟨"java/lang/Math", "max", "(II)I"⟩ : MethodName)) hown (hw _ (List.mem_of_getElem? (i := 4) rfl)) (hw _ (List.mem_of_getElem? (i := 5) rfl)) (hw _ (List.mem_of_getElem? (i := 2) rfl)) (hw _ (List.mem_of_getElem? (i := 6) rfl)) (by decide) (rm2 l Z a0 hw p1 p2 h0 n0 Z0) e1 N1 0 (by decide) (by decide) (by decide) (by decide) (g := (mkF m 8 #[.val (.int p1), .val (.int p2), .val (.int (if p2 < p1 then p2 else p1)), .unset, .unset, .unset, .unset, .unset, .unset] [(.int p2), (.int p1)])) rfl (by rw [hml]; rfl) [(.int p1), (.int p2)] [] (lenOf pd0_0 rfl) rfl rfl (by show 2 * 0 + _ ≤ _; exact Nat.le_of_eq rfl) (hb hby at_8) ?_
  intro T2 v2 L2 M2 X2 N2 hq2
  obtain ⟨rfl, N2q, e2⟩ := hq2
  replace N2 := N2 N2q
  show Go _ _ _ _ T2 (mkF m 11 #[.val (.int p1), .val (.int p2), .val (.int (if p2 < p1 then p2 else p1)), .unset, .unset, .unset, .unset, .unset, .unset] [(.int (if p1 < p2 then p2 else p1))])
  refine Go.st (fun t k => XS.istoreN X2.here hx rfl (hb hby at_11) rfl (l' := #[.val (.int p1), .val (.int p2), .val (.int (if p2 < p1 then p2 else p1)), .val (.int (if p1 < p2 then p2 else p1)), .unset, .unset, .unset, .unset, .unset]) rfl k) ?_
  show Go _ _ _ _ T2 (mkF m 12 #[.val (.int p1), .val (.int p2), .val (.int (if p2 < p1 then p2 else p1)), .val (.int (if p1 < p2 then p2 else p1)), .unset, .unset, .unset, .unset, .unset] [])
  obtain ⟨lo, hlo⟩ : ∃ z, z = (if p2 < p1 then p2 else p1) := ⟨_, rfl⟩
  obtain ⟨hi, hhi⟩ : ∃ z, z = (if p1 < p2 then p2 else p1) := ⟨_, rfl⟩
  rw [← hlo, ← hhi]
  have hle : ¬ hi < lo := by rw [hlo, hhi]; exact own_le p1 p2
  show Go _ _ _ _ T2 (mkF m 12 #[.val (.int p1), .val (.int p2), .val (.int lo), .val (.int hi), .unset, .unset, .unset, .unset, .unset] [])
  refine Go.st (fun t k => XS.iloadN X2.here hx rfl (hb hby at_12) rfl k) ?_
  show Go _ _ _ _ T2 (mkF m 13 #[.val (.int p1), .val (.int p2), .val (.int lo), .val (.int hi), .unset, .unset, .unset, .unset, .unset] [(.int lo)])
  refine goS X2 hx hZ (y := (⟨"com/example/vetter/vetter/service/KeyPolicy", "trustsRsaBits", "(I)Z"⟩ : MethodName)) hown (hw _ (List.mem_of_getElem? (i := 7) rfl)) (hw _ (List.mem_of_getElem? (i := 8) rfl)) (hw _ (List.mem_of_getElem? (i := 9) rfl)) (hw _ (List.mem_of_getElem? (i := 10) rfl)) (by decide) (rm3 l Z a0 hw lo h0 n0 Z0) e2 N2 0 (by decide) (by decide) (by decide) (by decide) (g := (mkF m 13 #[.val (.int p1), .val (.int p2), .val (.int lo), .val (.int hi), .unset, .unset, .unset, .unset, .unset] [(.int lo)])) rfl (by rw [hml]; rfl) [(.int lo)] [] (lenOf pd0_1 rfl) rfl rfl (by show 2 * 0 + _ ≤ _; exact Nat.le_of_eq rfl) (hb hby at_13) ?_
  intro T3 v3 L3 M3 X3 N3 hq3
  obtain ⟨hq3, N3q, e3⟩ := hq3
  replace N3 := N3 N3q
  rcases hq3 with ⟨hr3, rfl⟩ | ⟨hr3, rfl⟩
  ·
    show Go _ _ _ _ T3 (mkF m 16 #[.val (.int p1), .val (.int p2), .val (.int lo), .val (.int hi), .unset, .unset, .unset, .unset, .unset] [(.int (1 : Int32))])
    refine Go.st (fun t k => XS.istore X3.here hx rfl (hb hby at_16) rfl (l' := #[.val (.int p1), .val (.int p2), .val (.int lo), .val (.int hi), .val (.int (1 : Int32)), .unset, .unset, .unset, .unset]) rfl k) ?_
    show Go _ _ _ _ T3 (mkF m 18 #[.val (.int p1), .val (.int p2), .val (.int lo), .val (.int hi), .val (.int (1 : Int32)), .unset, .unset, .unset, .unset] [])
    refine Go.st (fun t k => XS.iloadN X3.here hx rfl (hb hby at_18) rfl k) ?_
    show Go _ _ _ _ T3 (mkF m 19 #[.val (.int p1), .val (.int p2), .val (.int lo), .val (.int hi), .val (.int (1 : Int32)), .unset, .unset, .unset, .unset] [(.int hi)])
    refine goS X3 hx hZ (y := (⟨"com/example/vetter/vetter/service/KeyPolicy", "trustsRsaBits", "(I)Z"⟩ : MethodName)) hown (hw _ (List.mem_of_getElem? (i := 7) rfl)) (hw _ (List.mem_of_getElem? (i := 8) rfl)) (hw _ (List.mem_of_getElem? (i := 9) rfl)) (hw _ (List.mem_of_getElem? (i := 10) rfl)) (by decide) (rm3 l Z a0 hw hi h0 n0 Z0) e3 N3 0 (by decide) (by decide) (by decide) (by decide) (g := (mkF m 19 #[.val (.int p1), .val (.int p2), .val (.int lo), .val (.int hi), .val (.int (1 : Int32)), .unset, .unset, .unset, .unset] [(.int hi)])) rfl (by rw [hml]; rfl) [(.int hi)] [] (lenOf pd0_1 rfl) rfl rfl (by show 2 * 0 + _ ≤ _; exact Nat.le_of_eq rfl) (hb hby at_19) ?_
    intro T4 v4 L4 M4 X4 N4 hq4
    obtain ⟨hq4, N4q, e4⟩ := hq4
    replace N4 := N4 N4q
    rcases hq4 with ⟨hr4, rfl⟩ | ⟨hr4, rfl⟩
    ·
      show Go _ _ _ _ T4 (mkF m 22 #[.val (.int p1), .val (.int p2), .val (.int lo), .val (.int hi), .val (.int (1 : Int32)), .unset, .unset, .unset, .unset] [(.int (1 : Int32))])
      refine Go.st (fun t k => XS.istore X4.here hx rfl (hb hby at_22) rfl (l' := #[.val (.int p1), .val (.int p2), .val (.int lo), .val (.int hi), .val (.int (1 : Int32)), .val (.int (1 : Int32)), .unset, .unset, .unset]) rfl k) ?_
      show Go _ _ _ _ T4 (mkF m 24 #[.val (.int p1), .val (.int p2), .val (.int lo), .val (.int hi), .val (.int (1 : Int32)), .val (.int (1 : Int32)), .unset, .unset, .unset] [])
      refine Go.st (fun t k => XS.iload X4.here hx rfl (hb hby at_24) rfl k) ?_
      show Go _ _ _ _ T4 (mkF m 26 #[.val (.int p1), .val (.int p2), .val (.int lo), .val (.int hi), .val (.int (1 : Int32)), .val (.int (1 : Int32)), .unset, .unset, .unset] [(.int (1 : Int32))])
      refine Go.st (fun t k => XS.ifNo X4.here hx rfl (hb hby at_26) rfl (by decide) k) ?_
      show Go _ _ _ _ T4 (mkF m 29 #[.val (.int p1), .val (.int p2), .val (.int lo), .val (.int hi), .val (.int (1 : Int32)), .val (.int (1 : Int32)), .unset, .unset, .unset] [])
      refine Go.st (fun t k => XS.iload X4.here hx rfl (hb hby at_29) rfl k) ?_
      show Go _ _ _ _ T4 (mkF m 31 #[.val (.int p1), .val (.int p2), .val (.int lo), .val (.int hi), .val (.int (1 : Int32)), .val (.int (1 : Int32)), .unset, .unset, .unset] [(.int (1 : Int32))])
      refine Go.st (fun t k => XS.ifNo X4.here hx rfl (hb hby at_31) rfl (by decide) k) ?_
      show Go _ _ _ _ T4 (mkF m 34 #[.val (.int p1), .val (.int p2), .val (.int lo), .val (.int hi), .val (.int (1 : Int32)), .val (.int (1 : Int32)), .unset, .unset, .unset] [])
      refine Go.st (fun t k => XS.iconst X4.here hx rfl (hb hby at_34) k) ?_
      show Go _ _ _ _ T4 (mkF m 35 #[.val (.int p1), .val (.int p2), .val (.int lo), .val (.int hi), .val (.int (1 : Int32)), .val (.int (1 : Int32)), .unset, .unset, .unset] [(.int (1 : Int32))])
      refine Go.st (fun t k => XS.goto X4.here hx rfl (pc0 := 35) (pc' := 39) rfl (hb hby at_35) (by decide) (by decide) k) ?_
      show Go _ _ _ _ T4 (mkF m 39 #[.val (.int p1), .val (.int p2), .val (.int lo), .val (.int hi), .val (.int (1 : Int32)), .val (.int (1 : Int32)), .unset, .unset, .unset] [(.int (1 : Int32))])
      refine Go.st (fun t k => XS.istore X4.here hx rfl (hb hby at_39) rfl (l' := #[.val (.int p1), .val (.int p2), .val (.int lo), .val (.int hi), .val (.int (1 : Int32)), .val (.int (1 : Int32)), .val (.int (1 : Int32)), .unset, .unset]) rfl k) ?_
      show Go _ _ _ _ T4 (mkF m 41 #[.val (.int p1), .val (.int p2), .val (.int lo), .val (.int hi), .val (.int (1 : Int32)), .val (.int (1 : Int32)), .val (.int (1 : Int32)), .unset, .unset] [])
      refine Go.st (fun t k => XS.sipush X4.here hx rfl (hb hby at_41) k) ?_
      show Go _ _ _ _ T4 (mkF m 44 #[.val (.int p1), .val (.int p2), .val (.int lo), .val (.int hi), .val (.int (1 : Int32)), .val (.int (1 : Int32)), .val (.int (1 : Int32)), .unset, .unset] [(.int (2048 : Int32))])
      refine goS X4 hx hZ (y := (⟨"com/example/vetter/vetter/service/KeyPolicy", "trustsRsaBits", "(I)Z"⟩ : MethodName)) hown (hw _ (List.mem_of_getElem? (i := 7) rfl)) (hw _ (List.mem_of_getElem? (i := 8) rfl)) (hw _ (List.mem_of_getElem? (i := 9) rfl)) (hw _ (List.mem_of_getElem? (i := 10) rfl)) (by decide) (rm3 l Z a0 hw (2048 : Int32) h0 n0 Z0) e4 N4 0 (by decide) (by decide) (by decide) (by decide) (g := (mkF m 44 #[.val (.int p1), .val (.int p2), .val (.int lo), .val (.int hi), .val (.int (1 : Int32)), .val (.int (1 : Int32)), .val (.int (1 : Int32)), .unset, .unset] [(.int (2048 : Int32))])) rfl (by rw [hml]; rfl) [(.int (2048 : Int32))] [] (lenOf pd0_1 rfl) rfl rfl (by show 2 * 0 + _ ≤ _; exact Nat.le_of_eq rfl) (hb hby at_44) ?_
      intro T5 v5 L5 M5 X5 N5 hq5
      obtain ⟨hq5, N5q, e5⟩ := hq5
      replace N5 := N5 N5q
      rcases hq5 with ⟨hr5, rfl⟩ | ⟨hr5, rfl⟩
      ·
        show Go _ _ _ _ T5 (mkF m 47 #[.val (.int p1), .val (.int p2), .val (.int lo), .val (.int hi), .val (.int (1 : Int32)), .val (.int (1 : Int32)), .val (.int (1 : Int32)), .unset, .unset] [(.int (1 : Int32))])
        refine Go.st (fun t k => XS.istore X5.here hx rfl (hb hby at_47) rfl (l' := #[.val (.int p1), .val (.int p2), .val (.int lo), .val (.int hi), .val (.int (1 : Int32)), .val (.int (1 : Int32)), .val (.int (1 : Int32)), .val (.int (1 : Int32)), .unset]) rfl k) ?_
        show Go _ _ _ _ T5 (mkF m 49 #[.val (.int p1), .val (.int p2), .val (.int lo), .val (.int hi), .val (.int (1 : Int32)), .val (.int (1 : Int32)), .val (.int (1 : Int32)), .val (.int (1 : Int32)), .unset] [])
        refine Go.st (fun t k => XS.sipush X5.here hx rfl (hb hby at_49) k) ?_
        show Go _ _ _ _ T5 (mkF m 52 #[.val (.int p1), .val (.int p2), .val (.int lo), .val (.int hi), .val (.int (1 : Int32)), .val (.int (1 : Int32)), .val (.int (1 : Int32)), .val (.int (1 : Int32)), .unset] [(.int (2047 : Int32))])
        refine goS X5 hx hZ (y := (⟨"com/example/vetter/vetter/service/KeyPolicy", "trustsRsaBits", "(I)Z"⟩ : MethodName)) hown (hw _ (List.mem_of_getElem? (i := 7) rfl)) (hw _ (List.mem_of_getElem? (i := 8) rfl)) (hw _ (List.mem_of_getElem? (i := 9) rfl)) (hw _ (List.mem_of_getElem? (i := 10) rfl)) (by decide) (rm3 l Z a0 hw (2047 : Int32) h0 n0 Z0) e5 N5 0 (by decide) (by decide) (by decide) (by decide) (g := (mkF m 52 #[.val (.int p1), .val (.int p2), .val (.int lo), .val (.int hi), .val (.int (1 : Int32)), .val (.int (1 : Int32)), .val (.int (1 : Int32)), .val (.int (1 : Int32)), .unset] [(.int (2047 : Int32))])) rfl (by rw [hml]; rfl) [(.int (2047 : Int32))] [] (lenOf pd0_1 rfl) rfl rfl (by show 2 * 0 + _ ≤ _; exact Nat.le_of_eq rfl) (hb hby at_52) ?_
        intro T6 v6 L6 M6 X6 N6 hq6
        obtain ⟨hq6, N6q, e6⟩ := hq6
        replace N6 := N6 N6q
        rcases hq6 with ⟨hr6, rfl⟩ | ⟨hr6, rfl⟩
        ·
          exact absurd (show (2047 : Int32) < 2048 by decide) hr6
        ·
          show Go _ _ _ _ T6 (mkF m 55 #[.val (.int p1), .val (.int p2), .val (.int lo), .val (.int hi), .val (.int (1 : Int32)), .val (.int (1 : Int32)), .val (.int (1 : Int32)), .val (.int (1 : Int32)), .unset] [(.int (0 : Int32))])
          refine Go.st (fun t k => XS.istore X6.here hx rfl (hb hby at_55) rfl (l' := #[.val (.int p1), .val (.int p2), .val (.int lo), .val (.int hi), .val (.int (1 : Int32)), .val (.int (1 : Int32)), .val (.int (1 : Int32)), .val (.int (1 : Int32)), .val (.int (0 : Int32))]) rfl k) ?_
          show Go _ _ _ _ T6 (mkF m 57 #[.val (.int p1), .val (.int p2), .val (.int lo), .val (.int hi), .val (.int (1 : Int32)), .val (.int (1 : Int32)), .val (.int (1 : Int32)), .val (.int (1 : Int32)), .val (.int (0 : Int32))] [])
          refine Go.st (fun t k => XS.iload X6.here hx rfl (hb hby at_57) rfl k) ?_
          show Go _ _ _ _ T6 (mkF m 59 #[.val (.int p1), .val (.int p2), .val (.int lo), .val (.int hi), .val (.int (1 : Int32)), .val (.int (1 : Int32)), .val (.int (1 : Int32)), .val (.int (1 : Int32)), .val (.int (0 : Int32))] [(.int (1 : Int32))])
          refine Go.st (fun t k => XS.ifNo X6.here hx rfl (hb hby at_59) rfl (by decide) k) ?_
          show Go _ _ _ _ T6 (mkF m 62 #[.val (.int p1), .val (.int p2), .val (.int lo), .val (.int hi), .val (.int (1 : Int32)), .val (.int (1 : Int32)), .val (.int (1 : Int32)), .val (.int (1 : Int32)), .val (.int (0 : Int32))] [])
          refine Go.st (fun t k => XS.iload X6.here hx rfl (hb hby at_62) rfl k) ?_
          show Go _ _ _ _ T6 (mkF m 64 #[.val (.int p1), .val (.int p2), .val (.int lo), .val (.int hi), .val (.int (1 : Int32)), .val (.int (1 : Int32)), .val (.int (1 : Int32)), .val (.int (1 : Int32)), .val (.int (0 : Int32))] [(.int (1 : Int32))])
          refine Go.st (fun t k => XS.ifNo X6.here hx rfl (hb hby at_64) rfl (by decide) k) ?_
          show Go _ _ _ _ T6 (mkF m 67 #[.val (.int p1), .val (.int p2), .val (.int lo), .val (.int hi), .val (.int (1 : Int32)), .val (.int (1 : Int32)), .val (.int (1 : Int32)), .val (.int (1 : Int32)), .val (.int (0 : Int32))] [])
          refine Go.st (fun t k => XS.iload X6.here hx rfl (hb hby at_67) rfl k) ?_
          show Go _ _ _ _ T6 (mkF m 69 #[.val (.int p1), .val (.int p2), .val (.int lo), .val (.int hi), .val (.int (1 : Int32)), .val (.int (1 : Int32)), .val (.int (1 : Int32)), .val (.int (1 : Int32)), .val (.int (0 : Int32))] [(.int (0 : Int32))])
          refine Go.st (fun t k => XS.ifNo X6.here hx rfl (hb hby at_69) rfl (by decide) k) ?_
          show Go _ _ _ _ T6 (mkF m 72 #[.val (.int p1), .val (.int p2), .val (.int lo), .val (.int hi), .val (.int (1 : Int32)), .val (.int (1 : Int32)), .val (.int (1 : Int32)), .val (.int (1 : Int32)), .val (.int (0 : Int32))] [])
          refine Go.st (fun t k => XS.iconst X6.here hx rfl (hb hby at_72) k) ?_
          show Go _ _ _ _ T6 (mkF m 73 #[.val (.int p1), .val (.int p2), .val (.int lo), .val (.int hi), .val (.int (1 : Int32)), .val (.int (1 : Int32)), .val (.int (1 : Int32)), .val (.int (1 : Int32)), .val (.int (0 : Int32))] [(.int (1 : Int32))])
          refine Go.st (fun t k => XS.goto X6.here hx rfl (pc0 := 73) (pc' := 77) rfl (hb hby at_73) (by decide) (by decide) k) ?_
          show Go _ _ _ _ T6 (mkF m 77 #[.val (.int p1), .val (.int p2), .val (.int lo), .val (.int hi), .val (.int (1 : Int32)), .val (.int (1 : Int32)), .val (.int (1 : Int32)), .val (.int (1 : Int32)), .val (.int (0 : Int32))] [(.int (1 : Int32))])
          exact goN X6 hx hret hlk (by simp) (hb hby at_77) (by decide) (by decide) ⟨rfl, N6⟩
      ·
        exact absurd hr5 (by decide)
    ·
      exact absurd (own_mono hle hr4) hr3
  ·
    show Go _ _ _ _ T3 (mkF m 16 #[.val (.int p1), .val (.int p2), .val (.int lo), .val (.int hi), .unset, .unset, .unset, .unset, .unset] [(.int (0 : Int32))])
    refine Go.st (fun t k => XS.istore X3.here hx rfl (hb hby at_16) rfl (l' := #[.val (.int p1), .val (.int p2), .val (.int lo), .val (.int hi), .val (.int (0 : Int32)), .unset, .unset, .unset, .unset]) rfl k) ?_
    show Go _ _ _ _ T3 (mkF m 18 #[.val (.int p1), .val (.int p2), .val (.int lo), .val (.int hi), .val (.int (0 : Int32)), .unset, .unset, .unset, .unset] [])
    refine Go.st (fun t k => XS.iloadN X3.here hx rfl (hb hby at_18) rfl k) ?_
    show Go _ _ _ _ T3 (mkF m 19 #[.val (.int p1), .val (.int p2), .val (.int lo), .val (.int hi), .val (.int (0 : Int32)), .unset, .unset, .unset, .unset] [(.int hi)])
    refine goS X3 hx hZ (y := (⟨"com/example/vetter/vetter/service/KeyPolicy", "trustsRsaBits", "(I)Z"⟩ : MethodName)) hown (hw _ (List.mem_of_getElem? (i := 7) rfl)) (hw _ (List.mem_of_getElem? (i := 8) rfl)) (hw _ (List.mem_of_getElem? (i := 9) rfl)) (hw _ (List.mem_of_getElem? (i := 10) rfl)) (by decide) (rm3 l Z a0 hw hi h0 n0 Z0) e3 N3 0 (by decide) (by decide) (by decide) (by decide) (g := (mkF m 19 #[.val (.int p1), .val (.int p2), .val (.int lo), .val (.int hi), .val (.int (0 : Int32)), .unset, .unset, .unset, .unset] [(.int hi)])) rfl (by rw [hml]; rfl) [(.int hi)] [] (lenOf pd0_1 rfl) rfl rfl (by show 2 * 0 + _ ≤ _; exact Nat.le_of_eq rfl) (hb hby at_19) ?_
    intro T7 v7 L7 M7 X7 N7 hq7
    obtain ⟨hq7, N7q, e7⟩ := hq7
    replace N7 := N7 N7q
    rcases hq7 with ⟨hr7, rfl⟩ | ⟨hr7, rfl⟩
    ·
      show Go _ _ _ _ T7 (mkF m 22 #[.val (.int p1), .val (.int p2), .val (.int lo), .val (.int hi), .val (.int (0 : Int32)), .unset, .unset, .unset, .unset] [(.int (1 : Int32))])
      refine Go.st (fun t k => XS.istore X7.here hx rfl (hb hby at_22) rfl (l' := #[.val (.int p1), .val (.int p2), .val (.int lo), .val (.int hi), .val (.int (0 : Int32)), .val (.int (1 : Int32)), .unset, .unset, .unset]) rfl k) ?_
      show Go _ _ _ _ T7 (mkF m 24 #[.val (.int p1), .val (.int p2), .val (.int lo), .val (.int hi), .val (.int (0 : Int32)), .val (.int (1 : Int32)), .unset, .unset, .unset] [])
      refine Go.st (fun t k => XS.iload X7.here hx rfl (hb hby at_24) rfl k) ?_
      show Go _ _ _ _ T7 (mkF m 26 #[.val (.int p1), .val (.int p2), .val (.int lo), .val (.int hi), .val (.int (0 : Int32)), .val (.int (1 : Int32)), .unset, .unset, .unset] [(.int (0 : Int32))])
      refine Go.st (fun t k => XS.ifYes X7.here hx rfl (pc0 := 26) (pc' := 34) rfl (hb hby at_26) rfl (by decide) (by decide) (by decide) k) ?_
      show Go _ _ _ _ T7 (mkF m 34 #[.val (.int p1), .val (.int p2), .val (.int lo), .val (.int hi), .val (.int (0 : Int32)), .val (.int (1 : Int32)), .unset, .unset, .unset] [])
      refine Go.st (fun t k => XS.iconst X7.here hx rfl (hb hby at_34) k) ?_
      show Go _ _ _ _ T7 (mkF m 35 #[.val (.int p1), .val (.int p2), .val (.int lo), .val (.int hi), .val (.int (0 : Int32)), .val (.int (1 : Int32)), .unset, .unset, .unset] [(.int (1 : Int32))])
      refine Go.st (fun t k => XS.goto X7.here hx rfl (pc0 := 35) (pc' := 39) rfl (hb hby at_35) (by decide) (by decide) k) ?_
      show Go _ _ _ _ T7 (mkF m 39 #[.val (.int p1), .val (.int p2), .val (.int lo), .val (.int hi), .val (.int (0 : Int32)), .val (.int (1 : Int32)), .unset, .unset, .unset] [(.int (1 : Int32))])
      refine Go.st (fun t k => XS.istore X7.here hx rfl (hb hby at_39) rfl (l' := #[.val (.int p1), .val (.int p2), .val (.int lo), .val (.int hi), .val (.int (0 : Int32)), .val (.int (1 : Int32)), .val (.int (1 : Int32)), .unset, .unset]) rfl k) ?_
      show Go _ _ _ _ T7 (mkF m 41 #[.val (.int p1), .val (.int p2), .val (.int lo), .val (.int hi), .val (.int (0 : Int32)), .val (.int (1 : Int32)), .val (.int (1 : Int32)), .unset, .unset] [])
      refine Go.st (fun t k => XS.sipush X7.here hx rfl (hb hby at_41) k) ?_
      show Go _ _ _ _ T7 (mkF m 44 #[.val (.int p1), .val (.int p2), .val (.int lo), .val (.int hi), .val (.int (0 : Int32)), .val (.int (1 : Int32)), .val (.int (1 : Int32)), .unset, .unset] [(.int (2048 : Int32))])
      refine goS X7 hx hZ (y := (⟨"com/example/vetter/vetter/service/KeyPolicy", "trustsRsaBits", "(I)Z"⟩ : MethodName)) hown (hw _ (List.mem_of_getElem? (i := 7) rfl)) (hw _ (List.mem_of_getElem? (i := 8) rfl)) (hw _ (List.mem_of_getElem? (i := 9) rfl)) (hw _ (List.mem_of_getElem? (i := 10) rfl)) (by decide) (rm3 l Z a0 hw (2048 : Int32) h0 n0 Z0) e7 N7 0 (by decide) (by decide) (by decide) (by decide) (g := (mkF m 44 #[.val (.int p1), .val (.int p2), .val (.int lo), .val (.int hi), .val (.int (0 : Int32)), .val (.int (1 : Int32)), .val (.int (1 : Int32)), .unset, .unset] [(.int (2048 : Int32))])) rfl (by rw [hml]; rfl) [(.int (2048 : Int32))] [] (lenOf pd0_1 rfl) rfl rfl (by show 2 * 0 + _ ≤ _; exact Nat.le_of_eq rfl) (hb hby at_44) ?_
      intro T8 v8 L8 M8 X8 N8 hq8
      obtain ⟨hq8, N8q, e8⟩ := hq8
      replace N8 := N8 N8q
      rcases hq8 with ⟨hr8, rfl⟩ | ⟨hr8, rfl⟩
      ·
        show Go _ _ _ _ T8 (mkF m 47 #[.val (.int p1), .val (.int p2), .val (.int lo), .val (.int hi), .val (.int (0 : Int32)), .val (.int (1 : Int32)), .val (.int (1 : Int32)), .unset, .unset] [(.int (1 : Int32))])
        refine Go.st (fun t k => XS.istore X8.here hx rfl (hb hby at_47) rfl (l' := #[.val (.int p1), .val (.int p2), .val (.int lo), .val (.int hi), .val (.int (0 : Int32)), .val (.int (1 : Int32)), .val (.int (1 : Int32)), .val (.int (1 : Int32)), .unset]) rfl k) ?_
        show Go _ _ _ _ T8 (mkF m 49 #[.val (.int p1), .val (.int p2), .val (.int lo), .val (.int hi), .val (.int (0 : Int32)), .val (.int (1 : Int32)), .val (.int (1 : Int32)), .val (.int (1 : Int32)), .unset] [])
        refine Go.st (fun t k => XS.sipush X8.here hx rfl (hb hby at_49) k) ?_
        show Go _ _ _ _ T8 (mkF m 52 #[.val (.int p1), .val (.int p2), .val (.int lo), .val (.int hi), .val (.int (0 : Int32)), .val (.int (1 : Int32)), .val (.int (1 : Int32)), .val (.int (1 : Int32)), .unset] [(.int (2047 : Int32))])
        refine goS X8 hx hZ (y := (⟨"com/example/vetter/vetter/service/KeyPolicy", "trustsRsaBits", "(I)Z"⟩ : MethodName)) hown (hw _ (List.mem_of_getElem? (i := 7) rfl)) (hw _ (List.mem_of_getElem? (i := 8) rfl)) (hw _ (List.mem_of_getElem? (i := 9) rfl)) (hw _ (List.mem_of_getElem? (i := 10) rfl)) (by decide) (rm3 l Z a0 hw (2047 : Int32) h0 n0 Z0) e8 N8 0 (by decide) (by decide) (by decide) (by decide) (g := (mkF m 52 #[.val (.int p1), .val (.int p2), .val (.int lo), .val (.int hi), .val (.int (0 : Int32)), .val (.int (1 : Int32)), .val (.int (1 : Int32)), .val (.int (1 : Int32)), .unset] [(.int (2047 : Int32))])) rfl (by rw [hml]; rfl) [(.int (2047 : Int32))] [] (lenOf pd0_1 rfl) rfl rfl (by show 2 * 0 + _ ≤ _; exact Nat.le_of_eq rfl) (hb hby at_52) ?_
        intro T9 v9 L9 M9 X9 N9 hq9
        obtain ⟨hq9, N9q, e9⟩ := hq9
        replace N9 := N9 N9q
        rcases hq9 with ⟨hr9, rfl⟩ | ⟨hr9, rfl⟩
        ·
          exact absurd (show (2047 : Int32) < 2048 by decide) hr9
        ·
          show Go _ _ _ _ T9 (mkF m 55 #[.val (.int p1), .val (.int p2), .val (.int lo), .val (.int hi), .val (.int (0 : Int32)), .val (.int (1 : Int32)), .val (.int (1 : Int32)), .val (.int (1 : Int32)), .unset] [(.int (0 : Int32))])
          refine Go.st (fun t k => XS.istore X9.here hx rfl (hb hby at_55) rfl (l' := #[.val (.int p1), .val (.int p2), .val (.int lo), .val (.int hi), .val (.int (0 : Int32)), .val (.int (1 : Int32)), .val (.int (1 : Int32)), .val (.int (1 : Int32)), .val (.int (0 : Int32))]) rfl k) ?_
          show Go _ _ _ _ T9 (mkF m 57 #[.val (.int p1), .val (.int p2), .val (.int lo), .val (.int hi), .val (.int (0 : Int32)), .val (.int (1 : Int32)), .val (.int (1 : Int32)), .val (.int (1 : Int32)), .val (.int (0 : Int32))] [])
          refine Go.st (fun t k => XS.iload X9.here hx rfl (hb hby at_57) rfl k) ?_
          show Go _ _ _ _ T9 (mkF m 59 #[.val (.int p1), .val (.int p2), .val (.int lo), .val (.int hi), .val (.int (0 : Int32)), .val (.int (1 : Int32)), .val (.int (1 : Int32)), .val (.int (1 : Int32)), .val (.int (0 : Int32))] [(.int (1 : Int32))])
          refine Go.st (fun t k => XS.ifNo X9.here hx rfl (hb hby at_59) rfl (by decide) k) ?_
          show Go _ _ _ _ T9 (mkF m 62 #[.val (.int p1), .val (.int p2), .val (.int lo), .val (.int hi), .val (.int (0 : Int32)), .val (.int (1 : Int32)), .val (.int (1 : Int32)), .val (.int (1 : Int32)), .val (.int (0 : Int32))] [])
          refine Go.st (fun t k => XS.iload X9.here hx rfl (hb hby at_62) rfl k) ?_
          show Go _ _ _ _ T9 (mkF m 64 #[.val (.int p1), .val (.int p2), .val (.int lo), .val (.int hi), .val (.int (0 : Int32)), .val (.int (1 : Int32)), .val (.int (1 : Int32)), .val (.int (1 : Int32)), .val (.int (0 : Int32))] [(.int (1 : Int32))])
          refine Go.st (fun t k => XS.ifNo X9.here hx rfl (hb hby at_64) rfl (by decide) k) ?_
          show Go _ _ _ _ T9 (mkF m 67 #[.val (.int p1), .val (.int p2), .val (.int lo), .val (.int hi), .val (.int (0 : Int32)), .val (.int (1 : Int32)), .val (.int (1 : Int32)), .val (.int (1 : Int32)), .val (.int (0 : Int32))] [])
          refine Go.st (fun t k => XS.iload X9.here hx rfl (hb hby at_67) rfl k) ?_
          show Go _ _ _ _ T9 (mkF m 69 #[.val (.int p1), .val (.int p2), .val (.int lo), .val (.int hi), .val (.int (0 : Int32)), .val (.int (1 : Int32)), .val (.int (1 : Int32)), .val (.int (1 : Int32)), .val (.int (0 : Int32))] [(.int (0 : Int32))])
          refine Go.st (fun t k => XS.ifNo X9.here hx rfl (hb hby at_69) rfl (by decide) k) ?_
          show Go _ _ _ _ T9 (mkF m 72 #[.val (.int p1), .val (.int p2), .val (.int lo), .val (.int hi), .val (.int (0 : Int32)), .val (.int (1 : Int32)), .val (.int (1 : Int32)), .val (.int (1 : Int32)), .val (.int (0 : Int32))] [])
          refine Go.st (fun t k => XS.iconst X9.here hx rfl (hb hby at_72) k) ?_
          show Go _ _ _ _ T9 (mkF m 73 #[.val (.int p1), .val (.int p2), .val (.int lo), .val (.int hi), .val (.int (0 : Int32)), .val (.int (1 : Int32)), .val (.int (1 : Int32)), .val (.int (1 : Int32)), .val (.int (0 : Int32))] [(.int (1 : Int32))])
          refine Go.st (fun t k => XS.goto X9.here hx rfl (pc0 := 73) (pc' := 77) rfl (hb hby at_73) (by decide) (by decide) k) ?_
          show Go _ _ _ _ T9 (mkF m 77 #[.val (.int p1), .val (.int p2), .val (.int lo), .val (.int hi), .val (.int (0 : Int32)), .val (.int (1 : Int32)), .val (.int (1 : Int32)), .val (.int (1 : Int32)), .val (.int (0 : Int32))] [(.int (1 : Int32))])
          exact goN X9 hx hret hlk (by simp) (hb hby at_77) (by decide) (by decide) ⟨rfl, N9⟩
      ·
        exact absurd hr8 (by decide)
    ·
      show Go _ _ _ _ T7 (mkF m 22 #[.val (.int p1), .val (.int p2), .val (.int lo), .val (.int hi), .val (.int (0 : Int32)), .unset, .unset, .unset, .unset] [(.int (0 : Int32))])
      refine Go.st (fun t k => XS.istore X7.here hx rfl (hb hby at_22) rfl (l' := #[.val (.int p1), .val (.int p2), .val (.int lo), .val (.int hi), .val (.int (0 : Int32)), .val (.int (0 : Int32)), .unset, .unset, .unset]) rfl k) ?_
      show Go _ _ _ _ T7 (mkF m 24 #[.val (.int p1), .val (.int p2), .val (.int lo), .val (.int hi), .val (.int (0 : Int32)), .val (.int (0 : Int32)), .unset, .unset, .unset] [])
      refine Go.st (fun t k => XS.iload X7.here hx rfl (hb hby at_24) rfl k) ?_
      show Go _ _ _ _ T7 (mkF m 26 #[.val (.int p1), .val (.int p2), .val (.int lo), .val (.int hi), .val (.int (0 : Int32)), .val (.int (0 : Int32)), .unset, .unset, .unset] [(.int (0 : Int32))])
      refine Go.st (fun t k => XS.ifYes X7.here hx rfl (pc0 := 26) (pc' := 34) rfl (hb hby at_26) rfl (by decide) (by decide) (by decide) k) ?_
      show Go _ _ _ _ T7 (mkF m 34 #[.val (.int p1), .val (.int p2), .val (.int lo), .val (.int hi), .val (.int (0 : Int32)), .val (.int (0 : Int32)), .unset, .unset, .unset] [])
      refine Go.st (fun t k => XS.iconst X7.here hx rfl (hb hby at_34) k) ?_
      show Go _ _ _ _ T7 (mkF m 35 #[.val (.int p1), .val (.int p2), .val (.int lo), .val (.int hi), .val (.int (0 : Int32)), .val (.int (0 : Int32)), .unset, .unset, .unset] [(.int (1 : Int32))])
      refine Go.st (fun t k => XS.goto X7.here hx rfl (pc0 := 35) (pc' := 39) rfl (hb hby at_35) (by decide) (by decide) k) ?_
      show Go _ _ _ _ T7 (mkF m 39 #[.val (.int p1), .val (.int p2), .val (.int lo), .val (.int hi), .val (.int (0 : Int32)), .val (.int (0 : Int32)), .unset, .unset, .unset] [(.int (1 : Int32))])
      refine Go.st (fun t k => XS.istore X7.here hx rfl (hb hby at_39) rfl (l' := #[.val (.int p1), .val (.int p2), .val (.int lo), .val (.int hi), .val (.int (0 : Int32)), .val (.int (0 : Int32)), .val (.int (1 : Int32)), .unset, .unset]) rfl k) ?_
      show Go _ _ _ _ T7 (mkF m 41 #[.val (.int p1), .val (.int p2), .val (.int lo), .val (.int hi), .val (.int (0 : Int32)), .val (.int (0 : Int32)), .val (.int (1 : Int32)), .unset, .unset] [])
      refine Go.st (fun t k => XS.sipush X7.here hx rfl (hb hby at_41) k) ?_
      show Go _ _ _ _ T7 (mkF m 44 #[.val (.int p1), .val (.int p2), .val (.int lo), .val (.int hi), .val (.int (0 : Int32)), .val (.int (0 : Int32)), .val (.int (1 : Int32)), .unset, .unset] [(.int (2048 : Int32))])
      refine goS X7 hx hZ (y := (⟨"com/example/vetter/vetter/service/KeyPolicy", "trustsRsaBits", "(I)Z"⟩ : MethodName)) hown (hw _ (List.mem_of_getElem? (i := 7) rfl)) (hw _ (List.mem_of_getElem? (i := 8) rfl)) (hw _ (List.mem_of_getElem? (i := 9) rfl)) (hw _ (List.mem_of_getElem? (i := 10) rfl)) (by decide) (rm3 l Z a0 hw (2048 : Int32) h0 n0 Z0) e7 N7 0 (by decide) (by decide) (by decide) (by decide) (g := (mkF m 44 #[.val (.int p1), .val (.int p2), .val (.int lo), .val (.int hi), .val (.int (0 : Int32)), .val (.int (0 : Int32)), .val (.int (1 : Int32)), .unset, .unset] [(.int (2048 : Int32))])) rfl (by rw [hml]; rfl) [(.int (2048 : Int32))] [] (lenOf pd0_1 rfl) rfl rfl (by show 2 * 0 + _ ≤ _; exact Nat.le_of_eq rfl) (hb hby at_44) ?_
      intro T10 v10 L10 M10 X10 N10 hq10
      obtain ⟨hq10, N10q, e10⟩ := hq10
      replace N10 := N10 N10q
      rcases hq10 with ⟨hr10, rfl⟩ | ⟨hr10, rfl⟩
      ·
        show Go _ _ _ _ T10 (mkF m 47 #[.val (.int p1), .val (.int p2), .val (.int lo), .val (.int hi), .val (.int (0 : Int32)), .val (.int (0 : Int32)), .val (.int (1 : Int32)), .unset, .unset] [(.int (1 : Int32))])
        refine Go.st (fun t k => XS.istore X10.here hx rfl (hb hby at_47) rfl (l' := #[.val (.int p1), .val (.int p2), .val (.int lo), .val (.int hi), .val (.int (0 : Int32)), .val (.int (0 : Int32)), .val (.int (1 : Int32)), .val (.int (1 : Int32)), .unset]) rfl k) ?_
        show Go _ _ _ _ T10 (mkF m 49 #[.val (.int p1), .val (.int p2), .val (.int lo), .val (.int hi), .val (.int (0 : Int32)), .val (.int (0 : Int32)), .val (.int (1 : Int32)), .val (.int (1 : Int32)), .unset] [])
        refine Go.st (fun t k => XS.sipush X10.here hx rfl (hb hby at_49) k) ?_
        show Go _ _ _ _ T10 (mkF m 52 #[.val (.int p1), .val (.int p2), .val (.int lo), .val (.int hi), .val (.int (0 : Int32)), .val (.int (0 : Int32)), .val (.int (1 : Int32)), .val (.int (1 : Int32)), .unset] [(.int (2047 : Int32))])
        refine goS X10 hx hZ (y := (⟨"com/example/vetter/vetter/service/KeyPolicy", "trustsRsaBits", "(I)Z"⟩ : MethodName)) hown (hw _ (List.mem_of_getElem? (i := 7) rfl)) (hw _ (List.mem_of_getElem? (i := 8) rfl)) (hw _ (List.mem_of_getElem? (i := 9) rfl)) (hw _ (List.mem_of_getElem? (i := 10) rfl)) (by decide) (rm3 l Z a0 hw (2047 : Int32) h0 n0 Z0) e10 N10 0 (by decide) (by decide) (by decide) (by decide) (g := (mkF m 52 #[.val (.int p1), .val (.int p2), .val (.int lo), .val (.int hi), .val (.int (0 : Int32)), .val (.int (0 : Int32)), .val (.int (1 : Int32)), .val (.int (1 : Int32)), .unset] [(.int (2047 : Int32))])) rfl (by rw [hml]; rfl) [(.int (2047 : Int32))] [] (lenOf pd0_1 rfl) rfl rfl (by show 2 * 0 + _ ≤ _; exact Nat.le_of_eq rfl) (hb hby at_52) ?_
        intro T11 v11 L11 M11 X11 N11 hq11
        obtain ⟨hq11, N11q, e11⟩ := hq11
        replace N11 := N11 N11q
        rcases hq11 with ⟨hr11, rfl⟩ | ⟨hr11, rfl⟩
        ·
          exact absurd (show (2047 : Int32) < 2048 by decide) hr11
        ·
          show Go _ _ _ _ T11 (mkF m 55 #[.val (.int p1), .val (.int p2), .val (.int lo), .val (.int hi), .val (.int (0 : Int32)), .val (.int (0 : Int32)), .val (.int (1 : Int32)), .val (.int (1 : Int32)), .unset] [(.int (0 : Int32))])
          refine Go.st (fun t k => XS.istore X11.here hx rfl (hb hby at_55) rfl (l' := #[.val (.int p1), .val (.int p2), .val (.int lo), .val (.int hi), .val (.int (0 : Int32)), .val (.int (0 : Int32)), .val (.int (1 : Int32)), .val (.int (1 : Int32)), .val (.int (0 : Int32))]) rfl k) ?_
          show Go _ _ _ _ T11 (mkF m 57 #[.val (.int p1), .val (.int p2), .val (.int lo), .val (.int hi), .val (.int (0 : Int32)), .val (.int (0 : Int32)), .val (.int (1 : Int32)), .val (.int (1 : Int32)), .val (.int (0 : Int32))] [])
          refine Go.st (fun t k => XS.iload X11.here hx rfl (hb hby at_57) rfl k) ?_
          show Go _ _ _ _ T11 (mkF m 59 #[.val (.int p1), .val (.int p2), .val (.int lo), .val (.int hi), .val (.int (0 : Int32)), .val (.int (0 : Int32)), .val (.int (1 : Int32)), .val (.int (1 : Int32)), .val (.int (0 : Int32))] [(.int (1 : Int32))])
          refine Go.st (fun t k => XS.ifNo X11.here hx rfl (hb hby at_59) rfl (by decide) k) ?_
          show Go _ _ _ _ T11 (mkF m 62 #[.val (.int p1), .val (.int p2), .val (.int lo), .val (.int hi), .val (.int (0 : Int32)), .val (.int (0 : Int32)), .val (.int (1 : Int32)), .val (.int (1 : Int32)), .val (.int (0 : Int32))] [])
          refine Go.st (fun t k => XS.iload X11.here hx rfl (hb hby at_62) rfl k) ?_
          show Go _ _ _ _ T11 (mkF m 64 #[.val (.int p1), .val (.int p2), .val (.int lo), .val (.int hi), .val (.int (0 : Int32)), .val (.int (0 : Int32)), .val (.int (1 : Int32)), .val (.int (1 : Int32)), .val (.int (0 : Int32))] [(.int (1 : Int32))])
          refine Go.st (fun t k => XS.ifNo X11.here hx rfl (hb hby at_64) rfl (by decide) k) ?_
          show Go _ _ _ _ T11 (mkF m 67 #[.val (.int p1), .val (.int p2), .val (.int lo), .val (.int hi), .val (.int (0 : Int32)), .val (.int (0 : Int32)), .val (.int (1 : Int32)), .val (.int (1 : Int32)), .val (.int (0 : Int32))] [])
          refine Go.st (fun t k => XS.iload X11.here hx rfl (hb hby at_67) rfl k) ?_
          show Go _ _ _ _ T11 (mkF m 69 #[.val (.int p1), .val (.int p2), .val (.int lo), .val (.int hi), .val (.int (0 : Int32)), .val (.int (0 : Int32)), .val (.int (1 : Int32)), .val (.int (1 : Int32)), .val (.int (0 : Int32))] [(.int (0 : Int32))])
          refine Go.st (fun t k => XS.ifNo X11.here hx rfl (hb hby at_69) rfl (by decide) k) ?_
          show Go _ _ _ _ T11 (mkF m 72 #[.val (.int p1), .val (.int p2), .val (.int lo), .val (.int hi), .val (.int (0 : Int32)), .val (.int (0 : Int32)), .val (.int (1 : Int32)), .val (.int (1 : Int32)), .val (.int (0 : Int32))] [])
          refine Go.st (fun t k => XS.iconst X11.here hx rfl (hb hby at_72) k) ?_
          show Go _ _ _ _ T11 (mkF m 73 #[.val (.int p1), .val (.int p2), .val (.int lo), .val (.int hi), .val (.int (0 : Int32)), .val (.int (0 : Int32)), .val (.int (1 : Int32)), .val (.int (1 : Int32)), .val (.int (0 : Int32))] [(.int (1 : Int32))])
          refine Go.st (fun t k => XS.goto X11.here hx rfl (pc0 := 73) (pc' := 77) rfl (hb hby at_73) (by decide) (by decide) k) ?_
          show Go _ _ _ _ T11 (mkF m 77 #[.val (.int p1), .val (.int p2), .val (.int lo), .val (.int hi), .val (.int (0 : Int32)), .val (.int (0 : Int32)), .val (.int (1 : Int32)), .val (.int (1 : Int32)), .val (.int (0 : Int32))] [(.int (1 : Int32))])
          exact goN X11 hx hret hlk (by simp) (hb hby at_77) (by decide) (by decide) ⟨rfl, N11⟩
      ·
        exact absurd hr10 (by decide)
set_option maxRecDepth 65536 in
set_option maxHeartbeats 40000000 in
theorem comes_1 {Post : Tables → Env → Array Value → State → Outcome → State → Prop} (hpost : ∀ tb e args s v u, (limb_1_1.after args s (.returned v) u = true ∧ limb_1_2.after args s (.returned v) u = true ∧ True) → FrameEnd s (.returned v) u (Jvm.fieldLocs frame_1_writes args s ++ Jvm.arrayLocs frame_1_arrays args s ++ Jvm.staticLocs frame_1_statics s) 0 0 → Post tb e args s (.returned v) u) :
    ArmFor flags0 classFile x code maxLocals ret World_1 tables_1 room_1 Calls_1 rest_1 Pre_1 Post := by
  intro l hfl _ _ p e ha hc hk s m args below hf hA hF happ hP
  obtain ⟨hcalls, hrest, hpre⟩ := hP
  obtain ⟨-, -, -, hnamed, -, -, -, hat⟩ := (Spec.applies_iff hf).mp happ
  obtain ⟨hg, hn⟩ := and_e (Cond.before_iff.mp (show (Jvm.Cond.and given_1 narrow_1).before args s = true from hpre))
  obtain ⟨ga1, gb1⟩ := and_e hg
  obtain ⟨ga2, gb2⟩ := and_e gb1
  obtain ⟨w0, w1, rfl⟩ : ∃ w0 w1 : Value, args = #[w0, w1] := by
    have hs : args.size = 2 := by simpa [Cond.value, given_1] using ga1
    obtain ⟨L⟩ := args
    match L, hs with
    | [w0, w1], _ => exact ⟨w0, w1, rfl⟩
  have hw := fun d (hd : d ∈ tables_1) => atoms_spec (ws := Jvm.Cond.code x code maxLocals ret :: tables_1) hat d (List.mem_cons_of_mem _ hd)
  obtain ⟨i0, ei0⟩ := is_v ga2
  obtain rfl : w0 = (.int i0) := Option.some.inj ei0
  obtain ⟨i1, ei1⟩ := is_v gb2
  obtain rfl : w1 = (.int i1) := Option.some.inj ei1
  obtain ⟨n, o, h1, h2, h3, _, L, rfl, ⟨rfl, N⟩, hq⟩ := rm0 l s _ hw i0 i1 s.heap s.heap.size (Nat.le_refl _)  tables_1 p e ha hc hk s m _ below hf ((Spec.applies_iff_loose hf).mp happ).1 ⟨rfl, State.Warmed39.refl s, rfl⟩ trivial
  refine ⟨n, _, h1, h2, h3, hpost _ _ _ _ _ _ ⟨Cond.after_iff.mpr rfl, Cond.after_iff.mpr (eq_i res_at (Term.int_eval (1)) rfl), trivial⟩ ⟨hq.1, hq.2.1, (hq.2.2.sift fun y hy => Or.inr (N y hy)).mono (by decide) (by decide)⟩⟩
theorem main_1_1 : Claimed_1_1 := comes_1 fun _ _ _ _ _ _ h hF => ⟨h.1, hF⟩
theorem main_1_2 : Claimed_1_2 := comes_1 fun _ _ _ _ _ _ h hF => ⟨h.2.1, hF⟩
end Jvm.Pilot.@@N@@
namespace Jvm.Pilot.@@N@@
open Jvm Jvm.ClassFile Sem Op Lib Jvm.Free Jvm.Stand Jvm.Pilot.@@N@@.Jvm.D
/-! MADE BY PROGRAM (witnessworld.py) out of the Statement's table words and the real class files: 10 classes; the members and pool entries that the words name. The judged class is class 1, her method 1. -/
namespace start1
open Jvm.ClassFile
def u (s : String) : CpInfo := .utf8 (stringToUtf16 s)
/-- a pool by its gaps: so many unusable entries, then the entry; so many at the end -/
def gap : Nat → List CpInfo → List CpInfo
  | 0, r => r
  | n + 1, r => .unusable :: gap n r
def poolList (es : List (Nat × CpInfo)) (last : Nat) : List CpInfo := es.foldr (fun e r => gap e.1 (e.2 :: r)) (gap last [])
def pool (es : List (Nat × CpInfo)) (last : Nat) : Array CpInfo := ⟨poolList es last⟩
def fileOf (pool : Array CpInfo) (this : Nat) (attrs : Array Attribute := #[]) (ms : Array MethodInfo := #[]) (fl : Nat := 33) (sup : Nat := 0) (ifs : Array Nat := #[]) (fds : Array FieldInfo := #[]) : ClassFile where
  minorVersion := 0
  majorVersion := 65
  constantPool := pool
  accessFlags := fl
  thisClass := this
  superClass := sup
  interfaces := ifs
  fields := fds
  methods := ms
  attributes := attrs
def plain (name : String) (sup : Option ClassId) : Class where
  name := name
  kind := .ordinary
  loader := none
  accessFlags := 33
  super := sup
  interfaces := #[]
  cf := none
  fields := #[]
  methods := #[]
  instanceTypes := #[]
  staticTypes := #[]
  resolved := #[]
  callSites := []
  init := .initialized
  statics := none
  mirror := none

def pool0 : Array CpInfo := pool [(5, u "<init>"), (0, u "()V"), (1, .class_ 10), (1, u "java/lang/Object")] 113

def k0m0 : Method := { name := "<init>", desc := "()V", sig := { parameters := [], returnType := none }, accessFlags := 1, code := none }
/-- java/lang/Object -/
def k0 : Class := { plain "java/lang/Object" none with
  accessFlags := 33
  interfaces := #[]
  cf := some (fileOf pool0 8 #[] #[{ accessFlags := 1, nameIndex := 5, descriptorIndex := 6, attributes := #[] }] 33 0 #[] #[])
  fields := #[]
  methods := #[k0m0]
  instanceTypes := #[]
  staticTypes := #[]
  resolved := Array.replicate 124 none
  statics := none }

def pool1 : Array CpInfo := pool [(2, .class_ 4), (1, u "java/lang/Object"), (0, u "<init>"), (0, u "()V"), (0, .methodref 8 9), (0, .class_ 10), (0, .nameAndType 11 12), (0, u "java/lang/Math"), (0, u "min"), (0, u "(II)I"), (0, .methodref 8 14), (0, .nameAndType 15 12), (0, u "max"), (0, .methodref 17 18), (0, .class_ 19), (0, .nameAndType 20 21), (0, u "com/example/vetter/vetter/service/KeyPolicy"), (0, u "trustsRsaBits"), (0, u "(I)Z"), (0, .class_ 23), (0, u "com/example/vetter/vetter/service/KeyPolicyTrustsRsaBitsPinLaw"), (2, u "law"), (0, u "(II)Z")] 3

def k1m0 : Method := { name := "<init>", desc := "()V", sig := { parameters := [], returnType := none }, accessFlags := 2, code := none }
def k1c1 : Code := { maxStack := 2, maxLocals := 9, code := code, exceptionTable := #[], attributes := #[] }
def k1m1 : Method := { name := "law", desc := "(II)Z", sig := { parameters := [.int, .int], returnType := some .boolean }, accessFlags := 9, code := some k1c1 }
/-- com/example/vetter/vetter/service/KeyPolicyTrustsRsaBitsPinLaw -/
def k1 : Class := { plain "com/example/vetter/vetter/service/KeyPolicyTrustsRsaBitsPinLaw" (some 0) with
  accessFlags := 49
  interfaces := #[]
  cf := some (fileOf pool1 22 #[] #[{ accessFlags := 2, nameIndex := 5, descriptorIndex := 6, attributes := #[] }, { accessFlags := 9, nameIndex := 26, descriptorIndex := 27, attributes := #[] }] 49 2 #[] #[])
  fields := #[]
  methods := #[k1m0, k1m1]
  instanceTypes := #[]
  staticTypes := #[]
  resolved := Array.replicate 31 none
  statics := none }

def pool2 : Array CpInfo := pool [(1, .class_ 2), (0, u "java/lang/Math"), (1, .class_ 6), (1, u "java/lang/Object"), (0, u "<init>"), (0, u "()V"), (89, .class_ 100), (1, u "java/lang/Math$RandomNumberGeneratorHolder"), (71, u "negativeZeroFloatBits"), (0, u "J"), (2, u "negativeZeroDoubleBits"), (21, u "max"), (2, u "min"), (43, u "$assertionsDisabled"), (0, u "Z"), (88, u "(II)I"), (2, u "twoToTheDoubleScaleDown"), (0, u "D"), (4, u "twoToTheDoubleScaleUp"), (9, u "E"), (3, u "PI"), (2, u "TAU"), (2, u "DEGREES_TO_RADIANS"), (0, u "RADIANS_TO_DEGREES")] 94

def k2m0 : Method := { name := "<init>", desc := "()V", sig := { parameters := [], returnType := none }, accessFlags := 2, code := none }
def k2c1 : Code := { maxStack := 2, maxLocals := 2, code := jdk_29_method_65_code, exceptionTable := #[], attributes := #[] }
def k2m1 : Method := { name := "max", desc := "(II)I", sig := { parameters := [.int, .int], returnType := some .int }, accessFlags := 9, code := some k2c1 }
def k2c2 : Code := { maxStack := 2, maxLocals := 2, code := jdk_29_method_69_code, exceptionTable := #[], attributes := #[] }
def k2m2 : Method := { name := "min", desc := "(II)I", sig := { parameters := [.int, .int], returnType := some .int }, accessFlags := 9, code := some k2c2 }
/-- java/lang/Math -/
def k2 : Class := { plain "java/lang/Math" (some 0) with
  accessFlags := 49
  interfaces := #[]
  cf := some (fileOf pool2 1 #[.nestMembers #[98]] #[{ accessFlags := 2, nameIndex := 7, descriptorIndex := 8, attributes := #[] }, { accessFlags := 9, nameIndex := 198, descriptorIndex := 335, attributes := #[] }, { accessFlags := 9, nameIndex := 201, descriptorIndex := 335, attributes := #[] }] 49 4 #[] #[{ accessFlags := 25, nameIndex := 354, descriptorIndex := 339, attributes := #[] }, { accessFlags := 25, nameIndex := 358, descriptorIndex := 339, attributes := #[] }, { accessFlags := 25, nameIndex := 361, descriptorIndex := 339, attributes := #[] }, { accessFlags := 26, nameIndex := 364, descriptorIndex := 339, attributes := #[] }, { accessFlags := 26, nameIndex := 365, descriptorIndex := 339, attributes := #[] }, { accessFlags := 26, nameIndex := 172, descriptorIndex := 173, attributes := #[] }, { accessFlags := 26, nameIndex := 176, descriptorIndex := 173, attributes := #[] }, { accessFlags := 8, nameIndex := 344, descriptorIndex := 339, attributes := #[] }, { accessFlags := 8, nameIndex := 338, descriptorIndex := 339, attributes := #[] }, { accessFlags := 4120, nameIndex := 245, descriptorIndex := 246, attributes := #[] }])
  fields := #[{ name := "E", type := .double, accessFlags := 25, slot := 0, constantValue := 0 }, { name := "PI", type := .double, accessFlags := 25, slot := 1, constantValue := 0 }, { name := "TAU", type := .double, accessFlags := 25, slot := 2, constantValue := 0 }, { name := "DEGREES_TO_RADIANS", type := .double, accessFlags := 26, slot := 3, constantValue := 0 }, { name := "RADIANS_TO_DEGREES", type := .double, accessFlags := 26, slot := 4, constantValue := 0 }, { name := "negativeZeroFloatBits", type := .long, accessFlags := 26, slot := 5, constantValue := 0 }, { name := "negativeZeroDoubleBits", type := .long, accessFlags := 26, slot := 6, constantValue := 0 }, { name := "twoToTheDoubleScaleUp", type := .double, accessFlags := 8, slot := 7, constantValue := 0 }, { name := "twoToTheDoubleScaleDown", type := .double, accessFlags := 8, slot := 8, constantValue := 0 }, { name := "$assertionsDisabled", type := .boolean, accessFlags := 4120, slot := 9, constantValue := 0 }]
  methods := #[k2m0, k2m1, k2m2]
  instanceTypes := #[]
  staticTypes := #[.double, .double, .double, .double, .double, .long, .long, .double, .double, .boolean]
  resolved := Array.replicate 460 none
  statics := none }

def pool3 : Array CpInfo := pool [(2, .class_ 4), (1, u "java/lang/Object"), (0, u "<init>"), (0, u "()V"), (0, .class_ 8), (0, u "com/example/vetter/vetter/service/KeyPolicy"), (18, u "trustsRsaBits"), (0, u "(I)Z"), (22, u "RSA_MIN_BITS"), (0, u "I"), (2, u "WEAK_SIGNATURE_ALGORITHM"), (0, u "Ljava/lang/String;")] 26

def k3m0 : Method := { name := "<init>", desc := "()V", sig := { parameters := [], returnType := none }, accessFlags := 2, code := none }
def k3c1 : Code := { maxStack := 2, maxLocals := 1, code := prog_60_method_2_code, exceptionTable := #[], attributes := #[] }
def k3m1 : Method := { name := "trustsRsaBits", desc := "(I)Z", sig := { parameters := [.int], returnType := some .boolean }, accessFlags := 8, code := some k3c1 }
/-- com/example/vetter/vetter/service/KeyPolicy -/
def k3 : Class := { plain "com/example/vetter/vetter/service/KeyPolicy" (some 0) with
  accessFlags := 32
  interfaces := #[]
  cf := some (fileOf pool3 7 #[] #[{ accessFlags := 2, nameIndex := 5, descriptorIndex := 6, attributes := #[] }, { accessFlags := 8, nameIndex := 27, descriptorIndex := 28, attributes := #[] }] 32 2 #[] #[{ accessFlags := 26, nameIndex := 51, descriptorIndex := 52, attributes := #[] }, { accessFlags := 26, nameIndex := 55, descriptorIndex := 56, attributes := #[] }])
  fields := #[{ name := "RSA_MIN_BITS", type := .int, accessFlags := 26, slot := 0, constantValue := 0 }, { name := "WEAK_SIGNATURE_ALGORITHM", type := (.object "java/lang/String"), accessFlags := 26, slot := 1, constantValue := 0 }]
  methods := #[k3m0, k3m1]
  instanceTypes := #[]
  staticTypes := #[.int, (.object "java/lang/String")]
  resolved := Array.replicate 83 none
  statics := none }

def pool4 : Array CpInfo := pool [(1, u "java/lang/Cloneable"), (0, .class_ 1), (0, u "java/lang/Object"), (0, .class_ 3)] 3

/-- java/lang/Cloneable -/
def k4 : Class := { plain "java/lang/Cloneable" (some 0) with
  accessFlags := 1537
  interfaces := #[]
  cf := some (fileOf pool4 2 #[] #[] 1537 4 #[] #[])
  fields := #[]
  methods := #[]
  instanceTypes := #[]
  staticTypes := #[]
  resolved := Array.replicate 8 none
  statics := none }

def pool5 : Array CpInfo := pool [(1, u "java/io/Serializable"), (0, .class_ 1), (0, u "java/lang/Object"), (0, .class_ 3)] 3

/-- java/io/Serializable -/
def k5 : Class := { plain "java/io/Serializable" (some 0) with
  accessFlags := 1537
  interfaces := #[]
  cf := some (fileOf pool5 2 #[] #[] 1537 4 #[] #[])
  fields := #[]
  methods := #[]
  instanceTypes := #[]
  staticTypes := #[]
  resolved := Array.replicate 8 none
  statics := none }

/-- the primitive byte -/
def k6 : Class := { plain "byte" none with kind := .primitive 'B', accessFlags := 0x411 }
/-- [B -/
def k7 : Class := { plain "[B" (some 0) with kind := .array 6 .byte, interfaces := #[4, 5], accessFlags := 1041 }

/-- the primitive int -/
def k8 : Class := { plain "int" none with kind := .primitive 'I', accessFlags := 0x411 }
/-- [I -/
def k9 : Class := { plain "[I" (some 0) with kind := .array 8 .int, interfaces := #[4, 5], accessFlags := 1041 }

def heap : Heap := #[]
def classes : Array Class := #[k0, k1, k2, k3, k4, k5, k6, k7, k8, k9]
def interned : List (Array UInt16 × Addr) := []
def slotsUsed : Nat := 0
def theMethod : MethodId := ⟨1, 1⟩
def args0 : Array Value := #[.int 5, .int 7]
def aboutOver (below : List Frame) : State where
  vm := { classes := classes, interned := interned.toArray }
  heap := heap
  slotsUsed := slotsUsed
  threads := #[{ frames := .invoking theMethod args0 :: below }]
def below0 : List Frame := [.native { method := ⟨0, 0⟩, args := #[] }]
def about1 : State := aboutOver below0
def p0 : Program := .bare "" "" ""
def e0 : Env := launch0.env 0 0 0
theorem w_frames : about1.frames = Frame.invoking theMethod args0 :: below0 := rfl
set_option maxRecDepth 65536 in
theorem w_args : argsFit about1.vm theMethod args0 = true := by decide +kernel
set_option maxRecDepth 65536 in
theorem w_heap : heapFits about1 = true := by decide +kernel
set_option maxRecDepth 65536 in
theorem w_runnable : about1.curStatus? = some .runnable := by decide +kernel
set_option maxRecDepth 65536 in
theorem w_alone : about1.alone = true := by decide +kernel
set_option maxRecDepth 65536 in
theorem w_named : about1.methodNamed? x = some theMethod := by decide +kernel
set_option maxRecDepth 65536 in
theorem w_hears : about1.hears theMethod below0 = true := by decide +kernel
set_option maxRecDepth 65536 in
theorem w_ripe : about1.ripe theMethod args0 below0 = true := by decide +kernel
theorem w_running : about1.status = .running := rfl
set_option maxRecDepth 65536 in
theorem w_room : about1.hasRoom e0.platform room_1 = true :=
  launch0.hasRoom_least _ room_1 (by decide +kernel) (by decide +kernel) (by decide +kernel) (by decide +kernel) (by decide +kernel) (by decide +kernel)
theorem allAtoms_all (ts : List Jvm.Cond) (a : Array Jvm.Value) (st : Jvm.State) : (allAtoms ts).before a st = ts.all (fun c => c.before a st) := by
  induction ts with
  | nil => rfl
  | cons c t ih =>
    show (Jvm.Cond.and c (allAtoms t)).before a st = _
    rw [Jvm.Cond.before_and, ih, List.all_cons]
def words1 : List Jvm.Cond := Jvm.Cond.code x code maxLocals ret :: tables_1
/-- a 'code' word, met by the world's own term for the bytes: nothing is compared byte by byte -/
theorem code_word {y : MethodName} {bytes : ByteArray} {mx : Nat} {rt : Option FieldType} {a : Array Value} {s : State} {m : MethodId} {meth : Method} {c : Code} (h1 : s.methodNamed? y = some m) (h2 : s.vm.method? m = some meth) (h3 : meth.code = some c) (h4 : c.code = bytes)
    (h5 : (c.maxLocals == mx && c.exceptionTable.isEmpty && decide (c.maxStack ≤ mostOperands) && decide (meth.sig.returnType = rt) && !meth.locks && decide (parseMethodDescriptor y.desc = some meth.sig)) = true) : (Jvm.Cond.code y bytes mx rt).before a s = true := by
  simp only [Bool.and_eq_true, beq_iff_eq, Bool.not_eq_true', decide_eq_true_eq] at h5
  obtain ⟨⟨⟨⟨⟨g1, g2⟩, g3⟩, g4⟩, g5⟩, g6⟩ := h5
  simp [Cond.before, Cond.holds, Cond.value, h1, h2, h3, h4, g1, g2, g3, g4, g5, g6]
def isCode : Jvm.Cond → Bool
  | .code _ _ _ _ => true
  | _ => false
theorem all_split {L : List Jvm.Cond} {P : Jvm.Cond → Bool} (h1 : L.all (fun c => isCode c || P c) = true) (h2 : ∀ c ∈ L.filter isCode, P c = true) : L.all P = true := by
  refine List.all_eq_true.mpr fun c hc => ?_
  have h := List.all_eq_true.mp h1 c hc
  rcases Bool.eq_false_or_eq_true (isCode c) with hi | hi
  · exact h2 c (List.mem_filter.mpr ⟨hc, hi⟩)
  · simpa [hi] using h
set_option maxRecDepth 65536 in
theorem w_c0 : (Jvm.Cond.code x code maxLocals ret).before args0 about1 = true := code_word (m := ⟨1, 1⟩) (meth := k1m1) (c := k1c1) (by decide +kernel) rfl rfl rfl (by decide +kernel)
set_option maxRecDepth 65536 in
theorem w_c1 : (Jvm.Cond.code ({ cls := "java/lang/Math", name := "min", desc := "(II)I" } : Jvm.MethodName) jdk_29_method_69_code (2 : Nat) (Option.some Jvm.ClassFile.FieldType.int)).before args0 about1 = true := code_word (m := ⟨2, 2⟩) (meth := k2m2) (c := k2c2) (by decide +kernel) rfl rfl rfl (by decide +kernel)
set_option maxRecDepth 65536 in
theorem w_c2 : (Jvm.Cond.code ({ cls := "java/lang/Math", name := "max", desc := "(II)I" } : Jvm.MethodName) jdk_29_method_65_code (2 : Nat) (Option.some Jvm.ClassFile.FieldType.int)).before args0 about1 = true := code_word (m := ⟨2, 1⟩) (meth := k2m1) (c := k2c1) (by decide +kernel) rfl rfl rfl (by decide +kernel)
set_option maxRecDepth 65536 in
theorem w_c3 : (Jvm.Cond.code ({ cls := "com/example/vetter/vetter/service/KeyPolicy", name := "trustsRsaBits", desc := "(I)Z" } : Jvm.MethodName) prog_60_method_2_code (1 : Nat) (Option.some Jvm.ClassFile.FieldType.boolean)).before args0 about1 = true := code_word (m := ⟨3, 1⟩) (meth := k3m1) (c := k3c1) (by decide +kernel) rfl rfl rfl (by decide +kernel)
def codes1 : List Jvm.Cond := [Jvm.Cond.code x code maxLocals ret, Jvm.Cond.code ({ cls := "java/lang/Math", name := "min", desc := "(II)I" } : Jvm.MethodName) jdk_29_method_69_code (2 : Nat) (Option.some Jvm.ClassFile.FieldType.int), Jvm.Cond.code ({ cls := "java/lang/Math", name := "max", desc := "(II)I" } : Jvm.MethodName) jdk_29_method_65_code (2 : Nat) (Option.some Jvm.ClassFile.FieldType.int), Jvm.Cond.code ({ cls := "com/example/vetter/vetter/service/KeyPolicy", name := "trustsRsaBits", desc := "(I)Z" } : Jvm.MethodName) prog_60_method_2_code (1 : Nat) (Option.some Jvm.ClassFile.FieldType.boolean)]
set_option maxRecDepth 65536 in
theorem codes_eq : words1.filter isCode = codes1 := rfl
theorem w_codes : ∀ c ∈ words1.filter isCode, c.before args0 about1 = true := by
  rw [codes_eq]
  intro c hc
  simp only [codes1, List.mem_cons, List.not_mem_nil, or_false] at hc
  rcases hc with rfl | rfl | rfl | rfl
  · exact w_c0
  · exact w_c1
  · exact w_c2
  · exact w_c3
set_option maxRecDepth 65536 in
theorem w_t1 : words1.all (fun c => isCode c || c.before args0 about1) = true := by decide +kernel
theorem w_tables : (allAtoms (Jvm.Cond.code x code maxLocals ret :: tables_1)).before args0 about1 = true := by
  rw [allAtoms_all]
  show words1.all (fun c => c.before args0 about1) = true
  refine all_split ?_ w_codes
  rw [w_t1]
set_option maxRecDepth 65536 in
theorem w_case : (Jvm.Cond.and given_1 narrow_1).before args0 about1 = true := by decide +kernel
theorem w_applies : (headSpec (Jvm.Cond.code x code maxLocals ret :: tables_1) room_1).applies x e0.platform about1 = true :=
  (Spec.applies_iff w_frames).mpr ⟨w_running, w_runnable, w_alone, w_named, w_hears, w_ripe, w_room, w_tables⟩
theorem atStart : AtStart classFile x code maxLocals ret World_1 tables_1 room_1 Calls_1 rest_1 Pre_1 launch0 p0 e0 about1 theMethod args0 below0 :=
  ⟨lists_1, trivial, launch0.admits_env _ _ _, launch0.least_env, fairChoices_fair.cas, fairChoices_fair.clock, w_frames, w_args, w_heap, w_applies, trivial, trivial, w_case⟩
end start1
theorem witness_1 : WitnessClaimed_1 := ⟨start1.p0, start1.e0, start1.about1, start1.theMethod, start1.args0, start1.below0, start1.atStart⟩
end Jvm.Pilot.@@N@@
