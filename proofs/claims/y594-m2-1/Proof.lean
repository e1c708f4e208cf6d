import JvmDerived
import JvmDerived.Pilot.@@N@@Statement
import JvmDerived.Pilot.@@N@@Code
set_option linter.unusedVariables false
set_option linter.unusedSimpArgs false
namespace Jvm.OwnKit
open Sem ClassFile Op Lib Jvm.Stand Jvm.Free Jvm.LawKit Jvm.RoadKit
section OwnGo
variable {p : Program} {l : Launch} {e : Env} {R : Room} {s : State} {m : MethodId} {args : Array Value} {below : List Frame} {meth : Method} {c : Code} {T : State} {locs : List Loc} {cells slots : Nat} {Z : State} {a0 : Array Value} {h : Heap}
/-- from the state t the run comes to an end of which P holds -/
def OGo (tb : Tables) (e : Env) (below : List Frame) (P : Outcome → State → Prop) (t : State) : Prop :=
  ∃ s₂ o, Steps tb e below t s₂ ∧ s₂.status = .running ∧ Ended s₂ below o ∧ P o s₂
theorem ogo {tb : Tables} {P : Outcome → State → Prop} {t t' : State} (k : ∀ u, Steps tb e below t' u → Steps tb e below t u) (g : OGo tb e below P t') : OGo tb e below P t := by
  obtain ⟨s₂, o, h1, h2⟩ := g
  exact ⟨s₂, o, k _ h1, h2⟩
theorem ogoT {tb : Tables} {P : Outcome → State → Prop} {t t' : State} (k : Steps tb e below t t') (g : OGo tb e below P t') : OGo tb e below P t := ogo (fun _ q => k.trans q) g
/-- the end of a body: returned, the heap as Q says, the frame kept -/
abbrev OFin (s : State) (Q : Option Value → Heap → List Loc → Prop) (K N : Nat) : Outcome → State → Prop :=
  fun o U => ∃ v L, o = .returned v ∧ Q v U.heap L ∧ FrameEnd s o U L K N
/-- a body's contract -/
def OMet (l : Launch) (Z : State) (y : MethodName) (bytes : ByteArray) (maxL : Nat) (ret : Option FieldType) (rm : Room) (as : Array Value) (h : Heap) (Q : Option Value → Heap → List Loc → Prop) : Prop :=
  ∀ ws : List Jvm.Cond, MetFree l y (head1 (Jvm.Cond.code y bytes maxL ret :: ws) rm) (fun a U => a = as ∧ Z.Warmed39 U.vm ∧ U.heap = h) (fun _ _ _ _ _ => True) (fun _ U o U' => ∃ v L, o = .returned v ∧ Q v U'.heap L ∧ FrameEnd U o U' L rm.cells rm.slots)
/-- a body that returns w and writes nothing -/
abbrev OPure (w : Option Value) (h : Heap) : Option Value → Heap → List Loc → Prop := fun v h' L => v = w ∧ L = [] ∧ h' = h
theorem oret (X : Stand p l e R s m args below meth c T locs cells slots) (hx : p.tables.exec = Jvm.exec) (hlk : meth.locks = false) {pc : Nat} {Ls : Array Slot} {w : Value} {t : FieldType} {i : Instr} {rest : List Value} (hret : meth.sig.returnType = some t) (hn : narrow t w = w)
    (hi : (i = .ireturn ∧ (t = .int ∨ t = .boolean ∨ t = .byte ∨ t = .char ∨ t = .short) ∧ ∃ z, w = .int z) ∨ (i = .lreturn ∧ t = .long ∧ ∃ z, w = .long z) ∨ (i = .dreturn ∧ t = .double ∧ ∃ z, w = .double z) ∨ (i = .freturn ∧ t = .float ∧ ∃ z, w = .float z) ∨ (i = .areturn ∧ t.isReference = true ∧ w.isRef = true))
    (hd : decode c.code pc = .ok (i, 1)) {K N : Nat} (hk : cells ≤ K) (hs : slots ≤ N) {Q : Option Value → Heap → List Loc → Prop} (hQ : Q (some w) T.heap locs) :
    OGo p.tables e below (OFin s Q K N) (T.setTop (mkF m pc Ls (w :: rest))) := by
  obtain ⟨fs, hr, hrun, hended, hW, hsame⟩ := X.leave (v := some w) (fun h => by rw [hret] at h; cases h) hlk
  exact ⟨_, _, retOut X hx hret hn hi hd hr, hrun, hended, _, _, rfl, hQ, ⟨_, rfl⟩, hW, hsame.mono hk hs⟩
theorem oretV (X : Stand p l e R s m args below meth c T locs cells slots) (hx : p.tables.exec = Jvm.exec) (hlk : meth.locks = false) {pc : Nat} {Ls : Array Slot} (hret : meth.sig.returnType = none)
    (hd : decode c.code pc = .ok (.return_, 1)) {K N : Nat} (hk : cells ≤ K) (hs : slots ≤ N) {Q : Option Value → Heap → List Loc → Prop} (hQ : Q none T.heap locs) :
    OGo p.tables e below (OFin s Q K N) (T.setTop (mkF m pc Ls [])) := by
  obtain ⟨fs, hr, hrun, hended, hW, hsame⟩ := X.leave (v := none) (fun _ => rfl) hlk
  exact ⟨_, _, X.returnOut hx hret hd hr, hrun, hended, _, _, rfl, hQ, ⟨_, rfl⟩, hW, hsame.mono hk hs⟩
abbrev OPlain (y : MethodName) : Prop := y.cls ≠ "java/lang/invoke/MethodHandle" ∧ y.cls ≠ "java/lang/invoke/VarHandle"
/-- a static call by its contract -/
theorem ocallQ (X : Stand p l e R s m args below meth c T locs cells slots) (hx : p.tables.exec = Jvm.exec) (hZ : Z.Warmed39 s.vm) (eT : T.heap = h) {own : String} {index : Nat} {y : MethodName} {bytes : ByteArray} {maxL : Nat} {ret : Option FieldType} {rm : Room} {as : Array Value} {Q : Option Value → Heap → List Loc → Prop} (hM : OMet l Z y bytes maxL ret rm as h Q)
    (hown : s.vm.findClass own = some m.cls) (w1 : (Jvm.Cond.methodLink own index y).before a0 Z = true) (w2 : (Jvm.Cond.static y).before a0 Z = true) (w3 : (Jvm.Cond.initialized y.cls).before a0 Z = true) (w4 : (Jvm.Cond.code y bytes maxL ret).before a0 Z = true) (hy : OPlain y)
    {g : JFrame} (hg : g.method = m) (hsize : g.locals.size = c.maxLocals) (argsL rest : List Value) (has : argsL.toArray = as) (hlen : ∀ sig, parseMethodDescriptor y.desc = some sig → argsL.length = sig.parameters.length) (hstack : g.stack = argsL.reverse ++ rest) (hdg : decode c.code g.pc = .ok (.invokestatic index, 3))
    (W : Nat) (hW : 2 * g.monitorRoom + (rest.map fun v => v.category).sum ≤ W) (hf : rm.frames + 1 ≤ R.frames) (hl : W + (maxL + 11) + rm.locals ≤ R.locals) (hc : cells + rm.cells ≤ R.cells) (hs : slots + rm.slots ≤ R.slots) :
    ∃ (v : Option Value) (T' : State) (h' : Heap) (L : List Loc), T'.heap = h' ∧ Q v h' L ∧ Stand p l e R s m args below meth c T' (locs ++ L) (cells + rm.cells) (slots + rm.slots) ∧
      ∀ target, Steps p.tables e below (T'.setTop { g with pc := g.pc + 3, stack := v.toList ++ rest }) target → Steps p.tables e below (T.setTop g) target := by
  obtain ⟨v, vm₁, ⟨T', L', k', n'⟩, -, X', ⟨L, hQ, l1, l2, l3⟩, st⟩ := Jvm.LawKit.callS X hx (y := y) hown (mvT hZ w1) (mvT hZ w2) (mvT hZ w3) (mvT hZ w4) hy (backOf (W := W) (hM []) hZ w4 w3 hf hl) (g := g) hg hsize (argsL := argsL) (rest := rest) hlen hstack hW hdg (fun _ _ => ⟨has, eT, hc, hs⟩)
  dsimp only [Pt.U, Pt.locs, Pt.cells, Pt.slots] at X' l1 l2 l3 st hQ
  subst l1 l2 l3
  exact ⟨v, T', _, L, rfl, hQ, X', st⟩
/-- a static call of a body that writes nothing -/
theorem ocallP (X : Stand p l e R s m args below meth c T locs cells slots) (hx : p.tables.exec = Jvm.exec) (hZ : Z.Warmed39 s.vm) (eT : T.heap = h) {own : String} {index : Nat} {y : MethodName} {bytes : ByteArray} {maxL : Nat} {ret : Option FieldType} {rm : Room} {as : Array Value} {w : Option Value} (hM : OMet l Z y bytes maxL ret rm as h (OPure w h))
    (hown : s.vm.findClass own = some m.cls) (w1 : (Jvm.Cond.methodLink own index y).before a0 Z = true) (w2 : (Jvm.Cond.static y).before a0 Z = true) (w3 : (Jvm.Cond.initialized y.cls).before a0 Z = true) (w4 : (Jvm.Cond.code y bytes maxL ret).before a0 Z = true) (hy : OPlain y)
    {g : JFrame} (hg : g.method = m) (hsize : g.locals.size = c.maxLocals) (argsL rest : List Value) (has : argsL.toArray = as) (hlen : ∀ sig, parseMethodDescriptor y.desc = some sig → argsL.length = sig.parameters.length) (hstack : g.stack = argsL.reverse ++ rest) (hdg : decode c.code g.pc = .ok (.invokestatic index, 3))
    (W : Nat) (hW : 2 * g.monitorRoom + (rest.map fun v => v.category).sum ≤ W) (hf : rm.frames + 1 ≤ R.frames) (hl : W + (maxL + 11) + rm.locals ≤ R.locals) (hc : cells + rm.cells ≤ R.cells) (hs : slots + rm.slots ≤ R.slots) (z1 : rm.cells = 0) (z2 : rm.slots = 0) :
    ∃ T' : State, Stand p l e R s m args below meth c T' locs cells slots ∧ T'.heap = h ∧
      ∀ target, Steps p.tables e below (T'.setTop { g with pc := g.pc + 3, stack := w.toList ++ rest }) target → Steps p.tables e below (T.setTop g) target := by
  obtain ⟨v, T', h', L, e2, ⟨rfl, rfl, e'⟩, X', st⟩ := ocallQ X hx hZ eT hM hown w1 w2 w3 w4 hy hg hsize argsL rest has hlen hstack hdg W hW hf hl hc hs
  rw [z1, z2, List.append_nil] at X'
  exact ⟨T', X', e2.trans e', st⟩
/-- an instance call by its contract -/
theorem ovirtQ (X : Stand p l e R s m args below meth c T locs cells slots) (hx : p.tables.exec = Jvm.exec) (hZ : Z.Warmed39 s.vm) (eT : T.heap = h) {own C : String} {index : Nat} {y : MethodName} {bytes : ByteArray} {maxL : Nat} {ret : Option FieldType} {rm : Room} {as : Array Value} {Q : Option Value → Heap → List Loc → Prop} (hM : OMet l Z y bytes maxL ret rm as h Q)
    (hown : s.vm.findClass own = some m.cls) (w1 : (Jvm.Cond.methodLink own index y).before a0 Z = true) (w2 : (Jvm.Cond.declares y).before a0 Z = true) (w3 : (Jvm.Cond.selects C y y).before a0 Z = true) (w4 : (Jvm.Cond.instanceMethod y).before a0 Z = true) (w5 : (Jvm.Cond.initialized y.cls).before a0 Z = true) (w6 : (Jvm.Cond.code y bytes maxL ret).before a0 Z = true) (hy : OPlain y) {b : Addr} (E : Exa Z h b C)
    {g : JFrame} (hg : g.method = m) (hsize : g.locals.size = c.maxLocals) (argsL rest : List Value) (has : (.ref b :: argsL).toArray = as) (hlen : ∀ sig, parseMethodDescriptor y.desc = some sig → argsL.length = sig.parameters.length) (hstack : g.stack = argsL.reverse ++ .ref b :: rest) (hdg : decode c.code g.pc = .ok (.invokevirtual index, 3))
    (W : Nat) (hW : 2 * g.monitorRoom + (rest.map fun v => v.category).sum ≤ W) (hf : rm.frames + 1 ≤ R.frames) (hl : W + (maxL + 11) + rm.locals ≤ R.locals) (hc : cells + rm.cells ≤ R.cells) (hs : slots + rm.slots ≤ R.slots) :
    ∃ (v : Option Value) (T' : State) (h' : Heap) (L : List Loc), T'.heap = h' ∧ Q v h' L ∧ Stand p l e R s m args below meth c T' (locs ++ L) (cells + rm.cells) (slots + rm.slots) ∧
      ∀ target, Steps p.tables e below (T'.setTop { g with pc := g.pc + 3, stack := v.toList ++ rest }) target → Steps p.tables e below (T.setTop g) target := by
  obtain ⟨cq, kq, qa, -, qc⟩ := isOf (T := T) hZ eT E
  have w3' : (Jvm.Cond.selects C y y).before args s = true := mvT hZ w3
  obtain ⟨v, vm₁, ⟨T', L', k', n'⟩, -, X', ⟨L, hQ, l1, l2, l3⟩, st⟩ := X.virtualBack hx (y := y) (z := y) hown (mvT hZ w1) (mvT hZ w2) (notFace_of_selects w3') w3' (mvT hZ w4) hy (backOf (W := W) (hM []) hZ w6 w5 hf hl) qa qc (g := g) hg hsize (Steps.refl _) (argsL := argsL) (rest := rest) hlen hstack hW hdg (fun _ _ => ⟨has, eT, hc, hs⟩)
  dsimp only [Pt.U, Pt.locs, Pt.cells, Pt.slots] at X' l1 l2 l3 st hQ
  subst l1 l2 l3
  exact ⟨v, T', _, L, rfl, hQ, X', fun _ k => st.trans k⟩
theorem ovirtP (X : Stand p l e R s m args below meth c T locs cells slots) (hx : p.tables.exec = Jvm.exec) (hZ : Z.Warmed39 s.vm) (eT : T.heap = h) {own C : String} {index : Nat} {y : MethodName} {bytes : ByteArray} {maxL : Nat} {ret : Option FieldType} {rm : Room} {as : Array Value} {w : Option Value} (hM : OMet l Z y bytes maxL ret rm as h (OPure w h))
    (hown : s.vm.findClass own = some m.cls) (w1 : (Jvm.Cond.methodLink own index y).before a0 Z = true) (w2 : (Jvm.Cond.declares y).before a0 Z = true) (w3 : (Jvm.Cond.selects C y y).before a0 Z = true) (w4 : (Jvm.Cond.instanceMethod y).before a0 Z = true) (w5 : (Jvm.Cond.initialized y.cls).before a0 Z = true) (w6 : (Jvm.Cond.code y bytes maxL ret).before a0 Z = true) (hy : OPlain y) {b : Addr} (E : Exa Z h b C)
    {g : JFrame} (hg : g.method = m) (hsize : g.locals.size = c.maxLocals) (argsL rest : List Value) (has : (.ref b :: argsL).toArray = as) (hlen : ∀ sig, parseMethodDescriptor y.desc = some sig → argsL.length = sig.parameters.length) (hstack : g.stack = argsL.reverse ++ .ref b :: rest) (hdg : decode c.code g.pc = .ok (.invokevirtual index, 3))
    (W : Nat) (hW : 2 * g.monitorRoom + (rest.map fun v => v.category).sum ≤ W) (hf : rm.frames + 1 ≤ R.frames) (hl : W + (maxL + 11) + rm.locals ≤ R.locals) (hc : cells + rm.cells ≤ R.cells) (hs : slots + rm.slots ≤ R.slots) (z1 : rm.cells = 0) (z2 : rm.slots = 0) :
    ∃ T' : State, Stand p l e R s m args below meth c T' locs cells slots ∧ T'.heap = h ∧
      ∀ target, Steps p.tables e below (T'.setTop { g with pc := g.pc + 3, stack := w.toList ++ rest }) target → Steps p.tables e below (T.setTop g) target := by
  obtain ⟨v, T', h', L, e2, ⟨rfl, rfl, e'⟩, X', st⟩ := ovirtQ X hx hZ eT hM hown w1 w2 w3 w4 w5 w6 hy E hg hsize argsL rest has hlen hstack hdg W hW hf hl hc hs
  rw [z1, z2, List.append_nil] at X'
  exact ⟨T', X', e2.trans e', st⟩
/-- a constructor by its contract -/
theorem ospecQ (X : Stand p l e R s m args below meth c T locs cells slots) (hx : p.tables.exec = Jvm.exec) (hZ : Z.Warmed39 s.vm) (eT : T.heap = h) {own : String} {index : Nat} {y : MethodName} {bytes : ByteArray} {maxL : Nat} {rm : Room} {as : Array Value} {Q : Option Value → Heap → List Loc → Prop} (hM : OMet l Z y bytes maxL none rm as h Q)
    (hyi : y.name = "<init>") (hown : s.vm.findClass own = some m.cls) (w1 : (Jvm.Cond.methodLink own index y).before a0 Z = true) (w4 : (Jvm.Cond.instanceMethod y).before a0 Z = true) (w5 : (Jvm.Cond.initialized y.cls).before a0 Z = true) (w6 : (Jvm.Cond.code y bytes maxL none).before a0 Z = true) (hy : OPlain y) {b : Addr}
    {g : JFrame} (hg : g.method = m) (hsize : g.locals.size = c.maxLocals) (argsL rest : List Value) (has : (.ref b :: argsL).toArray = as) (hlen : ∀ sig, parseMethodDescriptor y.desc = some sig → argsL.length = sig.parameters.length) (hstack : g.stack = argsL.reverse ++ .ref b :: rest) (hdg : decode c.code g.pc = .ok (.invokespecial index, 3))
    (W : Nat) (hW : 2 * g.monitorRoom + (rest.map fun v => v.category).sum ≤ W) (hf : rm.frames + 1 ≤ R.frames) (hl : W + (maxL + 11) + rm.locals ≤ R.locals) (hc : cells + rm.cells ≤ R.cells) (hs : slots + rm.slots ≤ R.slots) :
    ∃ (v : Option Value) (T' : State) (h' : Heap) (L : List Loc), T'.heap = h' ∧ Q v h' L ∧ Stand p l e R s m args below meth c T' (locs ++ L) (cells + rm.cells) (slots + rm.slots) ∧
      ∀ target, Steps p.tables e below (T'.setTop { g with pc := g.pc + 3, stack := v.toList ++ rest }) target → Steps p.tables e below (T.setTop g) target := by
  obtain ⟨v, vm₁, ⟨T', L', k', n'⟩, -, X', ⟨L, hQ, l1, l2, l3⟩, st⟩ := X.specialBack hx (y := y) hyi hown (mvT hZ w1) (mvT hZ w4) (mvT hZ w6) hy (backOf (W := W) (hM []) hZ w6 w5 hf hl) (g := g) hg hsize (Steps.refl _) (a := b) (argsL := argsL) (rest := rest) hlen hstack hW hdg (fun _ _ => ⟨has, eT, hc, hs⟩)
  dsimp only [Pt.U, Pt.locs, Pt.cells, Pt.slots] at X' l1 l2 l3 st hQ
  subst l1 l2 l3
  exact ⟨v, T', _, L, rfl, hQ, X', fun _ k => st.trans k⟩
theorem onb {z : Int32} (q : z = 0 ∨ z = 1) : narrow .boolean (.int z) = .int z := by rcases q with rfl | rfl <;> rfl
theorem ofb {z : Int32} (q : z = 0 ∨ z = 1) : fits .boolean (.int z) = true := by rcases q with rfl | rfl <;> rfl
theorem oif01 {c : Prop} [Decidable c] {a b : Int32} (qa : a = 0 ∨ a = 1) (qb : b = 0 ∨ b = 1) : (if c then a else b) = 0 ∨ (if c then a else b) = 1 := by split <;> assumption
/-! arrays by a function of the place -/
variable {ty : FieldType} {a b : Addr} {n : Nat} {f f' : Nat → Value} {h' : Heap} {ws : List Addr} {sl : Nat} {v : Value}
def OAr (Z : State) (h : Heap) (a : Addr) (ty : FieldType) (n : Nat) (f : Nat → Value) : Prop :=
  ∃ c : Cell, Arr Z h a c ty ∧ c.slots.size = n ∧ (∀ j, j < n → c.slots[j]? = some (f j)) ∧ ∀ j, j < n → fits ty (f j) = true
theorem OAr.lt (F : OAr Z h a ty n f) : a < h.size := by obtain ⟨c, A, -⟩ := F; exact A.lt
theorem OAr.ext (F : OAr Z h a ty n f) (E : Ext h h') : OAr Z h' a ty n f := by obtain ⟨c, A, r⟩ := F; exact ⟨c, A.ext E, r⟩
theorem OAr.other (F : OAr Z h b ty n f) (W : Wr h h' a sl v) (q : b ≠ a) : OAr Z h' b ty n f := by obtain ⟨c, A, r⟩ := F; exact ⟨c, A.other W q, r⟩
theorem OAr.keep (F : OAr Z h a ty n f) (K : Keep h h' ws) (q : a ∉ ws) : OAr Z h' a ty n f := by obtain ⟨c, A, r⟩ := F; exact ⟨c, ⟨K.2.1 a c A.1 q, A.2⟩, r⟩
theorem OAr.conv (F : OAr Z h a ty n f) (q : ∀ j, j < n → f j = f' j) : OAr Z h a ty n f' := by
  obtain ⟨c, A, S, H, G⟩ := F
  exact ⟨c, A, S, fun j hj => by rw [← q j hj]; exact H j hj, fun j hj => by rw [← q j hj]; exact G j hj⟩
theorem OAr.new {k : ClassId} {z : Int32} (A : Arr Z h a (newA k ty z) ty) (q : z.toNatClampNeg = n) : OAr Z h a ty n (fun _ => defaultValue ty) :=
  ⟨_, A, (sz_new _ _ _).trans q, fun j hj => by simp [newA, q, hj], fun j _ => by cases ty <;> rfl⟩
theorem OAr.set (F : OAr Z h a ty n f) (W : Wr h h' a sl v) (hv : fits ty v = true) : OAr Z h' a ty n (fun j => if j = sl then v else f j) := by
  obtain ⟨c, A, S, H, G⟩ := F
  refine ⟨_, A.same W, by rw [sz_set]; exact S, fun j hj => ?_, fun j hj => ?_⟩
  · show (c.slots.setIfInBounds sl v)[j]? = _
    rw [Array.getElem?_setIfInBounds]
    by_cases q : j = sl
    · subst q; simp [S, hj]
    · rw [if_neg (fun z => q z.symm), H j hj]; simp [q]
  · by_cases q : j = sl
    · simp [q, hv]
    · simp [q, G j hj]
theorem oidx {j : Int32} (h0 : 0 ≤ j.toInt) (h1 : j.toInt < (n : Int)) : ¬ (j < 0) ∧ j.toNatClampNeg < n := by
  refine ⟨fun q => ?_, ?_⟩
  · rw [Int32.lt_iff_toInt_lt] at q; have : (0 : Int32).toInt = 0 := rfl; omega
  · simp only [Int32.toNatClampNeg]; omega
theorem oin {c : Cell} {j : Int32} (S : c.slots.size = n) (h0 : 0 ≤ j.toInt) (h1 : j.toInt < (n : Int)) : ¬ (j < 0 ∨ c.slots.size ≤ j.toNatClampNeg) := by
  obtain ⟨q1, q2⟩ := oidx h0 h1
  rw [S]; exact fun z => z.elim q1 (fun u => Nat.not_le.mpr q2 u)
theorem ostB (X : Stand p l e R s m args below meth c T locs cells slots) (hx : p.tables.exec = Jvm.exec) (hZ : Z.Warmed39 s.vm) (eT : T.heap = h) (F : OAr Z h a .byte n f) {j x : Int32} (h0 : 0 ≤ j.toInt) (h1 : j.toInt < (n : Int)) {g : JFrame} (hg : g.method = m) {rest : List Value} (hs : g.stack = .int x :: .int j :: .ref a :: rest) (hd : decode c.code g.pc = .ok (.bastore, 1)) :
    ∃ T' h', Stand p l e R s m args below meth c T' (locs ++ [⟨a, j.toNatClampNeg⟩]) cells slots ∧ T'.heap = h' ∧ Wr h h' a j.toNatClampNeg (.int x.toInt8.toInt32) ∧ OAr Z h' a .byte n (fun i => if i = j.toNatClampNeg then .int x.toInt8.toInt32 else f i) ∧ ∀ target, Steps p.tables e below (T'.setTop { g with pc := g.pc + 1, stack := rest }) target → Steps p.tables e below (T.setTop g) target := by
  obtain ⟨cl, A, S, H, G⟩ := F
  obtain ⟨T', h', X', e', W, st⟩ := stB X hx hZ eT A (j := j) (x := x) (oin S h0 h1) hg hs hd
  exact ⟨T', h', X', e', W, OAr.set ⟨cl, A, S, H, G⟩ W (fits_nar_byte x), st⟩
theorem ostI (X : Stand p l e R s m args below meth c T locs cells slots) (hx : p.tables.exec = Jvm.exec) (hZ : Z.Warmed39 s.vm) (eT : T.heap = h) (F : OAr Z h a .int n f) {j x : Int32} (h0 : 0 ≤ j.toInt) (h1 : j.toInt < (n : Int)) {g : JFrame} (hg : g.method = m) {rest : List Value} (hs : g.stack = .int x :: .int j :: .ref a :: rest) (hd : decode c.code g.pc = .ok (.iastore, 1)) :
    ∃ T' h', Stand p l e R s m args below meth c T' (locs ++ [⟨a, j.toNatClampNeg⟩]) cells slots ∧ T'.heap = h' ∧ Wr h h' a j.toNatClampNeg (.int x) ∧ OAr Z h' a .int n (fun i => if i = j.toNatClampNeg then .int x else f i) ∧ ∀ target, Steps p.tables e below (T'.setTop { g with pc := g.pc + 1, stack := rest }) target → Steps p.tables e below (T.setTop g) target := by
  obtain ⟨cl, A, S, H, G⟩ := F
  obtain ⟨T', h', X', e', W, st⟩ := stI X hx hZ eT A (j := j) (x := x) (oin S h0 h1) hg hs hd
  exact ⟨T', h', X', e', W, OAr.set ⟨cl, A, S, H, G⟩ W rfl, st⟩
theorem ostJ (X : Stand p l e R s m args below meth c T locs cells slots) (hx : p.tables.exec = Jvm.exec) (hZ : Z.Warmed39 s.vm) (eT : T.heap = h) (F : OAr Z h a .long n f) {j : Int32} {x : Int64} (h0 : 0 ≤ j.toInt) (h1 : j.toInt < (n : Int)) {g : JFrame} (hg : g.method = m) {rest : List Value} (hs : g.stack = .long x :: .int j :: .ref a :: rest) (hd : decode c.code g.pc = .ok (.lastore, 1)) :
    ∃ T' h', Stand p l e R s m args below meth c T' (locs ++ [⟨a, j.toNatClampNeg⟩]) cells slots ∧ T'.heap = h' ∧ Wr h h' a j.toNatClampNeg (.long x) ∧ OAr Z h' a .long n (fun i => if i = j.toNatClampNeg then .long x else f i) ∧ ∀ target, Steps p.tables e below (T'.setTop { g with pc := g.pc + 1, stack := rest }) target → Steps p.tables e below (T.setTop g) target := by
  obtain ⟨cl, A, S, H, G⟩ := F
  obtain ⟨T', h', X', e', W, st⟩ := stJ X hx hZ eT A (j := j) (x := x) (oin S h0 h1) hg hs hd
  exact ⟨T', h', X', e', W, OAr.set ⟨cl, A, S, H, G⟩ W rfl, st⟩
theorem oldB (X : Stand p l e R s m args below meth c T locs cells slots) (hx : p.tables.exec = Jvm.exec) (hZ : Z.Warmed39 s.vm) (eT : T.heap = h) (F : OAr Z h a .byte n f) {j : Int32} (h0 : 0 ≤ j.toInt) (h1 : j.toInt < (n : Int)) {g : JFrame} (hg : g.method = m) {rest : List Value} (hs : g.stack = .int j :: .ref a :: rest) (hd : decode c.code g.pc = .ok (.baload, 1)) :
    ∀ target, Steps p.tables e below (T.setTop { g with pc := g.pc + 1, stack := f j.toNatClampNeg :: rest }) target → Steps p.tables e below (T.setTop g) target := by
  obtain ⟨cl, A, S, H, G⟩ := F
  exact fun t k => X.baloadBytes hx (by rw [eT]; exact A.1) (State.isArrayOf_alike hZ.alike A.2.1) A.2.2 (oin S h0 h1) (H _ (oidx h0 h1).2) hg hs hd t k
theorem oldI (X : Stand p l e R s m args below meth c T locs cells slots) (hx : p.tables.exec = Jvm.exec) (hZ : Z.Warmed39 s.vm) (eT : T.heap = h) (F : OAr Z h a .int n f) {j : Int32} (h0 : 0 ≤ j.toInt) (h1 : j.toInt < (n : Int)) {g : JFrame} (hg : g.method = m) {rest : List Value} (hs : g.stack = .int j :: .ref a :: rest) (hd : decode c.code g.pc = .ok (.iaload, 1)) :
    ∀ target, Steps p.tables e below (T.setTop { g with pc := g.pc + 1, stack := f j.toNatClampNeg :: rest }) target → Steps p.tables e below (T.setTop g) target := by
  obtain ⟨cl, A, S, H, G⟩ := F
  exact fun t k => X.iaload hx (by rw [eT]; exact A.1) (State.isArrayOf_alike hZ.alike A.2.1) A.2.2 (oin S h0 h1) (H _ (oidx h0 h1).2) hg hs hd t k
theorem oldJ (X : Stand p l e R s m args below meth c T locs cells slots) (hx : p.tables.exec = Jvm.exec) (hZ : Z.Warmed39 s.vm) (eT : T.heap = h) (F : OAr Z h a .long n f) {j : Int32} (h0 : 0 ≤ j.toInt) (h1 : j.toInt < (n : Int)) {g : JFrame} (hg : g.method = m) {rest : List Value} (hs : g.stack = .int j :: .ref a :: rest) (hd : decode c.code g.pc = .ok (.laload, 1)) :
    ∀ target, Steps p.tables e below (T.setTop { g with pc := g.pc + 1, stack := f j.toNatClampNeg :: rest }) target → Steps p.tables e below (T.setTop g) target := by
  obtain ⟨cl, A, S, H, G⟩ := F
  exact fun t k => X.laload hx (by rw [eT]; exact A.1) (State.isArrayOf_alike hZ.alike A.2.1) A.2.2 (oin S h0 h1) (H _ (oidx h0 h1).2) hg hs hd t k
theorem oalen (X : Stand p l e R s m args below meth c T locs cells slots) (hx : p.tables.exec = Jvm.exec) (hZ : Z.Warmed39 s.vm) (eT : T.heap = h) (F : OAr Z h a ty n f) {g : JFrame} (hg : g.method = m) {rest : List Value} (hs : g.stack = .ref a :: rest) (hd : decode c.code g.pc = .ok (.arraylength, 1)) :
    ∀ target, Steps p.tables e below (T.setTop { g with pc := g.pc + 1, stack := .int n.toInt32 :: rest }) target → Steps p.tables e below (T.setTop g) target := by
  obtain ⟨cl, A, S, H, G⟩ := F
  subst S
  exact fun t k => X.arraylength hx (by rw [eT]; exact A.1) (State.isArrayOf_alike hZ.alike A.2.1) hg hs hd t k
theorem oclone (X : Stand p l e R s m args below meth c T locs cells slots) (hx : p.tables.exec = Jvm.exec) (hZ : Z.Warmed39 s.vm) {own ad : String} {index : Nat} (hown : s.vm.findClass own = some m.cls)
    (w1 : (Jvm.Cond.methodLink own index ⟨ad, "clone", "()Ljava/lang/Object;"⟩).before a0 Z = true) (w2 : (Jvm.Cond.sameMethod ad "java/lang/Object" "clone" "()Ljava/lang/Object;").before a0 Z = true) (w3 : (Jvm.Cond.native ⟨"java/lang/Object", "clone", "()Ljava/lang/Object;"⟩).before a0 Z = true)
    (w4 : (Jvm.Cond.instanceMethod ⟨"java/lang/Object", "clone", "()Ljava/lang/Object;"⟩).before a0 Z = true) (w5 : (Jvm.Cond.selects ad ⟨ad, "clone", "()Ljava/lang/Object;"⟩ ⟨"java/lang/Object", "clone", "()Ljava/lang/Object;"⟩).before a0 Z = true) (w6 : (Jvm.Cond.castable ad "java/lang/Cloneable").before a0 Z = true)
    (eT : T.heap = h) (F : OAr Z h a ty n f) (E : Exa Z h a ad) {g : JFrame} (hg : g.method = m) (hsize : g.locals.size = c.maxLocals) {rest : List Value} (hs : g.stack = .ref a :: rest) (hd : decode c.code g.pc = .ok (.invokevirtual index, 3))
    (hf : 1 ≤ R.frames) (W : Nat) (hW : 2 * g.monitorRoom + (rest.map fun v => v.category).sum ≤ W) (hl : W + 14 ≤ R.locals) (hc : cells + 1 ≤ R.cells) (hsl : slots + n ≤ R.slots) :
    ∃ T' h', Stand p l e R s m args below meth c T' locs (cells + 1) (slots + n) ∧ T'.heap = h' ∧ Ext h h' ∧ OAr Z h' h.size ty n f ∧ Exa Z h' h.size ad ∧
      ∀ target, Steps p.tables e below (T'.setTop { g with pc := g.pc + 3, stack := .ref h.size :: rest }) target → Steps p.tables e below (T.setTop g) target := by
  obtain ⟨cl, A, S, H, G⟩ := F
  have FC : FitC Z cl := fitC_of A fun i hi v hv => by rw [H i (S ▸ hi)] at hv; cases hv; exact G i (S ▸ hi)
  obtain ⟨T', h', X', e', ex, A', E', st⟩ := cloneA X hx hZ hown w1 w2 w3 w4 w5 w6 eT A E FC hg hsize hs hd hf hW hl (Nat.le_of_eq S) hc hsl
  exact ⟨T', h', X', e', ex, ⟨cloneOf cl, A', S, H, G⟩, E', st⟩
end OwnGo
end Jvm.OwnKit
namespace Jvm.Pilot.@@N@@
open Jvm Jvm.ClassFile Sem Op Lib Jvm.Free Jvm.Stand Jvm.LawKit Jvm.RoadKit Bundle Jvm.OwnKit Jvm.Pilot.@@N@@.Jvm.D
theorem d2_0 : decode jdk_30_method_1_code 0 = .ok (.aload_n 0, 1) := by decide +kernel
theorem d2_1 : decode jdk_30_method_1_code 1 = .ok (.invokespecial 1, 3) := by decide +kernel
theorem d2_4 : decode jdk_30_method_1_code 4 = .ok (.return_, 1) := by decide +kernel
theorem pn_2 : plainName "java/lang/Record" = true := by first | (simp [plainName, overriddenIn]; done) | decide +kernel
theorem ef_2 (m : MethodId) (x0 : Addr) : entryFrame m #[(.ref x0)] 1 = mkF m 0 #[.val (.ref x0)] [] := by first | (simp [entryFrame, mkF, argsToLocals, Value.category]; done) | rfl
set_option maxRecDepth 65536 in
set_option maxHeartbeats 40000000 in
theorem rm2 (l : Launch) (Z : State) (a0 : Array Value) (hw : ∀ d ∈ tables_1, d.before a0 Z = true) (ob : Addr)  (h0 : Heap) (n0 : Nat) (Z0 : n0 ≤ h0.size)  :
    OMet l Z (⟨"java/lang/Record", "<init>", "()V"⟩ : MethodName) jdk_30_method_1_code 1 none ({ frames := 1, cells := 0, slots := 0, locals := 12 } : Room) #[(.ref ob)] h0 (fun v h L => v = none ∧ Fr n0 L ∧ Keep h0 h []) := by
  intro ws
  refine MetFree.of_bodySF (plainFor_of_name pn_2) hisR ?_
  intro p e s m args below meth c s₁ Bd hml0 hP hK
  obtain ⟨rfl, hZ, hh⟩ := hP
  have hx := Bd.exec
  have hby := Bd.bytes
  have hml : c.maxLocals = 1 := hml0
  have hown : s.vm.findClass "java/lang/Record" = some m.cls := findClass_of_methodNamed Bd.named
  have hnm := (name_of_methodNamed Bd.named Bd.method).1
  have hlk : meth.locks = false := Bd.notSynchronized
  have X0 : Stand p l e ({ frames := 1, cells := 0, slots := 0, locals := 12 } : Room) s m #[(.ref ob)] below meth c s₁ [] 0 0 := Stand.of_body Bd
  have e0 : s₁.heap = h0 := by rw [← hh, Bd.state]; rfl
  have N0 := Fr.nil n0
  have K0 := Keep.refl h0 []
  refine (?_ : OGo p.tables e below (OFin s (fun v h L => v = none ∧ Fr n0 L ∧ Keep h0 h []) 0 0) _)
  refine ogo (fun _ k => castTop (ef_2 m ob) k) ?_
  show OGo _ _ _ _ (s₁.setTop (mkF m 0 #[.val (.ref ob)] []))
  refine ogo (fun _ k => XS.aloadN X0.here hx rfl (hb hby d2_0) rfl rfl k) ?_
  show OGo _ _ _ _ (s₁.setTop (mkF m 1 #[.val (.ref ob)] [(.ref ob)]))
  obtain ⟨T_2_1, X_2_1, e_2_1, st_2_1⟩ := initO X0 hx hZ hown (hw _ (List.mem_of_getElem? (i := 11) rfl)) (hw _ (List.mem_of_getElem? (i := 12) rfl)) (hw _ (List.mem_of_getElem? (i := 13) rfl)) e0 (g := (mkF m 1 #[.val (.ref ob)] [(.ref ob)])) rfl (by rw [hml]; rfl) rfl (hb hby d2_1) (by decide) (W := 0) (by show 2 * 0 + _ ≤ _; exact Nat.le_of_eq rfl) (by decide)
  refine ogo (fun _ k => st_2_1 _ k) ?_
  show OGo _ _ _ _ (T_2_1.setTop (mkF m 4 #[.val (.ref ob)] []))
  exact oretV X_2_1 hx hlk Bd.returns (hb hby d2_4) (by decide) (by decide) (by rw [e_2_1]; exact ⟨rfl, N0, K0⟩)
theorem d1_0 : decode prog_103_method_1_code 0 = .ok (.aload_n 0, 1) := by decide +kernel
theorem d1_1 : decode prog_103_method_1_code 1 = .ok (.invokespecial 1, 3) := by decide +kernel
theorem d1_4 : decode prog_103_method_1_code 4 = .ok (.aload_n 0, 1) := by decide +kernel
theorem d1_5 : decode prog_103_method_1_code 5 = .ok (.iload_n 1, 1) := by decide +kernel
theorem d1_6 : decode prog_103_method_1_code 6 = .ok (.putfield 7, 3) := by decide +kernel
theorem d1_9 : decode prog_103_method_1_code 9 = .ok (.aload_n 0, 1) := by decide +kernel
theorem d1_10 : decode prog_103_method_1_code 10 = .ok (.iload_n 2, 1) := by decide +kernel
theorem d1_11 : decode prog_103_method_1_code 11 = .ok (.putfield 13, 3) := by decide +kernel
theorem d1_14 : decode prog_103_method_1_code 14 = .ok (.aload_n 0, 1) := by decide +kernel
theorem d1_15 : decode prog_103_method_1_code 15 = .ok (.iload_n 3, 1) := by decide +kernel
theorem d1_16 : decode prog_103_method_1_code 16 = .ok (.putfield 16, 3) := by decide +kernel
theorem d1_19 : decode prog_103_method_1_code 19 = .ok (.aload_n 0, 1) := by decide +kernel
theorem d1_20 : decode prog_103_method_1_code 20 = .ok (.iload 4, 2) := by decide +kernel
theorem d1_22 : decode prog_103_method_1_code 22 = .ok (.putfield 19, 3) := by decide +kernel
theorem d1_25 : decode prog_103_method_1_code 25 = .ok (.return_, 1) := by decide +kernel
theorem pn_1 : plainName "com/example/lean_wiring/leanwiring/Offer$Cost" = true := by first | (simp [plainName, overriddenIn]; done) | decide +kernel
theorem ef_1 (m : MethodId) (x0 : Addr) (x1 : Int32) (x2 : Int32) (x3 : Int32) (x4 : Int32) : entryFrame m #[(.ref x0), (.int x1), (.int x2), (.int x3), (.int x4)] 5 = mkF m 0 #[.val (.ref x0), .val (.int x1), .val (.int x2), .val (.int x3), .val (.int x4)] [] := by first | (simp [entryFrame, mkF, argsToLocals, Value.category]; done) | rfl
theorem pd___V : parseMethodDescriptor "()V" = some ⟨[], none⟩ := by decide +kernel
set_option maxRecDepth 65536 in
set_option maxHeartbeats 40000000 in
theorem rm1 (l : Launch) (Z : State) (a0 : Array Value) (hw : ∀ d ∈ tables_1, d.before a0 Z = true) (ob : Addr) (q1 : Int32) (q2 : Int32) (q3 : Int32) (q4 : Int32)  (h0 : Heap) (n0 : Nat) (Z0 : n0 ≤ h0.size) (P0 : Exa Z h0 ob "com/example/lean_wiring/leanwiring/Offer$Cost") (P1 : Fld Z h0 ob "com/example/lean_wiring/leanwiring/Offer$Cost" "checks" "I" (.int (0 : Int32))) (P2 : Fld Z h0 ob "com/example/lean_wiring/leanwiring/Offer$Cost" "copies" "I" (.int (0 : Int32))) (P3 : Fld Z h0 ob "com/example/lean_wiring/leanwiring/Offer$Cost" "conversions" "I" (.int (0 : Int32))) (P4 : Fld Z h0 ob "com/example/lean_wiring/leanwiring/Offer$Cost" "supertypes" "I" (.int (0 : Int32))) (g_ob : n0 ≤ ob) :
    OMet l Z (⟨"com/example/lean_wiring/leanwiring/Offer$Cost", "<init>", "(IIII)V"⟩ : MethodName) prog_103_method_1_code 5 none ({ frames := 2, cells := 0, slots := 0, locals := 24 } : Room) #[(.ref ob), (.int q1), (.int q2), (.int q3), (.int q4)] h0 (fun v h L => v = none ∧ Fr n0 L ∧ Keep h0 h [ob] ∧ Fld Z h ob "com/example/lean_wiring/leanwiring/Offer$Cost" "checks" "I" (.int q1) ∧ Fld Z h ob "com/example/lean_wiring/leanwiring/Offer$Cost" "copies" "I" (.int q2) ∧ Fld Z h ob "com/example/lean_wiring/leanwiring/Offer$Cost" "conversions" "I" (.int q3) ∧ Fld Z h ob "com/example/lean_wiring/leanwiring/Offer$Cost" "supertypes" "I" (.int q4)) := by
  intro ws
  refine MetFree.of_bodySF (plainFor_of_name pn_1) hisR ?_
  intro p e s m args below meth c s₁ Bd hml0 hP hK
  obtain ⟨rfl, hZ, hh⟩ := hP
  have hx := Bd.exec
  have hby := Bd.bytes
  have hml : c.maxLocals = 5 := hml0
  have hown : s.vm.findClass "com/example/lean_wiring/leanwiring/Offer$Cost" = some m.cls := findClass_of_methodNamed Bd.named
  have hnm := (name_of_methodNamed Bd.named Bd.method).1
  have hlk : meth.locks = false := Bd.notSynchronized
  have X0 : Stand p l e ({ frames := 2, cells := 0, slots := 0, locals := 24 } : Room) s m #[(.ref ob), (.int q1), (.int q2), (.int q3), (.int q4)] below meth c s₁ [] 0 0 := Stand.of_body Bd
  have e0 : s₁.heap = h0 := by rw [← hh, Bd.state]; rfl
  have N0 := Fr.nil n0
  have K0 := Keep.refl h0 [ob]
  refine (?_ : OGo p.tables e below (OFin s (fun v h L => v = none ∧ Fr n0 L ∧ Keep h0 h [ob] ∧ Fld Z h ob "com/example/lean_wiring/leanwiring/Offer$Cost" "checks" "I" (.int q1) ∧ Fld Z h ob "com/example/lean_wiring/leanwiring/Offer$Cost" "copies" "I" (.int q2) ∧ Fld Z h ob "com/example/lean_wiring/leanwiring/Offer$Cost" "conversions" "I" (.int q3) ∧ Fld Z h ob "com/example/lean_wiring/leanwiring/Offer$Cost" "supertypes" "I" (.int q4)) 0 0) _)
  refine ogo (fun _ k => castTop (ef_1 m ob q1 q2 q3 q4) k) ?_
  show OGo _ _ _ _ (s₁.setTop (mkF m 0 #[.val (.ref ob), .val (.int q1), .val (.int q2), .val (.int q3), .val (.int q4)] []))
  refine ogo (fun _ k => XS.aloadN X0.here hx rfl (hb hby d1_0) rfl rfl k) ?_
  show OGo _ _ _ _ (s₁.setTop (mkF m 1 #[.val (.ref ob), .val (.int q1), .val (.int q2), .val (.int q3), .val (.int q4)] [(.ref ob)]))
  obtain ⟨v_1_1, T_1_1, h_1_1, L_1_1, e_1_1, hQ_1_1, X_1_1, st_1_1⟩ := ospecQ X0 hx hZ e0 (rm2 l Z a0 hw ob  h0 n0 Z0 ) rfl hown (hw _ (List.mem_of_getElem? (i := 6) rfl)) (hw _ (List.mem_of_getElem? (i := 7) rfl)) (hw _ (List.mem_of_getElem? (i := 9) rfl)) (hw _ (List.mem_of_getElem? (i := 10) rfl)) (by decide) (b := ob) (g := (mkF m 1 #[.val (.ref ob), .val (.int q1), .val (.int q2), .val (.int q3), .val (.int q4)] [(.ref ob)])) rfl (by rw [hml]; rfl) [] [] rfl (lenOf pd___V rfl) rfl (hb hby d1_1) 0 (by show 2 * 0 + _ ≤ _; exact Nat.le_of_eq rfl) (by decide) (by decide) (by decide) (by decide)
  obtain ⟨rfl, Nq_1_1, Kc_1_1⟩ := hQ_1_1
  have f_1_2 := P0.keep Kc_1_1
  have f_1_3 := P1.keep Kc_1_1 nin0
  have f_1_4 := P2.keep Kc_1_1 nin0
  have f_1_5 := P3.keep Kc_1_1 nin0
  have f_1_6 := P4.keep Kc_1_1 nin0
  have Z_1_1 : n0 ≤ h_1_1.size := Nat.le_trans Z0 Kc_1_1.1
  have K_1_1 := K0.trans Kc_1_1 all0
  obtain ⟨lc_1_1, N_1_1, X_1_1⟩ : ∃ L, Fr n0 L ∧ Stand p l e ({ frames := 2, cells := 0, slots := 0, locals := 24 } : Room) s m #[(.ref ob), (.int q1), (.int q2), (.int q3), (.int q4)] below meth c T_1_1 L 0 0 := ⟨_, Fr.app N0 Nq_1_1, X_1_1⟩
  refine ogo (fun _ k => st_1_1 _ k) ?_
  show OGo _ _ _ _ (T_1_1.setTop (mkF m 4 #[.val (.ref ob), .val (.int q1), .val (.int q2), .val (.int q3), .val (.int q4)] []))
  refine ogo (fun _ k => XS.aloadN X_1_1.here hx rfl (hb hby d1_4) rfl rfl k) ?_
  show OGo _ _ _ _ (T_1_1.setTop (mkF m 5 #[.val (.ref ob), .val (.int q1), .val (.int q2), .val (.int q3), .val (.int q4)] [(.ref ob)]))
  refine ogo (fun _ k => XS.iloadN X_1_1.here hx rfl (hb hby d1_5) rfl k) ?_
  show OGo _ _ _ _ (T_1_1.setTop (mkF m 6 #[.val (.ref ob), .val (.int q1), .val (.int q2), .val (.int q3), .val (.int q4)] [(.int q1), (.ref ob)]))
  obtain ⟨T_1_7, h_1_7, X_1_7, e_1_7, W_1_7, st_1_7⟩ := putF X_1_1 hx hZ hown (host := "") (Or.inl (hw _ (List.mem_of_getElem? (i := 14) rfl))) Via.refl e_1_1 f_1_3 f_1_2 (Or.inr ⟨(hw _ (List.mem_of_getElem? (i := 15) rfl)), rfl, hnm⟩) (hw _ (List.mem_of_getElem? (i := 1) rfl)) (ty := .int) (by decide) rfl rfl (g := (mkF m 6 #[.val (.ref ob), .val (.int q1), .val (.int q2), .val (.int q3), .val (.int q4)] [(.int q1), (.ref ob)])) rfl rfl (hb hby d1_6)
  have K_1_7 := K_1_1.wr W_1_7 (Or.inl (List.mem_of_getElem? (i := 0) rfl))
  have f_1_8 := f_1_2.wr W_1_7
  have f_1_9 := f_1_3.same W_1_7
  have f_1_10 := f_1_4.other W_1_7 (Or.inr (slot_ne (Or.inr (hw _ (List.mem_of_getElem? (i := 17) rfl))) (Or.inr (hw _ (List.mem_of_getElem? (i := 15) rfl))) (by decide) (t := .int) (t' := .int) (by decide) (by decide)))
  have f_1_11 := f_1_5.other W_1_7 (Or.inr (slot_ne (Or.inr (hw _ (List.mem_of_getElem? (i := 19) rfl))) (Or.inr (hw _ (List.mem_of_getElem? (i := 15) rfl))) (by decide) (t := .int) (t' := .int) (by decide) (by decide)))
  have f_1_12 := f_1_6.other W_1_7 (Or.inr (slot_ne (Or.inr (hw _ (List.mem_of_getElem? (i := 21) rfl))) (Or.inr (hw _ (List.mem_of_getElem? (i := 15) rfl))) (by decide) (t := .int) (t' := .int) (by decide) (by decide)))
  have Z_1_7 : n0 ≤ h_1_7.size := Nat.le_trans Z_1_1 (Keep.of_wr W_1_7).1
  obtain ⟨lc_1_7, N_1_7, X_1_7⟩ : ∃ L, Fr n0 L ∧ Stand p l e ({ frames := 2, cells := 0, slots := 0, locals := 24 } : Room) s m #[(.ref ob), (.int q1), (.int q2), (.int q3), (.int q4)] below meth c T_1_7 L 0 0 := ⟨_, Fr.snoc X_1_7 N_1_1 g_ob, X_1_7⟩
  refine ogo (fun _ k => st_1_7 _ k) ?_
  show OGo _ _ _ _ (T_1_7.setTop (mkF m 9 #[.val (.ref ob), .val (.int q1), .val (.int q2), .val (.int q3), .val (.int q4)] []))
  refine ogo (fun _ k => XS.aloadN X_1_7.here hx rfl (hb hby d1_9) rfl rfl k) ?_
  show OGo _ _ _ _ (T_1_7.setTop (mkF m 10 #[.val (.ref ob), .val (.int q1), .val (.int q2), .val (.int q3), .val (.int q4)] [(.ref ob)]))
  refine ogo (fun _ k => XS.iloadN X_1_7.here hx rfl (hb hby d1_10) rfl k) ?_
  show OGo _ _ _ _ (T_1_7.setTop (mkF m 11 #[.val (.ref ob), .val (.int q1), .val (.int q2), .val (.int q3), .val (.int q4)] [(.int q2), (.ref ob)]))
  obtain ⟨T_1_13, h_1_13, X_1_13, e_1_13, W_1_13, st_1_13⟩ := putF X_1_7 hx hZ hown (host := "") (Or.inl (hw _ (List.mem_of_getElem? (i := 16) rfl))) Via.refl e_1_7 f_1_10 f_1_8 (Or.inr ⟨(hw _ (List.mem_of_getElem? (i := 17) rfl)), rfl, hnm⟩) (hw _ (List.mem_of_getElem? (i := 1) rfl)) (ty := .int) (by decide) rfl rfl (g := (mkF m 11 #[.val (.ref ob), .val (.int q1), .val (.int q2), .val (.int q3), .val (.int q4)] [(.int q2), (.ref ob)])) rfl rfl (hb hby d1_11)
  have K_1_13 := K_1_7.wr W_1_13 (Or.inl (List.mem_of_getElem? (i := 0) rfl))
  have f_1_14 := f_1_8.wr W_1_13
  have f_1_15 := f_1_9.other W_1_13 (Or.inr (slot_ne (Or.inr (hw _ (List.mem_of_getElem? (i := 15) rfl))) (Or.inr (hw _ (List.mem_of_getElem? (i := 17) rfl))) (by decide) (t := .int) (t' := .int) (by decide) (by decide)))
  have f_1_16 := f_1_10.same W_1_13
  have f_1_17 := f_1_11.other W_1_13 (Or.inr (slot_ne (Or.inr (hw _ (List.mem_of_getElem? (i := 19) rfl))) (Or.inr (hw _ (List.mem_of_getElem? (i := 17) rfl))) (by decide) (t := .int) (t' := .int) (by decide) (by decide)))
  have f_1_18 := f_1_12.other W_1_13 (Or.inr (slot_ne (Or.inr (hw _ (List.mem_of_getElem? (i := 21) rfl))) (Or.inr (hw _ (List.mem_of_getElem? (i := 17) rfl))) (by decide) (t := .int) (t' := .int) (by decide) (by decide)))
  have Z_1_13 : n0 ≤ h_1_13.size := Nat.le_trans Z_1_7 (Keep.of_wr W_1_13).1
  obtain ⟨lc_1_13, N_1_13, X_1_13⟩ : ∃ L, Fr n0 L ∧ Stand p l e ({ frames := 2, cells := 0, slots := 0, locals := 24 } : Room) s m #[(.ref ob), (.int q1), (.int q2), (.int q3), (.int q4)] below meth c T_1_13 L 0 0 := ⟨_, Fr.snoc X_1_13 N_1_7 g_ob, X_1_13⟩
  refine ogo (fun _ k => st_1_13 _ k) ?_
  show OGo _ _ _ _ (T_1_13.setTop (mkF m 14 #[.val (.ref ob), .val (.int q1), .val (.int q2), .val (.int q3), .val (.int q4)] []))
  refine ogo (fun _ k => XS.aloadN X_1_13.here hx rfl (hb hby d1_14) rfl rfl k) ?_
  show OGo _ _ _ _ (T_1_13.setTop (mkF m 15 #[.val (.ref ob), .val (.int q1), .val (.int q2), .val (.int q3), .val (.int q4)] [(.ref ob)]))
  refine ogo (fun _ k => XS.iloadN X_1_13.here hx rfl (hb hby d1_15) rfl k) ?_
  show OGo _ _ _ _ (T_1_13.setTop (mkF m 16 #[.val (.ref ob), .val (.int q1), .val (.int q2), .val (.int q3), .val (.int q4)] [(.int q3), (.ref ob)]))
  obtain ⟨T_1_19, h_1_19, X_1_19, e_1_19, W_1_19, st_1_19⟩ := putF X_1_13 hx hZ hown (host := "") (Or.inl (hw _ (List.mem_of_getElem? (i := 18) rfl))) Via.refl e_1_13 f_1_17 f_1_14 (Or.inr ⟨(hw _ (List.mem_of_getElem? (i := 19) rfl)), rfl, hnm⟩) (hw _ (List.mem_of_getElem? (i := 1) rfl)) (ty := .int) (by decide) rfl rfl (g := (mkF m 16 #[.val (.ref ob), .val (.int q1), .val (.int q2), .val (.int q3), .val (.int q4)] [(.int q3), (.ref ob)])) rfl rfl (hb hby d1_16)
  have K_1_19 := K_1_13.wr W_1_19 (Or.inl (List.mem_of_getElem? (i := 0) rfl))
  have f_1_20 := f_1_14.wr W_1_19
  have f_1_21 := f_1_15.other W_1_19 (Or.inr (slot_ne (Or.inr (hw _ (List.mem_of_getElem? (i := 15) rfl))) (Or.inr (hw _ (List.mem_of_getElem? (i := 19) rfl))) (by decide) (t := .int) (t' := .int) (by decide) (by decide)))
  have f_1_22 := f_1_16.other W_1_19 (Or.inr (slot_ne (Or.inr (hw _ (List.mem_of_getElem? (i := 17) rfl))) (Or.inr (hw _ (List.mem_of_getElem? (i := 19) rfl))) (by decide) (t := .int) (t' := .int) (by decide) (by decide)))
  have f_1_23 := f_1_17.same W_1_19
  have f_1_24 := f_1_18.other W_1_19 (Or.inr (slot_ne (Or.inr (hw _ (List.mem_of_getElem? (i := 21) rfl))) (Or.inr (hw _ (List.mem_of_getElem? (i := 19) rfl))) (by decide) (t := .int) (t' := .int) (by decide) (by decide)))
  have Z_1_19 : n0 ≤ h_1_19.size := Nat.le_trans Z_1_13 (Keep.of_wr W_1_19).1
  obtain ⟨lc_1_19, N_1_19, X_1_19⟩ : ∃ L, Fr n0 L ∧ Stand p l e ({ frames := 2, cells := 0, slots := 0, locals := 24 } : Room) s m #[(.ref ob), (.int q1), (.int q2), (.int q3), (.int q4)] below meth c T_1_19 L 0 0 := ⟨_, Fr.snoc X_1_19 N_1_13 g_ob, X_1_19⟩
  refine ogo (fun _ k => st_1_19 _ k) ?_
  show OGo _ _ _ _ (T_1_19.setTop (mkF m 19 #[.val (.ref ob), .val (.int q1), .val (.int q2), .val (.int q3), .val (.int q4)] []))
  refine ogo (fun _ k => XS.aloadN X_1_19.here hx rfl (hb hby d1_19) rfl rfl k) ?_
  show OGo _ _ _ _ (T_1_19.setTop (mkF m 20 #[.val (.ref ob), .val (.int q1), .val (.int q2), .val (.int q3), .val (.int q4)] [(.ref ob)]))
  refine ogo (fun _ k => XS.iload X_1_19.here hx rfl (hb hby d1_20) rfl k) ?_
  show OGo _ _ _ _ (T_1_19.setTop (mkF m 22 #[.val (.ref ob), .val (.int q1), .val (.int q2), .val (.int q3), .val (.int q4)] [(.int q4), (.ref ob)]))
  obtain ⟨T_1_25, h_1_25, X_1_25, e_1_25, W_1_25, st_1_25⟩ := putF X_1_19 hx hZ hown (host := "") (Or.inl (hw _ (List.mem_of_getElem? (i := 20) rfl))) Via.refl e_1_19 f_1_24 f_1_20 (Or.inr ⟨(hw _ (List.mem_of_getElem? (i := 21) rfl)), rfl, hnm⟩) (hw _ (List.mem_of_getElem? (i := 1) rfl)) (ty := .int) (by decide) rfl rfl (g := (mkF m 22 #[.val (.ref ob), .val (.int q1), .val (.int q2), .val (.int q3), .val (.int q4)] [(.int q4), (.ref ob)])) rfl rfl (hb hby d1_22)
  have K_1_25 := K_1_19.wr W_1_25 (Or.inl (List.mem_of_getElem? (i := 0) rfl))
  have f_1_26 := f_1_20.wr W_1_25
  have f_1_27 := f_1_21.other W_1_25 (Or.inr (slot_ne (Or.inr (hw _ (List.mem_of_getElem? (i := 15) rfl))) (Or.inr (hw _ (List.mem_of_getElem? (i := 21) rfl))) (by decide) (t := .int) (t' := .int) (by decide) (by decide)))
  have f_1_28 := f_1_22.other W_1_25 (Or.inr (slot_ne (Or.inr (hw _ (List.mem_of_getElem? (i := 17) rfl))) (Or.inr (hw _ (List.mem_of_getElem? (i := 21) rfl))) (by decide) (t := .int) (t' := .int) (by decide) (by decide)))
  have f_1_29 := f_1_23.other W_1_25 (Or.inr (slot_ne (Or.inr (hw _ (List.mem_of_getElem? (i := 19) rfl))) (Or.inr (hw _ (List.mem_of_getElem? (i := 21) rfl))) (by decide) (t := .int) (t' := .int) (by decide) (by decide)))
  have f_1_30 := f_1_24.same W_1_25
  have Z_1_25 : n0 ≤ h_1_25.size := Nat.le_trans Z_1_19 (Keep.of_wr W_1_25).1
  obtain ⟨lc_1_25, N_1_25, X_1_25⟩ : ∃ L, Fr n0 L ∧ Stand p l e ({ frames := 2, cells := 0, slots := 0, locals := 24 } : Room) s m #[(.ref ob), (.int q1), (.int q2), (.int q3), (.int q4)] below meth c T_1_25 L 0 0 := ⟨_, Fr.snoc X_1_25 N_1_19 g_ob, X_1_25⟩
  refine ogo (fun _ k => st_1_25 _ k) ?_
  show OGo _ _ _ _ (T_1_25.setTop (mkF m 25 #[.val (.ref ob), .val (.int q1), .val (.int q2), .val (.int q3), .val (.int q4)] []))
  exact oretV X_1_25 hx hlk Bd.returns (hb hby d1_25) (by decide) (by decide) (by rw [e_1_25]; exact ⟨rfl, N_1_25, K_1_25, f_1_27, f_1_28, f_1_29, f_1_30⟩)
theorem d4_0 : decode method_3_code 0 = .ok (.iload_n 0, 1) := by decide +kernel
theorem d4_1 : decode method_3_code 1 = .ok (.iload_n 1, 1) := by decide +kernel
theorem d4_2 : decode method_3_code 2 = .ok (.if_icmp .ge 7, 3) := by decide +kernel
theorem d4_5 : decode method_3_code 5 = .ok (.iconst (-1), 1) := by decide +kernel
theorem d4_6 : decode method_3_code 6 = .ok (.goto 4, 3) := by decide +kernel
theorem d4_9 : decode method_3_code 9 = .ok (.iconst 1, 1) := by decide +kernel
theorem d4_10 : decode method_3_code 10 = .ok (.ireturn, 1) := by decide +kernel
theorem pn_4 : plainName "com/example/lean_wiring/leanwiring/CostCompareToPinLaw" = true := by first | (simp [plainName, overriddenIn]; done) | decide +kernel
theorem ef_4 (m : MethodId) (x0 : Int32) (x1 : Int32) : entryFrame m #[(.int x0), (.int x1)] 2 = mkF m 0 #[.val (.int x0), .val (.int x1)] [] := by first | (simp [entryFrame, mkF, argsToLocals, Value.category]; done) | rfl
def cmpF (qa : Int32) (qb : Int32)  : Int32 := (let w_4_2 : Int32 := (if qa < qb then (-1 : Int32) else (1 : Int32)); w_4_2)
set_option maxRecDepth 65536 in
set_option maxHeartbeats 40000000 in
theorem rm4 (l : Launch) (Z : State) (a0 : Array Value) (hw : ∀ d ∈ tables_1, d.before a0 Z = true) (qa : Int32) (qb : Int32)  (h0 : Heap)  :
    OMet l Z (⟨"com/example/lean_wiring/leanwiring/CostCompareToPinLaw", "cmp", "(II)I"⟩ : MethodName) method_3_code 2 (some .int) ({ frames := 0, cells := 0, slots := 0, locals := 0 } : Room) #[(.int qa), (.int qb)] h0 (OPure (some (.int (cmpF qa qb))) h0) := by
  intro ws
  refine MetFree.of_bodySF (plainFor_of_name pn_4) hisR ?_
  intro p e s m args below meth c s₁ Bd hml0 hP hK
  obtain ⟨rfl, hZ, hh⟩ := hP
  have hx := Bd.exec
  have hby := Bd.bytes
  have hml : c.maxLocals = 2 := hml0
  have hown : s.vm.findClass "com/example/lean_wiring/leanwiring/CostCompareToPinLaw" = some m.cls := findClass_of_methodNamed Bd.named
  have hnm := (name_of_methodNamed Bd.named Bd.method).1
  have hlk : meth.locks = false := Bd.notSynchronized
  have X0 : Stand p l e ({ frames := 0, cells := 0, slots := 0, locals := 0 } : Room) s m #[(.int qa), (.int qb)] below meth c s₁ [] 0 0 := Stand.of_body Bd
  have e0 : s₁.heap = h0 := by rw [← hh, Bd.state]; rfl
  refine (?_ : OGo p.tables e below (OFin s (OPure (some (.int (cmpF qa qb))) h0) 0 0) _)
  refine ogo (fun _ k => castTop (ef_4 m qa qb) k) ?_
  show OGo _ _ _ _ (s₁.setTop (mkF m 0 #[.val (.int qa), .val (.int qb)] []))
  refine ogo (fun _ k => XS.iloadN X0.here hx rfl (hb hby d4_0) rfl k) ?_
  show OGo _ _ _ _ (s₁.setTop (mkF m 1 #[.val (.int qa), .val (.int qb)] [(.int qa)]))
  refine ogo (fun _ k => XS.iloadN X0.here hx rfl (hb hby d4_1) rfl k) ?_
  show OGo _ _ _ _ (s₁.setTop (mkF m 2 #[.val (.int qa), .val (.int qb)] [(.int qb), (.int qa)]))
  suffices J_4_3 : ∀ (w_4_2 : Int32) (hw_4_2 : w_4_2 = (if qa < qb then (-1 : Int32) else (1 : Int32))), OGo p.tables e below (OFin s (OPure (some (.int (cmpF qa qb))) h0) 0 0) (s₁.setTop (mkF m 10 #[.val (.int qa), .val (.int qb)] [(.int w_4_2)])) by
    by_cases hc_4_1 : qa < qb
    · refine ogo (fun _ k => XS.icmpNo X0.here hx rfl (hb hby d4_2) rfl (tlt hc_4_1).2.1 k) ?_
      show OGo _ _ _ _ (s₁.setTop (mkF m 5 #[.val (.int qa), .val (.int qb)] []))
      refine ogo (fun _ k => XS.iconst X0.here hx rfl (hb hby d4_5) k) ?_
      show OGo _ _ _ _ (s₁.setTop (mkF m 6 #[.val (.int qa), .val (.int qb)] [(.int (-1 : Int32))]))
      refine ogo (fun _ k => XS.goto X0.here hx rfl (pc0 := 6) (pc' := 10) rfl (hb hby d4_6) (by decide) (by decide) k) ?_
      show OGo _ _ _ _ (s₁.setTop (mkF m 10 #[.val (.int qa), .val (.int qb)] [(.int (-1 : Int32))]))
      exact J_4_3 _ (if_pos hc_4_1).symm
    · refine ogo (fun _ k => XS.icmpYes X0.here hx rfl (pc0 := 2) (pc' := 9) rfl (hb hby d4_2) rfl (flt hc_4_1).2.1 (by decide) (by decide) k) ?_
      show OGo _ _ _ _ (s₁.setTop (mkF m 9 #[.val (.int qa), .val (.int qb)] []))
      refine ogo (fun _ k => XS.iconst X0.here hx rfl (hb hby d4_9) k) ?_
      show OGo _ _ _ _ (s₁.setTop (mkF m 10 #[.val (.int qa), .val (.int qb)] [(.int (1 : Int32))]))
      exact J_4_3 _ (if_neg hc_4_1).symm
  intro w_4_2 hw_4_2
  exact oret X0 hx hlk Bd.returns rfl (Or.inl ⟨rfl, Or.inl rfl, _, rfl⟩) (hb hby d4_10) (by decide) (by decide) ⟨by subst_vars; rfl, rfl, e0⟩
theorem d7_0 : decode method_2_code 0 = .ok (.iload_n 0, 1) := by decide +kernel
theorem d7_1 : decode method_2_code 1 = .ok (.ifCond .ge 7, 3) := by decide +kernel
theorem d7_4 : decode method_2_code 4 = .ok (.iconst (-1), 1) := by decide +kernel
theorem d7_5 : decode method_2_code 5 = .ok (.goto 12, 3) := by decide +kernel
theorem d7_8 : decode method_2_code 8 = .ok (.iload_n 0, 1) := by decide +kernel
theorem d7_9 : decode method_2_code 9 = .ok (.ifCond .le 7, 3) := by decide +kernel
theorem d7_12 : decode method_2_code 12 = .ok (.iconst 1, 1) := by decide +kernel
theorem d7_13 : decode method_2_code 13 = .ok (.goto 4, 3) := by decide +kernel
theorem d7_16 : decode method_2_code 16 = .ok (.iconst 0, 1) := by decide +kernel
theorem d7_17 : decode method_2_code 17 = .ok (.ireturn, 1) := by decide +kernel
theorem pn_7 : plainName "com/example/lean_wiring/leanwiring/CostCompareToPinLaw" = true := by first | (simp [plainName, overriddenIn]; done) | decide +kernel
theorem ef_7 (m : MethodId) (x0 : Int32) : entryFrame m #[(.int x0)] 1 = mkF m 0 #[.val (.int x0)] [] := by first | (simp [entryFrame, mkF, argsToLocals, Value.category]; done) | rfl
def signF (qa : Int32)  : Int32 := (let w_7_6 : Int32 := (if qa < (0 : Int32) then (-1 : Int32) else (if (0 : Int32) < qa then (1 : Int32) else (0 : Int32))); w_7_6)
set_option maxRecDepth 65536 in
set_option maxHeartbeats 40000000 in
theorem rm7 (l : Launch) (Z : State) (a0 : Array Value) (hw : ∀ d ∈ tables_1, d.before a0 Z = true) (qa : Int32)  (h0 : Heap)  :
    OMet l Z (⟨"com/example/lean_wiring/leanwiring/CostCompareToPinLaw", "sign", "(I)I"⟩ : MethodName) method_2_code 1 (some .int) ({ frames := 0, cells := 0, slots := 0, locals := 0 } : Room) #[(.int qa)] h0 (OPure (some (.int (signF qa))) h0) := by
  intro ws
  refine MetFree.of_bodySF (plainFor_of_name pn_7) hisR ?_
  intro p e s m args below meth c s₁ Bd hml0 hP hK
  obtain ⟨rfl, hZ, hh⟩ := hP
  have hx := Bd.exec
  have hby := Bd.bytes
  have hml : c.maxLocals = 1 := hml0
  have hown : s.vm.findClass "com/example/lean_wiring/leanwiring/CostCompareToPinLaw" = some m.cls := findClass_of_methodNamed Bd.named
  have hnm := (name_of_methodNamed Bd.named Bd.method).1
  have hlk : meth.locks = false := Bd.notSynchronized
  have X0 : Stand p l e ({ frames := 0, cells := 0, slots := 0, locals := 0 } : Room) s m #[(.int qa)] below meth c s₁ [] 0 0 := Stand.of_body Bd
  have e0 : s₁.heap = h0 := by rw [← hh, Bd.state]; rfl
  refine (?_ : OGo p.tables e below (OFin s (OPure (some (.int (signF qa))) h0) 0 0) _)
  refine ogo (fun _ k => castTop (ef_7 m qa) k) ?_
  show OGo _ _ _ _ (s₁.setTop (mkF m 0 #[.val (.int qa)] []))
  refine ogo (fun _ k => XS.iloadN X0.here hx rfl (hb hby d7_0) rfl k) ?_
  show OGo _ _ _ _ (s₁.setTop (mkF m 1 #[.val (.int qa)] [(.int qa)]))
  suffices J_7_7 : ∀ (w_7_6 : Int32) (hw_7_6 : w_7_6 = (if qa < (0 : Int32) then (-1 : Int32) else (if (0 : Int32) < qa then (1 : Int32) else (0 : Int32)))), OGo p.tables e below (OFin s (OPure (some (.int (signF qa))) h0) 0 0) (s₁.setTop (mkF m 17 #[.val (.int qa)] [(.int w_7_6)])) by
    by_cases hc_7_1 : qa < (0 : Int32)
    · refine ogo (fun _ k => XS.ifNo X0.here hx rfl (hb hby d7_1) rfl ((if0 _ _).trans (tlt hc_7_1).2.1) k) ?_
      show OGo _ _ _ _ (s₁.setTop (mkF m 4 #[.val (.int qa)] []))
      refine ogo (fun _ k => XS.iconst X0.here hx rfl (hb hby d7_4) k) ?_
      show OGo _ _ _ _ (s₁.setTop (mkF m 5 #[.val (.int qa)] [(.int (-1 : Int32))]))
      refine ogo (fun _ k => XS.goto X0.here hx rfl (pc0 := 5) (pc' := 17) rfl (hb hby d7_5) (by decide) (by decide) k) ?_
      show OGo _ _ _ _ (s₁.setTop (mkF m 17 #[.val (.int qa)] [(.int (-1 : Int32))]))
      exact J_7_7 _ (if_pos hc_7_1).symm
    · refine ogo (fun _ k => XS.ifYes X0.here hx rfl (pc0 := 1) (pc' := 8) rfl (hb hby d7_1) rfl ((if0 _ _).trans (flt hc_7_1).2.1) (by decide) (by decide) k) ?_
      show OGo _ _ _ _ (s₁.setTop (mkF m 8 #[.val (.int qa)] []))
      refine ogo (fun _ k => XS.iloadN X0.here hx rfl (hb hby d7_8) rfl k) ?_
      show OGo _ _ _ _ (s₁.setTop (mkF m 9 #[.val (.int qa)] [(.int qa)]))
      suffices J_7_4 : ∀ (w_7_3 : Int32) (hw_7_3 : w_7_3 = (if (0 : Int32) < qa then (1 : Int32) else (0 : Int32))), OGo p.tables e below (OFin s (OPure (some (.int (signF qa))) h0) 0 0) (s₁.setTop (mkF m 17 #[.val (.int qa)] [(.int w_7_3)])) by
        by_cases hc_7_2 : (0 : Int32) < qa
        · refine ogo (fun _ k => XS.ifNo X0.here hx rfl (hb hby d7_9) rfl ((if0 _ _).trans (tlt hc_7_2).2.2.2) k) ?_
          show OGo _ _ _ _ (s₁.setTop (mkF m 12 #[.val (.int qa)] []))
          refine ogo (fun _ k => XS.iconst X0.here hx rfl (hb hby d7_12) k) ?_
          show OGo _ _ _ _ (s₁.setTop (mkF m 13 #[.val (.int qa)] [(.int (1 : Int32))]))
          refine ogo (fun _ k => XS.goto X0.here hx rfl (pc0 := 13) (pc' := 17) rfl (hb hby d7_13) (by decide) (by decide) k) ?_
          show OGo _ _ _ _ (s₁.setTop (mkF m 17 #[.val (.int qa)] [(.int (1 : Int32))]))
          exact J_7_4 _ (if_pos hc_7_2).symm
        · refine ogo (fun _ k => XS.ifYes X0.here hx rfl (pc0 := 9) (pc' := 16) rfl (hb hby d7_9) rfl ((if0 _ _).trans (flt hc_7_2).2.2.2) (by decide) (by decide) k) ?_
          show OGo _ _ _ _ (s₁.setTop (mkF m 16 #[.val (.int qa)] []))
          refine ogo (fun _ k => XS.iconst X0.here hx rfl (hb hby d7_16) k) ?_
          show OGo _ _ _ _ (s₁.setTop (mkF m 17 #[.val (.int qa)] [(.int (0 : Int32))]))
          exact J_7_4 _ (if_neg hc_7_2).symm
      intro w_7_3 hw_7_3
      subst hw_7_3
      exact J_7_7 _ (if_neg hc_7_1).symm
  intro w_7_6 hw_7_6
  exact oret X0 hx hlk Bd.returns rfl (Or.inl ⟨rfl, Or.inl rfl, _, rfl⟩) (hb hby d7_17) (by decide) (by decide) ⟨by subst_vars; rfl, rfl, e0⟩
theorem d6_0 : decode jdk_33_method_40_code 0 = .ok (.iload_n 0, 1) := by decide +kernel
theorem d6_1 : decode jdk_33_method_40_code 1 = .ok (.iload_n 1, 1) := by decide +kernel
theorem d6_2 : decode jdk_33_method_40_code 2 = .ok (.if_icmp .ge 7, 3) := by decide +kernel
theorem d6_5 : decode jdk_33_method_40_code 5 = .ok (.iconst (-1), 1) := by decide +kernel
theorem d6_6 : decode jdk_33_method_40_code 6 = .ok (.goto 13, 3) := by decide +kernel
theorem d6_9 : decode jdk_33_method_40_code 9 = .ok (.iload_n 0, 1) := by decide +kernel
theorem d6_10 : decode jdk_33_method_40_code 10 = .ok (.iload_n 1, 1) := by decide +kernel
theorem d6_11 : decode jdk_33_method_40_code 11 = .ok (.if_icmp .ne 7, 3) := by decide +kernel
theorem d6_14 : decode jdk_33_method_40_code 14 = .ok (.iconst 0, 1) := by decide +kernel
theorem d6_15 : decode jdk_33_method_40_code 15 = .ok (.goto 4, 3) := by decide +kernel
theorem d6_18 : decode jdk_33_method_40_code 18 = .ok (.iconst 1, 1) := by decide +kernel
theorem d6_19 : decode jdk_33_method_40_code 19 = .ok (.ireturn, 1) := by decide +kernel
theorem pn_6 : plainName "java/lang/Integer" = true := by first | (simp [plainName, overriddenIn]; done) | decide +kernel
theorem ef_6 (m : MethodId) (x0 : Int32) (x1 : Int32) : entryFrame m #[(.int x0), (.int x1)] 2 = mkF m 0 #[.val (.int x0), .val (.int x1)] [] := by first | (simp [entryFrame, mkF, argsToLocals, Value.category]; done) | rfl
def compareF (qa : Int32) (qb : Int32)  : Int32 := (let w_6_6 : Int32 := (if qa < qb then (-1 : Int32) else (if qa = qb then (0 : Int32) else (1 : Int32))); w_6_6)
set_option maxRecDepth 65536 in
set_option maxHeartbeats 40000000 in
theorem rm6 (l : Launch) (Z : State) (a0 : Array Value) (hw : ∀ d ∈ tables_1, d.before a0 Z = true) (qa : Int32) (qb : Int32)  (h0 : Heap)  :
    OMet l Z (⟨"java/lang/Integer", "compare", "(II)I"⟩ : MethodName) jdk_33_method_40_code 2 (some .int) ({ frames := 0, cells := 0, slots := 0, locals := 0 } : Room) #[(.int qa), (.int qb)] h0 (OPure (some (.int (compareF qa qb))) h0) := by
  intro ws
  refine MetFree.of_bodySF (plainFor_of_name pn_6) hisR ?_
  intro p e s m args below meth c s₁ Bd hml0 hP hK
  obtain ⟨rfl, hZ, hh⟩ := hP
  have hx := Bd.exec
  have hby := Bd.bytes
  have hml : c.maxLocals = 2 := hml0
  have hown : s.vm.findClass "java/lang/Integer" = some m.cls := findClass_of_methodNamed Bd.named
  have hnm := (name_of_methodNamed Bd.named Bd.method).1
  have hlk : meth.locks = false := Bd.notSynchronized
  have X0 : Stand p l e ({ frames := 0, cells := 0, slots := 0, locals := 0 } : Room) s m #[(.int qa), (.int qb)] below meth c s₁ [] 0 0 := Stand.of_body Bd
  have e0 : s₁.heap = h0 := by rw [← hh, Bd.state]; rfl
  refine (?_ : OGo p.tables e below (OFin s (OPure (some (.int (compareF qa qb))) h0) 0 0) _)
  refine ogo (fun _ k => castTop (ef_6 m qa qb) k) ?_
  show OGo _ _ _ _ (s₁.setTop (mkF m 0 #[.val (.int qa), .val (.int qb)] []))
  refine ogo (fun _ k => XS.iloadN X0.here hx rfl (hb hby d6_0) rfl k) ?_
  show OGo _ _ _ _ (s₁.setTop (mkF m 1 #[.val (.int qa), .val (.int qb)] [(.int qa)]))
  refine ogo (fun _ k => XS.iloadN X0.here hx rfl (hb hby d6_1) rfl k) ?_
  show OGo _ _ _ _ (s₁.setTop (mkF m 2 #[.val (.int qa), .val (.int qb)] [(.int qb), (.int qa)]))
  suffices J_6_7 : ∀ (w_6_6 : Int32) (hw_6_6 : w_6_6 = (if qa < qb then (-1 : Int32) else (if qa = qb then (0 : Int32) else (1 : Int32)))), OGo p.tables e below (OFin s (OPure (some (.int (compareF qa qb))) h0) 0 0) (s₁.setTop (mkF m 19 #[.val (.int qa), .val (.int qb)] [(.int w_6_6)])) by
    by_cases hc_6_1 : qa < qb
    · refine ogo (fun _ k => XS.icmpNo X0.here hx rfl (hb hby d6_2) rfl (tlt hc_6_1).2.1 k) ?_
      show OGo _ _ _ _ (s₁.setTop (mkF m 5 #[.val (.int qa), .val (.int qb)] []))
      refine ogo (fun _ k => XS.iconst X0.here hx rfl (hb hby d6_5) k) ?_
      show OGo _ _ _ _ (s₁.setTop (mkF m 6 #[.val (.int qa), .val (.int qb)] [(.int (-1 : Int32))]))
      refine ogo (fun _ k => XS.goto X0.here hx rfl (pc0 := 6) (pc' := 19) rfl (hb hby d6_6) (by decide) (by decide) k) ?_
      show OGo _ _ _ _ (s₁.setTop (mkF m 19 #[.val (.int qa), .val (.int qb)] [(.int (-1 : Int32))]))
      exact J_6_7 _ (if_pos hc_6_1).symm
    · refine ogo (fun _ k => XS.icmpYes X0.here hx rfl (pc0 := 2) (pc' := 9) rfl (hb hby d6_2) rfl (flt hc_6_1).2.1 (by decide) (by decide) k) ?_
      show OGo _ _ _ _ (s₁.setTop (mkF m 9 #[.val (.int qa), .val (.int qb)] []))
      refine ogo (fun _ k => XS.iloadN X0.here hx rfl (hb hby d6_9) rfl k) ?_
      show OGo _ _ _ _ (s₁.setTop (mkF m 10 #[.val (.int qa), .val (.int qb)] [(.int qa)]))
      refine ogo (fun _ k => XS.iloadN X0.here hx rfl (hb hby d6_10) rfl k) ?_
      show OGo _ _ _ _ (s₁.setTop (mkF m 11 #[.val (.int qa), .val (.int qb)] [(.int qb), (.int qa)]))
      suffices J_6_4 : ∀ (w_6_3 : Int32) (hw_6_3 : w_6_3 = (if qa = qb then (0 : Int32) else (1 : Int32))), OGo p.tables e below (OFin s (OPure (some (.int (compareF qa qb))) h0) 0 0) (s₁.setTop (mkF m 19 #[.val (.int qa), .val (.int qb)] [(.int w_6_3)])) by
        by_cases hc_6_2 : qa = qb
        · refine ogo (fun _ k => XS.icmpNo X0.here hx rfl (hb hby d6_11) rfl (teq hc_6_2).2 k) ?_
          show OGo _ _ _ _ (s₁.setTop (mkF m 14 #[.val (.int qa), .val (.int qb)] []))
          refine ogo (fun _ k => XS.iconst X0.here hx rfl (hb hby d6_14) k) ?_
          show OGo _ _ _ _ (s₁.setTop (mkF m 15 #[.val (.int qa), .val (.int qb)] [(.int (0 : Int32))]))
          refine ogo (fun _ k => XS.goto X0.here hx rfl (pc0 := 15) (pc' := 19) rfl (hb hby d6_15) (by decide) (by decide) k) ?_
          show OGo _ _ _ _ (s₁.setTop (mkF m 19 #[.val (.int qa), .val (.int qb)] [(.int (0 : Int32))]))
          exact J_6_4 _ (if_pos hc_6_2).symm
        · refine ogo (fun _ k => XS.icmpYes X0.here hx rfl (pc0 := 11) (pc' := 18) rfl (hb hby d6_11) rfl (feq hc_6_2).2 (by decide) (by decide) k) ?_
          show OGo _ _ _ _ (s₁.setTop (mkF m 18 #[.val (.int qa), .val (.int qb)] []))
          refine ogo (fun _ k => XS.iconst X0.here hx rfl (hb hby d6_18) k) ?_
          show OGo _ _ _ _ (s₁.setTop (mkF m 19 #[.val (.int qa), .val (.int qb)] [(.int (1 : Int32))]))
          exact J_6_4 _ (if_neg hc_6_2).symm
      intro w_6_3 hw_6_3
      subst hw_6_3
      exact J_6_7 _ (if_neg hc_6_1).symm
  intro w_6_6 hw_6_6
  exact oret X0 hx hlk Bd.returns rfl (Or.inl ⟨rfl, Or.inl rfl, _, rfl⟩) (hb hby d6_19) (by decide) (by decide) ⟨by subst_vars; rfl, rfl, e0⟩
theorem d5_0 : decode prog_103_method_6_code 0 = .ok (.aload_n 0, 1) := by decide +kernel
theorem d5_1 : decode prog_103_method_6_code 1 = .ok (.getfield 7, 3) := by decide +kernel
theorem d5_4 : decode prog_103_method_6_code 4 = .ok (.aload_n 1, 1) := by decide +kernel
theorem d5_5 : decode prog_103_method_6_code 5 = .ok (.getfield 7, 3) := by decide +kernel
theorem d5_8 : decode prog_103_method_6_code 8 = .ok (.invokestatic 43, 3) := by decide +kernel
theorem d5_11 : decode prog_103_method_6_code 11 = .ok (.istore_n 2, 1) := by decide +kernel
theorem d5_12 : decode prog_103_method_6_code 12 = .ok (.iload_n 2, 1) := by decide +kernel
theorem d5_13 : decode prog_103_method_6_code 13 = .ok (.ifCond .ne 15, 3) := by decide +kernel
theorem d5_16 : decode prog_103_method_6_code 16 = .ok (.aload_n 0, 1) := by decide +kernel
theorem d5_17 : decode prog_103_method_6_code 17 = .ok (.getfield 13, 3) := by decide +kernel
theorem d5_20 : decode prog_103_method_6_code 20 = .ok (.aload_n 1, 1) := by decide +kernel
theorem d5_21 : decode prog_103_method_6_code 21 = .ok (.getfield 13, 3) := by decide +kernel
theorem d5_24 : decode prog_103_method_6_code 24 = .ok (.invokestatic 43, 3) := by decide +kernel
theorem d5_27 : decode prog_103_method_6_code 27 = .ok (.istore_n 2, 1) := by decide +kernel
theorem d5_28 : decode prog_103_method_6_code 28 = .ok (.iload_n 2, 1) := by decide +kernel
theorem d5_29 : decode prog_103_method_6_code 29 = .ok (.ifCond .ne 15, 3) := by decide +kernel
theorem d5_32 : decode prog_103_method_6_code 32 = .ok (.aload_n 0, 1) := by decide +kernel
theorem d5_33 : decode prog_103_method_6_code 33 = .ok (.getfield 16, 3) := by decide +kernel
theorem d5_36 : decode prog_103_method_6_code 36 = .ok (.aload_n 1, 1) := by decide +kernel
theorem d5_37 : decode prog_103_method_6_code 37 = .ok (.getfield 16, 3) := by decide +kernel
theorem d5_40 : decode prog_103_method_6_code 40 = .ok (.invokestatic 43, 3) := by decide +kernel
theorem d5_43 : decode prog_103_method_6_code 43 = .ok (.istore_n 2, 1) := by decide +kernel
theorem d5_44 : decode prog_103_method_6_code 44 = .ok (.iload_n 2, 1) := by decide +kernel
theorem d5_45 : decode prog_103_method_6_code 45 = .ok (.ifCond .eq 7, 3) := by decide +kernel
theorem d5_48 : decode prog_103_method_6_code 48 = .ok (.iload_n 2, 1) := by decide +kernel
theorem d5_49 : decode prog_103_method_6_code 49 = .ok (.goto 14, 3) := by decide +kernel
theorem d5_52 : decode prog_103_method_6_code 52 = .ok (.aload_n 0, 1) := by decide +kernel
theorem d5_53 : decode prog_103_method_6_code 53 = .ok (.getfield 19, 3) := by decide +kernel
theorem d5_56 : decode prog_103_method_6_code 56 = .ok (.aload_n 1, 1) := by decide +kernel
theorem d5_57 : decode prog_103_method_6_code 57 = .ok (.getfield 19, 3) := by decide +kernel
theorem d5_60 : decode prog_103_method_6_code 60 = .ok (.invokestatic 43, 3) := by decide +kernel
theorem d5_63 : decode prog_103_method_6_code 63 = .ok (.ireturn, 1) := by decide +kernel
theorem pn_5 : plainName "com/example/lean_wiring/leanwiring/Offer$Cost" = true := by first | (simp [plainName, overriddenIn]; done) | decide +kernel
theorem ef_5 (m : MethodId) (x0 : Addr) (x1 : Addr) : entryFrame m #[(.ref x0), (.ref x1)] 3 = mkF m 0 #[.val (.ref x0), .val (.ref x1), .unset] [] := by first | (simp [entryFrame, mkF, argsToLocals, Value.category]; done) | rfl
theorem pd__II_I : parseMethodDescriptor "(II)I" = some ⟨[.int, .int], some .int⟩ := by decide +kernel
def cttF  (x0 : Int32) (y0 : Int32) (x1 : Int32) (y1 : Int32) (x2 : Int32) (y2 : Int32) (x3 : Int32) (y3 : Int32) : Int32 := (let w_5_8 : Int32 := (if (compareF x0 y0) = (0 : Int32) then (compareF x1 y1) else (compareF x0 y0)); (let w_5_15 : Int32 := (if w_5_8 = (0 : Int32) then (compareF x2 y2) else w_5_8); (let w_5_22 : Int32 := (if w_5_15 = (0 : Int32) then (compareF x3 y3) else w_5_15); w_5_22)))
set_option maxRecDepth 65536 in
set_option maxHeartbeats 40000000 in
theorem rm5 (l : Launch) (Z : State) (a0 : Array Value) (hw : ∀ d ∈ tables_1, d.before a0 Z = true) (oa : Addr) (oc : Addr) (x0 : Int32) (y0 : Int32) (x1 : Int32) (y1 : Int32) (x2 : Int32) (y2 : Int32) (x3 : Int32) (y3 : Int32) (h0 : Heap) (P0 : Fld Z h0 oa "com/example/lean_wiring/leanwiring/Offer$Cost" "checks" "I" (.int x0)) (P1 : Fld Z h0 oc "com/example/lean_wiring/leanwiring/Offer$Cost" "checks" "I" (.int y0)) (P2 : Fld Z h0 oa "com/example/lean_wiring/leanwiring/Offer$Cost" "copies" "I" (.int x1)) (P3 : Fld Z h0 oc "com/example/lean_wiring/leanwiring/Offer$Cost" "copies" "I" (.int y1)) (P4 : Fld Z h0 oa "com/example/lean_wiring/leanwiring/Offer$Cost" "conversions" "I" (.int x2)) (P5 : Fld Z h0 oc "com/example/lean_wiring/leanwiring/Offer$Cost" "conversions" "I" (.int y2)) (P6 : Fld Z h0 oa "com/example/lean_wiring/leanwiring/Offer$Cost" "supertypes" "I" (.int x3)) (P7 : Fld Z h0 oc "com/example/lean_wiring/leanwiring/Offer$Cost" "supertypes" "I" (.int y3)) :
    OMet l Z (⟨"com/example/lean_wiring/leanwiring/Offer$Cost", "compareTo", "(Lcom/example/lean_wiring/leanwiring/Offer$Cost;)I"⟩ : MethodName) prog_103_method_6_code 3 (some .int) ({ frames := 1, cells := 0, slots := 0, locals := 13 } : Room) #[(.ref oa), (.ref oc)] h0 (OPure (some (.int (cttF x0 y0 x1 y1 x2 y2 x3 y3))) h0) := by
  intro ws
  refine MetFree.of_bodySF (plainFor_of_name pn_5) hisR ?_
  intro p e s m args below meth c s₁ Bd hml0 hP hK
  obtain ⟨rfl, hZ, hh⟩ := hP
  have hx := Bd.exec
  have hby := Bd.bytes
  have hml : c.maxLocals = 3 := hml0
  have hown : s.vm.findClass "com/example/lean_wiring/leanwiring/Offer$Cost" = some m.cls := findClass_of_methodNamed Bd.named
  have hnm := (name_of_methodNamed Bd.named Bd.method).1
  have hlk : meth.locks = false := Bd.notSynchronized
  have X0 : Stand p l e ({ frames := 1, cells := 0, slots := 0, locals := 13 } : Room) s m #[(.ref oa), (.ref oc)] below meth c s₁ [] 0 0 := Stand.of_body Bd
  have e0 : s₁.heap = h0 := by rw [← hh, Bd.state]; rfl
  refine (?_ : OGo p.tables e below (OFin s (OPure (some (.int (cttF x0 y0 x1 y1 x2 y2 x3 y3))) h0) 0 0) _)
  refine ogo (fun _ k => castTop (ef_5 m oa oc) k) ?_
  show OGo _ _ _ _ (s₁.setTop (mkF m 0 #[.val (.ref oa), .val (.ref oc), .unset] []))
  refine ogo (fun _ k => XS.aloadN X0.here hx rfl (hb hby d5_0) rfl rfl k) ?_
  show OGo _ _ _ _ (s₁.setTop (mkF m 1 #[.val (.ref oa), .val (.ref oc), .unset] [(.ref oa)]))
  obtain ⟨T_5_1, X_5_1, e_5_1, st_5_1⟩ := getF X0 hx hZ hown (host := "") (Or.inl (hw _ (List.mem_of_getElem? (i := 14) rfl))) Via.refl e0 P0 (g := (mkF m 1 #[.val (.ref oa), .val (.ref oc), .unset] [(.ref oa)])) rfl rfl (hb hby d5_1)
  refine ogo (fun _ k => st_5_1 _ k) ?_
  show OGo _ _ _ _ (T_5_1.setTop (mkF m 4 #[.val (.ref oa), .val (.ref oc), .unset] [(.int x0)]))
  refine ogo (fun _ k => XS.aloadN X_5_1.here hx rfl (hb hby d5_4) rfl rfl k) ?_
  show OGo _ _ _ _ (T_5_1.setTop (mkF m 5 #[.val (.ref oa), .val (.ref oc), .unset] [(.ref oc), (.int x0)]))
  obtain ⟨T_5_2, X_5_2, e_5_2, st_5_2⟩ := getF X_5_1 hx hZ hown (host := "") (Or.inl (hw _ (List.mem_of_getElem? (i := 14) rfl))) Via.refl e_5_1 P1 (g := (mkF m 5 #[.val (.ref oa), .val (.ref oc), .unset] [(.ref oc), (.int x0)])) rfl rfl (hb hby d5_5)
  refine ogo (fun _ k => st_5_2 _ k) ?_
  show OGo _ _ _ _ (T_5_2.setTop (mkF m 8 #[.val (.ref oa), .val (.ref oc), .unset] [(.int y0), (.int x0)]))
  obtain ⟨T_5_3, X_5_3, e_5_3, st_5_3⟩ := ocallP X_5_2 hx hZ e_5_2 (rm6 l Z a0 hw x0 y0  h0 ) hown (hw _ (List.mem_of_getElem? (i := 31) rfl)) (hw _ (List.mem_of_getElem? (i := 32) rfl)) (hw _ (List.mem_of_getElem? (i := 33) rfl)) (hw _ (List.mem_of_getElem? (i := 34) rfl)) (by decide) (g := (mkF m 8 #[.val (.ref oa), .val (.ref oc), .unset] [(.int y0), (.int x0)])) rfl (by rw [hml]; rfl) [(.int x0), (.int y0)] [] rfl (lenOf pd__II_I rfl) rfl (hb hby d5_8) 0 (by show 2 * 0 + _ ≤ _; exact Nat.le_of_eq rfl) (by decide) (by decide) (by decide) (by decide) rfl rfl
  refine ogo (fun _ k => st_5_3 _ k) ?_
  show OGo _ _ _ _ (T_5_3.setTop (mkF m 11 #[.val (.ref oa), .val (.ref oc), .unset] [(.int (compareF x0 y0))]))
  refine ogo (fun _ k => XS.istoreN X_5_3.here hx rfl (hb hby d5_11) rfl (l' := #[.val (.ref oa), .val (.ref oc), .val (.int (compareF x0 y0))]) rfl k) ?_
  show OGo _ _ _ _ (T_5_3.setTop (mkF m 12 #[.val (.ref oa), .val (.ref oc), .val (.int (compareF x0 y0))] []))
  refine ogo (fun _ k => XS.iloadN X_5_3.here hx rfl (hb hby d5_12) rfl k) ?_
  show OGo _ _ _ _ (T_5_3.setTop (mkF m 13 #[.val (.ref oa), .val (.ref oc), .val (.int (compareF x0 y0))] [(.int (compareF x0 y0))]))
  suffices J_5_9 : ∀ (w_5_8 : Int32) (hw_5_8 : w_5_8 = (if (compareF x0 y0) = (0 : Int32) then (compareF x1 y1) else (compareF x0 y0))) (T_5_10 : State) (X_5_10 : Stand p l e ({ frames := 1, cells := 0, slots := 0, locals := 13 } : Room) s m #[(.ref oa), (.ref oc)] below meth c T_5_10 [] 0 0) (e_5_10 : T_5_10.heap = h0), OGo p.tables e below (OFin s (OPure (some (.int (cttF x0 y0 x1 y1 x2 y2 x3 y3))) h0) 0 0) (T_5_10.setTop (mkF m 28 #[.val (.ref oa), .val (.ref oc), .val (.int w_5_8)] [])) by
    by_cases hc_5_4 : (compareF x0 y0) = (0 : Int32)
    · refine ogo (fun _ k => XS.ifNo X_5_3.here hx rfl (hb hby d5_13) rfl ((if0 _ _).trans (teq hc_5_4).2) k) ?_
      show OGo _ _ _ _ (T_5_3.setTop (mkF m 16 #[.val (.ref oa), .val (.ref oc), .val (.int (compareF x0 y0))] []))
      refine ogo (fun _ k => XS.aloadN X_5_3.here hx rfl (hb hby d5_16) rfl rfl k) ?_
      show OGo _ _ _ _ (T_5_3.setTop (mkF m 17 #[.val (.ref oa), .val (.ref oc), .val (.int (compareF x0 y0))] [(.ref oa)]))
      obtain ⟨T_5_5, X_5_5, e_5_5, st_5_5⟩ := getF X_5_3 hx hZ hown (host := "") (Or.inl (hw _ (List.mem_of_getElem? (i := 16) rfl))) Via.refl e_5_3 P2 (g := (mkF m 17 #[.val (.ref oa), .val (.ref oc), .val (.int (compareF x0 y0))] [(.ref oa)])) rfl rfl (hb hby d5_17)
      refine ogo (fun _ k => st_5_5 _ k) ?_
      show OGo _ _ _ _ (T_5_5.setTop (mkF m 20 #[.val (.ref oa), .val (.ref oc), .val (.int (compareF x0 y0))] [(.int x1)]))
      refine ogo (fun _ k => XS.aloadN X_5_5.here hx rfl (hb hby d5_20) rfl rfl k) ?_
      show OGo _ _ _ _ (T_5_5.setTop (mkF m 21 #[.val (.ref oa), .val (.ref oc), .val (.int (compareF x0 y0))] [(.ref oc), (.int x1)]))
      obtain ⟨T_5_6, X_5_6, e_5_6, st_5_6⟩ := getF X_5_5 hx hZ hown (host := "") (Or.inl (hw _ (List.mem_of_getElem? (i := 16) rfl))) Via.refl e_5_5 P3 (g := (mkF m 21 #[.val (.ref oa), .val (.ref oc), .val (.int (compareF x0 y0))] [(.ref oc), (.int x1)])) rfl rfl (hb hby d5_21)
      refine ogo (fun _ k => st_5_6 _ k) ?_
      show OGo _ _ _ _ (T_5_6.setTop (mkF m 24 #[.val (.ref oa), .val (.ref oc), .val (.int (compareF x0 y0))] [(.int y1), (.int x1)]))
      obtain ⟨T_5_7, X_5_7, e_5_7, st_5_7⟩ := ocallP X_5_6 hx hZ e_5_6 (rm6 l Z a0 hw x1 y1  h0 ) hown (hw _ (List.mem_of_getElem? (i := 31) rfl)) (hw _ (List.mem_of_getElem? (i := 32) rfl)) (hw _ (List.mem_of_getElem? (i := 33) rfl)) (hw _ (List.mem_of_getElem? (i := 34) rfl)) (by decide) (g := (mkF m 24 #[.val (.ref oa), .val (.ref oc), .val (.int (compareF x0 y0))] [(.int y1), (.int x1)])) rfl (by rw [hml]; rfl) [(.int x1), (.int y1)] [] rfl (lenOf pd__II_I rfl) rfl (hb hby d5_24) 0 (by show 2 * 0 + _ ≤ _; exact Nat.le_of_eq rfl) (by decide) (by decide) (by decide) (by decide) rfl rfl
      refine ogo (fun _ k => st_5_7 _ k) ?_
      show OGo _ _ _ _ (T_5_7.setTop (mkF m 27 #[.val (.ref oa), .val (.ref oc), .val (.int (compareF x0 y0))] [(.int (compareF x1 y1))]))
      refine ogo (fun _ k => XS.istoreN X_5_7.here hx rfl (hb hby d5_27) rfl (l' := #[.val (.ref oa), .val (.ref oc), .val (.int (compareF x1 y1))]) rfl k) ?_
      show OGo _ _ _ _ (T_5_7.setTop (mkF m 28 #[.val (.ref oa), .val (.ref oc), .val (.int (compareF x1 y1))] []))
      exact J_5_9 _ (if_pos hc_5_4).symm _ X_5_7 e_5_7
    · refine ogo (fun _ k => XS.ifYes X_5_3.here hx rfl (pc0 := 13) (pc' := 28) rfl (hb hby d5_13) rfl ((if0 _ _).trans (feq hc_5_4).2) (by decide) (by decide) k) ?_
      show OGo _ _ _ _ (T_5_3.setTop (mkF m 28 #[.val (.ref oa), .val (.ref oc), .val (.int (compareF x0 y0))] []))
      exact J_5_9 _ (if_neg hc_5_4).symm _ X_5_3 e_5_3
  intro w_5_8 hw_5_8 T_5_10 X_5_10 e_5_10
  refine ogo (fun _ k => XS.iloadN X_5_10.here hx rfl (hb hby d5_28) rfl k) ?_
  show OGo _ _ _ _ (T_5_10.setTop (mkF m 29 #[.val (.ref oa), .val (.ref oc), .val (.int w_5_8)] [(.int w_5_8)]))
  suffices J_5_16 : ∀ (w_5_15 : Int32) (hw_5_15 : w_5_15 = (if w_5_8 = (0 : Int32) then (compareF x2 y2) else w_5_8)) (T_5_17 : State) (X_5_17 : Stand p l e ({ frames := 1, cells := 0, slots := 0, locals := 13 } : Room) s m #[(.ref oa), (.ref oc)] below meth c T_5_17 [] 0 0) (e_5_17 : T_5_17.heap = h0), OGo p.tables e below (OFin s (OPure (some (.int (cttF x0 y0 x1 y1 x2 y2 x3 y3))) h0) 0 0) (T_5_17.setTop (mkF m 44 #[.val (.ref oa), .val (.ref oc), .val (.int w_5_15)] [])) by
    by_cases hc_5_11 : w_5_8 = (0 : Int32)
    · refine ogo (fun _ k => XS.ifNo X_5_10.here hx rfl (hb hby d5_29) rfl ((if0 _ _).trans (teq hc_5_11).2) k) ?_
      show OGo _ _ _ _ (T_5_10.setTop (mkF m 32 #[.val (.ref oa), .val (.ref oc), .val (.int w_5_8)] []))
      refine ogo (fun _ k => XS.aloadN X_5_10.here hx rfl (hb hby d5_32) rfl rfl k) ?_
      show OGo _ _ _ _ (T_5_10.setTop (mkF m 33 #[.val (.ref oa), .val (.ref oc), .val (.int w_5_8)] [(.ref oa)]))
      obtain ⟨T_5_12, X_5_12, e_5_12, st_5_12⟩ := getF X_5_10 hx hZ hown (host := "") (Or.inl (hw _ (List.mem_of_getElem? (i := 18) rfl))) Via.refl e_5_10 P4 (g := (mkF m 33 #[.val (.ref oa), .val (.ref oc), .val (.int w_5_8)] [(.ref oa)])) rfl rfl (hb hby d5_33)
      refine ogo (fun _ k => st_5_12 _ k) ?_
      show OGo _ _ _ _ (T_5_12.setTop (mkF m 36 #[.val (.ref oa), .val (.ref oc), .val (.int w_5_8)] [(.int x2)]))
      refine ogo (fun _ k => XS.aloadN X_5_12.here hx rfl (hb hby d5_36) rfl rfl k) ?_
      show OGo _ _ _ _ (T_5_12.setTop (mkF m 37 #[.val (.ref oa), .val (.ref oc), .val (.int w_5_8)] [(.ref oc), (.int x2)]))
      obtain ⟨T_5_13, X_5_13, e_5_13, st_5_13⟩ := getF X_5_12 hx hZ hown (host := "") (Or.inl (hw _ (List.mem_of_getElem? (i := 18) rfl))) Via.refl e_5_12 P5 (g := (mkF m 37 #[.val (.ref oa), .val (.ref oc), .val (.int w_5_8)] [(.ref oc), (.int x2)])) rfl rfl (hb hby d5_37)
      refine ogo (fun _ k => st_5_13 _ k) ?_
      show OGo _ _ _ _ (T_5_13.setTop (mkF m 40 #[.val (.ref oa), .val (.ref oc), .val (.int w_5_8)] [(.int y2), (.int x2)]))
      obtain ⟨T_5_14, X_5_14, e_5_14, st_5_14⟩ := ocallP X_5_13 hx hZ e_5_13 (rm6 l Z a0 hw x2 y2  h0 ) hown (hw _ (List.mem_of_getElem? (i := 31) rfl)) (hw _ (List.mem_of_getElem? (i := 32) rfl)) (hw _ (List.mem_of_getElem? (i := 33) rfl)) (hw _ (List.mem_of_getElem? (i := 34) rfl)) (by decide) (g := (mkF m 40 #[.val (.ref oa), .val (.ref oc), .val (.int w_5_8)] [(.int y2), (.int x2)])) rfl (by rw [hml]; rfl) [(.int x2), (.int y2)] [] rfl (lenOf pd__II_I rfl) rfl (hb hby d5_40) 0 (by show 2 * 0 + _ ≤ _; exact Nat.le_of_eq rfl) (by decide) (by decide) (by decide) (by decide) rfl rfl
      refine ogo (fun _ k => st_5_14 _ k) ?_
      show OGo _ _ _ _ (T_5_14.setTop (mkF m 43 #[.val (.ref oa), .val (.ref oc), .val (.int w_5_8)] [(.int (compareF x2 y2))]))
      refine ogo (fun _ k => XS.istoreN X_5_14.here hx rfl (hb hby d5_43) rfl (l' := #[.val (.ref oa), .val (.ref oc), .val (.int (compareF x2 y2))]) rfl k) ?_
      show OGo _ _ _ _ (T_5_14.setTop (mkF m 44 #[.val (.ref oa), .val (.ref oc), .val (.int (compareF x2 y2))] []))
      exact J_5_16 _ (if_pos hc_5_11).symm _ X_5_14 e_5_14
    · refine ogo (fun _ k => XS.ifYes X_5_10.here hx rfl (pc0 := 29) (pc' := 44) rfl (hb hby d5_29) rfl ((if0 _ _).trans (feq hc_5_11).2) (by decide) (by decide) k) ?_
      show OGo _ _ _ _ (T_5_10.setTop (mkF m 44 #[.val (.ref oa), .val (.ref oc), .val (.int w_5_8)] []))
      exact J_5_16 _ (if_neg hc_5_11).symm _ X_5_10 e_5_10
  intro w_5_15 hw_5_15 T_5_17 X_5_17 e_5_17
  refine ogo (fun _ k => XS.iloadN X_5_17.here hx rfl (hb hby d5_44) rfl k) ?_
  show OGo _ _ _ _ (T_5_17.setTop (mkF m 45 #[.val (.ref oa), .val (.ref oc), .val (.int w_5_15)] [(.int w_5_15)]))
  suffices J_5_23 : ∀ (w_5_22 : Int32) (hw_5_22 : w_5_22 = (if w_5_15 = (0 : Int32) then (compareF x3 y3) else w_5_15)) (T_5_24 : State) (X_5_24 : Stand p l e ({ frames := 1, cells := 0, slots := 0, locals := 13 } : Room) s m #[(.ref oa), (.ref oc)] below meth c T_5_24 [] 0 0) (e_5_24 : T_5_24.heap = h0), OGo p.tables e below (OFin s (OPure (some (.int (cttF x0 y0 x1 y1 x2 y2 x3 y3))) h0) 0 0) (T_5_24.setTop (mkF m 63 #[.val (.ref oa), .val (.ref oc), .val (.int w_5_15)] [(.int w_5_22)])) by
    by_cases hc_5_18 : w_5_15 = (0 : Int32)
    · refine ogo (fun _ k => XS.ifYes X_5_17.here hx rfl (pc0 := 45) (pc' := 52) rfl (hb hby d5_45) rfl ((if0 _ _).trans (teq hc_5_18).1) (by decide) (by decide) k) ?_
      show OGo _ _ _ _ (T_5_17.setTop (mkF m 52 #[.val (.ref oa), .val (.ref oc), .val (.int w_5_15)] []))
      refine ogo (fun _ k => XS.aloadN X_5_17.here hx rfl (hb hby d5_52) rfl rfl k) ?_
      show OGo _ _ _ _ (T_5_17.setTop (mkF m 53 #[.val (.ref oa), .val (.ref oc), .val (.int w_5_15)] [(.ref oa)]))
      obtain ⟨T_5_19, X_5_19, e_5_19, st_5_19⟩ := getF X_5_17 hx hZ hown (host := "") (Or.inl (hw _ (List.mem_of_getElem? (i := 20) rfl))) Via.refl e_5_17 P6 (g := (mkF m 53 #[.val (.ref oa), .val (.ref oc), .val (.int w_5_15)] [(.ref oa)])) rfl rfl (hb hby d5_53)
      refine ogo (fun _ k => st_5_19 _ k) ?_
      show OGo _ _ _ _ (T_5_19.setTop (mkF m 56 #[.val (.ref oa), .val (.ref oc), .val (.int w_5_15)] [(.int x3)]))
      refine ogo (fun _ k => XS.aloadN X_5_19.here hx rfl (hb hby d5_56) rfl rfl k) ?_
      show OGo _ _ _ _ (T_5_19.setTop (mkF m 57 #[.val (.ref oa), .val (.ref oc), .val (.int w_5_15)] [(.ref oc), (.int x3)]))
      obtain ⟨T_5_20, X_5_20, e_5_20, st_5_20⟩ := getF X_5_19 hx hZ hown (host := "") (Or.inl (hw _ (List.mem_of_getElem? (i := 20) rfl))) Via.refl e_5_19 P7 (g := (mkF m 57 #[.val (.ref oa), .val (.ref oc), .val (.int w_5_15)] [(.ref oc), (.int x3)])) rfl rfl (hb hby d5_57)
      refine ogo (fun _ k => st_5_20 _ k) ?_
      show OGo _ _ _ _ (T_5_20.setTop (mkF m 60 #[.val (.ref oa), .val (.ref oc), .val (.int w_5_15)] [(.int y3), (.int x3)]))
      obtain ⟨T_5_21, X_5_21, e_5_21, st_5_21⟩ := ocallP X_5_20 hx hZ e_5_20 (rm6 l Z a0 hw x3 y3  h0 ) hown (hw _ (List.mem_of_getElem? (i := 31) rfl)) (hw _ (List.mem_of_getElem? (i := 32) rfl)) (hw _ (List.mem_of_getElem? (i := 33) rfl)) (hw _ (List.mem_of_getElem? (i := 34) rfl)) (by decide) (g := (mkF m 60 #[.val (.ref oa), .val (.ref oc), .val (.int w_5_15)] [(.int y3), (.int x3)])) rfl (by rw [hml]; rfl) [(.int x3), (.int y3)] [] rfl (lenOf pd__II_I rfl) rfl (hb hby d5_60) 0 (by show 2 * 0 + _ ≤ _; exact Nat.le_of_eq rfl) (by decide) (by decide) (by decide) (by decide) rfl rfl
      refine ogo (fun _ k => st_5_21 _ k) ?_
      show OGo _ _ _ _ (T_5_21.setTop (mkF m 63 #[.val (.ref oa), .val (.ref oc), .val (.int w_5_15)] [(.int (compareF x3 y3))]))
      exact J_5_23 _ (if_pos hc_5_18).symm _ X_5_21 e_5_21
    · refine ogo (fun _ k => XS.ifNo X_5_17.here hx rfl (hb hby d5_45) rfl ((if0 _ _).trans (feq hc_5_18).1) k) ?_
      show OGo _ _ _ _ (T_5_17.setTop (mkF m 48 #[.val (.ref oa), .val (.ref oc), .val (.int w_5_15)] []))
      refine ogo (fun _ k => XS.iloadN X_5_17.here hx rfl (hb hby d5_48) rfl k) ?_
      show OGo _ _ _ _ (T_5_17.setTop (mkF m 49 #[.val (.ref oa), .val (.ref oc), .val (.int w_5_15)] [(.int w_5_15)]))
      refine ogo (fun _ k => XS.goto X_5_17.here hx rfl (pc0 := 49) (pc' := 63) rfl (hb hby d5_49) (by decide) (by decide) k) ?_
      show OGo _ _ _ _ (T_5_17.setTop (mkF m 63 #[.val (.ref oa), .val (.ref oc), .val (.int w_5_15)] [(.int w_5_15)]))
      exact J_5_23 _ (if_neg hc_5_18).symm _ X_5_17 e_5_17
  intro w_5_22 hw_5_22 T_5_24 X_5_24 e_5_24
  exact oret X_5_24 hx hlk Bd.returns rfl (Or.inl ⟨rfl, Or.inl rfl, _, rfl⟩) (hb hby d5_63) (by decide) (by decide) ⟨by subst_vars; rfl, rfl, e_5_24⟩
theorem pn_0 : plainName "com/example/lean_wiring/leanwiring/CostCompareToPinLaw" = true := by first | (simp [plainName, overriddenIn]; done) | decide +kernel
theorem ef_0 (m : MethodId) (x0 : Int64) (x1 : Int64) (x2 : Int64) (x3 : Int64) (x4 : Int32) : entryFrame m #[(.long x0), (.long x1), (.long x2), (.long x3), (.int x4)] maxLocals = mkF m 0 #[.val (.long x0), .second, .val (.long x1), .second, .val (.long x2), .second, .val (.long x3), .second, .val (.int x4), .unset, .unset, .unset, .unset, .unset, .unset, .unset, .unset, .unset, .unset, .unset] [] := by first | (simp [entryFrame, mkF, argsToLocals, Value.category, maxLocals]; done) | rfl
theorem pd__IIII_V : parseMethodDescriptor "(IIII)V" = some ⟨[.int, .int, .int, .int], none⟩ := by decide +kernel
theorem pd__Lcom_example_lean_wiring_leanwiring_Offer_Cost__I : parseMethodDescriptor "(Lcom/example/lean_wiring/leanwiring/Offer$Cost;)I" = some ⟨[(.object "com/example/lean_wiring/leanwiring/Offer$Cost")], some .int⟩ := by decide +kernel
theorem pd__I_I : parseMethodDescriptor "(I)I" = some ⟨[.int], some .int⟩ := by decide +kernel
theorem own_c01 (a b : Int32) : cmpF a b = -1 ∨ cmpF a b = 1 := by
  simp only [cmpF]
  by_cases q : a < b
  · rw [if_pos q]; exact Or.inl rfl
  · rw [if_neg q]; exact Or.inr rfl
theorem own_cne (a b : Int32) : ¬ cmpF a b = 0 := by rcases own_c01 a b with h | h <;> rw [h] <;> decide
theorem own_sgn (a b : Int32) : signF (cmpF a b) = cmpF a b := by rcases own_c01 a b with h | h <;> rw [h] <;> rfl
theorem own_swap {a b : Int32} (h : ¬ a = b) : cmpF b a = -cmpF a b := by
  have h' : ¬ a.toInt = b.toInt := fun z => h (Int32.toInt_inj.mp z)
  simp only [cmpF]
  by_cases q : a < b
  · have r : ¬ b < a := by rw [Int32.lt_iff_toInt_lt] at q ⊢; omega
    rw [if_pos q, if_neg r]; rfl
  · have r : b < a := by rw [Int32.lt_iff_toInt_lt] at q ⊢; omega
    rw [if_neg q, if_pos r]
theorem own_cf (a b : Int32) : compareF a b = if a = b then 0 else cmpF a b := by
  simp only [compareF, cmpF]
  by_cases q : a = b
  · subst q
    have r : ¬ a < a := by rw [Int32.lt_iff_toInt_lt]; omega
    rw [if_neg r, if_pos rfl, if_pos rfl]
  · rw [if_neg q, if_neg q]
def own_E (x0 y0 x1 y1 x2 y2 x3 y3 : Int32) : Int32 := if x0 = y0 then (if x1 = y1 then (if x2 = y2 then (if x3 = y3 then (0 : Int32) else cmpF x3 y3) else cmpF x2 y2) else cmpF x1 y1) else cmpF x0 y0
theorem own_ctt (x0 y0 x1 y1 x2 y2 x3 y3 : Int32) : cttF x0 y0 x1 y1 x2 y2 x3 y3 = own_E x0 y0 x1 y1 x2 y2 x3 y3 := by
  simp only [cttF, own_cf, own_E]
  by_cases h0 : x0 = y0 <;> by_cases h1 : x1 = y1 <;> by_cases h2 : x2 = y2 <;> by_cases h3 : x3 = y3 <;> simp only [h0, h1, h2, h3, if_true, if_false, own_cne]
theorem own_s (x0 y0 x1 y1 x2 y2 x3 y3 : Int32) : signF (own_E x0 y0 x1 y1 x2 y2 x3 y3) = own_E x0 y0 x1 y1 x2 y2 x3 y3 := by
  simp only [own_E]
  by_cases h0 : x0 = y0 <;> by_cases h1 : x1 = y1 <;> by_cases h2 : x2 = y2 <;> by_cases h3 : x3 = y3 <;> simp only [h0, h1, h2, h3, if_true, if_false, own_sgn]
  all_goals rfl
theorem own_r (x0 y0 x1 y1 x2 y2 x3 y3 : Int32) : own_E y0 x0 y1 x1 y2 x2 y3 x3 = -own_E x0 y0 x1 y1 x2 y2 x3 y3 := by
  simp only [own_E]
  by_cases h0 : x0 = y0
  · rw [if_pos h0, if_pos h0.symm]
    by_cases h1 : x1 = y1
    · rw [if_pos h1, if_pos h1.symm]
      by_cases h2 : x2 = y2
      · rw [if_pos h2, if_pos h2.symm]
        by_cases h3 : x3 = y3
        · rw [if_pos h3, if_pos h3.symm]; rfl
        · rw [if_neg h3, if_neg (Ne.symm h3)]; exact own_swap h3
      · rw [if_neg h2, if_neg (Ne.symm h2)]; exact own_swap h2
    · rw [if_neg h1, if_neg (Ne.symm h1)]; exact own_swap h1
  · rw [if_neg h0, if_neg (Ne.symm h0)]; exact own_swap h0
theorem plain0 (va : Int64) (vb : Int64) (vc : Int64) (vd : Int64) (ve : Int32) (w_0_1 : Int32) (hw_0_1 : w_0_1 = (va.toInt32)) (w_0_2 : Int32) (hw_0_2 : w_0_2 = (((va.toUInt64 >>> ((32 : Int32) &&& 0x3f).toInt64.toUInt64).toInt64).toInt32)) (w_0_3 : Int32) (hw_0_3 : w_0_3 = (vb.toInt32)) (w_0_4 : Int32) (hw_0_4 : w_0_4 = (((vb.toUInt64 >>> ((32 : Int32) &&& 0x3f).toInt64.toUInt64).toInt64).toInt32)) (w_0_6 : Int32) (hw_0_6 : w_0_6 = (if (ve &&& (1 : Int32)) = (0 : Int32) then (vc.toInt32) else w_0_1)) (w_0_10 : Int32) (hw_0_10 : w_0_10 = (if (ve &&& (2 : Int32)) = (0 : Int32) then (((vc.toUInt64 >>> ((32 : Int32) &&& 0x3f).toInt64.toUInt64).toInt64).toInt32) else w_0_2)) (w_0_14 : Int32) (hw_0_14 : w_0_14 = (if (ve &&& (4 : Int32)) = (0 : Int32) then (vd.toInt32) else w_0_3)) (w_0_18 : Int32) (hw_0_18 : w_0_18 = (if (ve &&& (8 : Int32)) = (0 : Int32) then (((vd.toUInt64 >>> ((32 : Int32) &&& 0x3f).toInt64.toUInt64).toInt64).toInt32) else w_0_4)) (w_0_70 : Int32) (hw_0_70 : w_0_70 = (if w_0_1 = w_0_6 then (if w_0_2 = w_0_10 then (if w_0_3 = w_0_14 then (if w_0_4 = w_0_18 then (0 : Int32) else (cmpF w_0_4 w_0_18)) else (cmpF w_0_3 w_0_14)) else (cmpF w_0_2 w_0_10)) else (cmpF w_0_1 w_0_6))) (w_0_82 : Int32) (hw_0_82 : w_0_82 = (if (signF (cttF w_0_1 w_0_6 w_0_2 w_0_10 w_0_3 w_0_14 w_0_4 w_0_18)) = w_0_70 then (if (signF (cttF w_0_6 w_0_1 w_0_10 w_0_2 w_0_14 w_0_3 w_0_18 w_0_4)) = (-w_0_70) then (1 : Int32) else (0 : Int32)) else (0 : Int32))) : w_0_82 = (1 : Int32) := by
  have e1 : w_0_70 = own_E w_0_1 w_0_6 w_0_2 w_0_10 w_0_3 w_0_14 w_0_4 w_0_18 := hw_0_70
  have f1 : signF (cttF w_0_1 w_0_6 w_0_2 w_0_10 w_0_3 w_0_14 w_0_4 w_0_18) = w_0_70 := by rw [own_ctt, own_s, e1]
  have f2 : signF (cttF w_0_6 w_0_1 w_0_10 w_0_2 w_0_14 w_0_3 w_0_18 w_0_4) = (-w_0_70) := by rw [own_ctt, own_s, own_r, e1]
  rw [hw_0_82, if_pos f1, if_pos f2]
set_option maxRecDepth 65536 in
set_option maxHeartbeats 40000000 in
theorem rm0 (l : Launch) (Z : State) (a0 : Array Value) (hw : ∀ d ∈ tables_1, d.before a0 Z = true) (ws : List Jvm.Cond) (va : Int64) (vb : Int64) (vc : Int64) (vd : Int64) (ve : Int32) (h0 : Heap) (n0 : Nat) (Z0 : n0 ≤ h0.size)  :
    MetFree l x (head1 (Jvm.Cond.code x code maxLocals ret :: ws) room_1) (fun a U => a = #[(.long va), (.long vb), (.long vc), (.long vd), (.int ve)] ∧ Z.Warmed39 U.vm ∧ U.heap = h0) (fun _ _ _ _ _ => True) (fun _ U o U' => ∃ v L, o = .returned v ∧ (v = some (.int 1) ∧ Fr n0 L) ∧ FrameEnd U o U' L 16 128) := by
  refine MetFree.of_bodySF (plainFor_of_name pn_0) hisR ?_
  intro p e s m args below meth c s₁ Bd hml0 hP hK
  obtain ⟨rfl, hZ, hh⟩ := hP
  have hx := Bd.exec
  have hby := Bd.bytes
  have hml : c.maxLocals = 20 := hml0
  have hown : s.vm.findClass "com/example/lean_wiring/leanwiring/CostCompareToPinLaw" = some m.cls := findClass_of_methodNamed Bd.named
  have hnm := (name_of_methodNamed Bd.named Bd.method).1
  have hlk : meth.locks = false := Bd.notSynchronized
  have X0 : Stand p l e room_1 s m #[(.long va), (.long vb), (.long vc), (.long vd), (.int ve)] below meth c s₁ [] 0 0 := Stand.of_body Bd
  have e0 : s₁.heap = h0 := by rw [← hh, Bd.state]; rfl
  have N0 := Fr.nil n0
  refine (?_ : OGo p.tables e below (OFin s (fun v _ L => v = some (.int 1) ∧ Fr n0 L) 16 128) _)
  refine ogo (fun _ k => castTop (ef_0 m va vb vc vd ve) k) ?_
  show OGo _ _ _ _ (s₁.setTop (mkF m 0 #[.val (.long va), .second, .val (.long vb), .second, .val (.long vc), .second, .val (.long vd), .second, .val (.int ve), .unset, .unset, .unset, .unset, .unset, .unset, .unset, .unset, .unset, .unset, .unset] []))
  refine ogo (fun _ k => XS.lloadN X0.here hx rfl (hb hby at_0) rfl k) ?_
  show OGo _ _ _ _ (s₁.setTop (mkF m 1 #[.val (.long va), .second, .val (.long vb), .second, .val (.long vc), .second, .val (.long vd), .second, .val (.int ve), .unset, .unset, .unset, .unset, .unset, .unset, .unset, .unset, .unset, .unset, .unset] [(.long va)]))
  refine ogo (fun _ k => XS.l2i X0.here hx rfl (hb hby at_1) rfl k) ?_
  show OGo _ _ _ _ (s₁.setTop (mkF m 2 #[.val (.long va), .second, .val (.long vb), .second, .val (.long vc), .second, .val (.long vd), .second, .val (.int ve), .unset, .unset, .unset, .unset, .unset, .unset, .unset, .unset, .unset, .unset, .unset] [(.int (va.toInt32))]))
  suffices Nw_0_1 : ∀ w_0_1 : Int32, w_0_1 = (va.toInt32) → OGo p.tables e below (OFin s (fun v _ L => v = some (.int 1) ∧ Fr n0 L) 16 128) (s₁.setTop (mkF m 2 #[.val (.long va), .second, .val (.long vb), .second, .val (.long vc), .second, .val (.long vd), .second, .val (.int ve), .unset, .unset, .unset, .unset, .unset, .unset, .unset, .unset, .unset, .unset, .unset] [(.int w_0_1)])) from Nw_0_1 _ rfl
  intro w_0_1 hw_0_1
  refine ogo (fun _ k => XS.istore X0.here hx rfl (hb hby at_2) rfl (l' := #[.val (.long va), .second, .val (.long vb), .second, .val (.long vc), .second, .val (.long vd), .second, .val (.int ve), .val (.int w_0_1), .unset, .unset, .unset, .unset, .unset, .unset, .unset, .unset, .unset, .unset]) rfl k) ?_
  show OGo _ _ _ _ (s₁.setTop (mkF m 4 #[.val (.long va), .second, .val (.long vb), .second, .val (.long vc), .second, .val (.long vd), .second, .val (.int ve), .val (.int w_0_1), .unset, .unset, .unset, .unset, .unset, .unset, .unset, .unset, .unset, .unset] []))
  refine ogo (fun _ k => XS.lloadN X0.here hx rfl (hb hby at_4) rfl k) ?_
  show OGo _ _ _ _ (s₁.setTop (mkF m 5 #[.val (.long va), .second, .val (.long vb), .second, .val (.long vc), .second, .val (.long vd), .second, .val (.int ve), .val (.int w_0_1), .unset, .unset, .unset, .unset, .unset, .unset, .unset, .unset, .unset, .unset] [(.long va)]))
  refine ogo (fun _ k => XS.bipush X0.here hx rfl (hb hby at_5) k) ?_
  show OGo _ _ _ _ (s₁.setTop (mkF m 7 #[.val (.long va), .second, .val (.long vb), .second, .val (.long vc), .second, .val (.long vd), .second, .val (.int ve), .val (.int w_0_1), .unset, .unset, .unset, .unset, .unset, .unset, .unset, .unset, .unset, .unset] [(.int (32 : Int32)), (.long va)]))
  refine ogo (fun _ k => XS.lushr X0.here hx rfl (hb hby at_7) rfl k) ?_
  show OGo _ _ _ _ (s₁.setTop (mkF m 8 #[.val (.long va), .second, .val (.long vb), .second, .val (.long vc), .second, .val (.long vd), .second, .val (.int ve), .val (.int w_0_1), .unset, .unset, .unset, .unset, .unset, .unset, .unset, .unset, .unset, .unset] [(.long ((va.toUInt64 >>> ((32 : Int32) &&& 0x3f).toInt64.toUInt64).toInt64))]))
  refine ogo (fun _ k => XS.l2i X0.here hx rfl (hb hby at_8) rfl k) ?_
  show OGo _ _ _ _ (s₁.setTop (mkF m 9 #[.val (.long va), .second, .val (.long vb), .second, .val (.long vc), .second, .val (.long vd), .second, .val (.int ve), .val (.int w_0_1), .unset, .unset, .unset, .unset, .unset, .unset, .unset, .unset, .unset, .unset] [(.int (((va.toUInt64 >>> ((32 : Int32) &&& 0x3f).toInt64.toUInt64).toInt64).toInt32))]))
  suffices Nw_0_2 : ∀ w_0_2 : Int32, w_0_2 = (((va.toUInt64 >>> ((32 : Int32) &&& 0x3f).toInt64.toUInt64).toInt64).toInt32) → OGo p.tables e below (OFin s (fun v _ L => v = some (.int 1) ∧ Fr n0 L) 16 128) (s₁.setTop (mkF m 9 #[.val (.long va), .second, .val (.long vb), .second, .val (.long vc), .second, .val (.long vd), .second, .val (.int ve), .val (.int w_0_1), .unset, .unset, .unset, .unset, .unset, .unset, .unset, .unset, .unset, .unset] [(.int w_0_2)])) from Nw_0_2 _ rfl
  intro w_0_2 hw_0_2
  refine ogo (fun _ k => XS.istore X0.here hx rfl (hb hby at_9) rfl (l' := #[.val (.long va), .second, .val (.long vb), .second, .val (.long vc), .second, .val (.long vd), .second, .val (.int ve), .val (.int w_0_1), .val (.int w_0_2), .unset, .unset, .unset, .unset, .unset, .unset, .unset, .unset, .unset]) rfl k) ?_
  show OGo _ _ _ _ (s₁.setTop (mkF m 11 #[.val (.long va), .second, .val (.long vb), .second, .val (.long vc), .second, .val (.long vd), .second, .val (.int ve), .val (.int w_0_1), .val (.int w_0_2), .unset, .unset, .unset, .unset, .unset, .unset, .unset, .unset, .unset] []))
  refine ogo (fun _ k => XS.lloadN X0.here hx rfl (hb hby at_11) rfl k) ?_
  show OGo _ _ _ _ (s₁.setTop (mkF m 12 #[.val (.long va), .second, .val (.long vb), .second, .val (.long vc), .second, .val (.long vd), .second, .val (.int ve), .val (.int w_0_1), .val (.int w_0_2), .unset, .unset, .unset, .unset, .unset, .unset, .unset, .unset, .unset] [(.long vb)]))
  refine ogo (fun _ k => XS.l2i X0.here hx rfl (hb hby at_12) rfl k) ?_
  show OGo _ _ _ _ (s₁.setTop (mkF m 13 #[.val (.long va), .second, .val (.long vb), .second, .val (.long vc), .second, .val (.long vd), .second, .val (.int ve), .val (.int w_0_1), .val (.int w_0_2), .unset, .unset, .unset, .unset, .unset, .unset, .unset, .unset, .unset] [(.int (vb.toInt32))]))
  suffices Nw_0_3 : ∀ w_0_3 : Int32, w_0_3 = (vb.toInt32) → OGo p.tables e below (OFin s (fun v _ L => v = some (.int 1) ∧ Fr n0 L) 16 128) (s₁.setTop (mkF m 13 #[.val (.long va), .second, .val (.long vb), .second, .val (.long vc), .second, .val (.long vd), .second, .val (.int ve), .val (.int w_0_1), .val (.int w_0_2), .unset, .unset, .unset, .unset, .unset, .unset, .unset, .unset, .unset] [(.int w_0_3)])) from Nw_0_3 _ rfl
  intro w_0_3 hw_0_3
  refine ogo (fun _ k => XS.istore X0.here hx rfl (hb hby at_13) rfl (l' := #[.val (.long va), .second, .val (.long vb), .second, .val (.long vc), .second, .val (.long vd), .second, .val (.int ve), .val (.int w_0_1), .val (.int w_0_2), .val (.int w_0_3), .unset, .unset, .unset, .unset, .unset, .unset, .unset, .unset]) rfl k) ?_
  show OGo _ _ _ _ (s₁.setTop (mkF m 15 #[.val (.long va), .second, .val (.long vb), .second, .val (.long vc), .second, .val (.long vd), .second, .val (.int ve), .val (.int w_0_1), .val (.int w_0_2), .val (.int w_0_3), .unset, .unset, .unset, .unset, .unset, .unset, .unset, .unset] []))
  refine ogo (fun _ k => XS.lloadN X0.here hx rfl (hb hby at_15) rfl k) ?_
  show OGo _ _ _ _ (s₁.setTop (mkF m 16 #[.val (.long va), .second, .val (.long vb), .second, .val (.long vc), .second, .val (.long vd), .second, .val (.int ve), .val (.int w_0_1), .val (.int w_0_2), .val (.int w_0_3), .unset, .unset, .unset, .unset, .unset, .unset, .unset, .unset] [(.long vb)]))
  refine ogo (fun _ k => XS.bipush X0.here hx rfl (hb hby at_16) k) ?_
  show OGo _ _ _ _ (s₁.setTop (mkF m 18 #[.val (.long va), .second, .val (.long vb), .second, .val (.long vc), .second, .val (.long vd), .second, .val (.int ve), .val (.int w_0_1), .val (.int w_0_2), .val (.int w_0_3), .unset, .unset, .unset, .unset, .unset, .unset, .unset, .unset] [(.int (32 : Int32)), (.long vb)]))
  refine ogo (fun _ k => XS.lushr X0.here hx rfl (hb hby at_18) rfl k) ?_
  show OGo _ _ _ _ (s₁.setTop (mkF m 19 #[.val (.long va), .second, .val (.long vb), .second, .val (.long vc), .second, .val (.long vd), .second, .val (.int ve), .val (.int w_0_1), .val (.int w_0_2), .val (.int w_0_3), .unset, .unset, .unset, .unset, .unset, .unset, .unset, .unset] [(.long ((vb.toUInt64 >>> ((32 : Int32) &&& 0x3f).toInt64.toUInt64).toInt64))]))
  refine ogo (fun _ k => XS.l2i X0.here hx rfl (hb hby at_19) rfl k) ?_
  show OGo _ _ _ _ (s₁.setTop (mkF m 20 #[.val (.long va), .second, .val (.long vb), .second, .val (.long vc), .second, .val (.long vd), .second, .val (.int ve), .val (.int w_0_1), .val (.int w_0_2), .val (.int w_0_3), .unset, .unset, .unset, .unset, .unset, .unset, .unset, .unset] [(.int (((vb.toUInt64 >>> ((32 : Int32) &&& 0x3f).toInt64.toUInt64).toInt64).toInt32))]))
  suffices Nw_0_4 : ∀ w_0_4 : Int32, w_0_4 = (((vb.toUInt64 >>> ((32 : Int32) &&& 0x3f).toInt64.toUInt64).toInt64).toInt32) → OGo p.tables e below (OFin s (fun v _ L => v = some (.int 1) ∧ Fr n0 L) 16 128) (s₁.setTop (mkF m 20 #[.val (.long va), .second, .val (.long vb), .second, .val (.long vc), .second, .val (.long vd), .second, .val (.int ve), .val (.int w_0_1), .val (.int w_0_2), .val (.int w_0_3), .unset, .unset, .unset, .unset, .unset, .unset, .unset, .unset] [(.int w_0_4)])) from Nw_0_4 _ rfl
  intro w_0_4 hw_0_4
  refine ogo (fun _ k => XS.istore X0.here hx rfl (hb hby at_20) rfl (l' := #[.val (.long va), .second, .val (.long vb), .second, .val (.long vc), .second, .val (.long vd), .second, .val (.int ve), .val (.int w_0_1), .val (.int w_0_2), .val (.int w_0_3), .val (.int w_0_4), .unset, .unset, .unset, .unset, .unset, .unset, .unset]) rfl k) ?_
  show OGo _ _ _ _ (s₁.setTop (mkF m 22 #[.val (.long va), .second, .val (.long vb), .second, .val (.long vc), .second, .val (.long vd), .second, .val (.int ve), .val (.int w_0_1), .val (.int w_0_2), .val (.int w_0_3), .val (.int w_0_4), .unset, .unset, .unset, .unset, .unset, .unset, .unset] []))
  refine ogo (fun _ k => XS.iload X0.here hx rfl (hb hby at_22) rfl k) ?_
  show OGo _ _ _ _ (s₁.setTop (mkF m 24 #[.val (.long va), .second, .val (.long vb), .second, .val (.long vc), .second, .val (.long vd), .second, .val (.int ve), .val (.int w_0_1), .val (.int w_0_2), .val (.int w_0_3), .val (.int w_0_4), .unset, .unset, .unset, .unset, .unset, .unset, .unset] [(.int ve)]))
  refine ogo (fun _ k => XS.iconst X0.here hx rfl (hb hby at_24) k) ?_
  show OGo _ _ _ _ (s₁.setTop (mkF m 25 #[.val (.long va), .second, .val (.long vb), .second, .val (.long vc), .second, .val (.long vd), .second, .val (.int ve), .val (.int w_0_1), .val (.int w_0_2), .val (.int w_0_3), .val (.int w_0_4), .unset, .unset, .unset, .unset, .unset, .unset, .unset] [(.int (1 : Int32)), (.int ve)]))
  refine ogo (fun _ k => XS.iand X0.here hx rfl (hb hby at_25) rfl k) ?_
  show OGo _ _ _ _ (s₁.setTop (mkF m 26 #[.val (.long va), .second, .val (.long vb), .second, .val (.long vc), .second, .val (.long vd), .second, .val (.int ve), .val (.int w_0_1), .val (.int w_0_2), .val (.int w_0_3), .val (.int w_0_4), .unset, .unset, .unset, .unset, .unset, .unset, .unset] [(.int (ve &&& (1 : Int32)))]))
  suffices J_0_7 : ∀ (w_0_6 : Int32) (hw_0_6 : w_0_6 = (if (ve &&& (1 : Int32)) = (0 : Int32) then (vc.toInt32) else w_0_1)), OGo p.tables e below (OFin s (fun v _ L => v = some (.int 1) ∧ Fr n0 L) 16 128) (s₁.setTop (mkF m 37 #[.val (.long va), .second, .val (.long vb), .second, .val (.long vc), .second, .val (.long vd), .second, .val (.int ve), .val (.int w_0_1), .val (.int w_0_2), .val (.int w_0_3), .val (.int w_0_4), .unset, .unset, .unset, .unset, .unset, .unset, .unset] [(.int w_0_6)])) by
    by_cases hc_0_5 : (ve &&& (1 : Int32)) = (0 : Int32)
    · refine ogo (fun _ k => XS.ifYes X0.here hx rfl (pc0 := 26) (pc' := 34) rfl (hb hby at_26) rfl ((if0 _ _).trans (teq hc_0_5).1) (by decide) (by decide) k) ?_
      show OGo _ _ _ _ (s₁.setTop (mkF m 34 #[.val (.long va), .second, .val (.long vb), .second, .val (.long vc), .second, .val (.long vd), .second, .val (.int ve), .val (.int w_0_1), .val (.int w_0_2), .val (.int w_0_3), .val (.int w_0_4), .unset, .unset, .unset, .unset, .unset, .unset, .unset] []))
      refine ogo (fun _ k => XS.lload X0.here hx rfl (hb hby at_34) rfl k) ?_
      show OGo _ _ _ _ (s₁.setTop (mkF m 36 #[.val (.long va), .second, .val (.long vb), .second, .val (.long vc), .second, .val (.long vd), .second, .val (.int ve), .val (.int w_0_1), .val (.int w_0_2), .val (.int w_0_3), .val (.int w_0_4), .unset, .unset, .unset, .unset, .unset, .unset, .unset] [(.long vc)]))
      refine ogo (fun _ k => XS.l2i X0.here hx rfl (hb hby at_36) rfl k) ?_
      show OGo _ _ _ _ (s₁.setTop (mkF m 37 #[.val (.long va), .second, .val (.long vb), .second, .val (.long vc), .second, .val (.long vd), .second, .val (.int ve), .val (.int w_0_1), .val (.int w_0_2), .val (.int w_0_3), .val (.int w_0_4), .unset, .unset, .unset, .unset, .unset, .unset, .unset] [(.int (vc.toInt32))]))
      exact J_0_7 _ (if_pos hc_0_5).symm
    · refine ogo (fun _ k => XS.ifNo X0.here hx rfl (hb hby at_26) rfl ((if0 _ _).trans (feq hc_0_5).1) k) ?_
      show OGo _ _ _ _ (s₁.setTop (mkF m 29 #[.val (.long va), .second, .val (.long vb), .second, .val (.long vc), .second, .val (.long vd), .second, .val (.int ve), .val (.int w_0_1), .val (.int w_0_2), .val (.int w_0_3), .val (.int w_0_4), .unset, .unset, .unset, .unset, .unset, .unset, .unset] []))
      refine ogo (fun _ k => XS.iload X0.here hx rfl (hb hby at_29) rfl k) ?_
      show OGo _ _ _ _ (s₁.setTop (mkF m 31 #[.val (.long va), .second, .val (.long vb), .second, .val (.long vc), .second, .val (.long vd), .second, .val (.int ve), .val (.int w_0_1), .val (.int w_0_2), .val (.int w_0_3), .val (.int w_0_4), .unset, .unset, .unset, .unset, .unset, .unset, .unset] [(.int w_0_1)]))
      refine ogo (fun _ k => XS.goto X0.here hx rfl (pc0 := 31) (pc' := 37) rfl (hb hby at_31) (by decide) (by decide) k) ?_
      show OGo _ _ _ _ (s₁.setTop (mkF m 37 #[.val (.long va), .second, .val (.long vb), .second, .val (.long vc), .second, .val (.long vd), .second, .val (.int ve), .val (.int w_0_1), .val (.int w_0_2), .val (.int w_0_3), .val (.int w_0_4), .unset, .unset, .unset, .unset, .unset, .unset, .unset] [(.int w_0_1)]))
      exact J_0_7 _ (if_neg hc_0_5).symm
  intro w_0_6 hw_0_6
  refine ogo (fun _ k => XS.istore X0.here hx rfl (hb hby at_37) rfl (l' := #[.val (.long va), .second, .val (.long vb), .second, .val (.long vc), .second, .val (.long vd), .second, .val (.int ve), .val (.int w_0_1), .val (.int w_0_2), .val (.int w_0_3), .val (.int w_0_4), .val (.int w_0_6), .unset, .unset, .unset, .unset, .unset, .unset]) rfl k) ?_
  show OGo _ _ _ _ (s₁.setTop (mkF m 39 #[.val (.long va), .second, .val (.long vb), .second, .val (.long vc), .second, .val (.long vd), .second, .val (.int ve), .val (.int w_0_1), .val (.int w_0_2), .val (.int w_0_3), .val (.int w_0_4), .val (.int w_0_6), .unset, .unset, .unset, .unset, .unset, .unset] []))
  refine ogo (fun _ k => XS.iload X0.here hx rfl (hb hby at_39) rfl k) ?_
  show OGo _ _ _ _ (s₁.setTop (mkF m 41 #[.val (.long va), .second, .val (.long vb), .second, .val (.long vc), .second, .val (.long vd), .second, .val (.int ve), .val (.int w_0_1), .val (.int w_0_2), .val (.int w_0_3), .val (.int w_0_4), .val (.int w_0_6), .unset, .unset, .unset, .unset, .unset, .unset] [(.int ve)]))
  refine ogo (fun _ k => XS.iconst X0.here hx rfl (hb hby at_41) k) ?_
  show OGo _ _ _ _ (s₁.setTop (mkF m 42 #[.val (.long va), .second, .val (.long vb), .second, .val (.long vc), .second, .val (.long vd), .second, .val (.int ve), .val (.int w_0_1), .val (.int w_0_2), .val (.int w_0_3), .val (.int w_0_4), .val (.int w_0_6), .unset, .unset, .unset, .unset, .unset, .unset] [(.int (2 : Int32)), (.int ve)]))
  refine ogo (fun _ k => XS.iand X0.here hx rfl (hb hby at_42) rfl k) ?_
  show OGo _ _ _ _ (s₁.setTop (mkF m 43 #[.val (.long va), .second, .val (.long vb), .second, .val (.long vc), .second, .val (.long vd), .second, .val (.int ve), .val (.int w_0_1), .val (.int w_0_2), .val (.int w_0_3), .val (.int w_0_4), .val (.int w_0_6), .unset, .unset, .unset, .unset, .unset, .unset] [(.int (ve &&& (2 : Int32)))]))
  suffices J_0_11 : ∀ (w_0_10 : Int32) (hw_0_10 : w_0_10 = (if (ve &&& (2 : Int32)) = (0 : Int32) then (((vc.toUInt64 >>> ((32 : Int32) &&& 0x3f).toInt64.toUInt64).toInt64).toInt32) else w_0_2)), OGo p.tables e below (OFin s (fun v _ L => v = some (.int 1) ∧ Fr n0 L) 16 128) (s₁.setTop (mkF m 57 #[.val (.long va), .second, .val (.long vb), .second, .val (.long vc), .second, .val (.long vd), .second, .val (.int ve), .val (.int w_0_1), .val (.int w_0_2), .val (.int w_0_3), .val (.int w_0_4), .val (.int w_0_6), .unset, .unset, .unset, .unset, .unset, .unset] [(.int w_0_10)])) by
    by_cases hc_0_9 : (ve &&& (2 : Int32)) = (0 : Int32)
    · refine ogo (fun _ k => XS.ifYes X0.here hx rfl (pc0 := 43) (pc' := 51) rfl (hb hby at_43) rfl ((if0 _ _).trans (teq hc_0_9).1) (by decide) (by decide) k) ?_
      show OGo _ _ _ _ (s₁.setTop (mkF m 51 #[.val (.long va), .second, .val (.long vb), .second, .val (.long vc), .second, .val (.long vd), .second, .val (.int ve), .val (.int w_0_1), .val (.int w_0_2), .val (.int w_0_3), .val (.int w_0_4), .val (.int w_0_6), .unset, .unset, .unset, .unset, .unset, .unset] []))
      refine ogo (fun _ k => XS.lload X0.here hx rfl (hb hby at_51) rfl k) ?_
      show OGo _ _ _ _ (s₁.setTop (mkF m 53 #[.val (.long va), .second, .val (.long vb), .second, .val (.long vc), .second, .val (.long vd), .second, .val (.int ve), .val (.int w_0_1), .val (.int w_0_2), .val (.int w_0_3), .val (.int w_0_4), .val (.int w_0_6), .unset, .unset, .unset, .unset, .unset, .unset] [(.long vc)]))
      refine ogo (fun _ k => XS.bipush X0.here hx rfl (hb hby at_53) k) ?_
      show OGo _ _ _ _ (s₁.setTop (mkF m 55 #[.val (.long va), .second, .val (.long vb), .second, .val (.long vc), .second, .val (.long vd), .second, .val (.int ve), .val (.int w_0_1), .val (.int w_0_2), .val (.int w_0_3), .val (.int w_0_4), .val (.int w_0_6), .unset, .unset, .unset, .unset, .unset, .unset] [(.int (32 : Int32)), (.long vc)]))
      refine ogo (fun _ k => XS.lushr X0.here hx rfl (hb hby at_55) rfl k) ?_
      show OGo _ _ _ _ (s₁.setTop (mkF m 56 #[.val (.long va), .second, .val (.long vb), .second, .val (.long vc), .second, .val (.long vd), .second, .val (.int ve), .val (.int w_0_1), .val (.int w_0_2), .val (.int w_0_3), .val (.int w_0_4), .val (.int w_0_6), .unset, .unset, .unset, .unset, .unset, .unset] [(.long ((vc.toUInt64 >>> ((32 : Int32) &&& 0x3f).toInt64.toUInt64).toInt64))]))
      refine ogo (fun _ k => XS.l2i X0.here hx rfl (hb hby at_56) rfl k) ?_
      show OGo _ _ _ _ (s₁.setTop (mkF m 57 #[.val (.long va), .second, .val (.long vb), .second, .val (.long vc), .second, .val (.long vd), .second, .val (.int ve), .val (.int w_0_1), .val (.int w_0_2), .val (.int w_0_3), .val (.int w_0_4), .val (.int w_0_6), .unset, .unset, .unset, .unset, .unset, .unset] [(.int (((vc.toUInt64 >>> ((32 : Int32) &&& 0x3f).toInt64.toUInt64).toInt64).toInt32))]))
      exact J_0_11 _ (if_pos hc_0_9).symm
    · refine ogo (fun _ k => XS.ifNo X0.here hx rfl (hb hby at_43) rfl ((if0 _ _).trans (feq hc_0_9).1) k) ?_
      show OGo _ _ _ _ (s₁.setTop (mkF m 46 #[.val (.long va), .second, .val (.long vb), .second, .val (.long vc), .second, .val (.long vd), .second, .val (.int ve), .val (.int w_0_1), .val (.int w_0_2), .val (.int w_0_3), .val (.int w_0_4), .val (.int w_0_6), .unset, .unset, .unset, .unset, .unset, .unset] []))
      refine ogo (fun _ k => XS.iload X0.here hx rfl (hb hby at_46) rfl k) ?_
      show OGo _ _ _ _ (s₁.setTop (mkF m 48 #[.val (.long va), .second, .val (.long vb), .second, .val (.long vc), .second, .val (.long vd), .second, .val (.int ve), .val (.int w_0_1), .val (.int w_0_2), .val (.int w_0_3), .val (.int w_0_4), .val (.int w_0_6), .unset, .unset, .unset, .unset, .unset, .unset] [(.int w_0_2)]))
      refine ogo (fun _ k => XS.goto X0.here hx rfl (pc0 := 48) (pc' := 57) rfl (hb hby at_48) (by decide) (by decide) k) ?_
      show OGo _ _ _ _ (s₁.setTop (mkF m 57 #[.val (.long va), .second, .val (.long vb), .second, .val (.long vc), .second, .val (.long vd), .second, .val (.int ve), .val (.int w_0_1), .val (.int w_0_2), .val (.int w_0_3), .val (.int w_0_4), .val (.int w_0_6), .unset, .unset, .unset, .unset, .unset, .unset] [(.int w_0_2)]))
      exact J_0_11 _ (if_neg hc_0_9).symm
  intro w_0_10 hw_0_10
  refine ogo (fun _ k => XS.istore X0.here hx rfl (hb hby at_57) rfl (l' := #[.val (.long va), .second, .val (.long vb), .second, .val (.long vc), .second, .val (.long vd), .second, .val (.int ve), .val (.int w_0_1), .val (.int w_0_2), .val (.int w_0_3), .val (.int w_0_4), .val (.int w_0_6), .val (.int w_0_10), .unset, .unset, .unset, .unset, .unset]) rfl k) ?_
  show OGo _ _ _ _ (s₁.setTop (mkF m 59 #[.val (.long va), .second, .val (.long vb), .second, .val (.long vc), .second, .val (.long vd), .second, .val (.int ve), .val (.int w_0_1), .val (.int w_0_2), .val (.int w_0_3), .val (.int w_0_4), .val (.int w_0_6), .val (.int w_0_10), .unset, .unset, .unset, .unset, .unset] []))
  refine ogo (fun _ k => XS.iload X0.here hx rfl (hb hby at_59) rfl k) ?_
  show OGo _ _ _ _ (s₁.setTop (mkF m 61 #[.val (.long va), .second, .val (.long vb), .second, .val (.long vc), .second, .val (.long vd), .second, .val (.int ve), .val (.int w_0_1), .val (.int w_0_2), .val (.int w_0_3), .val (.int w_0_4), .val (.int w_0_6), .val (.int w_0_10), .unset, .unset, .unset, .unset, .unset] [(.int ve)]))
  refine ogo (fun _ k => XS.iconst X0.here hx rfl (hb hby at_61) k) ?_
  show OGo _ _ _ _ (s₁.setTop (mkF m 62 #[.val (.long va), .second, .val (.long vb), .second, .val (.long vc), .second, .val (.long vd), .second, .val (.int ve), .val (.int w_0_1), .val (.int w_0_2), .val (.int w_0_3), .val (.int w_0_4), .val (.int w_0_6), .val (.int w_0_10), .unset, .unset, .unset, .unset, .unset] [(.int (4 : Int32)), (.int ve)]))
  refine ogo (fun _ k => XS.iand X0.here hx rfl (hb hby at_62) rfl k) ?_
  show OGo _ _ _ _ (s₁.setTop (mkF m 63 #[.val (.long va), .second, .val (.long vb), .second, .val (.long vc), .second, .val (.long vd), .second, .val (.int ve), .val (.int w_0_1), .val (.int w_0_2), .val (.int w_0_3), .val (.int w_0_4), .val (.int w_0_6), .val (.int w_0_10), .unset, .unset, .unset, .unset, .unset] [(.int (ve &&& (4 : Int32)))]))
  suffices J_0_15 : ∀ (w_0_14 : Int32) (hw_0_14 : w_0_14 = (if (ve &&& (4 : Int32)) = (0 : Int32) then (vd.toInt32) else w_0_3)), OGo p.tables e below (OFin s (fun v _ L => v = some (.int 1) ∧ Fr n0 L) 16 128) (s₁.setTop (mkF m 74 #[.val (.long va), .second, .val (.long vb), .second, .val (.long vc), .second, .val (.long vd), .second, .val (.int ve), .val (.int w_0_1), .val (.int w_0_2), .val (.int w_0_3), .val (.int w_0_4), .val (.int w_0_6), .val (.int w_0_10), .unset, .unset, .unset, .unset, .unset] [(.int w_0_14)])) by
    by_cases hc_0_13 : (ve &&& (4 : Int32)) = (0 : Int32)
    · refine ogo (fun _ k => XS.ifYes X0.here hx rfl (pc0 := 63) (pc' := 71) rfl (hb hby at_63) rfl ((if0 _ _).trans (teq hc_0_13).1) (by decide) (by decide) k) ?_
      show OGo _ _ _ _ (s₁.setTop (mkF m 71 #[.val (.long va), .second, .val (.long vb), .second, .val (.long vc), .second, .val (.long vd), .second, .val (.int ve), .val (.int w_0_1), .val (.int w_0_2), .val (.int w_0_3), .val (.int w_0_4), .val (.int w_0_6), .val (.int w_0_10), .unset, .unset, .unset, .unset, .unset] []))
      refine ogo (fun _ k => XS.lload X0.here hx rfl (hb hby at_71) rfl k) ?_
      show OGo _ _ _ _ (s₁.setTop (mkF m 73 #[.val (.long va), .second, .val (.long vb), .second, .val (.long vc), .second, .val (.long vd), .second, .val (.int ve), .val (.int w_0_1), .val (.int w_0_2), .val (.int w_0_3), .val (.int w_0_4), .val (.int w_0_6), .val (.int w_0_10), .unset, .unset, .unset, .unset, .unset] [(.long vd)]))
      refine ogo (fun _ k => XS.l2i X0.here hx rfl (hb hby at_73) rfl k) ?_
      show OGo _ _ _ _ (s₁.setTop (mkF m 74 #[.val (.long va), .second, .val (.long vb), .second, .val (.long vc), .second, .val (.long vd), .second, .val (.int ve), .val (.int w_0_1), .val (.int w_0_2), .val (.int w_0_3), .val (.int w_0_4), .val (.int w_0_6), .val (.int w_0_10), .unset, .unset, .unset, .unset, .unset] [(.int (vd.toInt32))]))
      exact J_0_15 _ (if_pos hc_0_13).symm
    · refine ogo (fun _ k => XS.ifNo X0.here hx rfl (hb hby at_63) rfl ((if0 _ _).trans (feq hc_0_13).1) k) ?_
      show OGo _ _ _ _ (s₁.setTop (mkF m 66 #[.val (.long va), .second, .val (.long vb), .second, .val (.long vc), .second, .val (.long vd), .second, .val (.int ve), .val (.int w_0_1), .val (.int w_0_2), .val (.int w_0_3), .val (.int w_0_4), .val (.int w_0_6), .val (.int w_0_10), .unset, .unset, .unset, .unset, .unset] []))
      refine ogo (fun _ k => XS.iload X0.here hx rfl (hb hby at_66) rfl k) ?_
      show OGo _ _ _ _ (s₁.setTop (mkF m 68 #[.val (.long va), .second, .val (.long vb), .second, .val (.long vc), .second, .val (.long vd), .second, .val (.int ve), .val (.int w_0_1), .val (.int w_0_2), .val (.int w_0_3), .val (.int w_0_4), .val (.int w_0_6), .val (.int w_0_10), .unset, .unset, .unset, .unset, .unset] [(.int w_0_3)]))
      refine ogo (fun _ k => XS.goto X0.here hx rfl (pc0 := 68) (pc' := 74) rfl (hb hby at_68) (by decide) (by decide) k) ?_
      show OGo _ _ _ _ (s₁.setTop (mkF m 74 #[.val (.long va), .second, .val (.long vb), .second, .val (.long vc), .second, .val (.long vd), .second, .val (.int ve), .val (.int w_0_1), .val (.int w_0_2), .val (.int w_0_3), .val (.int w_0_4), .val (.int w_0_6), .val (.int w_0_10), .unset, .unset, .unset, .unset, .unset] [(.int w_0_3)]))
      exact J_0_15 _ (if_neg hc_0_13).symm
  intro w_0_14 hw_0_14
  refine ogo (fun _ k => XS.istore X0.here hx rfl (hb hby at_74) rfl (l' := #[.val (.long va), .second, .val (.long vb), .second, .val (.long vc), .second, .val (.long vd), .second, .val (.int ve), .val (.int w_0_1), .val (.int w_0_2), .val (.int w_0_3), .val (.int w_0_4), .val (.int w_0_6), .val (.int w_0_10), .val (.int w_0_14), .unset, .unset, .unset, .unset]) rfl k) ?_
  show OGo _ _ _ _ (s₁.setTop (mkF m 76 #[.val (.long va), .second, .val (.long vb), .second, .val (.long vc), .second, .val (.long vd), .second, .val (.int ve), .val (.int w_0_1), .val (.int w_0_2), .val (.int w_0_3), .val (.int w_0_4), .val (.int w_0_6), .val (.int w_0_10), .val (.int w_0_14), .unset, .unset, .unset, .unset] []))
  refine ogo (fun _ k => XS.iload X0.here hx rfl (hb hby at_76) rfl k) ?_
  show OGo _ _ _ _ (s₁.setTop (mkF m 78 #[.val (.long va), .second, .val (.long vb), .second, .val (.long vc), .second, .val (.long vd), .second, .val (.int ve), .val (.int w_0_1), .val (.int w_0_2), .val (.int w_0_3), .val (.int w_0_4), .val (.int w_0_6), .val (.int w_0_10), .val (.int w_0_14), .unset, .unset, .unset, .unset] [(.int ve)]))
  refine ogo (fun _ k => XS.bipush X0.here hx rfl (hb hby at_78) k) ?_
  show OGo _ _ _ _ (s₁.setTop (mkF m 80 #[.val (.long va), .second, .val (.long vb), .second, .val (.long vc), .second, .val (.long vd), .second, .val (.int ve), .val (.int w_0_1), .val (.int w_0_2), .val (.int w_0_3), .val (.int w_0_4), .val (.int w_0_6), .val (.int w_0_10), .val (.int w_0_14), .unset, .unset, .unset, .unset] [(.int (8 : Int32)), (.int ve)]))
  refine ogo (fun _ k => XS.iand X0.here hx rfl (hb hby at_80) rfl k) ?_
  show OGo _ _ _ _ (s₁.setTop (mkF m 81 #[.val (.long va), .second, .val (.long vb), .second, .val (.long vc), .second, .val (.long vd), .second, .val (.int ve), .val (.int w_0_1), .val (.int w_0_2), .val (.int w_0_3), .val (.int w_0_4), .val (.int w_0_6), .val (.int w_0_10), .val (.int w_0_14), .unset, .unset, .unset, .unset] [(.int (ve &&& (8 : Int32)))]))
  suffices J_0_19 : ∀ (w_0_18 : Int32) (hw_0_18 : w_0_18 = (if (ve &&& (8 : Int32)) = (0 : Int32) then (((vd.toUInt64 >>> ((32 : Int32) &&& 0x3f).toInt64.toUInt64).toInt64).toInt32) else w_0_4)), OGo p.tables e below (OFin s (fun v _ L => v = some (.int 1) ∧ Fr n0 L) 16 128) (s₁.setTop (mkF m 95 #[.val (.long va), .second, .val (.long vb), .second, .val (.long vc), .second, .val (.long vd), .second, .val (.int ve), .val (.int w_0_1), .val (.int w_0_2), .val (.int w_0_3), .val (.int w_0_4), .val (.int w_0_6), .val (.int w_0_10), .val (.int w_0_14), .unset, .unset, .unset, .unset] [(.int w_0_18)])) by
    by_cases hc_0_17 : (ve &&& (8 : Int32)) = (0 : Int32)
    · refine ogo (fun _ k => XS.ifYes X0.here hx rfl (pc0 := 81) (pc' := 89) rfl (hb hby at_81) rfl ((if0 _ _).trans (teq hc_0_17).1) (by decide) (by decide) k) ?_
      show OGo _ _ _ _ (s₁.setTop (mkF m 89 #[.val (.long va), .second, .val (.long vb), .second, .val (.long vc), .second, .val (.long vd), .second, .val (.int ve), .val (.int w_0_1), .val (.int w_0_2), .val (.int w_0_3), .val (.int w_0_4), .val (.int w_0_6), .val (.int w_0_10), .val (.int w_0_14), .unset, .unset, .unset, .unset] []))
      refine ogo (fun _ k => XS.lload X0.here hx rfl (hb hby at_89) rfl k) ?_
      show OGo _ _ _ _ (s₁.setTop (mkF m 91 #[.val (.long va), .second, .val (.long vb), .second, .val (.long vc), .second, .val (.long vd), .second, .val (.int ve), .val (.int w_0_1), .val (.int w_0_2), .val (.int w_0_3), .val (.int w_0_4), .val (.int w_0_6), .val (.int w_0_10), .val (.int w_0_14), .unset, .unset, .unset, .unset] [(.long vd)]))
      refine ogo (fun _ k => XS.bipush X0.here hx rfl (hb hby at_91) k) ?_
      show OGo _ _ _ _ (s₁.setTop (mkF m 93 #[.val (.long va), .second, .val (.long vb), .second, .val (.long vc), .second, .val (.long vd), .second, .val (.int ve), .val (.int w_0_1), .val (.int w_0_2), .val (.int w_0_3), .val (.int w_0_4), .val (.int w_0_6), .val (.int w_0_10), .val (.int w_0_14), .unset, .unset, .unset, .unset] [(.int (32 : Int32)), (.long vd)]))
      refine ogo (fun _ k => XS.lushr X0.here hx rfl (hb hby at_93) rfl k) ?_
      show OGo _ _ _ _ (s₁.setTop (mkF m 94 #[.val (.long va), .second, .val (.long vb), .second, .val (.long vc), .second, .val (.long vd), .second, .val (.int ve), .val (.int w_0_1), .val (.int w_0_2), .val (.int w_0_3), .val (.int w_0_4), .val (.int w_0_6), .val (.int w_0_10), .val (.int w_0_14), .unset, .unset, .unset, .unset] [(.long ((vd.toUInt64 >>> ((32 : Int32) &&& 0x3f).toInt64.toUInt64).toInt64))]))
      refine ogo (fun _ k => XS.l2i X0.here hx rfl (hb hby at_94) rfl k) ?_
      show OGo _ _ _ _ (s₁.setTop (mkF m 95 #[.val (.long va), .second, .val (.long vb), .second, .val (.long vc), .second, .val (.long vd), .second, .val (.int ve), .val (.int w_0_1), .val (.int w_0_2), .val (.int w_0_3), .val (.int w_0_4), .val (.int w_0_6), .val (.int w_0_10), .val (.int w_0_14), .unset, .unset, .unset, .unset] [(.int (((vd.toUInt64 >>> ((32 : Int32) &&& 0x3f).toInt64.toUInt64).toInt64).toInt32))]))
      exact J_0_19 _ (if_pos hc_0_17).symm
    · refine ogo (fun _ k => XS.ifNo X0.here hx rfl (hb hby at_81) rfl ((if0 _ _).trans (feq hc_0_17).1) k) ?_
      show OGo _ _ _ _ (s₁.setTop (mkF m 84 #[.val (.long va), .second, .val (.long vb), .second, .val (.long vc), .second, .val (.long vd), .second, .val (.int ve), .val (.int w_0_1), .val (.int w_0_2), .val (.int w_0_3), .val (.int w_0_4), .val (.int w_0_6), .val (.int w_0_10), .val (.int w_0_14), .unset, .unset, .unset, .unset] []))
      refine ogo (fun _ k => XS.iload X0.here hx rfl (hb hby at_84) rfl k) ?_
      show OGo _ _ _ _ (s₁.setTop (mkF m 86 #[.val (.long va), .second, .val (.long vb), .second, .val (.long vc), .second, .val (.long vd), .second, .val (.int ve), .val (.int w_0_1), .val (.int w_0_2), .val (.int w_0_3), .val (.int w_0_4), .val (.int w_0_6), .val (.int w_0_10), .val (.int w_0_14), .unset, .unset, .unset, .unset] [(.int w_0_4)]))
      refine ogo (fun _ k => XS.goto X0.here hx rfl (pc0 := 86) (pc' := 95) rfl (hb hby at_86) (by decide) (by decide) k) ?_
      show OGo _ _ _ _ (s₁.setTop (mkF m 95 #[.val (.long va), .second, .val (.long vb), .second, .val (.long vc), .second, .val (.long vd), .second, .val (.int ve), .val (.int w_0_1), .val (.int w_0_2), .val (.int w_0_3), .val (.int w_0_4), .val (.int w_0_6), .val (.int w_0_10), .val (.int w_0_14), .unset, .unset, .unset, .unset] [(.int w_0_4)]))
      exact J_0_19 _ (if_neg hc_0_17).symm
  intro w_0_18 hw_0_18
  refine ogo (fun _ k => XS.istore X0.here hx rfl (hb hby at_95) rfl (l' := #[.val (.long va), .second, .val (.long vb), .second, .val (.long vc), .second, .val (.long vd), .second, .val (.int ve), .val (.int w_0_1), .val (.int w_0_2), .val (.int w_0_3), .val (.int w_0_4), .val (.int w_0_6), .val (.int w_0_10), .val (.int w_0_14), .val (.int w_0_18), .unset, .unset, .unset]) rfl k) ?_
  show OGo _ _ _ _ (s₁.setTop (mkF m 97 #[.val (.long va), .second, .val (.long vb), .second, .val (.long vc), .second, .val (.long vd), .second, .val (.int ve), .val (.int w_0_1), .val (.int w_0_2), .val (.int w_0_3), .val (.int w_0_4), .val (.int w_0_6), .val (.int w_0_10), .val (.int w_0_14), .val (.int w_0_18), .unset, .unset, .unset] []))
  obtain ⟨T_0_21, h_0_21, X_0_21, e_0_21, E_0_21, A_0_21, D_0_21, -, st_0_21⟩ := newO X0 hx hZ hown (hw _ (List.mem_of_getElem? (i := 0) rfl)) (hw _ (List.mem_of_getElem? (i := 1) rfl)) (hw _ (List.mem_of_getElem? (i := 2) rfl)) e0 (g := (mkF m 97 #[.val (.long va), .second, .val (.long vb), .second, .val (.long vc), .second, .val (.long vd), .second, .val (.int ve), .val (.int w_0_1), .val (.int w_0_2), .val (.int w_0_3), .val (.int w_0_4), .val (.int w_0_6), .val (.int w_0_10), .val (.int w_0_14), .val (.int w_0_18), .unset, .unset, .unset] [])) rfl (hb hby at_97) (by decide) (by decide)
  obtain ⟨b_0_21, g_0_21⟩ : ∃ z, z = h0.size := ⟨_, rfl⟩
  rw [← g_0_21] at A_0_21 D_0_21 st_0_21
  have g_b_0_21 : n0 ≤ b_0_21 := Nat.le_trans Z0 (Nat.le_of_eq g_0_21.symm)
  have Z_0_21 : n0 ≤ h_0_21.size := Nat.le_trans Z0 E_0_21.1
  have f_0_22 : Fld Z h_0_21 b_0_21 "com/example/lean_wiring/leanwiring/Offer$Cost" "checks" "I" (.int (0 : Int32)) := D_0_21 (Or.inr (hw _ (List.mem_of_getElem? (i := 15) rfl))) (ty := .int) (by decide)
  have f_0_23 : Fld Z h_0_21 b_0_21 "com/example/lean_wiring/leanwiring/Offer$Cost" "copies" "I" (.int (0 : Int32)) := D_0_21 (Or.inr (hw _ (List.mem_of_getElem? (i := 17) rfl))) (ty := .int) (by decide)
  have f_0_24 : Fld Z h_0_21 b_0_21 "com/example/lean_wiring/leanwiring/Offer$Cost" "conversions" "I" (.int (0 : Int32)) := D_0_21 (Or.inr (hw _ (List.mem_of_getElem? (i := 19) rfl))) (ty := .int) (by decide)
  have f_0_25 : Fld Z h_0_21 b_0_21 "com/example/lean_wiring/leanwiring/Offer$Cost" "supertypes" "I" (.int (0 : Int32)) := D_0_21 (Or.inr (hw _ (List.mem_of_getElem? (i := 21) rfl))) (ty := .int) (by decide)
  obtain ⟨lc_0_21, N_0_21, X_0_21⟩ : ∃ L, Fr n0 L ∧ Stand p l e room_1 s m #[(.long va), (.long vb), (.long vc), (.long vd), (.int ve)] below meth c T_0_21 L 1 4 := ⟨_, N0, X_0_21⟩
  refine ogo (fun _ k => st_0_21 _ k) ?_
  show OGo _ _ _ _ (T_0_21.setTop (mkF m 100 #[.val (.long va), .second, .val (.long vb), .second, .val (.long vc), .second, .val (.long vd), .second, .val (.int ve), .val (.int w_0_1), .val (.int w_0_2), .val (.int w_0_3), .val (.int w_0_4), .val (.int w_0_6), .val (.int w_0_10), .val (.int w_0_14), .val (.int w_0_18), .unset, .unset, .unset] [(.ref b_0_21)]))
  refine ogo (fun _ k => XS.dup X_0_21.here hx rfl (hb hby at_100) rfl rfl k) ?_
  show OGo _ _ _ _ (T_0_21.setTop (mkF m 101 #[.val (.long va), .second, .val (.long vb), .second, .val (.long vc), .second, .val (.long vd), .second, .val (.int ve), .val (.int w_0_1), .val (.int w_0_2), .val (.int w_0_3), .val (.int w_0_4), .val (.int w_0_6), .val (.int w_0_10), .val (.int w_0_14), .val (.int w_0_18), .unset, .unset, .unset] [(.ref b_0_21), (.ref b_0_21)]))
  refine ogo (fun _ k => XS.iload X_0_21.here hx rfl (hb hby at_101) rfl k) ?_
  show OGo _ _ _ _ (T_0_21.setTop (mkF m 103 #[.val (.long va), .second, .val (.long vb), .second, .val (.long vc), .second, .val (.long vd), .second, .val (.int ve), .val (.int w_0_1), .val (.int w_0_2), .val (.int w_0_3), .val (.int w_0_4), .val (.int w_0_6), .val (.int w_0_10), .val (.int w_0_14), .val (.int w_0_18), .unset, .unset, .unset] [(.int w_0_1), (.ref b_0_21), (.ref b_0_21)]))
  refine ogo (fun _ k => XS.iload X_0_21.here hx rfl (hb hby at_103) rfl k) ?_
  show OGo _ _ _ _ (T_0_21.setTop (mkF m 105 #[.val (.long va), .second, .val (.long vb), .second, .val (.long vc), .second, .val (.long vd), .second, .val (.int ve), .val (.int w_0_1), .val (.int w_0_2), .val (.int w_0_3), .val (.int w_0_4), .val (.int w_0_6), .val (.int w_0_10), .val (.int w_0_14), .val (.int w_0_18), .unset, .unset, .unset] [(.int w_0_2), (.int w_0_1), (.ref b_0_21), (.ref b_0_21)]))
  refine ogo (fun _ k => XS.iload X_0_21.here hx rfl (hb hby at_105) rfl k) ?_
  show OGo _ _ _ _ (T_0_21.setTop (mkF m 107 #[.val (.long va), .second, .val (.long vb), .second, .val (.long vc), .second, .val (.long vd), .second, .val (.int ve), .val (.int w_0_1), .val (.int w_0_2), .val (.int w_0_3), .val (.int w_0_4), .val (.int w_0_6), .val (.int w_0_10), .val (.int w_0_14), .val (.int w_0_18), .unset, .unset, .unset] [(.int w_0_3), (.int w_0_2), (.int w_0_1), (.ref b_0_21), (.ref b_0_21)]))
  refine ogo (fun _ k => XS.iload X_0_21.here hx rfl (hb hby at_107) rfl k) ?_
  show OGo _ _ _ _ (T_0_21.setTop (mkF m 109 #[.val (.long va), .second, .val (.long vb), .second, .val (.long vc), .second, .val (.long vd), .second, .val (.int ve), .val (.int w_0_1), .val (.int w_0_2), .val (.int w_0_3), .val (.int w_0_4), .val (.int w_0_6), .val (.int w_0_10), .val (.int w_0_14), .val (.int w_0_18), .unset, .unset, .unset] [(.int w_0_4), (.int w_0_3), (.int w_0_2), (.int w_0_1), (.ref b_0_21), (.ref b_0_21)]))
  obtain ⟨v_0_26, T_0_26, h_0_26, L_0_26, e_0_26, hQ_0_26, X_0_26, st_0_26⟩ := ospecQ X_0_21 hx hZ e_0_21 (rm1 l Z a0 hw b_0_21 w_0_1 w_0_2 w_0_3 w_0_4  h_0_21 n0 Z_0_21 A_0_21 f_0_22 f_0_23 f_0_24 f_0_25 g_b_0_21) rfl hown (hw _ (List.mem_of_getElem? (i := 3) rfl)) (hw _ (List.mem_of_getElem? (i := 4) rfl)) (hw _ (List.mem_of_getElem? (i := 2) rfl)) (hw _ (List.mem_of_getElem? (i := 5) rfl)) (by decide) (b := b_0_21) (g := (mkF m 109 #[.val (.long va), .second, .val (.long vb), .second, .val (.long vc), .second, .val (.long vd), .second, .val (.int ve), .val (.int w_0_1), .val (.int w_0_2), .val (.int w_0_3), .val (.int w_0_4), .val (.int w_0_6), .val (.int w_0_10), .val (.int w_0_14), .val (.int w_0_18), .unset, .unset, .unset] [(.int w_0_4), (.int w_0_3), (.int w_0_2), (.int w_0_1), (.ref b_0_21), (.ref b_0_21)])) rfl (by rw [hml]; rfl) [(.int w_0_1), (.int w_0_2), (.int w_0_3), (.int w_0_4)] [(.ref b_0_21)] rfl (lenOf pd__IIII_V rfl) rfl (hb hby at_109) 1 (by show 2 * 0 + _ ≤ _; exact Nat.le_of_eq rfl) (by decide) (by decide) (by decide) (by decide)
  obtain ⟨rfl, Nq_0_26, Kc_0_26, f_0_27, f_0_28, f_0_29, f_0_30⟩ := hQ_0_26
  have f_0_31 := A_0_21.keep Kc_0_26
  have Z_0_26 : n0 ≤ h_0_26.size := Nat.le_trans Z_0_21 Kc_0_26.1
  obtain ⟨lc_0_26, N_0_26, X_0_26⟩ : ∃ L, Fr n0 L ∧ Stand p l e room_1 s m #[(.long va), (.long vb), (.long vc), (.long vd), (.int ve)] below meth c T_0_26 L 1 4 := ⟨_, Fr.app N_0_21 Nq_0_26, X_0_26⟩
  refine ogo (fun _ k => st_0_26 _ k) ?_
  show OGo _ _ _ _ (T_0_26.setTop (mkF m 112 #[.val (.long va), .second, .val (.long vb), .second, .val (.long vc), .second, .val (.long vd), .second, .val (.int ve), .val (.int w_0_1), .val (.int w_0_2), .val (.int w_0_3), .val (.int w_0_4), .val (.int w_0_6), .val (.int w_0_10), .val (.int w_0_14), .val (.int w_0_18), .unset, .unset, .unset] [(.ref b_0_21)]))
  refine ogo (fun _ k => XS.astore X_0_26.here hx rfl (hb hby at_112) rfl rfl (l' := #[.val (.long va), .second, .val (.long vb), .second, .val (.long vc), .second, .val (.long vd), .second, .val (.int ve), .val (.int w_0_1), .val (.int w_0_2), .val (.int w_0_3), .val (.int w_0_4), .val (.int w_0_6), .val (.int w_0_10), .val (.int w_0_14), .val (.int w_0_18), .val (.ref b_0_21), .unset, .unset]) rfl k) ?_
  show OGo _ _ _ _ (T_0_26.setTop (mkF m 114 #[.val (.long va), .second, .val (.long vb), .second, .val (.long vc), .second, .val (.long vd), .second, .val (.int ve), .val (.int w_0_1), .val (.int w_0_2), .val (.int w_0_3), .val (.int w_0_4), .val (.int w_0_6), .val (.int w_0_10), .val (.int w_0_14), .val (.int w_0_18), .val (.ref b_0_21), .unset, .unset] []))
  obtain ⟨T_0_32, h_0_32, X_0_32, e_0_32, E_0_32, A_0_32, D_0_32, -, st_0_32⟩ := newO X_0_26 hx hZ hown (hw _ (List.mem_of_getElem? (i := 0) rfl)) (hw _ (List.mem_of_getElem? (i := 1) rfl)) (hw _ (List.mem_of_getElem? (i := 2) rfl)) e_0_26 (g := (mkF m 114 #[.val (.long va), .second, .val (.long vb), .second, .val (.long vc), .second, .val (.long vd), .second, .val (.int ve), .val (.int w_0_1), .val (.int w_0_2), .val (.int w_0_3), .val (.int w_0_4), .val (.int w_0_6), .val (.int w_0_10), .val (.int w_0_14), .val (.int w_0_18), .val (.ref b_0_21), .unset, .unset] [])) rfl (hb hby at_114) (by decide) (by decide)
  obtain ⟨b_0_32, g_0_32⟩ : ∃ z, z = h_0_26.size := ⟨_, rfl⟩
  rw [← g_0_32] at A_0_32 D_0_32 st_0_32
  have g_b_0_32 : n0 ≤ b_0_32 := Nat.le_trans Z_0_26 (Nat.le_of_eq g_0_32.symm)
  have ne_b_0_21_b_0_32 : b_0_21 ≠ b_0_32 := Nat.ne_of_lt (Nat.lt_of_lt_of_le f_0_30.lt (Nat.le_of_eq g_0_32.symm))
  have f_0_33 := f_0_31.ext E_0_32
  have f_0_34 := f_0_27.ext E_0_32
  have f_0_35 := f_0_28.ext E_0_32
  have f_0_36 := f_0_29.ext E_0_32
  have f_0_37 := f_0_30.ext E_0_32
  have Z_0_32 : n0 ≤ h_0_32.size := Nat.le_trans Z_0_26 E_0_32.1
  have f_0_38 : Fld Z h_0_32 b_0_32 "com/example/lean_wiring/leanwiring/Offer$Cost" "checks" "I" (.int (0 : Int32)) := D_0_32 (Or.inr (hw _ (List.mem_of_getElem? (i := 15) rfl))) (ty := .int) (by decide)
  have f_0_39 : Fld Z h_0_32 b_0_32 "com/example/lean_wiring/leanwiring/Offer$Cost" "copies" "I" (.int (0 : Int32)) := D_0_32 (Or.inr (hw _ (List.mem_of_getElem? (i := 17) rfl))) (ty := .int) (by decide)
  have f_0_40 : Fld Z h_0_32 b_0_32 "com/example/lean_wiring/leanwiring/Offer$Cost" "conversions" "I" (.int (0 : Int32)) := D_0_32 (Or.inr (hw _ (List.mem_of_getElem? (i := 19) rfl))) (ty := .int) (by decide)
  have f_0_41 : Fld Z h_0_32 b_0_32 "com/example/lean_wiring/leanwiring/Offer$Cost" "supertypes" "I" (.int (0 : Int32)) := D_0_32 (Or.inr (hw _ (List.mem_of_getElem? (i := 21) rfl))) (ty := .int) (by decide)
  obtain ⟨lc_0_32, N_0_32, X_0_32⟩ : ∃ L, Fr n0 L ∧ Stand p l e room_1 s m #[(.long va), (.long vb), (.long vc), (.long vd), (.int ve)] below meth c T_0_32 L 2 8 := ⟨_, N_0_26, X_0_32⟩
  refine ogo (fun _ k => st_0_32 _ k) ?_
  show OGo _ _ _ _ (T_0_32.setTop (mkF m 117 #[.val (.long va), .second, .val (.long vb), .second, .val (.long vc), .second, .val (.long vd), .second, .val (.int ve), .val (.int w_0_1), .val (.int w_0_2), .val (.int w_0_3), .val (.int w_0_4), .val (.int w_0_6), .val (.int w_0_10), .val (.int w_0_14), .val (.int w_0_18), .val (.ref b_0_21), .unset, .unset] [(.ref b_0_32)]))
  refine ogo (fun _ k => XS.dup X_0_32.here hx rfl (hb hby at_117) rfl rfl k) ?_
  show OGo _ _ _ _ (T_0_32.setTop (mkF m 118 #[.val (.long va), .second, .val (.long vb), .second, .val (.long vc), .second, .val (.long vd), .second, .val (.int ve), .val (.int w_0_1), .val (.int w_0_2), .val (.int w_0_3), .val (.int w_0_4), .val (.int w_0_6), .val (.int w_0_10), .val (.int w_0_14), .val (.int w_0_18), .val (.ref b_0_21), .unset, .unset] [(.ref b_0_32), (.ref b_0_32)]))
  refine ogo (fun _ k => XS.iload X_0_32.here hx rfl (hb hby at_118) rfl k) ?_
  show OGo _ _ _ _ (T_0_32.setTop (mkF m 120 #[.val (.long va), .second, .val (.long vb), .second, .val (.long vc), .second, .val (.long vd), .second, .val (.int ve), .val (.int w_0_1), .val (.int w_0_2), .val (.int w_0_3), .val (.int w_0_4), .val (.int w_0_6), .val (.int w_0_10), .val (.int w_0_14), .val (.int w_0_18), .val (.ref b_0_21), .unset, .unset] [(.int w_0_6), (.ref b_0_32), (.ref b_0_32)]))
  refine ogo (fun _ k => XS.iload X_0_32.here hx rfl (hb hby at_120) rfl k) ?_
  show OGo _ _ _ _ (T_0_32.setTop (mkF m 122 #[.val (.long va), .second, .val (.long vb), .second, .val (.long vc), .second, .val (.long vd), .second, .val (.int ve), .val (.int w_0_1), .val (.int w_0_2), .val (.int w_0_3), .val (.int w_0_4), .val (.int w_0_6), .val (.int w_0_10), .val (.int w_0_14), .val (.int w_0_18), .val (.ref b_0_21), .unset, .unset] [(.int w_0_10), (.int w_0_6), (.ref b_0_32), (.ref b_0_32)]))
  refine ogo (fun _ k => XS.iload X_0_32.here hx rfl (hb hby at_122) rfl k) ?_
  show OGo _ _ _ _ (T_0_32.setTop (mkF m 124 #[.val (.long va), .second, .val (.long vb), .second, .val (.long vc), .second, .val (.long vd), .second, .val (.int ve), .val (.int w_0_1), .val (.int w_0_2), .val (.int w_0_3), .val (.int w_0_4), .val (.int w_0_6), .val (.int w_0_10), .val (.int w_0_14), .val (.int w_0_18), .val (.ref b_0_21), .unset, .unset] [(.int w_0_14), (.int w_0_10), (.int w_0_6), (.ref b_0_32), (.ref b_0_32)]))
  refine ogo (fun _ k => XS.iload X_0_32.here hx rfl (hb hby at_124) rfl k) ?_
  show OGo _ _ _ _ (T_0_32.setTop (mkF m 126 #[.val (.long va), .second, .val (.long vb), .second, .val (.long vc), .second, .val (.long vd), .second, .val (.int ve), .val (.int w_0_1), .val (.int w_0_2), .val (.int w_0_3), .val (.int w_0_4), .val (.int w_0_6), .val (.int w_0_10), .val (.int w_0_14), .val (.int w_0_18), .val (.ref b_0_21), .unset, .unset] [(.int w_0_18), (.int w_0_14), (.int w_0_10), (.int w_0_6), (.ref b_0_32), (.ref b_0_32)]))
  obtain ⟨v_0_42, T_0_42, h_0_42, L_0_42, e_0_42, hQ_0_42, X_0_42, st_0_42⟩ := ospecQ X_0_32 hx hZ e_0_32 (rm1 l Z a0 hw b_0_32 w_0_6 w_0_10 w_0_14 w_0_18  h_0_32 n0 Z_0_32 A_0_32 f_0_38 f_0_39 f_0_40 f_0_41 g_b_0_32) rfl hown (hw _ (List.mem_of_getElem? (i := 3) rfl)) (hw _ (List.mem_of_getElem? (i := 4) rfl)) (hw _ (List.mem_of_getElem? (i := 2) rfl)) (hw _ (List.mem_of_getElem? (i := 5) rfl)) (by decide) (b := b_0_32) (g := (mkF m 126 #[.val (.long va), .second, .val (.long vb), .second, .val (.long vc), .second, .val (.long vd), .second, .val (.int ve), .val (.int w_0_1), .val (.int w_0_2), .val (.int w_0_3), .val (.int w_0_4), .val (.int w_0_6), .val (.int w_0_10), .val (.int w_0_14), .val (.int w_0_18), .val (.ref b_0_21), .unset, .unset] [(.int w_0_18), (.int w_0_14), (.int w_0_10), (.int w_0_6), (.ref b_0_32), (.ref b_0_32)])) rfl (by rw [hml]; rfl) [(.int w_0_6), (.int w_0_10), (.int w_0_14), (.int w_0_18)] [(.ref b_0_32)] rfl (lenOf pd__IIII_V rfl) rfl (hb hby at_126) 1 (by show 2 * 0 + _ ≤ _; exact Nat.le_of_eq rfl) (by decide) (by decide) (by decide) (by decide)
  obtain ⟨rfl, Nq_0_42, Kc_0_42, f_0_43, f_0_44, f_0_45, f_0_46⟩ := hQ_0_42
  have f_0_47 := f_0_33.keep Kc_0_42
  have f_0_48 := f_0_34.keep Kc_0_42 (ninS ne_b_0_21_b_0_32 nin0)
  have f_0_49 := f_0_35.keep Kc_0_42 (ninS ne_b_0_21_b_0_32 nin0)
  have f_0_50 := f_0_36.keep Kc_0_42 (ninS ne_b_0_21_b_0_32 nin0)
  have f_0_51 := f_0_37.keep Kc_0_42 (ninS ne_b_0_21_b_0_32 nin0)
  have f_0_52 := A_0_32.keep Kc_0_42
  have Z_0_42 : n0 ≤ h_0_42.size := Nat.le_trans Z_0_32 Kc_0_42.1
  obtain ⟨lc_0_42, N_0_42, X_0_42⟩ : ∃ L, Fr n0 L ∧ Stand p l e room_1 s m #[(.long va), (.long vb), (.long vc), (.long vd), (.int ve)] below meth c T_0_42 L 2 8 := ⟨_, Fr.app N_0_32 Nq_0_42, X_0_42⟩
  refine ogo (fun _ k => st_0_42 _ k) ?_
  show OGo _ _ _ _ (T_0_42.setTop (mkF m 129 #[.val (.long va), .second, .val (.long vb), .second, .val (.long vc), .second, .val (.long vd), .second, .val (.int ve), .val (.int w_0_1), .val (.int w_0_2), .val (.int w_0_3), .val (.int w_0_4), .val (.int w_0_6), .val (.int w_0_10), .val (.int w_0_14), .val (.int w_0_18), .val (.ref b_0_21), .unset, .unset] [(.ref b_0_32)]))
  refine ogo (fun _ k => XS.astore X_0_42.here hx rfl (hb hby at_129) rfl rfl (l' := #[.val (.long va), .second, .val (.long vb), .second, .val (.long vc), .second, .val (.long vd), .second, .val (.int ve), .val (.int w_0_1), .val (.int w_0_2), .val (.int w_0_3), .val (.int w_0_4), .val (.int w_0_6), .val (.int w_0_10), .val (.int w_0_14), .val (.int w_0_18), .val (.ref b_0_21), .val (.ref b_0_32), .unset]) rfl k) ?_
  show OGo _ _ _ _ (T_0_42.setTop (mkF m 131 #[.val (.long va), .second, .val (.long vb), .second, .val (.long vc), .second, .val (.long vd), .second, .val (.int ve), .val (.int w_0_1), .val (.int w_0_2), .val (.int w_0_3), .val (.int w_0_4), .val (.int w_0_6), .val (.int w_0_10), .val (.int w_0_14), .val (.int w_0_18), .val (.ref b_0_21), .val (.ref b_0_32), .unset] []))
  refine ogo (fun _ k => XS.iload X_0_42.here hx rfl (hb hby at_131) rfl k) ?_
  show OGo _ _ _ _ (T_0_42.setTop (mkF m 133 #[.val (.long va), .second, .val (.long vb), .second, .val (.long vc), .second, .val (.long vd), .second, .val (.int ve), .val (.int w_0_1), .val (.int w_0_2), .val (.int w_0_3), .val (.int w_0_4), .val (.int w_0_6), .val (.int w_0_10), .val (.int w_0_14), .val (.int w_0_18), .val (.ref b_0_21), .val (.ref b_0_32), .unset] [(.int w_0_1)]))
  refine ogo (fun _ k => XS.iload X_0_42.here hx rfl (hb hby at_133) rfl k) ?_
  show OGo _ _ _ _ (T_0_42.setTop (mkF m 135 #[.val (.long va), .second, .val (.long vb), .second, .val (.long vc), .second, .val (.long vd), .second, .val (.int ve), .val (.int w_0_1), .val (.int w_0_2), .val (.int w_0_3), .val (.int w_0_4), .val (.int w_0_6), .val (.int w_0_10), .val (.int w_0_14), .val (.int w_0_18), .val (.ref b_0_21), .val (.ref b_0_32), .unset] [(.int w_0_6), (.int w_0_1)]))
  suffices J_0_71 : ∀ (w_0_70 : Int32) (hw_0_70 : w_0_70 = (if w_0_1 = w_0_6 then (if w_0_2 = w_0_10 then (if w_0_3 = w_0_14 then (if w_0_4 = w_0_18 then (0 : Int32) else (cmpF w_0_4 w_0_18)) else (cmpF w_0_3 w_0_14)) else (cmpF w_0_2 w_0_10)) else (cmpF w_0_1 w_0_6))) (T_0_72 : State) (X_0_72 : Stand p l e room_1 s m #[(.long va), (.long vb), (.long vc), (.long vd), (.int ve)] below meth c T_0_72 lc_0_42 2 8) (e_0_72 : T_0_72.heap = h_0_42), OGo p.tables e below (OFin s (fun v _ L => v = some (.int 1) ∧ Fr n0 L) 16 128) (T_0_72.setTop (mkF m 210 #[.val (.long va), .second, .val (.long vb), .second, .val (.long vc), .second, .val (.long vd), .second, .val (.int ve), .val (.int w_0_1), .val (.int w_0_2), .val (.int w_0_3), .val (.int w_0_4), .val (.int w_0_6), .val (.int w_0_10), .val (.int w_0_14), .val (.int w_0_18), .val (.ref b_0_21), .val (.ref b_0_32), .val (.int w_0_70)] [])) by
    by_cases hc_0_53 : w_0_1 = w_0_6
    · refine ogo (fun _ k => XS.icmpYes X_0_42.here hx rfl (pc0 := 135) (pc' := 150) rfl (hb hby at_135) rfl (teq hc_0_53).1 (by decide) (by decide) k) ?_
      show OGo _ _ _ _ (T_0_42.setTop (mkF m 150 #[.val (.long va), .second, .val (.long vb), .second, .val (.long vc), .second, .val (.long vd), .second, .val (.int ve), .val (.int w_0_1), .val (.int w_0_2), .val (.int w_0_3), .val (.int w_0_4), .val (.int w_0_6), .val (.int w_0_10), .val (.int w_0_14), .val (.int w_0_18), .val (.ref b_0_21), .val (.ref b_0_32), .unset] []))
      refine ogo (fun _ k => XS.iload X_0_42.here hx rfl (hb hby at_150) rfl k) ?_
      show OGo _ _ _ _ (T_0_42.setTop (mkF m 152 #[.val (.long va), .second, .val (.long vb), .second, .val (.long vc), .second, .val (.long vd), .second, .val (.int ve), .val (.int w_0_1), .val (.int w_0_2), .val (.int w_0_3), .val (.int w_0_4), .val (.int w_0_6), .val (.int w_0_10), .val (.int w_0_14), .val (.int w_0_18), .val (.ref b_0_21), .val (.ref b_0_32), .unset] [(.int w_0_2)]))
      refine ogo (fun _ k => XS.iload X_0_42.here hx rfl (hb hby at_152) rfl k) ?_
      show OGo _ _ _ _ (T_0_42.setTop (mkF m 154 #[.val (.long va), .second, .val (.long vb), .second, .val (.long vc), .second, .val (.long vd), .second, .val (.int ve), .val (.int w_0_1), .val (.int w_0_2), .val (.int w_0_3), .val (.int w_0_4), .val (.int w_0_6), .val (.int w_0_10), .val (.int w_0_14), .val (.int w_0_18), .val (.ref b_0_21), .val (.ref b_0_32), .unset] [(.int w_0_10), (.int w_0_2)]))
      suffices J_0_67 : ∀ (w_0_66 : Int32) (hw_0_66 : w_0_66 = (if w_0_2 = w_0_10 then (if w_0_3 = w_0_14 then (if w_0_4 = w_0_18 then (0 : Int32) else (cmpF w_0_4 w_0_18)) else (cmpF w_0_3 w_0_14)) else (cmpF w_0_2 w_0_10))) (T_0_68 : State) (X_0_68 : Stand p l e room_1 s m #[(.long va), (.long vb), (.long vc), (.long vd), (.int ve)] below meth c T_0_68 lc_0_42 2 8) (e_0_68 : T_0_68.heap = h_0_42), OGo p.tables e below (OFin s (fun v _ L => v = some (.int 1) ∧ Fr n0 L) 16 128) (T_0_68.setTop (mkF m 210 #[.val (.long va), .second, .val (.long vb), .second, .val (.long vc), .second, .val (.long vd), .second, .val (.int ve), .val (.int w_0_1), .val (.int w_0_2), .val (.int w_0_3), .val (.int w_0_4), .val (.int w_0_6), .val (.int w_0_10), .val (.int w_0_14), .val (.int w_0_18), .val (.ref b_0_21), .val (.ref b_0_32), .val (.int w_0_66)] [])) by
        by_cases hc_0_54 : w_0_2 = w_0_10
        · refine ogo (fun _ k => XS.icmpYes X_0_42.here hx rfl (pc0 := 154) (pc' := 169) rfl (hb hby at_154) rfl (teq hc_0_54).1 (by decide) (by decide) k) ?_
          show OGo _ _ _ _ (T_0_42.setTop (mkF m 169 #[.val (.long va), .second, .val (.long vb), .second, .val (.long vc), .second, .val (.long vd), .second, .val (.int ve), .val (.int w_0_1), .val (.int w_0_2), .val (.int w_0_3), .val (.int w_0_4), .val (.int w_0_6), .val (.int w_0_10), .val (.int w_0_14), .val (.int w_0_18), .val (.ref b_0_21), .val (.ref b_0_32), .unset] []))
          refine ogo (fun _ k => XS.iload X_0_42.here hx rfl (hb hby at_169) rfl k) ?_
          show OGo _ _ _ _ (T_0_42.setTop (mkF m 171 #[.val (.long va), .second, .val (.long vb), .second, .val (.long vc), .second, .val (.long vd), .second, .val (.int ve), .val (.int w_0_1), .val (.int w_0_2), .val (.int w_0_3), .val (.int w_0_4), .val (.int w_0_6), .val (.int w_0_10), .val (.int w_0_14), .val (.int w_0_18), .val (.ref b_0_21), .val (.ref b_0_32), .unset] [(.int w_0_3)]))
          refine ogo (fun _ k => XS.iload X_0_42.here hx rfl (hb hby at_171) rfl k) ?_
          show OGo _ _ _ _ (T_0_42.setTop (mkF m 173 #[.val (.long va), .second, .val (.long vb), .second, .val (.long vc), .second, .val (.long vd), .second, .val (.int ve), .val (.int w_0_1), .val (.int w_0_2), .val (.int w_0_3), .val (.int w_0_4), .val (.int w_0_6), .val (.int w_0_10), .val (.int w_0_14), .val (.int w_0_18), .val (.ref b_0_21), .val (.ref b_0_32), .unset] [(.int w_0_14), (.int w_0_3)]))
          suffices J_0_63 : ∀ (w_0_62 : Int32) (hw_0_62 : w_0_62 = (if w_0_3 = w_0_14 then (if w_0_4 = w_0_18 then (0 : Int32) else (cmpF w_0_4 w_0_18)) else (cmpF w_0_3 w_0_14))) (T_0_64 : State) (X_0_64 : Stand p l e room_1 s m #[(.long va), (.long vb), (.long vc), (.long vd), (.int ve)] below meth c T_0_64 lc_0_42 2 8) (e_0_64 : T_0_64.heap = h_0_42), OGo p.tables e below (OFin s (fun v _ L => v = some (.int 1) ∧ Fr n0 L) 16 128) (T_0_64.setTop (mkF m 210 #[.val (.long va), .second, .val (.long vb), .second, .val (.long vc), .second, .val (.long vd), .second, .val (.int ve), .val (.int w_0_1), .val (.int w_0_2), .val (.int w_0_3), .val (.int w_0_4), .val (.int w_0_6), .val (.int w_0_10), .val (.int w_0_14), .val (.int w_0_18), .val (.ref b_0_21), .val (.ref b_0_32), .val (.int w_0_62)] [])) by
            by_cases hc_0_55 : w_0_3 = w_0_14
            · refine ogo (fun _ k => XS.icmpYes X_0_42.here hx rfl (pc0 := 173) (pc' := 188) rfl (hb hby at_173) rfl (teq hc_0_55).1 (by decide) (by decide) k) ?_
              show OGo _ _ _ _ (T_0_42.setTop (mkF m 188 #[.val (.long va), .second, .val (.long vb), .second, .val (.long vc), .second, .val (.long vd), .second, .val (.int ve), .val (.int w_0_1), .val (.int w_0_2), .val (.int w_0_3), .val (.int w_0_4), .val (.int w_0_6), .val (.int w_0_10), .val (.int w_0_14), .val (.int w_0_18), .val (.ref b_0_21), .val (.ref b_0_32), .unset] []))
              refine ogo (fun _ k => XS.iload X_0_42.here hx rfl (hb hby at_188) rfl k) ?_
              show OGo _ _ _ _ (T_0_42.setTop (mkF m 190 #[.val (.long va), .second, .val (.long vb), .second, .val (.long vc), .second, .val (.long vd), .second, .val (.int ve), .val (.int w_0_1), .val (.int w_0_2), .val (.int w_0_3), .val (.int w_0_4), .val (.int w_0_6), .val (.int w_0_10), .val (.int w_0_14), .val (.int w_0_18), .val (.ref b_0_21), .val (.ref b_0_32), .unset] [(.int w_0_4)]))
              refine ogo (fun _ k => XS.iload X_0_42.here hx rfl (hb hby at_190) rfl k) ?_
              show OGo _ _ _ _ (T_0_42.setTop (mkF m 192 #[.val (.long va), .second, .val (.long vb), .second, .val (.long vc), .second, .val (.long vd), .second, .val (.int ve), .val (.int w_0_1), .val (.int w_0_2), .val (.int w_0_3), .val (.int w_0_4), .val (.int w_0_6), .val (.int w_0_10), .val (.int w_0_14), .val (.int w_0_18), .val (.ref b_0_21), .val (.ref b_0_32), .unset] [(.int w_0_18), (.int w_0_4)]))
              suffices J_0_59 : ∀ (w_0_58 : Int32) (hw_0_58 : w_0_58 = (if w_0_4 = w_0_18 then (0 : Int32) else (cmpF w_0_4 w_0_18))) (T_0_60 : State) (X_0_60 : Stand p l e room_1 s m #[(.long va), (.long vb), (.long vc), (.long vd), (.int ve)] below meth c T_0_60 lc_0_42 2 8) (e_0_60 : T_0_60.heap = h_0_42), OGo p.tables e below (OFin s (fun v _ L => v = some (.int 1) ∧ Fr n0 L) 16 128) (T_0_60.setTop (mkF m 210 #[.val (.long va), .second, .val (.long vb), .second, .val (.long vc), .second, .val (.long vd), .second, .val (.int ve), .val (.int w_0_1), .val (.int w_0_2), .val (.int w_0_3), .val (.int w_0_4), .val (.int w_0_6), .val (.int w_0_10), .val (.int w_0_14), .val (.int w_0_18), .val (.ref b_0_21), .val (.ref b_0_32), .val (.int w_0_58)] [])) by
                by_cases hc_0_56 : w_0_4 = w_0_18
                · refine ogo (fun _ k => XS.icmpYes X_0_42.here hx rfl (pc0 := 192) (pc' := 207) rfl (hb hby at_192) rfl (teq hc_0_56).1 (by decide) (by decide) k) ?_
                  show OGo _ _ _ _ (T_0_42.setTop (mkF m 207 #[.val (.long va), .second, .val (.long vb), .second, .val (.long vc), .second, .val (.long vd), .second, .val (.int ve), .val (.int w_0_1), .val (.int w_0_2), .val (.int w_0_3), .val (.int w_0_4), .val (.int w_0_6), .val (.int w_0_10), .val (.int w_0_14), .val (.int w_0_18), .val (.ref b_0_21), .val (.ref b_0_32), .unset] []))
                  refine ogo (fun _ k => XS.iconst X_0_42.here hx rfl (hb hby at_207) k) ?_
                  show OGo _ _ _ _ (T_0_42.setTop (mkF m 208 #[.val (.long va), .second, .val (.long vb), .second, .val (.long vc), .second, .val (.long vd), .second, .val (.int ve), .val (.int w_0_1), .val (.int w_0_2), .val (.int w_0_3), .val (.int w_0_4), .val (.int w_0_6), .val (.int w_0_10), .val (.int w_0_14), .val (.int w_0_18), .val (.ref b_0_21), .val (.ref b_0_32), .unset] [(.int (0 : Int32))]))
                  refine ogo (fun _ k => XS.istore X_0_42.here hx rfl (hb hby at_208) rfl (l' := #[.val (.long va), .second, .val (.long vb), .second, .val (.long vc), .second, .val (.long vd), .second, .val (.int ve), .val (.int w_0_1), .val (.int w_0_2), .val (.int w_0_3), .val (.int w_0_4), .val (.int w_0_6), .val (.int w_0_10), .val (.int w_0_14), .val (.int w_0_18), .val (.ref b_0_21), .val (.ref b_0_32), .val (.int (0 : Int32))]) rfl k) ?_
                  show OGo _ _ _ _ (T_0_42.setTop (mkF m 210 #[.val (.long va), .second, .val (.long vb), .second, .val (.long vc), .second, .val (.long vd), .second, .val (.int ve), .val (.int w_0_1), .val (.int w_0_2), .val (.int w_0_3), .val (.int w_0_4), .val (.int w_0_6), .val (.int w_0_10), .val (.int w_0_14), .val (.int w_0_18), .val (.ref b_0_21), .val (.ref b_0_32), .val (.int (0 : Int32))] []))
                  exact J_0_59 _ (if_pos hc_0_56).symm _ X_0_42 e_0_42
                · refine ogo (fun _ k => XS.icmpNo X_0_42.here hx rfl (hb hby at_192) rfl (feq hc_0_56).1 k) ?_
                  show OGo _ _ _ _ (T_0_42.setTop (mkF m 195 #[.val (.long va), .second, .val (.long vb), .second, .val (.long vc), .second, .val (.long vd), .second, .val (.int ve), .val (.int w_0_1), .val (.int w_0_2), .val (.int w_0_3), .val (.int w_0_4), .val (.int w_0_6), .val (.int w_0_10), .val (.int w_0_14), .val (.int w_0_18), .val (.ref b_0_21), .val (.ref b_0_32), .unset] []))
                  refine ogo (fun _ k => XS.iload X_0_42.here hx rfl (hb hby at_195) rfl k) ?_
                  show OGo _ _ _ _ (T_0_42.setTop (mkF m 197 #[.val (.long va), .second, .val (.long vb), .second, .val (.long vc), .second, .val (.long vd), .second, .val (.int ve), .val (.int w_0_1), .val (.int w_0_2), .val (.int w_0_3), .val (.int w_0_4), .val (.int w_0_6), .val (.int w_0_10), .val (.int w_0_14), .val (.int w_0_18), .val (.ref b_0_21), .val (.ref b_0_32), .unset] [(.int w_0_4)]))
                  refine ogo (fun _ k => XS.iload X_0_42.here hx rfl (hb hby at_197) rfl k) ?_
                  show OGo _ _ _ _ (T_0_42.setTop (mkF m 199 #[.val (.long va), .second, .val (.long vb), .second, .val (.long vc), .second, .val (.long vd), .second, .val (.int ve), .val (.int w_0_1), .val (.int w_0_2), .val (.int w_0_3), .val (.int w_0_4), .val (.int w_0_6), .val (.int w_0_10), .val (.int w_0_14), .val (.int w_0_18), .val (.ref b_0_21), .val (.ref b_0_32), .unset] [(.int w_0_18), (.int w_0_4)]))
                  obtain ⟨T_0_57, X_0_57, e_0_57, st_0_57⟩ := ocallP X_0_42 hx hZ e_0_42 (rm4 l Z a0 hw w_0_4 w_0_18  h_0_42 ) hown (hw _ (List.mem_of_getElem? (i := 22) rfl)) (hw _ (List.mem_of_getElem? (i := 23) rfl)) (hw _ (List.mem_of_getElem? (i := 24) rfl)) (hw _ (List.mem_of_getElem? (i := 25) rfl)) (by decide) (g := (mkF m 199 #[.val (.long va), .second, .val (.long vb), .second, .val (.long vc), .second, .val (.long vd), .second, .val (.int ve), .val (.int w_0_1), .val (.int w_0_2), .val (.int w_0_3), .val (.int w_0_4), .val (.int w_0_6), .val (.int w_0_10), .val (.int w_0_14), .val (.int w_0_18), .val (.ref b_0_21), .val (.ref b_0_32), .unset] [(.int w_0_18), (.int w_0_4)])) rfl (by rw [hml]; rfl) [(.int w_0_4), (.int w_0_18)] [] rfl (lenOf pd__II_I rfl) rfl (hb hby at_199) 0 (by show 2 * 0 + _ ≤ _; exact Nat.le_of_eq rfl) (by decide) (by decide) (by decide) (by decide) rfl rfl
                  refine ogo (fun _ k => st_0_57 _ k) ?_
                  show OGo _ _ _ _ (T_0_57.setTop (mkF m 202 #[.val (.long va), .second, .val (.long vb), .second, .val (.long vc), .second, .val (.long vd), .second, .val (.int ve), .val (.int w_0_1), .val (.int w_0_2), .val (.int w_0_3), .val (.int w_0_4), .val (.int w_0_6), .val (.int w_0_10), .val (.int w_0_14), .val (.int w_0_18), .val (.ref b_0_21), .val (.ref b_0_32), .unset] [(.int (cmpF w_0_4 w_0_18))]))
                  refine ogo (fun _ k => XS.istore X_0_57.here hx rfl (hb hby at_202) rfl (l' := #[.val (.long va), .second, .val (.long vb), .second, .val (.long vc), .second, .val (.long vd), .second, .val (.int ve), .val (.int w_0_1), .val (.int w_0_2), .val (.int w_0_3), .val (.int w_0_4), .val (.int w_0_6), .val (.int w_0_10), .val (.int w_0_14), .val (.int w_0_18), .val (.ref b_0_21), .val (.ref b_0_32), .val (.int (cmpF w_0_4 w_0_18))]) rfl k) ?_
                  show OGo _ _ _ _ (T_0_57.setTop (mkF m 204 #[.val (.long va), .second, .val (.long vb), .second, .val (.long vc), .second, .val (.long vd), .second, .val (.int ve), .val (.int w_0_1), .val (.int w_0_2), .val (.int w_0_3), .val (.int w_0_4), .val (.int w_0_6), .val (.int w_0_10), .val (.int w_0_14), .val (.int w_0_18), .val (.ref b_0_21), .val (.ref b_0_32), .val (.int (cmpF w_0_4 w_0_18))] []))
                  refine ogo (fun _ k => XS.goto X_0_57.here hx rfl (pc0 := 204) (pc' := 210) rfl (hb hby at_204) (by decide) (by decide) k) ?_
                  show OGo _ _ _ _ (T_0_57.setTop (mkF m 210 #[.val (.long va), .second, .val (.long vb), .second, .val (.long vc), .second, .val (.long vd), .second, .val (.int ve), .val (.int w_0_1), .val (.int w_0_2), .val (.int w_0_3), .val (.int w_0_4), .val (.int w_0_6), .val (.int w_0_10), .val (.int w_0_14), .val (.int w_0_18), .val (.ref b_0_21), .val (.ref b_0_32), .val (.int (cmpF w_0_4 w_0_18))] []))
                  exact J_0_59 _ (if_neg hc_0_56).symm _ X_0_57 e_0_57
              intro w_0_58 hw_0_58 T_0_60 X_0_60 e_0_60
              subst hw_0_58
              exact J_0_63 _ (if_pos hc_0_55).symm _ X_0_60 e_0_60
            · refine ogo (fun _ k => XS.icmpNo X_0_42.here hx rfl (hb hby at_173) rfl (feq hc_0_55).1 k) ?_
              show OGo _ _ _ _ (T_0_42.setTop (mkF m 176 #[.val (.long va), .second, .val (.long vb), .second, .val (.long vc), .second, .val (.long vd), .second, .val (.int ve), .val (.int w_0_1), .val (.int w_0_2), .val (.int w_0_3), .val (.int w_0_4), .val (.int w_0_6), .val (.int w_0_10), .val (.int w_0_14), .val (.int w_0_18), .val (.ref b_0_21), .val (.ref b_0_32), .unset] []))
              refine ogo (fun _ k => XS.iload X_0_42.here hx rfl (hb hby at_176) rfl k) ?_
              show OGo _ _ _ _ (T_0_42.setTop (mkF m 178 #[.val (.long va), .second, .val (.long vb), .second, .val (.long vc), .second, .val (.long vd), .second, .val (.int ve), .val (.int w_0_1), .val (.int w_0_2), .val (.int w_0_3), .val (.int w_0_4), .val (.int w_0_6), .val (.int w_0_10), .val (.int w_0_14), .val (.int w_0_18), .val (.ref b_0_21), .val (.ref b_0_32), .unset] [(.int w_0_3)]))
              refine ogo (fun _ k => XS.iload X_0_42.here hx rfl (hb hby at_178) rfl k) ?_
              show OGo _ _ _ _ (T_0_42.setTop (mkF m 180 #[.val (.long va), .second, .val (.long vb), .second, .val (.long vc), .second, .val (.long vd), .second, .val (.int ve), .val (.int w_0_1), .val (.int w_0_2), .val (.int w_0_3), .val (.int w_0_4), .val (.int w_0_6), .val (.int w_0_10), .val (.int w_0_14), .val (.int w_0_18), .val (.ref b_0_21), .val (.ref b_0_32), .unset] [(.int w_0_14), (.int w_0_3)]))
              obtain ⟨T_0_61, X_0_61, e_0_61, st_0_61⟩ := ocallP X_0_42 hx hZ e_0_42 (rm4 l Z a0 hw w_0_3 w_0_14  h_0_42 ) hown (hw _ (List.mem_of_getElem? (i := 22) rfl)) (hw _ (List.mem_of_getElem? (i := 23) rfl)) (hw _ (List.mem_of_getElem? (i := 24) rfl)) (hw _ (List.mem_of_getElem? (i := 25) rfl)) (by decide) (g := (mkF m 180 #[.val (.long va), .second, .val (.long vb), .second, .val (.long vc), .second, .val (.long vd), .second, .val (.int ve), .val (.int w_0_1), .val (.int w_0_2), .val (.int w_0_3), .val (.int w_0_4), .val (.int w_0_6), .val (.int w_0_10), .val (.int w_0_14), .val (.int w_0_18), .val (.ref b_0_21), .val (.ref b_0_32), .unset] [(.int w_0_14), (.int w_0_3)])) rfl (by rw [hml]; rfl) [(.int w_0_3), (.int w_0_14)] [] rfl (lenOf pd__II_I rfl) rfl (hb hby at_180) 0 (by show 2 * 0 + _ ≤ _; exact Nat.le_of_eq rfl) (by decide) (by decide) (by decide) (by decide) rfl rfl
              refine ogo (fun _ k => st_0_61 _ k) ?_
              show OGo _ _ _ _ (T_0_61.setTop (mkF m 183 #[.val (.long va), .second, .val (.long vb), .second, .val (.long vc), .second, .val (.long vd), .second, .val (.int ve), .val (.int w_0_1), .val (.int w_0_2), .val (.int w_0_3), .val (.int w_0_4), .val (.int w_0_6), .val (.int w_0_10), .val (.int w_0_14), .val (.int w_0_18), .val (.ref b_0_21), .val (.ref b_0_32), .unset] [(.int (cmpF w_0_3 w_0_14))]))
              refine ogo (fun _ k => XS.istore X_0_61.here hx rfl (hb hby at_183) rfl (l' := #[.val (.long va), .second, .val (.long vb), .second, .val (.long vc), .second, .val (.long vd), .second, .val (.int ve), .val (.int w_0_1), .val (.int w_0_2), .val (.int w_0_3), .val (.int w_0_4), .val (.int w_0_6), .val (.int w_0_10), .val (.int w_0_14), .val (.int w_0_18), .val (.ref b_0_21), .val (.ref b_0_32), .val (.int (cmpF w_0_3 w_0_14))]) rfl k) ?_
              show OGo _ _ _ _ (T_0_61.setTop (mkF m 185 #[.val (.long va), .second, .val (.long vb), .second, .val (.long vc), .second, .val (.long vd), .second, .val (.int ve), .val (.int w_0_1), .val (.int w_0_2), .val (.int w_0_3), .val (.int w_0_4), .val (.int w_0_6), .val (.int w_0_10), .val (.int w_0_14), .val (.int w_0_18), .val (.ref b_0_21), .val (.ref b_0_32), .val (.int (cmpF w_0_3 w_0_14))] []))
              refine ogo (fun _ k => XS.goto X_0_61.here hx rfl (pc0 := 185) (pc' := 210) rfl (hb hby at_185) (by decide) (by decide) k) ?_
              show OGo _ _ _ _ (T_0_61.setTop (mkF m 210 #[.val (.long va), .second, .val (.long vb), .second, .val (.long vc), .second, .val (.long vd), .second, .val (.int ve), .val (.int w_0_1), .val (.int w_0_2), .val (.int w_0_3), .val (.int w_0_4), .val (.int w_0_6), .val (.int w_0_10), .val (.int w_0_14), .val (.int w_0_18), .val (.ref b_0_21), .val (.ref b_0_32), .val (.int (cmpF w_0_3 w_0_14))] []))
              exact J_0_63 _ (if_neg hc_0_55).symm _ X_0_61 e_0_61
          intro w_0_62 hw_0_62 T_0_64 X_0_64 e_0_64
          subst hw_0_62
          exact J_0_67 _ (if_pos hc_0_54).symm _ X_0_64 e_0_64
        · refine ogo (fun _ k => XS.icmpNo X_0_42.here hx rfl (hb hby at_154) rfl (feq hc_0_54).1 k) ?_
          show OGo _ _ _ _ (T_0_42.setTop (mkF m 157 #[.val (.long va), .second, .val (.long vb), .second, .val (.long vc), .second, .val (.long vd), .second, .val (.int ve), .val (.int w_0_1), .val (.int w_0_2), .val (.int w_0_3), .val (.int w_0_4), .val (.int w_0_6), .val (.int w_0_10), .val (.int w_0_14), .val (.int w_0_18), .val (.ref b_0_21), .val (.ref b_0_32), .unset] []))
          refine ogo (fun _ k => XS.iload X_0_42.here hx rfl (hb hby at_157) rfl k) ?_
          show OGo _ _ _ _ (T_0_42.setTop (mkF m 159 #[.val (.long va), .second, .val (.long vb), .second, .val (.long vc), .second, .val (.long vd), .second, .val (.int ve), .val (.int w_0_1), .val (.int w_0_2), .val (.int w_0_3), .val (.int w_0_4), .val (.int w_0_6), .val (.int w_0_10), .val (.int w_0_14), .val (.int w_0_18), .val (.ref b_0_21), .val (.ref b_0_32), .unset] [(.int w_0_2)]))
          refine ogo (fun _ k => XS.iload X_0_42.here hx rfl (hb hby at_159) rfl k) ?_
          show OGo _ _ _ _ (T_0_42.setTop (mkF m 161 #[.val (.long va), .second, .val (.long vb), .second, .val (.long vc), .second, .val (.long vd), .second, .val (.int ve), .val (.int w_0_1), .val (.int w_0_2), .val (.int w_0_3), .val (.int w_0_4), .val (.int w_0_6), .val (.int w_0_10), .val (.int w_0_14), .val (.int w_0_18), .val (.ref b_0_21), .val (.ref b_0_32), .unset] [(.int w_0_10), (.int w_0_2)]))
          obtain ⟨T_0_65, X_0_65, e_0_65, st_0_65⟩ := ocallP X_0_42 hx hZ e_0_42 (rm4 l Z a0 hw w_0_2 w_0_10  h_0_42 ) hown (hw _ (List.mem_of_getElem? (i := 22) rfl)) (hw _ (List.mem_of_getElem? (i := 23) rfl)) (hw _ (List.mem_of_getElem? (i := 24) rfl)) (hw _ (List.mem_of_getElem? (i := 25) rfl)) (by decide) (g := (mkF m 161 #[.val (.long va), .second, .val (.long vb), .second, .val (.long vc), .second, .val (.long vd), .second, .val (.int ve), .val (.int w_0_1), .val (.int w_0_2), .val (.int w_0_3), .val (.int w_0_4), .val (.int w_0_6), .val (.int w_0_10), .val (.int w_0_14), .val (.int w_0_18), .val (.ref b_0_21), .val (.ref b_0_32), .unset] [(.int w_0_10), (.int w_0_2)])) rfl (by rw [hml]; rfl) [(.int w_0_2), (.int w_0_10)] [] rfl (lenOf pd__II_I rfl) rfl (hb hby at_161) 0 (by show 2 * 0 + _ ≤ _; exact Nat.le_of_eq rfl) (by decide) (by decide) (by decide) (by decide) rfl rfl
          refine ogo (fun _ k => st_0_65 _ k) ?_
          show OGo _ _ _ _ (T_0_65.setTop (mkF m 164 #[.val (.long va), .second, .val (.long vb), .second, .val (.long vc), .second, .val (.long vd), .second, .val (.int ve), .val (.int w_0_1), .val (.int w_0_2), .val (.int w_0_3), .val (.int w_0_4), .val (.int w_0_6), .val (.int w_0_10), .val (.int w_0_14), .val (.int w_0_18), .val (.ref b_0_21), .val (.ref b_0_32), .unset] [(.int (cmpF w_0_2 w_0_10))]))
          refine ogo (fun _ k => XS.istore X_0_65.here hx rfl (hb hby at_164) rfl (l' := #[.val (.long va), .second, .val (.long vb), .second, .val (.long vc), .second, .val (.long vd), .second, .val (.int ve), .val (.int w_0_1), .val (.int w_0_2), .val (.int w_0_3), .val (.int w_0_4), .val (.int w_0_6), .val (.int w_0_10), .val (.int w_0_14), .val (.int w_0_18), .val (.ref b_0_21), .val (.ref b_0_32), .val (.int (cmpF w_0_2 w_0_10))]) rfl k) ?_
          show OGo _ _ _ _ (T_0_65.setTop (mkF m 166 #[.val (.long va), .second, .val (.long vb), .second, .val (.long vc), .second, .val (.long vd), .second, .val (.int ve), .val (.int w_0_1), .val (.int w_0_2), .val (.int w_0_3), .val (.int w_0_4), .val (.int w_0_6), .val (.int w_0_10), .val (.int w_0_14), .val (.int w_0_18), .val (.ref b_0_21), .val (.ref b_0_32), .val (.int (cmpF w_0_2 w_0_10))] []))
          refine ogo (fun _ k => XS.goto X_0_65.here hx rfl (pc0 := 166) (pc' := 210) rfl (hb hby at_166) (by decide) (by decide) k) ?_
          show OGo _ _ _ _ (T_0_65.setTop (mkF m 210 #[.val (.long va), .second, .val (.long vb), .second, .val (.long vc), .second, .val (.long vd), .second, .val (.int ve), .val (.int w_0_1), .val (.int w_0_2), .val (.int w_0_3), .val (.int w_0_4), .val (.int w_0_6), .val (.int w_0_10), .val (.int w_0_14), .val (.int w_0_18), .val (.ref b_0_21), .val (.ref b_0_32), .val (.int (cmpF w_0_2 w_0_10))] []))
          exact J_0_67 _ (if_neg hc_0_54).symm _ X_0_65 e_0_65
      intro w_0_66 hw_0_66 T_0_68 X_0_68 e_0_68
      subst hw_0_66
      exact J_0_71 _ (if_pos hc_0_53).symm _ X_0_68 e_0_68
    · refine ogo (fun _ k => XS.icmpNo X_0_42.here hx rfl (hb hby at_135) rfl (feq hc_0_53).1 k) ?_
      show OGo _ _ _ _ (T_0_42.setTop (mkF m 138 #[.val (.long va), .second, .val (.long vb), .second, .val (.long vc), .second, .val (.long vd), .second, .val (.int ve), .val (.int w_0_1), .val (.int w_0_2), .val (.int w_0_3), .val (.int w_0_4), .val (.int w_0_6), .val (.int w_0_10), .val (.int w_0_14), .val (.int w_0_18), .val (.ref b_0_21), .val (.ref b_0_32), .unset] []))
      refine ogo (fun _ k => XS.iload X_0_42.here hx rfl (hb hby at_138) rfl k) ?_
      show OGo _ _ _ _ (T_0_42.setTop (mkF m 140 #[.val (.long va), .second, .val (.long vb), .second, .val (.long vc), .second, .val (.long vd), .second, .val (.int ve), .val (.int w_0_1), .val (.int w_0_2), .val (.int w_0_3), .val (.int w_0_4), .val (.int w_0_6), .val (.int w_0_10), .val (.int w_0_14), .val (.int w_0_18), .val (.ref b_0_21), .val (.ref b_0_32), .unset] [(.int w_0_1)]))
      refine ogo (fun _ k => XS.iload X_0_42.here hx rfl (hb hby at_140) rfl k) ?_
      show OGo _ _ _ _ (T_0_42.setTop (mkF m 142 #[.val (.long va), .second, .val (.long vb), .second, .val (.long vc), .second, .val (.long vd), .second, .val (.int ve), .val (.int w_0_1), .val (.int w_0_2), .val (.int w_0_3), .val (.int w_0_4), .val (.int w_0_6), .val (.int w_0_10), .val (.int w_0_14), .val (.int w_0_18), .val (.ref b_0_21), .val (.ref b_0_32), .unset] [(.int w_0_6), (.int w_0_1)]))
      obtain ⟨T_0_69, X_0_69, e_0_69, st_0_69⟩ := ocallP X_0_42 hx hZ e_0_42 (rm4 l Z a0 hw w_0_1 w_0_6  h_0_42 ) hown (hw _ (List.mem_of_getElem? (i := 22) rfl)) (hw _ (List.mem_of_getElem? (i := 23) rfl)) (hw _ (List.mem_of_getElem? (i := 24) rfl)) (hw _ (List.mem_of_getElem? (i := 25) rfl)) (by decide) (g := (mkF m 142 #[.val (.long va), .second, .val (.long vb), .second, .val (.long vc), .second, .val (.long vd), .second, .val (.int ve), .val (.int w_0_1), .val (.int w_0_2), .val (.int w_0_3), .val (.int w_0_4), .val (.int w_0_6), .val (.int w_0_10), .val (.int w_0_14), .val (.int w_0_18), .val (.ref b_0_21), .val (.ref b_0_32), .unset] [(.int w_0_6), (.int w_0_1)])) rfl (by rw [hml]; rfl) [(.int w_0_1), (.int w_0_6)] [] rfl (lenOf pd__II_I rfl) rfl (hb hby at_142) 0 (by show 2 * 0 + _ ≤ _; exact Nat.le_of_eq rfl) (by decide) (by decide) (by decide) (by decide) rfl rfl
      refine ogo (fun _ k => st_0_69 _ k) ?_
      show OGo _ _ _ _ (T_0_69.setTop (mkF m 145 #[.val (.long va), .second, .val (.long vb), .second, .val (.long vc), .second, .val (.long vd), .second, .val (.int ve), .val (.int w_0_1), .val (.int w_0_2), .val (.int w_0_3), .val (.int w_0_4), .val (.int w_0_6), .val (.int w_0_10), .val (.int w_0_14), .val (.int w_0_18), .val (.ref b_0_21), .val (.ref b_0_32), .unset] [(.int (cmpF w_0_1 w_0_6))]))
      refine ogo (fun _ k => XS.istore X_0_69.here hx rfl (hb hby at_145) rfl (l' := #[.val (.long va), .second, .val (.long vb), .second, .val (.long vc), .second, .val (.long vd), .second, .val (.int ve), .val (.int w_0_1), .val (.int w_0_2), .val (.int w_0_3), .val (.int w_0_4), .val (.int w_0_6), .val (.int w_0_10), .val (.int w_0_14), .val (.int w_0_18), .val (.ref b_0_21), .val (.ref b_0_32), .val (.int (cmpF w_0_1 w_0_6))]) rfl k) ?_
      show OGo _ _ _ _ (T_0_69.setTop (mkF m 147 #[.val (.long va), .second, .val (.long vb), .second, .val (.long vc), .second, .val (.long vd), .second, .val (.int ve), .val (.int w_0_1), .val (.int w_0_2), .val (.int w_0_3), .val (.int w_0_4), .val (.int w_0_6), .val (.int w_0_10), .val (.int w_0_14), .val (.int w_0_18), .val (.ref b_0_21), .val (.ref b_0_32), .val (.int (cmpF w_0_1 w_0_6))] []))
      refine ogo (fun _ k => XS.goto X_0_69.here hx rfl (pc0 := 147) (pc' := 210) rfl (hb hby at_147) (by decide) (by decide) k) ?_
      show OGo _ _ _ _ (T_0_69.setTop (mkF m 210 #[.val (.long va), .second, .val (.long vb), .second, .val (.long vc), .second, .val (.long vd), .second, .val (.int ve), .val (.int w_0_1), .val (.int w_0_2), .val (.int w_0_3), .val (.int w_0_4), .val (.int w_0_6), .val (.int w_0_10), .val (.int w_0_14), .val (.int w_0_18), .val (.ref b_0_21), .val (.ref b_0_32), .val (.int (cmpF w_0_1 w_0_6))] []))
      exact J_0_71 _ (if_neg hc_0_53).symm _ X_0_69 e_0_69
  intro w_0_70 hw_0_70 T_0_72 X_0_72 e_0_72
  refine ogo (fun _ k => XS.aload X_0_72.here hx rfl (hb hby at_210) rfl rfl k) ?_
  show OGo _ _ _ _ (T_0_72.setTop (mkF m 212 #[.val (.long va), .second, .val (.long vb), .second, .val (.long vc), .second, .val (.long vd), .second, .val (.int ve), .val (.int w_0_1), .val (.int w_0_2), .val (.int w_0_3), .val (.int w_0_4), .val (.int w_0_6), .val (.int w_0_10), .val (.int w_0_14), .val (.int w_0_18), .val (.ref b_0_21), .val (.ref b_0_32), .val (.int w_0_70)] [(.ref b_0_21)]))
  refine ogo (fun _ k => XS.aload X_0_72.here hx rfl (hb hby at_212) rfl rfl k) ?_
  show OGo _ _ _ _ (T_0_72.setTop (mkF m 214 #[.val (.long va), .second, .val (.long vb), .second, .val (.long vc), .second, .val (.long vd), .second, .val (.int ve), .val (.int w_0_1), .val (.int w_0_2), .val (.int w_0_3), .val (.int w_0_4), .val (.int w_0_6), .val (.int w_0_10), .val (.int w_0_14), .val (.int w_0_18), .val (.ref b_0_21), .val (.ref b_0_32), .val (.int w_0_70)] [(.ref b_0_32), (.ref b_0_21)]))
  obtain ⟨T_0_73, X_0_73, e_0_73, st_0_73⟩ := ovirtP X_0_72 hx hZ e_0_72 (rm5 l Z a0 hw b_0_21 b_0_32 w_0_1 w_0_6 w_0_2 w_0_10 w_0_3 w_0_14 w_0_4 w_0_18 h_0_42 f_0_48 f_0_43 f_0_49 f_0_44 f_0_50 f_0_45 f_0_51 f_0_46) hown (hw _ (List.mem_of_getElem? (i := 26) rfl)) (hw _ (List.mem_of_getElem? (i := 27) rfl)) (hw _ (List.mem_of_getElem? (i := 29) rfl)) (hw _ (List.mem_of_getElem? (i := 28) rfl)) (hw _ (List.mem_of_getElem? (i := 2) rfl)) (hw _ (List.mem_of_getElem? (i := 30) rfl)) (by decide) f_0_47 (g := (mkF m 214 #[.val (.long va), .second, .val (.long vb), .second, .val (.long vc), .second, .val (.long vd), .second, .val (.int ve), .val (.int w_0_1), .val (.int w_0_2), .val (.int w_0_3), .val (.int w_0_4), .val (.int w_0_6), .val (.int w_0_10), .val (.int w_0_14), .val (.int w_0_18), .val (.ref b_0_21), .val (.ref b_0_32), .val (.int w_0_70)] [(.ref b_0_32), (.ref b_0_21)])) rfl (by rw [hml]; rfl) [(.ref b_0_32)] [] rfl (lenOf pd__Lcom_example_lean_wiring_leanwiring_Offer_Cost__I rfl) rfl (hb hby at_214) 0 (by show 2 * 0 + _ ≤ _; exact Nat.le_of_eq rfl) (by decide) (by decide) (by decide) (by decide) rfl rfl
  refine ogo (fun _ k => st_0_73 _ k) ?_
  show OGo _ _ _ _ (T_0_73.setTop (mkF m 217 #[.val (.long va), .second, .val (.long vb), .second, .val (.long vc), .second, .val (.long vd), .second, .val (.int ve), .val (.int w_0_1), .val (.int w_0_2), .val (.int w_0_3), .val (.int w_0_4), .val (.int w_0_6), .val (.int w_0_10), .val (.int w_0_14), .val (.int w_0_18), .val (.ref b_0_21), .val (.ref b_0_32), .val (.int w_0_70)] [(.int (cttF w_0_1 w_0_6 w_0_2 w_0_10 w_0_3 w_0_14 w_0_4 w_0_18))]))
  obtain ⟨T_0_74, X_0_74, e_0_74, st_0_74⟩ := ocallP X_0_73 hx hZ e_0_73 (rm7 l Z a0 hw (cttF w_0_1 w_0_6 w_0_2 w_0_10 w_0_3 w_0_14 w_0_4 w_0_18)  h_0_42 ) hown (hw _ (List.mem_of_getElem? (i := 35) rfl)) (hw _ (List.mem_of_getElem? (i := 36) rfl)) (hw _ (List.mem_of_getElem? (i := 24) rfl)) (hw _ (List.mem_of_getElem? (i := 37) rfl)) (by decide) (g := (mkF m 217 #[.val (.long va), .second, .val (.long vb), .second, .val (.long vc), .second, .val (.long vd), .second, .val (.int ve), .val (.int w_0_1), .val (.int w_0_2), .val (.int w_0_3), .val (.int w_0_4), .val (.int w_0_6), .val (.int w_0_10), .val (.int w_0_14), .val (.int w_0_18), .val (.ref b_0_21), .val (.ref b_0_32), .val (.int w_0_70)] [(.int (cttF w_0_1 w_0_6 w_0_2 w_0_10 w_0_3 w_0_14 w_0_4 w_0_18))])) rfl (by rw [hml]; rfl) [(.int (cttF w_0_1 w_0_6 w_0_2 w_0_10 w_0_3 w_0_14 w_0_4 w_0_18))] [] rfl (lenOf pd__I_I rfl) rfl (hb hby at_217) 0 (by show 2 * 0 + _ ≤ _; exact Nat.le_of_eq rfl) (by decide) (by decide) (by decide) (by decide) rfl rfl
  refine ogo (fun _ k => st_0_74 _ k) ?_
  show OGo _ _ _ _ (T_0_74.setTop (mkF m 220 #[.val (.long va), .second, .val (.long vb), .second, .val (.long vc), .second, .val (.long vd), .second, .val (.int ve), .val (.int w_0_1), .val (.int w_0_2), .val (.int w_0_3), .val (.int w_0_4), .val (.int w_0_6), .val (.int w_0_10), .val (.int w_0_14), .val (.int w_0_18), .val (.ref b_0_21), .val (.ref b_0_32), .val (.int w_0_70)] [(.int (signF (cttF w_0_1 w_0_6 w_0_2 w_0_10 w_0_3 w_0_14 w_0_4 w_0_18)))]))
  refine ogo (fun _ k => XS.iload X_0_74.here hx rfl (hb hby at_220) rfl k) ?_
  show OGo _ _ _ _ (T_0_74.setTop (mkF m 222 #[.val (.long va), .second, .val (.long vb), .second, .val (.long vc), .second, .val (.long vd), .second, .val (.int ve), .val (.int w_0_1), .val (.int w_0_2), .val (.int w_0_3), .val (.int w_0_4), .val (.int w_0_6), .val (.int w_0_10), .val (.int w_0_14), .val (.int w_0_18), .val (.ref b_0_21), .val (.ref b_0_32), .val (.int w_0_70)] [(.int w_0_70), (.int (signF (cttF w_0_1 w_0_6 w_0_2 w_0_10 w_0_3 w_0_14 w_0_4 w_0_18)))]))
  suffices J_0_83 : ∀ (w_0_82 : Int32) (hw_0_82 : w_0_82 = (if (signF (cttF w_0_1 w_0_6 w_0_2 w_0_10 w_0_3 w_0_14 w_0_4 w_0_18)) = w_0_70 then (if (signF (cttF w_0_6 w_0_1 w_0_10 w_0_2 w_0_14 w_0_3 w_0_18 w_0_4)) = (-w_0_70) then (1 : Int32) else (0 : Int32)) else (0 : Int32))) (T_0_84 : State) (X_0_84 : Stand p l e room_1 s m #[(.long va), (.long vb), (.long vc), (.long vd), (.int ve)] below meth c T_0_84 lc_0_42 2 8) (e_0_84 : T_0_84.heap = h_0_42), OGo p.tables e below (OFin s (fun v _ L => v = some (.int 1) ∧ Fr n0 L) 16 128) (T_0_84.setTop (mkF m 246 #[.val (.long va), .second, .val (.long vb), .second, .val (.long vc), .second, .val (.long vd), .second, .val (.int ve), .val (.int w_0_1), .val (.int w_0_2), .val (.int w_0_3), .val (.int w_0_4), .val (.int w_0_6), .val (.int w_0_10), .val (.int w_0_14), .val (.int w_0_18), .val (.ref b_0_21), .val (.ref b_0_32), .val (.int w_0_70)] [(.int w_0_82)])) by
    by_cases hc_0_75 : (signF (cttF w_0_1 w_0_6 w_0_2 w_0_10 w_0_3 w_0_14 w_0_4 w_0_18)) = w_0_70
    · refine ogo (fun _ k => XS.icmpNo X_0_74.here hx rfl (hb hby at_222) rfl (teq hc_0_75).2 k) ?_
      show OGo _ _ _ _ (T_0_74.setTop (mkF m 225 #[.val (.long va), .second, .val (.long vb), .second, .val (.long vc), .second, .val (.long vd), .second, .val (.int ve), .val (.int w_0_1), .val (.int w_0_2), .val (.int w_0_3), .val (.int w_0_4), .val (.int w_0_6), .val (.int w_0_10), .val (.int w_0_14), .val (.int w_0_18), .val (.ref b_0_21), .val (.ref b_0_32), .val (.int w_0_70)] []))
      refine ogo (fun _ k => XS.aload X_0_74.here hx rfl (hb hby at_225) rfl rfl k) ?_
      show OGo _ _ _ _ (T_0_74.setTop (mkF m 227 #[.val (.long va), .second, .val (.long vb), .second, .val (.long vc), .second, .val (.long vd), .second, .val (.int ve), .val (.int w_0_1), .val (.int w_0_2), .val (.int w_0_3), .val (.int w_0_4), .val (.int w_0_6), .val (.int w_0_10), .val (.int w_0_14), .val (.int w_0_18), .val (.ref b_0_21), .val (.ref b_0_32), .val (.int w_0_70)] [(.ref b_0_32)]))
      refine ogo (fun _ k => XS.aload X_0_74.here hx rfl (hb hby at_227) rfl rfl k) ?_
      show OGo _ _ _ _ (T_0_74.setTop (mkF m 229 #[.val (.long va), .second, .val (.long vb), .second, .val (.long vc), .second, .val (.long vd), .second, .val (.int ve), .val (.int w_0_1), .val (.int w_0_2), .val (.int w_0_3), .val (.int w_0_4), .val (.int w_0_6), .val (.int w_0_10), .val (.int w_0_14), .val (.int w_0_18), .val (.ref b_0_21), .val (.ref b_0_32), .val (.int w_0_70)] [(.ref b_0_21), (.ref b_0_32)]))
      obtain ⟨T_0_76, X_0_76, e_0_76, st_0_76⟩ := ovirtP X_0_74 hx hZ e_0_74 (rm5 l Z a0 hw b_0_32 b_0_21 w_0_6 w_0_1 w_0_10 w_0_2 w_0_14 w_0_3 w_0_18 w_0_4 h_0_42 f_0_43 f_0_48 f_0_44 f_0_49 f_0_45 f_0_50 f_0_46 f_0_51) hown (hw _ (List.mem_of_getElem? (i := 26) rfl)) (hw _ (List.mem_of_getElem? (i := 27) rfl)) (hw _ (List.mem_of_getElem? (i := 29) rfl)) (hw _ (List.mem_of_getElem? (i := 28) rfl)) (hw _ (List.mem_of_getElem? (i := 2) rfl)) (hw _ (List.mem_of_getElem? (i := 30) rfl)) (by decide) f_0_52 (g := (mkF m 229 #[.val (.long va), .second, .val (.long vb), .second, .val (.long vc), .second, .val (.long vd), .second, .val (.int ve), .val (.int w_0_1), .val (.int w_0_2), .val (.int w_0_3), .val (.int w_0_4), .val (.int w_0_6), .val (.int w_0_10), .val (.int w_0_14), .val (.int w_0_18), .val (.ref b_0_21), .val (.ref b_0_32), .val (.int w_0_70)] [(.ref b_0_21), (.ref b_0_32)])) rfl (by rw [hml]; rfl) [(.ref b_0_21)] [] rfl (lenOf pd__Lcom_example_lean_wiring_leanwiring_Offer_Cost__I rfl) rfl (hb hby at_229) 0 (by show 2 * 0 + _ ≤ _; exact Nat.le_of_eq rfl) (by decide) (by decide) (by decide) (by decide) rfl rfl
      refine ogo (fun _ k => st_0_76 _ k) ?_
      show OGo _ _ _ _ (T_0_76.setTop (mkF m 232 #[.val (.long va), .second, .val (.long vb), .second, .val (.long vc), .second, .val (.long vd), .second, .val (.int ve), .val (.int w_0_1), .val (.int w_0_2), .val (.int w_0_3), .val (.int w_0_4), .val (.int w_0_6), .val (.int w_0_10), .val (.int w_0_14), .val (.int w_0_18), .val (.ref b_0_21), .val (.ref b_0_32), .val (.int w_0_70)] [(.int (cttF w_0_6 w_0_1 w_0_10 w_0_2 w_0_14 w_0_3 w_0_18 w_0_4))]))
      obtain ⟨T_0_77, X_0_77, e_0_77, st_0_77⟩ := ocallP X_0_76 hx hZ e_0_76 (rm7 l Z a0 hw (cttF w_0_6 w_0_1 w_0_10 w_0_2 w_0_14 w_0_3 w_0_18 w_0_4)  h_0_42 ) hown (hw _ (List.mem_of_getElem? (i := 35) rfl)) (hw _ (List.mem_of_getElem? (i := 36) rfl)) (hw _ (List.mem_of_getElem? (i := 24) rfl)) (hw _ (List.mem_of_getElem? (i := 37) rfl)) (by decide) (g := (mkF m 232 #[.val (.long va), .second, .val (.long vb), .second, .val (.long vc), .second, .val (.long vd), .second, .val (.int ve), .val (.int w_0_1), .val (.int w_0_2), .val (.int w_0_3), .val (.int w_0_4), .val (.int w_0_6), .val (.int w_0_10), .val (.int w_0_14), .val (.int w_0_18), .val (.ref b_0_21), .val (.ref b_0_32), .val (.int w_0_70)] [(.int (cttF w_0_6 w_0_1 w_0_10 w_0_2 w_0_14 w_0_3 w_0_18 w_0_4))])) rfl (by rw [hml]; rfl) [(.int (cttF w_0_6 w_0_1 w_0_10 w_0_2 w_0_14 w_0_3 w_0_18 w_0_4))] [] rfl (lenOf pd__I_I rfl) rfl (hb hby at_232) 0 (by show 2 * 0 + _ ≤ _; exact Nat.le_of_eq rfl) (by decide) (by decide) (by decide) (by decide) rfl rfl
      refine ogo (fun _ k => st_0_77 _ k) ?_
      show OGo _ _ _ _ (T_0_77.setTop (mkF m 235 #[.val (.long va), .second, .val (.long vb), .second, .val (.long vc), .second, .val (.long vd), .second, .val (.int ve), .val (.int w_0_1), .val (.int w_0_2), .val (.int w_0_3), .val (.int w_0_4), .val (.int w_0_6), .val (.int w_0_10), .val (.int w_0_14), .val (.int w_0_18), .val (.ref b_0_21), .val (.ref b_0_32), .val (.int w_0_70)] [(.int (signF (cttF w_0_6 w_0_1 w_0_10 w_0_2 w_0_14 w_0_3 w_0_18 w_0_4)))]))
      refine ogo (fun _ k => XS.iload X_0_77.here hx rfl (hb hby at_235) rfl k) ?_
      show OGo _ _ _ _ (T_0_77.setTop (mkF m 237 #[.val (.long va), .second, .val (.long vb), .second, .val (.long vc), .second, .val (.long vd), .second, .val (.int ve), .val (.int w_0_1), .val (.int w_0_2), .val (.int w_0_3), .val (.int w_0_4), .val (.int w_0_6), .val (.int w_0_10), .val (.int w_0_14), .val (.int w_0_18), .val (.ref b_0_21), .val (.ref b_0_32), .val (.int w_0_70)] [(.int w_0_70), (.int (signF (cttF w_0_6 w_0_1 w_0_10 w_0_2 w_0_14 w_0_3 w_0_18 w_0_4)))]))
      refine ogo (fun _ k => XS.ineg X_0_77.here hx rfl (hb hby at_237) rfl k) ?_
      show OGo _ _ _ _ (T_0_77.setTop (mkF m 238 #[.val (.long va), .second, .val (.long vb), .second, .val (.long vc), .second, .val (.long vd), .second, .val (.int ve), .val (.int w_0_1), .val (.int w_0_2), .val (.int w_0_3), .val (.int w_0_4), .val (.int w_0_6), .val (.int w_0_10), .val (.int w_0_14), .val (.int w_0_18), .val (.ref b_0_21), .val (.ref b_0_32), .val (.int w_0_70)] [(.int (-w_0_70)), (.int (signF (cttF w_0_6 w_0_1 w_0_10 w_0_2 w_0_14 w_0_3 w_0_18 w_0_4)))]))
      suffices J_0_80 : ∀ (w_0_79 : Int32) (hw_0_79 : w_0_79 = (if (signF (cttF w_0_6 w_0_1 w_0_10 w_0_2 w_0_14 w_0_3 w_0_18 w_0_4)) = (-w_0_70) then (1 : Int32) else (0 : Int32))), OGo p.tables e below (OFin s (fun v _ L => v = some (.int 1) ∧ Fr n0 L) 16 128) (T_0_77.setTop (mkF m 246 #[.val (.long va), .second, .val (.long vb), .second, .val (.long vc), .second, .val (.long vd), .second, .val (.int ve), .val (.int w_0_1), .val (.int w_0_2), .val (.int w_0_3), .val (.int w_0_4), .val (.int w_0_6), .val (.int w_0_10), .val (.int w_0_14), .val (.int w_0_18), .val (.ref b_0_21), .val (.ref b_0_32), .val (.int w_0_70)] [(.int w_0_79)])) by
        by_cases hc_0_78 : (signF (cttF w_0_6 w_0_1 w_0_10 w_0_2 w_0_14 w_0_3 w_0_18 w_0_4)) = (-w_0_70)
        · refine ogo (fun _ k => XS.icmpNo X_0_77.here hx rfl (hb hby at_238) rfl (teq hc_0_78).2 k) ?_
          show OGo _ _ _ _ (T_0_77.setTop (mkF m 241 #[.val (.long va), .second, .val (.long vb), .second, .val (.long vc), .second, .val (.long vd), .second, .val (.int ve), .val (.int w_0_1), .val (.int w_0_2), .val (.int w_0_3), .val (.int w_0_4), .val (.int w_0_6), .val (.int w_0_10), .val (.int w_0_14), .val (.int w_0_18), .val (.ref b_0_21), .val (.ref b_0_32), .val (.int w_0_70)] []))
          refine ogo (fun _ k => XS.iconst X_0_77.here hx rfl (hb hby at_241) k) ?_
          show OGo _ _ _ _ (T_0_77.setTop (mkF m 242 #[.val (.long va), .second, .val (.long vb), .second, .val (.long vc), .second, .val (.long vd), .second, .val (.int ve), .val (.int w_0_1), .val (.int w_0_2), .val (.int w_0_3), .val (.int w_0_4), .val (.int w_0_6), .val (.int w_0_10), .val (.int w_0_14), .val (.int w_0_18), .val (.ref b_0_21), .val (.ref b_0_32), .val (.int w_0_70)] [(.int (1 : Int32))]))
          refine ogo (fun _ k => XS.goto X_0_77.here hx rfl (pc0 := 242) (pc' := 246) rfl (hb hby at_242) (by decide) (by decide) k) ?_
          show OGo _ _ _ _ (T_0_77.setTop (mkF m 246 #[.val (.long va), .second, .val (.long vb), .second, .val (.long vc), .second, .val (.long vd), .second, .val (.int ve), .val (.int w_0_1), .val (.int w_0_2), .val (.int w_0_3), .val (.int w_0_4), .val (.int w_0_6), .val (.int w_0_10), .val (.int w_0_14), .val (.int w_0_18), .val (.ref b_0_21), .val (.ref b_0_32), .val (.int w_0_70)] [(.int (1 : Int32))]))
          exact J_0_80 _ (if_pos hc_0_78).symm
        · refine ogo (fun _ k => XS.icmpYes X_0_77.here hx rfl (pc0 := 238) (pc' := 245) rfl (hb hby at_238) rfl (feq hc_0_78).2 (by decide) (by decide) k) ?_
          show OGo _ _ _ _ (T_0_77.setTop (mkF m 245 #[.val (.long va), .second, .val (.long vb), .second, .val (.long vc), .second, .val (.long vd), .second, .val (.int ve), .val (.int w_0_1), .val (.int w_0_2), .val (.int w_0_3), .val (.int w_0_4), .val (.int w_0_6), .val (.int w_0_10), .val (.int w_0_14), .val (.int w_0_18), .val (.ref b_0_21), .val (.ref b_0_32), .val (.int w_0_70)] []))
          refine ogo (fun _ k => XS.iconst X_0_77.here hx rfl (hb hby at_245) k) ?_
          show OGo _ _ _ _ (T_0_77.setTop (mkF m 246 #[.val (.long va), .second, .val (.long vb), .second, .val (.long vc), .second, .val (.long vd), .second, .val (.int ve), .val (.int w_0_1), .val (.int w_0_2), .val (.int w_0_3), .val (.int w_0_4), .val (.int w_0_6), .val (.int w_0_10), .val (.int w_0_14), .val (.int w_0_18), .val (.ref b_0_21), .val (.ref b_0_32), .val (.int w_0_70)] [(.int (0 : Int32))]))
          exact J_0_80 _ (if_neg hc_0_78).symm
      intro w_0_79 hw_0_79
      subst hw_0_79
      exact J_0_83 _ (if_pos hc_0_75).symm _ X_0_77 e_0_77
    · refine ogo (fun _ k => XS.icmpYes X_0_74.here hx rfl (pc0 := 222) (pc' := 245) rfl (hb hby at_222) rfl (feq hc_0_75).2 (by decide) (by decide) k) ?_
      show OGo _ _ _ _ (T_0_74.setTop (mkF m 245 #[.val (.long va), .second, .val (.long vb), .second, .val (.long vc), .second, .val (.long vd), .second, .val (.int ve), .val (.int w_0_1), .val (.int w_0_2), .val (.int w_0_3), .val (.int w_0_4), .val (.int w_0_6), .val (.int w_0_10), .val (.int w_0_14), .val (.int w_0_18), .val (.ref b_0_21), .val (.ref b_0_32), .val (.int w_0_70)] []))
      refine ogo (fun _ k => XS.iconst X_0_74.here hx rfl (hb hby at_245) k) ?_
      show OGo _ _ _ _ (T_0_74.setTop (mkF m 246 #[.val (.long va), .second, .val (.long vb), .second, .val (.long vc), .second, .val (.long vd), .second, .val (.int ve), .val (.int w_0_1), .val (.int w_0_2), .val (.int w_0_3), .val (.int w_0_4), .val (.int w_0_6), .val (.int w_0_10), .val (.int w_0_14), .val (.int w_0_18), .val (.ref b_0_21), .val (.ref b_0_32), .val (.int w_0_70)] [(.int (0 : Int32))]))
      exact J_0_83 _ (if_neg hc_0_75).symm _ X_0_74 e_0_74
  intro w_0_82 hw_0_82 T_0_84 X_0_84 e_0_84
  have hz : w_0_82 = (1 : Int32) := plain0 va vb vc vd ve w_0_1 hw_0_1 w_0_2 hw_0_2 w_0_3 hw_0_3 w_0_4 hw_0_4 w_0_6 hw_0_6 w_0_10 hw_0_10 w_0_14 hw_0_14 w_0_18 hw_0_18 w_0_70 hw_0_70 w_0_82 hw_0_82
  rw [hz]
  exact oret X_0_84 hx hlk Bd.returns rfl (Or.inl ⟨rfl, Or.inr (Or.inl rfl), _, rfl⟩) (hb hby at_246) (by decide) (by decide) ⟨rfl, N_0_42⟩
set_option maxRecDepth 65536 in
set_option maxHeartbeats 40000000 in
theorem comes_1 {Post : Tables → Env → Array Value → State → Outcome → State → Prop} (hpost : ∀ tb e args s v u, (limb_1_1.after args s (.returned v) u = true ∧ limb_1_2.after args s (.returned v) u = true) → FrameEnd s (.returned v) u (Jvm.fieldLocs frame_1_writes args s ++ Jvm.arrayLocs frame_1_arrays args s ++ Jvm.staticLocs frame_1_statics s) 16 128 → Post tb e args s (.returned v) u) :
    ArmFor flags0 classFile x code maxLocals ret World_1 tables_1 room_1 Calls_1 rest_1 Pre_1 Post := by
  intro l hfl _ _ p e ha hc hk s m args below hf hA hF happ hP
  obtain ⟨hcalls, hrest, hpre⟩ := hP
  obtain ⟨-, -, -, hnamed, -, -, -, hat⟩ := (Spec.applies_iff hf).mp happ
  obtain ⟨hg, hn⟩ := and_e (Cond.before_iff.mp (show (Jvm.Cond.and given_1 narrow_1).before args s = true from hpre))
  obtain ⟨gc, g0⟩ := and_e hg
  obtain ⟨ga0, g1⟩ := and_e g0
  obtain ⟨ga1, g2⟩ := and_e g1
  obtain ⟨ga2, g3⟩ := and_e g2
  obtain ⟨ga3, g4⟩ := and_e g3
  obtain ⟨w0, w1, w2, w3, w4, rfl⟩ : ∃ w0 w1 w2 w3 w4 : Value, args = #[w0, w1, w2, w3, w4] := by
    have hs : args.size = 5 := by simpa [Cond.value, given_1] using gc
    obtain ⟨L⟩ := args
    match L, hs with
    | [w0, w1, w2, w3, w4], _ => exact ⟨w0, w1, w2, w3, w4, rfl⟩
  have hw := fun d (hd : d ∈ tables_1) => atoms_spec (ws := Jvm.Cond.code x code maxLocals ret :: tables_1) hat d (List.mem_cons_of_mem _ hd)
  obtain ⟨i0, ei0⟩ := isL_v ga0
  obtain rfl : w0 = (.long i0) := Option.some.inj ei0
  obtain ⟨i1, ei1⟩ := isL_v ga1
  obtain rfl : w1 = (.long i1) := Option.some.inj ei1
  obtain ⟨i2, ei2⟩ := isL_v ga2
  obtain rfl : w2 = (.long i2) := Option.some.inj ei2
  obtain ⟨i3, ei3⟩ := isL_v ga3
  obtain rfl : w3 = (.long i3) := Option.some.inj ei3
  obtain ⟨i4, ei4⟩ := is_v g4
  obtain rfl : w4 = (.int i4) := Option.some.inj ei4
  obtain ⟨n, o, h1, h2, h3, _, L, rfl, ⟨rfl, N⟩, hq⟩ := rm0 l s _ hw tables_1 i0 i1 i2 i3 i4 s.heap s.heap.size (Nat.le_refl _)  p e ha hc hk s m _ below hf ((Spec.applies_iff_loose hf).mp happ).1 ⟨rfl, State.Warmed39.refl s, rfl⟩ trivial
  exact ⟨n, _, h1, h2, h3, hpost _ _ _ _ _ _ ⟨Cond.after_iff.mpr rfl, Cond.after_iff.mpr (eq_i res_at (Term.int_eval (1)) rfl)⟩ ⟨hq.1, hq.2.1, (hq.2.2.sift fun y hy => Or.inr (N y hy)).mono (by decide) (by decide)⟩⟩
theorem main_1_1 : Claimed_1_1 := comes_1 fun _ _ _ _ _ _ h hF => ⟨h.1, hF⟩
theorem main_1_2 : Claimed_1_2 := comes_1 fun _ _ _ _ _ _ h hF => ⟨h.2, hF⟩
end Jvm.Pilot.@@N@@
namespace Jvm.Pilot.@@N@@
open Jvm Jvm.ClassFile Sem Op Lib Jvm.Free Jvm.Stand Jvm.Pilot.@@N@@.Jvm.D
/-! MADE BY PROGRAM (witnessworld.py) out of the Statement's table words and the real class files: 13 classes; the members and pool entries that the words name. The judged class is class 1, her method 3. -/
namespace start1
open Jvm.ClassFile
def u (s : String) : CpInfo := .utf8 (stringToUtf16 s)
/-- a pool by its gaps: so many unusable entries, then the entry; so many at the end -/
def gap : Nat → List CpInfo → List CpInfo
  | 0, r => r
  | n + 1, r => .unusable :: gap n r
def poolList (es : List (Nat × CpInfo)) (last : Nat) : List CpInfo := es.foldr (fun e r => gap e.1 (e.2 :: r)) (gap last [])
def pool (es : List (Nat × CpInfo)) (last : Nat) : Array CpInfo := ⟨poolList es last⟩
def fileOf (pool : Array CpInfo) (this : Nat) (attrs : Array Attribute := #[]) (ms : Array MethodInfo := #[]) (fl : Nat := 33) (sup : Nat := 0) (ifs : Array Nat := #[]) (fds : Array FieldInfo := #[]) : ClassFile where
  minorVersion := 0
  majorVersion := 65
  constantPool := pool
  accessFlags := fl
  thisClass := this
  superClass := sup
  interfaces := ifs
  fields := fds
  methods := ms
  attributes := attrs
def plain (name : String) (sup : Option ClassId) : Class where
  name := name
  kind := .ordinary
  loader := none
  accessFlags := 33
  super := sup
  interfaces := #[]
  cf := none
  fields := #[]
  methods := #[]
  instanceTypes := #[]
  staticTypes := #[]
  resolved := #[]
  callSites := []
  init := .initialized
  statics := none
  mirror := none

def pool0 : Array CpInfo := pool [(5, u "<init>"), (0, u "()V"), (1, .class_ 10), (1, u "java/lang/Object")] 113

def k0c0 : Code := { maxStack := 0, maxLocals := 1, code := object_method_1_code, exceptionTable := #[], attributes := #[] }
def k0m0 : Method := { name := "<init>", desc := "()V", sig := { parameters := [], returnType := none }, accessFlags := 1, code := some k0c0 }
/-- java/lang/Object -/
def k0 : Class := { plain "java/lang/Object" none with
  accessFlags := 33
  interfaces := #[]
  cf := some (fileOf pool0 8 #[] #[{ accessFlags := 1, nameIndex := 5, descriptorIndex := 6, attributes := #[] }] 33 0 #[] #[])
  fields := #[]
  methods := #[k0m0]
  instanceTypes := #[]
  staticTypes := #[]
  resolved := Array.replicate 124 none
  statics := none }

def pool1 : Array CpInfo := pool [(2, .class_ 4), (1, u "java/lang/Object"), (0, u "<init>"), (0, u "()V"), (0, .class_ 8), (0, u "com/example/lean_wiring/leanwiring/Offer$Cost"), (0, .methodref 7 10), (0, .nameAndType 5 11), (0, u "(IIII)V"), (0, .methodref 13 14), (0, .class_ 15), (0, .nameAndType 16 17), (0, u "com/example/lean_wiring/leanwiring/CostCompareToPinLaw"), (0, u "cmp"), (0, u "(II)I"), (0, .methodref 7 19), (0, .nameAndType 20 21), (0, u "compareTo"), (0, u "(Lcom/example/lean_wiring/leanwiring/Offer$Cost;)I"), (0, .methodref 13 23), (0, .nameAndType 24 25), (0, u "sign"), (0, u "(I)I"), (3, u "law"), (0, u "(JJJJI)Z")] 6

def k1m0 : Method := { name := "<init>", desc := "()V", sig := { parameters := [], returnType := none }, accessFlags := 1, code := none }
def k1c1 : Code := { maxStack := 1, maxLocals := 1, code := method_2_code, exceptionTable := #[], attributes := #[] }
def k1m1 : Method := { name := "sign", desc := "(I)I", sig := { parameters := [.int], returnType := some .int }, accessFlags := 10, code := some k1c1 }
def k1c2 : Code := { maxStack := 2, maxLocals := 2, code := method_3_code, exceptionTable := #[], attributes := #[] }
def k1m2 : Method := { name := "cmp", desc := "(II)I", sig := { parameters := [.int, .int], returnType := some .int }, accessFlags := 10, code := some k1c2 }
def k1c3 : Code := { maxStack := 6, maxLocals := 20, code := code, exceptionTable := #[], attributes := #[] }
def k1m3 : Method := { name := "law", desc := "(JJJJI)Z", sig := { parameters := [.long, .long, .long, .long, .int], returnType := some .boolean }, accessFlags := 9, code := some k1c3 }
/-- com/example/lean_wiring/leanwiring/CostCompareToPinLaw -/
def k1 : Class := { plain "com/example/lean_wiring/leanwiring/CostCompareToPinLaw" (some 0) with
  accessFlags := 49
  interfaces := #[]
  cf := some (fileOf pool1 13 #[] #[{ accessFlags := 1, nameIndex := 5, descriptorIndex := 6, attributes := #[] }, { accessFlags := 10, nameIndex := 24, descriptorIndex := 25, attributes := #[] }, { accessFlags := 10, nameIndex := 16, descriptorIndex := 17, attributes := #[] }, { accessFlags := 9, nameIndex := 29, descriptorIndex := 30, attributes := #[] }] 49 2 #[] #[])
  fields := #[]
  methods := #[k1m0, k1m1, k1m2, k1m3]
  instanceTypes := #[]
  staticTypes := #[]
  resolved := Array.replicate 37 none
  statics := none }

def pool2 : Array CpInfo := pool [(1, .methodref 2 3), (0, .class_ 4), (0, .nameAndType 5 6), (0, u "java/lang/Object"), (0, u "<init>"), (0, u "()V"), (0, .class_ 8), (0, u "java/lang/Record")] 13

def k2c0 : Code := { maxStack := 1, maxLocals := 1, code := jdk_30_method_1_code, exceptionTable := #[], attributes := #[] }
def k2m0 : Method := { name := "<init>", desc := "()V", sig := { parameters := [], returnType := none }, accessFlags := 4, code := some k2c0 }
/-- java/lang/Record -/
def k2 : Class := { plain "java/lang/Record" (some 0) with
  accessFlags := 1057
  interfaces := #[]
  cf := some (fileOf pool2 7 #[] #[{ accessFlags := 4, nameIndex := 5, descriptorIndex := 6, attributes := #[] }] 1057 2 #[] #[])
  fields := #[]
  methods := #[k2m0]
  instanceTypes := #[]
  staticTypes := #[]
  resolved := Array.replicate 22 none
  statics := none }

def pool3 : Array CpInfo := pool [(1, .class_ 2), (0, u "java/lang/Comparable"), (0, .class_ 4), (0, u "java/lang/Object")] 7

/-- java/lang/Comparable -/
def k3 : Class := { plain "java/lang/Comparable" (some 0) with
  accessFlags := 1537
  interfaces := #[]
  cf := some (fileOf pool3 1 #[] #[] 1537 3 #[] #[])
  fields := #[]
  methods := #[]
  instanceTypes := #[]
  staticTypes := #[]
  resolved := Array.replicate 12 none
  statics := none }

def pool4 : Array CpInfo := pool [(1, .methodref 2 3), (0, .class_ 4), (0, .nameAndType 5 6), (0, u "java/lang/Record"), (0, u "<init>"), (0, u "()V"), (0, .fieldref 8 9), (0, .class_ 10), (0, .nameAndType 11 12), (0, u "com/example/lean_wiring/leanwiring/Offer$Cost"), (0, u "checks"), (0, u "I"), (0, .fieldref 8 14), (0, .nameAndType 15 12), (0, u "copies"), (0, .fieldref 8 17), (0, .nameAndType 18 12), (0, u "conversions"), (0, .fieldref 8 20), (0, .nameAndType 21 12), (0, u "supertypes"), (6, u "(IIII)V"), (8, u "SUPERTYPE"), (0, u "Lcom/example/lean_wiring/leanwiring/Offer$Cost;"), (4, .methodref 44 45), (0, .class_ 46), (0, .nameAndType 47 48), (0, u "java/lang/Integer"), (0, u "compare"), (0, u "(II)I"), (50, u "compareTo"), (0, u "(Lcom/example/lean_wiring/leanwiring/Offer$Cost;)I"), (13, u "NONE"), (2, u "CHECK"), (2, u "CONVERSION"), (2, u "COPY"), (0, .class_ 125), (0, u "java/lang/Comparable"), (18, .class_ 145), (0, u "com/example/lean_wiring/leanwiring/Offer")] 38

def k4c0 : Code := { maxStack := 2, maxLocals := 5, code := prog_103_method_1_code, exceptionTable := #[], attributes := #[] }
def k4m0 : Method := { name := "<init>", desc := "(IIII)V", sig := { parameters := [.int, .int, .int, .int], returnType := none }, accessFlags := 1, code := some k4c0 }
def k4c1 : Code := { maxStack := 2, maxLocals := 3, code := prog_103_method_6_code, exceptionTable := #[], attributes := #[] }
def k4m1 : Method := { name := "compareTo", desc := "(Lcom/example/lean_wiring/leanwiring/Offer$Cost;)I", sig := { parameters := [(.object "com/example/lean_wiring/leanwiring/Offer$Cost")], returnType := some .int }, accessFlags := 1, code := some k4c1 }
/-- com/example/lean_wiring/leanwiring/Offer$Cost -/
def k4 : Class := { plain "com/example/lean_wiring/leanwiring/Offer$Cost" (some 2) with
  accessFlags := 49
  interfaces := #[3]
  cf := some (fileOf pool4 8 #[.nestHost 144] #[{ accessFlags := 1, nameIndex := 5, descriptorIndex := 28, attributes := #[] }, { accessFlags := 1, nameIndex := 99, descriptorIndex := 100, attributes := #[] }] 49 2 #[124] #[{ accessFlags := 18, nameIndex := 11, descriptorIndex := 12, attributes := #[] }, { accessFlags := 18, nameIndex := 15, descriptorIndex := 12, attributes := #[] }, { accessFlags := 18, nameIndex := 18, descriptorIndex := 12, attributes := #[] }, { accessFlags := 18, nameIndex := 21, descriptorIndex := 12, attributes := #[] }, { accessFlags := 24, nameIndex := 114, descriptorIndex := 38, attributes := #[] }, { accessFlags := 24, nameIndex := 117, descriptorIndex := 38, attributes := #[] }, { accessFlags := 24, nameIndex := 120, descriptorIndex := 38, attributes := #[] }, { accessFlags := 24, nameIndex := 123, descriptorIndex := 38, attributes := #[] }, { accessFlags := 24, nameIndex := 37, descriptorIndex := 38, attributes := #[] }])
  fields := #[{ name := "checks", type := .int, accessFlags := 18, slot := 0, constantValue := 0 }, { name := "copies", type := .int, accessFlags := 18, slot := 1, constantValue := 0 }, { name := "conversions", type := .int, accessFlags := 18, slot := 2, constantValue := 0 }, { name := "supertypes", type := .int, accessFlags := 18, slot := 3, constantValue := 0 }, { name := "NONE", type := (.object "com/example/lean_wiring/leanwiring/Offer$Cost"), accessFlags := 24, slot := 0, constantValue := 0 }, { name := "CHECK", type := (.object "com/example/lean_wiring/leanwiring/Offer$Cost"), accessFlags := 24, slot := 1, constantValue := 0 }, { name := "CONVERSION", type := (.object "com/example/lean_wiring/leanwiring/Offer$Cost"), accessFlags := 24, slot := 2, constantValue := 0 }, { name := "COPY", type := (.object "com/example/lean_wiring/leanwiring/Offer$Cost"), accessFlags := 24, slot := 3, constantValue := 0 }, { name := "SUPERTYPE", type := (.object "com/example/lean_wiring/leanwiring/Offer$Cost"), accessFlags := 24, slot := 4, constantValue := 0 }]
  methods := #[k4m0, k4m1]
  instanceTypes := #[.int, .int, .int, .int]
  staticTypes := #[(.object "com/example/lean_wiring/leanwiring/Offer$Cost"), (.object "com/example/lean_wiring/leanwiring/Offer$Cost"), (.object "com/example/lean_wiring/leanwiring/Offer$Cost"), (.object "com/example/lean_wiring/leanwiring/Offer$Cost"), (.object "com/example/lean_wiring/leanwiring/Offer$Cost")]
  resolved := Array.replicate 184 none
  statics := none }

def pool5 : Array CpInfo := pool [(1, .class_ 2), (0, u "java/io/Serializable"), (0, .class_ 4), (0, u "java/lang/Object")] 2

/-- java/io/Serializable -/
def k5 : Class := { plain "java/io/Serializable" (some 0) with
  accessFlags := 1537
  interfaces := #[]
  cf := some (fileOf pool5 1 #[] #[] 1537 3 #[] #[])
  fields := #[]
  methods := #[]
  instanceTypes := #[]
  staticTypes := #[]
  resolved := Array.replicate 7 none
  statics := none }

def pool6 : Array CpInfo := pool [(2, .class_ 4), (1, u "java/lang/Object"), (0, u "<init>"), (0, u "()V"), (1, .class_ 10), (1, u "java/lang/Number"), (2, .class_ 14), (0, u "java/io/Serializable"), (0, u "serialVersionUID"), (0, u "J")] 20

def k6m0 : Method := { name := "<init>", desc := "()V", sig := { parameters := [], returnType := none }, accessFlags := 1, code := none }
/-- java/lang/Number -/
def k6 : Class := { plain "java/lang/Number" (some 0) with
  accessFlags := 1057
  interfaces := #[5]
  cf := some (fileOf pool6 8 #[] #[{ accessFlags := 1, nameIndex := 5, descriptorIndex := 6, attributes := #[] }] 1057 2 #[13] #[{ accessFlags := 26, nameIndex := 15, descriptorIndex := 16, attributes := #[] }])
  fields := #[{ name := "serialVersionUID", type := .long, accessFlags := 26, slot := 0, constantValue := 0 }]
  methods := #[k6m0]
  instanceTypes := #[]
  staticTypes := #[.long]
  resolved := Array.replicate 37 none
  statics := none }

def pool7 : Array CpInfo := pool [(1, .class_ 2), (0, u "java/lang/constant/Constable"), (0, .class_ 4), (0, u "java/lang/Object")] 6

/-- java/lang/constant/Constable -/
def k7 : Class := { plain "java/lang/constant/Constable" (some 0) with
  accessFlags := 1537
  interfaces := #[]
  cf := some (fileOf pool7 1 #[] #[] 1537 3 #[] #[])
  fields := #[]
  methods := #[]
  instanceTypes := #[]
  staticTypes := #[]
  resolved := Array.replicate 11 none
  statics := none }

def pool8 : Array CpInfo := pool [(1, .class_ 2), (0, u "java/lang/constant/ConstantDesc"), (0, .class_ 4), (0, u "java/lang/Object")] 32

/-- java/lang/constant/ConstantDesc -/
def k8 : Class := { plain "java/lang/constant/ConstantDesc" (some 0) with
  accessFlags := 1537
  interfaces := #[]
  cf := some (fileOf pool8 1 #[] #[] 1537 3 #[] #[])
  fields := #[]
  methods := #[]
  instanceTypes := #[]
  staticTypes := #[]
  resolved := Array.replicate 37 none
  statics := none }

def pool9 : Array CpInfo := pool [(1, .class_ 2), (0, u "java/lang/Integer"), (16, u "digits"), (0, u "[C"), (39, u "(II)I"), (24, u "DigitOnes"), (0, u "[B"), (2, u "DigitTens"), (99, .class_ 190), (0, u "java/lang/Integer$IntegerCache"), (3, u "I"), (8, .class_ 204), (0, u "java/lang/Number"), (2, u "value"), (53, u "compare"), (40, u "TYPE"), (0, u "Ljava/lang/Class;"), (0, .class_ 305), (0, u "java/lang/Comparable"), (0, .class_ 307), (0, u "java/lang/constant/Constable"), (0, .class_ 309), (0, u "java/lang/constant/ConstantDesc"), (0, u "MIN_VALUE"), (1, u "MAX_VALUE"), (3, u "SIZE"), (1, u "BYTES"), (1, u "serialVersionUID"), (0, u "J")] 131

def k9c0 : Code := { maxStack := 2, maxLocals := 2, code := jdk_33_method_40_code, exceptionTable := #[], attributes := #[] }
def k9m0 : Method := { name := "compare", desc := "(II)I", sig := { parameters := [.int, .int], returnType := some .int }, accessFlags := 9, code := some k9c0 }
/-- java/lang/Integer -/
def k9 : Class := { plain "java/lang/Integer" (some 6) with
  accessFlags := 49
  interfaces := #[3, 7, 8]
  cf := some (fileOf pool9 1 #[.nestMembers #[189]] #[{ accessFlags := 9, nameIndex := 261, descriptorIndex := 60, attributes := #[] }] 49 203 #[304, 306, 308] #[{ accessFlags := 25, nameIndex := 310, descriptorIndex := 194, attributes := #[] }, { accessFlags := 25, nameIndex := 312, descriptorIndex := 194, attributes := #[] }, { accessFlags := 25, nameIndex := 302, descriptorIndex := 303, attributes := #[] }, { accessFlags := 24, nameIndex := 19, descriptorIndex := 20, attributes := #[] }, { accessFlags := 24, nameIndex := 89, descriptorIndex := 86, attributes := #[] }, { accessFlags := 24, nameIndex := 85, descriptorIndex := 86, attributes := #[] }, { accessFlags := 18, nameIndex := 207, descriptorIndex := 194, attributes := #[] }, { accessFlags := 25, nameIndex := 316, descriptorIndex := 194, attributes := #[] }, { accessFlags := 25, nameIndex := 318, descriptorIndex := 194, attributes := #[] }, { accessFlags := 26, nameIndex := 320, descriptorIndex := 321, attributes := #[] }])
  fields := #[{ name := "MIN_VALUE", type := .int, accessFlags := 25, slot := 0, constantValue := 0 }, { name := "MAX_VALUE", type := .int, accessFlags := 25, slot := 1, constantValue := 0 }, { name := "TYPE", type := (.object "java/lang/Class"), accessFlags := 25, slot := 2, constantValue := 0 }, { name := "digits", type := (.array .char), accessFlags := 24, slot := 3, constantValue := 0 }, { name := "DigitTens", type := (.array .byte), accessFlags := 24, slot := 4, constantValue := 0 }, { name := "DigitOnes", type := (.array .byte), accessFlags := 24, slot := 5, constantValue := 0 }, { name := "value", type := .int, accessFlags := 18, slot := 0, constantValue := 0 }, { name := "SIZE", type := .int, accessFlags := 25, slot := 6, constantValue := 0 }, { name := "BYTES", type := .int, accessFlags := 25, slot := 7, constantValue := 0 }, { name := "serialVersionUID", type := .long, accessFlags := 26, slot := 8, constantValue := 0 }]
  methods := #[k9m0]
  instanceTypes := #[.int]
  staticTypes := #[.int, .int, (.object "java/lang/Class"), (.array .char), (.array .byte), (.array .byte), .int, .int, .long]
  resolved := Array.replicate 453 none
  statics := none }

def pool10 : Array CpInfo := pool [(1, u "java/lang/Cloneable"), (0, .class_ 1), (0, u "java/lang/Object"), (0, .class_ 3)] 3

/-- java/lang/Cloneable -/
def k10 : Class := { plain "java/lang/Cloneable" (some 0) with
  accessFlags := 1537
  interfaces := #[]
  cf := some (fileOf pool10 2 #[] #[] 1537 4 #[] #[])
  fields := #[]
  methods := #[]
  instanceTypes := #[]
  staticTypes := #[]
  resolved := Array.replicate 8 none
  statics := none }

/-- the primitive byte -/
def k11 : Class := { plain "byte" none with kind := .primitive 'B', accessFlags := 0x411 }
/-- [B -/
def k12 : Class := { plain "[B" (some 0) with kind := .array 11 .byte, interfaces := #[10, 5], accessFlags := 1041 }

def heap : Heap := #[]
def classes : Array Class := #[k0, k1, k2, k3, k4, k5, k6, k7, k8, k9, k10, k11, k12]
def interned : List (Array UInt16 × Addr) := []
def slotsUsed : Nat := 0
def theMethod : MethodId := ⟨1, 3⟩
def args0 : Array Value := #[.long 5, .long 6, .long 7, .long 8, .int 3]
def aboutOver (below : List Frame) : State where
  vm := { classes := classes, interned := interned.toArray }
  heap := heap
  slotsUsed := slotsUsed
  threads := #[{ frames := .invoking theMethod args0 :: below }]
def below0 : List Frame := [.native { method := ⟨0, 0⟩, args := #[] }]
def about1 : State := aboutOver below0
def p0 : Program := .bare "" "" ""
def e0 : Env := launch0.env 0 0 0
theorem w_frames : about1.frames = Frame.invoking theMethod args0 :: below0 := rfl
set_option maxRecDepth 65536 in
theorem w_args : argsFit about1.vm theMethod args0 = true := by decide +kernel
set_option maxRecDepth 65536 in
theorem w_heap : heapFits about1 = true := by decide +kernel
set_option maxRecDepth 65536 in
theorem w_runnable : about1.curStatus? = some .runnable := by decide +kernel
set_option maxRecDepth 65536 in
theorem w_alone : about1.alone = true := by decide +kernel
set_option maxRecDepth 65536 in
theorem w_named : about1.methodNamed? x = some theMethod := by decide +kernel
set_option maxRecDepth 65536 in
theorem w_hears : about1.hears theMethod below0 = true := by decide +kernel
set_option maxRecDepth 65536 in
theorem w_ripe : about1.ripe theMethod args0 below0 = true := by decide +kernel
theorem w_running : about1.status = .running := rfl
set_option maxRecDepth 65536 in
theorem w_room : about1.hasRoom e0.platform room_1 = true :=
  launch0.hasRoom_least _ room_1 (by decide +kernel) (by decide +kernel) (by decide +kernel) (by decide +kernel) (by decide +kernel) (by decide +kernel)
theorem allAtoms_all (ts : List Jvm.Cond) (a : Array Jvm.Value) (st : Jvm.State) : (allAtoms ts).before a st = ts.all (fun c => c.before a st) := by
  induction ts with
  | nil => rfl
  | cons c t ih =>
    show (Jvm.Cond.and c (allAtoms t)).before a st = _
    rw [Jvm.Cond.before_and, ih, List.all_cons]
def words1 : List Jvm.Cond := Jvm.Cond.code x code maxLocals ret :: tables_1
/-- a 'code' word, met by the world's own term for the bytes: nothing is compared byte by byte -/
theorem code_word {y : MethodName} {bytes : ByteArray} {mx : Nat} {rt : Option FieldType} {a : Array Value} {s : State} {m : MethodId} {meth : Method} {c : Code} (h1 : s.methodNamed? y = some m) (h2 : s.vm.method? m = some meth) (h3 : meth.code = some c) (h4 : c.code = bytes)
    (h5 : (c.maxLocals == mx && c.exceptionTable.isEmpty && decide (c.maxStack ≤ mostOperands) && decide (meth.sig.returnType = rt) && !meth.locks && decide (parseMethodDescriptor y.desc = some meth.sig)) = true) : (Jvm.Cond.code y bytes mx rt).before a s = true := by
  simp only [Bool.and_eq_true, beq_iff_eq, Bool.not_eq_true', decide_eq_true_eq] at h5
  obtain ⟨⟨⟨⟨⟨g1, g2⟩, g3⟩, g4⟩, g5⟩, g6⟩ := h5
  simp [Cond.before, Cond.holds, Cond.value, h1, h2, h3, h4, g1, g2, g3, g4, g5, g6]
def isCode : Jvm.Cond → Bool
  | .code _ _ _ _ => true
  | _ => false
theorem all_split {L : List Jvm.Cond} {P : Jvm.Cond → Bool} (h1 : L.all (fun c => isCode c || P c) = true) (h2 : ∀ c ∈ L.filter isCode, P c = true) : L.all P = true := by
  refine List.all_eq_true.mpr fun c hc => ?_
  have h := List.all_eq_true.mp h1 c hc
  rcases Bool.eq_false_or_eq_true (isCode c) with hi | hi
  · exact h2 c (List.mem_filter.mpr ⟨hc, hi⟩)
  · simpa [hi] using h
set_option maxRecDepth 65536 in
theorem w_c0 : (Jvm.Cond.code x code maxLocals ret).before args0 about1 = true := code_word (m := ⟨1, 3⟩) (meth := k1m3) (c := k1c3) (by decide +kernel) rfl rfl rfl (by decide +kernel)
set_option maxRecDepth 65536 in
theorem w_c1 : (Jvm.Cond.code ({ cls := "com/example/lean_wiring/leanwiring/Offer$Cost", name := "<init>", desc := "(IIII)V" } : Jvm.MethodName) prog_103_method_1_code (5 : Nat) (Option.none : Option Jvm.ClassFile.FieldType)).before args0 about1 = true := code_word (m := ⟨4, 0⟩) (meth := k4m0) (c := k4c0) (by decide +kernel) rfl rfl rfl (by decide +kernel)
set_option maxRecDepth 65536 in
theorem w_c2 : (Jvm.Cond.code ({ cls := "java/lang/Record", name := "<init>", desc := "()V" } : Jvm.MethodName) jdk_30_method_1_code (1 : Nat) (Option.none : Option Jvm.ClassFile.FieldType)).before args0 about1 = true := code_word (m := ⟨2, 0⟩) (meth := k2m0) (c := k2c0) (by decide +kernel) rfl rfl rfl (by decide +kernel)
set_option maxRecDepth 65536 in
theorem w_c3 : (Jvm.Cond.code ({ cls := "java/lang/Object", name := "<init>", desc := "()V" } : Jvm.MethodName) object_method_1_code (1 : Nat) (Option.none : Option Jvm.ClassFile.FieldType)).before args0 about1 = true := code_word (m := ⟨0, 0⟩) (meth := k0m0) (c := k0c0) (by decide +kernel) rfl rfl rfl (by decide +kernel)
set_option maxRecDepth 65536 in
theorem w_c4 : (Jvm.Cond.code ({ cls := "com/example/lean_wiring/leanwiring/CostCompareToPinLaw", name := "cmp", desc := "(II)I" } : Jvm.MethodName) method_3_code (2 : Nat) (Option.some Jvm.ClassFile.FieldType.int)).before args0 about1 = true := code_word (m := ⟨1, 2⟩) (meth := k1m2) (c := k1c2) (by decide +kernel) rfl rfl rfl (by decide +kernel)
set_option maxRecDepth 65536 in
theorem w_c5 : (Jvm.Cond.code ({ cls := "com/example/lean_wiring/leanwiring/Offer$Cost", name := "compareTo", desc := "(Lcom/example/lean_wiring/leanwiring/Offer$Cost;)I" } : Jvm.MethodName) prog_103_method_6_code (3 : Nat) (Option.some Jvm.ClassFile.FieldType.int)).before args0 about1 = true := code_word (m := ⟨4, 1⟩) (meth := k4m1) (c := k4c1) (by decide +kernel) rfl rfl rfl (by decide +kernel)
set_option maxRecDepth 65536 in
theorem w_c6 : (Jvm.Cond.code ({ cls := "java/lang/Integer", name := "compare", desc := "(II)I" } : Jvm.MethodName) jdk_33_method_40_code (2 : Nat) (Option.some Jvm.ClassFile.FieldType.int)).before args0 about1 = true := code_word (m := ⟨9, 0⟩) (meth := k9m0) (c := k9c0) (by decide +kernel) rfl rfl rfl (by decide +kernel)
set_option maxRecDepth 65536 in
theorem w_c7 : (Jvm.Cond.code ({ cls := "com/example/lean_wiring/leanwiring/CostCompareToPinLaw", name := "sign", desc := "(I)I" } : Jvm.MethodName) method_2_code (1 : Nat) (Option.some Jvm.ClassFile.FieldType.int)).before args0 about1 = true := code_word (m := ⟨1, 1⟩) (meth := k1m1) (c := k1c1) (by decide +kernel) rfl rfl rfl (by decide +kernel)
def codes1 : List Jvm.Cond := [Jvm.Cond.code x code maxLocals ret, Jvm.Cond.code ({ cls := "com/example/lean_wiring/leanwiring/Offer$Cost", name := "<init>", desc := "(IIII)V" } : Jvm.MethodName) prog_103_method_1_code (5 : Nat) (Option.none : Option Jvm.ClassFile.FieldType), Jvm.Cond.code ({ cls := "java/lang/Record", name := "<init>", desc := "()V" } : Jvm.MethodName) jdk_30_method_1_code (1 : Nat) (Option.none : Option Jvm.ClassFile.FieldType), Jvm.Cond.code ({ cls := "java/lang/Object", name := "<init>", desc := "()V" } : Jvm.MethodName) object_method_1_code (1 : Nat) (Option.none : Option Jvm.ClassFile.FieldType), Jvm.Cond.code ({ cls := "com/example/lean_wiring/leanwiring/CostCompareToPinLaw", name := "cmp", desc := "(II)I" } : Jvm.MethodName) method_3_code (2 : Nat) (Option.some Jvm.ClassFile.FieldType.int), Jvm.Cond.code ({ cls := "com/example/lean_wiring/leanwiring/Offer$Cost", name := "compareTo", desc := "(Lcom/example/lean_wiring/leanwiring/Offer$Cost;)I" } : Jvm.MethodName) prog_103_method_6_code (3 : Nat) (Option.some Jvm.ClassFile.FieldType.int), Jvm.Cond.code ({ cls := "java/lang/Integer", name := "compare", desc := "(II)I" } : Jvm.MethodName) jdk_33_method_40_code (2 : Nat) (Option.some Jvm.ClassFile.FieldType.int), Jvm.Cond.code ({ cls := "com/example/lean_wiring/leanwiring/CostCompareToPinLaw", name := "sign", desc := "(I)I" } : Jvm.MethodName) method_2_code (1 : Nat) (Option.some Jvm.ClassFile.FieldType.int)]
set_option maxRecDepth 65536 in
theorem codes_eq : words1.filter isCode = codes1 := rfl
theorem w_codes : ∀ c ∈ words1.filter isCode, c.before args0 about1 = true := by
  rw [codes_eq]
  intro c hc
  simp only [codes1, List.mem_cons, List.not_mem_nil, or_false] at hc
  rcases hc with rfl | rfl | rfl | rfl | rfl | rfl | rfl | rfl
  · exact w_c0
  · exact w_c1
  · exact w_c2
  · exact w_c3
  · exact w_c4
  · exact w_c5
  · exact w_c6
  · exact w_c7
set_option maxRecDepth 65536 in
theorem w_t1 : (words1.take 24).all (fun c => isCode c || c.before args0 about1) = true := by decide +kernel
set_option maxRecDepth 65536 in
theorem w_t2 : (words1.drop 24).all (fun c => isCode c || c.before args0 about1) = true := by decide +kernel
theorem w_tables : (allAtoms (Jvm.Cond.code x code maxLocals ret :: tables_1)).before args0 about1 = true := by
  rw [allAtoms_all]
  show words1.all (fun c => c.before args0 about1) = true
  refine all_split ?_ w_codes
  rw [← List.take_append_drop 24 words1, List.all_append, w_t1, w_t2]
  rfl
set_option maxRecDepth 65536 in
theorem w_case : (Jvm.Cond.and given_1 narrow_1).before args0 about1 = true := by decide +kernel
theorem w_applies : (headSpec (Jvm.Cond.code x code maxLocals ret :: tables_1) room_1).applies x e0.platform about1 = true :=
  (Spec.applies_iff w_frames).mpr ⟨w_running, w_runnable, w_alone, w_named, w_hears, w_ripe, w_room, w_tables⟩
theorem atStart : AtStart classFile x code maxLocals ret World_1 tables_1 room_1 Calls_1 rest_1 Pre_1 launch0 p0 e0 about1 theMethod args0 below0 :=
  ⟨lists_1, trivial, launch0.admits_env _ _ _, launch0.least_env, fairChoices_fair.cas, fairChoices_fair.clock, w_frames, w_args, w_heap, w_applies, trivial, trivial, w_case⟩
end start1
theorem witness_1 : WitnessClaimed_1 := ⟨start1.p0, start1.e0, start1.about1, start1.theMethod, start1.args0, start1.below0, start1.atStart⟩
end Jvm.Pilot.@@N@@
