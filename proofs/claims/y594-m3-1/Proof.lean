import JvmDerived
import JvmDerived.Pilot.@@N@@Statement
import JvmDerived.Pilot.@@N@@Code
set_option linter.unusedVariables false
set_option linter.unusedSimpArgs false
namespace Jvm.OwnKit
open Sem ClassFile Op Lib Jvm.Stand Jvm.Free Jvm.LawKit Jvm.RoadKit
section OwnGo
variable {p : Program} {l : Launch} {e : Env} {R : Room} {s : State} {m : MethodId} {args : Array Value} {below : List Frame} {meth : Method} {c : Code} {T : State} {locs : List Loc} {cells slots : Nat} {Z : State} {a0 : Array Value} {h : Heap}
/-- from the state t the run comes to an end of which P holds -/
def OGo (tb : Tables) (e : Env) (below : List Frame) (P : Outcome → State → Prop) (t : State) : Prop :=
  ∃ s₂ o, Steps tb e below t s₂ ∧ s₂.status = .running ∧ Ended s₂ below o ∧ P o s₂
theorem ogo {tb : Tables} {P : Outcome → State → Prop} {t t' : State} (k : ∀ u, Steps tb e below t' u → Steps tb e below t u) (g : OGo tb e below P t') : OGo tb e below P t := by
  obtain ⟨s₂, o, h1, h2⟩ := g
  exact ⟨s₂, o, k _ h1, h2⟩
theorem ogoT {tb : Tables} {P : Outcome → State → Prop} {t t' : State} (k : Steps tb e below t t') (g : OGo tb e below P t') : OGo tb e below P t := ogo (fun _ q => k.trans q) g
/-- the end of a body: returned, the heap as Q says, the frame kept -/
abbrev OFin (s : State) (Q : Option Value → Heap → List Loc → Prop) (K N : Nat) : Outcome → State → Prop :=
  fun o U => ∃ v L, o = .returned v ∧ Q v U.heap L ∧ FrameEnd s o U L K N
/-- a body's contract -/
def OMet (l : Launch) (Z : State) (y : MethodName) (bytes : ByteArray) (maxL : Nat) (ret : Option FieldType) (rm : Room) (as : Array Value) (h : Heap) (Q : Option Value → Heap → List Loc → Prop) : Prop :=
  ∀ ws : List Jvm.Cond, MetFree l y (head1 (Jvm.Cond.code y bytes maxL ret :: ws) rm) (fun a U => a = as ∧ Z.Warmed39 U.vm ∧ U.heap = h) (fun _ _ _ _ _ => True) (fun _ U o U' => ∃ v L, o = .returned v ∧ Q v U'.heap L ∧ FrameEnd U o U' L rm.cells rm.slots)
/-- a body that returns w and writes nothing -/
abbrev OPure (w : Option Value) (h : Heap) : Option Value → Heap → List Loc → Prop := fun v h' L => v = w ∧ L = [] ∧ h' = h
theorem oret (X : Stand p l e R s m args below meth c T locs cells slots) (hx : p.tables.exec = Jvm.exec) (hlk : meth.locks = false) {pc : Nat} {Ls : Array Slot} {w : Value} {t : FieldType} {i : Instr} {rest : List Value} (hret : meth.sig.returnType = some t) (hn : narrow t w = w)
    (hi : (i = .ireturn ∧ (t = .int ∨ t = .boolean ∨ t = .byte ∨ t = .char ∨ t = .short) ∧ ∃ z, w = .int z) ∨ (i = .lreturn ∧ t = .long ∧ ∃ z, w = .long z) ∨ (i = .dreturn ∧ t = .double ∧ ∃ z, w = .double z) ∨ (i = .freturn ∧ t = .float ∧ ∃ z, w = .float z) ∨ (i = .areturn ∧ t.isReference = true ∧ w.isRef = true))
    (hd : decode c.code pc = .ok (i, 1)) {K N : Nat} (hk : cells ≤ K) (hs : slots ≤ N) {Q : Option Value → Heap → List Loc → Prop} (hQ : Q (some w) T.heap locs) :
    OGo p.tables e below (OFin s Q K N) (T.setTop (mkF m pc Ls (w :: rest))) := by
  obtain ⟨fs, hr, hrun, hended, hW, hsame⟩ := X.leave (v := some w) (fun h => by rw [hret] at h; cases h) hlk
  exact ⟨_, _, retOut X hx hret hn hi hd hr, hrun, hended, _, _, rfl, hQ, ⟨_, rfl⟩, hW, hsame.mono hk hs⟩
theorem oretV (X : Stand p l e R s m args below meth c T locs cells slots) (hx : p.tables.exec = Jvm.exec) (hlk : meth.locks = false) {pc : Nat} {Ls : Array Slot} (hret : meth.sig.returnType = none)
    (hd : decode c.code pc = .ok (.return_, 1)) {K N : Nat} (hk : cells ≤ K) (hs : slots ≤ N) {Q : Option Value → Heap → List Loc → Prop} (hQ : Q none T.heap locs) :
    OGo p.tables e below (OFin s Q K N) (T.setTop (mkF m pc Ls [])) := by
  obtain ⟨fs, hr, hrun, hended, hW, hsame⟩ := X.leave (v := none) (fun _ => rfl) hlk
  exact ⟨_, _, X.returnOut hx hret hd hr, hrun, hended, _, _, rfl, hQ, ⟨_, rfl⟩, hW, hsame.mono hk hs⟩
abbrev OPlain (y : MethodName) : Prop := y.cls ≠ "java/lang/invoke/MethodHandle" ∧ y.cls ≠ "java/lang/invoke/VarHandle"
/-- a static call by its contract -/
theorem ocallQ (X : Stand p l e R s m args below meth c T locs cells slots) (hx : p.tables.exec = Jvm.exec) (hZ : Z.Warmed39 s.vm) (eT : T.heap = h) {own : String} {index : Nat} {y : MethodName} {bytes : ByteArray} {maxL : Nat} {ret : Option FieldType} {rm : Room} {as : Array Value} {Q : Option Value → Heap → List Loc → Prop} (hM : OMet l Z y bytes maxL ret rm as h Q)
    (hown : s.vm.findClass own = some m.cls) (w1 : (Jvm.Cond.methodLink own index y).before a0 Z = true) (w2 : (Jvm.Cond.static y).before a0 Z = true) (w3 : (Jvm.Cond.initialized y.cls).before a0 Z = true) (w4 : (Jvm.Cond.code y bytes maxL ret).before a0 Z = true) (hy : OPlain y)
    {g : JFrame} (hg : g.method = m) (hsize : g.locals.size = c.maxLocals) (argsL rest : List Value) (has : argsL.toArray = as) (hlen : ∀ sig, parseMethodDescriptor y.desc = some sig → argsL.length = sig.parameters.length) (hstack : g.stack = argsL.reverse ++ rest) (hdg : decode c.code g.pc = .ok (.invokestatic index, 3))
    (W : Nat) (hW : 2 * g.monitorRoom + (rest.map fun v => v.category).sum ≤ W) (hf : rm.frames + 1 ≤ R.frames) (hl : W + (maxL + 11) + rm.locals ≤ R.locals) (hc : cells + rm.cells ≤ R.cells) (hs : slots + rm.slots ≤ R.slots) :
    ∃ (v : Option Value) (T' : State) (h' : Heap) (L : List Loc), T'.heap = h' ∧ Q v h' L ∧ Stand p l e R s m args below meth c T' (locs ++ L) (cells + rm.cells) (slots + rm.slots) ∧
      ∀ target, Steps p.tables e below (T'.setTop { g with pc := g.pc + 3, stack := v.toList ++ rest }) target → Steps p.tables e below (T.setTop g) target := by
  obtain ⟨v, vm₁, ⟨T', L', k', n'⟩, -, X', ⟨L, hQ, l1, l2, l3⟩, st⟩ := Jvm.LawKit.callS X hx (y := y) hown (mvT hZ w1) (mvT hZ w2) (mvT hZ w3) (mvT hZ w4) hy (backOf (W := W) (hM []) hZ w4 w3 hf hl) (g := g) hg hsize (argsL := argsL) (rest := rest) hlen hstack hW hdg (fun _ _ => ⟨has, eT, hc, hs⟩)
  dsimp only [Pt.U, Pt.locs, Pt.cells, Pt.slots] at X' l1 l2 l3 st hQ
  subst l1 l2 l3
  exact ⟨v, T', _, L, rfl, hQ, X', st⟩
/-- a static call of a body that writes nothing -/
theorem ocallP (X : Stand p l e R s m args below meth c T locs cells slots) (hx : p.tables.exec = Jvm.exec) (hZ : Z.Warmed39 s.vm) (eT : T.heap = h) {own : String} {index : Nat} {y : MethodName} {bytes : ByteArray} {maxL : Nat} {ret : Option FieldType} {rm : Room} {as : Array Value} {w : Option Value} (hM : OMet l Z y bytes maxL ret rm as h (OPure w h))
    (hown : s.vm.findClass own = some m.cls) (w1 : (Jvm.Cond.methodLink own index y).before a0 Z = true) (w2 : (Jvm.Cond.static y).before a0 Z = true) (w3 : (Jvm.Cond.initialized y.cls).before a0 Z = true) (w4 : (Jvm.Cond.code y bytes maxL ret).before a0 Z = true) (hy : OPlain y)
    {g : JFrame} (hg : g.method = m) (hsize : g.locals.size = c.maxLocals) (argsL rest : List Value) (has : argsL.toArray = as) (hlen : ∀ sig, parseMethodDescriptor y.desc = some sig → argsL.length = sig.parameters.length) (hstack : g.stack = argsL.reverse ++ rest) (hdg : decode c.code g.pc = .ok (.invokestatic index, 3))
    (W : Nat) (hW : 2 * g.monitorRoom + (rest.map fun v => v.category).sum ≤ W) (hf : rm.frames + 1 ≤ R.frames) (hl : W + (maxL + 11) + rm.locals ≤ R.locals) (hc : cells + rm.cells ≤ R.cells) (hs : slots + rm.slots ≤ R.slots) (z1 : rm.cells = 0) (z2 : rm.slots = 0) :
    ∃ T' : State, Stand p l e R s m args below meth c T' locs cells slots ∧ T'.heap = h ∧
      ∀ target, Steps p.tables e below (T'.setTop { g with pc := g.pc + 3, stack := w.toList ++ rest }) target → Steps p.tables e below (T.setTop g) target := by
  obtain ⟨v, T', h', L, e2, ⟨rfl, rfl, e'⟩, X', st⟩ := ocallQ X hx hZ eT hM hown w1 w2 w3 w4 hy hg hsize argsL rest has hlen hstack hdg W hW hf hl hc hs
  rw [z1, z2, List.append_nil] at X'
  exact ⟨T', X', e2.trans e', st⟩
/-- an instance call by its contract -/
theorem ovirtQ (X : Stand p l e R s m args below meth c T locs cells slots) (hx : p.tables.exec = Jvm.exec) (hZ : Z.Warmed39 s.vm) (eT : T.heap = h) {own C : String} {index : Nat} {y : MethodName} {bytes : ByteArray} {maxL : Nat} {ret : Option FieldType} {rm : Room} {as : Array Value} {Q : Option Value → Heap → List Loc → Prop} (hM : OMet l Z y bytes maxL ret rm as h Q)
    (hown : s.vm.findClass own = some m.cls) (w1 : (Jvm.Cond.methodLink own index y).before a0 Z = true) (w2 : (Jvm.Cond.declares y).before a0 Z = true) (w3 : (Jvm.Cond.selects C y y).before a0 Z = true) (w4 : (Jvm.Cond.instanceMethod y).before a0 Z = true) (w5 : (Jvm.Cond.initialized y.cls).before a0 Z = true) (w6 : (Jvm.Cond.code y bytes maxL ret).before a0 Z = true) (hy : OPlain y) {b : Addr} (E : Exa Z h b C)
    {g : JFrame} (hg : g.method = m) (hsize : g.locals.size = c.maxLocals) (argsL rest : List Value) (has : (.ref b :: argsL).toArray = as) (hlen : ∀ sig, parseMethodDescriptor y.desc = some sig → argsL.length = sig.parameters.length) (hstack : g.stack = argsL.reverse ++ .ref b :: rest) (hdg : decode c.code g.pc = .ok (.invokevirtual index, 3))
    (W : Nat) (hW : 2 * g.monitorRoom + (rest.map fun v => v.category).sum ≤ W) (hf : rm.frames + 1 ≤ R.frames) (hl : W + (maxL + 11) + rm.locals ≤ R.locals) (hc : cells + rm.cells ≤ R.cells) (hs : slots + rm.slots ≤ R.slots) :
    ∃ (v : Option Value) (T' : State) (h' : Heap) (L : List Loc), T'.heap = h' ∧ Q v h' L ∧ Stand p l e R s m args below meth c T' (locs ++ L) (cells + rm.cells) (slots + rm.slots) ∧
      ∀ target, Steps p.tables e below (T'.setTop { g with pc := g.pc + 3, stack := v.toList ++ rest }) target → Steps p.tables e below (T.setTop g) target := by
  obtain ⟨cq, kq, qa, -, qc⟩ := isOf (T := T) hZ eT E
  have w3' : (Jvm.Cond.selects C y y).before args s = true := mvT hZ w3
  obtain ⟨v, vm₁, ⟨T', L', k', n'⟩, -, X', ⟨L, hQ, l1, l2, l3⟩, st⟩ := X.virtualBack hx (y := y) (z := y) hown (mvT hZ w1) (mvT hZ w2) (notFace_of_selects w3') w3' (mvT hZ w4) hy (backOf (W := W) (hM []) hZ w6 w5 hf hl) qa qc (g := g) hg hsize (Steps.refl _) (argsL := argsL) (rest := rest) hlen hstack hW hdg (fun _ _ => ⟨has, eT, hc, hs⟩)
  dsimp only [Pt.U, Pt.locs, Pt.cells, Pt.slots] at X' l1 l2 l3 st hQ
  subst l1 l2 l3
  exact ⟨v, T', _, L, rfl, hQ, X', fun _ k => st.trans k⟩
theorem ovirtP (X : Stand p l e R s m args below meth c T locs cells slots) (hx : p.tables.exec = Jvm.exec) (hZ : Z.Warmed39 s.vm) (eT : T.heap = h) {own C : String} {index : Nat} {y : MethodName} {bytes : ByteArray} {maxL : Nat} {ret : Option FieldType} {rm : Room} {as : Array Value} {w : Option Value} (hM : OMet l Z y bytes maxL ret rm as h (OPure w h))
    (hown : s.vm.findClass own = some m.cls) (w1 : (Jvm.Cond.methodLink own index y).before a0 Z = true) (w2 : (Jvm.Cond.declares y).before a0 Z = true) (w3 : (Jvm.Cond.selects C y y).before a0 Z = true) (w4 : (Jvm.Cond.instanceMethod y).before a0 Z = true) (w5 : (Jvm.Cond.initialized y.cls).before a0 Z = true) (w6 : (Jvm.Cond.code y bytes maxL ret).before a0 Z = true) (hy : OPlain y) {b : Addr} (E : Exa Z h b C)
    {g : JFrame} (hg : g.method = m) (hsize : g.locals.size = c.maxLocals) (argsL rest : List Value) (has : (.ref b :: argsL).toArray = as) (hlen : ∀ sig, parseMethodDescriptor y.desc = some sig → argsL.length = sig.parameters.length) (hstack : g.stack = argsL.reverse ++ .ref b :: rest) (hdg : decode c.code g.pc = .ok (.invokevirtual index, 3))
    (W : Nat) (hW : 2 * g.monitorRoom + (rest.map fun v => v.category).sum ≤ W) (hf : rm.frames + 1 ≤ R.frames) (hl : W + (maxL + 11) + rm.locals ≤ R.locals) (hc : cells + rm.cells ≤ R.cells) (hs : slots + rm.slots ≤ R.slots) (z1 : rm.cells = 0) (z2 : rm.slots = 0) :
    ∃ T' : State, Stand p l e R s m args below meth c T' locs cells slots ∧ T'.heap = h ∧
      ∀ target, Steps p.tables e below (T'.setTop { g with pc := g.pc + 3, stack := w.toList ++ rest }) target → Steps p.tables e below (T.setTop g) target := by
  obtain ⟨v, T', h', L, e2, ⟨rfl, rfl, e'⟩, X', st⟩ := ovirtQ X hx hZ eT hM hown w1 w2 w3 w4 w5 w6 hy E hg hsize argsL rest has hlen hstack hdg W hW hf hl hc hs
  rw [z1, z2, List.append_nil] at X'
  exact ⟨T', X', e2.trans e', st⟩
/-- a constructor by its contract -/
theorem ospecQ (X : Stand p l e R s m args below meth c T locs cells slots) (hx : p.tables.exec = Jvm.exec) (hZ : Z.Warmed39 s.vm) (eT : T.heap = h) {own : String} {index : Nat} {y : MethodName} {bytes : ByteArray} {maxL : Nat} {rm : Room} {as : Array Value} {Q : Option Value → Heap → List Loc → Prop} (hM : OMet l Z y bytes maxL none rm as h Q)
    (hyi : y.name = "<init>") (hown : s.vm.findClass own = some m.cls) (w1 : (Jvm.Cond.methodLink own index y).before a0 Z = true) (w4 : (Jvm.Cond.instanceMethod y).before a0 Z = true) (w5 : (Jvm.Cond.initialized y.cls).before a0 Z = true) (w6 : (Jvm.Cond.code y bytes maxL none).before a0 Z = true) (hy : OPlain y) {b : Addr}
    {g : JFrame} (hg : g.method = m) (hsize : g.locals.size = c.maxLocals) (argsL rest : List Value) (has : (.ref b :: argsL).toArray = as) (hlen : ∀ sig, parseMethodDescriptor y.desc = some sig → argsL.length = sig.parameters.length) (hstack : g.stack = argsL.reverse ++ .ref b :: rest) (hdg : decode c.code g.pc = .ok (.invokespecial index, 3))
    (W : Nat) (hW : 2 * g.monitorRoom + (rest.map fun v => v.category).sum ≤ W) (hf : rm.frames + 1 ≤ R.frames) (hl : W + (maxL + 11) + rm.locals ≤ R.locals) (hc : cells + rm.cells ≤ R.cells) (hs : slots + rm.slots ≤ R.slots) :
    ∃ (v : Option Value) (T' : State) (h' : Heap) (L : List Loc), T'.heap = h' ∧ Q v h' L ∧ Stand p l e R s m args below meth c T' (locs ++ L) (cells + rm.cells) (slots + rm.slots) ∧
      ∀ target, Steps p.tables e below (T'.setTop { g with pc := g.pc + 3, stack := v.toList ++ rest }) target → Steps p.tables e below (T.setTop g) target := by
  obtain ⟨v, vm₁, ⟨T', L', k', n'⟩, -, X', ⟨L, hQ, l1, l2, l3⟩, st⟩ := X.specialBack hx (y := y) hyi hown (mvT hZ w1) (mvT hZ w4) (mvT hZ w6) hy (backOf (W := W) (hM []) hZ w6 w5 hf hl) (g := g) hg hsize (Steps.refl _) (a := b) (argsL := argsL) (rest := rest) hlen hstack hW hdg (fun _ _ => ⟨has, eT, hc, hs⟩)
  dsimp only [Pt.U, Pt.locs, Pt.cells, Pt.slots] at X' l1 l2 l3 st hQ
  subst l1 l2 l3
  exact ⟨v, T', _, L, rfl, hQ, X', fun _ k => st.trans k⟩
theorem onb {z : Int32} (q : z = 0 ∨ z = 1) : narrow .boolean (.int z) = .int z := by rcases q with rfl | rfl <;> rfl
theorem ofb {z : Int32} (q : z = 0 ∨ z = 1) : fits .boolean (.int z) = true := by rcases q with rfl | rfl <;> rfl
theorem oif01 {c : Prop} [Decidable c] {a b : Int32} (qa : a = 0 ∨ a = 1) (qb : b = 0 ∨ b = 1) : (if c then a else b) = 0 ∨ (if c then a else b) = 1 := by split <;> assumption
/-! arrays by a function of the place -/
variable {ty : FieldType} {a b : Addr} {n : Nat} {f f' : Nat → Value} {h' : Heap} {ws : List Addr} {sl : Nat} {v : Value}
def OAr (Z : State) (h : Heap) (a : Addr) (ty : FieldType) (n : Nat) (f : Nat → Value) : Prop :=
  ∃ c : Cell, Arr Z h a c ty ∧ c.slots.size = n ∧ (∀ j, j < n → c.slots[j]? = some (f j)) ∧ ∀ j, j < n → fits ty (f j) = true
theorem OAr.lt (F : OAr Z h a ty n f) : a < h.size := by obtain ⟨c, A, -⟩ := F; exact A.lt
theorem OAr.ext (F : OAr Z h a ty n f) (E : Ext h h') : OAr Z h' a ty n f := by obtain ⟨c, A, r⟩ := F; exact ⟨c, A.ext E, r⟩
theorem OAr.other (F : OAr Z h b ty n f) (W : Wr h h' a sl v) (q : b ≠ a) : OAr Z h' b ty n f := by obtain ⟨c, A, r⟩ := F; exact ⟨c, A.other W q, r⟩
theorem OAr.keep (F : OAr Z h a ty n f) (K : Keep h h' ws) (q : a ∉ ws) : OAr Z h' a ty n f := by obtain ⟨c, A, r⟩ := F; exact ⟨c, ⟨K.2.1 a c A.1 q, A.2⟩, r⟩
theorem OAr.conv (F : OAr Z h a ty n f) (q : ∀ j, j < n → f j = f' j) : OAr Z h a ty n f' := by
  obtain ⟨c, A, S, H, G⟩ := F
  exact ⟨c, A, S, fun j hj => by rw [← q j hj]; exact H j hj, fun j hj => by rw [← q j hj]; exact G j hj⟩
theorem OAr.new {k : ClassId} {z : Int32} (A : Arr Z h a (newA k ty z) ty) (q : z.toNatClampNeg = n) : OAr Z h a ty n (fun _ => defaultValue ty) :=
  ⟨_, A, (sz_new _ _ _).trans q, fun j hj => by simp [newA, q, hj], fun j _ => by cases ty <;> rfl⟩
theorem OAr.set (F : OAr Z h a ty n f) (W : Wr h h' a sl v) (hv : fits ty v = true) : OAr Z h' a ty n (fun j => if j = sl then v else f j) := by
  obtain ⟨c, A, S, H, G⟩ := F
  refine ⟨_, A.same W, by rw [sz_set]; exact S, fun j hj => ?_, fun j hj => ?_⟩
  · show (c.slots.setIfInBounds sl v)[j]? = _
    rw [Array.getElem?_setIfInBounds]
    by_cases q : j = sl
    · subst q; simp [S, hj]
    · rw [if_neg (fun z => q z.symm), H j hj]; simp [q]
  · by_cases q : j = sl
    · simp [q, hv]
    · simp [q, G j hj]
theorem oidx {j : Int32} (h0 : 0 ≤ j.toInt) (h1 : j.toInt < (n : Int)) : ¬ (j < 0) ∧ j.toNatClampNeg < n := by
  refine ⟨fun q => ?_, ?_⟩
  · rw [Int32.lt_iff_toInt_lt] at q; have : (0 : Int32).toInt = 0 := rfl; omega
  · simp only [Int32.toNatClampNeg]; omega
theorem oin {c : Cell} {j : Int32} (S : c.slots.size = n) (h0 : 0 ≤ j.toInt) (h1 : j.toInt < (n : Int)) : ¬ (j < 0 ∨ c.slots.size ≤ j.toNatClampNeg) := by
  obtain ⟨q1, q2⟩ := oidx h0 h1
  rw [S]; exact fun z => z.elim q1 (fun u => Nat.not_le.mpr q2 u)
theorem ostB (X : Stand p l e R s m args below meth c T locs cells slots) (hx : p.tables.exec = Jvm.exec) (hZ : Z.Warmed39 s.vm) (eT : T.heap = h) (F : OAr Z h a .byte n f) {j x : Int32} (h0 : 0 ≤ j.toInt) (h1 : j.toInt < (n : Int)) {g : JFrame} (hg : g.method = m) {rest : List Value} (hs : g.stack = .int x :: .int j :: .ref a :: rest) (hd : decode c.code g.pc = .ok (.bastore, 1)) :
    ∃ T' h', Stand p l e R s m args below meth c T' (locs ++ [⟨a, j.toNatClampNeg⟩]) cells slots ∧ T'.heap = h' ∧ Wr h h' a j.toNatClampNeg (.int x.toInt8.toInt32) ∧ OAr Z h' a .byte n (fun i => if i = j.toNatClampNeg then .int x.toInt8.toInt32 else f i) ∧ ∀ target, Steps p.tables e below (T'.setTop { g with pc := g.pc + 1, stack := rest }) target → Steps p.tables e below (T.setTop g) target := by
  obtain ⟨cl, A, S, H, G⟩ := F
  obtain ⟨T', h', X', e', W, st⟩ := stB X hx hZ eT A (j := j) (x := x) (oin S h0 h1) hg hs hd
  exact ⟨T', h', X', e', W, OAr.set ⟨cl, A, S, H, G⟩ W (fits_nar_byte x), st⟩
theorem ostI (X : Stand p l e R s m args below meth c T locs cells slots) (hx : p.tables.exec = Jvm.exec) (hZ : Z.Warmed39 s.vm) (eT : T.heap = h) (F : OAr Z h a .int n f) {j x : Int32} (h0 : 0 ≤ j.toInt) (h1 : j.toInt < (n : Int)) {g : JFrame} (hg : g.method = m) {rest : List Value} (hs : g.stack = .int x :: .int j :: .ref a :: rest) (hd : decode c.code g.pc = .ok (.iastore, 1)) :
    ∃ T' h', Stand p l e R s m args below meth c T' (locs ++ [⟨a, j.toNatClampNeg⟩]) cells slots ∧ T'.heap = h' ∧ Wr h h' a j.toNatClampNeg (.int x) ∧ OAr Z h' a .int n (fun i => if i = j.toNatClampNeg then .int x else f i) ∧ ∀ target, Steps p.tables e below (T'.setTop { g with pc := g.pc + 1, stack := rest }) target → Steps p.tables e below (T.setTop g) target := by
  obtain ⟨cl, A, S, H, G⟩ := F
  obtain ⟨T', h', X', e', W, st⟩ := stI X hx hZ eT A (j := j) (x := x) (oin S h0 h1) hg hs hd
  exact ⟨T', h', X', e', W, OAr.set ⟨cl, A, S, H, G⟩ W rfl, st⟩
theorem ostJ (X : Stand p l e R s m args below meth c T locs cells slots) (hx : p.tables.exec = Jvm.exec) (hZ : Z.Warmed39 s.vm) (eT : T.heap = h) (F : OAr Z h a .long n f) {j : Int32} {x : Int64} (h0 : 0 ≤ j.toInt) (h1 : j.toInt < (n : Int)) {g : JFrame} (hg : g.method = m) {rest : List Value} (hs : g.stack = .long x :: .int j :: .ref a :: rest) (hd : decode c.code g.pc = .ok (.lastore, 1)) :
    ∃ T' h', Stand p l e R s m args below meth c T' (locs ++ [⟨a, j.toNatClampNeg⟩]) cells slots ∧ T'.heap = h' ∧ Wr h h' a j.toNatClampNeg (.long x) ∧ OAr Z h' a .long n (fun i => if i = j.toNatClampNeg then .long x else f i) ∧ ∀ target, Steps p.tables e below (T'.setTop { g with pc := g.pc + 1, stack := rest }) target → Steps p.tables e below (T.setTop g) target := by
  obtain ⟨cl, A, S, H, G⟩ := F
  obtain ⟨T', h', X', e', W, st⟩ := stJ X hx hZ eT A (j := j) (x := x) (oin S h0 h1) hg hs hd
  exact ⟨T', h', X', e', W, OAr.set ⟨cl, A, S, H, G⟩ W rfl, st⟩
theorem oldB (X : Stand p l e R s m args below meth c T locs cells slots) (hx : p.tables.exec = Jvm.exec) (hZ : Z.Warmed39 s.vm) (eT : T.heap = h) (F : OAr Z h a .byte n f) {j : Int32} (h0 : 0 ≤ j.toInt) (h1 : j.toInt < (n : Int)) {g : JFrame} (hg : g.method = m) {rest : List Value} (hs : g.stack = .int j :: .ref a :: rest) (hd : decode c.code g.pc = .ok (.baload, 1)) :
    ∀ target, Steps p.tables e below (T.setTop { g with pc := g.pc + 1, stack := f j.toNatClampNeg :: rest }) target → Steps p.tables e below (T.setTop g) target := by
  obtain ⟨cl, A, S, H, G⟩ := F
  exact fun t k => X.baloadBytes hx (by rw [eT]; exact A.1) (State.isArrayOf_alike hZ.alike A.2.1) A.2.2 (oin S h0 h1) (H _ (oidx h0 h1).2) hg hs hd t k
theorem oldI (X : Stand p l e R s m args below meth c T locs cells slots) (hx : p.tables.exec = Jvm.exec) (hZ : Z.Warmed39 s.vm) (eT : T.heap = h) (F : OAr Z h a .int n f) {j : Int32} (h0 : 0 ≤ j.toInt) (h1 : j.toInt < (n : Int)) {g : JFrame} (hg : g.method = m) {rest : List Value} (hs : g.stack = .int j :: .ref a :: rest) (hd : decode c.code g.pc = .ok (.iaload, 1)) :
    ∀ target, Steps p.tables e below (T.setTop { g with pc := g.pc + 1, stack := f j.toNatClampNeg :: rest }) target → Steps p.tables e below (T.setTop g) target := by
  obtain ⟨cl, A, S, H, G⟩ := F
  exact fun t k => X.iaload hx (by rw [eT]; exact A.1) (State.isArrayOf_alike hZ.alike A.2.1) A.2.2 (oin S h0 h1) (H _ (oidx h0 h1).2) hg hs hd t k
theorem oldJ (X : Stand p l e R s m args below meth c T locs cells slots) (hx : p.tables.exec = Jvm.exec) (hZ : Z.Warmed39 s.vm) (eT : T.heap = h) (F : OAr Z h a .long n f) {j : Int32} (h0 : 0 ≤ j.toInt) (h1 : j.toInt < (n : Int)) {g : JFrame} (hg : g.method = m) {rest : List Value} (hs : g.stack = .int j :: .ref a :: rest) (hd : decode c.code g.pc = .ok (.laload, 1)) :
    ∀ target, Steps p.tables e below (T.setTop { g with pc := g.pc + 1, stack := f j.toNatClampNeg :: rest }) target → Steps p.tables e below (T.setTop g) target := by
  obtain ⟨cl, A, S, H, G⟩ := F
  exact fun t k => X.laload hx (by rw [eT]; exact A.1) (State.isArrayOf_alike hZ.alike A.2.1) A.2.2 (oin S h0 h1) (H _ (oidx h0 h1).2) hg hs hd t k
theorem oalen (X : Stand p l e R s m args below meth c T locs cells slots) (hx : p.tables.exec = Jvm.exec) (hZ : Z.Warmed39 s.vm) (eT : T.heap = h) (F : OAr Z h a ty n f) {g : JFrame} (hg : g.method = m) {rest : List Value} (hs : g.stack = .ref a :: rest) (hd : decode c.code g.pc = .ok (.arraylength, 1)) :
    ∀ target, Steps p.tables e below (T.setTop { g with pc := g.pc + 1, stack := .int n.toInt32 :: rest }) target → Steps p.tables e below (T.setTop g) target := by
  obtain ⟨cl, A, S, H, G⟩ := F
  subst S
  exact fun t k => X.arraylength hx (by rw [eT]; exact A.1) (State.isArrayOf_alike hZ.alike A.2.1) hg hs hd t k
theorem oclone (X : Stand p l e R s m args below meth c T locs cells slots) (hx : p.tables.exec = Jvm.exec) (hZ : Z.Warmed39 s.vm) {own ad : String} {index : Nat} (hown : s.vm.findClass own = some m.cls)
    (w1 : (Jvm.Cond.methodLink own index ⟨ad, "clone", "()Ljava/lang/Object;"⟩).before a0 Z = true) (w2 : (Jvm.Cond.sameMethod ad "java/lang/Object" "clone" "()Ljava/lang/Object;").before a0 Z = true) (w3 : (Jvm.Cond.native ⟨"java/lang/Object", "clone", "()Ljava/lang/Object;"⟩).before a0 Z = true)
    (w4 : (Jvm.Cond.instanceMethod ⟨"java/lang/Object", "clone", "()Ljava/lang/Object;"⟩).before a0 Z = true) (w5 : (Jvm.Cond.selects ad ⟨ad, "clone", "()Ljava/lang/Object;"⟩ ⟨"java/lang/Object", "clone", "()Ljava/lang/Object;"⟩).before a0 Z = true) (w6 : (Jvm.Cond.castable ad "java/lang/Cloneable").before a0 Z = true)
    (eT : T.heap = h) (F : OAr Z h a ty n f) (E : Exa Z h a ad) {g : JFrame} (hg : g.method = m) (hsize : g.locals.size = c.maxLocals) {rest : List Value} (hs : g.stack = .ref a :: rest) (hd : decode c.code g.pc = .ok (.invokevirtual index, 3))
    (hf : 1 ≤ R.frames) (W : Nat) (hW : 2 * g.monitorRoom + (rest.map fun v => v.category).sum ≤ W) (hl : W + 14 ≤ R.locals) (hc : cells + 1 ≤ R.cells) (hsl : slots + n ≤ R.slots) :
    ∃ T' h', Stand p l e R s m args below meth c T' locs (cells + 1) (slots + n) ∧ T'.heap = h' ∧ Ext h h' ∧ OAr Z h' h.size ty n f ∧ Exa Z h' h.size ad ∧
      ∀ target, Steps p.tables e below (T'.setTop { g with pc := g.pc + 3, stack := .ref h.size :: rest }) target → Steps p.tables e below (T.setTop g) target := by
  obtain ⟨cl, A, S, H, G⟩ := F
  have FC : FitC Z cl := fitC_of A fun i hi v hv => by rw [H i (S ▸ hi)] at hv; cases hv; exact G i (S ▸ hi)
  obtain ⟨T', h', X', e', ex, A', E', st⟩ := cloneA X hx hZ hown w1 w2 w3 w4 w5 w6 eT A E FC hg hsize hs hd hf hW hl (Nat.le_of_eq S) hc hsl
  exact ⟨T', h', X', e', ex, ⟨cloneOf cl, A', S, H, G⟩, E', st⟩
end OwnGo
end Jvm.OwnKit
namespace Jvm.Pilot.@@N@@
open Jvm Jvm.ClassFile Sem Op Lib Jvm.Free Jvm.Stand Jvm.LawKit Jvm.RoadKit Bundle Jvm.OwnKit Jvm.Pilot.@@N@@.Jvm.D
theorem d2_0 : decode jdk_30_method_1_code 0 = .ok (.aload_n 0, 1) := by decide +kernel
theorem d2_1 : decode jdk_30_method_1_code 1 = .ok (.invokespecial 1, 3) := by decide +kernel
theorem d2_4 : decode jdk_30_method_1_code 4 = .ok (.return_, 1) := by decide +kernel
theorem pn_2 : plainName "java/lang/Record" = true := by first | (simp [plainName, overriddenIn]; done) | decide +kernel
theorem ef_2 (m : MethodId) (x0 : Addr) : entryFrame m #[(.ref x0)] 1 = mkF m 0 #[.val (.ref x0)] [] := by first | (simp [entryFrame, mkF, argsToLocals, Value.category]; done) | rfl
set_option maxRecDepth 65536 in
set_option maxHeartbeats 40000000 in
theorem rm2 (l : Launch) (Z : State) (a0 : Array Value) (hw : ∀ d ∈ tables_1, d.before a0 Z = true) (ob : Addr)  (h0 : Heap) (n0 : Nat) (Z0 : n0 ≤ h0.size)  :
    OMet l Z (⟨"java/lang/Record", "<init>", "()V"⟩ : MethodName) jdk_30_method_1_code 1 none ({ frames := 1, cells := 0, slots := 0, locals := 12 } : Room) #[(.ref ob)] h0 (fun v h L => v = none ∧ Fr n0 L ∧ Keep h0 h []) := by
  intro ws
  refine MetFree.of_bodySF (plainFor_of_name pn_2) hisR ?_
  intro p e s m args below meth c s₁ Bd hml0 hP hK
  obtain ⟨rfl, hZ, hh⟩ := hP
  have hx := Bd.exec
  have hby := Bd.bytes
  have hml : c.maxLocals = 1 := hml0
  have hown : s.vm.findClass "java/lang/Record" = some m.cls := findClass_of_methodNamed Bd.named
  have hnm := (name_of_methodNamed Bd.named Bd.method).1
  have hlk : meth.locks = false := Bd.notSynchronized
  have X0 : Stand p l e ({ frames := 1, cells := 0, slots := 0, locals := 12 } : Room) s m #[(.ref ob)] below meth c s₁ [] 0 0 := Stand.of_body Bd
  have e0 : s₁.heap = h0 := by rw [← hh, Bd.state]; rfl
  have N0 := Fr.nil n0
  have K0 := Keep.refl h0 []
  refine (?_ : OGo p.tables e below (OFin s (fun v h L => v = none ∧ Fr n0 L ∧ Keep h0 h []) 0 0) _)
  refine ogo (fun _ k => castTop (ef_2 m ob) k) ?_
  show OGo _ _ _ _ (s₁.setTop (mkF m 0 #[.val (.ref ob)] []))
  refine ogo (fun _ k => XS.aloadN X0.here hx rfl (hb hby d2_0) rfl rfl k) ?_
  show OGo _ _ _ _ (s₁.setTop (mkF m 1 #[.val (.ref ob)] [(.ref ob)]))
  obtain ⟨T_2_1, X_2_1, e_2_1, st_2_1⟩ := initO X0 hx hZ hown (hw _ (List.mem_of_getElem? (i := 11) rfl)) (hw _ (List.mem_of_getElem? (i := 12) rfl)) (hw _ (List.mem_of_getElem? (i := 13) rfl)) e0 (g := (mkF m 1 #[.val (.ref ob)] [(.ref ob)])) rfl (by rw [hml]; rfl) rfl (hb hby d2_1) (by decide) (W := 0) (by show 2 * 0 + _ ≤ _; exact Nat.le_of_eq rfl) (by decide)
  refine ogo (fun _ k => st_2_1 _ k) ?_
  show OGo _ _ _ _ (T_2_1.setTop (mkF m 4 #[.val (.ref ob)] []))
  exact oretV X_2_1 hx hlk Bd.returns (hb hby d2_4) (by decide) (by decide) (by rw [e_2_1]; exact ⟨rfl, N0, K0⟩)
theorem d1_0 : decode prog_103_method_1_code 0 = .ok (.aload_n 0, 1) := by decide +kernel
theorem d1_1 : decode prog_103_method_1_code 1 = .ok (.invokespecial 1, 3) := by decide +kernel
theorem d1_4 : decode prog_103_method_1_code 4 = .ok (.aload_n 0, 1) := by decide +kernel
theorem d1_5 : decode prog_103_method_1_code 5 = .ok (.iload_n 1, 1) := by decide +kernel
theorem d1_6 : decode prog_103_method_1_code 6 = .ok (.putfield 7, 3) := by decide +kernel
theorem d1_9 : decode prog_103_method_1_code 9 = .ok (.aload_n 0, 1) := by decide +kernel
theorem d1_10 : decode prog_103_method_1_code 10 = .ok (.iload_n 2, 1) := by decide +kernel
theorem d1_11 : decode prog_103_method_1_code 11 = .ok (.putfield 13, 3) := by decide +kernel
theorem d1_14 : decode prog_103_method_1_code 14 = .ok (.aload_n 0, 1) := by decide +kernel
theorem d1_15 : decode prog_103_method_1_code 15 = .ok (.iload_n 3, 1) := by decide +kernel
theorem d1_16 : decode prog_103_method_1_code 16 = .ok (.putfield 16, 3) := by decide +kernel
theorem d1_19 : decode prog_103_method_1_code 19 = .ok (.aload_n 0, 1) := by decide +kernel
theorem d1_20 : decode prog_103_method_1_code 20 = .ok (.iload 4, 2) := by decide +kernel
theorem d1_22 : decode prog_103_method_1_code 22 = .ok (.putfield 19, 3) := by decide +kernel
theorem d1_25 : decode prog_103_method_1_code 25 = .ok (.return_, 1) := by decide +kernel
theorem pn_1 : plainName "com/example/lean_wiring/leanwiring/Offer$Cost" = true := by first | (simp [plainName, overriddenIn]; done) | decide +kernel
theorem ef_1 (m : MethodId) (x0 : Addr) (x1 : Int32) (x2 : Int32) (x3 : Int32) (x4 : Int32) : entryFrame m #[(.ref x0), (.int x1), (.int x2), (.int x3), (.int x4)] 5 = mkF m 0 #[.val (.ref x0), .val (.int x1), .val (.int x2), .val (.int x3), .val (.int x4)] [] := by first | (simp [entryFrame, mkF, argsToLocals, Value.category]; done) | rfl
theorem pd___V : parseMethodDescriptor "()V" = some ⟨[], none⟩ := by decide +kernel
set_option maxRecDepth 65536 in
set_option maxHeartbeats 40000000 in
theorem rm1 (l : Launch) (Z : State) (a0 : Array Value) (hw : ∀ d ∈ tables_1, d.before a0 Z = true) (ob : Addr) (q1 : Int32) (q2 : Int32) (q3 : Int32) (q4 : Int32)  (h0 : Heap) (n0 : Nat) (Z0 : n0 ≤ h0.size) (P0 : Exa Z h0 ob "com/example/lean_wiring/leanwiring/Offer$Cost") (P1 : Fld Z h0 ob "com/example/lean_wiring/leanwiring/Offer$Cost" "checks" "I" (.int (0 : Int32))) (P2 : Fld Z h0 ob "com/example/lean_wiring/leanwiring/Offer$Cost" "copies" "I" (.int (0 : Int32))) (P3 : Fld Z h0 ob "com/example/lean_wiring/leanwiring/Offer$Cost" "conversions" "I" (.int (0 : Int32))) (P4 : Fld Z h0 ob "com/example/lean_wiring/leanwiring/Offer$Cost" "supertypes" "I" (.int (0 : Int32))) (g_ob : n0 ≤ ob) :
    OMet l Z (⟨"com/example/lean_wiring/leanwiring/Offer$Cost", "<init>", "(IIII)V"⟩ : MethodName) prog_103_method_1_code 5 none ({ frames := 2, cells := 0, slots := 0, locals := 24 } : Room) #[(.ref ob), (.int q1), (.int q2), (.int q3), (.int q4)] h0 (fun v h L => v = none ∧ Fr n0 L ∧ Keep h0 h [ob] ∧ Fld Z h ob "com/example/lean_wiring/leanwiring/Offer$Cost" "checks" "I" (.int q1) ∧ Fld Z h ob "com/example/lean_wiring/leanwiring/Offer$Cost" "copies" "I" (.int q2) ∧ Fld Z h ob "com/example/lean_wiring/leanwiring/Offer$Cost" "conversions" "I" (.int q3) ∧ Fld Z h ob "com/example/lean_wiring/leanwiring/Offer$Cost" "supertypes" "I" (.int q4)) := by
  intro ws
  refine MetFree.of_bodySF (plainFor_of_name pn_1) hisR ?_
  intro p e s m args below meth c s₁ Bd hml0 hP hK
  obtain ⟨rfl, hZ, hh⟩ := hP
  have hx := Bd.exec
  have hby := Bd.bytes
  have hml : c.maxLocals = 5 := hml0
  have hown : s.vm.findClass "com/example/lean_wiring/leanwiring/Offer$Cost" = some m.cls := findClass_of_methodNamed Bd.named
  have hnm := (name_of_methodNamed Bd.named Bd.method).1
  have hlk : meth.locks = false := Bd.notSynchronized
  have X0 : Stand p l e ({ frames := 2, cells := 0, slots := 0, locals := 24 } : Room) s m #[(.ref ob), (.int q1), (.int q2), (.int q3), (.int q4)] below meth c s₁ [] 0 0 := Stand.of_body Bd
  have e0 : s₁.heap = h0 := by rw [← hh, Bd.state]; rfl
  have N0 := Fr.nil n0
  have K0 := Keep.refl h0 [ob]
  refine (?_ : OGo p.tables e below (OFin s (fun v h L => v = none ∧ Fr n0 L ∧ Keep h0 h [ob] ∧ Fld Z h ob "com/example/lean_wiring/leanwiring/Offer$Cost" "checks" "I" (.int q1) ∧ Fld Z h ob "com/example/lean_wiring/leanwiring/Offer$Cost" "copies" "I" (.int q2) ∧ Fld Z h ob "com/example/lean_wiring/leanwiring/Offer$Cost" "conversions" "I" (.int q3) ∧ Fld Z h ob "com/example/lean_wiring/leanwiring/Offer$Cost" "supertypes" "I" (.int q4)) 0 0) _)
  refine ogo (fun _ k => castTop (ef_1 m ob q1 q2 q3 q4) k) ?_
  show OGo _ _ _ _ (s₁.setTop (mkF m 0 #[.val (.ref ob), .val (.int q1), .val (.int q2), .val (.int q3), .val (.int q4)] []))
  refine ogo (fun _ k => XS.aloadN X0.here hx rfl (hb hby d1_0) rfl rfl k) ?_
  show OGo _ _ _ _ (s₁.setTop (mkF m 1 #[.val (.ref ob), .val (.int q1), .val (.int q2), .val (.int q3), .val (.int q4)] [(.ref ob)]))
  obtain ⟨v_1_1, T_1_1, h_1_1, L_1_1, e_1_1, hQ_1_1, X_1_1, st_1_1⟩ := ospecQ X0 hx hZ e0 (rm2 l Z a0 hw ob  h0 n0 Z0 ) rfl hown (hw _ (List.mem_of_getElem? (i := 6) rfl)) (hw _ (List.mem_of_getElem? (i := 7) rfl)) (hw _ (List.mem_of_getElem? (i := 9) rfl)) (hw _ (List.mem_of_getElem? (i := 10) rfl)) (by decide) (b := ob) (g := (mkF m 1 #[.val (.ref ob), .val (.int q1), .val (.int q2), .val (.int q3), .val (.int q4)] [(.ref ob)])) rfl (by rw [hml]; rfl) [] [] rfl (lenOf pd___V rfl) rfl (hb hby d1_1) 0 (by show 2 * 0 + _ ≤ _; exact Nat.le_of_eq rfl) (by decide) (by decide) (by decide) (by decide)
  obtain ⟨rfl, Nq_1_1, Kc_1_1⟩ := hQ_1_1
  have f_1_2 := P0.keep Kc_1_1
  have f_1_3 := P1.keep Kc_1_1 nin0
  have f_1_4 := P2.keep Kc_1_1 nin0
  have f_1_5 := P3.keep Kc_1_1 nin0
  have f_1_6 := P4.keep Kc_1_1 nin0
  have Z_1_1 : n0 ≤ h_1_1.size := Nat.le_trans Z0 Kc_1_1.1
  have K_1_1 := K0.trans Kc_1_1 all0
  obtain ⟨lc_1_1, N_1_1, X_1_1⟩ : ∃ L, Fr n0 L ∧ Stand p l e ({ frames := 2, cells := 0, slots := 0, locals := 24 } : Room) s m #[(.ref ob), (.int q1), (.int q2), (.int q3), (.int q4)] below meth c T_1_1 L 0 0 := ⟨_, Fr.app N0 Nq_1_1, X_1_1⟩
  refine ogo (fun _ k => st_1_1 _ k) ?_
  show OGo _ _ _ _ (T_1_1.setTop (mkF m 4 #[.val (.ref ob), .val (.int q1), .val (.int q2), .val (.int q3), .val (.int q4)] []))
  refine ogo (fun _ k => XS.aloadN X_1_1.here hx rfl (hb hby d1_4) rfl rfl k) ?_
  show OGo _ _ _ _ (T_1_1.setTop (mkF m 5 #[.val (.ref ob), .val (.int q1), .val (.int q2), .val (.int q3), .val (.int q4)] [(.ref ob)]))
  refine ogo (fun _ k => XS.iloadN X_1_1.here hx rfl (hb hby d1_5) rfl k) ?_
  show OGo _ _ _ _ (T_1_1.setTop (mkF m 6 #[.val (.ref ob), .val (.int q1), .val (.int q2), .val (.int q3), .val (.int q4)] [(.int q1), (.ref ob)]))
  obtain ⟨T_1_7, h_1_7, X_1_7, e_1_7, W_1_7, st_1_7⟩ := putF X_1_1 hx hZ hown (host := "") (Or.inl (hw _ (List.mem_of_getElem? (i := 14) rfl))) Via.refl e_1_1 f_1_3 f_1_2 (Or.inr ⟨(hw _ (List.mem_of_getElem? (i := 15) rfl)), rfl, hnm⟩) (hw _ (List.mem_of_getElem? (i := 1) rfl)) (ty := .int) (by decide) rfl rfl (g := (mkF m 6 #[.val (.ref ob), .val (.int q1), .val (.int q2), .val (.int q3), .val (.int q4)] [(.int q1), (.ref ob)])) rfl rfl (hb hby d1_6)
  have K_1_7 := K_1_1.wr W_1_7 (Or.inl (List.mem_of_getElem? (i := 0) rfl))
  have f_1_8 := f_1_2.wr W_1_7
  have f_1_9 := f_1_3.same W_1_7
  have f_1_10 := f_1_4.other W_1_7 (Or.inr (slot_ne (Or.inr (hw _ (List.mem_of_getElem? (i := 17) rfl))) (Or.inr (hw _ (List.mem_of_getElem? (i := 15) rfl))) (by decide) (t := .int) (t' := .int) (by decide) (by decide)))
  have f_1_11 := f_1_5.other W_1_7 (Or.inr (slot_ne (Or.inr (hw _ (List.mem_of_getElem? (i := 19) rfl))) (Or.inr (hw _ (List.mem_of_getElem? (i := 15) rfl))) (by decide) (t := .int) (t' := .int) (by decide) (by decide)))
  have f_1_12 := f_1_6.other W_1_7 (Or.inr (slot_ne (Or.inr (hw _ (List.mem_of_getElem? (i := 21) rfl))) (Or.inr (hw _ (List.mem_of_getElem? (i := 15) rfl))) (by decide) (t := .int) (t' := .int) (by decide) (by decide)))
  have Z_1_7 : n0 ≤ h_1_7.size := Nat.le_trans Z_1_1 (Keep.of_wr W_1_7).1
  obtain ⟨lc_1_7, N_1_7, X_1_7⟩ : ∃ L, Fr n0 L ∧ Stand p l e ({ frames := 2, cells := 0, slots := 0, locals := 24 } : Room) s m #[(.ref ob), (.int q1), (.int q2), (.int q3), (.int q4)] below meth c T_1_7 L 0 0 := ⟨_, Fr.snoc X_1_7 N_1_1 g_ob, X_1_7⟩
  refine ogo (fun _ k => st_1_7 _ k) ?_
  show OGo _ _ _ _ (T_1_7.setTop (mkF m 9 #[.val (.ref ob), .val (.int q1), .val (.int q2), .val (.int q3), .val (.int q4)] []))
  refine ogo (fun _ k => XS.aloadN X_1_7.here hx rfl (hb hby d1_9) rfl rfl k) ?_
  show OGo _ _ _ _ (T_1_7.setTop (mkF m 10 #[.val (.ref ob), .val (.int q1), .val (.int q2), .val (.int q3), .val (.int q4)] [(.ref ob)]))
  refine ogo (fun _ k => XS.iloadN X_1_7.here hx rfl (hb hby d1_10) rfl k) ?_
  show OGo _ _ _ _ (T_1_7.setTop (mkF m 11 #[.val (.ref ob), .val (.int q1), .val (.int q2), .val (.int q3), .val (.int q4)] [(.int q2), (.ref ob)]))
  obtain ⟨T_1_13, h_1_13, X_1_13, e_1_13, W_1_13, st_1_13⟩ := putF X_1_7 hx hZ hown (host := "") (Or.inl (hw _ (List.mem_of_getElem? (i := 16) rfl))) Via.refl e_1_7 f_1_10 f_1_8 (Or.inr ⟨(hw _ (List.mem_of_getElem? (i := 17) rfl)), rfl, hnm⟩) (hw _ (List.mem_of_getElem? (i := 1) rfl)) (ty := .int) (by decide) rfl rfl (g := (mkF m 11 #[.val (.ref ob), .val (.int q1), .val (.int q2), .val (.int q3), .val (.int q4)] [(.int q2), (.ref ob)])) rfl rfl (hb hby d1_11)
  have K_1_13 := K_1_7.wr W_1_13 (Or.inl (List.mem_of_getElem? (i := 0) rfl))
  have f_1_14 := f_1_8.wr W_1_13
  have f_1_15 := f_1_9.other W_1_13 (Or.inr (slot_ne (Or.inr (hw _ (List.mem_of_getElem? (i := 15) rfl))) (Or.inr (hw _ (List.mem_of_getElem? (i := 17) rfl))) (by decide) (t := .int) (t' := .int) (by decide) (by decide)))
  have f_1_16 := f_1_10.same W_1_13
  have f_1_17 := f_1_11.other W_1_13 (Or.inr (slot_ne (Or.inr (hw _ (List.mem_of_getElem? (i := 19) rfl))) (Or.inr (hw _ (List.mem_of_getElem? (i := 17) rfl))) (by decide) (t := .int) (t' := .int) (by decide) (by decide)))
  have f_1_18 := f_1_12.other W_1_13 (Or.inr (slot_ne (Or.inr (hw _ (List.mem_of_getElem? (i := 21) rfl))) (Or.inr (hw _ (List.mem_of_getElem? (i := 17) rfl))) (by decide) (t := .int) (t' := .int) (by decide) (by decide)))
  have Z_1_13 : n0 ≤ h_1_13.size := Nat.le_trans Z_1_7 (Keep.of_wr W_1_13).1
  obtain ⟨lc_1_13, N_1_13, X_1_13⟩ : ∃ L, Fr n0 L ∧ Stand p l e ({ frames := 2, cells := 0, slots := 0, locals := 24 } : Room) s m #[(.ref ob), (.int q1), (.int q2), (.int q3), (.int q4)] below meth c T_1_13 L 0 0 := ⟨_, Fr.snoc X_1_13 N_1_7 g_ob, X_1_13⟩
  refine ogo (fun _ k => st_1_13 _ k) ?_
  show OGo _ _ _ _ (T_1_13.setTop (mkF m 14 #[.val (.ref ob), .val (.int q1), .val (.int q2), .val (.int q3), .val (.int q4)] []))
  refine ogo (fun _ k => XS.aloadN X_1_13.here hx rfl (hb hby d1_14) rfl rfl k) ?_
  show OGo _ _ _ _ (T_1_13.setTop (mkF m 15 #[.val (.ref ob), .val (.int q1), .val (.int q2), .val (.int q3), .val (.int q4)] [(.ref ob)]))
  refine ogo (fun _ k => XS.iloadN X_1_13.here hx rfl (hb hby d1_15) rfl k) ?_
  show OGo _ _ _ _ (T_1_13.setTop (mkF m 16 #[.val (.ref ob), .val (.int q1), .val (.int q2), .val (.int q3), .val (.int q4)] [(.int q3), (.ref ob)]))
  obtain ⟨T_1_19, h_1_19, X_1_19, e_1_19, W_1_19, st_1_19⟩ := putF X_1_13 hx hZ hown (host := "") (Or.inl (hw _ (List.mem_of_getElem? (i := 18) rfl))) Via.refl e_1_13 f_1_17 f_1_14 (Or.inr ⟨(hw _ (List.mem_of_getElem? (i := 19) rfl)), rfl, hnm⟩) (hw _ (List.mem_of_getElem? (i := 1) rfl)) (ty := .int) (by decide) rfl rfl (g := (mkF m 16 #[.val (.ref ob), .val (.int q1), .val (.int q2), .val (.int q3), .val (.int q4)] [(.int q3), (.ref ob)])) rfl rfl (hb hby d1_16)
  have K_1_19 := K_1_13.wr W_1_19 (Or.inl (List.mem_of_getElem? (i := 0) rfl))
  have f_1_20 := f_1_14.wr W_1_19
  have f_1_21 := f_1_15.other W_1_19 (Or.inr (slot_ne (Or.inr (hw _ (List.mem_of_getElem? (i := 15) rfl))) (Or.inr (hw _ (List.mem_of_getElem? (i := 19) rfl))) (by decide) (t := .int) (t' := .int) (by decide) (by decide)))
  have f_1_22 := f_1_16.other W_1_19 (Or.inr (slot_ne (Or.inr (hw _ (List.mem_of_getElem? (i := 17) rfl))) (Or.inr (hw _ (List.mem_of_getElem? (i := 19) rfl))) (by decide) (t := .int) (t' := .int) (by decide) (by decide)))
  have f_1_23 := f_1_17.same W_1_19
  have f_1_24 := f_1_18.other W_1_19 (Or.inr (slot_ne (Or.inr (hw _ (List.mem_of_getElem? (i := 21) rfl))) (Or.inr (hw _ (List.mem_of_getElem? (i := 19) rfl))) (by decide) (t := .int) (t' := .int) (by decide) (by decide)))
  have Z_1_19 : n0 ≤ h_1_19.size := Nat.le_trans Z_1_13 (Keep.of_wr W_1_19).1
  obtain ⟨lc_1_19, N_1_19, X_1_19⟩ : ∃ L, Fr n0 L ∧ Stand p l e ({ frames := 2, cells := 0, slots := 0, locals := 24 } : Room) s m #[(.ref ob), (.int q1), (.int q2), (.int q3), (.int q4)] below meth c T_1_19 L 0 0 := ⟨_, Fr.snoc X_1_19 N_1_13 g_ob, X_1_19⟩
  refine ogo (fun _ k => st_1_19 _ k) ?_
  show OGo _ _ _ _ (T_1_19.setTop (mkF m 19 #[.val (.ref ob), .val (.int q1), .val (.int q2), .val (.int q3), .val (.int q4)] []))
  refine ogo (fun _ k => XS.aloadN X_1_19.here hx rfl (hb hby d1_19) rfl rfl k) ?_
  show OGo _ _ _ _ (T_1_19.setTop (mkF m 20 #[.val (.ref ob), .val (.int q1), .val (.int q2), .val (.int q3), .val (.int q4)] [(.ref ob)]))
  refine ogo (fun _ k => XS.iload X_1_19.here hx rfl (hb hby d1_20) rfl k) ?_
  show OGo _ _ _ _ (T_1_19.setTop (mkF m 22 #[.val (.ref ob), .val (.int q1), .val (.int q2), .val (.int q3), .val (.int q4)] [(.int q4), (.ref ob)]))
  obtain ⟨T_1_25, h_1_25, X_1_25, e_1_25, W_1_25, st_1_25⟩ := putF X_1_19 hx hZ hown (host := "") (Or.inl (hw _ (List.mem_of_getElem? (i := 20) rfl))) Via.refl e_1_19 f_1_24 f_1_20 (Or.inr ⟨(hw _ (List.mem_of_getElem? (i := 21) rfl)), rfl, hnm⟩) (hw _ (List.mem_of_getElem? (i := 1) rfl)) (ty := .int) (by decide) rfl rfl (g := (mkF m 22 #[.val (.ref ob), .val (.int q1), .val (.int q2), .val (.int q3), .val (.int q4)] [(.int q4), (.ref ob)])) rfl rfl (hb hby d1_22)
  have K_1_25 := K_1_19.wr W_1_25 (Or.inl (List.mem_of_getElem? (i := 0) rfl))
  have f_1_26 := f_1_20.wr W_1_25
  have f_1_27 := f_1_21.other W_1_25 (Or.inr (slot_ne (Or.inr (hw _ (List.mem_of_getElem? (i := 15) rfl))) (Or.inr (hw _ (List.mem_of_getElem? (i := 21) rfl))) (by decide) (t := .int) (t' := .int) (by decide) (by decide)))
  have f_1_28 := f_1_22.other W_1_25 (Or.inr (slot_ne (Or.inr (hw _ (List.mem_of_getElem? (i := 17) rfl))) (Or.inr (hw _ (List.mem_of_getElem? (i := 21) rfl))) (by decide) (t := .int) (t' := .int) (by decide) (by decide)))
  have f_1_29 := f_1_23.other W_1_25 (Or.inr (slot_ne (Or.inr (hw _ (List.mem_of_getElem? (i := 19) rfl))) (Or.inr (hw _ (List.mem_of_getElem? (i := 21) rfl))) (by decide) (t := .int) (t' := .int) (by decide) (by decide)))
  have f_1_30 := f_1_24.same W_1_25
  have Z_1_25 : n0 ≤ h_1_25.size := Nat.le_trans Z_1_19 (Keep.of_wr W_1_25).1
  obtain ⟨lc_1_25, N_1_25, X_1_25⟩ : ∃ L, Fr n0 L ∧ Stand p l e ({ frames := 2, cells := 0, slots := 0, locals := 24 } : Room) s m #[(.ref ob), (.int q1), (.int q2), (.int q3), (.int q4)] below meth c T_1_25 L 0 0 := ⟨_, Fr.snoc X_1_25 N_1_19 g_ob, X_1_25⟩
  refine ogo (fun _ k => st_1_25 _ k) ?_
  show OGo _ _ _ _ (T_1_25.setTop (mkF m 25 #[.val (.ref ob), .val (.int q1), .val (.int q2), .val (.int q3), .val (.int q4)] []))
  exact oretV X_1_25 hx hlk Bd.returns (hb hby d1_25) (by decide) (by decide) (by rw [e_1_25]; exact ⟨rfl, N_1_25, K_1_25, f_1_27, f_1_28, f_1_29, f_1_30⟩)
theorem d5_0 : decode prog_103_method_11_code 0 = .ok (.aload_n 0, 1) := by decide +kernel
theorem d5_1 : decode prog_103_method_11_code 1 = .ok (.getfield 7, 3) := by decide +kernel
theorem d5_4 : decode prog_103_method_11_code 4 = .ok (.ireturn, 1) := by decide +kernel
theorem pn_5 : plainName "com/example/lean_wiring/leanwiring/Offer$Cost" = true := by first | (simp [plainName, overriddenIn]; done) | decide +kernel
theorem ef_5 (m : MethodId) (x0 : Addr) : entryFrame m #[(.ref x0)] 1 = mkF m 0 #[.val (.ref x0)] [] := by first | (simp [entryFrame, mkF, argsToLocals, Value.category]; done) | rfl
def checksF  (u : Int32) : Int32 := u
set_option maxRecDepth 65536 in
set_option maxHeartbeats 40000000 in
theorem rm5 (l : Launch) (Z : State) (a0 : Array Value) (hw : ∀ d ∈ tables_1, d.before a0 Z = true) (ob : Addr) (u : Int32) (h0 : Heap) (P0 : Fld Z h0 ob "com/example/lean_wiring/leanwiring/Offer$Cost" "checks" "I" (.int u)) :
    OMet l Z (⟨"com/example/lean_wiring/leanwiring/Offer$Cost", "checks", "()I"⟩ : MethodName) prog_103_method_11_code 1 (some .int) ({ frames := 0, cells := 0, slots := 0, locals := 0 } : Room) #[(.ref ob)] h0 (OPure (some (.int (checksF u))) h0) := by
  intro ws
  refine MetFree.of_bodySF (plainFor_of_name pn_5) hisR ?_
  intro p e s m args below meth c s₁ Bd hml0 hP hK
  obtain ⟨rfl, hZ, hh⟩ := hP
  have hx := Bd.exec
  have hby := Bd.bytes
  have hml : c.maxLocals = 1 := hml0
  have hown : s.vm.findClass "com/example/lean_wiring/leanwiring/Offer$Cost" = some m.cls := findClass_of_methodNamed Bd.named
  have hnm := (name_of_methodNamed Bd.named Bd.method).1
  have hlk : meth.locks = false := Bd.notSynchronized
  have X0 : Stand p l e ({ frames := 0, cells := 0, slots := 0, locals := 0 } : Room) s m #[(.ref ob)] below meth c s₁ [] 0 0 := Stand.of_body Bd
  have e0 : s₁.heap = h0 := by rw [← hh, Bd.state]; rfl
  refine (?_ : OGo p.tables e below (OFin s (OPure (some (.int (checksF u))) h0) 0 0) _)
  refine ogo (fun _ k => castTop (ef_5 m ob) k) ?_
  show OGo _ _ _ _ (s₁.setTop (mkF m 0 #[.val (.ref ob)] []))
  refine ogo (fun _ k => XS.aloadN X0.here hx rfl (hb hby d5_0) rfl rfl k) ?_
  show OGo _ _ _ _ (s₁.setTop (mkF m 1 #[.val (.ref ob)] [(.ref ob)]))
  obtain ⟨T_5_1, X_5_1, e_5_1, st_5_1⟩ := getF X0 hx hZ hown (host := "") (Or.inl (hw _ (List.mem_of_getElem? (i := 14) rfl))) Via.refl e0 P0 (g := (mkF m 1 #[.val (.ref ob)] [(.ref ob)])) rfl rfl (hb hby d5_1)
  refine ogo (fun _ k => st_5_1 _ k) ?_
  show OGo _ _ _ _ (T_5_1.setTop (mkF m 4 #[.val (.ref ob)] [(.int u)]))
  exact oret X_5_1 hx hlk Bd.returns rfl (Or.inl ⟨rfl, Or.inl rfl, _, rfl⟩) (hb hby d5_4) (by decide) (by decide) ⟨by subst_vars; rfl, rfl, e_5_1⟩
theorem d6_0 : decode prog_103_method_12_code 0 = .ok (.aload_n 0, 1) := by decide +kernel
theorem d6_1 : decode prog_103_method_12_code 1 = .ok (.getfield 13, 3) := by decide +kernel
theorem d6_4 : decode prog_103_method_12_code 4 = .ok (.ireturn, 1) := by decide +kernel
theorem pn_6 : plainName "com/example/lean_wiring/leanwiring/Offer$Cost" = true := by first | (simp [plainName, overriddenIn]; done) | decide +kernel
theorem ef_6 (m : MethodId) (x0 : Addr) : entryFrame m #[(.ref x0)] 1 = mkF m 0 #[.val (.ref x0)] [] := by first | (simp [entryFrame, mkF, argsToLocals, Value.category]; done) | rfl
def copiesF  (u : Int32) : Int32 := u
set_option maxRecDepth 65536 in
set_option maxHeartbeats 40000000 in
theorem rm6 (l : Launch) (Z : State) (a0 : Array Value) (hw : ∀ d ∈ tables_1, d.before a0 Z = true) (ob : Addr) (u : Int32) (h0 : Heap) (P0 : Fld Z h0 ob "com/example/lean_wiring/leanwiring/Offer$Cost" "copies" "I" (.int u)) :
    OMet l Z (⟨"com/example/lean_wiring/leanwiring/Offer$Cost", "copies", "()I"⟩ : MethodName) prog_103_method_12_code 1 (some .int) ({ frames := 0, cells := 0, slots := 0, locals := 0 } : Room) #[(.ref ob)] h0 (OPure (some (.int (copiesF u))) h0) := by
  intro ws
  refine MetFree.of_bodySF (plainFor_of_name pn_6) hisR ?_
  intro p e s m args below meth c s₁ Bd hml0 hP hK
  obtain ⟨rfl, hZ, hh⟩ := hP
  have hx := Bd.exec
  have hby := Bd.bytes
  have hml : c.maxLocals = 1 := hml0
  have hown : s.vm.findClass "com/example/lean_wiring/leanwiring/Offer$Cost" = some m.cls := findClass_of_methodNamed Bd.named
  have hnm := (name_of_methodNamed Bd.named Bd.method).1
  have hlk : meth.locks = false := Bd.notSynchronized
  have X0 : Stand p l e ({ frames := 0, cells := 0, slots := 0, locals := 0 } : Room) s m #[(.ref ob)] below meth c s₁ [] 0 0 := Stand.of_body Bd
  have e0 : s₁.heap = h0 := by rw [← hh, Bd.state]; rfl
  refine (?_ : OGo p.tables e below (OFin s (OPure (some (.int (copiesF u))) h0) 0 0) _)
  refine ogo (fun _ k => castTop (ef_6 m ob) k) ?_
  show OGo _ _ _ _ (s₁.setTop (mkF m 0 #[.val (.ref ob)] []))
  refine ogo (fun _ k => XS.aloadN X0.here hx rfl (hb hby d6_0) rfl rfl k) ?_
  show OGo _ _ _ _ (s₁.setTop (mkF m 1 #[.val (.ref ob)] [(.ref ob)]))
  obtain ⟨T_6_1, X_6_1, e_6_1, st_6_1⟩ := getF X0 hx hZ hown (host := "") (Or.inl (hw _ (List.mem_of_getElem? (i := 16) rfl))) Via.refl e0 P0 (g := (mkF m 1 #[.val (.ref ob)] [(.ref ob)])) rfl rfl (hb hby d6_1)
  refine ogo (fun _ k => st_6_1 _ k) ?_
  show OGo _ _ _ _ (T_6_1.setTop (mkF m 4 #[.val (.ref ob)] [(.int u)]))
  exact oret X_6_1 hx hlk Bd.returns rfl (Or.inl ⟨rfl, Or.inl rfl, _, rfl⟩) (hb hby d6_4) (by decide) (by decide) ⟨by subst_vars; rfl, rfl, e_6_1⟩
theorem d7_0 : decode prog_103_method_13_code 0 = .ok (.aload_n 0, 1) := by decide +kernel
theorem d7_1 : decode prog_103_method_13_code 1 = .ok (.getfield 16, 3) := by decide +kernel
theorem d7_4 : decode prog_103_method_13_code 4 = .ok (.ireturn, 1) := by decide +kernel
theorem pn_7 : plainName "com/example/lean_wiring/leanwiring/Offer$Cost" = true := by first | (simp [plainName, overriddenIn]; done) | decide +kernel
theorem ef_7 (m : MethodId) (x0 : Addr) : entryFrame m #[(.ref x0)] 1 = mkF m 0 #[.val (.ref x0)] [] := by first | (simp [entryFrame, mkF, argsToLocals, Value.category]; done) | rfl
def conversionsF  (u : Int32) : Int32 := u
set_option maxRecDepth 65536 in
set_option maxHeartbeats 40000000 in
theorem rm7 (l : Launch) (Z : State) (a0 : Array Value) (hw : ∀ d ∈ tables_1, d.before a0 Z = true) (ob : Addr) (u : Int32) (h0 : Heap) (P0 : Fld Z h0 ob "com/example/lean_wiring/leanwiring/Offer$Cost" "conversions" "I" (.int u)) :
    OMet l Z (⟨"com/example/lean_wiring/leanwiring/Offer$Cost", "conversions", "()I"⟩ : MethodName) prog_103_method_13_code 1 (some .int) ({ frames := 0, cells := 0, slots := 0, locals := 0 } : Room) #[(.ref ob)] h0 (OPure (some (.int (conversionsF u))) h0) := by
  intro ws
  refine MetFree.of_bodySF (plainFor_of_name pn_7) hisR ?_
  intro p e s m args below meth c s₁ Bd hml0 hP hK
  obtain ⟨rfl, hZ, hh⟩ := hP
  have hx := Bd.exec
  have hby := Bd.bytes
  have hml : c.maxLocals = 1 := hml0
  have hown : s.vm.findClass "com/example/lean_wiring/leanwiring/Offer$Cost" = some m.cls := findClass_of_methodNamed Bd.named
  have hnm := (name_of_methodNamed Bd.named Bd.method).1
  have hlk : meth.locks = false := Bd.notSynchronized
  have X0 : Stand p l e ({ frames := 0, cells := 0, slots := 0, locals := 0 } : Room) s m #[(.ref ob)] below meth c s₁ [] 0 0 := Stand.of_body Bd
  have e0 : s₁.heap = h0 := by rw [← hh, Bd.state]; rfl
  refine (?_ : OGo p.tables e below (OFin s (OPure (some (.int (conversionsF u))) h0) 0 0) _)
  refine ogo (fun _ k => castTop (ef_7 m ob) k) ?_
  show OGo _ _ _ _ (s₁.setTop (mkF m 0 #[.val (.ref ob)] []))
  refine ogo (fun _ k => XS.aloadN X0.here hx rfl (hb hby d7_0) rfl rfl k) ?_
  show OGo _ _ _ _ (s₁.setTop (mkF m 1 #[.val (.ref ob)] [(.ref ob)]))
  obtain ⟨T_7_1, X_7_1, e_7_1, st_7_1⟩ := getF X0 hx hZ hown (host := "") (Or.inl (hw _ (List.mem_of_getElem? (i := 18) rfl))) Via.refl e0 P0 (g := (mkF m 1 #[.val (.ref ob)] [(.ref ob)])) rfl rfl (hb hby d7_1)
  refine ogo (fun _ k => st_7_1 _ k) ?_
  show OGo _ _ _ _ (T_7_1.setTop (mkF m 4 #[.val (.ref ob)] [(.int u)]))
  exact oret X_7_1 hx hlk Bd.returns rfl (Or.inl ⟨rfl, Or.inl rfl, _, rfl⟩) (hb hby d7_4) (by decide) (by decide) ⟨by subst_vars; rfl, rfl, e_7_1⟩
theorem d8_0 : decode prog_103_method_14_code 0 = .ok (.aload_n 0, 1) := by decide +kernel
theorem d8_1 : decode prog_103_method_14_code 1 = .ok (.getfield 19, 3) := by decide +kernel
theorem d8_4 : decode prog_103_method_14_code 4 = .ok (.ireturn, 1) := by decide +kernel
theorem pn_8 : plainName "com/example/lean_wiring/leanwiring/Offer$Cost" = true := by first | (simp [plainName, overriddenIn]; done) | decide +kernel
theorem ef_8 (m : MethodId) (x0 : Addr) : entryFrame m #[(.ref x0)] 1 = mkF m 0 #[.val (.ref x0)] [] := by first | (simp [entryFrame, mkF, argsToLocals, Value.category]; done) | rfl
def supertypesF  (u : Int32) : Int32 := u
set_option maxRecDepth 65536 in
set_option maxHeartbeats 40000000 in
theorem rm8 (l : Launch) (Z : State) (a0 : Array Value) (hw : ∀ d ∈ tables_1, d.before a0 Z = true) (ob : Addr) (u : Int32) (h0 : Heap) (P0 : Fld Z h0 ob "com/example/lean_wiring/leanwiring/Offer$Cost" "supertypes" "I" (.int u)) :
    OMet l Z (⟨"com/example/lean_wiring/leanwiring/Offer$Cost", "supertypes", "()I"⟩ : MethodName) prog_103_method_14_code 1 (some .int) ({ frames := 0, cells := 0, slots := 0, locals := 0 } : Room) #[(.ref ob)] h0 (OPure (some (.int (supertypesF u))) h0) := by
  intro ws
  refine MetFree.of_bodySF (plainFor_of_name pn_8) hisR ?_
  intro p e s m args below meth c s₁ Bd hml0 hP hK
  obtain ⟨rfl, hZ, hh⟩ := hP
  have hx := Bd.exec
  have hby := Bd.bytes
  have hml : c.maxLocals = 1 := hml0
  have hown : s.vm.findClass "com/example/lean_wiring/leanwiring/Offer$Cost" = some m.cls := findClass_of_methodNamed Bd.named
  have hnm := (name_of_methodNamed Bd.named Bd.method).1
  have hlk : meth.locks = false := Bd.notSynchronized
  have X0 : Stand p l e ({ frames := 0, cells := 0, slots := 0, locals := 0 } : Room) s m #[(.ref ob)] below meth c s₁ [] 0 0 := Stand.of_body Bd
  have e0 : s₁.heap = h0 := by rw [← hh, Bd.state]; rfl
  refine (?_ : OGo p.tables e below (OFin s (OPure (some (.int (supertypesF u))) h0) 0 0) _)
  refine ogo (fun _ k => castTop (ef_8 m ob) k) ?_
  show OGo _ _ _ _ (s₁.setTop (mkF m 0 #[.val (.ref ob)] []))
  refine ogo (fun _ k => XS.aloadN X0.here hx rfl (hb hby d8_0) rfl rfl k) ?_
  show OGo _ _ _ _ (s₁.setTop (mkF m 1 #[.val (.ref ob)] [(.ref ob)]))
  obtain ⟨T_8_1, X_8_1, e_8_1, st_8_1⟩ := getF X0 hx hZ hown (host := "") (Or.inl (hw _ (List.mem_of_getElem? (i := 20) rfl))) Via.refl e0 P0 (g := (mkF m 1 #[.val (.ref ob)] [(.ref ob)])) rfl rfl (hb hby d8_1)
  refine ogo (fun _ k => st_8_1 _ k) ?_
  show OGo _ _ _ _ (T_8_1.setTop (mkF m 4 #[.val (.ref ob)] [(.int u)]))
  exact oret X_8_1 hx hlk Bd.returns rfl (Or.inl ⟨rfl, Or.inl rfl, _, rfl⟩) (hb hby d8_4) (by decide) (by decide) ⟨by subst_vars; rfl, rfl, e_8_1⟩
theorem d4_0 : decode prog_103_method_3_code 0 = .ok (.aload_n 0, 1) := by decide +kernel
theorem d4_1 : decode prog_103_method_3_code 1 = .ok (.getfield 7, 3) := by decide +kernel
theorem d4_4 : decode prog_103_method_3_code 4 = .ok (.ifCond .ne 7, 3) := by decide +kernel
theorem d4_7 : decode prog_103_method_3_code 7 = .ok (.aload_n 0, 1) := by decide +kernel
theorem d4_8 : decode prog_103_method_3_code 8 = .ok (.goto 23, 3) := by decide +kernel
theorem d4_11 : decode prog_103_method_3_code 11 = .ok (.new 8, 3) := by decide +kernel
theorem d4_14 : decode prog_103_method_3_code 14 = .ok (.dup, 1) := by decide +kernel
theorem d4_15 : decode prog_103_method_3_code 15 = .ok (.iconst 0, 1) := by decide +kernel
theorem d4_16 : decode prog_103_method_3_code 16 = .ok (.aload_n 0, 1) := by decide +kernel
theorem d4_17 : decode prog_103_method_3_code 17 = .ok (.getfield 13, 3) := by decide +kernel
theorem d4_20 : decode prog_103_method_3_code 20 = .ok (.aload_n 0, 1) := by decide +kernel
theorem d4_21 : decode prog_103_method_3_code 21 = .ok (.getfield 16, 3) := by decide +kernel
theorem d4_24 : decode prog_103_method_3_code 24 = .ok (.aload_n 0, 1) := by decide +kernel
theorem d4_25 : decode prog_103_method_3_code 25 = .ok (.getfield 19, 3) := by decide +kernel
theorem d4_28 : decode prog_103_method_3_code 28 = .ok (.invokespecial 26, 3) := by decide +kernel
theorem d4_31 : decode prog_103_method_3_code 31 = .ok (.areturn, 1) := by decide +kernel
theorem pn_4 : plainName "com/example/lean_wiring/leanwiring/Offer$Cost" = true := by first | (simp [plainName, overriddenIn]; done) | decide +kernel
theorem ef_4 (m : MethodId) (x0 : Addr) : entryFrame m #[(.ref x0)] 1 = mkF m 0 #[.val (.ref x0)] [] := by first | (simp [entryFrame, mkF, argsToLocals, Value.category]; done) | rfl
theorem pd__IIII_V : parseMethodDescriptor "(IIII)V" = some ⟨[.int, .int, .int, .int], none⟩ := by decide +kernel
set_option maxRecDepth 65536 in
set_option maxHeartbeats 40000000 in
theorem rm4 (l : Launch) (Z : State) (a0 : Array Value) (hw : ∀ d ∈ tables_1, d.before a0 Z = true) (ob : Addr) (u0 : Int32) (u1 : Int32) (u2 : Int32) (u3 : Int32) (h0 : Heap) (n0 : Nat) (Z0 : n0 ≤ h0.size) (P0 : Exa Z h0 ob "com/example/lean_wiring/leanwiring/Offer$Cost") (P1 : Fld Z h0 ob "com/example/lean_wiring/leanwiring/Offer$Cost" "checks" "I" (.int u0)) (P2 : Fld Z h0 ob "com/example/lean_wiring/leanwiring/Offer$Cost" "copies" "I" (.int u1)) (P3 : Fld Z h0 ob "com/example/lean_wiring/leanwiring/Offer$Cost" "conversions" "I" (.int u2)) (P4 : Fld Z h0 ob "com/example/lean_wiring/leanwiring/Offer$Cost" "supertypes" "I" (.int u3)) :
    OMet l Z (⟨"com/example/lean_wiring/leanwiring/Offer$Cost", "withoutChecks", "()Lcom/example/lean_wiring/leanwiring/Offer$Cost;"⟩ : MethodName) prog_103_method_3_code 1 (some (.object "com/example/lean_wiring/leanwiring/Offer$Cost")) ({ frames := 3, cells := 1, slots := 4, locals := 41 } : Room) #[(.ref ob)] h0 (fun v h L => ∃ r, v = some (.ref r) ∧ Fr n0 L ∧ Keep h0 h [] ∧ Exa Z h r "com/example/lean_wiring/leanwiring/Offer$Cost" ∧ Fld Z h r "com/example/lean_wiring/leanwiring/Offer$Cost" "checks" "I" (.int (0 : Int32)) ∧ Fld Z h r "com/example/lean_wiring/leanwiring/Offer$Cost" "copies" "I" (.int u1) ∧ Fld Z h r "com/example/lean_wiring/leanwiring/Offer$Cost" "conversions" "I" (.int u2) ∧ Fld Z h r "com/example/lean_wiring/leanwiring/Offer$Cost" "supertypes" "I" (.int u3)) := by
  intro ws
  refine MetFree.of_bodySF (plainFor_of_name pn_4) hisR ?_
  intro p e s m args below meth c s₁ Bd hml0 hP hK
  obtain ⟨rfl, hZ, hh⟩ := hP
  have hx := Bd.exec
  have hby := Bd.bytes
  have hml : c.maxLocals = 1 := hml0
  have hown : s.vm.findClass "com/example/lean_wiring/leanwiring/Offer$Cost" = some m.cls := findClass_of_methodNamed Bd.named
  have hnm := (name_of_methodNamed Bd.named Bd.method).1
  have hlk : meth.locks = false := Bd.notSynchronized
  have X0 : Stand p l e ({ frames := 3, cells := 1, slots := 4, locals := 41 } : Room) s m #[(.ref ob)] below meth c s₁ [] 0 0 := Stand.of_body Bd
  have e0 : s₁.heap = h0 := by rw [← hh, Bd.state]; rfl
  have N0 := Fr.nil n0
  have K0 := Keep.refl h0 []
  refine (?_ : OGo p.tables e below (OFin s (fun v h L => ∃ r, v = some (.ref r) ∧ Fr n0 L ∧ Keep h0 h [] ∧ Exa Z h r "com/example/lean_wiring/leanwiring/Offer$Cost" ∧ Fld Z h r "com/example/lean_wiring/leanwiring/Offer$Cost" "checks" "I" (.int (0 : Int32)) ∧ Fld Z h r "com/example/lean_wiring/leanwiring/Offer$Cost" "copies" "I" (.int u1) ∧ Fld Z h r "com/example/lean_wiring/leanwiring/Offer$Cost" "conversions" "I" (.int u2) ∧ Fld Z h r "com/example/lean_wiring/leanwiring/Offer$Cost" "supertypes" "I" (.int u3)) 1 4) _)
  refine ogo (fun _ k => castTop (ef_4 m ob) k) ?_
  show OGo _ _ _ _ (s₁.setTop (mkF m 0 #[.val (.ref ob)] []))
  refine ogo (fun _ k => XS.aloadN X0.here hx rfl (hb hby d4_0) rfl rfl k) ?_
  show OGo _ _ _ _ (s₁.setTop (mkF m 1 #[.val (.ref ob)] [(.ref ob)]))
  obtain ⟨T_4_1, X_4_1, e_4_1, st_4_1⟩ := getF X0 hx hZ hown (host := "") (Or.inl (hw _ (List.mem_of_getElem? (i := 14) rfl))) Via.refl e0 P1 (g := (mkF m 1 #[.val (.ref ob)] [(.ref ob)])) rfl rfl (hb hby d4_1)
  refine ogo (fun _ k => st_4_1 _ k) ?_
  show OGo _ _ _ _ (T_4_1.setTop (mkF m 4 #[.val (.ref ob)] [(.int u0)]))
  by_cases hc_4_2 : u0 = (0 : Int32)
  · refine ogo (fun _ k => XS.ifNo X_4_1.here hx rfl (hb hby d4_4) rfl ((if0 _ _).trans (teq hc_4_2).2) k) ?_
    show OGo _ _ _ _ (T_4_1.setTop (mkF m 7 #[.val (.ref ob)] []))
    refine ogo (fun _ k => XS.aloadN X_4_1.here hx rfl (hb hby d4_7) rfl rfl k) ?_
    show OGo _ _ _ _ (T_4_1.setTop (mkF m 8 #[.val (.ref ob)] [(.ref ob)]))
    refine ogo (fun _ k => XS.goto X_4_1.here hx rfl (pc0 := 8) (pc' := 31) rfl (hb hby d4_8) (by decide) (by decide) k) ?_
    show OGo _ _ _ _ (T_4_1.setTop (mkF m 31 #[.val (.ref ob)] [(.ref ob)]))
    exact oret X_4_1 hx hlk Bd.returns rfl (Or.inr (Or.inr (Or.inr (Or.inr ⟨rfl, rfl, rfl⟩)))) (hb hby d4_31) (by decide) (by decide) (by rw [e_4_1]; exact ⟨ob, rfl, N0, K0, P0, (hc_4_2 ▸ P1), P2, P3, P4⟩)
  · refine ogo (fun _ k => XS.ifYes X_4_1.here hx rfl (pc0 := 4) (pc' := 11) rfl (hb hby d4_4) rfl ((if0 _ _).trans (feq hc_4_2).2) (by decide) (by decide) k) ?_
    show OGo _ _ _ _ (T_4_1.setTop (mkF m 11 #[.val (.ref ob)] []))
    obtain ⟨T_4_3, h_4_3, X_4_3, e_4_3, E_4_3, A_4_3, D_4_3, -, st_4_3⟩ := newO X_4_1 hx hZ hown (hw _ (List.mem_of_getElem? (i := 47) rfl)) (hw _ (List.mem_of_getElem? (i := 1) rfl)) (hw _ (List.mem_of_getElem? (i := 2) rfl)) e_4_1 (g := (mkF m 11 #[.val (.ref ob)] [])) rfl (hb hby d4_11) (by decide) (by decide)
    obtain ⟨b_4_3, g_4_3⟩ : ∃ z, z = h0.size := ⟨_, rfl⟩
    rw [← g_4_3] at A_4_3 D_4_3 st_4_3
    have g_b_4_3 : n0 ≤ b_4_3 := Nat.le_trans Z0 (Nat.le_of_eq g_4_3.symm)
    have ne_ob_b_4_3 : ob ≠ b_4_3 := Nat.ne_of_lt (Nat.lt_of_lt_of_le P4.lt (Nat.le_of_eq g_4_3.symm))
    have sz_b_4_3 : h0.size ≤ b_4_3 := Nat.le_trans K0.1 (Nat.le_of_eq g_4_3.symm)
    have K_4_3 := K0.ext E_4_3
    have f_4_4 := P0.ext E_4_3
    have f_4_5 := P1.ext E_4_3
    have f_4_6 := P2.ext E_4_3
    have f_4_7 := P3.ext E_4_3
    have f_4_8 := P4.ext E_4_3
    have Z_4_3 : n0 ≤ h_4_3.size := Nat.le_trans Z0 E_4_3.1
    have f_4_9 : Fld Z h_4_3 b_4_3 "com/example/lean_wiring/leanwiring/Offer$Cost" "checks" "I" (.int (0 : Int32)) := D_4_3 (Or.inr (hw _ (List.mem_of_getElem? (i := 15) rfl))) (ty := .int) (by decide)
    have f_4_10 : Fld Z h_4_3 b_4_3 "com/example/lean_wiring/leanwiring/Offer$Cost" "copies" "I" (.int (0 : Int32)) := D_4_3 (Or.inr (hw _ (List.mem_of_getElem? (i := 17) rfl))) (ty := .int) (by decide)
    have f_4_11 : Fld Z h_4_3 b_4_3 "com/example/lean_wiring/leanwiring/Offer$Cost" "conversions" "I" (.int (0 : Int32)) := D_4_3 (Or.inr (hw _ (List.mem_of_getElem? (i := 19) rfl))) (ty := .int) (by decide)
    have f_4_12 : Fld Z h_4_3 b_4_3 "com/example/lean_wiring/leanwiring/Offer$Cost" "supertypes" "I" (.int (0 : Int32)) := D_4_3 (Or.inr (hw _ (List.mem_of_getElem? (i := 21) rfl))) (ty := .int) (by decide)
    obtain ⟨lc_4_3, N_4_3, X_4_3⟩ : ∃ L, Fr n0 L ∧ Stand p l e ({ frames := 3, cells := 1, slots := 4, locals := 41 } : Room) s m #[(.ref ob)] below meth c T_4_3 L 1 4 := ⟨_, N0, X_4_3⟩
    refine ogo (fun _ k => st_4_3 _ k) ?_
    show OGo _ _ _ _ (T_4_3.setTop (mkF m 14 #[.val (.ref ob)] [(.ref b_4_3)]))
    refine ogo (fun _ k => XS.dup X_4_3.here hx rfl (hb hby d4_14) rfl rfl k) ?_
    show OGo _ _ _ _ (T_4_3.setTop (mkF m 15 #[.val (.ref ob)] [(.ref b_4_3), (.ref b_4_3)]))
    refine ogo (fun _ k => XS.iconst X_4_3.here hx rfl (hb hby d4_15) k) ?_
    show OGo _ _ _ _ (T_4_3.setTop (mkF m 16 #[.val (.ref ob)] [(.int (0 : Int32)), (.ref b_4_3), (.ref b_4_3)]))
    refine ogo (fun _ k => XS.aloadN X_4_3.here hx rfl (hb hby d4_16) rfl rfl k) ?_
    show OGo _ _ _ _ (T_4_3.setTop (mkF m 17 #[.val (.ref ob)] [(.ref ob), (.int (0 : Int32)), (.ref b_4_3), (.ref b_4_3)]))
    obtain ⟨T_4_13, X_4_13, e_4_13, st_4_13⟩ := getF X_4_3 hx hZ hown (host := "") (Or.inl (hw _ (List.mem_of_getElem? (i := 16) rfl))) Via.refl e_4_3 f_4_6 (g := (mkF m 17 #[.val (.ref ob)] [(.ref ob), (.int (0 : Int32)), (.ref b_4_3), (.ref b_4_3)])) rfl rfl (hb hby d4_17)
    refine ogo (fun _ k => st_4_13 _ k) ?_
    show OGo _ _ _ _ (T_4_13.setTop (mkF m 20 #[.val (.ref ob)] [(.int u1), (.int (0 : Int32)), (.ref b_4_3), (.ref b_4_3)]))
    refine ogo (fun _ k => XS.aloadN X_4_13.here hx rfl (hb hby d4_20) rfl rfl k) ?_
    show OGo _ _ _ _ (T_4_13.setTop (mkF m 21 #[.val (.ref ob)] [(.ref ob), (.int u1), (.int (0 : Int32)), (.ref b_4_3), (.ref b_4_3)]))
    obtain ⟨T_4_14, X_4_14, e_4_14, st_4_14⟩ := getF X_4_13 hx hZ hown (host := "") (Or.inl (hw _ (List.mem_of_getElem? (i := 18) rfl))) Via.refl e_4_13 f_4_7 (g := (mkF m 21 #[.val (.ref ob)] [(.ref ob), (.int u1), (.int (0 : Int32)), (.ref b_4_3), (.ref b_4_3)])) rfl rfl (hb hby d4_21)
    refine ogo (fun _ k => st_4_14 _ k) ?_
    show OGo _ _ _ _ (T_4_14.setTop (mkF m 24 #[.val (.ref ob)] [(.int u2), (.int u1), (.int (0 : Int32)), (.ref b_4_3), (.ref b_4_3)]))
    refine ogo (fun _ k => XS.aloadN X_4_14.here hx rfl (hb hby d4_24) rfl rfl k) ?_
    show OGo _ _ _ _ (T_4_14.setTop (mkF m 25 #[.val (.ref ob)] [(.ref ob), (.int u2), (.int u1), (.int (0 : Int32)), (.ref b_4_3), (.ref b_4_3)]))
    obtain ⟨T_4_15, X_4_15, e_4_15, st_4_15⟩ := getF X_4_14 hx hZ hown (host := "") (Or.inl (hw _ (List.mem_of_getElem? (i := 20) rfl))) Via.refl e_4_14 f_4_8 (g := (mkF m 25 #[.val (.ref ob)] [(.ref ob), (.int u2), (.int u1), (.int (0 : Int32)), (.ref b_4_3), (.ref b_4_3)])) rfl rfl (hb hby d4_25)
    refine ogo (fun _ k => st_4_15 _ k) ?_
    show OGo _ _ _ _ (T_4_15.setTop (mkF m 28 #[.val (.ref ob)] [(.int u3), (.int u2), (.int u1), (.int (0 : Int32)), (.ref b_4_3), (.ref b_4_3)]))
    obtain ⟨v_4_16, T_4_16, h_4_16, L_4_16, e_4_16, hQ_4_16, X_4_16, st_4_16⟩ := ospecQ X_4_15 hx hZ e_4_15 (rm1 l Z a0 hw b_4_3 (0 : Int32) u1 u2 u3  h_4_3 n0 Z_4_3 A_4_3 f_4_9 f_4_10 f_4_11 f_4_12 g_b_4_3) rfl hown (hw _ (List.mem_of_getElem? (i := 48) rfl)) (hw _ (List.mem_of_getElem? (i := 4) rfl)) (hw _ (List.mem_of_getElem? (i := 2) rfl)) (hw _ (List.mem_of_getElem? (i := 5) rfl)) (by decide) (b := b_4_3) (g := (mkF m 28 #[.val (.ref ob)] [(.int u3), (.int u2), (.int u1), (.int (0 : Int32)), (.ref b_4_3), (.ref b_4_3)])) rfl (by rw [hml]; rfl) [(.int (0 : Int32)), (.int u1), (.int u2), (.int u3)] [(.ref b_4_3)] rfl (lenOf pd__IIII_V rfl) rfl (hb hby d4_28) 1 (by show 2 * 0 + _ ≤ _; exact Nat.le_of_eq rfl) (by decide) (by decide) (by decide) (by decide)
    obtain ⟨rfl, Nq_4_16, Kc_4_16, f_4_17, f_4_18, f_4_19, f_4_20⟩ := hQ_4_16
    have f_4_21 := f_4_4.keep Kc_4_16
    have f_4_22 := f_4_5.keep Kc_4_16 (ninS ne_ob_b_4_3 nin0)
    have f_4_23 := f_4_6.keep Kc_4_16 (ninS ne_ob_b_4_3 nin0)
    have f_4_24 := f_4_7.keep Kc_4_16 (ninS ne_ob_b_4_3 nin0)
    have f_4_25 := f_4_8.keep Kc_4_16 (ninS ne_ob_b_4_3 nin0)
    have f_4_26 := A_4_3.keep Kc_4_16
    have Z_4_16 : n0 ≤ h_4_16.size := Nat.le_trans Z_4_3 Kc_4_16.1
    have K_4_16 := K_4_3.trans Kc_4_16 (allS (Or.inr sz_b_4_3) all0)
    obtain ⟨lc_4_16, N_4_16, X_4_16⟩ : ∃ L, Fr n0 L ∧ Stand p l e ({ frames := 3, cells := 1, slots := 4, locals := 41 } : Room) s m #[(.ref ob)] below meth c T_4_16 L 1 4 := ⟨_, Fr.app N_4_3 Nq_4_16, X_4_16⟩
    refine ogo (fun _ k => st_4_16 _ k) ?_
    show OGo _ _ _ _ (T_4_16.setTop (mkF m 31 #[.val (.ref ob)] [(.ref b_4_3)]))
    exact oret X_4_16 hx hlk Bd.returns rfl (Or.inr (Or.inr (Or.inr (Or.inr ⟨rfl, rfl, rfl⟩)))) (hb hby d4_31) (by decide) (by decide) (by rw [e_4_16]; exact ⟨b_4_3, rfl, N_4_16, K_4_16, f_4_26, f_4_17, f_4_18, f_4_19, f_4_20⟩)
theorem pn_0 : plainName "com/example/lean_wiring/leanwiring/CostWithoutChecksPinLaw" = true := by first | (simp [plainName, overriddenIn]; done) | decide +kernel
theorem ef_0 (m : MethodId) (x0 : Int32) (x1 : Int32) (x2 : Int32) (x3 : Int32) (x4 : Int32) : entryFrame m #[(.int x0), (.int x1), (.int x2), (.int x3), (.int x4)] maxLocals = mkF m 0 #[.val (.int x0), .val (.int x1), .val (.int x2), .val (.int x3), .val (.int x4), .unset, .unset, .unset, .unset, .unset] [] := by first | (simp [entryFrame, mkF, argsToLocals, Value.category, maxLocals]; done) | rfl
theorem pd___Lcom_example_lean_wiring_leanwiring_Offer_Cost_ : parseMethodDescriptor "()Lcom/example/lean_wiring/leanwiring/Offer$Cost;" = some ⟨[], some (.object "com/example/lean_wiring/leanwiring/Offer$Cost")⟩ := by decide +kernel
theorem pd___I : parseMethodDescriptor "()I" = some ⟨[], some .int⟩ := by decide +kernel
theorem plain0 (va : Int32) (vb : Int32) (vc : Int32) (vd : Int32) (ve : Int32) (w_0_2 : Int32) (hw_0_2 : w_0_2 = (if (ve &&& (1 : Int32)) = (0 : Int32) then va else (0 : Int32))) (w_0_44 : Int32) (hw_0_44 : w_0_44 = (if (checksF (0 : Int32)) = (0 : Int32) then (if (copiesF vb) = vb then (if (conversionsF vc) = vc then (if (supertypesF vd) = vd then (1 : Int32) else (0 : Int32)) else (0 : Int32)) else (0 : Int32)) else (0 : Int32))) (w_0_64 : Int32) (hw_0_64 : w_0_64 = (if (checksF w_0_2) = w_0_2 then (if (copiesF vb) = vb then (if (conversionsF vc) = vc then (if (supertypesF vd) = vd then (1 : Int32) else (0 : Int32)) else (0 : Int32)) else (0 : Int32)) else (0 : Int32))) (w_0_72 : Int32) (hw_0_72 : w_0_72 = (if w_0_44 = (0 : Int32) then (0 : Int32) else (if w_0_64 = (0 : Int32) then (0 : Int32) else (1 : Int32)))) : w_0_72 = (1 : Int32) := by
  subst hw_0_72
  simp [hw_0_44, hw_0_64, checksF, copiesF, conversionsF, supertypesF]
set_option maxRecDepth 65536 in
set_option maxHeartbeats 40000000 in
theorem rm0 (l : Launch) (Z : State) (a0 : Array Value) (hw : ∀ d ∈ tables_1, d.before a0 Z = true) (ws : List Jvm.Cond) (va : Int32) (vb : Int32) (vc : Int32) (vd : Int32) (ve : Int32) (h0 : Heap) (n0 : Nat) (Z0 : n0 ≤ h0.size)  :
    MetFree l x (head1 (Jvm.Cond.code x code maxLocals ret :: ws) room_1) (fun a U => a = #[(.int va), (.int vb), (.int vc), (.int vd), (.int ve)] ∧ Z.Warmed39 U.vm ∧ U.heap = h0) (fun _ _ _ _ _ => True) (fun _ U o U' => ∃ v L, o = .returned v ∧ (v = some (.int 1) ∧ Fr n0 L) ∧ FrameEnd U o U' L 16 128) := by
  refine MetFree.of_bodySF (plainFor_of_name pn_0) hisR ?_
  intro p e s m args below meth c s₁ Bd hml0 hP hK
  obtain ⟨rfl, hZ, hh⟩ := hP
  have hx := Bd.exec
  have hby := Bd.bytes
  have hml : c.maxLocals = 10 := hml0
  have hown : s.vm.findClass "com/example/lean_wiring/leanwiring/CostWithoutChecksPinLaw" = some m.cls := findClass_of_methodNamed Bd.named
  have hnm := (name_of_methodNamed Bd.named Bd.method).1
  have hlk : meth.locks = false := Bd.notSynchronized
  have X0 : Stand p l e room_1 s m #[(.int va), (.int vb), (.int vc), (.int vd), (.int ve)] below meth c s₁ [] 0 0 := Stand.of_body Bd
  have e0 : s₁.heap = h0 := by rw [← hh, Bd.state]; rfl
  have N0 := Fr.nil n0
  refine (?_ : OGo p.tables e below (OFin s (fun v _ L => v = some (.int 1) ∧ Fr n0 L) 16 128) _)
  refine ogo (fun _ k => castTop (ef_0 m va vb vc vd ve) k) ?_
  show OGo _ _ _ _ (s₁.setTop (mkF m 0 #[.val (.int va), .val (.int vb), .val (.int vc), .val (.int vd), .val (.int ve), .unset, .unset, .unset, .unset, .unset] []))
  refine ogo (fun _ k => XS.iload X0.here hx rfl (hb hby at_0) rfl k) ?_
  show OGo _ _ _ _ (s₁.setTop (mkF m 2 #[.val (.int va), .val (.int vb), .val (.int vc), .val (.int vd), .val (.int ve), .unset, .unset, .unset, .unset, .unset] [(.int ve)]))
  refine ogo (fun _ k => XS.iconst X0.here hx rfl (hb hby at_2) k) ?_
  show OGo _ _ _ _ (s₁.setTop (mkF m 3 #[.val (.int va), .val (.int vb), .val (.int vc), .val (.int vd), .val (.int ve), .unset, .unset, .unset, .unset, .unset] [(.int (1 : Int32)), (.int ve)]))
  refine ogo (fun _ k => XS.iand X0.here hx rfl (hb hby at_3) rfl k) ?_
  show OGo _ _ _ _ (s₁.setTop (mkF m 4 #[.val (.int va), .val (.int vb), .val (.int vc), .val (.int vd), .val (.int ve), .unset, .unset, .unset, .unset, .unset] [(.int (ve &&& (1 : Int32)))]))
  suffices J_0_3 : ∀ (w_0_2 : Int32) (hw_0_2 : w_0_2 = (if (ve &&& (1 : Int32)) = (0 : Int32) then va else (0 : Int32))), OGo p.tables e below (OFin s (fun v _ L => v = some (.int 1) ∧ Fr n0 L) 16 128) (s₁.setTop (mkF m 12 #[.val (.int va), .val (.int vb), .val (.int vc), .val (.int vd), .val (.int ve), .unset, .unset, .unset, .unset, .unset] [(.int w_0_2)])) by
    by_cases hc_0_1 : (ve &&& (1 : Int32)) = (0 : Int32)
    · refine ogo (fun _ k => XS.ifYes X0.here hx rfl (pc0 := 4) (pc' := 11) rfl (hb hby at_4) rfl ((if0 _ _).trans (teq hc_0_1).1) (by decide) (by decide) k) ?_
      show OGo _ _ _ _ (s₁.setTop (mkF m 11 #[.val (.int va), .val (.int vb), .val (.int vc), .val (.int vd), .val (.int ve), .unset, .unset, .unset, .unset, .unset] []))
      refine ogo (fun _ k => XS.iloadN X0.here hx rfl (hb hby at_11) rfl k) ?_
      show OGo _ _ _ _ (s₁.setTop (mkF m 12 #[.val (.int va), .val (.int vb), .val (.int vc), .val (.int vd), .val (.int ve), .unset, .unset, .unset, .unset, .unset] [(.int va)]))
      exact J_0_3 _ (if_pos hc_0_1).symm
    · refine ogo (fun _ k => XS.ifNo X0.here hx rfl (hb hby at_4) rfl ((if0 _ _).trans (feq hc_0_1).1) k) ?_
      show OGo _ _ _ _ (s₁.setTop (mkF m 7 #[.val (.int va), .val (.int vb), .val (.int vc), .val (.int vd), .val (.int ve), .unset, .unset, .unset, .unset, .unset] []))
      refine ogo (fun _ k => XS.iconst X0.here hx rfl (hb hby at_7) k) ?_
      show OGo _ _ _ _ (s₁.setTop (mkF m 8 #[.val (.int va), .val (.int vb), .val (.int vc), .val (.int vd), .val (.int ve), .unset, .unset, .unset, .unset, .unset] [(.int (0 : Int32))]))
      refine ogo (fun _ k => XS.goto X0.here hx rfl (pc0 := 8) (pc' := 12) rfl (hb hby at_8) (by decide) (by decide) k) ?_
      show OGo _ _ _ _ (s₁.setTop (mkF m 12 #[.val (.int va), .val (.int vb), .val (.int vc), .val (.int vd), .val (.int ve), .unset, .unset, .unset, .unset, .unset] [(.int (0 : Int32))]))
      exact J_0_3 _ (if_neg hc_0_1).symm
  intro w_0_2 hw_0_2
  refine ogo (fun _ k => XS.istore X0.here hx rfl (hb hby at_12) rfl (l' := #[.val (.int va), .val (.int vb), .val (.int vc), .val (.int vd), .val (.int ve), .val (.int w_0_2), .unset, .unset, .unset, .unset]) rfl k) ?_
  show OGo _ _ _ _ (s₁.setTop (mkF m 14 #[.val (.int va), .val (.int vb), .val (.int vc), .val (.int vd), .val (.int ve), .val (.int w_0_2), .unset, .unset, .unset, .unset] []))
  obtain ⟨T_0_5, h_0_5, X_0_5, e_0_5, E_0_5, A_0_5, D_0_5, -, st_0_5⟩ := newO X0 hx hZ hown (hw _ (List.mem_of_getElem? (i := 0) rfl)) (hw _ (List.mem_of_getElem? (i := 1) rfl)) (hw _ (List.mem_of_getElem? (i := 2) rfl)) e0 (g := (mkF m 14 #[.val (.int va), .val (.int vb), .val (.int vc), .val (.int vd), .val (.int ve), .val (.int w_0_2), .unset, .unset, .unset, .unset] [])) rfl (hb hby at_14) (by decide) (by decide)
  obtain ⟨b_0_5, g_0_5⟩ : ∃ z, z = h0.size := ⟨_, rfl⟩
  rw [← g_0_5] at A_0_5 D_0_5 st_0_5
  have g_b_0_5 : n0 ≤ b_0_5 := Nat.le_trans Z0 (Nat.le_of_eq g_0_5.symm)
  have Z_0_5 : n0 ≤ h_0_5.size := Nat.le_trans Z0 E_0_5.1
  have f_0_6 : Fld Z h_0_5 b_0_5 "com/example/lean_wiring/leanwiring/Offer$Cost" "checks" "I" (.int (0 : Int32)) := D_0_5 (Or.inr (hw _ (List.mem_of_getElem? (i := 15) rfl))) (ty := .int) (by decide)
  have f_0_7 : Fld Z h_0_5 b_0_5 "com/example/lean_wiring/leanwiring/Offer$Cost" "copies" "I" (.int (0 : Int32)) := D_0_5 (Or.inr (hw _ (List.mem_of_getElem? (i := 17) rfl))) (ty := .int) (by decide)
  have f_0_8 : Fld Z h_0_5 b_0_5 "com/example/lean_wiring/leanwiring/Offer$Cost" "conversions" "I" (.int (0 : Int32)) := D_0_5 (Or.inr (hw _ (List.mem_of_getElem? (i := 19) rfl))) (ty := .int) (by decide)
  have f_0_9 : Fld Z h_0_5 b_0_5 "com/example/lean_wiring/leanwiring/Offer$Cost" "supertypes" "I" (.int (0 : Int32)) := D_0_5 (Or.inr (hw _ (List.mem_of_getElem? (i := 21) rfl))) (ty := .int) (by decide)
  obtain ⟨lc_0_5, N_0_5, X_0_5⟩ : ∃ L, Fr n0 L ∧ Stand p l e room_1 s m #[(.int va), (.int vb), (.int vc), (.int vd), (.int ve)] below meth c T_0_5 L 1 4 := ⟨_, N0, X_0_5⟩
  refine ogo (fun _ k => st_0_5 _ k) ?_
  show OGo _ _ _ _ (T_0_5.setTop (mkF m 17 #[.val (.int va), .val (.int vb), .val (.int vc), .val (.int vd), .val (.int ve), .val (.int w_0_2), .unset, .unset, .unset, .unset] [(.ref b_0_5)]))
  refine ogo (fun _ k => XS.dup X_0_5.here hx rfl (hb hby at_17) rfl rfl k) ?_
  show OGo _ _ _ _ (T_0_5.setTop (mkF m 18 #[.val (.int va), .val (.int vb), .val (.int vc), .val (.int vd), .val (.int ve), .val (.int w_0_2), .unset, .unset, .unset, .unset] [(.ref b_0_5), (.ref b_0_5)]))
  refine ogo (fun _ k => XS.iload X_0_5.here hx rfl (hb hby at_18) rfl k) ?_
  show OGo _ _ _ _ (T_0_5.setTop (mkF m 20 #[.val (.int va), .val (.int vb), .val (.int vc), .val (.int vd), .val (.int ve), .val (.int w_0_2), .unset, .unset, .unset, .unset] [(.int w_0_2), (.ref b_0_5), (.ref b_0_5)]))
  refine ogo (fun _ k => XS.iloadN X_0_5.here hx rfl (hb hby at_20) rfl k) ?_
  show OGo _ _ _ _ (T_0_5.setTop (mkF m 21 #[.val (.int va), .val (.int vb), .val (.int vc), .val (.int vd), .val (.int ve), .val (.int w_0_2), .unset, .unset, .unset, .unset] [(.int vb), (.int w_0_2), (.ref b_0_5), (.ref b_0_5)]))
  refine ogo (fun _ k => XS.iloadN X_0_5.here hx rfl (hb hby at_21) rfl k) ?_
  show OGo _ _ _ _ (T_0_5.setTop (mkF m 22 #[.val (.int va), .val (.int vb), .val (.int vc), .val (.int vd), .val (.int ve), .val (.int w_0_2), .unset, .unset, .unset, .unset] [(.int vc), (.int vb), (.int w_0_2), (.ref b_0_5), (.ref b_0_5)]))
  refine ogo (fun _ k => XS.iloadN X_0_5.here hx rfl (hb hby at_22) rfl k) ?_
  show OGo _ _ _ _ (T_0_5.setTop (mkF m 23 #[.val (.int va), .val (.int vb), .val (.int vc), .val (.int vd), .val (.int ve), .val (.int w_0_2), .unset, .unset, .unset, .unset] [(.int vd), (.int vc), (.int vb), (.int w_0_2), (.ref b_0_5), (.ref b_0_5)]))
  obtain ⟨v_0_10, T_0_10, h_0_10, L_0_10, e_0_10, hQ_0_10, X_0_10, st_0_10⟩ := ospecQ X_0_5 hx hZ e_0_5 (rm1 l Z a0 hw b_0_5 w_0_2 vb vc vd  h_0_5 n0 Z_0_5 A_0_5 f_0_6 f_0_7 f_0_8 f_0_9 g_b_0_5) rfl hown (hw _ (List.mem_of_getElem? (i := 3) rfl)) (hw _ (List.mem_of_getElem? (i := 4) rfl)) (hw _ (List.mem_of_getElem? (i := 2) rfl)) (hw _ (List.mem_of_getElem? (i := 5) rfl)) (by decide) (b := b_0_5) (g := (mkF m 23 #[.val (.int va), .val (.int vb), .val (.int vc), .val (.int vd), .val (.int ve), .val (.int w_0_2), .unset, .unset, .unset, .unset] [(.int vd), (.int vc), (.int vb), (.int w_0_2), (.ref b_0_5), (.ref b_0_5)])) rfl (by rw [hml]; rfl) [(.int w_0_2), (.int vb), (.int vc), (.int vd)] [(.ref b_0_5)] rfl (lenOf pd__IIII_V rfl) rfl (hb hby at_23) 1 (by show 2 * 0 + _ ≤ _; exact Nat.le_of_eq rfl) (by decide) (by decide) (by decide) (by decide)
  obtain ⟨rfl, Nq_0_10, Kc_0_10, f_0_11, f_0_12, f_0_13, f_0_14⟩ := hQ_0_10
  have f_0_15 := A_0_5.keep Kc_0_10
  have Z_0_10 : n0 ≤ h_0_10.size := Nat.le_trans Z_0_5 Kc_0_10.1
  obtain ⟨lc_0_10, N_0_10, X_0_10⟩ : ∃ L, Fr n0 L ∧ Stand p l e room_1 s m #[(.int va), (.int vb), (.int vc), (.int vd), (.int ve)] below meth c T_0_10 L 1 4 := ⟨_, Fr.app N_0_5 Nq_0_10, X_0_10⟩
  refine ogo (fun _ k => st_0_10 _ k) ?_
  show OGo _ _ _ _ (T_0_10.setTop (mkF m 26 #[.val (.int va), .val (.int vb), .val (.int vc), .val (.int vd), .val (.int ve), .val (.int w_0_2), .unset, .unset, .unset, .unset] [(.ref b_0_5)]))
  refine ogo (fun _ k => XS.astore X_0_10.here hx rfl (hb hby at_26) rfl rfl (l' := #[.val (.int va), .val (.int vb), .val (.int vc), .val (.int vd), .val (.int ve), .val (.int w_0_2), .val (.ref b_0_5), .unset, .unset, .unset]) rfl k) ?_
  show OGo _ _ _ _ (T_0_10.setTop (mkF m 28 #[.val (.int va), .val (.int vb), .val (.int vc), .val (.int vd), .val (.int ve), .val (.int w_0_2), .val (.ref b_0_5), .unset, .unset, .unset] []))
  refine ogo (fun _ k => XS.aload X_0_10.here hx rfl (hb hby at_28) rfl rfl k) ?_
  show OGo _ _ _ _ (T_0_10.setTop (mkF m 30 #[.val (.int va), .val (.int vb), .val (.int vc), .val (.int vd), .val (.int ve), .val (.int w_0_2), .val (.ref b_0_5), .unset, .unset, .unset] [(.ref b_0_5)]))
  obtain ⟨v_0_16, T_0_16, h_0_16, L_0_16, e_0_16, hQ_0_16, X_0_16, st_0_16⟩ := ovirtQ X_0_10 hx hZ e_0_10 (rm4 l Z a0 hw b_0_5 w_0_2 vb vc vd h_0_10 n0 Z_0_10 f_0_15 f_0_11 f_0_12 f_0_13 f_0_14) hown (hw _ (List.mem_of_getElem? (i := 22) rfl)) (hw _ (List.mem_of_getElem? (i := 23) rfl)) (hw _ (List.mem_of_getElem? (i := 25) rfl)) (hw _ (List.mem_of_getElem? (i := 24) rfl)) (hw _ (List.mem_of_getElem? (i := 2) rfl)) (hw _ (List.mem_of_getElem? (i := 26) rfl)) (by decide) f_0_15 (g := (mkF m 30 #[.val (.int va), .val (.int vb), .val (.int vc), .val (.int vd), .val (.int ve), .val (.int w_0_2), .val (.ref b_0_5), .unset, .unset, .unset] [(.ref b_0_5)])) rfl (by rw [hml]; rfl) [] [] rfl (lenOf pd___Lcom_example_lean_wiring_leanwiring_Offer_Cost_ rfl) rfl (hb hby at_30) 0 (by show 2 * 0 + _ ≤ _; exact Nat.le_of_eq rfl) (by decide) (by decide) (by decide) (by decide)
  obtain ⟨r_0_16, rfl, Nq_0_16, Kc_0_16, f_0_17, f_0_18, f_0_19, f_0_20, f_0_21⟩ := hQ_0_16
  have f_0_22 := f_0_15.keep Kc_0_16
  have f_0_23 := f_0_11.keep Kc_0_16 nin0
  have f_0_24 := f_0_12.keep Kc_0_16 nin0
  have f_0_25 := f_0_13.keep Kc_0_16 nin0
  have f_0_26 := f_0_14.keep Kc_0_16 nin0
  have Z_0_16 : n0 ≤ h_0_16.size := Nat.le_trans Z_0_10 Kc_0_16.1
  obtain ⟨lc_0_16, N_0_16, X_0_16⟩ : ∃ L, Fr n0 L ∧ Stand p l e room_1 s m #[(.int va), (.int vb), (.int vc), (.int vd), (.int ve)] below meth c T_0_16 L 2 8 := ⟨_, Fr.app N_0_10 Nq_0_16, X_0_16⟩
  refine ogo (fun _ k => st_0_16 _ k) ?_
  show OGo _ _ _ _ (T_0_16.setTop (mkF m 33 #[.val (.int va), .val (.int vb), .val (.int vc), .val (.int vd), .val (.int ve), .val (.int w_0_2), .val (.ref b_0_5), .unset, .unset, .unset] [(.ref r_0_16)]))
  refine ogo (fun _ k => XS.astore X_0_16.here hx rfl (hb hby at_33) rfl rfl (l' := #[.val (.int va), .val (.int vb), .val (.int vc), .val (.int vd), .val (.int ve), .val (.int w_0_2), .val (.ref b_0_5), .val (.ref r_0_16), .unset, .unset]) rfl k) ?_
  show OGo _ _ _ _ (T_0_16.setTop (mkF m 35 #[.val (.int va), .val (.int vb), .val (.int vc), .val (.int vd), .val (.int ve), .val (.int w_0_2), .val (.ref b_0_5), .val (.ref r_0_16), .unset, .unset] []))
  refine ogo (fun _ k => XS.aload X_0_16.here hx rfl (hb hby at_35) rfl rfl k) ?_
  show OGo _ _ _ _ (T_0_16.setTop (mkF m 37 #[.val (.int va), .val (.int vb), .val (.int vc), .val (.int vd), .val (.int ve), .val (.int w_0_2), .val (.ref b_0_5), .val (.ref r_0_16), .unset, .unset] [(.ref r_0_16)]))
  obtain ⟨T_0_27, X_0_27, e_0_27, st_0_27⟩ := ovirtP X_0_16 hx hZ e_0_16 (rm5 l Z a0 hw r_0_16 ((0 : Int32)) h_0_16 f_0_18) hown (hw _ (List.mem_of_getElem? (i := 27) rfl)) (hw _ (List.mem_of_getElem? (i := 28) rfl)) (hw _ (List.mem_of_getElem? (i := 30) rfl)) (hw _ (List.mem_of_getElem? (i := 29) rfl)) (hw _ (List.mem_of_getElem? (i := 2) rfl)) (hw _ (List.mem_of_getElem? (i := 31) rfl)) (by decide) f_0_17 (g := (mkF m 37 #[.val (.int va), .val (.int vb), .val (.int vc), .val (.int vd), .val (.int ve), .val (.int w_0_2), .val (.ref b_0_5), .val (.ref r_0_16), .unset, .unset] [(.ref r_0_16)])) rfl (by rw [hml]; rfl) [] [] rfl (lenOf pd___I rfl) rfl (hb hby at_37) 0 (by show 2 * 0 + _ ≤ _; exact Nat.le_of_eq rfl) (by decide) (by decide) (by decide) (by decide) rfl rfl
  refine ogo (fun _ k => st_0_27 _ k) ?_
  show OGo _ _ _ _ (T_0_27.setTop (mkF m 40 #[.val (.int va), .val (.int vb), .val (.int vc), .val (.int vd), .val (.int ve), .val (.int w_0_2), .val (.ref b_0_5), .val (.ref r_0_16), .unset, .unset] [(.int (checksF (0 : Int32)))]))
  suffices J_0_45 : ∀ (w_0_44 : Int32) (hw_0_44 : w_0_44 = (if (checksF (0 : Int32)) = (0 : Int32) then (if (copiesF vb) = vb then (if (conversionsF vc) = vc then (if (supertypesF vd) = vd then (1 : Int32) else (0 : Int32)) else (0 : Int32)) else (0 : Int32)) else (0 : Int32))) (T_0_46 : State) (X_0_46 : Stand p l e room_1 s m #[(.int va), (.int vb), (.int vc), (.int vd), (.int ve)] below meth c T_0_46 lc_0_16 2 8) (e_0_46 : T_0_46.heap = h_0_16), OGo p.tables e below (OFin s (fun v _ L => v = some (.int 1) ∧ Fr n0 L) 16 128) (T_0_46.setTop (mkF m 75 #[.val (.int va), .val (.int vb), .val (.int vc), .val (.int vd), .val (.int ve), .val (.int w_0_2), .val (.ref b_0_5), .val (.ref r_0_16), .unset, .unset] [(.int w_0_44)])) by
    by_cases hc_0_28 : (checksF (0 : Int32)) = (0 : Int32)
    · refine ogo (fun _ k => XS.ifNo X_0_27.here hx rfl (hb hby at_40) rfl ((if0 _ _).trans (teq hc_0_28).2) k) ?_
      show OGo _ _ _ _ (T_0_27.setTop (mkF m 43 #[.val (.int va), .val (.int vb), .val (.int vc), .val (.int vd), .val (.int ve), .val (.int w_0_2), .val (.ref b_0_5), .val (.ref r_0_16), .unset, .unset] []))
      refine ogo (fun _ k => XS.aload X_0_27.here hx rfl (hb hby at_43) rfl rfl k) ?_
      show OGo _ _ _ _ (T_0_27.setTop (mkF m 45 #[.val (.int va), .val (.int vb), .val (.int vc), .val (.int vd), .val (.int ve), .val (.int w_0_2), .val (.ref b_0_5), .val (.ref r_0_16), .unset, .unset] [(.ref r_0_16)]))
      obtain ⟨T_0_29, X_0_29, e_0_29, st_0_29⟩ := ovirtP X_0_27 hx hZ e_0_27 (rm6 l Z a0 hw r_0_16 vb h_0_16 f_0_19) hown (hw _ (List.mem_of_getElem? (i := 32) rfl)) (hw _ (List.mem_of_getElem? (i := 33) rfl)) (hw _ (List.mem_of_getElem? (i := 35) rfl)) (hw _ (List.mem_of_getElem? (i := 34) rfl)) (hw _ (List.mem_of_getElem? (i := 2) rfl)) (hw _ (List.mem_of_getElem? (i := 36) rfl)) (by decide) f_0_17 (g := (mkF m 45 #[.val (.int va), .val (.int vb), .val (.int vc), .val (.int vd), .val (.int ve), .val (.int w_0_2), .val (.ref b_0_5), .val (.ref r_0_16), .unset, .unset] [(.ref r_0_16)])) rfl (by rw [hml]; rfl) [] [] rfl (lenOf pd___I rfl) rfl (hb hby at_45) 0 (by show 2 * 0 + _ ≤ _; exact Nat.le_of_eq rfl) (by decide) (by decide) (by decide) (by decide) rfl rfl
      refine ogo (fun _ k => st_0_29 _ k) ?_
      show OGo _ _ _ _ (T_0_29.setTop (mkF m 48 #[.val (.int va), .val (.int vb), .val (.int vc), .val (.int vd), .val (.int ve), .val (.int w_0_2), .val (.ref b_0_5), .val (.ref r_0_16), .unset, .unset] [(.int (copiesF vb))]))
      refine ogo (fun _ k => XS.iloadN X_0_29.here hx rfl (hb hby at_48) rfl k) ?_
      show OGo _ _ _ _ (T_0_29.setTop (mkF m 49 #[.val (.int va), .val (.int vb), .val (.int vc), .val (.int vd), .val (.int ve), .val (.int w_0_2), .val (.ref b_0_5), .val (.ref r_0_16), .unset, .unset] [(.int vb), (.int (copiesF vb))]))
      suffices J_0_42 : ∀ (w_0_41 : Int32) (hw_0_41 : w_0_41 = (if (copiesF vb) = vb then (if (conversionsF vc) = vc then (if (supertypesF vd) = vd then (1 : Int32) else (0 : Int32)) else (0 : Int32)) else (0 : Int32))) (T_0_43 : State) (X_0_43 : Stand p l e room_1 s m #[(.int va), (.int vb), (.int vc), (.int vd), (.int ve)] below meth c T_0_43 lc_0_16 2 8) (e_0_43 : T_0_43.heap = h_0_16), OGo p.tables e below (OFin s (fun v _ L => v = some (.int 1) ∧ Fr n0 L) 16 128) (T_0_43.setTop (mkF m 75 #[.val (.int va), .val (.int vb), .val (.int vc), .val (.int vd), .val (.int ve), .val (.int w_0_2), .val (.ref b_0_5), .val (.ref r_0_16), .unset, .unset] [(.int w_0_41)])) by
        by_cases hc_0_30 : (copiesF vb) = vb
        · refine ogo (fun _ k => XS.icmpNo X_0_29.here hx rfl (hb hby at_49) rfl (teq hc_0_30).2 k) ?_
          show OGo _ _ _ _ (T_0_29.setTop (mkF m 52 #[.val (.int va), .val (.int vb), .val (.int vc), .val (.int vd), .val (.int ve), .val (.int w_0_2), .val (.ref b_0_5), .val (.ref r_0_16), .unset, .unset] []))
          refine ogo (fun _ k => XS.aload X_0_29.here hx rfl (hb hby at_52) rfl rfl k) ?_
          show OGo _ _ _ _ (T_0_29.setTop (mkF m 54 #[.val (.int va), .val (.int vb), .val (.int vc), .val (.int vd), .val (.int ve), .val (.int w_0_2), .val (.ref b_0_5), .val (.ref r_0_16), .unset, .unset] [(.ref r_0_16)]))
          obtain ⟨T_0_31, X_0_31, e_0_31, st_0_31⟩ := ovirtP X_0_29 hx hZ e_0_29 (rm7 l Z a0 hw r_0_16 vc h_0_16 f_0_20) hown (hw _ (List.mem_of_getElem? (i := 37) rfl)) (hw _ (List.mem_of_getElem? (i := 38) rfl)) (hw _ (List.mem_of_getElem? (i := 40) rfl)) (hw _ (List.mem_of_getElem? (i := 39) rfl)) (hw _ (List.mem_of_getElem? (i := 2) rfl)) (hw _ (List.mem_of_getElem? (i := 41) rfl)) (by decide) f_0_17 (g := (mkF m 54 #[.val (.int va), .val (.int vb), .val (.int vc), .val (.int vd), .val (.int ve), .val (.int w_0_2), .val (.ref b_0_5), .val (.ref r_0_16), .unset, .unset] [(.ref r_0_16)])) rfl (by rw [hml]; rfl) [] [] rfl (lenOf pd___I rfl) rfl (hb hby at_54) 0 (by show 2 * 0 + _ ≤ _; exact Nat.le_of_eq rfl) (by decide) (by decide) (by decide) (by decide) rfl rfl
          refine ogo (fun _ k => st_0_31 _ k) ?_
          show OGo _ _ _ _ (T_0_31.setTop (mkF m 57 #[.val (.int va), .val (.int vb), .val (.int vc), .val (.int vd), .val (.int ve), .val (.int w_0_2), .val (.ref b_0_5), .val (.ref r_0_16), .unset, .unset] [(.int (conversionsF vc))]))
          refine ogo (fun _ k => XS.iloadN X_0_31.here hx rfl (hb hby at_57) rfl k) ?_
          show OGo _ _ _ _ (T_0_31.setTop (mkF m 58 #[.val (.int va), .val (.int vb), .val (.int vc), .val (.int vd), .val (.int ve), .val (.int w_0_2), .val (.ref b_0_5), .val (.ref r_0_16), .unset, .unset] [(.int vc), (.int (conversionsF vc))]))
          suffices J_0_39 : ∀ (w_0_38 : Int32) (hw_0_38 : w_0_38 = (if (conversionsF vc) = vc then (if (supertypesF vd) = vd then (1 : Int32) else (0 : Int32)) else (0 : Int32))) (T_0_40 : State) (X_0_40 : Stand p l e room_1 s m #[(.int va), (.int vb), (.int vc), (.int vd), (.int ve)] below meth c T_0_40 lc_0_16 2 8) (e_0_40 : T_0_40.heap = h_0_16), OGo p.tables e below (OFin s (fun v _ L => v = some (.int 1) ∧ Fr n0 L) 16 128) (T_0_40.setTop (mkF m 75 #[.val (.int va), .val (.int vb), .val (.int vc), .val (.int vd), .val (.int ve), .val (.int w_0_2), .val (.ref b_0_5), .val (.ref r_0_16), .unset, .unset] [(.int w_0_38)])) by
            by_cases hc_0_32 : (conversionsF vc) = vc
            · refine ogo (fun _ k => XS.icmpNo X_0_31.here hx rfl (hb hby at_58) rfl (teq hc_0_32).2 k) ?_
              show OGo _ _ _ _ (T_0_31.setTop (mkF m 61 #[.val (.int va), .val (.int vb), .val (.int vc), .val (.int vd), .val (.int ve), .val (.int w_0_2), .val (.ref b_0_5), .val (.ref r_0_16), .unset, .unset] []))
              refine ogo (fun _ k => XS.aload X_0_31.here hx rfl (hb hby at_61) rfl rfl k) ?_
              show OGo _ _ _ _ (T_0_31.setTop (mkF m 63 #[.val (.int va), .val (.int vb), .val (.int vc), .val (.int vd), .val (.int ve), .val (.int w_0_2), .val (.ref b_0_5), .val (.ref r_0_16), .unset, .unset] [(.ref r_0_16)]))
              obtain ⟨T_0_33, X_0_33, e_0_33, st_0_33⟩ := ovirtP X_0_31 hx hZ e_0_31 (rm8 l Z a0 hw r_0_16 vd h_0_16 f_0_21) hown (hw _ (List.mem_of_getElem? (i := 42) rfl)) (hw _ (List.mem_of_getElem? (i := 43) rfl)) (hw _ (List.mem_of_getElem? (i := 45) rfl)) (hw _ (List.mem_of_getElem? (i := 44) rfl)) (hw _ (List.mem_of_getElem? (i := 2) rfl)) (hw _ (List.mem_of_getElem? (i := 46) rfl)) (by decide) f_0_17 (g := (mkF m 63 #[.val (.int va), .val (.int vb), .val (.int vc), .val (.int vd), .val (.int ve), .val (.int w_0_2), .val (.ref b_0_5), .val (.ref r_0_16), .unset, .unset] [(.ref r_0_16)])) rfl (by rw [hml]; rfl) [] [] rfl (lenOf pd___I rfl) rfl (hb hby at_63) 0 (by show 2 * 0 + _ ≤ _; exact Nat.le_of_eq rfl) (by decide) (by decide) (by decide) (by decide) rfl rfl
              refine ogo (fun _ k => st_0_33 _ k) ?_
              show OGo _ _ _ _ (T_0_33.setTop (mkF m 66 #[.val (.int va), .val (.int vb), .val (.int vc), .val (.int vd), .val (.int ve), .val (.int w_0_2), .val (.ref b_0_5), .val (.ref r_0_16), .unset, .unset] [(.int (supertypesF vd))]))
              refine ogo (fun _ k => XS.iloadN X_0_33.here hx rfl (hb hby at_66) rfl k) ?_
              show OGo _ _ _ _ (T_0_33.setTop (mkF m 67 #[.val (.int va), .val (.int vb), .val (.int vc), .val (.int vd), .val (.int ve), .val (.int w_0_2), .val (.ref b_0_5), .val (.ref r_0_16), .unset, .unset] [(.int vd), (.int (supertypesF vd))]))
              suffices J_0_36 : ∀ (w_0_35 : Int32) (hw_0_35 : w_0_35 = (if (supertypesF vd) = vd then (1 : Int32) else (0 : Int32))), OGo p.tables e below (OFin s (fun v _ L => v = some (.int 1) ∧ Fr n0 L) 16 128) (T_0_33.setTop (mkF m 75 #[.val (.int va), .val (.int vb), .val (.int vc), .val (.int vd), .val (.int ve), .val (.int w_0_2), .val (.ref b_0_5), .val (.ref r_0_16), .unset, .unset] [(.int w_0_35)])) by
                by_cases hc_0_34 : (supertypesF vd) = vd
                · refine ogo (fun _ k => XS.icmpNo X_0_33.here hx rfl (hb hby at_67) rfl (teq hc_0_34).2 k) ?_
                  show OGo _ _ _ _ (T_0_33.setTop (mkF m 70 #[.val (.int va), .val (.int vb), .val (.int vc), .val (.int vd), .val (.int ve), .val (.int w_0_2), .val (.ref b_0_5), .val (.ref r_0_16), .unset, .unset] []))
                  refine ogo (fun _ k => XS.iconst X_0_33.here hx rfl (hb hby at_70) k) ?_
                  show OGo _ _ _ _ (T_0_33.setTop (mkF m 71 #[.val (.int va), .val (.int vb), .val (.int vc), .val (.int vd), .val (.int ve), .val (.int w_0_2), .val (.ref b_0_5), .val (.ref r_0_16), .unset, .unset] [(.int (1 : Int32))]))
                  refine ogo (fun _ k => XS.goto X_0_33.here hx rfl (pc0 := 71) (pc' := 75) rfl (hb hby at_71) (by decide) (by decide) k) ?_
                  show OGo _ _ _ _ (T_0_33.setTop (mkF m 75 #[.val (.int va), .val (.int vb), .val (.int vc), .val (.int vd), .val (.int ve), .val (.int w_0_2), .val (.ref b_0_5), .val (.ref r_0_16), .unset, .unset] [(.int (1 : Int32))]))
                  exact J_0_36 _ (if_pos hc_0_34).symm
                · refine ogo (fun _ k => XS.icmpYes X_0_33.here hx rfl (pc0 := 67) (pc' := 74) rfl (hb hby at_67) rfl (feq hc_0_34).2 (by decide) (by decide) k) ?_
                  show OGo _ _ _ _ (T_0_33.setTop (mkF m 74 #[.val (.int va), .val (.int vb), .val (.int vc), .val (.int vd), .val (.int ve), .val (.int w_0_2), .val (.ref b_0_5), .val (.ref r_0_16), .unset, .unset] []))
                  refine ogo (fun _ k => XS.iconst X_0_33.here hx rfl (hb hby at_74) k) ?_
                  show OGo _ _ _ _ (T_0_33.setTop (mkF m 75 #[.val (.int va), .val (.int vb), .val (.int vc), .val (.int vd), .val (.int ve), .val (.int w_0_2), .val (.ref b_0_5), .val (.ref r_0_16), .unset, .unset] [(.int (0 : Int32))]))
                  exact J_0_36 _ (if_neg hc_0_34).symm
              intro w_0_35 hw_0_35
              subst hw_0_35
              exact J_0_39 _ (if_pos hc_0_32).symm _ X_0_33 e_0_33
            · refine ogo (fun _ k => XS.icmpYes X_0_31.here hx rfl (pc0 := 58) (pc' := 74) rfl (hb hby at_58) rfl (feq hc_0_32).2 (by decide) (by decide) k) ?_
              show OGo _ _ _ _ (T_0_31.setTop (mkF m 74 #[.val (.int va), .val (.int vb), .val (.int vc), .val (.int vd), .val (.int ve), .val (.int w_0_2), .val (.ref b_0_5), .val (.ref r_0_16), .unset, .unset] []))
              refine ogo (fun _ k => XS.iconst X_0_31.here hx rfl (hb hby at_74) k) ?_
              show OGo _ _ _ _ (T_0_31.setTop (mkF m 75 #[.val (.int va), .val (.int vb), .val (.int vc), .val (.int vd), .val (.int ve), .val (.int w_0_2), .val (.ref b_0_5), .val (.ref r_0_16), .unset, .unset] [(.int (0 : Int32))]))
              exact J_0_39 _ (if_neg hc_0_32).symm _ X_0_31 e_0_31
          intro w_0_38 hw_0_38 T_0_40 X_0_40 e_0_40
          subst hw_0_38
          exact J_0_42 _ (if_pos hc_0_30).symm _ X_0_40 e_0_40
        · refine ogo (fun _ k => XS.icmpYes X_0_29.here hx rfl (pc0 := 49) (pc' := 74) rfl (hb hby at_49) rfl (feq hc_0_30).2 (by decide) (by decide) k) ?_
          show OGo _ _ _ _ (T_0_29.setTop (mkF m 74 #[.val (.int va), .val (.int vb), .val (.int vc), .val (.int vd), .val (.int ve), .val (.int w_0_2), .val (.ref b_0_5), .val (.ref r_0_16), .unset, .unset] []))
          refine ogo (fun _ k => XS.iconst X_0_29.here hx rfl (hb hby at_74) k) ?_
          show OGo _ _ _ _ (T_0_29.setTop (mkF m 75 #[.val (.int va), .val (.int vb), .val (.int vc), .val (.int vd), .val (.int ve), .val (.int w_0_2), .val (.ref b_0_5), .val (.ref r_0_16), .unset, .unset] [(.int (0 : Int32))]))
          exact J_0_42 _ (if_neg hc_0_30).symm _ X_0_29 e_0_29
      intro w_0_41 hw_0_41 T_0_43 X_0_43 e_0_43
      subst hw_0_41
      exact J_0_45 _ (if_pos hc_0_28).symm _ X_0_43 e_0_43
    · refine ogo (fun _ k => XS.ifYes X_0_27.here hx rfl (pc0 := 40) (pc' := 74) rfl (hb hby at_40) rfl ((if0 _ _).trans (feq hc_0_28).2) (by decide) (by decide) k) ?_
      show OGo _ _ _ _ (T_0_27.setTop (mkF m 74 #[.val (.int va), .val (.int vb), .val (.int vc), .val (.int vd), .val (.int ve), .val (.int w_0_2), .val (.ref b_0_5), .val (.ref r_0_16), .unset, .unset] []))
      refine ogo (fun _ k => XS.iconst X_0_27.here hx rfl (hb hby at_74) k) ?_
      show OGo _ _ _ _ (T_0_27.setTop (mkF m 75 #[.val (.int va), .val (.int vb), .val (.int vc), .val (.int vd), .val (.int ve), .val (.int w_0_2), .val (.ref b_0_5), .val (.ref r_0_16), .unset, .unset] [(.int (0 : Int32))]))
      exact J_0_45 _ (if_neg hc_0_28).symm _ X_0_27 e_0_27
  intro w_0_44 hw_0_44 T_0_46 X_0_46 e_0_46
  refine ogo (fun _ k => XS.istore X_0_46.here hx rfl (hb hby at_75) rfl (l' := #[.val (.int va), .val (.int vb), .val (.int vc), .val (.int vd), .val (.int ve), .val (.int w_0_2), .val (.ref b_0_5), .val (.ref r_0_16), .val (.int w_0_44), .unset]) rfl k) ?_
  show OGo _ _ _ _ (T_0_46.setTop (mkF m 77 #[.val (.int va), .val (.int vb), .val (.int vc), .val (.int vd), .val (.int ve), .val (.int w_0_2), .val (.ref b_0_5), .val (.ref r_0_16), .val (.int w_0_44), .unset] []))
  refine ogo (fun _ k => XS.aload X_0_46.here hx rfl (hb hby at_77) rfl rfl k) ?_
  show OGo _ _ _ _ (T_0_46.setTop (mkF m 79 #[.val (.int va), .val (.int vb), .val (.int vc), .val (.int vd), .val (.int ve), .val (.int w_0_2), .val (.ref b_0_5), .val (.ref r_0_16), .val (.int w_0_44), .unset] [(.ref b_0_5)]))
  obtain ⟨T_0_47, X_0_47, e_0_47, st_0_47⟩ := ovirtP X_0_46 hx hZ e_0_46 (rm5 l Z a0 hw b_0_5 w_0_2 h_0_16 f_0_23) hown (hw _ (List.mem_of_getElem? (i := 27) rfl)) (hw _ (List.mem_of_getElem? (i := 28) rfl)) (hw _ (List.mem_of_getElem? (i := 30) rfl)) (hw _ (List.mem_of_getElem? (i := 29) rfl)) (hw _ (List.mem_of_getElem? (i := 2) rfl)) (hw _ (List.mem_of_getElem? (i := 31) rfl)) (by decide) f_0_22 (g := (mkF m 79 #[.val (.int va), .val (.int vb), .val (.int vc), .val (.int vd), .val (.int ve), .val (.int w_0_2), .val (.ref b_0_5), .val (.ref r_0_16), .val (.int w_0_44), .unset] [(.ref b_0_5)])) rfl (by rw [hml]; rfl) [] [] rfl (lenOf pd___I rfl) rfl (hb hby at_79) 0 (by show 2 * 0 + _ ≤ _; exact Nat.le_of_eq rfl) (by decide) (by decide) (by decide) (by decide) rfl rfl
  refine ogo (fun _ k => st_0_47 _ k) ?_
  show OGo _ _ _ _ (T_0_47.setTop (mkF m 82 #[.val (.int va), .val (.int vb), .val (.int vc), .val (.int vd), .val (.int ve), .val (.int w_0_2), .val (.ref b_0_5), .val (.ref r_0_16), .val (.int w_0_44), .unset] [(.int (checksF w_0_2))]))
  refine ogo (fun _ k => XS.iload X_0_47.here hx rfl (hb hby at_82) rfl k) ?_
  show OGo _ _ _ _ (T_0_47.setTop (mkF m 84 #[.val (.int va), .val (.int vb), .val (.int vc), .val (.int vd), .val (.int ve), .val (.int w_0_2), .val (.ref b_0_5), .val (.ref r_0_16), .val (.int w_0_44), .unset] [(.int w_0_2), (.int (checksF w_0_2))]))
  suffices J_0_65 : ∀ (w_0_64 : Int32) (hw_0_64 : w_0_64 = (if (checksF w_0_2) = w_0_2 then (if (copiesF vb) = vb then (if (conversionsF vc) = vc then (if (supertypesF vd) = vd then (1 : Int32) else (0 : Int32)) else (0 : Int32)) else (0 : Int32)) else (0 : Int32))) (T_0_66 : State) (X_0_66 : Stand p l e room_1 s m #[(.int va), (.int vb), (.int vc), (.int vd), (.int ve)] below meth c T_0_66 lc_0_16 2 8) (e_0_66 : T_0_66.heap = h_0_16), OGo p.tables e below (OFin s (fun v _ L => v = some (.int 1) ∧ Fr n0 L) 16 128) (T_0_66.setTop (mkF m 119 #[.val (.int va), .val (.int vb), .val (.int vc), .val (.int vd), .val (.int ve), .val (.int w_0_2), .val (.ref b_0_5), .val (.ref r_0_16), .val (.int w_0_44), .unset] [(.int w_0_64)])) by
    by_cases hc_0_48 : (checksF w_0_2) = w_0_2
    · refine ogo (fun _ k => XS.icmpNo X_0_47.here hx rfl (hb hby at_84) rfl (teq hc_0_48).2 k) ?_
      show OGo _ _ _ _ (T_0_47.setTop (mkF m 87 #[.val (.int va), .val (.int vb), .val (.int vc), .val (.int vd), .val (.int ve), .val (.int w_0_2), .val (.ref b_0_5), .val (.ref r_0_16), .val (.int w_0_44), .unset] []))
      refine ogo (fun _ k => XS.aload X_0_47.here hx rfl (hb hby at_87) rfl rfl k) ?_
      show OGo _ _ _ _ (T_0_47.setTop (mkF m 89 #[.val (.int va), .val (.int vb), .val (.int vc), .val (.int vd), .val (.int ve), .val (.int w_0_2), .val (.ref b_0_5), .val (.ref r_0_16), .val (.int w_0_44), .unset] [(.ref b_0_5)]))
      obtain ⟨T_0_49, X_0_49, e_0_49, st_0_49⟩ := ovirtP X_0_47 hx hZ e_0_47 (rm6 l Z a0 hw b_0_5 vb h_0_16 f_0_24) hown (hw _ (List.mem_of_getElem? (i := 32) rfl)) (hw _ (List.mem_of_getElem? (i := 33) rfl)) (hw _ (List.mem_of_getElem? (i := 35) rfl)) (hw _ (List.mem_of_getElem? (i := 34) rfl)) (hw _ (List.mem_of_getElem? (i := 2) rfl)) (hw _ (List.mem_of_getElem? (i := 36) rfl)) (by decide) f_0_22 (g := (mkF m 89 #[.val (.int va), .val (.int vb), .val (.int vc), .val (.int vd), .val (.int ve), .val (.int w_0_2), .val (.ref b_0_5), .val (.ref r_0_16), .val (.int w_0_44), .unset] [(.ref b_0_5)])) rfl (by rw [hml]; rfl) [] [] rfl (lenOf pd___I rfl) rfl (hb hby at_89) 0 (by show 2 * 0 + _ ≤ _; exact Nat.le_of_eq rfl) (by decide) (by decide) (by decide) (by decide) rfl rfl
      refine ogo (fun _ k => st_0_49 _ k) ?_
      show OGo _ _ _ _ (T_0_49.setTop (mkF m 92 #[.val (.int va), .val (.int vb), .val (.int vc), .val (.int vd), .val (.int ve), .val (.int w_0_2), .val (.ref b_0_5), .val (.ref r_0_16), .val (.int w_0_44), .unset] [(.int (copiesF vb))]))
      refine ogo (fun _ k => XS.iloadN X_0_49.here hx rfl (hb hby at_92) rfl k) ?_
      show OGo _ _ _ _ (T_0_49.setTop (mkF m 93 #[.val (.int va), .val (.int vb), .val (.int vc), .val (.int vd), .val (.int ve), .val (.int w_0_2), .val (.ref b_0_5), .val (.ref r_0_16), .val (.int w_0_44), .unset] [(.int vb), (.int (copiesF vb))]))
      suffices J_0_62 : ∀ (w_0_61 : Int32) (hw_0_61 : w_0_61 = (if (copiesF vb) = vb then (if (conversionsF vc) = vc then (if (supertypesF vd) = vd then (1 : Int32) else (0 : Int32)) else (0 : Int32)) else (0 : Int32))) (T_0_63 : State) (X_0_63 : Stand p l e room_1 s m #[(.int va), (.int vb), (.int vc), (.int vd), (.int ve)] below meth c T_0_63 lc_0_16 2 8) (e_0_63 : T_0_63.heap = h_0_16), OGo p.tables e below (OFin s (fun v _ L => v = some (.int 1) ∧ Fr n0 L) 16 128) (T_0_63.setTop (mkF m 119 #[.val (.int va), .val (.int vb), .val (.int vc), .val (.int vd), .val (.int ve), .val (.int w_0_2), .val (.ref b_0_5), .val (.ref r_0_16), .val (.int w_0_44), .unset] [(.int w_0_61)])) by
        by_cases hc_0_50 : (copiesF vb) = vb
        · refine ogo (fun _ k => XS.icmpNo X_0_49.here hx rfl (hb hby at_93) rfl (teq hc_0_50).2 k) ?_
          show OGo _ _ _ _ (T_0_49.setTop (mkF m 96 #[.val (.int va), .val (.int vb), .val (.int vc), .val (.int vd), .val (.int ve), .val (.int w_0_2), .val (.ref b_0_5), .val (.ref r_0_16), .val (.int w_0_44), .unset] []))
          refine ogo (fun _ k => XS.aload X_0_49.here hx rfl (hb hby at_96) rfl rfl k) ?_
          show OGo _ _ _ _ (T_0_49.setTop (mkF m 98 #[.val (.int va), .val (.int vb), .val (.int vc), .val (.int vd), .val (.int ve), .val (.int w_0_2), .val (.ref b_0_5), .val (.ref r_0_16), .val (.int w_0_44), .unset] [(.ref b_0_5)]))
          obtain ⟨T_0_51, X_0_51, e_0_51, st_0_51⟩ := ovirtP X_0_49 hx hZ e_0_49 (rm7 l Z a0 hw b_0_5 vc h_0_16 f_0_25) hown (hw _ (List.mem_of_getElem? (i := 37) rfl)) (hw _ (List.mem_of_getElem? (i := 38) rfl)) (hw _ (List.mem_of_getElem? (i := 40) rfl)) (hw _ (List.mem_of_getElem? (i := 39) rfl)) (hw _ (List.mem_of_getElem? (i := 2) rfl)) (hw _ (List.mem_of_getElem? (i := 41) rfl)) (by decide) f_0_22 (g := (mkF m 98 #[.val (.int va), .val (.int vb), .val (.int vc), .val (.int vd), .val (.int ve), .val (.int w_0_2), .val (.ref b_0_5), .val (.ref r_0_16), .val (.int w_0_44), .unset] [(.ref b_0_5)])) rfl (by rw [hml]; rfl) [] [] rfl (lenOf pd___I rfl) rfl (hb hby at_98) 0 (by show 2 * 0 + _ ≤ _; exact Nat.le_of_eq rfl) (by decide) (by decide) (by decide) (by decide) rfl rfl
          refine ogo (fun _ k => st_0_51 _ k) ?_
          show OGo _ _ _ _ (T_0_51.setTop (mkF m 101 #[.val (.int va), .val (.int vb), .val (.int vc), .val (.int vd), .val (.int ve), .val (.int w_0_2), .val (.ref b_0_5), .val (.ref r_0_16), .val (.int w_0_44), .unset] [(.int (conversionsF vc))]))
          refine ogo (fun _ k => XS.iloadN X_0_51.here hx rfl (hb hby at_101) rfl k) ?_
          show OGo _ _ _ _ (T_0_51.setTop (mkF m 102 #[.val (.int va), .val (.int vb), .val (.int vc), .val (.int vd), .val (.int ve), .val (.int w_0_2), .val (.ref b_0_5), .val (.ref r_0_16), .val (.int w_0_44), .unset] [(.int vc), (.int (conversionsF vc))]))
          suffices J_0_59 : ∀ (w_0_58 : Int32) (hw_0_58 : w_0_58 = (if (conversionsF vc) = vc then (if (supertypesF vd) = vd then (1 : Int32) else (0 : Int32)) else (0 : Int32))) (T_0_60 : State) (X_0_60 : Stand p l e room_1 s m #[(.int va), (.int vb), (.int vc), (.int vd), (.int ve)] below meth c T_0_60 lc_0_16 2 8) (e_0_60 : T_0_60.heap = h_0_16), OGo p.tables e below (OFin s (fun v _ L => v = some (.int 1) ∧ Fr n0 L) 16 128) (T_0_60.setTop (mkF m 119 #[.val (.int va), .val (.int vb), .val (.int vc), .val (.int vd), .val (.int ve), .val (.int w_0_2), .val (.ref b_0_5), .val (.ref r_0_16), .val (.int w_0_44), .unset] [(.int w_0_58)])) by
            by_cases hc_0_52 : (conversionsF vc) = vc
            · refine ogo (fun _ k => XS.icmpNo X_0_51.here hx rfl (hb hby at_102) rfl (teq hc_0_52).2 k) ?_
              show OGo _ _ _ _ (T_0_51.setTop (mkF m 105 #[.val (.int va), .val (.int vb), .val (.int vc), .val (.int vd), .val (.int ve), .val (.int w_0_2), .val (.ref b_0_5), .val (.ref r_0_16), .val (.int w_0_44), .unset] []))
              refine ogo (fun _ k => XS.aload X_0_51.here hx rfl (hb hby at_105) rfl rfl k) ?_
              show OGo _ _ _ _ (T_0_51.setTop (mkF m 107 #[.val (.int va), .val (.int vb), .val (.int vc), .val (.int vd), .val (.int ve), .val (.int w_0_2), .val (.ref b_0_5), .val (.ref r_0_16), .val (.int w_0_44), .unset] [(.ref b_0_5)]))
              obtain ⟨T_0_53, X_0_53, e_0_53, st_0_53⟩ := ovirtP X_0_51 hx hZ e_0_51 (rm8 l Z a0 hw b_0_5 vd h_0_16 f_0_26) hown (hw _ (List.mem_of_getElem? (i := 42) rfl)) (hw _ (List.mem_of_getElem? (i := 43) rfl)) (hw _ (List.mem_of_getElem? (i := 45) rfl)) (hw _ (List.mem_of_getElem? (i := 44) rfl)) (hw _ (List.mem_of_getElem? (i := 2) rfl)) (hw _ (List.mem_of_getElem? (i := 46) rfl)) (by decide) f_0_22 (g := (mkF m 107 #[.val (.int va), .val (.int vb), .val (.int vc), .val (.int vd), .val (.int ve), .val (.int w_0_2), .val (.ref b_0_5), .val (.ref r_0_16), .val (.int w_0_44), .unset] [(.ref b_0_5)])) rfl (by rw [hml]; rfl) [] [] rfl (lenOf pd___I rfl) rfl (hb hby at_107) 0 (by show 2 * 0 + _ ≤ _; exact Nat.le_of_eq rfl) (by decide) (by decide) (by decide) (by decide) rfl rfl
              refine ogo (fun _ k => st_0_53 _ k) ?_
              show OGo _ _ _ _ (T_0_53.setTop (mkF m 110 #[.val (.int va), .val (.int vb), .val (.int vc), .val (.int vd), .val (.int ve), .val (.int w_0_2), .val (.ref b_0_5), .val (.ref r_0_16), .val (.int w_0_44), .unset] [(.int (supertypesF vd))]))
              refine ogo (fun _ k => XS.iloadN X_0_53.here hx rfl (hb hby at_110) rfl k) ?_
              show OGo _ _ _ _ (T_0_53.setTop (mkF m 111 #[.val (.int va), .val (.int vb), .val (.int vc), .val (.int vd), .val (.int ve), .val (.int w_0_2), .val (.ref b_0_5), .val (.ref r_0_16), .val (.int w_0_44), .unset] [(.int vd), (.int (supertypesF vd))]))
              suffices J_0_56 : ∀ (w_0_55 : Int32) (hw_0_55 : w_0_55 = (if (supertypesF vd) = vd then (1 : Int32) else (0 : Int32))), OGo p.tables e below (OFin s (fun v _ L => v = some (.int 1) ∧ Fr n0 L) 16 128) (T_0_53.setTop (mkF m 119 #[.val (.int va), .val (.int vb), .val (.int vc), .val (.int vd), .val (.int ve), .val (.int w_0_2), .val (.ref b_0_5), .val (.ref r_0_16), .val (.int w_0_44), .unset] [(.int w_0_55)])) by
                by_cases hc_0_54 : (supertypesF vd) = vd
                · refine ogo (fun _ k => XS.icmpNo X_0_53.here hx rfl (hb hby at_111) rfl (teq hc_0_54).2 k) ?_
                  show OGo _ _ _ _ (T_0_53.setTop (mkF m 114 #[.val (.int va), .val (.int vb), .val (.int vc), .val (.int vd), .val (.int ve), .val (.int w_0_2), .val (.ref b_0_5), .val (.ref r_0_16), .val (.int w_0_44), .unset] []))
                  refine ogo (fun _ k => XS.iconst X_0_53.here hx rfl (hb hby at_114) k) ?_
                  show OGo _ _ _ _ (T_0_53.setTop (mkF m 115 #[.val (.int va), .val (.int vb), .val (.int vc), .val (.int vd), .val (.int ve), .val (.int w_0_2), .val (.ref b_0_5), .val (.ref r_0_16), .val (.int w_0_44), .unset] [(.int (1 : Int32))]))
                  refine ogo (fun _ k => XS.goto X_0_53.here hx rfl (pc0 := 115) (pc' := 119) rfl (hb hby at_115) (by decide) (by decide) k) ?_
                  show OGo _ _ _ _ (T_0_53.setTop (mkF m 119 #[.val (.int va), .val (.int vb), .val (.int vc), .val (.int vd), .val (.int ve), .val (.int w_0_2), .val (.ref b_0_5), .val (.ref r_0_16), .val (.int w_0_44), .unset] [(.int (1 : Int32))]))
                  exact J_0_56 _ (if_pos hc_0_54).symm
                · refine ogo (fun _ k => XS.icmpYes X_0_53.here hx rfl (pc0 := 111) (pc' := 118) rfl (hb hby at_111) rfl (feq hc_0_54).2 (by decide) (by decide) k) ?_
                  show OGo _ _ _ _ (T_0_53.setTop (mkF m 118 #[.val (.int va), .val (.int vb), .val (.int vc), .val (.int vd), .val (.int ve), .val (.int w_0_2), .val (.ref b_0_5), .val (.ref r_0_16), .val (.int w_0_44), .unset] []))
                  refine ogo (fun _ k => XS.iconst X_0_53.here hx rfl (hb hby at_118) k) ?_
                  show OGo _ _ _ _ (T_0_53.setTop (mkF m 119 #[.val (.int va), .val (.int vb), .val (.int vc), .val (.int vd), .val (.int ve), .val (.int w_0_2), .val (.ref b_0_5), .val (.ref r_0_16), .val (.int w_0_44), .unset] [(.int (0 : Int32))]))
                  exact J_0_56 _ (if_neg hc_0_54).symm
              intro w_0_55 hw_0_55
              subst hw_0_55
              exact J_0_59 _ (if_pos hc_0_52).symm _ X_0_53 e_0_53
            · refine ogo (fun _ k => XS.icmpYes X_0_51.here hx rfl (pc0 := 102) (pc' := 118) rfl (hb hby at_102) rfl (feq hc_0_52).2 (by decide) (by decide) k) ?_
              show OGo _ _ _ _ (T_0_51.setTop (mkF m 118 #[.val (.int va), .val (.int vb), .val (.int vc), .val (.int vd), .val (.int ve), .val (.int w_0_2), .val (.ref b_0_5), .val (.ref r_0_16), .val (.int w_0_44), .unset] []))
              refine ogo (fun _ k => XS.iconst X_0_51.here hx rfl (hb hby at_118) k) ?_
              show OGo _ _ _ _ (T_0_51.setTop (mkF m 119 #[.val (.int va), .val (.int vb), .val (.int vc), .val (.int vd), .val (.int ve), .val (.int w_0_2), .val (.ref b_0_5), .val (.ref r_0_16), .val (.int w_0_44), .unset] [(.int (0 : Int32))]))
              exact J_0_59 _ (if_neg hc_0_52).symm _ X_0_51 e_0_51
          intro w_0_58 hw_0_58 T_0_60 X_0_60 e_0_60
          subst hw_0_58
          exact J_0_62 _ (if_pos hc_0_50).symm _ X_0_60 e_0_60
        · refine ogo (fun _ k => XS.icmpYes X_0_49.here hx rfl (pc0 := 93) (pc' := 118) rfl (hb hby at_93) rfl (feq hc_0_50).2 (by decide) (by decide) k) ?_
          show OGo _ _ _ _ (T_0_49.setTop (mkF m 118 #[.val (.int va), .val (.int vb), .val (.int vc), .val (.int vd), .val (.int ve), .val (.int w_0_2), .val (.ref b_0_5), .val (.ref r_0_16), .val (.int w_0_44), .unset] []))
          refine ogo (fun _ k => XS.iconst X_0_49.here hx rfl (hb hby at_118) k) ?_
          show OGo _ _ _ _ (T_0_49.setTop (mkF m 119 #[.val (.int va), .val (.int vb), .val (.int vc), .val (.int vd), .val (.int ve), .val (.int w_0_2), .val (.ref b_0_5), .val (.ref r_0_16), .val (.int w_0_44), .unset] [(.int (0 : Int32))]))
          exact J_0_62 _ (if_neg hc_0_50).symm _ X_0_49 e_0_49
      intro w_0_61 hw_0_61 T_0_63 X_0_63 e_0_63
      subst hw_0_61
      exact J_0_65 _ (if_pos hc_0_48).symm _ X_0_63 e_0_63
    · refine ogo (fun _ k => XS.icmpYes X_0_47.here hx rfl (pc0 := 84) (pc' := 118) rfl (hb hby at_84) rfl (feq hc_0_48).2 (by decide) (by decide) k) ?_
      show OGo _ _ _ _ (T_0_47.setTop (mkF m 118 #[.val (.int va), .val (.int vb), .val (.int vc), .val (.int vd), .val (.int ve), .val (.int w_0_2), .val (.ref b_0_5), .val (.ref r_0_16), .val (.int w_0_44), .unset] []))
      refine ogo (fun _ k => XS.iconst X_0_47.here hx rfl (hb hby at_118) k) ?_
      show OGo _ _ _ _ (T_0_47.setTop (mkF m 119 #[.val (.int va), .val (.int vb), .val (.int vc), .val (.int vd), .val (.int ve), .val (.int w_0_2), .val (.ref b_0_5), .val (.ref r_0_16), .val (.int w_0_44), .unset] [(.int (0 : Int32))]))
      exact J_0_65 _ (if_neg hc_0_48).symm _ X_0_47 e_0_47
  intro w_0_64 hw_0_64 T_0_66 X_0_66 e_0_66
  refine ogo (fun _ k => XS.istore X_0_66.here hx rfl (hb hby at_119) rfl (l' := #[.val (.int va), .val (.int vb), .val (.int vc), .val (.int vd), .val (.int ve), .val (.int w_0_2), .val (.ref b_0_5), .val (.ref r_0_16), .val (.int w_0_44), .val (.int w_0_64)]) rfl k) ?_
  show OGo _ _ _ _ (T_0_66.setTop (mkF m 121 #[.val (.int va), .val (.int vb), .val (.int vc), .val (.int vd), .val (.int ve), .val (.int w_0_2), .val (.ref b_0_5), .val (.ref r_0_16), .val (.int w_0_44), .val (.int w_0_64)] []))
  refine ogo (fun _ k => XS.iload X_0_66.here hx rfl (hb hby at_121) rfl k) ?_
  show OGo _ _ _ _ (T_0_66.setTop (mkF m 123 #[.val (.int va), .val (.int vb), .val (.int vc), .val (.int vd), .val (.int ve), .val (.int w_0_2), .val (.ref b_0_5), .val (.ref r_0_16), .val (.int w_0_44), .val (.int w_0_64)] [(.int w_0_44)]))
  suffices J_0_73 : ∀ (w_0_72 : Int32) (hw_0_72 : w_0_72 = (if w_0_44 = (0 : Int32) then (0 : Int32) else (if w_0_64 = (0 : Int32) then (0 : Int32) else (1 : Int32)))), OGo p.tables e below (OFin s (fun v _ L => v = some (.int 1) ∧ Fr n0 L) 16 128) (T_0_66.setTop (mkF m 136 #[.val (.int va), .val (.int vb), .val (.int vc), .val (.int vd), .val (.int ve), .val (.int w_0_2), .val (.ref b_0_5), .val (.ref r_0_16), .val (.int w_0_44), .val (.int w_0_64)] [(.int w_0_72)])) by
    by_cases hc_0_67 : w_0_44 = (0 : Int32)
    · refine ogo (fun _ k => XS.ifYes X_0_66.here hx rfl (pc0 := 123) (pc' := 135) rfl (hb hby at_123) rfl ((if0 _ _).trans (teq hc_0_67).1) (by decide) (by decide) k) ?_
      show OGo _ _ _ _ (T_0_66.setTop (mkF m 135 #[.val (.int va), .val (.int vb), .val (.int vc), .val (.int vd), .val (.int ve), .val (.int w_0_2), .val (.ref b_0_5), .val (.ref r_0_16), .val (.int w_0_44), .val (.int w_0_64)] []))
      refine ogo (fun _ k => XS.iconst X_0_66.here hx rfl (hb hby at_135) k) ?_
      show OGo _ _ _ _ (T_0_66.setTop (mkF m 136 #[.val (.int va), .val (.int vb), .val (.int vc), .val (.int vd), .val (.int ve), .val (.int w_0_2), .val (.ref b_0_5), .val (.ref r_0_16), .val (.int w_0_44), .val (.int w_0_64)] [(.int (0 : Int32))]))
      exact J_0_73 _ (if_pos hc_0_67).symm
    · refine ogo (fun _ k => XS.ifNo X_0_66.here hx rfl (hb hby at_123) rfl ((if0 _ _).trans (feq hc_0_67).1) k) ?_
      show OGo _ _ _ _ (T_0_66.setTop (mkF m 126 #[.val (.int va), .val (.int vb), .val (.int vc), .val (.int vd), .val (.int ve), .val (.int w_0_2), .val (.ref b_0_5), .val (.ref r_0_16), .val (.int w_0_44), .val (.int w_0_64)] []))
      refine ogo (fun _ k => XS.iload X_0_66.here hx rfl (hb hby at_126) rfl k) ?_
      show OGo _ _ _ _ (T_0_66.setTop (mkF m 128 #[.val (.int va), .val (.int vb), .val (.int vc), .val (.int vd), .val (.int ve), .val (.int w_0_2), .val (.ref b_0_5), .val (.ref r_0_16), .val (.int w_0_44), .val (.int w_0_64)] [(.int w_0_64)]))
      suffices J_0_70 : ∀ (w_0_69 : Int32) (hw_0_69 : w_0_69 = (if w_0_64 = (0 : Int32) then (0 : Int32) else (1 : Int32))), OGo p.tables e below (OFin s (fun v _ L => v = some (.int 1) ∧ Fr n0 L) 16 128) (T_0_66.setTop (mkF m 136 #[.val (.int va), .val (.int vb), .val (.int vc), .val (.int vd), .val (.int ve), .val (.int w_0_2), .val (.ref b_0_5), .val (.ref r_0_16), .val (.int w_0_44), .val (.int w_0_64)] [(.int w_0_69)])) by
        by_cases hc_0_68 : w_0_64 = (0 : Int32)
        · refine ogo (fun _ k => XS.ifYes X_0_66.here hx rfl (pc0 := 128) (pc' := 135) rfl (hb hby at_128) rfl ((if0 _ _).trans (teq hc_0_68).1) (by decide) (by decide) k) ?_
          show OGo _ _ _ _ (T_0_66.setTop (mkF m 135 #[.val (.int va), .val (.int vb), .val (.int vc), .val (.int vd), .val (.int ve), .val (.int w_0_2), .val (.ref b_0_5), .val (.ref r_0_16), .val (.int w_0_44), .val (.int w_0_64)] []))
          refine ogo (fun _ k => XS.iconst X_0_66.here hx rfl (hb hby at_135) k) ?_
          show OGo _ _ _ _ (T_0_66.setTop (mkF m 136 #[.val (.int va), .val (.int vb), .val (.int vc), .val (.int vd), .val (.int ve), .val (.int w_0_2), .val (.ref b_0_5), .val (.ref r_0_16), .val (.int w_0_44), .val (.int w_0_64)] [(.int (0 : Int32))]))
          exact J_0_70 _ (if_pos hc_0_68).symm
        · refine ogo (fun _ k => XS.ifNo X_0_66.here hx rfl (hb hby at_128) rfl ((if0 _ _).trans (feq hc_0_68).1) k) ?_
          show OGo _ _ _ _ (T_0_66.setTop (mkF m 131 #[.val (.int va), .val (.int vb), .val (.int vc), .val (.int vd), .val (.int ve), .val (.int w_0_2), .val (.ref b_0_5), .val (.ref r_0_16), .val (.int w_0_44), .val (.int w_0_64)] []))
          refine ogo (fun _ k => XS.iconst X_0_66.here hx rfl (hb hby at_131) k) ?_
          show OGo _ _ _ _ (T_0_66.setTop (mkF m 132 #[.val (.int va), .val (.int vb), .val (.int vc), .val (.int vd), .val (.int ve), .val (.int w_0_2), .val (.ref b_0_5), .val (.ref r_0_16), .val (.int w_0_44), .val (.int w_0_64)] [(.int (1 : Int32))]))
          refine ogo (fun _ k => XS.goto X_0_66.here hx rfl (pc0 := 132) (pc' := 136) rfl (hb hby at_132) (by decide) (by decide) k) ?_
          show OGo _ _ _ _ (T_0_66.setTop (mkF m 136 #[.val (.int va), .val (.int vb), .val (.int vc), .val (.int vd), .val (.int ve), .val (.int w_0_2), .val (.ref b_0_5), .val (.ref r_0_16), .val (.int w_0_44), .val (.int w_0_64)] [(.int (1 : Int32))]))
          exact J_0_70 _ (if_neg hc_0_68).symm
      intro w_0_69 hw_0_69
      subst hw_0_69
      exact J_0_73 _ (if_neg hc_0_67).symm
  intro w_0_72 hw_0_72
  have hz : w_0_72 = (1 : Int32) := plain0 va vb vc vd ve w_0_2 hw_0_2 w_0_44 hw_0_44 w_0_64 hw_0_64 w_0_72 hw_0_72
  rw [hz]
  exact oret X_0_66 hx hlk Bd.returns rfl (Or.inl ⟨rfl, Or.inr (Or.inl rfl), _, rfl⟩) (hb hby at_136) (by decide) (by decide) ⟨rfl, N_0_16⟩
set_option maxRecDepth 65536 in
set_option maxHeartbeats 40000000 in
theorem comes_1 {Post : Tables → Env → Array Value → State → Outcome → State → Prop} (hpost : ∀ tb e args s v u, (limb_1_1.after args s (.returned v) u = true ∧ limb_1_2.after args s (.returned v) u = true) → FrameEnd s (.returned v) u (Jvm.fieldLocs frame_1_writes args s ++ Jvm.arrayLocs frame_1_arrays args s ++ Jvm.staticLocs frame_1_statics s) 16 128 → Post tb e args s (.returned v) u) :
    ArmFor flags0 classFile x code maxLocals ret World_1 tables_1 room_1 Calls_1 rest_1 Pre_1 Post := by
  intro l hfl _ _ p e ha hc hk s m args below hf hA hF happ hP
  obtain ⟨hcalls, hrest, hpre⟩ := hP
  obtain ⟨-, -, -, hnamed, -, -, -, hat⟩ := (Spec.applies_iff hf).mp happ
  obtain ⟨hg, hn⟩ := and_e (Cond.before_iff.mp (show (Jvm.Cond.and given_1 narrow_1).before args s = true from hpre))
  obtain ⟨gc, g0⟩ := and_e hg
  obtain ⟨ga0, g1⟩ := and_e g0
  obtain ⟨ga1, g2⟩ := and_e g1
  obtain ⟨ga2, g3⟩ := and_e g2
  obtain ⟨ga3, g4⟩ := and_e g3
  obtain ⟨w0, w1, w2, w3, w4, rfl⟩ : ∃ w0 w1 w2 w3 w4 : Value, args = #[w0, w1, w2, w3, w4] := by
    have hs : args.size = 5 := by simpa [Cond.value, given_1] using gc
    obtain ⟨L⟩ := args
    match L, hs with
    | [w0, w1, w2, w3, w4], _ => exact ⟨w0, w1, w2, w3, w4, rfl⟩
  have hw := fun d (hd : d ∈ tables_1) => atoms_spec (ws := Jvm.Cond.code x code maxLocals ret :: tables_1) hat d (List.mem_cons_of_mem _ hd)
  obtain ⟨i0, ei0⟩ := is_v ga0
  obtain rfl : w0 = (.int i0) := Option.some.inj ei0
  obtain ⟨i1, ei1⟩ := is_v ga1
  obtain rfl : w1 = (.int i1) := Option.some.inj ei1
  obtain ⟨i2, ei2⟩ := is_v ga2
  obtain rfl : w2 = (.int i2) := Option.some.inj ei2
  obtain ⟨i3, ei3⟩ := is_v ga3
  obtain rfl : w3 = (.int i3) := Option.some.inj ei3
  obtain ⟨i4, ei4⟩ := is_v g4
  obtain rfl : w4 = (.int i4) := Option.some.inj ei4
  obtain ⟨n, o, h1, h2, h3, _, L, rfl, ⟨rfl, N⟩, hq⟩ := rm0 l s _ hw tables_1 i0 i1 i2 i3 i4 s.heap s.heap.size (Nat.le_refl _)  p e ha hc hk s m _ below hf ((Spec.applies_iff_loose hf).mp happ).1 ⟨rfl, State.Warmed39.refl s, rfl⟩ trivial
  exact ⟨n, _, h1, h2, h3, hpost _ _ _ _ _ _ ⟨Cond.after_iff.mpr rfl, Cond.after_iff.mpr (eq_i res_at (Term.int_eval (1)) rfl)⟩ ⟨hq.1, hq.2.1, (hq.2.2.sift fun y hy => Or.inr (N y hy)).mono (by decide) (by decide)⟩⟩
theorem main_1_1 : Claimed_1_1 := comes_1 fun _ _ _ _ _ _ h hF => ⟨h.1, hF⟩
theorem main_1_2 : Claimed_1_2 := comes_1 fun _ _ _ _ _ _ h hF => ⟨h.2, hF⟩
end Jvm.Pilot.@@N@@
namespace Jvm.Pilot.@@N@@
open Jvm Jvm.ClassFile Sem Op Lib Jvm.Free Jvm.Stand Jvm.Pilot.@@N@@.Jvm.D
/-! MADE BY PROGRAM (witnessworld.py) out of the Statement's table words and the real class files: 9 classes; the members and pool entries that the words name. The judged class is class 1, her method 1. -/
namespace start1
open Jvm.ClassFile
def u (s : String) : CpInfo := .utf8 (stringToUtf16 s)
/-- a pool by its gaps: so many unusable entries, then the entry; so many at the end -/
def gap : Nat → List CpInfo → List CpInfo
  | 0, r => r
  | n + 1, r => .unusable :: gap n r
def poolList (es : List (Nat × CpInfo)) (last : Nat) : List CpInfo := es.foldr (fun e r => gap e.1 (e.2 :: r)) (gap last [])
def pool (es : List (Nat × CpInfo)) (last : Nat) : Array CpInfo := ⟨poolList es last⟩
def fileOf (pool : Array CpInfo) (this : Nat) (attrs : Array Attribute := #[]) (ms : Array MethodInfo := #[]) (fl : Nat := 33) (sup : Nat := 0) (ifs : Array Nat := #[]) (fds : Array FieldInfo := #[]) : ClassFile where
  minorVersion := 0
  majorVersion := 65
  constantPool := pool
  accessFlags := fl
  thisClass := this
  superClass := sup
  interfaces := ifs
  fields := fds
  methods := ms
  attributes := attrs
def plain (name : String) (sup : Option ClassId) : Class where
  name := name
  kind := .ordinary
  loader := none
  accessFlags := 33
  super := sup
  interfaces := #[]
  cf := none
  fields := #[]
  methods := #[]
  instanceTypes := #[]
  staticTypes := #[]
  resolved := #[]
  callSites := []
  init := .initialized
  statics := none
  mirror := none

def pool0 : Array CpInfo := pool [(5, u "<init>"), (0, u "()V"), (1, .class_ 10), (1, u "java/lang/Object")] 113

def k0c0 : Code := { maxStack := 0, maxLocals := 1, code := object_method_1_code, exceptionTable := #[], attributes := #[] }
def k0m0 : Method := { name := "<init>", desc := "()V", sig := { parameters := [], returnType := none }, accessFlags := 1, code := some k0c0 }
/-- java/lang/Object -/
def k0 : Class := { plain "java/lang/Object" none with
  accessFlags := 33
  interfaces := #[]
  cf := some (fileOf pool0 8 #[] #[{ accessFlags := 1, nameIndex := 5, descriptorIndex := 6, attributes := #[] }] 33 0 #[] #[])
  fields := #[]
  methods := #[k0m0]
  instanceTypes := #[]
  staticTypes := #[]
  resolved := Array.replicate 124 none
  statics := none }

def pool1 : Array CpInfo := pool [(2, .class_ 4), (1, u "java/lang/Object"), (0, u "<init>"), (0, u "()V"), (0, .class_ 8), (0, u "com/example/lean_wiring/leanwiring/Offer$Cost"), (0, .methodref 7 10), (0, .nameAndType 5 11), (0, u "(IIII)V"), (0, .methodref 7 13), (0, .nameAndType 14 15), (0, u "withoutChecks"), (0, u "()Lcom/example/lean_wiring/leanwiring/Offer$Cost;"), (0, .methodref 7 17), (0, .nameAndType 18 19), (0, u "checks"), (0, u "()I"), (0, .methodref 7 21), (0, .nameAndType 22 19), (0, u "copies"), (0, .methodref 7 24), (0, .nameAndType 25 19), (0, u "conversions"), (0, .methodref 7 27), (0, .nameAndType 28 19), (0, u "supertypes"), (0, .class_ 30), (0, u "com/example/lean_wiring/leanwiring/CostWithoutChecksPinLaw"), (2, u "law"), (0, u "(IIIII)Z")] 7

def k1m0 : Method := { name := "<init>", desc := "()V", sig := { parameters := [], returnType := none }, accessFlags := 2, code := none }
def k1c1 : Code := { maxStack := 6, maxLocals := 10, code := code, exceptionTable := #[], attributes := #[] }
def k1m1 : Method := { name := "law", desc := "(IIIII)Z", sig := { parameters := [.int, .int, .int, .int, .int], returnType := some .boolean }, accessFlags := 9, code := some k1c1 }
/-- com/example/lean_wiring/leanwiring/CostWithoutChecksPinLaw -/
def k1 : Class := { plain "com/example/lean_wiring/leanwiring/CostWithoutChecksPinLaw" (some 0) with
  accessFlags := 49
  interfaces := #[]
  cf := some (fileOf pool1 29 #[] #[{ accessFlags := 2, nameIndex := 5, descriptorIndex := 6, attributes := #[] }, { accessFlags := 9, nameIndex := 33, descriptorIndex := 34, attributes := #[] }] 49 2 #[] #[])
  fields := #[]
  methods := #[k1m0, k1m1]
  instanceTypes := #[]
  staticTypes := #[]
  resolved := Array.replicate 42 none
  statics := none }

def pool2 : Array CpInfo := pool [(1, .methodref 2 3), (0, .class_ 4), (0, .nameAndType 5 6), (0, u "java/lang/Object"), (0, u "<init>"), (0, u "()V"), (0, .class_ 8), (0, u "java/lang/Record")] 13

def k2c0 : Code := { maxStack := 1, maxLocals := 1, code := jdk_30_method_1_code, exceptionTable := #[], attributes := #[] }
def k2m0 : Method := { name := "<init>", desc := "()V", sig := { parameters := [], returnType := none }, accessFlags := 4, code := some k2c0 }
/-- java/lang/Record -/
def k2 : Class := { plain "java/lang/Record" (some 0) with
  accessFlags := 1057
  interfaces := #[]
  cf := some (fileOf pool2 7 #[] #[{ accessFlags := 4, nameIndex := 5, descriptorIndex := 6, attributes := #[] }] 1057 2 #[] #[])
  fields := #[]
  methods := #[k2m0]
  instanceTypes := #[]
  staticTypes := #[]
  resolved := Array.replicate 22 none
  statics := none }

def pool3 : Array CpInfo := pool [(1, .class_ 2), (0, u "java/lang/Comparable"), (0, .class_ 4), (0, u "java/lang/Object")] 7

/-- java/lang/Comparable -/
def k3 : Class := { plain "java/lang/Comparable" (some 0) with
  accessFlags := 1537
  interfaces := #[]
  cf := some (fileOf pool3 1 #[] #[] 1537 3 #[] #[])
  fields := #[]
  methods := #[]
  instanceTypes := #[]
  staticTypes := #[]
  resolved := Array.replicate 12 none
  statics := none }

def pool4 : Array CpInfo := pool [(1, .methodref 2 3), (0, .class_ 4), (0, .nameAndType 5 6), (0, u "java/lang/Record"), (0, u "<init>"), (0, u "()V"), (0, .fieldref 8 9), (0, .class_ 10), (0, .nameAndType 11 12), (0, u "com/example/lean_wiring/leanwiring/Offer$Cost"), (0, u "checks"), (0, u "I"), (0, .fieldref 8 14), (0, .nameAndType 15 12), (0, u "copies"), (0, .fieldref 8 17), (0, .nameAndType 18 12), (0, u "conversions"), (0, .fieldref 8 20), (0, .nameAndType 21 12), (0, u "supertypes"), (4, .methodref 8 27), (0, .nameAndType 5 28), (0, u "(IIII)V"), (8, u "SUPERTYPE"), (0, u "Lcom/example/lean_wiring/leanwiring/Offer$Cost;"), (39, u "()I"), (35, u "NONE"), (2, u "CHECK"), (2, u "CONVERSION"), (2, u "COPY"), (0, .class_ 125), (0, u "java/lang/Comparable"), (4, u "withoutChecks"), (0, u "()Lcom/example/lean_wiring/leanwiring/Offer$Cost;"), (12, .class_ 145), (0, u "com/example/lean_wiring/leanwiring/Offer")] 38

def k4c0 : Code := { maxStack := 2, maxLocals := 5, code := prog_103_method_1_code, exceptionTable := #[], attributes := #[] }
def k4m0 : Method := { name := "<init>", desc := "(IIII)V", sig := { parameters := [.int, .int, .int, .int], returnType := none }, accessFlags := 1, code := some k4c0 }
def k4c1 : Code := { maxStack := 6, maxLocals := 1, code := prog_103_method_3_code, exceptionTable := #[], attributes := #[] }
def k4m1 : Method := { name := "withoutChecks", desc := "()Lcom/example/lean_wiring/leanwiring/Offer$Cost;", sig := { parameters := [], returnType := some (.object "com/example/lean_wiring/leanwiring/Offer$Cost") }, accessFlags := 0, code := some k4c1 }
def k4c2 : Code := { maxStack := 1, maxLocals := 1, code := prog_103_method_11_code, exceptionTable := #[], attributes := #[] }
def k4m2 : Method := { name := "checks", desc := "()I", sig := { parameters := [], returnType := some .int }, accessFlags := 1, code := some k4c2 }
def k4c3 : Code := { maxStack := 1, maxLocals := 1, code := prog_103_method_12_code, exceptionTable := #[], attributes := #[] }
def k4m3 : Method := { name := "copies", desc := "()I", sig := { parameters := [], returnType := some .int }, accessFlags := 1, code := some k4c3 }
def k4c4 : Code := { maxStack := 1, maxLocals := 1, code := prog_103_method_13_code, exceptionTable := #[], attributes := #[] }
def k4m4 : Method := { name := "conversions", desc := "()I", sig := { parameters := [], returnType := some .int }, accessFlags := 1, code := some k4c4 }
def k4c5 : Code := { maxStack := 1, maxLocals := 1, code := prog_103_method_14_code, exceptionTable := #[], attributes := #[] }
def k4m5 : Method := { name := "supertypes", desc := "()I", sig := { parameters := [], returnType := some .int }, accessFlags := 1, code := some k4c5 }
/-- com/example/lean_wiring/leanwiring/Offer$Cost -/
def k4 : Class := { plain "com/example/lean_wiring/leanwiring/Offer$Cost" (some 2) with
  accessFlags := 49
  interfaces := #[3]
  cf := some (fileOf pool4 8 #[.nestHost 144] #[{ accessFlags := 1, nameIndex := 5, descriptorIndex := 28, attributes := #[] }, { accessFlags := 0, nameIndex := 130, descriptorIndex := 131, attributes := #[] }, { accessFlags := 1, nameIndex := 11, descriptorIndex := 78, attributes := #[] }, { accessFlags := 1, nameIndex := 15, descriptorIndex := 78, attributes := #[] }, { accessFlags := 1, nameIndex := 18, descriptorIndex := 78, attributes := #[] }, { accessFlags := 1, nameIndex := 21, descriptorIndex := 78, attributes := #[] }] 49 2 #[124] #[{ accessFlags := 18, nameIndex := 11, descriptorIndex := 12, attributes := #[] }, { accessFlags := 18, nameIndex := 15, descriptorIndex := 12, attributes := #[] }, { accessFlags := 18, nameIndex := 18, descriptorIndex := 12, attributes := #[] }, { accessFlags := 18, nameIndex := 21, descriptorIndex := 12, attributes := #[] }, { accessFlags := 24, nameIndex := 114, descriptorIndex := 38, attributes := #[] }, { accessFlags := 24, nameIndex := 117, descriptorIndex := 38, attributes := #[] }, { accessFlags := 24, nameIndex := 120, descriptorIndex := 38, attributes := #[] }, { accessFlags := 24, nameIndex := 123, descriptorIndex := 38, attributes := #[] }, { accessFlags := 24, nameIndex := 37, descriptorIndex := 38, attributes := #[] }])
  fields := #[{ name := "checks", type := .int, accessFlags := 18, slot := 0, constantValue := 0 }, { name := "copies", type := .int, accessFlags := 18, slot := 1, constantValue := 0 }, { name := "conversions", type := .int, accessFlags := 18, slot := 2, constantValue := 0 }, { name := "supertypes", type := .int, accessFlags := 18, slot := 3, constantValue := 0 }, { name := "NONE", type := (.object "com/example/lean_wiring/leanwiring/Offer$Cost"), accessFlags := 24, slot := 0, constantValue := 0 }, { name := "CHECK", type := (.object "com/example/lean_wiring/leanwiring/Offer$Cost"), accessFlags := 24, slot := 1, constantValue := 0 }, { name := "CONVERSION", type := (.object "com/example/lean_wiring/leanwiring/Offer$Cost"), accessFlags := 24, slot := 2, constantValue := 0 }, { name := "COPY", type := (.object "com/example/lean_wiring/leanwiring/Offer$Cost"), accessFlags := 24, slot := 3, constantValue := 0 }, { name := "SUPERTYPE", type := (.object "com/example/lean_wiring/leanwiring/Offer$Cost"), accessFlags := 24, slot := 4, constantValue := 0 }]
  methods := #[k4m0, k4m1, k4m2, k4m3, k4m4, k4m5]
  instanceTypes := #[.int, .int, .int, .int]
  staticTypes := #[(.object "com/example/lean_wiring/leanwiring/Offer$Cost"), (.object "com/example/lean_wiring/leanwiring/Offer$Cost"), (.object "com/example/lean_wiring/leanwiring/Offer$Cost"), (.object "com/example/lean_wiring/leanwiring/Offer$Cost"), (.object "com/example/lean_wiring/leanwiring/Offer$Cost")]
  resolved := Array.replicate 184 none
  statics := none }

def pool5 : Array CpInfo := pool [(1, u "java/lang/Cloneable"), (0, .class_ 1), (0, u "java/lang/Object"), (0, .class_ 3)] 3

/-- java/lang/Cloneable -/
def k5 : Class := { plain "java/lang/Cloneable" (some 0) with
  accessFlags := 1537
  interfaces := #[]
  cf := some (fileOf pool5 2 #[] #[] 1537 4 #[] #[])
  fields := #[]
  methods := #[]
  instanceTypes := #[]
  staticTypes := #[]
  resolved := Array.replicate 8 none
  statics := none }

def pool6 : Array CpInfo := pool [(1, u "java/io/Serializable"), (0, .class_ 1), (0, u "java/lang/Object"), (0, .class_ 3)] 3

/-- java/io/Serializable -/
def k6 : Class := { plain "java/io/Serializable" (some 0) with
  accessFlags := 1537
  interfaces := #[]
  cf := some (fileOf pool6 2 #[] #[] 1537 4 #[] #[])
  fields := #[]
  methods := #[]
  instanceTypes := #[]
  staticTypes := #[]
  resolved := Array.replicate 8 none
  statics := none }

/-- the primitive byte -/
def k7 : Class := { plain "byte" none with kind := .primitive 'B', accessFlags := 0x411 }
/-- [B -/
def k8 : Class := { plain "[B" (some 0) with kind := .array 7 .byte, interfaces := #[5, 6], accessFlags := 1041 }

def heap : Heap := #[]
def classes : Array Class := #[k0, k1, k2, k3, k4, k5, k6, k7, k8]
def interned : List (Array UInt16 × Addr) := []
def slotsUsed : Nat := 0
def theMethod : MethodId := ⟨1, 1⟩
def args0 : Array Value := #[.int 1, .int 2, .int 3, .int 4, .int 0]
def aboutOver (below : List Frame) : State where
  vm := { classes := classes, interned := interned.toArray }
  heap := heap
  slotsUsed := slotsUsed
  threads := #[{ frames := .invoking theMethod args0 :: below }]
def below0 : List Frame := [.native { method := ⟨0, 0⟩, args := #[] }]
def about1 : State := aboutOver below0
def p0 : Program := .bare "" "" ""
def e0 : Env := launch0.env 0 0 0
theorem w_frames : about1.frames = Frame.invoking theMethod args0 :: below0 := rfl
set_option maxRecDepth 65536 in
theorem w_args : argsFit about1.vm theMethod args0 = true := by decide +kernel
set_option maxRecDepth 65536 in
theorem w_heap : heapFits about1 = true := by decide +kernel
set_option maxRecDepth 65536 in
theorem w_runnable : about1.curStatus? = some .runnable := by decide +kernel
set_option maxRecDepth 65536 in
theorem w_alone : about1.alone = true := by decide +kernel
set_option maxRecDepth 65536 in
theorem w_named : about1.methodNamed? x = some theMethod := by decide +kernel
set_option maxRecDepth 65536 in
theorem w_hears : about1.hears theMethod below0 = true := by decide +kernel
set_option maxRecDepth 65536 in
theorem w_ripe : about1.ripe theMethod args0 below0 = true := by decide +kernel
theorem w_running : about1.status = .running := rfl
set_option maxRecDepth 65536 in
theorem w_room : about1.hasRoom e0.platform room_1 = true :=
  launch0.hasRoom_least _ room_1 (by decide +kernel) (by decide +kernel) (by decide +kernel) (by decide +kernel) (by decide +kernel) (by decide +kernel)
theorem allAtoms_all (ts : List Jvm.Cond) (a : Array Jvm.Value) (st : Jvm.State) : (allAtoms ts).before a st = ts.all (fun c => c.before a st) := by
  induction ts with
  | nil => rfl
  | cons c t ih =>
    show (Jvm.Cond.and c (allAtoms t)).before a st = _
    rw [Jvm.Cond.before_and, ih, List.all_cons]
def words1 : List Jvm.Cond := Jvm.Cond.code x code maxLocals ret :: tables_1
/-- a 'code' word, met by the world's own term for the bytes: nothing is compared byte by byte -/
theorem code_word {y : MethodName} {bytes : ByteArray} {mx : Nat} {rt : Option FieldType} {a : Array Value} {s : State} {m : MethodId} {meth : Method} {c : Code} (h1 : s.methodNamed? y = some m) (h2 : s.vm.method? m = some meth) (h3 : meth.code = some c) (h4 : c.code = bytes)
    (h5 : (c.maxLocals == mx && c.exceptionTable.isEmpty && decide (c.maxStack ≤ mostOperands) && decide (meth.sig.returnType = rt) && !meth.locks && decide (parseMethodDescriptor y.desc = some meth.sig)) = true) : (Jvm.Cond.code y bytes mx rt).before a s = true := by
  simp only [Bool.and_eq_true, beq_iff_eq, Bool.not_eq_true', decide_eq_true_eq] at h5
  obtain ⟨⟨⟨⟨⟨g1, g2⟩, g3⟩, g4⟩, g5⟩, g6⟩ := h5
  simp [Cond.before, Cond.holds, Cond.value, h1, h2, h3, h4, g1, g2, g3, g4, g5, g6]
def isCode : Jvm.Cond → Bool
  | .code _ _ _ _ => true
  | _ => false
theorem all_split {L : List Jvm.Cond} {P : Jvm.Cond → Bool} (h1 : L.all (fun c => isCode c || P c) = true) (h2 : ∀ c ∈ L.filter isCode, P c = true) : L.all P = true := by
  refine List.all_eq_true.mpr fun c hc => ?_
  have h := List.all_eq_true.mp h1 c hc
  rcases Bool.eq_false_or_eq_true (isCode c) with hi | hi
  · exact h2 c (List.mem_filter.mpr ⟨hc, hi⟩)
  · simpa [hi] using h
set_option maxRecDepth 65536 in
theorem w_c0 : (Jvm.Cond.code x code maxLocals ret).before args0 about1 = true := code_word (m := ⟨1, 1⟩) (meth := k1m1) (c := k1c1) (by decide +kernel) rfl rfl rfl (by decide +kernel)
set_option maxRecDepth 65536 in
theorem w_c1 : (Jvm.Cond.code ({ cls := "com/example/lean_wiring/leanwiring/Offer$Cost", name := "<init>", desc := "(IIII)V" } : Jvm.MethodName) prog_103_method_1_code (5 : Nat) (Option.none : Option Jvm.ClassFile.FieldType)).before args0 about1 = true := code_word (m := ⟨4, 0⟩) (meth := k4m0) (c := k4c0) (by decide +kernel) rfl rfl rfl (by decide +kernel)
set_option maxRecDepth 65536 in
theorem w_c2 : (Jvm.Cond.code ({ cls := "java/lang/Record", name := "<init>", desc := "()V" } : Jvm.MethodName) jdk_30_method_1_code (1 : Nat) (Option.none : Option Jvm.ClassFile.FieldType)).before args0 about1 = true := code_word (m := ⟨2, 0⟩) (meth := k2m0) (c := k2c0) (by decide +kernel) rfl rfl rfl (by decide +kernel)
set_option maxRecDepth 65536 in
theorem w_c3 : (Jvm.Cond.code ({ cls := "java/lang/Object", name := "<init>", desc := "()V" } : Jvm.MethodName) object_method_1_code (1 : Nat) (Option.none : Option Jvm.ClassFile.FieldType)).before args0 about1 = true := code_word (m := ⟨0, 0⟩) (meth := k0m0) (c := k0c0) (by decide +kernel) rfl rfl rfl (by decide +kernel)
set_option maxRecDepth 65536 in
theorem w_c4 : (Jvm.Cond.code ({ cls := "com/example/lean_wiring/leanwiring/Offer$Cost", name := "withoutChecks", desc := "()Lcom/example/lean_wiring/leanwiring/Offer$Cost;" } : Jvm.MethodName) prog_103_method_3_code (1 : Nat) (Option.some (Jvm.ClassFile.FieldType.object "com/example/lean_wiring/leanwiring/Offer$Cost"))).before args0 about1 = true := code_word (m := ⟨4, 1⟩) (meth := k4m1) (c := k4c1) (by decide +kernel) rfl rfl rfl (by decide +kernel)
set_option maxRecDepth 65536 in
theorem w_c5 : (Jvm.Cond.code ({ cls := "com/example/lean_wiring/leanwiring/Offer$Cost", name := "checks", desc := "()I" } : Jvm.MethodName) prog_103_method_11_code (1 : Nat) (Option.some Jvm.ClassFile.FieldType.int)).before args0 about1 = true := code_word (m := ⟨4, 2⟩) (meth := k4m2) (c := k4c2) (by decide +kernel) rfl rfl rfl (by decide +kernel)
set_option maxRecDepth 65536 in
theorem w_c6 : (Jvm.Cond.code ({ cls := "com/example/lean_wiring/leanwiring/Offer$Cost", name := "copies", desc := "()I" } : Jvm.MethodName) prog_103_method_12_code (1 : Nat) (Option.some Jvm.ClassFile.FieldType.int)).before args0 about1 = true := code_word (m := ⟨4, 3⟩) (meth := k4m3) (c := k4c3) (by decide +kernel) rfl rfl rfl (by decide +kernel)
set_option maxRecDepth 65536 in
theorem w_c7 : (Jvm.Cond.code ({ cls := "com/example/lean_wiring/leanwiring/Offer$Cost", name := "conversions", desc := "()I" } : Jvm.MethodName) prog_103_method_13_code (1 : Nat) (Option.some Jvm.ClassFile.FieldType.int)).before args0 about1 = true := code_word (m := ⟨4, 4⟩) (meth := k4m4) (c := k4c4) (by decide +kernel) rfl rfl rfl (by decide +kernel)
set_option maxRecDepth 65536 in
theorem w_c8 : (Jvm.Cond.code ({ cls := "com/example/lean_wiring/leanwiring/Offer$Cost", name := "supertypes", desc := "()I" } : Jvm.MethodName) prog_103_method_14_code (1 : Nat) (Option.some Jvm.ClassFile.FieldType.int)).before args0 about1 = true := code_word (m := ⟨4, 5⟩) (meth := k4m5) (c := k4c5) (by decide +kernel) rfl rfl rfl (by decide +kernel)
def codes1 : List Jvm.Cond := [Jvm.Cond.code x code maxLocals ret, Jvm.Cond.code ({ cls := "com/example/lean_wiring/leanwiring/Offer$Cost", name := "<init>", desc := "(IIII)V" } : Jvm.MethodName) prog_103_method_1_code (5 : Nat) (Option.none : Option Jvm.ClassFile.FieldType), Jvm.Cond.code ({ cls := "java/lang/Record", name := "<init>", desc := "()V" } : Jvm.MethodName) jdk_30_method_1_code (1 : Nat) (Option.none : Option Jvm.ClassFile.FieldType), Jvm.Cond.code ({ cls := "java/lang/Object", name := "<init>", desc := "()V" } : Jvm.MethodName) object_method_1_code (1 : Nat) (Option.none : Option Jvm.ClassFile.FieldType), Jvm.Cond.code ({ cls := "com/example/lean_wiring/leanwiring/Offer$Cost", name := "withoutChecks", desc := "()Lcom/example/lean_wiring/leanwiring/Offer$Cost;" } : Jvm.MethodName) prog_103_method_3_code (1 : Nat) (Option.some (Jvm.ClassFile.FieldType.object "com/example/lean_wiring/leanwiring/Offer$Cost")), Jvm.Cond.code ({ cls := "com/example/lean_wiring/leanwiring/Offer$Cost", name := "checks", desc := "()I" } : Jvm.MethodName) prog_103_method_11_code (1 : Nat) (Option.some Jvm.ClassFile.FieldType.int), Jvm.Cond.code ({ cls := "com/example/lean_wiring/leanwiring/Offer$Cost", name := "copies", desc := "()I" } : Jvm.MethodName) prog_103_method_12_code (1 : Nat) (Option.some Jvm.ClassFile.FieldType.int), Jvm.Cond.code ({ cls := "com/example/lean_wiring/leanwiring/Offer$Cost", name := "conversions", desc := "()I" } : Jvm.MethodName) prog_103_method_13_code (1 : Nat) (Option.some Jvm.ClassFile.FieldType.int), Jvm.Cond.code ({ cls := "com/example/lean_wiring/leanwiring/Offer$Cost", name := "supertypes", desc := "()I" } : Jvm.MethodName) prog_103_method_14_code (1 : Nat) (Option.some Jvm.ClassFile.FieldType.int)]
set_option maxRecDepth 65536 in
theorem codes_eq : words1.filter isCode = codes1 := rfl
theorem w_codes : ∀ c ∈ words1.filter isCode, c.before args0 about1 = true := by
  rw [codes_eq]
  intro c hc
  simp only [codes1, List.mem_cons, List.not_mem_nil, or_false] at hc
  rcases hc with rfl | rfl | rfl | rfl | rfl | rfl | rfl | rfl | rfl
  · exact w_c0
  · exact w_c1
  · exact w_c2
  · exact w_c3
  · exact w_c4
  · exact w_c5
  · exact w_c6
  · exact w_c7
  · exact w_c8
set_option maxRecDepth 65536 in
theorem w_t1 : (words1.take 24).all (fun c => isCode c || c.before args0 about1) = true := by decide +kernel
set_option maxRecDepth 65536 in
theorem w_t2 : ((words1.drop 24).take 24).all (fun c => isCode c || c.before args0 about1) = true := by decide +kernel
set_option maxRecDepth 65536 in
theorem w_t3 : ((words1.drop 24).drop 24).all (fun c => isCode c || c.before args0 about1) = true := by decide +kernel
theorem w_tables : (allAtoms (Jvm.Cond.code x code maxLocals ret :: tables_1)).before args0 about1 = true := by
  rw [allAtoms_all]
  show words1.all (fun c => c.before args0 about1) = true
  refine all_split ?_ w_codes
  rw [← List.take_append_drop 24 words1, List.all_append, w_t1, ← List.take_append_drop 24 (words1.drop 24), List.all_append, w_t2, w_t3]
  rfl
set_option maxRecDepth 65536 in
theorem w_case : (Jvm.Cond.and given_1 narrow_1).before args0 about1 = true := by decide +kernel
theorem w_applies : (headSpec (Jvm.Cond.code x code maxLocals ret :: tables_1) room_1).applies x e0.platform about1 = true :=
  (Spec.applies_iff w_frames).mpr ⟨w_running, w_runnable, w_alone, w_named, w_hears, w_ripe, w_room, w_tables⟩
theorem atStart : AtStart classFile x code maxLocals ret World_1 tables_1 room_1 Calls_1 rest_1 Pre_1 launch0 p0 e0 about1 theMethod args0 below0 :=
  ⟨lists_1, trivial, launch0.admits_env _ _ _, launch0.least_env, fairChoices_fair.cas, fairChoices_fair.clock, w_frames, w_args, w_heap, w_applies, trivial, trivial, w_case⟩
end start1
theorem witness_1 : WitnessClaimed_1 := ⟨start1.p0, start1.e0, start1.about1, start1.theMethod, start1.args0, start1.below0, start1.atStart⟩
end Jvm.Pilot.@@N@@
