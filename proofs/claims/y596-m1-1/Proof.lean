import JvmDerived
import JvmDerived.Pilot.@@N@@Statement
import JvmDerived.Pilot.@@N@@Code
set_option linter.unusedVariables false
set_option linter.unusedSimpArgs false
namespace Jvm.OwnKit
open Sem ClassFile Op Lib Jvm.Stand Jvm.Free Jvm.LawKit Jvm.RoadKit
section OwnGo
variable {p : Program} {l : Launch} {e : Env} {R : Room} {s : State} {m : MethodId} {args : Array Value} {below : List Frame} {meth : Method} {c : Code} {T : State} {locs : List Loc} {cells slots : Nat} {Z : State} {a0 : Array Value} {h : Heap}
/-- from the state t the run comes to an end of which P holds -/
def OGo (tb : Tables) (e : Env) (below : List Frame) (P : Outcome → State → Prop) (t : State) : Prop :=
  ∃ s₂ o, Steps tb e below t s₂ ∧ s₂.status = .running ∧ Ended s₂ below o ∧ P o s₂
theorem ogo {tb : Tables} {P : Outcome → State → Prop} {t t' : State} (k : ∀ u, Steps tb e below t' u → Steps tb e below t u) (g : OGo tb e below P t') : OGo tb e below P t := by
  obtain ⟨s₂, o, h1, h2⟩ := g
  exact ⟨s₂, o, k _ h1, h2⟩
theorem ogoT {tb : Tables} {P : Outcome → State → Prop} {t t' : State} (k : Steps tb e below t t') (g : OGo tb e below P t') : OGo tb e below P t := ogo (fun _ q => k.trans q) g
/-- the end of a body: returned, the heap as Q says, the frame kept -/
abbrev OFin (s : State) (Q : Option Value → Heap → List Loc → Prop) (K N : Nat) : Outcome → State → Prop :=
  fun o U => ∃ v L, o = .returned v ∧ Q v U.heap L ∧ FrameEnd s o U L K N
/-- a body's contract -/
def OMet (l : Launch) (Z : State) (y : MethodName) (bytes : ByteArray) (maxL : Nat) (ret : Option FieldType) (rm : Room) (as : Array Value) (h : Heap) (Q : Option Value → Heap → List Loc → Prop) : Prop :=
  ∀ ws : List Jvm.Cond, MetFree l y (head1 (Jvm.Cond.code y bytes maxL ret :: ws) rm) (fun a U => a = as ∧ Z.Warmed39 U.vm ∧ U.heap = h) (fun _ _ _ _ _ => True) (fun _ U o U' => ∃ v L, o = .returned v ∧ Q v U'.heap L ∧ FrameEnd U o U' L rm.cells rm.slots)
/-- a body that returns w and writes nothing -/
abbrev OPure (w : Option Value) (h : Heap) : Option Value → Heap → List Loc → Prop := fun v h' L => v = w ∧ L = [] ∧ h' = h
theorem oret (X : Stand p l e R s m args below meth c T locs cells slots) (hx : p.tables.exec = Jvm.exec) (hlk : meth.locks = false) {pc : Nat} {Ls : Array Slot} {w : Value} {t : FieldType} {i : Instr} {rest : List Value} (hret : meth.sig.returnType = some t) (hn : narrow t w = w)
    (hi : (i = .ireturn ∧ (t = .int ∨ t = .boolean ∨ t = .byte ∨ t = .char ∨ t = .short) ∧ ∃ z, w = .int z) ∨ (i = .lreturn ∧ t = .long ∧ ∃ z, w = .long z) ∨ (i = .dreturn ∧ t = .double ∧ ∃ z, w = .double z) ∨ (i = .freturn ∧ t = .float ∧ ∃ z, w = .float z) ∨ (i = .areturn ∧ t.isReference = true ∧ w.isRef = true))
    (hd : decode c.code pc = .ok (i, 1)) {K N : Nat} (hk : cells ≤ K) (hs : slots ≤ N) {Q : Option Value → Heap → List Loc → Prop} (hQ : Q (some w) T.heap locs) :
    OGo p.tables e below (OFin s Q K N) (T.setTop (mkF m pc Ls (w :: rest))) := by
  obtain ⟨fs, hr, hrun, hended, hW, hsame⟩ := X.leave (v := some w) (fun h => by rw [hret] at h; cases h) hlk
  exact ⟨_, _, retOut X hx hret hn hi hd hr, hrun, hended, _, _, rfl, hQ, ⟨_, rfl⟩, hW, hsame.mono hk hs⟩
theorem oretV (X : Stand p l e R s m args below meth c T locs cells slots) (hx : p.tables.exec = Jvm.exec) (hlk : meth.locks = false) {pc : Nat} {Ls : Array Slot} (hret : meth.sig.returnType = none)
    (hd : decode c.code pc = .ok (.return_, 1)) {K N : Nat} (hk : cells ≤ K) (hs : slots ≤ N) {Q : Option Value → Heap → List Loc → Prop} (hQ : Q none T.heap locs) :
    OGo p.tables e below (OFin s Q K N) (T.setTop (mkF m pc Ls [])) := by
  obtain ⟨fs, hr, hrun, hended, hW, hsame⟩ := X.leave (v := none) (fun _ => rfl) hlk
  exact ⟨_, _, X.returnOut hx hret hd hr, hrun, hended, _, _, rfl, hQ, ⟨_, rfl⟩, hW, hsame.mono hk hs⟩
abbrev OPlain (y : MethodName) : Prop := y.cls ≠ "java/lang/invoke/MethodHandle" ∧ y.cls ≠ "java/lang/invoke/VarHandle"
/-- a static call by its contract -/
theorem ocallQ (X : Stand p l e R s m args below meth c T locs cells slots) (hx : p.tables.exec = Jvm.exec) (hZ : Z.Warmed39 s.vm) (eT : T.heap = h) {own : String} {index : Nat} {y : MethodName} {bytes : ByteArray} {maxL : Nat} {ret : Option FieldType} {rm : Room} {as : Array Value} {Q : Option Value → Heap → List Loc → Prop} (hM : OMet l Z y bytes maxL ret rm as h Q)
    (hown : s.vm.findClass own = some m.cls) (w1 : (Jvm.Cond.methodLink own index y).before a0 Z = true) (w2 : (Jvm.Cond.static y).before a0 Z = true) (w3 : (Jvm.Cond.initialized y.cls).before a0 Z = true) (w4 : (Jvm.Cond.code y bytes maxL ret).before a0 Z = true) (hy : OPlain y)
    {g : JFrame} (hg : g.method = m) (hsize : g.locals.size = c.maxLocals) (argsL rest : List Value) (has : argsL.toArray = as) (hlen : ∀ sig, parseMethodDescriptor y.desc = some sig → argsL.length = sig.parameters.length) (hstack : g.stack = argsL.reverse ++ rest) (hdg : decode c.code g.pc = .ok (.invokestatic index, 3))
    (W : Nat) (hW : 2 * g.monitorRoom + (rest.map fun v => v.category).sum ≤ W) (hf : rm.frames + 1 ≤ R.frames) (hl : W + (maxL + 11) + rm.locals ≤ R.locals) (hc : cells + rm.cells ≤ R.cells) (hs : slots + rm.slots ≤ R.slots) :
    ∃ (v : Option Value) (T' : State) (h' : Heap) (L : List Loc), T'.heap = h' ∧ Q v h' L ∧ Stand p l e R s m args below meth c T' (locs ++ L) (cells + rm.cells) (slots + rm.slots) ∧
      ∀ target, Steps p.tables e below (T'.setTop { g with pc := g.pc + 3, stack := v.toList ++ rest }) target → Steps p.tables e below (T.setTop g) target := by
  obtain ⟨v, vm₁, ⟨T', L', k', n'⟩, -, X', ⟨L, hQ, l1, l2, l3⟩, st⟩ := Jvm.LawKit.callS X hx (y := y) hown (mvT hZ w1) (mvT hZ w2) (mvT hZ w3) (mvT hZ w4) hy (backOf (W := W) (hM []) hZ w4 w3 hf hl) (g := g) hg hsize (argsL := argsL) (rest := rest) hlen hstack hW hdg (fun _ _ => ⟨has, eT, hc, hs⟩)
  dsimp only [Pt.U, Pt.locs, Pt.cells, Pt.slots] at X' l1 l2 l3 st hQ
  subst l1 l2 l3
  exact ⟨v, T', _, L, rfl, hQ, X', st⟩
/-- a static call of a body that writes nothing -/
theorem ocallP (X : Stand p l e R s m args below meth c T locs cells slots) (hx : p.tables.exec = Jvm.exec) (hZ : Z.Warmed39 s.vm) (eT : T.heap = h) {own : String} {index : Nat} {y : MethodName} {bytes : ByteArray} {maxL : Nat} {ret : Option FieldType} {rm : Room} {as : Array Value} {w : Option Value} (hM : OMet l Z y bytes maxL ret rm as h (OPure w h))
    (hown : s.vm.findClass own = some m.cls) (w1 : (Jvm.Cond.methodLink own index y).before a0 Z = true) (w2 : (Jvm.Cond.static y).before a0 Z = true) (w3 : (Jvm.Cond.initialized y.cls).before a0 Z = true) (w4 : (Jvm.Cond.code y bytes maxL ret).before a0 Z = true) (hy : OPlain y)
    {g : JFrame} (hg : g.method = m) (hsize : g.locals.size = c.maxLocals) (argsL rest : List Value) (has : argsL.toArray = as) (hlen : ∀ sig, parseMethodDescriptor y.desc = some sig → argsL.length = sig.parameters.length) (hstack : g.stack = argsL.reverse ++ rest) (hdg : decode c.code g.pc = .ok (.invokestatic index, 3))
    (W : Nat) (hW : 2 * g.monitorRoom + (rest.map fun v => v.category).sum ≤ W) (hf : rm.frames + 1 ≤ R.frames) (hl : W + (maxL + 11) + rm.locals ≤ R.locals) (hc : cells + rm.cells ≤ R.cells) (hs : slots + rm.slots ≤ R.slots) (z1 : rm.cells = 0) (z2 : rm.slots = 0) :
    ∃ T' : State, Stand p l e R s m args below meth c T' locs cells slots ∧ T'.heap = h ∧
      ∀ target, Steps p.tables e below (T'.setTop { g with pc := g.pc + 3, stack := w.toList ++ rest }) target → Steps p.tables e below (T.setTop g) target := by
  obtain ⟨v, T', h', L, e2, ⟨rfl, rfl, e'⟩, X', st⟩ := ocallQ X hx hZ eT hM hown w1 w2 w3 w4 hy hg hsize argsL rest has hlen hstack hdg W hW hf hl hc hs
  rw [z1, z2, List.append_nil] at X'
  exact ⟨T', X', e2.trans e', st⟩
/-- an instance call by its contract -/
theorem ovirtQ (X : Stand p l e R s m args below meth c T locs cells slots) (hx : p.tables.exec = Jvm.exec) (hZ : Z.Warmed39 s.vm) (eT : T.heap = h) {own C : String} {index : Nat} {y : MethodName} {bytes : ByteArray} {maxL : Nat} {ret : Option FieldType} {rm : Room} {as : Array Value} {Q : Option Value → Heap → List Loc → Prop} (hM : OMet l Z y bytes maxL ret rm as h Q)
    (hown : s.vm.findClass own = some m.cls) (w1 : (Jvm.Cond.methodLink own index y).before a0 Z = true) (w2 : (Jvm.Cond.declares y).before a0 Z = true) (w3 : (Jvm.Cond.selects C y y).before a0 Z = true) (w4 : (Jvm.Cond.instanceMethod y).before a0 Z = true) (w5 : (Jvm.Cond.initialized y.cls).before a0 Z = true) (w6 : (Jvm.Cond.code y bytes maxL ret).before a0 Z = true) (hy : OPlain y) {b : Addr} (E : Exa Z h b C)
    {g : JFrame} (hg : g.method = m) (hsize : g.locals.size = c.maxLocals) (argsL rest : List Value) (has : (.ref b :: argsL).toArray = as) (hlen : ∀ sig, parseMethodDescriptor y.desc = some sig → argsL.length = sig.parameters.length) (hstack : g.stack = argsL.reverse ++ .ref b :: rest) (hdg : decode c.code g.pc = .ok (.invokevirtual index, 3))
    (W : Nat) (hW : 2 * g.monitorRoom + (rest.map fun v => v.category).sum ≤ W) (hf : rm.frames + 1 ≤ R.frames) (hl : W + (maxL + 11) + rm.locals ≤ R.locals) (hc : cells + rm.cells ≤ R.cells) (hs : slots + rm.slots ≤ R.slots) :
    ∃ (v : Option Value) (T' : State) (h' : Heap) (L : List Loc), T'.heap = h' ∧ Q v h' L ∧ Stand p l e R s m args below meth c T' (locs ++ L) (cells + rm.cells) (slots + rm.slots) ∧
      ∀ target, Steps p.tables e below (T'.setTop { g with pc := g.pc + 3, stack := v.toList ++ rest }) target → Steps p.tables e below (T.setTop g) target := by
  obtain ⟨cq, kq, qa, -, qc⟩ := isOf (T := T) hZ eT E
  have w3' : (Jvm.Cond.selects C y y).before args s = true := mvT hZ w3
  obtain ⟨v, vm₁, ⟨T', L', k', n'⟩, -, X', ⟨L, hQ, l1, l2, l3⟩, st⟩ := X.virtualBack hx (y := y) (z := y) hown (mvT hZ w1) (mvT hZ w2) (notFace_of_selects w3') w3' (mvT hZ w4) hy (backOf (W := W) (hM []) hZ w6 w5 hf hl) qa qc (g := g) hg hsize (Steps.refl _) (argsL := argsL) (rest := rest) hlen hstack hW hdg (fun _ _ => ⟨has, eT, hc, hs⟩)
  dsimp only [Pt.U, Pt.locs, Pt.cells, Pt.slots] at X' l1 l2 l3 st hQ
  subst l1 l2 l3
  exact ⟨v, T', _, L, rfl, hQ, X', fun _ k => st.trans k⟩
theorem ovirtP (X : Stand p l e R s m args below meth c T locs cells slots) (hx : p.tables.exec = Jvm.exec) (hZ : Z.Warmed39 s.vm) (eT : T.heap = h) {own C : String} {index : Nat} {y : MethodName} {bytes : ByteArray} {maxL : Nat} {ret : Option FieldType} {rm : Room} {as : Array Value} {w : Option Value} (hM : OMet l Z y bytes maxL ret rm as h (OPure w h))
    (hown : s.vm.findClass own = some m.cls) (w1 : (Jvm.Cond.methodLink own index y).before a0 Z = true) (w2 : (Jvm.Cond.declares y).before a0 Z = true) (w3 : (Jvm.Cond.selects C y y).before a0 Z = true) (w4 : (Jvm.Cond.instanceMethod y).before a0 Z = true) (w5 : (Jvm.Cond.initialized y.cls).before a0 Z = true) (w6 : (Jvm.Cond.code y bytes maxL ret).before a0 Z = true) (hy : OPlain y) {b : Addr} (E : Exa Z h b C)
    {g : JFrame} (hg : g.method = m) (hsize : g.locals.size = c.maxLocals) (argsL rest : List Value) (has : (.ref b :: argsL).toArray = as) (hlen : ∀ sig, parseMethodDescriptor y.desc = some sig → argsL.length = sig.parameters.length) (hstack : g.stack = argsL.reverse ++ .ref b :: rest) (hdg : decode c.code g.pc = .ok (.invokevirtual index, 3))
    (W : Nat) (hW : 2 * g.monitorRoom + (rest.map fun v => v.category).sum ≤ W) (hf : rm.frames + 1 ≤ R.frames) (hl : W + (maxL + 11) + rm.locals ≤ R.locals) (hc : cells + rm.cells ≤ R.cells) (hs : slots + rm.slots ≤ R.slots) (z1 : rm.cells = 0) (z2 : rm.slots = 0) :
    ∃ T' : State, Stand p l e R s m args below meth c T' locs cells slots ∧ T'.heap = h ∧
      ∀ target, Steps p.tables e below (T'.setTop { g with pc := g.pc + 3, stack := w.toList ++ rest }) target → Steps p.tables e below (T.setTop g) target := by
  obtain ⟨v, T', h', L, e2, ⟨rfl, rfl, e'⟩, X', st⟩ := ovirtQ X hx hZ eT hM hown w1 w2 w3 w4 w5 w6 hy E hg hsize argsL rest has hlen hstack hdg W hW hf hl hc hs
  rw [z1, z2, List.append_nil] at X'
  exact ⟨T', X', e2.trans e', st⟩
/-- a constructor by its contract -/
theorem ospecQ (X : Stand p l e R s m args below meth c T locs cells slots) (hx : p.tables.exec = Jvm.exec) (hZ : Z.Warmed39 s.vm) (eT : T.heap = h) {own : String} {index : Nat} {y : MethodName} {bytes : ByteArray} {maxL : Nat} {rm : Room} {as : Array Value} {Q : Option Value → Heap → List Loc → Prop} (hM : OMet l Z y bytes maxL none rm as h Q)
    (hyi : y.name = "<init>") (hown : s.vm.findClass own = some m.cls) (w1 : (Jvm.Cond.methodLink own index y).before a0 Z = true) (w4 : (Jvm.Cond.instanceMethod y).before a0 Z = true) (w5 : (Jvm.Cond.initialized y.cls).before a0 Z = true) (w6 : (Jvm.Cond.code y bytes maxL none).before a0 Z = true) (hy : OPlain y) {b : Addr}
    {g : JFrame} (hg : g.method = m) (hsize : g.locals.size = c.maxLocals) (argsL rest : List Value) (has : (.ref b :: argsL).toArray = as) (hlen : ∀ sig, parseMethodDescriptor y.desc = some sig → argsL.length = sig.parameters.length) (hstack : g.stack = argsL.reverse ++ .ref b :: rest) (hdg : decode c.code g.pc = .ok (.invokespecial index, 3))
    (W : Nat) (hW : 2 * g.monitorRoom + (rest.map fun v => v.category).sum ≤ W) (hf : rm.frames + 1 ≤ R.frames) (hl : W + (maxL + 11) + rm.locals ≤ R.locals) (hc : cells + rm.cells ≤ R.cells) (hs : slots + rm.slots ≤ R.slots) :
    ∃ (v : Option Value) (T' : State) (h' : Heap) (L : List Loc), T'.heap = h' ∧ Q v h' L ∧ Stand p l e R s m args below meth c T' (locs ++ L) (cells + rm.cells) (slots + rm.slots) ∧
      ∀ target, Steps p.tables e below (T'.setTop { g with pc := g.pc + 3, stack := v.toList ++ rest }) target → Steps p.tables e below (T.setTop g) target := by
  obtain ⟨v, vm₁, ⟨T', L', k', n'⟩, -, X', ⟨L, hQ, l1, l2, l3⟩, st⟩ := X.specialBack hx (y := y) hyi hown (mvT hZ w1) (mvT hZ w4) (mvT hZ w6) hy (backOf (W := W) (hM []) hZ w6 w5 hf hl) (g := g) hg hsize (Steps.refl _) (a := b) (argsL := argsL) (rest := rest) hlen hstack hW hdg (fun _ _ => ⟨has, eT, hc, hs⟩)
  dsimp only [Pt.U, Pt.locs, Pt.cells, Pt.slots] at X' l1 l2 l3 st hQ
  subst l1 l2 l3
  exact ⟨v, T', _, L, rfl, hQ, X', fun _ k => st.trans k⟩
theorem onb {z : Int32} (q : z = 0 ∨ z = 1) : narrow .boolean (.int z) = .int z := by rcases q with rfl | rfl <;> rfl
theorem ofb {z : Int32} (q : z = 0 ∨ z = 1) : fits .boolean (.int z) = true := by rcases q with rfl | rfl <;> rfl
theorem oif01 {c : Prop} [Decidable c] {a b : Int32} (qa : a = 0 ∨ a = 1) (qb : b = 0 ∨ b = 1) : (if c then a else b) = 0 ∨ (if c then a else b) = 1 := by split <;> assumption
/-! arrays by a function of the place -/
variable {ty : FieldType} {a b : Addr} {n : Nat} {f f' : Nat → Value} {h' : Heap} {ws : List Addr} {sl : Nat} {v : Value}
def OAr (Z : State) (h : Heap) (a : Addr) (ty : FieldType) (n : Nat) (f : Nat → Value) : Prop :=
  ∃ c : Cell, Arr Z h a c ty ∧ c.slots.size = n ∧ (∀ j, j < n → c.slots[j]? = some (f j)) ∧ ∀ j, j < n → fits ty (f j) = true
theorem OAr.lt (F : OAr Z h a ty n f) : a < h.size := by obtain ⟨c, A, -⟩ := F; exact A.lt
theorem OAr.ext (F : OAr Z h a ty n f) (E : Ext h h') : OAr Z h' a ty n f := by obtain ⟨c, A, r⟩ := F; exact ⟨c, A.ext E, r⟩
theorem OAr.other (F : OAr Z h b ty n f) (W : Wr h h' a sl v) (q : b ≠ a) : OAr Z h' b ty n f := by obtain ⟨c, A, r⟩ := F; exact ⟨c, A.other W q, r⟩
theorem OAr.keep (F : OAr Z h a ty n f) (K : Keep h h' ws) (q : a ∉ ws) : OAr Z h' a ty n f := by obtain ⟨c, A, r⟩ := F; exact ⟨c, ⟨K.2.1 a c A.1 q, A.2⟩, r⟩
theorem OAr.conv (F : OAr Z h a ty n f) (q : ∀ j, j < n → f j = f' j) : OAr Z h a ty n f' := by
  obtain ⟨c, A, S, H, G⟩ := F
  exact ⟨c, A, S, fun j hj => by rw [← q j hj]; exact H j hj, fun j hj => by rw [← q j hj]; exact G j hj⟩
theorem OAr.new {k : ClassId} {z : Int32} (A : Arr Z h a (newA k ty z) ty) (q : z.toNatClampNeg = n) : OAr Z h a ty n (fun _ => defaultValue ty) :=
  ⟨_, A, (sz_new _ _ _).trans q, fun j hj => by simp [newA, q, hj], fun j _ => by cases ty <;> rfl⟩
theorem OAr.set (F : OAr Z h a ty n f) (W : Wr h h' a sl v) (hv : fits ty v = true) : OAr Z h' a ty n (fun j => if j = sl then v else f j) := by
  obtain ⟨c, A, S, H, G⟩ := F
  refine ⟨_, A.same W, by rw [sz_set]; exact S, fun j hj => ?_, fun j hj => ?_⟩
  · show (c.slots.setIfInBounds sl v)[j]? = _
    rw [Array.getElem?_setIfInBounds]
    by_cases q : j = sl
    · subst q; simp [S, hj]
    · rw [if_neg (fun z => q z.symm), H j hj]; simp [q]
  · by_cases q : j = sl
    · simp [q, hv]
    · simp [q, G j hj]
theorem oidx {j : Int32} (h0 : 0 ≤ j.toInt) (h1 : j.toInt < (n : Int)) : ¬ (j < 0) ∧ j.toNatClampNeg < n := by
  refine ⟨fun q => ?_, ?_⟩
  · rw [Int32.lt_iff_toInt_lt] at q; have : (0 : Int32).toInt = 0 := rfl; omega
  · simp only [Int32.toNatClampNeg]; omega
theorem oin {c : Cell} {j : Int32} (S : c.slots.size = n) (h0 : 0 ≤ j.toInt) (h1 : j.toInt < (n : Int)) : ¬ (j < 0 ∨ c.slots.size ≤ j.toNatClampNeg) := by
  obtain ⟨q1, q2⟩ := oidx h0 h1
  rw [S]; exact fun z => z.elim q1 (fun u => Nat.not_le.mpr q2 u)
theorem ostB (X : Stand p l e R s m args below meth c T locs cells slots) (hx : p.tables.exec = Jvm.exec) (hZ : Z.Warmed39 s.vm) (eT : T.heap = h) (F : OAr Z h a .byte n f) {j x : Int32} (h0 : 0 ≤ j.toInt) (h1 : j.toInt < (n : Int)) {g : JFrame} (hg : g.method = m) {rest : List Value} (hs : g.stack = .int x :: .int j :: .ref a :: rest) (hd : decode c.code g.pc = .ok (.bastore, 1)) :
    ∃ T' h', Stand p l e R s m args below meth c T' (locs ++ [⟨a, j.toNatClampNeg⟩]) cells slots ∧ T'.heap = h' ∧ Wr h h' a j.toNatClampNeg (.int x.toInt8.toInt32) ∧ OAr Z h' a .byte n (fun i => if i = j.toNatClampNeg then .int x.toInt8.toInt32 else f i) ∧ ∀ target, Steps p.tables e below (T'.setTop { g with pc := g.pc + 1, stack := rest }) target → Steps p.tables e below (T.setTop g) target := by
  obtain ⟨cl, A, S, H, G⟩ := F
  obtain ⟨T', h', X', e', W, st⟩ := stB X hx hZ eT A (j := j) (x := x) (oin S h0 h1) hg hs hd
  exact ⟨T', h', X', e', W, OAr.set ⟨cl, A, S, H, G⟩ W (fits_nar_byte x), st⟩
theorem ostI (X : Stand p l e R s m args below meth c T locs cells slots) (hx : p.tables.exec = Jvm.exec) (hZ : Z.Warmed39 s.vm) (eT : T.heap = h) (F : OAr Z h a .int n f) {j x : Int32} (h0 : 0 ≤ j.toInt) (h1 : j.toInt < (n : Int)) {g : JFrame} (hg : g.method = m) {rest : List Value} (hs : g.stack = .int x :: .int j :: .ref a :: rest) (hd : decode c.code g.pc = .ok (.iastore, 1)) :
    ∃ T' h', Stand p l e R s m args below meth c T' (locs ++ [⟨a, j.toNatClampNeg⟩]) cells slots ∧ T'.heap = h' ∧ Wr h h' a j.toNatClampNeg (.int x) ∧ OAr Z h' a .int n (fun i => if i = j.toNatClampNeg then .int x else f i) ∧ ∀ target, Steps p.tables e below (T'.setTop { g with pc := g.pc + 1, stack := rest }) target → Steps p.tables e below (T.setTop g) target := by
  obtain ⟨cl, A, S, H, G⟩ := F
  obtain ⟨T', h', X', e', W, st⟩ := stI X hx hZ eT A (j := j) (x := x) (oin S h0 h1) hg hs hd
  exact ⟨T', h', X', e', W, OAr.set ⟨cl, A, S, H, G⟩ W rfl, st⟩
theorem ostJ (X : Stand p l e R s m args below meth c T locs cells slots) (hx : p.tables.exec = Jvm.exec) (hZ : Z.Warmed39 s.vm) (eT : T.heap = h) (F : OAr Z h a .long n f) {j : Int32} {x : Int64} (h0 : 0 ≤ j.toInt) (h1 : j.toInt < (n : Int)) {g : JFrame} (hg : g.method = m) {rest : List Value} (hs : g.stack = .long x :: .int j :: .ref a :: rest) (hd : decode c.code g.pc = .ok (.lastore, 1)) :
    ∃ T' h', Stand p l e R s m args below meth c T' (locs ++ [⟨a, j.toNatClampNeg⟩]) cells slots ∧ T'.heap = h' ∧ Wr h h' a j.toNatClampNeg (.long x) ∧ OAr Z h' a .long n (fun i => if i = j.toNatClampNeg then .long x else f i) ∧ ∀ target, Steps p.tables e below (T'.setTop { g with pc := g.pc + 1, stack := rest }) target → Steps p.tables e below (T.setTop g) target := by
  obtain ⟨cl, A, S, H, G⟩ := F
  obtain ⟨T', h', X', e', W, st⟩ := stJ X hx hZ eT A (j := j) (x := x) (oin S h0 h1) hg hs hd
  exact ⟨T', h', X', e', W, OAr.set ⟨cl, A, S, H, G⟩ W rfl, st⟩
theorem oldB (X : Stand p l e R s m args below meth c T locs cells slots) (hx : p.tables.exec = Jvm.exec) (hZ : Z.Warmed39 s.vm) (eT : T.heap = h) (F : OAr Z h a .byte n f) {j : Int32} (h0 : 0 ≤ j.toInt) (h1 : j.toInt < (n : Int)) {g : JFrame} (hg : g.method = m) {rest : List Value} (hs : g.stack = .int j :: .ref a :: rest) (hd : decode c.code g.pc = .ok (.baload, 1)) :
    ∀ target, Steps p.tables e below (T.setTop { g with pc := g.pc + 1, stack := f j.toNatClampNeg :: rest }) target → Steps p.tables e below (T.setTop g) target := by
  obtain ⟨cl, A, S, H, G⟩ := F
  exact fun t k => X.baloadBytes hx (by rw [eT]; exact A.1) (State.isArrayOf_alike hZ.alike A.2.1) A.2.2 (oin S h0 h1) (H _ (oidx h0 h1).2) hg hs hd t k
theorem oldI (X : Stand p l e R s m args below meth c T locs cells slots) (hx : p.tables.exec = Jvm.exec) (hZ : Z.Warmed39 s.vm) (eT : T.heap = h) (F : OAr Z h a .int n f) {j : Int32} (h0 : 0 ≤ j.toInt) (h1 : j.toInt < (n : Int)) {g : JFrame} (hg : g.method = m) {rest : List Value} (hs : g.stack = .int j :: .ref a :: rest) (hd : decode c.code g.pc = .ok (.iaload, 1)) :
    ∀ target, Steps p.tables e below (T.setTop { g with pc := g.pc + 1, stack := f j.toNatClampNeg :: rest }) target → Steps p.tables e below (T.setTop g) target := by
  obtain ⟨cl, A, S, H, G⟩ := F
  exact fun t k => X.iaload hx (by rw [eT]; exact A.1) (State.isArrayOf_alike hZ.alike A.2.1) A.2.2 (oin S h0 h1) (H _ (oidx h0 h1).2) hg hs hd t k
theorem oldJ (X : Stand p l e R s m args below meth c T locs cells slots) (hx : p.tables.exec = Jvm.exec) (hZ : Z.Warmed39 s.vm) (eT : T.heap = h) (F : OAr Z h a .long n f) {j : Int32} (h0 : 0 ≤ j.toInt) (h1 : j.toInt < (n : Int)) {g : JFrame} (hg : g.method = m) {rest : List Value} (hs : g.stack = .int j :: .ref a :: rest) (hd : decode c.code g.pc = .ok (.laload, 1)) :
    ∀ target, Steps p.tables e below (T.setTop { g with pc := g.pc + 1, stack := f j.toNatClampNeg :: rest }) target → Steps p.tables e below (T.setTop g) target := by
  obtain ⟨cl, A, S, H, G⟩ := F
  exact fun t k => X.laload hx (by rw [eT]; exact A.1) (State.isArrayOf_alike hZ.alike A.2.1) A.2.2 (oin S h0 h1) (H _ (oidx h0 h1).2) hg hs hd t k
theorem oalen (X : Stand p l e R s m args below meth c T locs cells slots) (hx : p.tables.exec = Jvm.exec) (hZ : Z.Warmed39 s.vm) (eT : T.heap = h) (F : OAr Z h a ty n f) {g : JFrame} (hg : g.method = m) {rest : List Value} (hs : g.stack = .ref a :: rest) (hd : decode c.code g.pc = .ok (.arraylength, 1)) :
    ∀ target, Steps p.tables e below (T.setTop { g with pc := g.pc + 1, stack := .int n.toInt32 :: rest }) target → Steps p.tables e below (T.setTop g) target := by
  obtain ⟨cl, A, S, H, G⟩ := F
  subst S
  exact fun t k => X.arraylength hx (by rw [eT]; exact A.1) (State.isArrayOf_alike hZ.alike A.2.1) hg hs hd t k
theorem oclone (X : Stand p l e R s m args below meth c T locs cells slots) (hx : p.tables.exec = Jvm.exec) (hZ : Z.Warmed39 s.vm) {own ad : String} {index : Nat} (hown : s.vm.findClass own = some m.cls)
    (w1 : (Jvm.Cond.methodLink own index ⟨ad, "clone", "()Ljava/lang/Object;"⟩).before a0 Z = true) (w2 : (Jvm.Cond.sameMethod ad "java/lang/Object" "clone" "()Ljava/lang/Object;").before a0 Z = true) (w3 : (Jvm.Cond.native ⟨"java/lang/Object", "clone", "()Ljava/lang/Object;"⟩).before a0 Z = true)
    (w4 : (Jvm.Cond.instanceMethod ⟨"java/lang/Object", "clone", "()Ljava/lang/Object;"⟩).before a0 Z = true) (w5 : (Jvm.Cond.selects ad ⟨ad, "clone", "()Ljava/lang/Object;"⟩ ⟨"java/lang/Object", "clone", "()Ljava/lang/Object;"⟩).before a0 Z = true) (w6 : (Jvm.Cond.castable ad "java/lang/Cloneable").before a0 Z = true)
    (eT : T.heap = h) (F : OAr Z h a ty n f) (E : Exa Z h a ad) {g : JFrame} (hg : g.method = m) (hsize : g.locals.size = c.maxLocals) {rest : List Value} (hs : g.stack = .ref a :: rest) (hd : decode c.code g.pc = .ok (.invokevirtual index, 3))
    (hf : 1 ≤ R.frames) (W : Nat) (hW : 2 * g.monitorRoom + (rest.map fun v => v.category).sum ≤ W) (hl : W + 14 ≤ R.locals) (hc : cells + 1 ≤ R.cells) (hsl : slots + n ≤ R.slots) :
    ∃ T' h', Stand p l e R s m args below meth c T' locs (cells + 1) (slots + n) ∧ T'.heap = h' ∧ Ext h h' ∧ OAr Z h' h.size ty n f ∧ Exa Z h' h.size ad ∧
      ∀ target, Steps p.tables e below (T'.setTop { g with pc := g.pc + 3, stack := .ref h.size :: rest }) target → Steps p.tables e below (T.setTop g) target := by
  obtain ⟨cl, A, S, H, G⟩ := F
  have FC : FitC Z cl := fitC_of A fun i hi v hv => by rw [H i (S ▸ hi)] at hv; cases hv; exact G i (S ▸ hi)
  obtain ⟨T', h', X', e', ex, A', E', st⟩ := cloneA X hx hZ hown w1 w2 w3 w4 w5 w6 eT A E FC hg hsize hs hd hf hW hl (Nat.le_of_eq S) hc hsl
  exact ⟨T', h', X', e', ex, ⟨cloneOf cl, A', S, H, G⟩, E', st⟩
end OwnGo
end Jvm.OwnKit
namespace Jvm.Pilot.@@N@@
open Jvm Jvm.ClassFile Sem Op Lib Jvm.Free Jvm.Stand Jvm.LawKit Jvm.RoadKit Bundle Jvm.OwnKit Jvm.Pilot.@@N@@.Jvm.D
theorem d1_0 : decode prog_30_method_1_code 0 = .ok (.aload_n 0, 1) := by decide +kernel
theorem d1_1 : decode prog_30_method_1_code 1 = .ok (.invokespecial 1, 3) := by decide +kernel
theorem d1_4 : decode prog_30_method_1_code 4 = .ok (.aload_n 0, 1) := by decide +kernel
theorem d1_5 : decode prog_30_method_1_code 5 = .ok (.iconst (-1), 1) := by decide +kernel
theorem d1_6 : decode prog_30_method_1_code 6 = .ok (.putfield 9, 3) := by decide +kernel
theorem d1_9 : decode prog_30_method_1_code 9 = .ok (.aload_n 0, 1) := by decide +kernel
theorem d1_10 : decode prog_30_method_1_code 10 = .ok (.iconst 1, 1) := by decide +kernel
theorem d1_11 : decode prog_30_method_1_code 11 = .ok (.newarray .long, 2) := by decide +kernel
theorem d1_13 : decode prog_30_method_1_code 13 = .ok (.putfield 13, 3) := by decide +kernel
theorem d1_16 : decode prog_30_method_1_code 16 = .ok (.aload_n 0, 1) := by decide +kernel
theorem d1_17 : decode prog_30_method_1_code 17 = .ok (.iconst 1, 1) := by decide +kernel
theorem d1_18 : decode prog_30_method_1_code 18 = .ok (.newarray .int, 2) := by decide +kernel
theorem d1_20 : decode prog_30_method_1_code 20 = .ok (.putfield 17, 3) := by decide +kernel
theorem d1_23 : decode prog_30_method_1_code 23 = .ok (.return_, 1) := by decide +kernel
theorem pn_1 : plainName "com/example/bouncr/bouncr/KeyRecord" = true := by first | (simp [plainName, overriddenIn]; done) | decide +kernel
theorem ef_1 (m : MethodId) (x0 : Addr) : entryFrame m #[(.ref x0)] 1 = mkF m 0 #[.val (.ref x0)] [] := by first | (simp [entryFrame, mkF, argsToLocals, Value.category]; done) | rfl
set_option maxRecDepth 65536 in
set_option maxHeartbeats 40000000 in
theorem rm1 (l : Launch) (Z : State) (a0 : Array Value) (hw : ∀ d ∈ tables_1, d.before a0 Z = true) (ob : Addr)  (h0 : Heap) (n0 : Nat) (Z0 : n0 ≤ h0.size) (P0 : Exa Z h0 ob "com/example/bouncr/bouncr/KeyRecord") (P1 : Fld Z h0 ob "com/example/bouncr/bouncr/KeyRecord" "failures" "I" (.int (0 : Int32))) (P2 : Fld Z h0 ob "com/example/bouncr/bouncr/KeyRecord" "lastSecond" "J" (.long (0 : Int64))) (P3 : Fld Z h0 ob "com/example/bouncr/bouncr/KeyRecord" "lastNano" "I" (.int (0 : Int32))) (P4 : Fld Z h0 ob "com/example/bouncr/bouncr/KeyRecord" "refusedOnly" "Z" (.int (0 : Int32))) (P5 : Fld Z h0 ob "com/example/bouncr/bouncr/KeyRecord" "placeCount" "I" (.int (0 : Int32))) (P6 : Fld Z h0 ob "com/example/bouncr/bouncr/KeyRecord" "placeSeconds" "[J" .null) (P7 : Fld Z h0 ob "com/example/bouncr/bouncr/KeyRecord" "placeNanos" "[I" .null) (g_ob : n0 ≤ ob) :
    OMet l Z (⟨"com/example/bouncr/bouncr/KeyRecord", "<init>", "()V"⟩ : MethodName) prog_30_method_1_code 1 none ({ frames := 1, cells := 2, slots := 2, locals := 12 } : Room) #[(.ref ob)] h0 (fun v h L => ∃ sa na, v = none ∧ Fr n0 L ∧ Keep h0 h [ob] ∧ Fld Z h ob "com/example/bouncr/bouncr/KeyRecord" "failures" "I" (.int (0 : Int32)) ∧ Fld Z h ob "com/example/bouncr/bouncr/KeyRecord" "lastSecond" "J" (.long (0 : Int64)) ∧ Fld Z h ob "com/example/bouncr/bouncr/KeyRecord" "lastNano" "I" (.int (-1 : Int32)) ∧ Fld Z h ob "com/example/bouncr/bouncr/KeyRecord" "refusedOnly" "Z" (.int (0 : Int32)) ∧ Fld Z h ob "com/example/bouncr/bouncr/KeyRecord" "placeCount" "I" (.int (0 : Int32)) ∧ Fld Z h ob "com/example/bouncr/bouncr/KeyRecord" "placeSeconds" "[J" (.ref sa) ∧ Fld Z h ob "com/example/bouncr/bouncr/KeyRecord" "placeNanos" "[I" (.ref na) ∧ OAr Z h sa .long 1 (fun i => .long ((fun _ : Nat => (0 : Int64)) i)) ∧ OAr Z h na .int 1 (fun i => .int ((fun _ : Nat => (0 : Int32)) i)) ∧ n0 ≤ sa ∧ n0 ≤ na ∧ ob ≠ sa ∧ ob ≠ na ∧ sa ≠ na) := by
  intro ws
  refine MetFree.of_bodySF (plainFor_of_name pn_1) hisR ?_
  intro p e s m args below meth c s₁ Bd hml0 hP hK
  obtain ⟨rfl, hZ, hh⟩ := hP
  have hx := Bd.exec
  have hby := Bd.bytes
  have hml : c.maxLocals = 1 := hml0
  have hown : s.vm.findClass "com/example/bouncr/bouncr/KeyRecord" = some m.cls := findClass_of_methodNamed Bd.named
  have hnm := (name_of_methodNamed Bd.named Bd.method).1
  have hlk : meth.locks = false := Bd.notSynchronized
  have X0 : Stand p l e ({ frames := 1, cells := 2, slots := 2, locals := 12 } : Room) s m #[(.ref ob)] below meth c s₁ [] 0 0 := Stand.of_body Bd
  have e0 : s₁.heap = h0 := by rw [← hh, Bd.state]; rfl
  have N0 := Fr.nil n0
  have K0 := Keep.refl h0 [ob]
  refine (?_ : OGo p.tables e below (OFin s (fun v h L => ∃ sa na, v = none ∧ Fr n0 L ∧ Keep h0 h [ob] ∧ Fld Z h ob "com/example/bouncr/bouncr/KeyRecord" "failures" "I" (.int (0 : Int32)) ∧ Fld Z h ob "com/example/bouncr/bouncr/KeyRecord" "lastSecond" "J" (.long (0 : Int64)) ∧ Fld Z h ob "com/example/bouncr/bouncr/KeyRecord" "lastNano" "I" (.int (-1 : Int32)) ∧ Fld Z h ob "com/example/bouncr/bouncr/KeyRecord" "refusedOnly" "Z" (.int (0 : Int32)) ∧ Fld Z h ob "com/example/bouncr/bouncr/KeyRecord" "placeCount" "I" (.int (0 : Int32)) ∧ Fld Z h ob "com/example/bouncr/bouncr/KeyRecord" "placeSeconds" "[J" (.ref sa) ∧ Fld Z h ob "com/example/bouncr/bouncr/KeyRecord" "placeNanos" "[I" (.ref na) ∧ OAr Z h sa .long 1 (fun i => .long ((fun _ : Nat => (0 : Int64)) i)) ∧ OAr Z h na .int 1 (fun i => .int ((fun _ : Nat => (0 : Int32)) i)) ∧ n0 ≤ sa ∧ n0 ≤ na ∧ ob ≠ sa ∧ ob ≠ na ∧ sa ≠ na) 2 2) _)
  refine ogo (fun _ k => castTop (ef_1 m ob) k) ?_
  show OGo _ _ _ _ (s₁.setTop (mkF m 0 #[.val (.ref ob)] []))
  refine ogo (fun _ k => XS.aloadN X0.here hx rfl (hb hby d1_0) rfl rfl k) ?_
  show OGo _ _ _ _ (s₁.setTop (mkF m 1 #[.val (.ref ob)] [(.ref ob)]))
  obtain ⟨T_1_1, X_1_1, e_1_1, st_1_1⟩ := initO X0 hx hZ hown (hw _ (List.mem_of_getElem? (i := 6) rfl)) (hw _ (List.mem_of_getElem? (i := 7) rfl)) (hw _ (List.mem_of_getElem? (i := 8) rfl)) e0 (g := (mkF m 1 #[.val (.ref ob)] [(.ref ob)])) rfl (by rw [hml]; rfl) rfl (hb hby d1_1) (by decide) (W := 0) (by show 2 * 0 + _ ≤ _; exact Nat.le_of_eq rfl) (by decide)
  refine ogo (fun _ k => st_1_1 _ k) ?_
  show OGo _ _ _ _ (T_1_1.setTop (mkF m 4 #[.val (.ref ob)] []))
  refine ogo (fun _ k => XS.aloadN X_1_1.here hx rfl (hb hby d1_4) rfl rfl k) ?_
  show OGo _ _ _ _ (T_1_1.setTop (mkF m 5 #[.val (.ref ob)] [(.ref ob)]))
  refine ogo (fun _ k => XS.iconst X_1_1.here hx rfl (hb hby d1_5) k) ?_
  show OGo _ _ _ _ (T_1_1.setTop (mkF m 6 #[.val (.ref ob)] [(.int (-1 : Int32)), (.ref ob)]))
  obtain ⟨T_1_2, h_1_2, X_1_2, e_1_2, W_1_2, st_1_2⟩ := putF X_1_1 hx hZ hown (host := "") (Or.inl (hw _ (List.mem_of_getElem? (i := 9) rfl))) Via.refl e_1_1 P3 P0 (Or.inl (hw _ (List.mem_of_getElem? (i := 10) rfl))) (hw _ (List.mem_of_getElem? (i := 1) rfl)) (ty := .int) (by decide) rfl rfl (g := (mkF m 6 #[.val (.ref ob)] [(.int (-1 : Int32)), (.ref ob)])) rfl rfl (hb hby d1_6)
  have K_1_2 := K0.wr W_1_2 (Or.inl (List.mem_of_getElem? (i := 0) rfl))
  have f_1_3 := P0.wr W_1_2
  have f_1_4 := P1.other W_1_2 (Or.inr (slot_ne (Or.inl (hw _ (List.mem_of_getElem? (i := 23) rfl))) (Or.inl (hw _ (List.mem_of_getElem? (i := 10) rfl))) (by decide) (t := .int) (t' := .int) (by decide) (by decide)))
  have f_1_5 := P2.other W_1_2 (Or.inr (slot_ne (Or.inl (hw _ (List.mem_of_getElem? (i := 25) rfl))) (Or.inl (hw _ (List.mem_of_getElem? (i := 10) rfl))) (by decide) (t := .long) (t' := .int) (by decide) (by decide)))
  have f_1_6 := P3.same W_1_2
  have f_1_7 := P4.other W_1_2 (Or.inr (slot_ne (Or.inl (hw _ (List.mem_of_getElem? (i := 27) rfl))) (Or.inl (hw _ (List.mem_of_getElem? (i := 10) rfl))) (by decide) (t := .boolean) (t' := .int) (by decide) (by decide)))
  have f_1_8 := P5.other W_1_2 (Or.inr (slot_ne (Or.inl (hw _ (List.mem_of_getElem? (i := 54) rfl))) (Or.inl (hw _ (List.mem_of_getElem? (i := 10) rfl))) (by decide) (t := .int) (t' := .int) (by decide) (by decide)))
  have f_1_9 := P6.other W_1_2 (Or.inr (slot_ne (Or.inl (hw _ (List.mem_of_getElem? (i := 13) rfl))) (Or.inl (hw _ (List.mem_of_getElem? (i := 10) rfl))) (by decide) (t := (.array .long)) (t' := .int) (by decide) (by decide)))
  have f_1_10 := P7.other W_1_2 (Or.inr (slot_ne (Or.inl (hw _ (List.mem_of_getElem? (i := 16) rfl))) (Or.inl (hw _ (List.mem_of_getElem? (i := 10) rfl))) (by decide) (t := (.array .int)) (t' := .int) (by decide) (by decide)))
  have Z_1_2 : n0 ≤ h_1_2.size := Nat.le_trans Z0 (Keep.of_wr W_1_2).1
  obtain ⟨lc_1_2, N_1_2, X_1_2⟩ : ∃ L, Fr n0 L ∧ Stand p l e ({ frames := 1, cells := 2, slots := 2, locals := 12 } : Room) s m #[(.ref ob)] below meth c T_1_2 L 0 0 := ⟨_, Fr.snoc X_1_2 N0 g_ob, X_1_2⟩
  refine ogo (fun _ k => st_1_2 _ k) ?_
  show OGo _ _ _ _ (T_1_2.setTop (mkF m 9 #[.val (.ref ob)] []))
  refine ogo (fun _ k => XS.aloadN X_1_2.here hx rfl (hb hby d1_9) rfl rfl k) ?_
  show OGo _ _ _ _ (T_1_2.setTop (mkF m 10 #[.val (.ref ob)] [(.ref ob)]))
  refine ogo (fun _ k => XS.iconst X_1_2.here hx rfl (hb hby d1_10) k) ?_
  show OGo _ _ _ _ (T_1_2.setTop (mkF m 11 #[.val (.ref ob)] [(.int (1 : Int32)), (.ref ob)]))
  obtain ⟨T_1_11, h_1_11, k_1_11, X_1_11, e_1_11, E_1_11, A_1_11, Ex_1_11, st_1_11⟩ := newPE X_1_2 hx hZ (hw _ (List.mem_of_getElem? (i := 11) rfl)) e_1_2 (g := (mkF m 11 #[.val (.ref ob)] [(.int (1 : Int32)), (.ref ob)])) rfl (hb hby d1_11) rfl (by decide) (cap := 1) (by decide) (by decide) (by decide) (by decide) (ad := "[J") (by first | rfl | decide +kernel)
  obtain ⟨b_1_11, g_1_11⟩ : ∃ z, z = h_1_2.size := ⟨_, rfl⟩
  rw [← g_1_11] at A_1_11 Ex_1_11 st_1_11
  have g_b_1_11 : n0 ≤ b_1_11 := Nat.le_trans Z_1_2 (Nat.le_of_eq g_1_11.symm)
  have ne_ob_b_1_11 : ob ≠ b_1_11 := Nat.ne_of_lt (Nat.lt_of_lt_of_le f_1_10.lt (Nat.le_of_eq g_1_11.symm))
  have sz_b_1_11 : h0.size ≤ b_1_11 := Nat.le_trans K_1_2.1 (Nat.le_of_eq g_1_11.symm)
  have K_1_11 := K_1_2.ext E_1_11
  have f_1_12 := f_1_3.ext E_1_11
  have f_1_13 := f_1_4.ext E_1_11
  have f_1_14 := f_1_5.ext E_1_11
  have f_1_15 := f_1_6.ext E_1_11
  have f_1_16 := f_1_7.ext E_1_11
  have f_1_17 := f_1_8.ext E_1_11
  have f_1_18 := f_1_9.ext E_1_11
  have f_1_19 := f_1_10.ext E_1_11
  have Z_1_11 : n0 ≤ h_1_11.size := Nat.le_trans Z_1_2 E_1_11.1
  have V_1_11 : OAr Z h_1_11 b_1_11 .long 1 (fun i => .long ((fun _ : Nat => (0 : Int64)) i)) := OAr.new A_1_11 (by decide)
  obtain ⟨lc_1_11, N_1_11, X_1_11⟩ : ∃ L, Fr n0 L ∧ Stand p l e ({ frames := 1, cells := 2, slots := 2, locals := 12 } : Room) s m #[(.ref ob)] below meth c T_1_11 L 1 1 := ⟨_, N_1_2, X_1_11⟩
  refine ogo (fun _ k => st_1_11 _ k) ?_
  show OGo _ _ _ _ (T_1_11.setTop (mkF m 13 #[.val (.ref ob)] [(.ref b_1_11), (.ref ob)]))
  obtain ⟨T_1_20, h_1_20, X_1_20, e_1_20, W_1_20, st_1_20⟩ := putF X_1_11 hx hZ hown (host := "") (Or.inl (hw _ (List.mem_of_getElem? (i := 12) rfl))) Via.refl e_1_11 f_1_18 f_1_12 (Or.inl (hw _ (List.mem_of_getElem? (i := 13) rfl))) (hw _ (List.mem_of_getElem? (i := 1) rfl)) (ty := (.array .long)) (by decide) rfl rfl (g := (mkF m 13 #[.val (.ref ob)] [(.ref b_1_11), (.ref ob)])) rfl rfl (hb hby d1_13)
  have K_1_20 := K_1_11.wr W_1_20 (Or.inl (List.mem_of_getElem? (i := 0) rfl))
  have f_1_21 := f_1_12.wr W_1_20
  have f_1_22 := f_1_13.other W_1_20 (Or.inr (slot_ne (Or.inl (hw _ (List.mem_of_getElem? (i := 23) rfl))) (Or.inl (hw _ (List.mem_of_getElem? (i := 13) rfl))) (by decide) (t := .int) (t' := (.array .long)) (by decide) (by decide)))
  have f_1_23 := f_1_14.other W_1_20 (Or.inr (slot_ne (Or.inl (hw _ (List.mem_of_getElem? (i := 25) rfl))) (Or.inl (hw _ (List.mem_of_getElem? (i := 13) rfl))) (by decide) (t := .long) (t' := (.array .long)) (by decide) (by decide)))
  have f_1_24 := f_1_15.other W_1_20 (Or.inr (slot_ne (Or.inl (hw _ (List.mem_of_getElem? (i := 10) rfl))) (Or.inl (hw _ (List.mem_of_getElem? (i := 13) rfl))) (by decide) (t := .int) (t' := (.array .long)) (by decide) (by decide)))
  have f_1_25 := f_1_16.other W_1_20 (Or.inr (slot_ne (Or.inl (hw _ (List.mem_of_getElem? (i := 27) rfl))) (Or.inl (hw _ (List.mem_of_getElem? (i := 13) rfl))) (by decide) (t := .boolean) (t' := (.array .long)) (by decide) (by decide)))
  have f_1_26 := f_1_17.other W_1_20 (Or.inr (slot_ne (Or.inl (hw _ (List.mem_of_getElem? (i := 54) rfl))) (Or.inl (hw _ (List.mem_of_getElem? (i := 13) rfl))) (by decide) (t := .int) (t' := (.array .long)) (by decide) (by decide)))
  have f_1_27 := f_1_18.same W_1_20
  have f_1_28 := f_1_19.other W_1_20 (Or.inr (slot_ne (Or.inl (hw _ (List.mem_of_getElem? (i := 16) rfl))) (Or.inl (hw _ (List.mem_of_getElem? (i := 13) rfl))) (by decide) (t := (.array .int)) (t' := (.array .long)) (by decide) (by decide)))
  have f_1_29 := Ex_1_11.wr W_1_20
  have f_1_30 := V_1_11.other W_1_20 (Ne.symm ne_ob_b_1_11)
  have Z_1_20 : n0 ≤ h_1_20.size := Nat.le_trans Z_1_11 (Keep.of_wr W_1_20).1
  obtain ⟨lc_1_20, N_1_20, X_1_20⟩ : ∃ L, Fr n0 L ∧ Stand p l e ({ frames := 1, cells := 2, slots := 2, locals := 12 } : Room) s m #[(.ref ob)] below meth c T_1_20 L 1 1 := ⟨_, Fr.snoc X_1_20 N_1_11 g_ob, X_1_20⟩
  refine ogo (fun _ k => st_1_20 _ k) ?_
  show OGo _ _ _ _ (T_1_20.setTop (mkF m 16 #[.val (.ref ob)] []))
  refine ogo (fun _ k => XS.aloadN X_1_20.here hx rfl (hb hby d1_16) rfl rfl k) ?_
  show OGo _ _ _ _ (T_1_20.setTop (mkF m 17 #[.val (.ref ob)] [(.ref ob)]))
  refine ogo (fun _ k => XS.iconst X_1_20.here hx rfl (hb hby d1_17) k) ?_
  show OGo _ _ _ _ (T_1_20.setTop (mkF m 18 #[.val (.ref ob)] [(.int (1 : Int32)), (.ref ob)]))
  obtain ⟨T_1_31, h_1_31, k_1_31, X_1_31, e_1_31, E_1_31, A_1_31, Ex_1_31, st_1_31⟩ := newPE X_1_20 hx hZ (hw _ (List.mem_of_getElem? (i := 14) rfl)) e_1_20 (g := (mkF m 18 #[.val (.ref ob)] [(.int (1 : Int32)), (.ref ob)])) rfl (hb hby d1_18) rfl (by decide) (cap := 1) (by decide) (by decide) (by decide) (by decide) (ad := "[I") (by first | rfl | decide +kernel)
  obtain ⟨b_1_31, g_1_31⟩ : ∃ z, z = h_1_20.size := ⟨_, rfl⟩
  rw [← g_1_31] at A_1_31 Ex_1_31 st_1_31
  have g_b_1_31 : n0 ≤ b_1_31 := Nat.le_trans Z_1_20 (Nat.le_of_eq g_1_31.symm)
  have ne_ob_b_1_31 : ob ≠ b_1_31 := Nat.ne_of_lt (Nat.lt_of_lt_of_le f_1_28.lt (Nat.le_of_eq g_1_31.symm))
  have ne_b_1_11_b_1_31 : b_1_11 ≠ b_1_31 := Nat.ne_of_lt (Nat.lt_of_lt_of_le f_1_30.lt (Nat.le_of_eq g_1_31.symm))
  have sz_b_1_31 : h0.size ≤ b_1_31 := Nat.le_trans K_1_20.1 (Nat.le_of_eq g_1_31.symm)
  have K_1_31 := K_1_20.ext E_1_31
  have f_1_32 := f_1_21.ext E_1_31
  have f_1_33 := f_1_22.ext E_1_31
  have f_1_34 := f_1_23.ext E_1_31
  have f_1_35 := f_1_24.ext E_1_31
  have f_1_36 := f_1_25.ext E_1_31
  have f_1_37 := f_1_26.ext E_1_31
  have f_1_38 := f_1_27.ext E_1_31
  have f_1_39 := f_1_28.ext E_1_31
  have f_1_40 := f_1_29.ext E_1_31
  have f_1_41 := f_1_30.ext E_1_31
  have Z_1_31 : n0 ≤ h_1_31.size := Nat.le_trans Z_1_20 E_1_31.1
  have V_1_31 : OAr Z h_1_31 b_1_31 .int 1 (fun i => .int ((fun _ : Nat => (0 : Int32)) i)) := OAr.new A_1_31 (by decide)
  obtain ⟨lc_1_31, N_1_31, X_1_31⟩ : ∃ L, Fr n0 L ∧ Stand p l e ({ frames := 1, cells := 2, slots := 2, locals := 12 } : Room) s m #[(.ref ob)] below meth c T_1_31 L 2 2 := ⟨_, N_1_20, X_1_31⟩
  refine ogo (fun _ k => st_1_31 _ k) ?_
  show OGo _ _ _ _ (T_1_31.setTop (mkF m 20 #[.val (.ref ob)] [(.ref b_1_31), (.ref ob)]))
  obtain ⟨T_1_42, h_1_42, X_1_42, e_1_42, W_1_42, st_1_42⟩ := putF X_1_31 hx hZ hown (host := "") (Or.inl (hw _ (List.mem_of_getElem? (i := 15) rfl))) Via.refl e_1_31 f_1_39 f_1_32 (Or.inl (hw _ (List.mem_of_getElem? (i := 16) rfl))) (hw _ (List.mem_of_getElem? (i := 1) rfl)) (ty := (.array .int)) (by decide) rfl rfl (g := (mkF m 20 #[.val (.ref ob)] [(.ref b_1_31), (.ref ob)])) rfl rfl (hb hby d1_20)
  have K_1_42 := K_1_31.wr W_1_42 (Or.inl (List.mem_of_getElem? (i := 0) rfl))
  have f_1_43 := f_1_32.wr W_1_42
  have f_1_44 := f_1_33.other W_1_42 (Or.inr (slot_ne (Or.inl (hw _ (List.mem_of_getElem? (i := 23) rfl))) (Or.inl (hw _ (List.mem_of_getElem? (i := 16) rfl))) (by decide) (t := .int) (t' := (.array .int)) (by decide) (by decide)))
  have f_1_45 := f_1_34.other W_1_42 (Or.inr (slot_ne (Or.inl (hw _ (List.mem_of_getElem? (i := 25) rfl))) (Or.inl (hw _ (List.mem_of_getElem? (i := 16) rfl))) (by decide) (t := .long) (t' := (.array .int)) (by decide) (by decide)))
  have f_1_46 := f_1_35.other W_1_42 (Or.inr (slot_ne (Or.inl (hw _ (List.mem_of_getElem? (i := 10) rfl))) (Or.inl (hw _ (List.mem_of_getElem? (i := 16) rfl))) (by decide) (t := .int) (t' := (.array .int)) (by decide) (by decide)))
  have f_1_47 := f_1_36.other W_1_42 (Or.inr (slot_ne (Or.inl (hw _ (List.mem_of_getElem? (i := 27) rfl))) (Or.inl (hw _ (List.mem_of_getElem? (i := 16) rfl))) (by decide) (t := .boolean) (t' := (.array .int)) (by decide) (by decide)))
  have f_1_48 := f_1_37.other W_1_42 (Or.inr (slot_ne (Or.inl (hw _ (List.mem_of_getElem? (i := 54) rfl))) (Or.inl (hw _ (List.mem_of_getElem? (i := 16) rfl))) (by decide) (t := .int) (t' := (.array .int)) (by decide) (by decide)))
  have f_1_49 := f_1_38.other W_1_42 (Or.inr (slot_ne (Or.inl (hw _ (List.mem_of_getElem? (i := 13) rfl))) (Or.inl (hw _ (List.mem_of_getElem? (i := 16) rfl))) (by decide) (t := (.array .long)) (t' := (.array .int)) (by decide) (by decide)))
  have f_1_50 := f_1_39.same W_1_42
  have f_1_51 := f_1_40.wr W_1_42
  have f_1_52 := f_1_41.other W_1_42 (Ne.symm ne_ob_b_1_11)
  have f_1_53 := Ex_1_31.wr W_1_42
  have f_1_54 := V_1_31.other W_1_42 (Ne.symm ne_ob_b_1_31)
  have Z_1_42 : n0 ≤ h_1_42.size := Nat.le_trans Z_1_31 (Keep.of_wr W_1_42).1
  obtain ⟨lc_1_42, N_1_42, X_1_42⟩ : ∃ L, Fr n0 L ∧ Stand p l e ({ frames := 1, cells := 2, slots := 2, locals := 12 } : Room) s m #[(.ref ob)] below meth c T_1_42 L 2 2 := ⟨_, Fr.snoc X_1_42 N_1_31 g_ob, X_1_42⟩
  refine ogo (fun _ k => st_1_42 _ k) ?_
  show OGo _ _ _ _ (T_1_42.setTop (mkF m 23 #[.val (.ref ob)] []))
  exact oretV X_1_42 hx hlk Bd.returns (hb hby d1_23) (by decide) (by decide) (by rw [e_1_42]; exact ⟨b_1_11, b_1_31, rfl, N_1_42, K_1_42, f_1_44, f_1_45, f_1_46, f_1_47, f_1_48, f_1_49, f_1_50, f_1_52, f_1_54, g_b_1_11, g_b_1_31, ne_ob_b_1_11, ne_ob_b_1_31, ne_b_1_11_b_1_31⟩)
theorem d3_0 : decode prog_30_method_15_code 0 = .ok (.aload_n 0, 1) := by decide +kernel
theorem d3_1 : decode prog_30_method_15_code 1 = .ok (.iload_n 1, 1) := by decide +kernel
theorem d3_2 : decode prog_30_method_15_code 2 = .ok (.putfield 21, 3) := by decide +kernel
theorem d3_5 : decode prog_30_method_15_code 5 = .ok (.aload_n 0, 1) := by decide +kernel
theorem d3_6 : decode prog_30_method_15_code 6 = .ok (.lload_n 2, 1) := by decide +kernel
theorem d3_7 : decode prog_30_method_15_code 7 = .ok (.putfield 24, 3) := by decide +kernel
theorem d3_10 : decode prog_30_method_15_code 10 = .ok (.aload_n 0, 1) := by decide +kernel
theorem d3_11 : decode prog_30_method_15_code 11 = .ok (.iload 4, 2) := by decide +kernel
theorem d3_13 : decode prog_30_method_15_code 13 = .ok (.putfield 9, 3) := by decide +kernel
theorem d3_16 : decode prog_30_method_15_code 16 = .ok (.aload_n 0, 1) := by decide +kernel
theorem d3_17 : decode prog_30_method_15_code 17 = .ok (.iload 5, 2) := by decide +kernel
theorem d3_19 : decode prog_30_method_15_code 19 = .ok (.putfield 34, 3) := by decide +kernel
theorem d3_22 : decode prog_30_method_15_code 22 = .ok (.return_, 1) := by decide +kernel
theorem pn_3 : plainName "com/example/bouncr/bouncr/KeyRecord" = true := by first | (simp [plainName, overriddenIn]; done) | decide +kernel
theorem ef_3 (m : MethodId) (x0 : Addr) (x1 : Int32) (x2 : Int64) (x3 : Int32) (x4 : Int32) : entryFrame m #[(.ref x0), (.int x1), (.long x2), (.int x3), (.int x4)] 6 = mkF m 0 #[.val (.ref x0), .val (.int x1), .val (.long x2), .second, .val (.int x3), .val (.int x4)] [] := by first | (simp [entryFrame, mkF, argsToLocals, Value.category]; done) | rfl
set_option maxRecDepth 65536 in
set_option maxHeartbeats 40000000 in
theorem rm3 (l : Launch) (Z : State) (a0 : Array Value) (hw : ∀ d ∈ tables_1, d.before a0 Z = true) (ob : Addr) (q1 : Int32) (q2 : Int64) (q3 : Int32) (q4 : Int32) (u0 : Int32) (u1 : Int64) (u2 : Int32) (u3 : Int32) (u4 : Int32) (sa : Addr) (na : Addr) (h0 : Heap) (n0 : Nat) (Z0 : n0 ≤ h0.size) (P0 : Exa Z h0 ob "com/example/bouncr/bouncr/KeyRecord") (P1 : Fld Z h0 ob "com/example/bouncr/bouncr/KeyRecord" "failures" "I" (.int u0)) (P2 : Fld Z h0 ob "com/example/bouncr/bouncr/KeyRecord" "lastSecond" "J" (.long u1)) (P3 : Fld Z h0 ob "com/example/bouncr/bouncr/KeyRecord" "lastNano" "I" (.int u2)) (P4 : Fld Z h0 ob "com/example/bouncr/bouncr/KeyRecord" "refusedOnly" "Z" (.int u3)) (P5 : Fld Z h0 ob "com/example/bouncr/bouncr/KeyRecord" "placeCount" "I" (.int u4)) (P6 : Fld Z h0 ob "com/example/bouncr/bouncr/KeyRecord" "placeSeconds" "[J" (.ref sa)) (P7 : Fld Z h0 ob "com/example/bouncr/bouncr/KeyRecord" "placeNanos" "[I" (.ref na)) (g_ob : n0 ≤ ob) (hbo : q4 = 0 ∨ q4 = 1) :
    OMet l Z (⟨"com/example/bouncr/bouncr/KeyRecord", "count", "(IJIZ)V"⟩ : MethodName) prog_30_method_15_code 6 none ({ frames := 0, cells := 0, slots := 0, locals := 0 } : Room) #[(.ref ob), (.int q1), (.long q2), (.int q3), (.int q4)] h0 (fun v h L => v = none ∧ Fr n0 L ∧ Keep h0 h [ob] ∧ Fld Z h ob "com/example/bouncr/bouncr/KeyRecord" "failures" "I" (.int q1) ∧ Fld Z h ob "com/example/bouncr/bouncr/KeyRecord" "lastSecond" "J" (.long q2) ∧ Fld Z h ob "com/example/bouncr/bouncr/KeyRecord" "lastNano" "I" (.int q3) ∧ Fld Z h ob "com/example/bouncr/bouncr/KeyRecord" "refusedOnly" "Z" (.int q4) ∧ Fld Z h ob "com/example/bouncr/bouncr/KeyRecord" "placeCount" "I" (.int u4) ∧ Fld Z h ob "com/example/bouncr/bouncr/KeyRecord" "placeSeconds" "[J" (.ref sa) ∧ Fld Z h ob "com/example/bouncr/bouncr/KeyRecord" "placeNanos" "[I" (.ref na)) := by
  intro ws
  refine MetFree.of_bodySF (plainFor_of_name pn_3) hisR ?_
  intro p e s m args below meth c s₁ Bd hml0 hP hK
  obtain ⟨rfl, hZ, hh⟩ := hP
  have hx := Bd.exec
  have hby := Bd.bytes
  have hml : c.maxLocals = 6 := hml0
  have hown : s.vm.findClass "com/example/bouncr/bouncr/KeyRecord" = some m.cls := findClass_of_methodNamed Bd.named
  have hnm := (name_of_methodNamed Bd.named Bd.method).1
  have hlk : meth.locks = false := Bd.notSynchronized
  have X0 : Stand p l e ({ frames := 0, cells := 0, slots := 0, locals := 0 } : Room) s m #[(.ref ob), (.int q1), (.long q2), (.int q3), (.int q4)] below meth c s₁ [] 0 0 := Stand.of_body Bd
  have e0 : s₁.heap = h0 := by rw [← hh, Bd.state]; rfl
  have N0 := Fr.nil n0
  have K0 := Keep.refl h0 [ob]
  refine (?_ : OGo p.tables e below (OFin s (fun v h L => v = none ∧ Fr n0 L ∧ Keep h0 h [ob] ∧ Fld Z h ob "com/example/bouncr/bouncr/KeyRecord" "failures" "I" (.int q1) ∧ Fld Z h ob "com/example/bouncr/bouncr/KeyRecord" "lastSecond" "J" (.long q2) ∧ Fld Z h ob "com/example/bouncr/bouncr/KeyRecord" "lastNano" "I" (.int q3) ∧ Fld Z h ob "com/example/bouncr/bouncr/KeyRecord" "refusedOnly" "Z" (.int q4) ∧ Fld Z h ob "com/example/bouncr/bouncr/KeyRecord" "placeCount" "I" (.int u4) ∧ Fld Z h ob "com/example/bouncr/bouncr/KeyRecord" "placeSeconds" "[J" (.ref sa) ∧ Fld Z h ob "com/example/bouncr/bouncr/KeyRecord" "placeNanos" "[I" (.ref na)) 0 0) _)
  refine ogo (fun _ k => castTop (ef_3 m ob q1 q2 q3 q4) k) ?_
  show OGo _ _ _ _ (s₁.setTop (mkF m 0 #[.val (.ref ob), .val (.int q1), .val (.long q2), .second, .val (.int q3), .val (.int q4)] []))
  refine ogo (fun _ k => XS.aloadN X0.here hx rfl (hb hby d3_0) rfl rfl k) ?_
  show OGo _ _ _ _ (s₁.setTop (mkF m 1 #[.val (.ref ob), .val (.int q1), .val (.long q2), .second, .val (.int q3), .val (.int q4)] [(.ref ob)]))
  refine ogo (fun _ k => XS.iloadN X0.here hx rfl (hb hby d3_1) rfl k) ?_
  show OGo _ _ _ _ (s₁.setTop (mkF m 2 #[.val (.ref ob), .val (.int q1), .val (.long q2), .second, .val (.int q3), .val (.int q4)] [(.int q1), (.ref ob)]))
  obtain ⟨T_3_1, h_3_1, X_3_1, e_3_1, W_3_1, st_3_1⟩ := putF X0 hx hZ hown (host := "") (Or.inl (hw _ (List.mem_of_getElem? (i := 22) rfl))) Via.refl e0 P1 P0 (Or.inl (hw _ (List.mem_of_getElem? (i := 23) rfl))) (hw _ (List.mem_of_getElem? (i := 1) rfl)) (ty := .int) (by decide) rfl rfl (g := (mkF m 2 #[.val (.ref ob), .val (.int q1), .val (.long q2), .second, .val (.int q3), .val (.int q4)] [(.int q1), (.ref ob)])) rfl rfl (hb hby d3_2)
  have K_3_1 := K0.wr W_3_1 (Or.inl (List.mem_of_getElem? (i := 0) rfl))
  have f_3_2 := P0.wr W_3_1
  have f_3_3 := P1.same W_3_1
  have f_3_4 := P2.other W_3_1 (Or.inr (slot_ne (Or.inl (hw _ (List.mem_of_getElem? (i := 25) rfl))) (Or.inl (hw _ (List.mem_of_getElem? (i := 23) rfl))) (by decide) (t := .long) (t' := .int) (by decide) (by decide)))
  have f_3_5 := P3.other W_3_1 (Or.inr (slot_ne (Or.inl (hw _ (List.mem_of_getElem? (i := 10) rfl))) (Or.inl (hw _ (List.mem_of_getElem? (i := 23) rfl))) (by decide) (t := .int) (t' := .int) (by decide) (by decide)))
  have f_3_6 := P4.other W_3_1 (Or.inr (slot_ne (Or.inl (hw _ (List.mem_of_getElem? (i := 27) rfl))) (Or.inl (hw _ (List.mem_of_getElem? (i := 23) rfl))) (by decide) (t := .boolean) (t' := .int) (by decide) (by decide)))
  have f_3_7 := P5.other W_3_1 (Or.inr (slot_ne (Or.inl (hw _ (List.mem_of_getElem? (i := 54) rfl))) (Or.inl (hw _ (List.mem_of_getElem? (i := 23) rfl))) (by decide) (t := .int) (t' := .int) (by decide) (by decide)))
  have f_3_8 := P6.other W_3_1 (Or.inr (slot_ne (Or.inl (hw _ (List.mem_of_getElem? (i := 13) rfl))) (Or.inl (hw _ (List.mem_of_getElem? (i := 23) rfl))) (by decide) (t := (.array .long)) (t' := .int) (by decide) (by decide)))
  have f_3_9 := P7.other W_3_1 (Or.inr (slot_ne (Or.inl (hw _ (List.mem_of_getElem? (i := 16) rfl))) (Or.inl (hw _ (List.mem_of_getElem? (i := 23) rfl))) (by decide) (t := (.array .int)) (t' := .int) (by decide) (by decide)))
  have Z_3_1 : n0 ≤ h_3_1.size := Nat.le_trans Z0 (Keep.of_wr W_3_1).1
  obtain ⟨lc_3_1, N_3_1, X_3_1⟩ : ∃ L, Fr n0 L ∧ Stand p l e ({ frames := 0, cells := 0, slots := 0, locals := 0 } : Room) s m #[(.ref ob), (.int q1), (.long q2), (.int q3), (.int q4)] below meth c T_3_1 L 0 0 := ⟨_, Fr.snoc X_3_1 N0 g_ob, X_3_1⟩
  refine ogo (fun _ k => st_3_1 _ k) ?_
  show OGo _ _ _ _ (T_3_1.setTop (mkF m 5 #[.val (.ref ob), .val (.int q1), .val (.long q2), .second, .val (.int q3), .val (.int q4)] []))
  refine ogo (fun _ k => XS.aloadN X_3_1.here hx rfl (hb hby d3_5) rfl rfl k) ?_
  show OGo _ _ _ _ (T_3_1.setTop (mkF m 6 #[.val (.ref ob), .val (.int q1), .val (.long q2), .second, .val (.int q3), .val (.int q4)] [(.ref ob)]))
  refine ogo (fun _ k => XS.lloadN X_3_1.here hx rfl (hb hby d3_6) rfl k) ?_
  show OGo _ _ _ _ (T_3_1.setTop (mkF m 7 #[.val (.ref ob), .val (.int q1), .val (.long q2), .second, .val (.int q3), .val (.int q4)] [(.long q2), (.ref ob)]))
  obtain ⟨T_3_10, h_3_10, X_3_10, e_3_10, W_3_10, st_3_10⟩ := putF X_3_1 hx hZ hown (host := "") (Or.inl (hw _ (List.mem_of_getElem? (i := 24) rfl))) Via.refl e_3_1 f_3_4 f_3_2 (Or.inl (hw _ (List.mem_of_getElem? (i := 25) rfl))) (hw _ (List.mem_of_getElem? (i := 1) rfl)) (ty := .long) (by decide) rfl rfl (g := (mkF m 7 #[.val (.ref ob), .val (.int q1), .val (.long q2), .second, .val (.int q3), .val (.int q4)] [(.long q2), (.ref ob)])) rfl rfl (hb hby d3_7)
  have K_3_10 := K_3_1.wr W_3_10 (Or.inl (List.mem_of_getElem? (i := 0) rfl))
  have f_3_11 := f_3_2.wr W_3_10
  have f_3_12 := f_3_3.other W_3_10 (Or.inr (slot_ne (Or.inl (hw _ (List.mem_of_getElem? (i := 23) rfl))) (Or.inl (hw _ (List.mem_of_getElem? (i := 25) rfl))) (by decide) (t := .int) (t' := .long) (by decide) (by decide)))
  have f_3_13 := f_3_4.same W_3_10
  have f_3_14 := f_3_5.other W_3_10 (Or.inr (slot_ne (Or.inl (hw _ (List.mem_of_getElem? (i := 10) rfl))) (Or.inl (hw _ (List.mem_of_getElem? (i := 25) rfl))) (by decide) (t := .int) (t' := .long) (by decide) (by decide)))
  have f_3_15 := f_3_6.other W_3_10 (Or.inr (slot_ne (Or.inl (hw _ (List.mem_of_getElem? (i := 27) rfl))) (Or.inl (hw _ (List.mem_of_getElem? (i := 25) rfl))) (by decide) (t := .boolean) (t' := .long) (by decide) (by decide)))
  have f_3_16 := f_3_7.other W_3_10 (Or.inr (slot_ne (Or.inl (hw _ (List.mem_of_getElem? (i := 54) rfl))) (Or.inl (hw _ (List.mem_of_getElem? (i := 25) rfl))) (by decide) (t := .int) (t' := .long) (by decide) (by decide)))
  have f_3_17 := f_3_8.other W_3_10 (Or.inr (slot_ne (Or.inl (hw _ (List.mem_of_getElem? (i := 13) rfl))) (Or.inl (hw _ (List.mem_of_getElem? (i := 25) rfl))) (by decide) (t := (.array .long)) (t' := .long) (by decide) (by decide)))
  have f_3_18 := f_3_9.other W_3_10 (Or.inr (slot_ne (Or.inl (hw _ (List.mem_of_getElem? (i := 16) rfl))) (Or.inl (hw _ (List.mem_of_getElem? (i := 25) rfl))) (by decide) (t := (.array .int)) (t' := .long) (by decide) (by decide)))
  have Z_3_10 : n0 ≤ h_3_10.size := Nat.le_trans Z_3_1 (Keep.of_wr W_3_10).1
  obtain ⟨lc_3_10, N_3_10, X_3_10⟩ : ∃ L, Fr n0 L ∧ Stand p l e ({ frames := 0, cells := 0, slots := 0, locals := 0 } : Room) s m #[(.ref ob), (.int q1), (.long q2), (.int q3), (.int q4)] below meth c T_3_10 L 0 0 := ⟨_, Fr.snoc X_3_10 N_3_1 g_ob, X_3_10⟩
  refine ogo (fun _ k => st_3_10 _ k) ?_
  show OGo _ _ _ _ (T_3_10.setTop (mkF m 10 #[.val (.ref ob), .val (.int q1), .val (.long q2), .second, .val (.int q3), .val (.int q4)] []))
  refine ogo (fun _ k => XS.aloadN X_3_10.here hx rfl (hb hby d3_10) rfl rfl k) ?_
  show OGo _ _ _ _ (T_3_10.setTop (mkF m 11 #[.val (.ref ob), .val (.int q1), .val (.long q2), .second, .val (.int q3), .val (.int q4)] [(.ref ob)]))
  refine ogo (fun _ k => XS.iload X_3_10.here hx rfl (hb hby d3_11) rfl k) ?_
  show OGo _ _ _ _ (T_3_10.setTop (mkF m 13 #[.val (.ref ob), .val (.int q1), .val (.long q2), .second, .val (.int q3), .val (.int q4)] [(.int q3), (.ref ob)]))
  obtain ⟨T_3_19, h_3_19, X_3_19, e_3_19, W_3_19, st_3_19⟩ := putF X_3_10 hx hZ hown (host := "") (Or.inl (hw _ (List.mem_of_getElem? (i := 9) rfl))) Via.refl e_3_10 f_3_14 f_3_11 (Or.inl (hw _ (List.mem_of_getElem? (i := 10) rfl))) (hw _ (List.mem_of_getElem? (i := 1) rfl)) (ty := .int) (by decide) rfl rfl (g := (mkF m 13 #[.val (.ref ob), .val (.int q1), .val (.long q2), .second, .val (.int q3), .val (.int q4)] [(.int q3), (.ref ob)])) rfl rfl (hb hby d3_13)
  have K_3_19 := K_3_10.wr W_3_19 (Or.inl (List.mem_of_getElem? (i := 0) rfl))
  have f_3_20 := f_3_11.wr W_3_19
  have f_3_21 := f_3_12.other W_3_19 (Or.inr (slot_ne (Or.inl (hw _ (List.mem_of_getElem? (i := 23) rfl))) (Or.inl (hw _ (List.mem_of_getElem? (i := 10) rfl))) (by decide) (t := .int) (t' := .int) (by decide) (by decide)))
  have f_3_22 := f_3_13.other W_3_19 (Or.inr (slot_ne (Or.inl (hw _ (List.mem_of_getElem? (i := 25) rfl))) (Or.inl (hw _ (List.mem_of_getElem? (i := 10) rfl))) (by decide) (t := .long) (t' := .int) (by decide) (by decide)))
  have f_3_23 := f_3_14.same W_3_19
  have f_3_24 := f_3_15.other W_3_19 (Or.inr (slot_ne (Or.inl (hw _ (List.mem_of_getElem? (i := 27) rfl))) (Or.inl (hw _ (List.mem_of_getElem? (i := 10) rfl))) (by decide) (t := .boolean) (t' := .int) (by decide) (by decide)))
  have f_3_25 := f_3_16.other W_3_19 (Or.inr (slot_ne (Or.inl (hw _ (List.mem_of_getElem? (i := 54) rfl))) (Or.inl (hw _ (List.mem_of_getElem? (i := 10) rfl))) (by decide) (t := .int) (t' := .int) (by decide) (by decide)))
  have f_3_26 := f_3_17.other W_3_19 (Or.inr (slot_ne (Or.inl (hw _ (List.mem_of_getElem? (i := 13) rfl))) (Or.inl (hw _ (List.mem_of_getElem? (i := 10) rfl))) (by decide) (t := (.array .long)) (t' := .int) (by decide) (by decide)))
  have f_3_27 := f_3_18.other W_3_19 (Or.inr (slot_ne (Or.inl (hw _ (List.mem_of_getElem? (i := 16) rfl))) (Or.inl (hw _ (List.mem_of_getElem? (i := 10) rfl))) (by decide) (t := (.array .int)) (t' := .int) (by decide) (by decide)))
  have Z_3_19 : n0 ≤ h_3_19.size := Nat.le_trans Z_3_10 (Keep.of_wr W_3_19).1
  obtain ⟨lc_3_19, N_3_19, X_3_19⟩ : ∃ L, Fr n0 L ∧ Stand p l e ({ frames := 0, cells := 0, slots := 0, locals := 0 } : Room) s m #[(.ref ob), (.int q1), (.long q2), (.int q3), (.int q4)] below meth c T_3_19 L 0 0 := ⟨_, Fr.snoc X_3_19 N_3_10 g_ob, X_3_19⟩
  refine ogo (fun _ k => st_3_19 _ k) ?_
  show OGo _ _ _ _ (T_3_19.setTop (mkF m 16 #[.val (.ref ob), .val (.int q1), .val (.long q2), .second, .val (.int q3), .val (.int q4)] []))
  refine ogo (fun _ k => XS.aloadN X_3_19.here hx rfl (hb hby d3_16) rfl rfl k) ?_
  show OGo _ _ _ _ (T_3_19.setTop (mkF m 17 #[.val (.ref ob), .val (.int q1), .val (.long q2), .second, .val (.int q3), .val (.int q4)] [(.ref ob)]))
  refine ogo (fun _ k => XS.iload X_3_19.here hx rfl (hb hby d3_17) rfl k) ?_
  show OGo _ _ _ _ (T_3_19.setTop (mkF m 19 #[.val (.ref ob), .val (.int q1), .val (.long q2), .second, .val (.int q3), .val (.int q4)] [(.int q4), (.ref ob)]))
  obtain ⟨T_3_28, h_3_28, X_3_28, e_3_28, W_3_28, st_3_28⟩ := putFN X_3_19 hx hZ hown (hw _ (List.mem_of_getElem? (i := 26) rfl)) Via.refl e_3_19 f_3_24 f_3_20 (Or.inl (hw _ (List.mem_of_getElem? (i := 27) rfl))) (hw _ (List.mem_of_getElem? (i := 1) rfl)) (ty := .boolean) (v' := (.int q4)) (by decide) (onb hbo) (ofb hbo) (g := (mkF m 19 #[.val (.ref ob), .val (.int q1), .val (.long q2), .second, .val (.int q3), .val (.int q4)] [(.int q4), (.ref ob)])) rfl rfl (hb hby d3_19)
  have K_3_28 := K_3_19.wr W_3_28 (Or.inl (List.mem_of_getElem? (i := 0) rfl))
  have f_3_29 := f_3_20.wr W_3_28
  have f_3_30 := f_3_21.other W_3_28 (Or.inr (slot_ne (Or.inl (hw _ (List.mem_of_getElem? (i := 23) rfl))) (Or.inl (hw _ (List.mem_of_getElem? (i := 27) rfl))) (by decide) (t := .int) (t' := .boolean) (by decide) (by decide)))
  have f_3_31 := f_3_22.other W_3_28 (Or.inr (slot_ne (Or.inl (hw _ (List.mem_of_getElem? (i := 25) rfl))) (Or.inl (hw _ (List.mem_of_getElem? (i := 27) rfl))) (by decide) (t := .long) (t' := .boolean) (by decide) (by decide)))
  have f_3_32 := f_3_23.other W_3_28 (Or.inr (slot_ne (Or.inl (hw _ (List.mem_of_getElem? (i := 10) rfl))) (Or.inl (hw _ (List.mem_of_getElem? (i := 27) rfl))) (by decide) (t := .int) (t' := .boolean) (by decide) (by decide)))
  have f_3_33 := f_3_24.same W_3_28
  have f_3_34 := f_3_25.other W_3_28 (Or.inr (slot_ne (Or.inl (hw _ (List.mem_of_getElem? (i := 54) rfl))) (Or.inl (hw _ (List.mem_of_getElem? (i := 27) rfl))) (by decide) (t := .int) (t' := .boolean) (by decide) (by decide)))
  have f_3_35 := f_3_26.other W_3_28 (Or.inr (slot_ne (Or.inl (hw _ (List.mem_of_getElem? (i := 13) rfl))) (Or.inl (hw _ (List.mem_of_getElem? (i := 27) rfl))) (by decide) (t := (.array .long)) (t' := .boolean) (by decide) (by decide)))
  have f_3_36 := f_3_27.other W_3_28 (Or.inr (slot_ne (Or.inl (hw _ (List.mem_of_getElem? (i := 16) rfl))) (Or.inl (hw _ (List.mem_of_getElem? (i := 27) rfl))) (by decide) (t := (.array .int)) (t' := .boolean) (by decide) (by decide)))
  have Z_3_28 : n0 ≤ h_3_28.size := Nat.le_trans Z_3_19 (Keep.of_wr W_3_28).1
  obtain ⟨lc_3_28, N_3_28, X_3_28⟩ : ∃ L, Fr n0 L ∧ Stand p l e ({ frames := 0, cells := 0, slots := 0, locals := 0 } : Room) s m #[(.ref ob), (.int q1), (.long q2), (.int q3), (.int q4)] below meth c T_3_28 L 0 0 := ⟨_, Fr.snoc X_3_28 N_3_19 g_ob, X_3_28⟩
  refine ogo (fun _ k => st_3_28 _ k) ?_
  show OGo _ _ _ _ (T_3_28.setTop (mkF m 22 #[.val (.ref ob), .val (.int q1), .val (.long q2), .second, .val (.int q3), .val (.int q4)] []))
  exact oretV X_3_28 hx hlk Bd.returns (hb hby d3_22) (by decide) (by decide) (by rw [e_3_28]; exact ⟨rfl, N_3_28, K_3_28, f_3_30, f_3_31, f_3_32, f_3_33, f_3_34, f_3_35, f_3_36⟩)
theorem d10_0 : decode prog_30_method_18_code 0 = .ok (.aload_n 0, 1) := by decide +kernel
theorem d10_1 : decode prog_30_method_18_code 1 = .ok (.getfield 38, 3) := by decide +kernel
theorem d10_4 : decode prog_30_method_18_code 4 = .ok (.aload_n 0, 1) := by decide +kernel
theorem d10_5 : decode prog_30_method_18_code 5 = .ok (.getfield 13, 3) := by decide +kernel
theorem d10_8 : decode prog_30_method_18_code 8 = .ok (.arraylength, 1) := by decide +kernel
theorem d10_9 : decode prog_30_method_18_code 9 = .ok (.if_icmp .ne 37, 3) := by decide +kernel
theorem d10_46 : decode prog_30_method_18_code 46 = .ok (.aload_n 0, 1) := by decide +kernel
theorem d10_47 : decode prog_30_method_18_code 47 = .ok (.getfield 13, 3) := by decide +kernel
theorem d10_50 : decode prog_30_method_18_code 50 = .ok (.aload_n 0, 1) := by decide +kernel
theorem d10_51 : decode prog_30_method_18_code 51 = .ok (.getfield 38, 3) := by decide +kernel
theorem d10_54 : decode prog_30_method_18_code 54 = .ok (.lload_n 1, 1) := by decide +kernel
theorem d10_55 : decode prog_30_method_18_code 55 = .ok (.lastore, 1) := by decide +kernel
theorem d10_56 : decode prog_30_method_18_code 56 = .ok (.aload_n 0, 1) := by decide +kernel
theorem d10_57 : decode prog_30_method_18_code 57 = .ok (.getfield 17, 3) := by decide +kernel
theorem d10_60 : decode prog_30_method_18_code 60 = .ok (.aload_n 0, 1) := by decide +kernel
theorem d10_61 : decode prog_30_method_18_code 61 = .ok (.getfield 38, 3) := by decide +kernel
theorem d10_64 : decode prog_30_method_18_code 64 = .ok (.iload_n 3, 1) := by decide +kernel
theorem d10_65 : decode prog_30_method_18_code 65 = .ok (.iastore, 1) := by decide +kernel
theorem d10_66 : decode prog_30_method_18_code 66 = .ok (.aload_n 0, 1) := by decide +kernel
theorem d10_67 : decode prog_30_method_18_code 67 = .ok (.dup, 1) := by decide +kernel
theorem d10_68 : decode prog_30_method_18_code 68 = .ok (.getfield 38, 3) := by decide +kernel
theorem d10_71 : decode prog_30_method_18_code 71 = .ok (.iconst 1, 1) := by decide +kernel
theorem d10_72 : decode prog_30_method_18_code 72 = .ok (.iadd, 1) := by decide +kernel
theorem d10_73 : decode prog_30_method_18_code 73 = .ok (.putfield 38, 3) := by decide +kernel
theorem d10_76 : decode prog_30_method_18_code 76 = .ok (.return_, 1) := by decide +kernel
theorem pn_10 : plainName "com/example/bouncr/bouncr/KeyRecord" = true := by first | (simp [plainName, overriddenIn]; done) | decide +kernel
theorem ef_10 (m : MethodId) (x0 : Addr) (x1 : Int64) (x2 : Int32) : entryFrame m #[(.ref x0), (.long x1), (.int x2)] 4 = mkF m 0 #[.val (.ref x0), .val (.long x1), .second, .val (.int x2)] [] := by first | (simp [entryFrame, mkF, argsToLocals, Value.category]; done) | rfl
set_option maxRecDepth 65536 in
set_option maxHeartbeats 40000000 in
theorem rm10 (l : Launch) (Z : State) (a0 : Array Value) (hw : ∀ d ∈ tables_1, d.before a0 Z = true) (ob : Addr) (q1 : Int64) (q2 : Int32) (u0 : Int32) (u1 : Int64) (u2 : Int32) (u3 : Int32) (sa : Addr) (na : Addr) (h0 : Heap) (n0 : Nat) (Z0 : n0 ≤ h0.size) (P0 : Exa Z h0 ob "com/example/bouncr/bouncr/KeyRecord") (P1 : Fld Z h0 ob "com/example/bouncr/bouncr/KeyRecord" "failures" "I" (.int u0)) (P2 : Fld Z h0 ob "com/example/bouncr/bouncr/KeyRecord" "lastSecond" "J" (.long u1)) (P3 : Fld Z h0 ob "com/example/bouncr/bouncr/KeyRecord" "lastNano" "I" (.int u2)) (P4 : Fld Z h0 ob "com/example/bouncr/bouncr/KeyRecord" "refusedOnly" "Z" (.int u3)) (P5 : Fld Z h0 ob "com/example/bouncr/bouncr/KeyRecord" "placeCount" "I" (.int (0 : Int32))) (P6 : Fld Z h0 ob "com/example/bouncr/bouncr/KeyRecord" "placeSeconds" "[J" (.ref sa)) (P7 : Fld Z h0 ob "com/example/bouncr/bouncr/KeyRecord" "placeNanos" "[I" (.ref na)) (P8 : OAr Z h0 sa .long 1 (fun i => .long ((fun _ : Nat => (0 : Int64)) i))) (P9 : OAr Z h0 na .int 1 (fun i => .int ((fun _ : Nat => (0 : Int32)) i))) (g_ob : n0 ≤ ob) (g_sa : n0 ≤ sa) (g_na : n0 ≤ na) (ne_ob_sa : ob ≠ sa) (ne_ob_na : ob ≠ na) (ne_sa_na : sa ≠ na) :
    OMet l Z (⟨"com/example/bouncr/bouncr/KeyRecord", "takePlace", "(JI)V"⟩ : MethodName) prog_30_method_18_code 4 none ({ frames := 0, cells := 0, slots := 0, locals := 0 } : Room) #[(.ref ob), (.long q1), (.int q2)] h0 (fun v h L => v = none ∧ Fr n0 L ∧ Keep h0 h [ob, sa, na] ∧ Fld Z h ob "com/example/bouncr/bouncr/KeyRecord" "failures" "I" (.int u0) ∧ Fld Z h ob "com/example/bouncr/bouncr/KeyRecord" "lastSecond" "J" (.long u1) ∧ Fld Z h ob "com/example/bouncr/bouncr/KeyRecord" "lastNano" "I" (.int u2) ∧ Fld Z h ob "com/example/bouncr/bouncr/KeyRecord" "refusedOnly" "Z" (.int u3) ∧ Fld Z h ob "com/example/bouncr/bouncr/KeyRecord" "placeCount" "I" (.int (1 : Int32)) ∧ Fld Z h ob "com/example/bouncr/bouncr/KeyRecord" "placeSeconds" "[J" (.ref sa) ∧ Fld Z h ob "com/example/bouncr/bouncr/KeyRecord" "placeNanos" "[I" (.ref na) ∧ OAr Z h sa .long 1 (fun i => .long ((fun i : Nat => if i = ((0 : Int32)).toNatClampNeg then q1 else (fun _ : Nat => (0 : Int64)) i) i)) ∧ OAr Z h na .int 1 (fun i => .int ((fun i : Nat => if i = ((0 : Int32)).toNatClampNeg then q2 else (fun _ : Nat => (0 : Int32)) i) i))) := by
  intro ws
  refine MetFree.of_bodySF (plainFor_of_name pn_10) hisR ?_
  intro p e s m args below meth c s₁ Bd hml0 hP hK
  obtain ⟨rfl, hZ, hh⟩ := hP
  have hx := Bd.exec
  have hby := Bd.bytes
  have hml : c.maxLocals = 4 := hml0
  have hown : s.vm.findClass "com/example/bouncr/bouncr/KeyRecord" = some m.cls := findClass_of_methodNamed Bd.named
  have hnm := (name_of_methodNamed Bd.named Bd.method).1
  have hlk : meth.locks = false := Bd.notSynchronized
  have X0 : Stand p l e ({ frames := 0, cells := 0, slots := 0, locals := 0 } : Room) s m #[(.ref ob), (.long q1), (.int q2)] below meth c s₁ [] 0 0 := Stand.of_body Bd
  have e0 : s₁.heap = h0 := by rw [← hh, Bd.state]; rfl
  have N0 := Fr.nil n0
  have K0 := Keep.refl h0 [ob, sa, na]
  refine (?_ : OGo p.tables e below (OFin s (fun v h L => v = none ∧ Fr n0 L ∧ Keep h0 h [ob, sa, na] ∧ Fld Z h ob "com/example/bouncr/bouncr/KeyRecord" "failures" "I" (.int u0) ∧ Fld Z h ob "com/example/bouncr/bouncr/KeyRecord" "lastSecond" "J" (.long u1) ∧ Fld Z h ob "com/example/bouncr/bouncr/KeyRecord" "lastNano" "I" (.int u2) ∧ Fld Z h ob "com/example/bouncr/bouncr/KeyRecord" "refusedOnly" "Z" (.int u3) ∧ Fld Z h ob "com/example/bouncr/bouncr/KeyRecord" "placeCount" "I" (.int (1 : Int32)) ∧ Fld Z h ob "com/example/bouncr/bouncr/KeyRecord" "placeSeconds" "[J" (.ref sa) ∧ Fld Z h ob "com/example/bouncr/bouncr/KeyRecord" "placeNanos" "[I" (.ref na) ∧ OAr Z h sa .long 1 (fun i => .long ((fun i : Nat => if i = ((0 : Int32)).toNatClampNeg then q1 else (fun _ : Nat => (0 : Int64)) i) i)) ∧ OAr Z h na .int 1 (fun i => .int ((fun i : Nat => if i = ((0 : Int32)).toNatClampNeg then q2 else (fun _ : Nat => (0 : Int32)) i) i))) 0 0) _)
  refine ogo (fun _ k => castTop (ef_10 m ob q1 q2) k) ?_
  show OGo _ _ _ _ (s₁.setTop (mkF m 0 #[.val (.ref ob), .val (.long q1), .second, .val (.int q2)] []))
  refine ogo (fun _ k => XS.aloadN X0.here hx rfl (hb hby d10_0) rfl rfl k) ?_
  show OGo _ _ _ _ (s₁.setTop (mkF m 1 #[.val (.ref ob), .val (.long q1), .second, .val (.int q2)] [(.ref ob)]))
  obtain ⟨T_10_1, X_10_1, e_10_1, st_10_1⟩ := getF X0 hx hZ hown (host := "") (Or.inl (hw _ (List.mem_of_getElem? (i := 53) rfl))) Via.refl e0 P5 (g := (mkF m 1 #[.val (.ref ob), .val (.long q1), .second, .val (.int q2)] [(.ref ob)])) rfl rfl (hb hby d10_1)
  refine ogo (fun _ k => st_10_1 _ k) ?_
  show OGo _ _ _ _ (T_10_1.setTop (mkF m 4 #[.val (.ref ob), .val (.long q1), .second, .val (.int q2)] [(.int (0 : Int32))]))
  refine ogo (fun _ k => XS.aloadN X_10_1.here hx rfl (hb hby d10_4) rfl rfl k) ?_
  show OGo _ _ _ _ (T_10_1.setTop (mkF m 5 #[.val (.ref ob), .val (.long q1), .second, .val (.int q2)] [(.ref ob), (.int (0 : Int32))]))
  obtain ⟨T_10_2, X_10_2, e_10_2, st_10_2⟩ := getF X_10_1 hx hZ hown (host := "") (Or.inl (hw _ (List.mem_of_getElem? (i := 12) rfl))) Via.refl e_10_1 P6 (g := (mkF m 5 #[.val (.ref ob), .val (.long q1), .second, .val (.int q2)] [(.ref ob), (.int (0 : Int32))])) rfl rfl (hb hby d10_5)
  refine ogo (fun _ k => st_10_2 _ k) ?_
  show OGo _ _ _ _ (T_10_2.setTop (mkF m 8 #[.val (.ref ob), .val (.long q1), .second, .val (.int q2)] [(.ref sa), (.int (0 : Int32))]))
  refine ogo (fun _ k => oalen X_10_2 hx hZ e_10_2 P8 (g := (mkF m 8 #[.val (.ref ob), .val (.long q1), .second, .val (.int q2)] [(.ref sa), (.int (0 : Int32))])) rfl rfl (hb hby d10_8) _ k) ?_
  show OGo _ _ _ _ (T_10_2.setTop (mkF m 9 #[.val (.ref ob), .val (.long q1), .second, .val (.int q2)] [(.int (1 : Int32)), (.int (0 : Int32))]))
  refine ogo (fun _ k => XS.icmpYes X_10_2.here hx rfl (pc0 := 9) (pc' := 46) rfl (hb hby d10_9) rfl (feq (by decide : ¬ ((0 : Int32) = (1 : Int32)))).2 (by decide) (by decide) k) ?_
  show OGo _ _ _ _ (T_10_2.setTop (mkF m 46 #[.val (.ref ob), .val (.long q1), .second, .val (.int q2)] []))
  refine ogo (fun _ k => XS.aloadN X_10_2.here hx rfl (hb hby d10_46) rfl rfl k) ?_
  show OGo _ _ _ _ (T_10_2.setTop (mkF m 47 #[.val (.ref ob), .val (.long q1), .second, .val (.int q2)] [(.ref ob)]))
  obtain ⟨T_10_3, X_10_3, e_10_3, st_10_3⟩ := getF X_10_2 hx hZ hown (host := "") (Or.inl (hw _ (List.mem_of_getElem? (i := 12) rfl))) Via.refl e_10_2 P6 (g := (mkF m 47 #[.val (.ref ob), .val (.long q1), .second, .val (.int q2)] [(.ref ob)])) rfl rfl (hb hby d10_47)
  refine ogo (fun _ k => st_10_3 _ k) ?_
  show OGo _ _ _ _ (T_10_3.setTop (mkF m 50 #[.val (.ref ob), .val (.long q1), .second, .val (.int q2)] [(.ref sa)]))
  refine ogo (fun _ k => XS.aloadN X_10_3.here hx rfl (hb hby d10_50) rfl rfl k) ?_
  show OGo _ _ _ _ (T_10_3.setTop (mkF m 51 #[.val (.ref ob), .val (.long q1), .second, .val (.int q2)] [(.ref ob), (.ref sa)]))
  obtain ⟨T_10_4, X_10_4, e_10_4, st_10_4⟩ := getF X_10_3 hx hZ hown (host := "") (Or.inl (hw _ (List.mem_of_getElem? (i := 53) rfl))) Via.refl e_10_3 P5 (g := (mkF m 51 #[.val (.ref ob), .val (.long q1), .second, .val (.int q2)] [(.ref ob), (.ref sa)])) rfl rfl (hb hby d10_51)
  refine ogo (fun _ k => st_10_4 _ k) ?_
  show OGo _ _ _ _ (T_10_4.setTop (mkF m 54 #[.val (.ref ob), .val (.long q1), .second, .val (.int q2)] [(.int (0 : Int32)), (.ref sa)]))
  refine ogo (fun _ k => XS.lloadN X_10_4.here hx rfl (hb hby d10_54) rfl k) ?_
  show OGo _ _ _ _ (T_10_4.setTop (mkF m 55 #[.val (.ref ob), .val (.long q1), .second, .val (.int q2)] [(.long q1), (.int (0 : Int32)), (.ref sa)]))
  obtain ⟨T_10_5, h_10_5, X_10_5, e_10_5, W_10_5, V_10_5, st_10_5⟩ := ostJ X_10_4 hx hZ e_10_4 P8 (by decide) (by decide) (g := (mkF m 55 #[.val (.ref ob), .val (.long q1), .second, .val (.int q2)] [(.long q1), (.int (0 : Int32)), (.ref sa)])) rfl rfl (hb hby d10_55)
  have Y_10_5 : OAr Z h_10_5 sa .long 1 (fun i => .long ((fun i : Nat => if i = ((0 : Int32)).toNatClampNeg then q1 else (fun _ : Nat => (0 : Int64)) i) i)) := V_10_5.conv (fun i _ => by dsimp only; split <;> rfl)
  have K_10_5 := K0.wr W_10_5 (Or.inl (List.mem_of_getElem? (i := 1) rfl))
  have f_10_6 := P0.wr W_10_5
  have f_10_7 := P1.other W_10_5 (Or.inl ne_ob_sa)
  have f_10_8 := P2.other W_10_5 (Or.inl ne_ob_sa)
  have f_10_9 := P3.other W_10_5 (Or.inl ne_ob_sa)
  have f_10_10 := P4.other W_10_5 (Or.inl ne_ob_sa)
  have f_10_11 := P5.other W_10_5 (Or.inl ne_ob_sa)
  have f_10_12 := P6.other W_10_5 (Or.inl ne_ob_sa)
  have f_10_13 := P7.other W_10_5 (Or.inl ne_ob_sa)
  have f_10_14 := P9.other W_10_5 (Ne.symm ne_sa_na)
  have Z_10_5 : n0 ≤ h_10_5.size := Nat.le_trans Z0 (Keep.of_wr W_10_5).1
  obtain ⟨lc_10_5, N_10_5, X_10_5⟩ : ∃ L, Fr n0 L ∧ Stand p l e ({ frames := 0, cells := 0, slots := 0, locals := 0 } : Room) s m #[(.ref ob), (.long q1), (.int q2)] below meth c T_10_5 L 0 0 := ⟨_, Fr.snoc X_10_5 N0 g_sa, X_10_5⟩
  refine ogo (fun _ k => st_10_5 _ k) ?_
  show OGo _ _ _ _ (T_10_5.setTop (mkF m 56 #[.val (.ref ob), .val (.long q1), .second, .val (.int q2)] []))
  refine ogo (fun _ k => XS.aloadN X_10_5.here hx rfl (hb hby d10_56) rfl rfl k) ?_
  show OGo _ _ _ _ (T_10_5.setTop (mkF m 57 #[.val (.ref ob), .val (.long q1), .second, .val (.int q2)] [(.ref ob)]))
  obtain ⟨T_10_15, X_10_15, e_10_15, st_10_15⟩ := getF X_10_5 hx hZ hown (host := "") (Or.inl (hw _ (List.mem_of_getElem? (i := 15) rfl))) Via.refl e_10_5 f_10_13 (g := (mkF m 57 #[.val (.ref ob), .val (.long q1), .second, .val (.int q2)] [(.ref ob)])) rfl rfl (hb hby d10_57)
  refine ogo (fun _ k => st_10_15 _ k) ?_
  show OGo _ _ _ _ (T_10_15.setTop (mkF m 60 #[.val (.ref ob), .val (.long q1), .second, .val (.int q2)] [(.ref na)]))
  refine ogo (fun _ k => XS.aloadN X_10_15.here hx rfl (hb hby d10_60) rfl rfl k) ?_
  show OGo _ _ _ _ (T_10_15.setTop (mkF m 61 #[.val (.ref ob), .val (.long q1), .second, .val (.int q2)] [(.ref ob), (.ref na)]))
  obtain ⟨T_10_16, X_10_16, e_10_16, st_10_16⟩ := getF X_10_15 hx hZ hown (host := "") (Or.inl (hw _ (List.mem_of_getElem? (i := 53) rfl))) Via.refl e_10_15 f_10_11 (g := (mkF m 61 #[.val (.ref ob), .val (.long q1), .second, .val (.int q2)] [(.ref ob), (.ref na)])) rfl rfl (hb hby d10_61)
  refine ogo (fun _ k => st_10_16 _ k) ?_
  show OGo _ _ _ _ (T_10_16.setTop (mkF m 64 #[.val (.ref ob), .val (.long q1), .second, .val (.int q2)] [(.int (0 : Int32)), (.ref na)]))
  refine ogo (fun _ k => XS.iloadN X_10_16.here hx rfl (hb hby d10_64) rfl k) ?_
  show OGo _ _ _ _ (T_10_16.setTop (mkF m 65 #[.val (.ref ob), .val (.long q1), .second, .val (.int q2)] [(.int q2), (.int (0 : Int32)), (.ref na)]))
  obtain ⟨T_10_17, h_10_17, X_10_17, e_10_17, W_10_17, V_10_17, st_10_17⟩ := ostI X_10_16 hx hZ e_10_16 f_10_14 (by decide) (by decide) (g := (mkF m 65 #[.val (.ref ob), .val (.long q1), .second, .val (.int q2)] [(.int q2), (.int (0 : Int32)), (.ref na)])) rfl rfl (hb hby d10_65)
  have Y_10_17 : OAr Z h_10_17 na .int 1 (fun i => .int ((fun i : Nat => if i = ((0 : Int32)).toNatClampNeg then q2 else (fun _ : Nat => (0 : Int32)) i) i)) := V_10_17.conv (fun i _ => by dsimp only; split <;> rfl)
  have K_10_17 := K_10_5.wr W_10_17 (Or.inl (List.mem_of_getElem? (i := 2) rfl))
  have f_10_18 := f_10_6.wr W_10_17
  have f_10_19 := f_10_7.other W_10_17 (Or.inl ne_ob_na)
  have f_10_20 := f_10_8.other W_10_17 (Or.inl ne_ob_na)
  have f_10_21 := f_10_9.other W_10_17 (Or.inl ne_ob_na)
  have f_10_22 := f_10_10.other W_10_17 (Or.inl ne_ob_na)
  have f_10_23 := f_10_11.other W_10_17 (Or.inl ne_ob_na)
  have f_10_24 := f_10_12.other W_10_17 (Or.inl ne_ob_na)
  have f_10_25 := f_10_13.other W_10_17 (Or.inl ne_ob_na)
  have f_10_26 := Y_10_5.other W_10_17 ne_sa_na
  have Z_10_17 : n0 ≤ h_10_17.size := Nat.le_trans Z_10_5 (Keep.of_wr W_10_17).1
  obtain ⟨lc_10_17, N_10_17, X_10_17⟩ : ∃ L, Fr n0 L ∧ Stand p l e ({ frames := 0, cells := 0, slots := 0, locals := 0 } : Room) s m #[(.ref ob), (.long q1), (.int q2)] below meth c T_10_17 L 0 0 := ⟨_, Fr.snoc X_10_17 N_10_5 g_na, X_10_17⟩
  refine ogo (fun _ k => st_10_17 _ k) ?_
  show OGo _ _ _ _ (T_10_17.setTop (mkF m 66 #[.val (.ref ob), .val (.long q1), .second, .val (.int q2)] []))
  refine ogo (fun _ k => XS.aloadN X_10_17.here hx rfl (hb hby d10_66) rfl rfl k) ?_
  show OGo _ _ _ _ (T_10_17.setTop (mkF m 67 #[.val (.ref ob), .val (.long q1), .second, .val (.int q2)] [(.ref ob)]))
  refine ogo (fun _ k => XS.dup X_10_17.here hx rfl (hb hby d10_67) rfl rfl k) ?_
  show OGo _ _ _ _ (T_10_17.setTop (mkF m 68 #[.val (.ref ob), .val (.long q1), .second, .val (.int q2)] [(.ref ob), (.ref ob)]))
  obtain ⟨T_10_27, X_10_27, e_10_27, st_10_27⟩ := getF X_10_17 hx hZ hown (host := "") (Or.inl (hw _ (List.mem_of_getElem? (i := 53) rfl))) Via.refl e_10_17 f_10_23 (g := (mkF m 68 #[.val (.ref ob), .val (.long q1), .second, .val (.int q2)] [(.ref ob), (.ref ob)])) rfl rfl (hb hby d10_68)
  refine ogo (fun _ k => st_10_27 _ k) ?_
  show OGo _ _ _ _ (T_10_27.setTop (mkF m 71 #[.val (.ref ob), .val (.long q1), .second, .val (.int q2)] [(.int (0 : Int32)), (.ref ob)]))
  refine ogo (fun _ k => XS.iconst X_10_27.here hx rfl (hb hby d10_71) k) ?_
  show OGo _ _ _ _ (T_10_27.setTop (mkF m 72 #[.val (.ref ob), .val (.long q1), .second, .val (.int q2)] [(.int (1 : Int32)), (.int (0 : Int32)), (.ref ob)]))
  refine ogo (fun _ k => XS.iadd X_10_27.here hx rfl (hb hby d10_72) rfl k) ?_
  show OGo _ _ _ _ (T_10_27.setTop (mkF m 73 #[.val (.ref ob), .val (.long q1), .second, .val (.int q2)] [(.int (1 : Int32)), (.ref ob)]))
  obtain ⟨T_10_28, h_10_28, X_10_28, e_10_28, W_10_28, st_10_28⟩ := putF X_10_27 hx hZ hown (host := "") (Or.inl (hw _ (List.mem_of_getElem? (i := 53) rfl))) Via.refl e_10_27 f_10_23 f_10_18 (Or.inl (hw _ (List.mem_of_getElem? (i := 54) rfl))) (hw _ (List.mem_of_getElem? (i := 1) rfl)) (ty := .int) (by decide) rfl rfl (g := (mkF m 73 #[.val (.ref ob), .val (.long q1), .second, .val (.int q2)] [(.int (1 : Int32)), (.ref ob)])) rfl rfl (hb hby d10_73)
  have K_10_28 := K_10_17.wr W_10_28 (Or.inl (List.mem_of_getElem? (i := 0) rfl))
  have f_10_29 := f_10_18.wr W_10_28
  have f_10_30 := f_10_19.other W_10_28 (Or.inr (slot_ne (Or.inl (hw _ (List.mem_of_getElem? (i := 23) rfl))) (Or.inl (hw _ (List.mem_of_getElem? (i := 54) rfl))) (by decide) (t := .int) (t' := .int) (by decide) (by decide)))
  have f_10_31 := f_10_20.other W_10_28 (Or.inr (slot_ne (Or.inl (hw _ (List.mem_of_getElem? (i := 25) rfl))) (Or.inl (hw _ (List.mem_of_getElem? (i := 54) rfl))) (by decide) (t := .long) (t' := .int) (by decide) (by decide)))
  have f_10_32 := f_10_21.other W_10_28 (Or.inr (slot_ne (Or.inl (hw _ (List.mem_of_getElem? (i := 10) rfl))) (Or.inl (hw _ (List.mem_of_getElem? (i := 54) rfl))) (by decide) (t := .int) (t' := .int) (by decide) (by decide)))
  have f_10_33 := f_10_22.other W_10_28 (Or.inr (slot_ne (Or.inl (hw _ (List.mem_of_getElem? (i := 27) rfl))) (Or.inl (hw _ (List.mem_of_getElem? (i := 54) rfl))) (by decide) (t := .boolean) (t' := .int) (by decide) (by decide)))
  have f_10_34 := f_10_23.same W_10_28
  have f_10_35 := f_10_24.other W_10_28 (Or.inr (slot_ne (Or.inl (hw _ (List.mem_of_getElem? (i := 13) rfl))) (Or.inl (hw _ (List.mem_of_getElem? (i := 54) rfl))) (by decide) (t := (.array .long)) (t' := .int) (by decide) (by decide)))
  have f_10_36 := f_10_25.other W_10_28 (Or.inr (slot_ne (Or.inl (hw _ (List.mem_of_getElem? (i := 16) rfl))) (Or.inl (hw _ (List.mem_of_getElem? (i := 54) rfl))) (by decide) (t := (.array .int)) (t' := .int) (by decide) (by decide)))
  have f_10_37 := f_10_26.other W_10_28 (Ne.symm ne_ob_sa)
  have f_10_38 := Y_10_17.other W_10_28 (Ne.symm ne_ob_na)
  have Z_10_28 : n0 ≤ h_10_28.size := Nat.le_trans Z_10_17 (Keep.of_wr W_10_28).1
  obtain ⟨lc_10_28, N_10_28, X_10_28⟩ : ∃ L, Fr n0 L ∧ Stand p l e ({ frames := 0, cells := 0, slots := 0, locals := 0 } : Room) s m #[(.ref ob), (.long q1), (.int q2)] below meth c T_10_28 L 0 0 := ⟨_, Fr.snoc X_10_28 N_10_17 g_ob, X_10_28⟩
  refine ogo (fun _ k => st_10_28 _ k) ?_
  show OGo _ _ _ _ (T_10_28.setTop (mkF m 76 #[.val (.ref ob), .val (.long q1), .second, .val (.int q2)] []))
  exact oretV X_10_28 hx hlk Bd.returns (hb hby d10_76) (by decide) (by decide) (by rw [e_10_28]; exact ⟨rfl, N_10_28, K_10_28, f_10_30, f_10_31, f_10_32, f_10_33, f_10_34, f_10_35, f_10_36, f_10_37, f_10_38⟩)
theorem d4_0 : decode prog_30_method_2_code 0 = .ok (.aload_n 0, 1) := by decide +kernel
theorem d4_1 : decode prog_30_method_2_code 1 = .ok (.getfield 21, 3) := by decide +kernel
theorem d4_4 : decode prog_30_method_2_code 4 = .ok (.ireturn, 1) := by decide +kernel
theorem pn_4 : plainName "com/example/bouncr/bouncr/KeyRecord" = true := by first | (simp [plainName, overriddenIn]; done) | decide +kernel
theorem ef_4 (m : MethodId) (x0 : Addr) : entryFrame m #[(.ref x0)] 1 = mkF m 0 #[.val (.ref x0)] [] := by first | (simp [entryFrame, mkF, argsToLocals, Value.category]; done) | rfl
def failuresF  (u : Int32) : Int32 := u
set_option maxRecDepth 65536 in
set_option maxHeartbeats 40000000 in
theorem rm4 (l : Launch) (Z : State) (a0 : Array Value) (hw : ∀ d ∈ tables_1, d.before a0 Z = true) (ob : Addr) (u : Int32) (h0 : Heap) (P0 : Fld Z h0 ob "com/example/bouncr/bouncr/KeyRecord" "failures" "I" (.int u)) :
    OMet l Z (⟨"com/example/bouncr/bouncr/KeyRecord", "failures", "()I"⟩ : MethodName) prog_30_method_2_code 1 (some .int) ({ frames := 0, cells := 0, slots := 0, locals := 0 } : Room) #[(.ref ob)] h0 (OPure (some (.int (failuresF u))) h0) := by
  intro ws
  refine MetFree.of_bodySF (plainFor_of_name pn_4) hisR ?_
  intro p e s m args below meth c s₁ Bd hml0 hP hK
  obtain ⟨rfl, hZ, hh⟩ := hP
  have hx := Bd.exec
  have hby := Bd.bytes
  have hml : c.maxLocals = 1 := hml0
  have hown : s.vm.findClass "com/example/bouncr/bouncr/KeyRecord" = some m.cls := findClass_of_methodNamed Bd.named
  have hnm := (name_of_methodNamed Bd.named Bd.method).1
  have hlk : meth.locks = false := Bd.notSynchronized
  have X0 : Stand p l e ({ frames := 0, cells := 0, slots := 0, locals := 0 } : Room) s m #[(.ref ob)] below meth c s₁ [] 0 0 := Stand.of_body Bd
  have e0 : s₁.heap = h0 := by rw [← hh, Bd.state]; rfl
  refine (?_ : OGo p.tables e below (OFin s (OPure (some (.int (failuresF u))) h0) 0 0) _)
  refine ogo (fun _ k => castTop (ef_4 m ob) k) ?_
  show OGo _ _ _ _ (s₁.setTop (mkF m 0 #[.val (.ref ob)] []))
  refine ogo (fun _ k => XS.aloadN X0.here hx rfl (hb hby d4_0) rfl rfl k) ?_
  show OGo _ _ _ _ (s₁.setTop (mkF m 1 #[.val (.ref ob)] [(.ref ob)]))
  obtain ⟨T_4_1, X_4_1, e_4_1, st_4_1⟩ := getF X0 hx hZ hown (host := "") (Or.inl (hw _ (List.mem_of_getElem? (i := 22) rfl))) Via.refl e0 P0 (g := (mkF m 1 #[.val (.ref ob)] [(.ref ob)])) rfl rfl (hb hby d4_1)
  refine ogo (fun _ k => st_4_1 _ k) ?_
  show OGo _ _ _ _ (T_4_1.setTop (mkF m 4 #[.val (.ref ob)] [(.int u)]))
  exact oret X_4_1 hx hlk Bd.returns rfl (Or.inl ⟨rfl, Or.inl rfl, _, rfl⟩) (hb hby d4_4) (by decide) (by decide) ⟨by rfl, rfl, e_4_1⟩
theorem d5_0 : decode prog_30_method_4_code 0 = .ok (.aload_n 0, 1) := by decide +kernel
theorem d5_1 : decode prog_30_method_4_code 1 = .ok (.getfield 24, 3) := by decide +kernel
theorem d5_4 : decode prog_30_method_4_code 4 = .ok (.lreturn, 1) := by decide +kernel
theorem pn_5 : plainName "com/example/bouncr/bouncr/KeyRecord" = true := by first | (simp [plainName, overriddenIn]; done) | decide +kernel
theorem ef_5 (m : MethodId) (x0 : Addr) : entryFrame m #[(.ref x0)] 1 = mkF m 0 #[.val (.ref x0)] [] := by first | (simp [entryFrame, mkF, argsToLocals, Value.category]; done) | rfl
def secondF  (u : Int64) : Int64 := u
set_option maxRecDepth 65536 in
set_option maxHeartbeats 40000000 in
theorem rm5 (l : Launch) (Z : State) (a0 : Array Value) (hw : ∀ d ∈ tables_1, d.before a0 Z = true) (ob : Addr) (u : Int64) (h0 : Heap) (P0 : Fld Z h0 ob "com/example/bouncr/bouncr/KeyRecord" "lastSecond" "J" (.long u)) :
    OMet l Z (⟨"com/example/bouncr/bouncr/KeyRecord", "lastFailureSecond", "()J"⟩ : MethodName) prog_30_method_4_code 1 (some .long) ({ frames := 0, cells := 0, slots := 0, locals := 0 } : Room) #[(.ref ob)] h0 (OPure (some (.long (secondF u))) h0) := by
  intro ws
  refine MetFree.of_bodySF (plainFor_of_name pn_5) hisR ?_
  intro p e s m args below meth c s₁ Bd hml0 hP hK
  obtain ⟨rfl, hZ, hh⟩ := hP
  have hx := Bd.exec
  have hby := Bd.bytes
  have hml : c.maxLocals = 1 := hml0
  have hown : s.vm.findClass "com/example/bouncr/bouncr/KeyRecord" = some m.cls := findClass_of_methodNamed Bd.named
  have hnm := (name_of_methodNamed Bd.named Bd.method).1
  have hlk : meth.locks = false := Bd.notSynchronized
  have X0 : Stand p l e ({ frames := 0, cells := 0, slots := 0, locals := 0 } : Room) s m #[(.ref ob)] below meth c s₁ [] 0 0 := Stand.of_body Bd
  have e0 : s₁.heap = h0 := by rw [← hh, Bd.state]; rfl
  refine (?_ : OGo p.tables e below (OFin s (OPure (some (.long (secondF u))) h0) 0 0) _)
  refine ogo (fun _ k => castTop (ef_5 m ob) k) ?_
  show OGo _ _ _ _ (s₁.setTop (mkF m 0 #[.val (.ref ob)] []))
  refine ogo (fun _ k => XS.aloadN X0.here hx rfl (hb hby d5_0) rfl rfl k) ?_
  show OGo _ _ _ _ (s₁.setTop (mkF m 1 #[.val (.ref ob)] [(.ref ob)]))
  obtain ⟨T_5_1, X_5_1, e_5_1, st_5_1⟩ := getF X0 hx hZ hown (host := "") (Or.inl (hw _ (List.mem_of_getElem? (i := 24) rfl))) Via.refl e0 P0 (g := (mkF m 1 #[.val (.ref ob)] [(.ref ob)])) rfl rfl (hb hby d5_1)
  refine ogo (fun _ k => st_5_1 _ k) ?_
  show OGo _ _ _ _ (T_5_1.setTop (mkF m 4 #[.val (.ref ob)] [(.long u)]))
  exact oret X_5_1 hx hlk Bd.returns rfl (Or.inr (Or.inl ⟨rfl, rfl, _, rfl⟩)) (hb hby d5_4) (by decide) (by decide) ⟨by rfl, rfl, e_5_1⟩
theorem d6_0 : decode prog_30_method_5_code 0 = .ok (.aload_n 0, 1) := by decide +kernel
theorem d6_1 : decode prog_30_method_5_code 1 = .ok (.getfield 9, 3) := by decide +kernel
theorem d6_4 : decode prog_30_method_5_code 4 = .ok (.ireturn, 1) := by decide +kernel
theorem pn_6 : plainName "com/example/bouncr/bouncr/KeyRecord" = true := by first | (simp [plainName, overriddenIn]; done) | decide +kernel
theorem ef_6 (m : MethodId) (x0 : Addr) : entryFrame m #[(.ref x0)] 1 = mkF m 0 #[.val (.ref x0)] [] := by first | (simp [entryFrame, mkF, argsToLocals, Value.category]; done) | rfl
def nanoF  (u : Int32) : Int32 := u
set_option maxRecDepth 65536 in
set_option maxHeartbeats 40000000 in
theorem rm6 (l : Launch) (Z : State) (a0 : Array Value) (hw : ∀ d ∈ tables_1, d.before a0 Z = true) (ob : Addr) (u : Int32) (h0 : Heap) (P0 : Fld Z h0 ob "com/example/bouncr/bouncr/KeyRecord" "lastNano" "I" (.int u)) :
    OMet l Z (⟨"com/example/bouncr/bouncr/KeyRecord", "lastFailureNano", "()I"⟩ : MethodName) prog_30_method_5_code 1 (some .int) ({ frames := 0, cells := 0, slots := 0, locals := 0 } : Room) #[(.ref ob)] h0 (OPure (some (.int (nanoF u))) h0) := by
  intro ws
  refine MetFree.of_bodySF (plainFor_of_name pn_6) hisR ?_
  intro p e s m args below meth c s₁ Bd hml0 hP hK
  obtain ⟨rfl, hZ, hh⟩ := hP
  have hx := Bd.exec
  have hby := Bd.bytes
  have hml : c.maxLocals = 1 := hml0
  have hown : s.vm.findClass "com/example/bouncr/bouncr/KeyRecord" = some m.cls := findClass_of_methodNamed Bd.named
  have hnm := (name_of_methodNamed Bd.named Bd.method).1
  have hlk : meth.locks = false := Bd.notSynchronized
  have X0 : Stand p l e ({ frames := 0, cells := 0, slots := 0, locals := 0 } : Room) s m #[(.ref ob)] below meth c s₁ [] 0 0 := Stand.of_body Bd
  have e0 : s₁.heap = h0 := by rw [← hh, Bd.state]; rfl
  refine (?_ : OGo p.tables e below (OFin s (OPure (some (.int (nanoF u))) h0) 0 0) _)
  refine ogo (fun _ k => castTop (ef_6 m ob) k) ?_
  show OGo _ _ _ _ (s₁.setTop (mkF m 0 #[.val (.ref ob)] []))
  refine ogo (fun _ k => XS.aloadN X0.here hx rfl (hb hby d6_0) rfl rfl k) ?_
  show OGo _ _ _ _ (s₁.setTop (mkF m 1 #[.val (.ref ob)] [(.ref ob)]))
  obtain ⟨T_6_1, X_6_1, e_6_1, st_6_1⟩ := getF X0 hx hZ hown (host := "") (Or.inl (hw _ (List.mem_of_getElem? (i := 9) rfl))) Via.refl e0 P0 (g := (mkF m 1 #[.val (.ref ob)] [(.ref ob)])) rfl rfl (hb hby d6_1)
  refine ogo (fun _ k => st_6_1 _ k) ?_
  show OGo _ _ _ _ (T_6_1.setTop (mkF m 4 #[.val (.ref ob)] [(.int u)]))
  exact oret X_6_1 hx hlk Bd.returns rfl (Or.inl ⟨rfl, Or.inl rfl, _, rfl⟩) (hb hby d6_4) (by decide) (by decide) ⟨by rfl, rfl, e_6_1⟩
theorem d7_0 : decode prog_30_method_6_code 0 = .ok (.aload_n 0, 1) := by decide +kernel
theorem d7_1 : decode prog_30_method_6_code 1 = .ok (.getfield 34, 3) := by decide +kernel
theorem d7_4 : decode prog_30_method_6_code 4 = .ok (.ireturn, 1) := by decide +kernel
theorem pn_7 : plainName "com/example/bouncr/bouncr/KeyRecord" = true := by first | (simp [plainName, overriddenIn]; done) | decide +kernel
theorem ef_7 (m : MethodId) (x0 : Addr) : entryFrame m #[(.ref x0)] 1 = mkF m 0 #[.val (.ref x0)] [] := by first | (simp [entryFrame, mkF, argsToLocals, Value.category]; done) | rfl
def refusedF  (u : Int32) : Int32 := u
set_option maxRecDepth 65536 in
set_option maxHeartbeats 40000000 in
theorem rm7 (l : Launch) (Z : State) (a0 : Array Value) (hw : ∀ d ∈ tables_1, d.before a0 Z = true) (ob : Addr) (u : Int32) (h0 : Heap) (P0 : Fld Z h0 ob "com/example/bouncr/bouncr/KeyRecord" "refusedOnly" "Z" (.int u)) (hbo : u = 0 ∨ u = 1) :
    OMet l Z (⟨"com/example/bouncr/bouncr/KeyRecord", "refusedOnly", "()Z"⟩ : MethodName) prog_30_method_6_code 1 (some .boolean) ({ frames := 0, cells := 0, slots := 0, locals := 0 } : Room) #[(.ref ob)] h0 (OPure (some (.int (refusedF u))) h0) := by
  intro ws
  refine MetFree.of_bodySF (plainFor_of_name pn_7) hisR ?_
  intro p e s m args below meth c s₁ Bd hml0 hP hK
  obtain ⟨rfl, hZ, hh⟩ := hP
  have hx := Bd.exec
  have hby := Bd.bytes
  have hml : c.maxLocals = 1 := hml0
  have hown : s.vm.findClass "com/example/bouncr/bouncr/KeyRecord" = some m.cls := findClass_of_methodNamed Bd.named
  have hnm := (name_of_methodNamed Bd.named Bd.method).1
  have hlk : meth.locks = false := Bd.notSynchronized
  have X0 : Stand p l e ({ frames := 0, cells := 0, slots := 0, locals := 0 } : Room) s m #[(.ref ob)] below meth c s₁ [] 0 0 := Stand.of_body Bd
  have e0 : s₁.heap = h0 := by rw [← hh, Bd.state]; rfl
  refine (?_ : OGo p.tables e below (OFin s (OPure (some (.int (refusedF u))) h0) 0 0) _)
  refine ogo (fun _ k => castTop (ef_7 m ob) k) ?_
  show OGo _ _ _ _ (s₁.setTop (mkF m 0 #[.val (.ref ob)] []))
  refine ogo (fun _ k => XS.aloadN X0.here hx rfl (hb hby d7_0) rfl rfl k) ?_
  show OGo _ _ _ _ (s₁.setTop (mkF m 1 #[.val (.ref ob)] [(.ref ob)]))
  obtain ⟨T_7_1, X_7_1, e_7_1, st_7_1⟩ := getF X0 hx hZ hown (host := "") (Or.inl (hw _ (List.mem_of_getElem? (i := 26) rfl))) Via.refl e0 P0 (g := (mkF m 1 #[.val (.ref ob)] [(.ref ob)])) rfl rfl (hb hby d7_1)
  refine ogo (fun _ k => st_7_1 _ k) ?_
  show OGo _ _ _ _ (T_7_1.setTop (mkF m 4 #[.val (.ref ob)] [(.int u)]))
  exact oret X_7_1 hx hlk Bd.returns (onb hbo) (Or.inl ⟨rfl, Or.inr (Or.inl rfl), _, rfl⟩) (hb hby d7_4) (by decide) (by decide) ⟨by rfl, rfl, e_7_1⟩
theorem d8_0 : decode prog_30_method_7_code 0 = .ok (.aload_n 0, 1) := by decide +kernel
theorem d8_1 : decode prog_30_method_7_code 1 = .ok (.getfield 38, 3) := by decide +kernel
theorem d8_4 : decode prog_30_method_7_code 4 = .ok (.ireturn, 1) := by decide +kernel
theorem pn_8 : plainName "com/example/bouncr/bouncr/KeyRecord" = true := by first | (simp [plainName, overriddenIn]; done) | decide +kernel
theorem ef_8 (m : MethodId) (x0 : Addr) : entryFrame m #[(.ref x0)] 1 = mkF m 0 #[.val (.ref x0)] [] := by first | (simp [entryFrame, mkF, argsToLocals, Value.category]; done) | rfl
def placesF  (u : Int32) : Int32 := u
set_option maxRecDepth 65536 in
set_option maxHeartbeats 40000000 in
theorem rm8 (l : Launch) (Z : State) (a0 : Array Value) (hw : ∀ d ∈ tables_1, d.before a0 Z = true) (ob : Addr) (u : Int32) (h0 : Heap) (P0 : Fld Z h0 ob "com/example/bouncr/bouncr/KeyRecord" "placeCount" "I" (.int u)) :
    OMet l Z (⟨"com/example/bouncr/bouncr/KeyRecord", "places", "()I"⟩ : MethodName) prog_30_method_7_code 1 (some .int) ({ frames := 0, cells := 0, slots := 0, locals := 0 } : Room) #[(.ref ob)] h0 (OPure (some (.int (placesF u))) h0) := by
  intro ws
  refine MetFree.of_bodySF (plainFor_of_name pn_8) hisR ?_
  intro p e s m args below meth c s₁ Bd hml0 hP hK
  obtain ⟨rfl, hZ, hh⟩ := hP
  have hx := Bd.exec
  have hby := Bd.bytes
  have hml : c.maxLocals = 1 := hml0
  have hown : s.vm.findClass "com/example/bouncr/bouncr/KeyRecord" = some m.cls := findClass_of_methodNamed Bd.named
  have hnm := (name_of_methodNamed Bd.named Bd.method).1
  have hlk : meth.locks = false := Bd.notSynchronized
  have X0 : Stand p l e ({ frames := 0, cells := 0, slots := 0, locals := 0 } : Room) s m #[(.ref ob)] below meth c s₁ [] 0 0 := Stand.of_body Bd
  have e0 : s₁.heap = h0 := by rw [← hh, Bd.state]; rfl
  refine (?_ : OGo p.tables e below (OFin s (OPure (some (.int (placesF u))) h0) 0 0) _)
  refine ogo (fun _ k => castTop (ef_8 m ob) k) ?_
  show OGo _ _ _ _ (s₁.setTop (mkF m 0 #[.val (.ref ob)] []))
  refine ogo (fun _ k => XS.aloadN X0.here hx rfl (hb hby d8_0) rfl rfl k) ?_
  show OGo _ _ _ _ (s₁.setTop (mkF m 1 #[.val (.ref ob)] [(.ref ob)]))
  obtain ⟨T_8_1, X_8_1, e_8_1, st_8_1⟩ := getF X0 hx hZ hown (host := "") (Or.inl (hw _ (List.mem_of_getElem? (i := 53) rfl))) Via.refl e0 P0 (g := (mkF m 1 #[.val (.ref ob)] [(.ref ob)])) rfl rfl (hb hby d8_1)
  refine ogo (fun _ k => st_8_1 _ k) ?_
  show OGo _ _ _ _ (T_8_1.setTop (mkF m 4 #[.val (.ref ob)] [(.int u)]))
  exact oret X_8_1 hx hlk Bd.returns rfl (Or.inl ⟨rfl, Or.inl rfl, _, rfl⟩) (hb hby d8_4) (by decide) (by decide) ⟨by rfl, rfl, e_8_1⟩
theorem d9_0 : decode prog_30_method_13_code 0 = .ok (.aload_n 0, 1) := by decide +kernel
theorem d9_1 : decode prog_30_method_13_code 1 = .ok (.getfield 21, 3) := by decide +kernel
theorem d9_4 : decode prog_30_method_13_code 4 = .ok (.ifCond .ne 14, 3) := by decide +kernel
theorem d9_7 : decode prog_30_method_13_code 7 = .ok (.aload_n 0, 1) := by decide +kernel
theorem d9_8 : decode prog_30_method_13_code 8 = .ok (.getfield 38, 3) := by decide +kernel
theorem d9_11 : decode prog_30_method_13_code 11 = .ok (.ifCond .ne 7, 3) := by decide +kernel
theorem d9_14 : decode prog_30_method_13_code 14 = .ok (.iconst 1, 1) := by decide +kernel
theorem d9_15 : decode prog_30_method_13_code 15 = .ok (.goto 4, 3) := by decide +kernel
theorem d9_18 : decode prog_30_method_13_code 18 = .ok (.iconst 0, 1) := by decide +kernel
theorem d9_19 : decode prog_30_method_13_code 19 = .ok (.ireturn, 1) := by decide +kernel
theorem pn_9 : plainName "com/example/bouncr/bouncr/KeyRecord" = true := by first | (simp [plainName, overriddenIn]; done) | decide +kernel
theorem ef_9 (m : MethodId) (x0 : Addr) : entryFrame m #[(.ref x0)] 1 = mkF m 0 #[.val (.ref x0)] [] := by first | (simp [entryFrame, mkF, argsToLocals, Value.category]; done) | rfl
def emptyF  (u : Int32) (uc : Int32) : Int32 := (let w_9_8 : Int32 := (if u = (0 : Int32) then (if uc = (0 : Int32) then (1 : Int32) else (0 : Int32)) else (0 : Int32)); w_9_8)
set_option maxRecDepth 65536 in
set_option maxHeartbeats 40000000 in
theorem rm9 (l : Launch) (Z : State) (a0 : Array Value) (hw : ∀ d ∈ tables_1, d.before a0 Z = true) (ob : Addr) (u : Int32) (uc : Int32) (h0 : Heap) (P0 : Fld Z h0 ob "com/example/bouncr/bouncr/KeyRecord" "failures" "I" (.int u)) (P1 : Fld Z h0 ob "com/example/bouncr/bouncr/KeyRecord" "placeCount" "I" (.int uc)) :
    OMet l Z (⟨"com/example/bouncr/bouncr/KeyRecord", "isEmpty", "()Z"⟩ : MethodName) prog_30_method_13_code 1 (some .boolean) ({ frames := 0, cells := 0, slots := 0, locals := 0 } : Room) #[(.ref ob)] h0 (OPure (some (.int (emptyF u uc))) h0) := by
  intro ws
  refine MetFree.of_bodySF (plainFor_of_name pn_9) hisR ?_
  intro p e s m args below meth c s₁ Bd hml0 hP hK
  obtain ⟨rfl, hZ, hh⟩ := hP
  have hx := Bd.exec
  have hby := Bd.bytes
  have hml : c.maxLocals = 1 := hml0
  have hown : s.vm.findClass "com/example/bouncr/bouncr/KeyRecord" = some m.cls := findClass_of_methodNamed Bd.named
  have hnm := (name_of_methodNamed Bd.named Bd.method).1
  have hlk : meth.locks = false := Bd.notSynchronized
  have X0 : Stand p l e ({ frames := 0, cells := 0, slots := 0, locals := 0 } : Room) s m #[(.ref ob)] below meth c s₁ [] 0 0 := Stand.of_body Bd
  have e0 : s₁.heap = h0 := by rw [← hh, Bd.state]; rfl
  refine (?_ : OGo p.tables e below (OFin s (OPure (some (.int (emptyF u uc))) h0) 0 0) _)
  refine ogo (fun _ k => castTop (ef_9 m ob) k) ?_
  show OGo _ _ _ _ (s₁.setTop (mkF m 0 #[.val (.ref ob)] []))
  refine ogo (fun _ k => XS.aloadN X0.here hx rfl (hb hby d9_0) rfl rfl k) ?_
  show OGo _ _ _ _ (s₁.setTop (mkF m 1 #[.val (.ref ob)] [(.ref ob)]))
  obtain ⟨T_9_1, X_9_1, e_9_1, st_9_1⟩ := getF X0 hx hZ hown (host := "") (Or.inl (hw _ (List.mem_of_getElem? (i := 22) rfl))) Via.refl e0 P0 (g := (mkF m 1 #[.val (.ref ob)] [(.ref ob)])) rfl rfl (hb hby d9_1)
  refine ogo (fun _ k => st_9_1 _ k) ?_
  show OGo _ _ _ _ (T_9_1.setTop (mkF m 4 #[.val (.ref ob)] [(.int u)]))
  suffices J_9_9 : ∀ (w_9_8 : Int32) (hw_9_8 : w_9_8 = (if u = (0 : Int32) then (if uc = (0 : Int32) then (1 : Int32) else (0 : Int32)) else (0 : Int32))) (T_9_10 : State) (X_9_10 : Stand p l e ({ frames := 0, cells := 0, slots := 0, locals := 0 } : Room) s m #[(.ref ob)] below meth c T_9_10 [] 0 0) (e_9_10 : T_9_10.heap = h0), OGo p.tables e below (OFin s (OPure (some (.int (emptyF u uc))) h0) 0 0) (T_9_10.setTop (mkF m 19 #[.val (.ref ob)] [(.int w_9_8)])) by
    by_cases hc_9_2 : u = (0 : Int32)
    · refine ogo (fun _ k => XS.ifNo X_9_1.here hx rfl (hb hby d9_4) rfl ((if0 _ _).trans (teq hc_9_2).2) k) ?_
      show OGo _ _ _ _ (T_9_1.setTop (mkF m 7 #[.val (.ref ob)] []))
      refine ogo (fun _ k => XS.aloadN X_9_1.here hx rfl (hb hby d9_7) rfl rfl k) ?_
      show OGo _ _ _ _ (T_9_1.setTop (mkF m 8 #[.val (.ref ob)] [(.ref ob)]))
      obtain ⟨T_9_3, X_9_3, e_9_3, st_9_3⟩ := getF X_9_1 hx hZ hown (host := "") (Or.inl (hw _ (List.mem_of_getElem? (i := 53) rfl))) Via.refl e_9_1 P1 (g := (mkF m 8 #[.val (.ref ob)] [(.ref ob)])) rfl rfl (hb hby d9_8)
      refine ogo (fun _ k => st_9_3 _ k) ?_
      show OGo _ _ _ _ (T_9_3.setTop (mkF m 11 #[.val (.ref ob)] [(.int uc)]))
      suffices J_9_6 : ∀ (w_9_5 : Int32) (hw_9_5 : w_9_5 = (if uc = (0 : Int32) then (1 : Int32) else (0 : Int32))), OGo p.tables e below (OFin s (OPure (some (.int (emptyF u uc))) h0) 0 0) (T_9_3.setTop (mkF m 19 #[.val (.ref ob)] [(.int w_9_5)])) by
        by_cases hc_9_4 : uc = (0 : Int32)
        · refine ogo (fun _ k => XS.ifNo X_9_3.here hx rfl (hb hby d9_11) rfl ((if0 _ _).trans (teq hc_9_4).2) k) ?_
          show OGo _ _ _ _ (T_9_3.setTop (mkF m 14 #[.val (.ref ob)] []))
          refine ogo (fun _ k => XS.iconst X_9_3.here hx rfl (hb hby d9_14) k) ?_
          show OGo _ _ _ _ (T_9_3.setTop (mkF m 15 #[.val (.ref ob)] [(.int (1 : Int32))]))
          refine ogo (fun _ k => XS.goto X_9_3.here hx rfl (pc0 := 15) (pc' := 19) rfl (hb hby d9_15) (by decide) (by decide) k) ?_
          show OGo _ _ _ _ (T_9_3.setTop (mkF m 19 #[.val (.ref ob)] [(.int (1 : Int32))]))
          exact J_9_6 _ (if_pos hc_9_4).symm
        · refine ogo (fun _ k => XS.ifYes X_9_3.here hx rfl (pc0 := 11) (pc' := 18) rfl (hb hby d9_11) rfl ((if0 _ _).trans (feq hc_9_4).2) (by decide) (by decide) k) ?_
          show OGo _ _ _ _ (T_9_3.setTop (mkF m 18 #[.val (.ref ob)] []))
          refine ogo (fun _ k => XS.iconst X_9_3.here hx rfl (hb hby d9_18) k) ?_
          show OGo _ _ _ _ (T_9_3.setTop (mkF m 19 #[.val (.ref ob)] [(.int (0 : Int32))]))
          exact J_9_6 _ (if_neg hc_9_4).symm
      intro w_9_5 hw_9_5
      subst hw_9_5
      exact J_9_9 _ (if_pos hc_9_2).symm _ X_9_3 e_9_3
    · refine ogo (fun _ k => XS.ifYes X_9_1.here hx rfl (pc0 := 4) (pc' := 18) rfl (hb hby d9_4) rfl ((if0 _ _).trans (feq hc_9_2).2) (by decide) (by decide) k) ?_
      show OGo _ _ _ _ (T_9_1.setTop (mkF m 18 #[.val (.ref ob)] []))
      refine ogo (fun _ k => XS.iconst X_9_1.here hx rfl (hb hby d9_18) k) ?_
      show OGo _ _ _ _ (T_9_1.setTop (mkF m 19 #[.val (.ref ob)] [(.int (0 : Int32))]))
      exact J_9_9 _ (if_neg hc_9_2).symm _ X_9_1 e_9_1
  intro w_9_8 hw_9_8 T_9_10 X_9_10 e_9_10
  exact oret X_9_10 hx hlk Bd.returns (onb (by subst hw_9_8; repeat' first | decide | apply oif01)) (Or.inl ⟨rfl, Or.inr (Or.inl rfl), _, rfl⟩) (hb hby d9_19) (by decide) (by decide) ⟨by subst hw_9_8; rfl, rfl, e_9_10⟩
theorem d13_0 : decode jdk_41_method_11_code 0 = .ok (.iload_n 0, 1) := by decide +kernel
theorem d13_1 : decode jdk_41_method_11_code 1 = .ok (.ifCond .lt 8, 3) := by decide +kernel
theorem d13_4 : decode jdk_41_method_11_code 4 = .ok (.iload_n 0, 1) := by decide +kernel
theorem d13_5 : decode jdk_41_method_11_code 5 = .ok (.iload_n 1, 1) := by decide +kernel
theorem d13_6 : decode jdk_41_method_11_code 6 = .ok (.if_icmp .lt 10, 3) := by decide +kernel
theorem d13_16 : decode jdk_41_method_11_code 16 = .ok (.iload_n 0, 1) := by decide +kernel
theorem d13_17 : decode jdk_41_method_11_code 17 = .ok (.ireturn, 1) := by decide +kernel
theorem pn_13 : plainName "jdk/internal/util/Preconditions" = true := by first | (simp [plainName, overriddenIn]; done) | decide +kernel
theorem ef_13 (m : MethodId) (x0 : Int32) (x1 : Int32) : entryFrame m #[(.int x0), (.int x1), .null] 3 = mkF m 0 #[.val (.int x0), .val (.int x1), .val .null] [] := by first | (simp [entryFrame, mkF, argsToLocals, Value.category]; done) | rfl
def preF (qi : Int32) (qn : Int32)  : Int32 := qi
set_option maxRecDepth 65536 in
set_option maxHeartbeats 40000000 in
theorem rm13 (l : Launch) (Z : State) (a0 : Array Value) (hw : ∀ d ∈ tables_1, d.before a0 Z = true) (qi : Int32) (qn : Int32)  (h0 : Heap) (h1 : ¬ (qi < (0 : Int32))) (h2 : qi < qn) :
    OMet l Z (⟨"jdk/internal/util/Preconditions", "checkIndex", "(IILjava/util/function/BiFunction;)I"⟩ : MethodName) jdk_41_method_11_code 3 (some .int) ({ frames := 0, cells := 0, slots := 0, locals := 0 } : Room) #[(.int qi), (.int qn), .null] h0 (OPure (some (.int (preF qi qn))) h0) := by
  intro ws
  refine MetFree.of_bodySF (plainFor_of_name pn_13) hisR ?_
  intro p e s m args below meth c s₁ Bd hml0 hP hK
  obtain ⟨rfl, hZ, hh⟩ := hP
  have hx := Bd.exec
  have hby := Bd.bytes
  have hml : c.maxLocals = 3 := hml0
  have hown : s.vm.findClass "jdk/internal/util/Preconditions" = some m.cls := findClass_of_methodNamed Bd.named
  have hnm := (name_of_methodNamed Bd.named Bd.method).1
  have hlk : meth.locks = false := Bd.notSynchronized
  have X0 : Stand p l e ({ frames := 0, cells := 0, slots := 0, locals := 0 } : Room) s m #[(.int qi), (.int qn), .null] below meth c s₁ [] 0 0 := Stand.of_body Bd
  have e0 : s₁.heap = h0 := by rw [← hh, Bd.state]; rfl
  refine (?_ : OGo p.tables e below (OFin s (OPure (some (.int (preF qi qn))) h0) 0 0) _)
  refine ogo (fun _ k => castTop (ef_13 m qi qn) k) ?_
  show OGo _ _ _ _ (s₁.setTop (mkF m 0 #[.val (.int qi), .val (.int qn), .val .null] []))
  refine ogo (fun _ k => XS.iloadN X0.here hx rfl (hb hby d13_0) rfl k) ?_
  show OGo _ _ _ _ (s₁.setTop (mkF m 1 #[.val (.int qi), .val (.int qn), .val .null] [(.int qi)]))
  refine ogo (fun _ k => XS.ifNo X0.here hx rfl (hb hby d13_1) rfl ((if0 _ _).trans (flt h1).1) k) ?_
  show OGo _ _ _ _ (s₁.setTop (mkF m 4 #[.val (.int qi), .val (.int qn), .val .null] []))
  refine ogo (fun _ k => XS.iloadN X0.here hx rfl (hb hby d13_4) rfl k) ?_
  show OGo _ _ _ _ (s₁.setTop (mkF m 5 #[.val (.int qi), .val (.int qn), .val .null] [(.int qi)]))
  refine ogo (fun _ k => XS.iloadN X0.here hx rfl (hb hby d13_5) rfl k) ?_
  show OGo _ _ _ _ (s₁.setTop (mkF m 6 #[.val (.int qi), .val (.int qn), .val .null] [(.int qn), (.int qi)]))
  refine ogo (fun _ k => XS.icmpYes X0.here hx rfl (pc0 := 6) (pc' := 16) rfl (hb hby d13_6) rfl (tlt h2).1 (by decide) (by decide) k) ?_
  show OGo _ _ _ _ (s₁.setTop (mkF m 16 #[.val (.int qi), .val (.int qn), .val .null] []))
  refine ogo (fun _ k => XS.iloadN X0.here hx rfl (hb hby d13_16) rfl k) ?_
  show OGo _ _ _ _ (s₁.setTop (mkF m 17 #[.val (.int qi), .val (.int qn), .val .null] [(.int qi)]))
  exact oret X0 hx hlk Bd.returns rfl (Or.inl ⟨rfl, Or.inl rfl, _, rfl⟩) (hb hby d13_17) (by decide) (by decide) ⟨by rfl, rfl, e0⟩
theorem d12_0 : decode jdk_31_method_17_code 0 = .ok (.iload_n 0, 1) := by decide +kernel
theorem d12_1 : decode jdk_31_method_17_code 1 = .ok (.iload_n 1, 1) := by decide +kernel
theorem d12_2 : decode jdk_31_method_17_code 2 = .ok (.aconst_null, 1) := by decide +kernel
theorem d12_3 : decode jdk_31_method_17_code 3 = .ok (.invokestatic 105, 3) := by decide +kernel
theorem d12_6 : decode jdk_31_method_17_code 6 = .ok (.ireturn, 1) := by decide +kernel
theorem pn_12 : plainName "java/util/Objects" = true := by first | (simp [plainName, overriddenIn]; done) | decide +kernel
theorem ef_12 (m : MethodId) (x0 : Int32) (x1 : Int32) : entryFrame m #[(.int x0), (.int x1)] 2 = mkF m 0 #[.val (.int x0), .val (.int x1)] [] := by first | (simp [entryFrame, mkF, argsToLocals, Value.category]; done) | rfl
theorem pd__IILjava_util_function_BiFunction__I : parseMethodDescriptor "(IILjava/util/function/BiFunction;)I" = some ⟨[.int, .int, (.object "java/util/function/BiFunction")], some .int⟩ := by decide +kernel
def chkF (qi : Int32) (qn : Int32)  : Int32 := (preF qi qn)
set_option maxRecDepth 65536 in
set_option maxHeartbeats 40000000 in
theorem rm12 (l : Launch) (Z : State) (a0 : Array Value) (hw : ∀ d ∈ tables_1, d.before a0 Z = true) (qi : Int32) (qn : Int32)  (h0 : Heap) (h1 : ¬ (qi < (0 : Int32))) (h2 : qi < qn) :
    OMet l Z (⟨"java/util/Objects", "checkIndex", "(II)I"⟩ : MethodName) jdk_31_method_17_code 2 (some .int) ({ frames := 1, cells := 0, slots := 0, locals := 14 } : Room) #[(.int qi), (.int qn)] h0 (OPure (some (.int (chkF qi qn))) h0) := by
  intro ws
  refine MetFree.of_bodySF (plainFor_of_name pn_12) hisR ?_
  intro p e s m args below meth c s₁ Bd hml0 hP hK
  obtain ⟨rfl, hZ, hh⟩ := hP
  have hx := Bd.exec
  have hby := Bd.bytes
  have hml : c.maxLocals = 2 := hml0
  have hown : s.vm.findClass "java/util/Objects" = some m.cls := findClass_of_methodNamed Bd.named
  have hnm := (name_of_methodNamed Bd.named Bd.method).1
  have hlk : meth.locks = false := Bd.notSynchronized
  have X0 : Stand p l e ({ frames := 1, cells := 0, slots := 0, locals := 14 } : Room) s m #[(.int qi), (.int qn)] below meth c s₁ [] 0 0 := Stand.of_body Bd
  have e0 : s₁.heap = h0 := by rw [← hh, Bd.state]; rfl
  refine (?_ : OGo p.tables e below (OFin s (OPure (some (.int (chkF qi qn))) h0) 0 0) _)
  refine ogo (fun _ k => castTop (ef_12 m qi qn) k) ?_
  show OGo _ _ _ _ (s₁.setTop (mkF m 0 #[.val (.int qi), .val (.int qn)] []))
  refine ogo (fun _ k => XS.iloadN X0.here hx rfl (hb hby d12_0) rfl k) ?_
  show OGo _ _ _ _ (s₁.setTop (mkF m 1 #[.val (.int qi), .val (.int qn)] [(.int qi)]))
  refine ogo (fun _ k => XS.iloadN X0.here hx rfl (hb hby d12_1) rfl k) ?_
  show OGo _ _ _ _ (s₁.setTop (mkF m 2 #[.val (.int qi), .val (.int qn)] [(.int qn), (.int qi)]))
  refine ogo (fun _ k => XS.aconstNull X0.here hx rfl (hb hby d12_2) k) ?_
  show OGo _ _ _ _ (s₁.setTop (mkF m 3 #[.val (.int qi), .val (.int qn)] [.null, (.int qn), (.int qi)]))
  obtain ⟨T_12_1, X_12_1, e_12_1, st_12_1⟩ := ocallP X0 hx hZ e0 (rm13 l Z a0 hw qi qn  h0 h1 h2) hown (hw _ (List.mem_of_getElem? (i := 75) rfl)) (hw _ (List.mem_of_getElem? (i := 76) rfl)) (hw _ (List.mem_of_getElem? (i := 77) rfl)) (hw _ (List.mem_of_getElem? (i := 78) rfl)) (by decide) (g := (mkF m 3 #[.val (.int qi), .val (.int qn)] [.null, (.int qn), (.int qi)])) rfl (by rw [hml]; rfl) [(.int qi), (.int qn), .null] [] rfl (lenOf pd__IILjava_util_function_BiFunction__I rfl) rfl (hb hby d12_3) 0 (by show 2 * 0 + _ ≤ _; exact Nat.le_of_eq rfl) (by decide) (by decide) (by decide) (by decide) rfl rfl
  refine ogo (fun _ k => st_12_1 _ k) ?_
  show OGo _ _ _ _ (T_12_1.setTop (mkF m 6 #[.val (.int qi), .val (.int qn)] [(.int (preF qi qn))]))
  exact oret X_12_1 hx hlk Bd.returns rfl (Or.inl ⟨rfl, Or.inl rfl, _, rfl⟩) (hb hby d12_6) (by decide) (by decide) ⟨by rfl, rfl, e_12_1⟩
theorem d11_0 : decode prog_30_method_9_code 0 = .ok (.iload_n 1, 1) := by decide +kernel
theorem d11_1 : decode prog_30_method_9_code 1 = .ok (.aload_n 0, 1) := by decide +kernel
theorem d11_2 : decode prog_30_method_9_code 2 = .ok (.getfield 38, 3) := by decide +kernel
theorem d11_5 : decode prog_30_method_9_code 5 = .ok (.invokestatic 49, 3) := by decide +kernel
theorem d11_8 : decode prog_30_method_9_code 8 = .ok (.pop, 1) := by decide +kernel
theorem d11_9 : decode prog_30_method_9_code 9 = .ok (.aload_n 0, 1) := by decide +kernel
theorem d11_10 : decode prog_30_method_9_code 10 = .ok (.getfield 13, 3) := by decide +kernel
theorem d11_13 : decode prog_30_method_9_code 13 = .ok (.iload_n 1, 1) := by decide +kernel
theorem d11_14 : decode prog_30_method_9_code 14 = .ok (.laload, 1) := by decide +kernel
theorem d11_15 : decode prog_30_method_9_code 15 = .ok (.lreturn, 1) := by decide +kernel
theorem pn_11 : plainName "com/example/bouncr/bouncr/KeyRecord" = true := by first | (simp [plainName, overriddenIn]; done) | decide +kernel
theorem ef_11 (m : MethodId) (x0 : Addr) (x1 : Int32) : entryFrame m #[(.ref x0), (.int x1)] 2 = mkF m 0 #[.val (.ref x0), .val (.int x1)] [] := by first | (simp [entryFrame, mkF, argsToLocals, Value.category]; done) | rfl
theorem pd__II_I : parseMethodDescriptor "(II)I" = some ⟨[.int, .int], some .int⟩ := by decide +kernel
def plSecF (qi : Int32) (u : Int32)  (fa : Nat → Int64) : Int64 := (fa (qi).toNatClampNeg)
set_option maxRecDepth 65536 in
set_option maxHeartbeats 40000000 in
theorem rm11 (l : Launch) (Z : State) (a0 : Array Value) (hw : ∀ d ∈ tables_1, d.before a0 Z = true) (ob : Addr) (qi : Int32) (u : Int32) (sa : Addr) (fa : Nat → Int64) (h0 : Heap) (P0 : Fld Z h0 ob "com/example/bouncr/bouncr/KeyRecord" "placeCount" "I" (.int u)) (P1 : Fld Z h0 ob "com/example/bouncr/bouncr/KeyRecord" "placeSeconds" "[J" (.ref sa)) (P2 : OAr Z h0 sa .long 1 (fun i => .long (fa i))) (h0' : 0 ≤ qi.toInt) (h1' : qi.toInt < ((1 : Nat) : Int)) (h1 : ¬ (qi < (0 : Int32))) (hlt : qi < u) :
    OMet l Z (⟨"com/example/bouncr/bouncr/KeyRecord", "placeSecond", "(I)J"⟩ : MethodName) prog_30_method_9_code 2 (some .long) ({ frames := 2, cells := 0, slots := 0, locals := 27 } : Room) #[(.ref ob), (.int qi)] h0 (OPure (some (.long (plSecF qi u fa))) h0) := by
  intro ws
  refine MetFree.of_bodySF (plainFor_of_name pn_11) hisR ?_
  intro p e s m args below meth c s₁ Bd hml0 hP hK
  obtain ⟨rfl, hZ, hh⟩ := hP
  have hx := Bd.exec
  have hby := Bd.bytes
  have hml : c.maxLocals = 2 := hml0
  have hown : s.vm.findClass "com/example/bouncr/bouncr/KeyRecord" = some m.cls := findClass_of_methodNamed Bd.named
  have hnm := (name_of_methodNamed Bd.named Bd.method).1
  have hlk : meth.locks = false := Bd.notSynchronized
  have X0 : Stand p l e ({ frames := 2, cells := 0, slots := 0, locals := 27 } : Room) s m #[(.ref ob), (.int qi)] below meth c s₁ [] 0 0 := Stand.of_body Bd
  have e0 : s₁.heap = h0 := by rw [← hh, Bd.state]; rfl
  refine (?_ : OGo p.tables e below (OFin s (OPure (some (.long (plSecF qi u fa))) h0) 0 0) _)
  refine ogo (fun _ k => castTop (ef_11 m ob qi) k) ?_
  show OGo _ _ _ _ (s₁.setTop (mkF m 0 #[.val (.ref ob), .val (.int qi)] []))
  refine ogo (fun _ k => XS.iloadN X0.here hx rfl (hb hby d11_0) rfl k) ?_
  show OGo _ _ _ _ (s₁.setTop (mkF m 1 #[.val (.ref ob), .val (.int qi)] [(.int qi)]))
  refine ogo (fun _ k => XS.aloadN X0.here hx rfl (hb hby d11_1) rfl rfl k) ?_
  show OGo _ _ _ _ (s₁.setTop (mkF m 2 #[.val (.ref ob), .val (.int qi)] [(.ref ob), (.int qi)]))
  obtain ⟨T_11_1, X_11_1, e_11_1, st_11_1⟩ := getF X0 hx hZ hown (host := "") (Or.inl (hw _ (List.mem_of_getElem? (i := 53) rfl))) Via.refl e0 P0 (g := (mkF m 2 #[.val (.ref ob), .val (.int qi)] [(.ref ob), (.int qi)])) rfl rfl (hb hby d11_2)
  refine ogo (fun _ k => st_11_1 _ k) ?_
  show OGo _ _ _ _ (T_11_1.setTop (mkF m 5 #[.val (.ref ob), .val (.int qi)] [(.int u), (.int qi)]))
  obtain ⟨T_11_2, X_11_2, e_11_2, st_11_2⟩ := ocallP X_11_1 hx hZ e_11_1 (rm12 l Z a0 hw qi u  h0 h1 hlt) hown (hw _ (List.mem_of_getElem? (i := 71) rfl)) (hw _ (List.mem_of_getElem? (i := 72) rfl)) (hw _ (List.mem_of_getElem? (i := 73) rfl)) (hw _ (List.mem_of_getElem? (i := 74) rfl)) (by decide) (g := (mkF m 5 #[.val (.ref ob), .val (.int qi)] [(.int u), (.int qi)])) rfl (by rw [hml]; rfl) [(.int qi), (.int u)] [] rfl (lenOf pd__II_I rfl) rfl (hb hby d11_5) 0 (by show 2 * 0 + _ ≤ _; exact Nat.le_of_eq rfl) (by decide) (by decide) (by decide) (by decide) rfl rfl
  refine ogo (fun _ k => st_11_2 _ k) ?_
  show OGo _ _ _ _ (T_11_2.setTop (mkF m 8 #[.val (.ref ob), .val (.int qi)] [(.int (chkF qi u))]))
  refine ogo (fun _ k => XS.pop X_11_2.here hx rfl (hb hby d11_8) rfl rfl k) ?_
  show OGo _ _ _ _ (T_11_2.setTop (mkF m 9 #[.val (.ref ob), .val (.int qi)] []))
  refine ogo (fun _ k => XS.aloadN X_11_2.here hx rfl (hb hby d11_9) rfl rfl k) ?_
  show OGo _ _ _ _ (T_11_2.setTop (mkF m 10 #[.val (.ref ob), .val (.int qi)] [(.ref ob)]))
  obtain ⟨T_11_3, X_11_3, e_11_3, st_11_3⟩ := getF X_11_2 hx hZ hown (host := "") (Or.inl (hw _ (List.mem_of_getElem? (i := 12) rfl))) Via.refl e_11_2 P1 (g := (mkF m 10 #[.val (.ref ob), .val (.int qi)] [(.ref ob)])) rfl rfl (hb hby d11_10)
  refine ogo (fun _ k => st_11_3 _ k) ?_
  show OGo _ _ _ _ (T_11_3.setTop (mkF m 13 #[.val (.ref ob), .val (.int qi)] [(.ref sa)]))
  refine ogo (fun _ k => XS.iloadN X_11_3.here hx rfl (hb hby d11_13) rfl k) ?_
  show OGo _ _ _ _ (T_11_3.setTop (mkF m 14 #[.val (.ref ob), .val (.int qi)] [(.int qi), (.ref sa)]))
  refine ogo (fun _ k => oldJ X_11_3 hx hZ e_11_3 P2 h0' h1' (g := (mkF m 14 #[.val (.ref ob), .val (.int qi)] [(.int qi), (.ref sa)])) rfl rfl (hb hby d11_14) _ k) ?_
  show OGo _ _ _ _ (T_11_3.setTop (mkF m 15 #[.val (.ref ob), .val (.int qi)] [(.long (fa (qi).toNatClampNeg))]))
  exact oret X_11_3 hx hlk Bd.returns rfl (Or.inr (Or.inl ⟨rfl, rfl, _, rfl⟩)) (hb hby d11_15) (by decide) (by decide) ⟨by rfl, rfl, e_11_3⟩
theorem d14_0 : decode prog_30_method_10_code 0 = .ok (.iload_n 1, 1) := by decide +kernel
theorem d14_1 : decode prog_30_method_10_code 1 = .ok (.aload_n 0, 1) := by decide +kernel
theorem d14_2 : decode prog_30_method_10_code 2 = .ok (.getfield 38, 3) := by decide +kernel
theorem d14_5 : decode prog_30_method_10_code 5 = .ok (.invokestatic 49, 3) := by decide +kernel
theorem d14_8 : decode prog_30_method_10_code 8 = .ok (.pop, 1) := by decide +kernel
theorem d14_9 : decode prog_30_method_10_code 9 = .ok (.aload_n 0, 1) := by decide +kernel
theorem d14_10 : decode prog_30_method_10_code 10 = .ok (.getfield 17, 3) := by decide +kernel
theorem d14_13 : decode prog_30_method_10_code 13 = .ok (.iload_n 1, 1) := by decide +kernel
theorem d14_14 : decode prog_30_method_10_code 14 = .ok (.iaload, 1) := by decide +kernel
theorem d14_15 : decode prog_30_method_10_code 15 = .ok (.ireturn, 1) := by decide +kernel
theorem pn_14 : plainName "com/example/bouncr/bouncr/KeyRecord" = true := by first | (simp [plainName, overriddenIn]; done) | decide +kernel
theorem ef_14 (m : MethodId) (x0 : Addr) (x1 : Int32) : entryFrame m #[(.ref x0), (.int x1)] 2 = mkF m 0 #[.val (.ref x0), .val (.int x1)] [] := by first | (simp [entryFrame, mkF, argsToLocals, Value.category]; done) | rfl
def plNanF (qi : Int32) (u : Int32)  (fa : Nat → Int32) : Int32 := (fa (qi).toNatClampNeg)
set_option maxRecDepth 65536 in
set_option maxHeartbeats 40000000 in
theorem rm14 (l : Launch) (Z : State) (a0 : Array Value) (hw : ∀ d ∈ tables_1, d.before a0 Z = true) (ob : Addr) (qi : Int32) (u : Int32) (sa : Addr) (fa : Nat → Int32) (h0 : Heap) (P0 : Fld Z h0 ob "com/example/bouncr/bouncr/KeyRecord" "placeCount" "I" (.int u)) (P1 : Fld Z h0 ob "com/example/bouncr/bouncr/KeyRecord" "placeNanos" "[I" (.ref sa)) (P2 : OAr Z h0 sa .int 1 (fun i => .int (fa i))) (h0' : 0 ≤ qi.toInt) (h1' : qi.toInt < ((1 : Nat) : Int)) (h1 : ¬ (qi < (0 : Int32))) (hlt : qi < u) :
    OMet l Z (⟨"com/example/bouncr/bouncr/KeyRecord", "placeNano", "(I)I"⟩ : MethodName) prog_30_method_10_code 2 (some .int) ({ frames := 2, cells := 0, slots := 0, locals := 27 } : Room) #[(.ref ob), (.int qi)] h0 (OPure (some (.int (plNanF qi u fa))) h0) := by
  intro ws
  refine MetFree.of_bodySF (plainFor_of_name pn_14) hisR ?_
  intro p e s m args below meth c s₁ Bd hml0 hP hK
  obtain ⟨rfl, hZ, hh⟩ := hP
  have hx := Bd.exec
  have hby := Bd.bytes
  have hml : c.maxLocals = 2 := hml0
  have hown : s.vm.findClass "com/example/bouncr/bouncr/KeyRecord" = some m.cls := findClass_of_methodNamed Bd.named
  have hnm := (name_of_methodNamed Bd.named Bd.method).1
  have hlk : meth.locks = false := Bd.notSynchronized
  have X0 : Stand p l e ({ frames := 2, cells := 0, slots := 0, locals := 27 } : Room) s m #[(.ref ob), (.int qi)] below meth c s₁ [] 0 0 := Stand.of_body Bd
  have e0 : s₁.heap = h0 := by rw [← hh, Bd.state]; rfl
  refine (?_ : OGo p.tables e below (OFin s (OPure (some (.int (plNanF qi u fa))) h0) 0 0) _)
  refine ogo (fun _ k => castTop (ef_14 m ob qi) k) ?_
  show OGo _ _ _ _ (s₁.setTop (mkF m 0 #[.val (.ref ob), .val (.int qi)] []))
  refine ogo (fun _ k => XS.iloadN X0.here hx rfl (hb hby d14_0) rfl k) ?_
  show OGo _ _ _ _ (s₁.setTop (mkF m 1 #[.val (.ref ob), .val (.int qi)] [(.int qi)]))
  refine ogo (fun _ k => XS.aloadN X0.here hx rfl (hb hby d14_1) rfl rfl k) ?_
  show OGo _ _ _ _ (s₁.setTop (mkF m 2 #[.val (.ref ob), .val (.int qi)] [(.ref ob), (.int qi)]))
  obtain ⟨T_14_1, X_14_1, e_14_1, st_14_1⟩ := getF X0 hx hZ hown (host := "") (Or.inl (hw _ (List.mem_of_getElem? (i := 53) rfl))) Via.refl e0 P0 (g := (mkF m 2 #[.val (.ref ob), .val (.int qi)] [(.ref ob), (.int qi)])) rfl rfl (hb hby d14_2)
  refine ogo (fun _ k => st_14_1 _ k) ?_
  show OGo _ _ _ _ (T_14_1.setTop (mkF m 5 #[.val (.ref ob), .val (.int qi)] [(.int u), (.int qi)]))
  obtain ⟨T_14_2, X_14_2, e_14_2, st_14_2⟩ := ocallP X_14_1 hx hZ e_14_1 (rm12 l Z a0 hw qi u  h0 h1 hlt) hown (hw _ (List.mem_of_getElem? (i := 71) rfl)) (hw _ (List.mem_of_getElem? (i := 72) rfl)) (hw _ (List.mem_of_getElem? (i := 73) rfl)) (hw _ (List.mem_of_getElem? (i := 74) rfl)) (by decide) (g := (mkF m 5 #[.val (.ref ob), .val (.int qi)] [(.int u), (.int qi)])) rfl (by rw [hml]; rfl) [(.int qi), (.int u)] [] rfl (lenOf pd__II_I rfl) rfl (hb hby d14_5) 0 (by show 2 * 0 + _ ≤ _; exact Nat.le_of_eq rfl) (by decide) (by decide) (by decide) (by decide) rfl rfl
  refine ogo (fun _ k => st_14_2 _ k) ?_
  show OGo _ _ _ _ (T_14_2.setTop (mkF m 8 #[.val (.ref ob), .val (.int qi)] [(.int (chkF qi u))]))
  refine ogo (fun _ k => XS.pop X_14_2.here hx rfl (hb hby d14_8) rfl rfl k) ?_
  show OGo _ _ _ _ (T_14_2.setTop (mkF m 9 #[.val (.ref ob), .val (.int qi)] []))
  refine ogo (fun _ k => XS.aloadN X_14_2.here hx rfl (hb hby d14_9) rfl rfl k) ?_
  show OGo _ _ _ _ (T_14_2.setTop (mkF m 10 #[.val (.ref ob), .val (.int qi)] [(.ref ob)]))
  obtain ⟨T_14_3, X_14_3, e_14_3, st_14_3⟩ := getF X_14_2 hx hZ hown (host := "") (Or.inl (hw _ (List.mem_of_getElem? (i := 15) rfl))) Via.refl e_14_2 P1 (g := (mkF m 10 #[.val (.ref ob), .val (.int qi)] [(.ref ob)])) rfl rfl (hb hby d14_10)
  refine ogo (fun _ k => st_14_3 _ k) ?_
  show OGo _ _ _ _ (T_14_3.setTop (mkF m 13 #[.val (.ref ob), .val (.int qi)] [(.ref sa)]))
  refine ogo (fun _ k => XS.iloadN X_14_3.here hx rfl (hb hby d14_13) rfl k) ?_
  show OGo _ _ _ _ (T_14_3.setTop (mkF m 14 #[.val (.ref ob), .val (.int qi)] [(.int qi), (.ref sa)]))
  refine ogo (fun _ k => oldI X_14_3 hx hZ e_14_3 P2 h0' h1' (g := (mkF m 14 #[.val (.ref ob), .val (.int qi)] [(.int qi), (.ref sa)])) rfl rfl (hb hby d14_14) _ k) ?_
  show OGo _ _ _ _ (T_14_3.setTop (mkF m 15 #[.val (.ref ob), .val (.int qi)] [(.int (fa (qi).toNatClampNeg))]))
  exact oret X_14_3 hx hlk Bd.returns rfl (Or.inl ⟨rfl, Or.inl rfl, _, rfl⟩) (hb hby d14_15) (by decide) (by decide) ⟨by rfl, rfl, e_14_3⟩
theorem pn_0 : plainName "com/example/bouncr/bouncr/KeyRecordCountPinLaw" = true := by first | (simp [plainName, overriddenIn]; done) | decide +kernel
theorem ef_0 (m : MethodId) (x0 : Int32) (x1 : Int64) (x2 : Int32) (x3 : Int32) (x4 : Int64) (x5 : Int32) : entryFrame m #[(.int x0), (.long x1), (.int x2), (.int x3), (.long x4), (.int x5)] maxLocals = mkF m 0 #[.val (.int x0), .val (.long x1), .second, .val (.int x2), .val (.int x3), .val (.long x4), .second, .val (.int x5), .unset, .unset, .unset, .unset, .unset, .unset, .unset] [] := by first | (simp [entryFrame, mkF, argsToLocals, Value.category, maxLocals]; done) | rfl
theorem pd___V : parseMethodDescriptor "()V" = some ⟨[], none⟩ := by decide +kernel
theorem pd__IJIZ_V : parseMethodDescriptor "(IJIZ)V" = some ⟨[.int, .long, .int, .boolean], none⟩ := by decide +kernel
theorem pd___I : parseMethodDescriptor "()I" = some ⟨[], some .int⟩ := by decide +kernel
theorem pd___J : parseMethodDescriptor "()J" = some ⟨[], some .long⟩ := by decide +kernel
theorem pd___Z : parseMethodDescriptor "()Z" = some ⟨[], some .boolean⟩ := by decide +kernel
theorem pd__JI_V : parseMethodDescriptor "(JI)V" = some ⟨[.long, .int], none⟩ := by decide +kernel
theorem pd__I_J : parseMethodDescriptor "(I)J" = some ⟨[.int], some .long⟩ := by decide +kernel
theorem pd__I_I : parseMethodDescriptor "(I)I" = some ⟨[.int], some .int⟩ := by decide +kernel
theorem plain0 (va : Int32) (vb : Int64) (vc : Int32) (vd : Int32) (ve : Int64) (vf : Int32) (hc_0_1 : (vd &&& (1 : Int32)) = (0 : Int32)) (w_0_3 : Int32) (hw_0_3 : w_0_3 = (if (vd &&& (2 : Int32)) = (0 : Int32) then (0 : Int32) else (1 : Int32))) (hc_0_6 : (vd &&& (4 : Int32)) = (0 : Int32)) (w_0_54 : Int32) (hw_0_54 : w_0_54 = (if (failuresF va) = va then (if (secondF vb) = vb then (if (nanoF vc) = vc then (if (refusedF w_0_3) = w_0_3 then (1 : Int32) else (0 : Int32)) else (0 : Int32)) else (0 : Int32)) else (0 : Int32))) (w_0_63 : Int32) (hw_0_63 : w_0_63 = (if w_0_54 = (0 : Int32) then (0 : Int32) else (if (placesF (0 : Int32)) = (0 : Int32) then (1 : Int32) else (0 : Int32)))) (w_0_70 : Int32) (hw_0_70 : w_0_70 = (if va = (0 : Int32) then (1 : Int32) else (0 : Int32))) (w_0_79 : Int32) (hw_0_79 : w_0_79 = (if w_0_63 = (0 : Int32) then (0 : Int32) else (if (emptyF va (0 : Int32)) = w_0_70 then (1 : Int32) else (0 : Int32)))) : w_0_79 = (1 : Int32) := by
  subst_vars
  simp [failuresF, secondF, nanoF, refusedF, placesF, emptyF, plSecF, plNanF]
theorem plain1 (va : Int32) (vb : Int64) (vc : Int32) (vd : Int32) (ve : Int64) (vf : Int32) (hc_0_1 : (vd &&& (1 : Int32)) = (0 : Int32)) (w_0_3 : Int32) (hw_0_3 : w_0_3 = (if (vd &&& (2 : Int32)) = (0 : Int32) then (0 : Int32) else (1 : Int32))) (hc_0_6 : ¬ ((vd &&& (4 : Int32)) = (0 : Int32))) (w_0_102 : Int32) (hw_0_102 : w_0_102 = (if w_0_3 = (0 : Int32) then (1 : Int32) else (0 : Int32))) (w_0_144 : Int32) (hw_0_144 : w_0_144 = (if (failuresF va) = va then (if (secondF vb) = vb then (if (nanoF vc) = vc then (if (refusedF w_0_3) = w_0_3 then (1 : Int32) else (0 : Int32)) else (0 : Int32)) else (0 : Int32)) else (0 : Int32))) (w_0_153 : Int32) (hw_0_153 : w_0_153 = (if w_0_144 = (0 : Int32) then (0 : Int32) else (if (placesF (0 : Int32)) = (0 : Int32) then (1 : Int32) else (0 : Int32)))) (w_0_160 : Int32) (hw_0_160 : w_0_160 = (if va = (0 : Int32) then (1 : Int32) else (0 : Int32))) (w_0_169 : Int32) (hw_0_169 : w_0_169 = (if w_0_153 = (0 : Int32) then (0 : Int32) else (if (emptyF va (0 : Int32)) = w_0_160 then (1 : Int32) else (0 : Int32)))) : w_0_169 = (1 : Int32) := by
  subst_vars
  simp [failuresF, secondF, nanoF, refusedF, placesF, emptyF, plSecF, plNanF]
theorem plain2 (va : Int32) (vb : Int64) (vc : Int32) (vd : Int32) (ve : Int64) (vf : Int32) (hc_0_1 : ¬ ((vd &&& (1 : Int32)) = (0 : Int32))) (w_0_173 : Int32) (hw_0_173 : w_0_173 = (if (vd &&& (2 : Int32)) = (0 : Int32) then (0 : Int32) else (1 : Int32))) (hc_0_176 : (vd &&& (4 : Int32)) = (0 : Int32)) (w_0_235 : Int32) (hw_0_235 : w_0_235 = (if (failuresF va) = va then (if (secondF vb) = vb then (if (nanoF vc) = vc then (if (refusedF w_0_173) = w_0_173 then (1 : Int32) else (0 : Int32)) else (0 : Int32)) else (0 : Int32)) else (0 : Int32))) (w_0_244 : Int32) (hw_0_244 : w_0_244 = (if w_0_235 = (0 : Int32) then (0 : Int32) else (if (placesF (1 : Int32)) = (1 : Int32) then (1 : Int32) else (0 : Int32)))) (w_0_258 : Int32) (hw_0_258 : w_0_258 = (if w_0_244 = (0 : Int32) then w_0_244 else (if (plSecF (0 : Int32) (1 : Int32) (fun i : Nat => if i = ((0 : Int32)).toNatClampNeg then ve else (fun _ : Nat => (0 : Int64)) i)) = ve then (if (plNanF (0 : Int32) (1 : Int32) (fun i : Nat => if i = ((0 : Int32)).toNatClampNeg then vf else (fun _ : Nat => (0 : Int32)) i)) = vf then (1 : Int32) else (0 : Int32)) else (0 : Int32)))) (w_0_270 : Int32) (hw_0_270 : w_0_270 = (if w_0_258 = (0 : Int32) then (0 : Int32) else (if (emptyF va (1 : Int32)) = (0 : Int32) then (1 : Int32) else (0 : Int32)))) : w_0_270 = (1 : Int32) := by
  subst_vars
  simp [failuresF, secondF, nanoF, refusedF, placesF, emptyF, plSecF, plNanF]
theorem plain3 (va : Int32) (vb : Int64) (vc : Int32) (vd : Int32) (ve : Int64) (vf : Int32) (hc_0_1 : ¬ ((vd &&& (1 : Int32)) = (0 : Int32))) (w_0_173 : Int32) (hw_0_173 : w_0_173 = (if (vd &&& (2 : Int32)) = (0 : Int32) then (0 : Int32) else (1 : Int32))) (hc_0_176 : ¬ ((vd &&& (4 : Int32)) = (0 : Int32))) (w_0_304 : Int32) (hw_0_304 : w_0_304 = (if w_0_173 = (0 : Int32) then (1 : Int32) else (0 : Int32))) (w_0_346 : Int32) (hw_0_346 : w_0_346 = (if (failuresF va) = va then (if (secondF vb) = vb then (if (nanoF vc) = vc then (if (refusedF w_0_173) = w_0_173 then (1 : Int32) else (0 : Int32)) else (0 : Int32)) else (0 : Int32)) else (0 : Int32))) (w_0_355 : Int32) (hw_0_355 : w_0_355 = (if w_0_346 = (0 : Int32) then (0 : Int32) else (if (placesF (1 : Int32)) = (1 : Int32) then (1 : Int32) else (0 : Int32)))) (w_0_369 : Int32) (hw_0_369 : w_0_369 = (if w_0_355 = (0 : Int32) then w_0_355 else (if (plSecF (0 : Int32) (1 : Int32) (fun i : Nat => if i = ((0 : Int32)).toNatClampNeg then ve else (fun _ : Nat => (0 : Int64)) i)) = ve then (if (plNanF (0 : Int32) (1 : Int32) (fun i : Nat => if i = ((0 : Int32)).toNatClampNeg then vf else (fun _ : Nat => (0 : Int32)) i)) = vf then (1 : Int32) else (0 : Int32)) else (0 : Int32)))) (w_0_381 : Int32) (hw_0_381 : w_0_381 = (if w_0_369 = (0 : Int32) then (0 : Int32) else (if (emptyF va (1 : Int32)) = (0 : Int32) then (1 : Int32) else (0 : Int32)))) : w_0_381 = (1 : Int32) := by
  subst_vars
  simp [failuresF, secondF, nanoF, refusedF, placesF, emptyF, plSecF, plNanF]
set_option maxRecDepth 65536 in
set_option maxHeartbeats 40000000 in
theorem rm0 (l : Launch) (Z : State) (a0 : Array Value) (hw : ∀ d ∈ tables_1, d.before a0 Z = true) (ws : List Jvm.Cond) (va : Int32) (vb : Int64) (vc : Int32) (vd : Int32) (ve : Int64) (vf : Int32) (h0 : Heap) (n0 : Nat) (Z0 : n0 ≤ h0.size)  :
    MetFree l x (head1 (Jvm.Cond.code x code maxLocals ret :: ws) room_1) (fun a U => a = #[(.int va), (.long vb), (.int vc), (.int vd), (.long ve), (.int vf)] ∧ Z.Warmed39 U.vm ∧ U.heap = h0) (fun _ _ _ _ _ => True) (fun _ U o U' => ∃ v L, o = .returned v ∧ (v = some (.int 1) ∧ Fr n0 L) ∧ FrameEnd U o U' L 16 128) := by
  refine MetFree.of_bodySF (plainFor_of_name pn_0) hisR ?_
  intro p e s m args below meth c s₁ Bd hml0 hP hK
  obtain ⟨rfl, hZ, hh⟩ := hP
  have hx := Bd.exec
  have hby := Bd.bytes
  have hml : c.maxLocals = 15 := hml0
  have hown : s.vm.findClass "com/example/bouncr/bouncr/KeyRecordCountPinLaw" = some m.cls := findClass_of_methodNamed Bd.named
  have hnm := (name_of_methodNamed Bd.named Bd.method).1
  have hlk : meth.locks = false := Bd.notSynchronized
  have X0 : Stand p l e room_1 s m #[(.int va), (.long vb), (.int vc), (.int vd), (.long ve), (.int vf)] below meth c s₁ [] 0 0 := Stand.of_body Bd
  have e0 : s₁.heap = h0 := by rw [← hh, Bd.state]; rfl
  have N0 := Fr.nil n0
  refine (?_ : OGo p.tables e below (OFin s (fun v _ L => v = some (.int 1) ∧ Fr n0 L) 16 128) _)
  refine ogo (fun _ k => castTop (ef_0 m va vb vc vd ve vf) k) ?_
  show OGo _ _ _ _ (s₁.setTop (mkF m 0 #[.val (.int va), .val (.long vb), .second, .val (.int vc), .val (.int vd), .val (.long ve), .second, .val (.int vf), .unset, .unset, .unset, .unset, .unset, .unset, .unset] []))
  refine ogo (fun _ k => XS.iload X0.here hx rfl (hb hby at_0) rfl k) ?_
  show OGo _ _ _ _ (s₁.setTop (mkF m 2 #[.val (.int va), .val (.long vb), .second, .val (.int vc), .val (.int vd), .val (.long ve), .second, .val (.int vf), .unset, .unset, .unset, .unset, .unset, .unset, .unset] [(.int vd)]))
  refine ogo (fun _ k => XS.iconst X0.here hx rfl (hb hby at_2) k) ?_
  show OGo _ _ _ _ (s₁.setTop (mkF m 3 #[.val (.int va), .val (.long vb), .second, .val (.int vc), .val (.int vd), .val (.long ve), .second, .val (.int vf), .unset, .unset, .unset, .unset, .unset, .unset, .unset] [(.int (1 : Int32)), (.int vd)]))
  refine ogo (fun _ k => XS.iand X0.here hx rfl (hb hby at_3) rfl k) ?_
  show OGo _ _ _ _ (s₁.setTop (mkF m 4 #[.val (.int va), .val (.long vb), .second, .val (.int vc), .val (.int vd), .val (.long ve), .second, .val (.int vf), .unset, .unset, .unset, .unset, .unset, .unset, .unset] [(.int (vd &&& (1 : Int32)))]))
  by_cases hc_0_1 : (vd &&& (1 : Int32)) = (0 : Int32)
  · refine ogo (fun _ k => XS.ifYes X0.here hx rfl (pc0 := 4) (pc' := 11) rfl (hb hby at_4) rfl ((if0 _ _).trans (teq hc_0_1).1) (by decide) (by decide) k) ?_
    show OGo _ _ _ _ (s₁.setTop (mkF m 11 #[.val (.int va), .val (.long vb), .second, .val (.int vc), .val (.int vd), .val (.long ve), .second, .val (.int vf), .unset, .unset, .unset, .unset, .unset, .unset, .unset] []))
    refine ogo (fun _ k => XS.iconst X0.here hx rfl (hb hby at_11) k) ?_
    show OGo _ _ _ _ (s₁.setTop (mkF m 12 #[.val (.int va), .val (.long vb), .second, .val (.int vc), .val (.int vd), .val (.long ve), .second, .val (.int vf), .unset, .unset, .unset, .unset, .unset, .unset, .unset] [(.int (0 : Int32))]))
    refine ogo (fun _ k => XS.istore X0.here hx rfl (hb hby at_12) rfl (l' := #[.val (.int va), .val (.long vb), .second, .val (.int vc), .val (.int vd), .val (.long ve), .second, .val (.int vf), .val (.int (0 : Int32)), .unset, .unset, .unset, .unset, .unset, .unset]) rfl k) ?_
    show OGo _ _ _ _ (s₁.setTop (mkF m 14 #[.val (.int va), .val (.long vb), .second, .val (.int vc), .val (.int vd), .val (.long ve), .second, .val (.int vf), .val (.int (0 : Int32)), .unset, .unset, .unset, .unset, .unset, .unset] []))
    refine ogo (fun _ k => XS.iload X0.here hx rfl (hb hby at_14) rfl k) ?_
    show OGo _ _ _ _ (s₁.setTop (mkF m 16 #[.val (.int va), .val (.long vb), .second, .val (.int vc), .val (.int vd), .val (.long ve), .second, .val (.int vf), .val (.int (0 : Int32)), .unset, .unset, .unset, .unset, .unset, .unset] [(.int vd)]))
    refine ogo (fun _ k => XS.iconst X0.here hx rfl (hb hby at_16) k) ?_
    show OGo _ _ _ _ (s₁.setTop (mkF m 17 #[.val (.int va), .val (.long vb), .second, .val (.int vc), .val (.int vd), .val (.long ve), .second, .val (.int vf), .val (.int (0 : Int32)), .unset, .unset, .unset, .unset, .unset, .unset] [(.int (2 : Int32)), (.int vd)]))
    refine ogo (fun _ k => XS.iand X0.here hx rfl (hb hby at_17) rfl k) ?_
    show OGo _ _ _ _ (s₁.setTop (mkF m 18 #[.val (.int va), .val (.long vb), .second, .val (.int vc), .val (.int vd), .val (.long ve), .second, .val (.int vf), .val (.int (0 : Int32)), .unset, .unset, .unset, .unset, .unset, .unset] [(.int (vd &&& (2 : Int32)))]))
    suffices J_0_4 : ∀ (w_0_3 : Int32) (hw_0_3 : w_0_3 = (if (vd &&& (2 : Int32)) = (0 : Int32) then (0 : Int32) else (1 : Int32))), OGo p.tables e below (OFin s (fun v _ L => v = some (.int 1) ∧ Fr n0 L) 16 128) (s₁.setTop (mkF m 26 #[.val (.int va), .val (.long vb), .second, .val (.int vc), .val (.int vd), .val (.long ve), .second, .val (.int vf), .val (.int (0 : Int32)), .unset, .unset, .unset, .unset, .unset, .unset] [(.int w_0_3)])) by
      by_cases hc_0_2 : (vd &&& (2 : Int32)) = (0 : Int32)
      · refine ogo (fun _ k => XS.ifYes X0.here hx rfl (pc0 := 18) (pc' := 25) rfl (hb hby at_18) rfl ((if0 _ _).trans (teq hc_0_2).1) (by decide) (by decide) k) ?_
        show OGo _ _ _ _ (s₁.setTop (mkF m 25 #[.val (.int va), .val (.long vb), .second, .val (.int vc), .val (.int vd), .val (.long ve), .second, .val (.int vf), .val (.int (0 : Int32)), .unset, .unset, .unset, .unset, .unset, .unset] []))
        refine ogo (fun _ k => XS.iconst X0.here hx rfl (hb hby at_25) k) ?_
        show OGo _ _ _ _ (s₁.setTop (mkF m 26 #[.val (.int va), .val (.long vb), .second, .val (.int vc), .val (.int vd), .val (.long ve), .second, .val (.int vf), .val (.int (0 : Int32)), .unset, .unset, .unset, .unset, .unset, .unset] [(.int (0 : Int32))]))
        exact J_0_4 _ (if_pos hc_0_2).symm
      · refine ogo (fun _ k => XS.ifNo X0.here hx rfl (hb hby at_18) rfl ((if0 _ _).trans (feq hc_0_2).1) k) ?_
        show OGo _ _ _ _ (s₁.setTop (mkF m 21 #[.val (.int va), .val (.long vb), .second, .val (.int vc), .val (.int vd), .val (.long ve), .second, .val (.int vf), .val (.int (0 : Int32)), .unset, .unset, .unset, .unset, .unset, .unset] []))
        refine ogo (fun _ k => XS.iconst X0.here hx rfl (hb hby at_21) k) ?_
        show OGo _ _ _ _ (s₁.setTop (mkF m 22 #[.val (.int va), .val (.long vb), .second, .val (.int vc), .val (.int vd), .val (.long ve), .second, .val (.int vf), .val (.int (0 : Int32)), .unset, .unset, .unset, .unset, .unset, .unset] [(.int (1 : Int32))]))
        refine ogo (fun _ k => XS.goto X0.here hx rfl (pc0 := 22) (pc' := 26) rfl (hb hby at_22) (by decide) (by decide) k) ?_
        show OGo _ _ _ _ (s₁.setTop (mkF m 26 #[.val (.int va), .val (.long vb), .second, .val (.int vc), .val (.int vd), .val (.long ve), .second, .val (.int vf), .val (.int (0 : Int32)), .unset, .unset, .unset, .unset, .unset, .unset] [(.int (1 : Int32))]))
        exact J_0_4 _ (if_neg hc_0_2).symm
    intro w_0_3 hw_0_3
    refine ogo (fun _ k => XS.istore X0.here hx rfl (hb hby at_26) rfl (l' := #[.val (.int va), .val (.long vb), .second, .val (.int vc), .val (.int vd), .val (.long ve), .second, .val (.int vf), .val (.int (0 : Int32)), .val (.int w_0_3), .unset, .unset, .unset, .unset, .unset]) rfl k) ?_
    show OGo _ _ _ _ (s₁.setTop (mkF m 28 #[.val (.int va), .val (.long vb), .second, .val (.int vc), .val (.int vd), .val (.long ve), .second, .val (.int vf), .val (.int (0 : Int32)), .val (.int w_0_3), .unset, .unset, .unset, .unset, .unset] []))
    refine ogo (fun _ k => XS.iload X0.here hx rfl (hb hby at_28) rfl k) ?_
    show OGo _ _ _ _ (s₁.setTop (mkF m 30 #[.val (.int va), .val (.long vb), .second, .val (.int vc), .val (.int vd), .val (.long ve), .second, .val (.int vf), .val (.int (0 : Int32)), .val (.int w_0_3), .unset, .unset, .unset, .unset, .unset] [(.int vd)]))
    refine ogo (fun _ k => XS.iconst X0.here hx rfl (hb hby at_30) k) ?_
    show OGo _ _ _ _ (s₁.setTop (mkF m 31 #[.val (.int va), .val (.long vb), .second, .val (.int vc), .val (.int vd), .val (.long ve), .second, .val (.int vf), .val (.int (0 : Int32)), .val (.int w_0_3), .unset, .unset, .unset, .unset, .unset] [(.int (4 : Int32)), (.int vd)]))
    refine ogo (fun _ k => XS.iand X0.here hx rfl (hb hby at_31) rfl k) ?_
    show OGo _ _ _ _ (s₁.setTop (mkF m 32 #[.val (.int va), .val (.long vb), .second, .val (.int vc), .val (.int vd), .val (.long ve), .second, .val (.int vf), .val (.int (0 : Int32)), .val (.int w_0_3), .unset, .unset, .unset, .unset, .unset] [(.int (vd &&& (4 : Int32)))]))
    by_cases hc_0_6 : (vd &&& (4 : Int32)) = (0 : Int32)
    · refine ogo (fun _ k => XS.ifYes X0.here hx rfl (pc0 := 32) (pc' := 39) rfl (hb hby at_32) rfl ((if0 _ _).trans (teq hc_0_6).1) (by decide) (by decide) k) ?_
      show OGo _ _ _ _ (s₁.setTop (mkF m 39 #[.val (.int va), .val (.long vb), .second, .val (.int vc), .val (.int vd), .val (.long ve), .second, .val (.int vf), .val (.int (0 : Int32)), .val (.int w_0_3), .unset, .unset, .unset, .unset, .unset] []))
      refine ogo (fun _ k => XS.iconst X0.here hx rfl (hb hby at_39) k) ?_
      show OGo _ _ _ _ (s₁.setTop (mkF m 40 #[.val (.int va), .val (.long vb), .second, .val (.int vc), .val (.int vd), .val (.long ve), .second, .val (.int vf), .val (.int (0 : Int32)), .val (.int w_0_3), .unset, .unset, .unset, .unset, .unset] [(.int (0 : Int32))]))
      refine ogo (fun _ k => XS.istore X0.here hx rfl (hb hby at_40) rfl (l' := #[.val (.int va), .val (.long vb), .second, .val (.int vc), .val (.int vd), .val (.long ve), .second, .val (.int vf), .val (.int (0 : Int32)), .val (.int w_0_3), .val (.int (0 : Int32)), .unset, .unset, .unset, .unset]) rfl k) ?_
      show OGo _ _ _ _ (s₁.setTop (mkF m 42 #[.val (.int va), .val (.long vb), .second, .val (.int vc), .val (.int vd), .val (.long ve), .second, .val (.int vf), .val (.int (0 : Int32)), .val (.int w_0_3), .val (.int (0 : Int32)), .unset, .unset, .unset, .unset] []))
      obtain ⟨T_0_7, h_0_7, X_0_7, e_0_7, E_0_7, A_0_7, D_0_7, -, st_0_7⟩ := newO X0 hx hZ hown (hw _ (List.mem_of_getElem? (i := 0) rfl)) (hw _ (List.mem_of_getElem? (i := 1) rfl)) (hw _ (List.mem_of_getElem? (i := 2) rfl)) e0 (g := (mkF m 42 #[.val (.int va), .val (.long vb), .second, .val (.int vc), .val (.int vd), .val (.long ve), .second, .val (.int vf), .val (.int (0 : Int32)), .val (.int w_0_3), .val (.int (0 : Int32)), .unset, .unset, .unset, .unset] [])) rfl (hb hby at_42) (by decide) (by decide)
      obtain ⟨b_0_7, g_0_7⟩ : ∃ z, z = h0.size := ⟨_, rfl⟩
      rw [← g_0_7] at A_0_7 D_0_7 st_0_7
      have g_b_0_7 : n0 ≤ b_0_7 := Nat.le_trans Z0 (Nat.le_of_eq g_0_7.symm)
      have Z_0_7 : n0 ≤ h_0_7.size := Nat.le_trans Z0 E_0_7.1
      have f_0_8 : Fld Z h_0_7 b_0_7 "com/example/bouncr/bouncr/KeyRecord" "lastNano" "I" (.int (0 : Int32)) := D_0_7 (Or.inl (hw _ (List.mem_of_getElem? (i := 10) rfl))) (ty := .int) (by decide)
      have f_0_9 : Fld Z h_0_7 b_0_7 "com/example/bouncr/bouncr/KeyRecord" "placeSeconds" "[J" .null := D_0_7 (Or.inl (hw _ (List.mem_of_getElem? (i := 13) rfl))) (ty := (.array .long)) (by decide)
      have f_0_10 : Fld Z h_0_7 b_0_7 "com/example/bouncr/bouncr/KeyRecord" "placeNanos" "[I" .null := D_0_7 (Or.inl (hw _ (List.mem_of_getElem? (i := 16) rfl))) (ty := (.array .int)) (by decide)
      have f_0_11 : Fld Z h_0_7 b_0_7 "com/example/bouncr/bouncr/KeyRecord" "failures" "I" (.int (0 : Int32)) := D_0_7 (Or.inl (hw _ (List.mem_of_getElem? (i := 23) rfl))) (ty := .int) (by decide)
      have f_0_12 : Fld Z h_0_7 b_0_7 "com/example/bouncr/bouncr/KeyRecord" "lastSecond" "J" (.long (0 : Int64)) := D_0_7 (Or.inl (hw _ (List.mem_of_getElem? (i := 25) rfl))) (ty := .long) (by decide)
      have f_0_13 : Fld Z h_0_7 b_0_7 "com/example/bouncr/bouncr/KeyRecord" "refusedOnly" "Z" (.int (0 : Int32)) := D_0_7 (Or.inl (hw _ (List.mem_of_getElem? (i := 27) rfl))) (ty := .boolean) (by decide)
      have f_0_14 : Fld Z h_0_7 b_0_7 "com/example/bouncr/bouncr/KeyRecord" "placeCount" "I" (.int (0 : Int32)) := D_0_7 (Or.inl (hw _ (List.mem_of_getElem? (i := 54) rfl))) (ty := .int) (by decide)
      obtain ⟨lc_0_7, N_0_7, X_0_7⟩ : ∃ L, Fr n0 L ∧ Stand p l e room_1 s m #[(.int va), (.long vb), (.int vc), (.int vd), (.long ve), (.int vf)] below meth c T_0_7 L 1 9 := ⟨_, N0, X_0_7⟩
      refine ogo (fun _ k => st_0_7 _ k) ?_
      show OGo _ _ _ _ (T_0_7.setTop (mkF m 45 #[.val (.int va), .val (.long vb), .second, .val (.int vc), .val (.int vd), .val (.long ve), .second, .val (.int vf), .val (.int (0 : Int32)), .val (.int w_0_3), .val (.int (0 : Int32)), .unset, .unset, .unset, .unset] [(.ref b_0_7)]))
      refine ogo (fun _ k => XS.dup X_0_7.here hx rfl (hb hby at_45) rfl rfl k) ?_
      show OGo _ _ _ _ (T_0_7.setTop (mkF m 46 #[.val (.int va), .val (.long vb), .second, .val (.int vc), .val (.int vd), .val (.long ve), .second, .val (.int vf), .val (.int (0 : Int32)), .val (.int w_0_3), .val (.int (0 : Int32)), .unset, .unset, .unset, .unset] [(.ref b_0_7), (.ref b_0_7)]))
      obtain ⟨v_0_15, T_0_15, h_0_15, L_0_15, e_0_15, hQ_0_15, X_0_15, st_0_15⟩ := ospecQ X_0_7 hx hZ e_0_7 (rm1 l Z a0 hw b_0_7 h_0_7 n0 Z_0_7 A_0_7 f_0_11 f_0_12 f_0_8 f_0_13 f_0_14 f_0_9 f_0_10 g_b_0_7) rfl hown (hw _ (List.mem_of_getElem? (i := 3) rfl)) (hw _ (List.mem_of_getElem? (i := 4) rfl)) (hw _ (List.mem_of_getElem? (i := 2) rfl)) (hw _ (List.mem_of_getElem? (i := 5) rfl)) (by decide) (b := b_0_7) (g := (mkF m 46 #[.val (.int va), .val (.long vb), .second, .val (.int vc), .val (.int vd), .val (.long ve), .second, .val (.int vf), .val (.int (0 : Int32)), .val (.int w_0_3), .val (.int (0 : Int32)), .unset, .unset, .unset, .unset] [(.ref b_0_7), (.ref b_0_7)])) rfl (by rw [hml]; rfl) [] [(.ref b_0_7)] rfl (lenOf pd___V rfl) rfl (hb hby at_46) 1 (by show 2 * 0 + _ ≤ _; exact Nat.le_of_eq rfl) (by decide) (by decide) (by decide) (by decide)
      obtain ⟨sa_0_15, na_0_15, rfl, Nq_0_15, Kc_0_15, f_0_16, f_0_17, f_0_18, f_0_19, f_0_20, f_0_21, f_0_22, f_0_23, f_0_24, g_sa_0_15, g_na_0_15, ne_1_0_15, ne_2_0_15, ne_3_0_15⟩ := hQ_0_15
      have f_0_25 := A_0_7.keep Kc_0_15
      have Z_0_15 : n0 ≤ h_0_15.size := Nat.le_trans Z_0_7 Kc_0_15.1
      obtain ⟨lc_0_15, N_0_15, X_0_15⟩ : ∃ L, Fr n0 L ∧ Stand p l e room_1 s m #[(.int va), (.long vb), (.int vc), (.int vd), (.long ve), (.int vf)] below meth c T_0_15 L 3 11 := ⟨_, Fr.app N_0_7 Nq_0_15, X_0_15⟩
      refine ogo (fun _ k => st_0_15 _ k) ?_
      show OGo _ _ _ _ (T_0_15.setTop (mkF m 49 #[.val (.int va), .val (.long vb), .second, .val (.int vc), .val (.int vd), .val (.long ve), .second, .val (.int vf), .val (.int (0 : Int32)), .val (.int w_0_3), .val (.int (0 : Int32)), .unset, .unset, .unset, .unset] [(.ref b_0_7)]))
      refine ogo (fun _ k => XS.astore X_0_15.here hx rfl (hb hby at_49) rfl rfl (l' := #[.val (.int va), .val (.long vb), .second, .val (.int vc), .val (.int vd), .val (.long ve), .second, .val (.int vf), .val (.int (0 : Int32)), .val (.int w_0_3), .val (.int (0 : Int32)), .val (.ref b_0_7), .unset, .unset, .unset]) rfl k) ?_
      show OGo _ _ _ _ (T_0_15.setTop (mkF m 51 #[.val (.int va), .val (.long vb), .second, .val (.int vc), .val (.int vd), .val (.long ve), .second, .val (.int vf), .val (.int (0 : Int32)), .val (.int w_0_3), .val (.int (0 : Int32)), .val (.ref b_0_7), .unset, .unset, .unset] []))
      refine ogo (fun _ k => XS.iload X_0_15.here hx rfl (hb hby at_51) rfl k) ?_
      show OGo _ _ _ _ (T_0_15.setTop (mkF m 53 #[.val (.int va), .val (.long vb), .second, .val (.int vc), .val (.int vd), .val (.long ve), .second, .val (.int vf), .val (.int (0 : Int32)), .val (.int w_0_3), .val (.int (0 : Int32)), .val (.ref b_0_7), .unset, .unset, .unset] [(.int (0 : Int32))]))
      refine ogo (fun _ k => XS.ifYes X_0_15.here hx rfl (pc0 := 53) (pc' := 65) rfl (hb hby at_53) rfl ((if0 _ _).trans (teq (by decide : (0 : Int32) = (0 : Int32))).1) (by decide) (by decide) k) ?_
      show OGo _ _ _ _ (T_0_15.setTop (mkF m 65 #[.val (.int va), .val (.long vb), .second, .val (.int vc), .val (.int vd), .val (.long ve), .second, .val (.int vf), .val (.int (0 : Int32)), .val (.int w_0_3), .val (.int (0 : Int32)), .val (.ref b_0_7), .unset, .unset, .unset] []))
      refine ogo (fun _ k => XS.iload X_0_15.here hx rfl (hb hby at_65) rfl k) ?_
      show OGo _ _ _ _ (T_0_15.setTop (mkF m 67 #[.val (.int va), .val (.long vb), .second, .val (.int vc), .val (.int vd), .val (.long ve), .second, .val (.int vf), .val (.int (0 : Int32)), .val (.int w_0_3), .val (.int (0 : Int32)), .val (.ref b_0_7), .unset, .unset, .unset] [(.int (0 : Int32))]))
      refine ogo (fun _ k => XS.ifYes X_0_15.here hx rfl (pc0 := 67) (pc' := 96) rfl (hb hby at_67) rfl ((if0 _ _).trans (teq (by decide : (0 : Int32) = (0 : Int32))).1) (by decide) (by decide) k) ?_
      show OGo _ _ _ _ (T_0_15.setTop (mkF m 96 #[.val (.int va), .val (.long vb), .second, .val (.int vc), .val (.int vd), .val (.long ve), .second, .val (.int vf), .val (.int (0 : Int32)), .val (.int w_0_3), .val (.int (0 : Int32)), .val (.ref b_0_7), .unset, .unset, .unset] []))
      refine ogo (fun _ k => XS.aload X_0_15.here hx rfl (hb hby at_96) rfl rfl k) ?_
      show OGo _ _ _ _ (T_0_15.setTop (mkF m 98 #[.val (.int va), .val (.long vb), .second, .val (.int vc), .val (.int vd), .val (.long ve), .second, .val (.int vf), .val (.int (0 : Int32)), .val (.int w_0_3), .val (.int (0 : Int32)), .val (.ref b_0_7), .unset, .unset, .unset] [(.ref b_0_7)]))
      refine ogo (fun _ k => XS.iloadN X_0_15.here hx rfl (hb hby at_98) rfl k) ?_
      show OGo _ _ _ _ (T_0_15.setTop (mkF m 99 #[.val (.int va), .val (.long vb), .second, .val (.int vc), .val (.int vd), .val (.long ve), .second, .val (.int vf), .val (.int (0 : Int32)), .val (.int w_0_3), .val (.int (0 : Int32)), .val (.ref b_0_7), .unset, .unset, .unset] [(.int va), (.ref b_0_7)]))
      refine ogo (fun _ k => XS.lloadN X_0_15.here hx rfl (hb hby at_99) rfl k) ?_
      show OGo _ _ _ _ (T_0_15.setTop (mkF m 100 #[.val (.int va), .val (.long vb), .second, .val (.int vc), .val (.int vd), .val (.long ve), .second, .val (.int vf), .val (.int (0 : Int32)), .val (.int w_0_3), .val (.int (0 : Int32)), .val (.ref b_0_7), .unset, .unset, .unset] [(.long vb), (.int va), (.ref b_0_7)]))
      refine ogo (fun _ k => XS.iloadN X_0_15.here hx rfl (hb hby at_100) rfl k) ?_
      show OGo _ _ _ _ (T_0_15.setTop (mkF m 101 #[.val (.int va), .val (.long vb), .second, .val (.int vc), .val (.int vd), .val (.long ve), .second, .val (.int vf), .val (.int (0 : Int32)), .val (.int w_0_3), .val (.int (0 : Int32)), .val (.ref b_0_7), .unset, .unset, .unset] [(.int vc), (.long vb), (.int va), (.ref b_0_7)]))
      refine ogo (fun _ k => XS.iload X_0_15.here hx rfl (hb hby at_101) rfl k) ?_
      show OGo _ _ _ _ (T_0_15.setTop (mkF m 103 #[.val (.int va), .val (.long vb), .second, .val (.int vc), .val (.int vd), .val (.long ve), .second, .val (.int vf), .val (.int (0 : Int32)), .val (.int w_0_3), .val (.int (0 : Int32)), .val (.ref b_0_7), .unset, .unset, .unset] [(.int w_0_3), (.int vc), (.long vb), (.int va), (.ref b_0_7)]))
      obtain ⟨v_0_26, T_0_26, h_0_26, L_0_26, e_0_26, hQ_0_26, X_0_26, st_0_26⟩ := ovirtQ X_0_15 hx hZ e_0_15 (rm3 l Z a0 hw b_0_7 va vb vc w_0_3 (0 : Int32) (0 : Int64) (-1 : Int32) (0 : Int32) (0 : Int32) sa_0_15 na_0_15 h_0_15 n0 Z_0_15 f_0_25 f_0_16 f_0_17 f_0_18 f_0_19 f_0_20 f_0_21 f_0_22 g_b_0_7 (by rw [hw_0_3]; repeat' first | decide | apply oif01)) hown (hw _ (List.mem_of_getElem? (i := 17) rfl)) (hw _ (List.mem_of_getElem? (i := 18) rfl)) (hw _ (List.mem_of_getElem? (i := 20) rfl)) (hw _ (List.mem_of_getElem? (i := 19) rfl)) (hw _ (List.mem_of_getElem? (i := 2) rfl)) (hw _ (List.mem_of_getElem? (i := 21) rfl)) (by decide) f_0_25 (g := (mkF m 103 #[.val (.int va), .val (.long vb), .second, .val (.int vc), .val (.int vd), .val (.long ve), .second, .val (.int vf), .val (.int (0 : Int32)), .val (.int w_0_3), .val (.int (0 : Int32)), .val (.ref b_0_7), .unset, .unset, .unset] [(.int w_0_3), (.int vc), (.long vb), (.int va), (.ref b_0_7)])) rfl (by rw [hml]; rfl) [(.int va), (.long vb), (.int vc), (.int w_0_3)] [] rfl (lenOf pd__IJIZ_V rfl) rfl (hb hby at_103) 0 (by show 2 * 0 + _ ≤ _; exact Nat.le_of_eq rfl) (by decide) (by decide) (by decide) (by decide)
      obtain ⟨rfl, Nq_0_26, Kc_0_26, f_0_27, f_0_28, f_0_29, f_0_30, f_0_31, f_0_32, f_0_33⟩ := hQ_0_26
      have f_0_34 := f_0_25.keep Kc_0_26
      have f_0_35 := f_0_23.keep Kc_0_26 (ninS (Ne.symm ne_1_0_15) nin0)
      have f_0_36 := f_0_24.keep Kc_0_26 (ninS (Ne.symm ne_2_0_15) nin0)
      have Z_0_26 : n0 ≤ h_0_26.size := Nat.le_trans Z_0_15 Kc_0_26.1
      obtain ⟨lc_0_26, N_0_26, X_0_26⟩ : ∃ L, Fr n0 L ∧ Stand p l e room_1 s m #[(.int va), (.long vb), (.int vc), (.int vd), (.long ve), (.int vf)] below meth c T_0_26 L 3 11 := ⟨_, Fr.app N_0_15 Nq_0_26, X_0_26⟩
      refine ogo (fun _ k => st_0_26 _ k) ?_
      show OGo _ _ _ _ (T_0_26.setTop (mkF m 106 #[.val (.int va), .val (.long vb), .second, .val (.int vc), .val (.int vd), .val (.long ve), .second, .val (.int vf), .val (.int (0 : Int32)), .val (.int w_0_3), .val (.int (0 : Int32)), .val (.ref b_0_7), .unset, .unset, .unset] []))
      refine ogo (fun _ k => XS.aload X_0_26.here hx rfl (hb hby at_106) rfl rfl k) ?_
      show OGo _ _ _ _ (T_0_26.setTop (mkF m 108 #[.val (.int va), .val (.long vb), .second, .val (.int vc), .val (.int vd), .val (.long ve), .second, .val (.int vf), .val (.int (0 : Int32)), .val (.int w_0_3), .val (.int (0 : Int32)), .val (.ref b_0_7), .unset, .unset, .unset] [(.ref b_0_7)]))
      obtain ⟨T_0_37, X_0_37, e_0_37, st_0_37⟩ := ovirtP X_0_26 hx hZ e_0_26 (rm4 l Z a0 hw b_0_7 va h_0_26 f_0_27) hown (hw _ (List.mem_of_getElem? (i := 28) rfl)) (hw _ (List.mem_of_getElem? (i := 29) rfl)) (hw _ (List.mem_of_getElem? (i := 31) rfl)) (hw _ (List.mem_of_getElem? (i := 30) rfl)) (hw _ (List.mem_of_getElem? (i := 2) rfl)) (hw _ (List.mem_of_getElem? (i := 32) rfl)) (by decide) f_0_34 (g := (mkF m 108 #[.val (.int va), .val (.long vb), .second, .val (.int vc), .val (.int vd), .val (.long ve), .second, .val (.int vf), .val (.int (0 : Int32)), .val (.int w_0_3), .val (.int (0 : Int32)), .val (.ref b_0_7), .unset, .unset, .unset] [(.ref b_0_7)])) rfl (by rw [hml]; rfl) [] [] rfl (lenOf pd___I rfl) rfl (hb hby at_108) 0 (by show 2 * 0 + _ ≤ _; exact Nat.le_of_eq rfl) (by decide) (by decide) (by decide) (by decide) rfl rfl
      refine ogo (fun _ k => st_0_37 _ k) ?_
      show OGo _ _ _ _ (T_0_37.setTop (mkF m 111 #[.val (.int va), .val (.long vb), .second, .val (.int vc), .val (.int vd), .val (.long ve), .second, .val (.int vf), .val (.int (0 : Int32)), .val (.int w_0_3), .val (.int (0 : Int32)), .val (.ref b_0_7), .unset, .unset, .unset] [(.int (failuresF va))]))
      refine ogo (fun _ k => XS.iloadN X_0_37.here hx rfl (hb hby at_111) rfl k) ?_
      show OGo _ _ _ _ (T_0_37.setTop (mkF m 112 #[.val (.int va), .val (.long vb), .second, .val (.int vc), .val (.int vd), .val (.long ve), .second, .val (.int vf), .val (.int (0 : Int32)), .val (.int w_0_3), .val (.int (0 : Int32)), .val (.ref b_0_7), .unset, .unset, .unset] [(.int va), (.int (failuresF va))]))
      suffices J_0_55 : ∀ (w_0_54 : Int32) (hw_0_54 : w_0_54 = (if (failuresF va) = va then (if (secondF vb) = vb then (if (nanoF vc) = vc then (if (refusedF w_0_3) = w_0_3 then (1 : Int32) else (0 : Int32)) else (0 : Int32)) else (0 : Int32)) else (0 : Int32))) (T_0_56 : State) (X_0_56 : Stand p l e room_1 s m #[(.int va), (.long vb), (.int vc), (.int vd), (.long ve), (.int vf)] below meth c T_0_56 lc_0_26 3 11) (e_0_56 : T_0_56.heap = h_0_26), OGo p.tables e below (OFin s (fun v _ L => v = some (.int 1) ∧ Fr n0 L) 16 128) (T_0_56.setTop (mkF m 149 #[.val (.int va), .val (.long vb), .second, .val (.int vc), .val (.int vd), .val (.long ve), .second, .val (.int vf), .val (.int (0 : Int32)), .val (.int w_0_3), .val (.int (0 : Int32)), .val (.ref b_0_7), .unset, .unset, .unset] [(.int w_0_54)])) by
        by_cases hc_0_38 : (failuresF va) = va
        · refine ogo (fun _ k => XS.icmpNo X_0_37.here hx rfl (hb hby at_112) rfl (teq hc_0_38).2 k) ?_
          show OGo _ _ _ _ (T_0_37.setTop (mkF m 115 #[.val (.int va), .val (.long vb), .second, .val (.int vc), .val (.int vd), .val (.long ve), .second, .val (.int vf), .val (.int (0 : Int32)), .val (.int w_0_3), .val (.int (0 : Int32)), .val (.ref b_0_7), .unset, .unset, .unset] []))
          refine ogo (fun _ k => XS.aload X_0_37.here hx rfl (hb hby at_115) rfl rfl k) ?_
          show OGo _ _ _ _ (T_0_37.setTop (mkF m 117 #[.val (.int va), .val (.long vb), .second, .val (.int vc), .val (.int vd), .val (.long ve), .second, .val (.int vf), .val (.int (0 : Int32)), .val (.int w_0_3), .val (.int (0 : Int32)), .val (.ref b_0_7), .unset, .unset, .unset] [(.ref b_0_7)]))
          obtain ⟨T_0_39, X_0_39, e_0_39, st_0_39⟩ := ovirtP X_0_37 hx hZ e_0_37 (rm5 l Z a0 hw b_0_7 vb h_0_26 f_0_28) hown (hw _ (List.mem_of_getElem? (i := 33) rfl)) (hw _ (List.mem_of_getElem? (i := 34) rfl)) (hw _ (List.mem_of_getElem? (i := 36) rfl)) (hw _ (List.mem_of_getElem? (i := 35) rfl)) (hw _ (List.mem_of_getElem? (i := 2) rfl)) (hw _ (List.mem_of_getElem? (i := 37) rfl)) (by decide) f_0_34 (g := (mkF m 117 #[.val (.int va), .val (.long vb), .second, .val (.int vc), .val (.int vd), .val (.long ve), .second, .val (.int vf), .val (.int (0 : Int32)), .val (.int w_0_3), .val (.int (0 : Int32)), .val (.ref b_0_7), .unset, .unset, .unset] [(.ref b_0_7)])) rfl (by rw [hml]; rfl) [] [] rfl (lenOf pd___J rfl) rfl (hb hby at_117) 0 (by show 2 * 0 + _ ≤ _; exact Nat.le_of_eq rfl) (by decide) (by decide) (by decide) (by decide) rfl rfl
          refine ogo (fun _ k => st_0_39 _ k) ?_
          show OGo _ _ _ _ (T_0_39.setTop (mkF m 120 #[.val (.int va), .val (.long vb), .second, .val (.int vc), .val (.int vd), .val (.long ve), .second, .val (.int vf), .val (.int (0 : Int32)), .val (.int w_0_3), .val (.int (0 : Int32)), .val (.ref b_0_7), .unset, .unset, .unset] [(.long (secondF vb))]))
          refine ogo (fun _ k => XS.lloadN X_0_39.here hx rfl (hb hby at_120) rfl k) ?_
          show OGo _ _ _ _ (T_0_39.setTop (mkF m 121 #[.val (.int va), .val (.long vb), .second, .val (.int vc), .val (.int vd), .val (.long ve), .second, .val (.int vf), .val (.int (0 : Int32)), .val (.int w_0_3), .val (.int (0 : Int32)), .val (.ref b_0_7), .unset, .unset, .unset] [(.long vb), (.long (secondF vb))]))
          refine ogo (fun _ k => XS.lcmp X_0_39.here hx rfl (hb hby at_121) rfl k) ?_
          show OGo _ _ _ _ (T_0_39.setTop (mkF m 122 #[.val (.int va), .val (.long vb), .second, .val (.int vc), .val (.int vd), .val (.long ve), .second, .val (.int vf), .val (.int (0 : Int32)), .val (.int w_0_3), .val (.int (0 : Int32)), .val (.ref b_0_7), .unset, .unset, .unset] [(.int (lcmpW (secondF vb) vb))]))
          suffices J_0_52 : ∀ (w_0_51 : Int32) (hw_0_51 : w_0_51 = (if (secondF vb) = vb then (if (nanoF vc) = vc then (if (refusedF w_0_3) = w_0_3 then (1 : Int32) else (0 : Int32)) else (0 : Int32)) else (0 : Int32))) (T_0_53 : State) (X_0_53 : Stand p l e room_1 s m #[(.int va), (.long vb), (.int vc), (.int vd), (.long ve), (.int vf)] below meth c T_0_53 lc_0_26 3 11) (e_0_53 : T_0_53.heap = h_0_26), OGo p.tables e below (OFin s (fun v _ L => v = some (.int 1) ∧ Fr n0 L) 16 128) (T_0_53.setTop (mkF m 149 #[.val (.int va), .val (.long vb), .second, .val (.int vc), .val (.int vd), .val (.long ve), .second, .val (.int vf), .val (.int (0 : Int32)), .val (.int w_0_3), .val (.int (0 : Int32)), .val (.ref b_0_7), .unset, .unset, .unset] [(.int w_0_51)])) by
            by_cases hc_0_40 : (secondF vb) = vb
            · refine ogo (fun _ k => XS.ifNo X_0_39.here hx rfl (hb hby at_122) rfl ((if0 _ _).trans (teq ((lw_eq _ _).mpr hc_0_40)).2) k) ?_
              show OGo _ _ _ _ (T_0_39.setTop (mkF m 125 #[.val (.int va), .val (.long vb), .second, .val (.int vc), .val (.int vd), .val (.long ve), .second, .val (.int vf), .val (.int (0 : Int32)), .val (.int w_0_3), .val (.int (0 : Int32)), .val (.ref b_0_7), .unset, .unset, .unset] []))
              refine ogo (fun _ k => XS.aload X_0_39.here hx rfl (hb hby at_125) rfl rfl k) ?_
              show OGo _ _ _ _ (T_0_39.setTop (mkF m 127 #[.val (.int va), .val (.long vb), .second, .val (.int vc), .val (.int vd), .val (.long ve), .second, .val (.int vf), .val (.int (0 : Int32)), .val (.int w_0_3), .val (.int (0 : Int32)), .val (.ref b_0_7), .unset, .unset, .unset] [(.ref b_0_7)]))
              obtain ⟨T_0_41, X_0_41, e_0_41, st_0_41⟩ := ovirtP X_0_39 hx hZ e_0_39 (rm6 l Z a0 hw b_0_7 vc h_0_26 f_0_29) hown (hw _ (List.mem_of_getElem? (i := 38) rfl)) (hw _ (List.mem_of_getElem? (i := 39) rfl)) (hw _ (List.mem_of_getElem? (i := 41) rfl)) (hw _ (List.mem_of_getElem? (i := 40) rfl)) (hw _ (List.mem_of_getElem? (i := 2) rfl)) (hw _ (List.mem_of_getElem? (i := 42) rfl)) (by decide) f_0_34 (g := (mkF m 127 #[.val (.int va), .val (.long vb), .second, .val (.int vc), .val (.int vd), .val (.long ve), .second, .val (.int vf), .val (.int (0 : Int32)), .val (.int w_0_3), .val (.int (0 : Int32)), .val (.ref b_0_7), .unset, .unset, .unset] [(.ref b_0_7)])) rfl (by rw [hml]; rfl) [] [] rfl (lenOf pd___I rfl) rfl (hb hby at_127) 0 (by show 2 * 0 + _ ≤ _; exact Nat.le_of_eq rfl) (by decide) (by decide) (by decide) (by decide) rfl rfl
              refine ogo (fun _ k => st_0_41 _ k) ?_
              show OGo _ _ _ _ (T_0_41.setTop (mkF m 130 #[.val (.int va), .val (.long vb), .second, .val (.int vc), .val (.int vd), .val (.long ve), .second, .val (.int vf), .val (.int (0 : Int32)), .val (.int w_0_3), .val (.int (0 : Int32)), .val (.ref b_0_7), .unset, .unset, .unset] [(.int (nanoF vc))]))
              refine ogo (fun _ k => XS.iloadN X_0_41.here hx rfl (hb hby at_130) rfl k) ?_
              show OGo _ _ _ _ (T_0_41.setTop (mkF m 131 #[.val (.int va), .val (.long vb), .second, .val (.int vc), .val (.int vd), .val (.long ve), .second, .val (.int vf), .val (.int (0 : Int32)), .val (.int w_0_3), .val (.int (0 : Int32)), .val (.ref b_0_7), .unset, .unset, .unset] [(.int vc), (.int (nanoF vc))]))
              suffices J_0_49 : ∀ (w_0_48 : Int32) (hw_0_48 : w_0_48 = (if (nanoF vc) = vc then (if (refusedF w_0_3) = w_0_3 then (1 : Int32) else (0 : Int32)) else (0 : Int32))) (T_0_50 : State) (X_0_50 : Stand p l e room_1 s m #[(.int va), (.long vb), (.int vc), (.int vd), (.long ve), (.int vf)] below meth c T_0_50 lc_0_26 3 11) (e_0_50 : T_0_50.heap = h_0_26), OGo p.tables e below (OFin s (fun v _ L => v = some (.int 1) ∧ Fr n0 L) 16 128) (T_0_50.setTop (mkF m 149 #[.val (.int va), .val (.long vb), .second, .val (.int vc), .val (.int vd), .val (.long ve), .second, .val (.int vf), .val (.int (0 : Int32)), .val (.int w_0_3), .val (.int (0 : Int32)), .val (.ref b_0_7), .unset, .unset, .unset] [(.int w_0_48)])) by
                by_cases hc_0_42 : (nanoF vc) = vc
                · refine ogo (fun _ k => XS.icmpNo X_0_41.here hx rfl (hb hby at_131) rfl (teq hc_0_42).2 k) ?_
                  show OGo _ _ _ _ (T_0_41.setTop (mkF m 134 #[.val (.int va), .val (.long vb), .second, .val (.int vc), .val (.int vd), .val (.long ve), .second, .val (.int vf), .val (.int (0 : Int32)), .val (.int w_0_3), .val (.int (0 : Int32)), .val (.ref b_0_7), .unset, .unset, .unset] []))
                  refine ogo (fun _ k => XS.aload X_0_41.here hx rfl (hb hby at_134) rfl rfl k) ?_
                  show OGo _ _ _ _ (T_0_41.setTop (mkF m 136 #[.val (.int va), .val (.long vb), .second, .val (.int vc), .val (.int vd), .val (.long ve), .second, .val (.int vf), .val (.int (0 : Int32)), .val (.int w_0_3), .val (.int (0 : Int32)), .val (.ref b_0_7), .unset, .unset, .unset] [(.ref b_0_7)]))
                  obtain ⟨T_0_43, X_0_43, e_0_43, st_0_43⟩ := ovirtP X_0_41 hx hZ e_0_41 (rm7 l Z a0 hw b_0_7 w_0_3 h_0_26 f_0_30 (by rw [hw_0_3]; repeat' first | decide | apply oif01)) hown (hw _ (List.mem_of_getElem? (i := 43) rfl)) (hw _ (List.mem_of_getElem? (i := 44) rfl)) (hw _ (List.mem_of_getElem? (i := 46) rfl)) (hw _ (List.mem_of_getElem? (i := 45) rfl)) (hw _ (List.mem_of_getElem? (i := 2) rfl)) (hw _ (List.mem_of_getElem? (i := 47) rfl)) (by decide) f_0_34 (g := (mkF m 136 #[.val (.int va), .val (.long vb), .second, .val (.int vc), .val (.int vd), .val (.long ve), .second, .val (.int vf), .val (.int (0 : Int32)), .val (.int w_0_3), .val (.int (0 : Int32)), .val (.ref b_0_7), .unset, .unset, .unset] [(.ref b_0_7)])) rfl (by rw [hml]; rfl) [] [] rfl (lenOf pd___Z rfl) rfl (hb hby at_136) 0 (by show 2 * 0 + _ ≤ _; exact Nat.le_of_eq rfl) (by decide) (by decide) (by decide) (by decide) rfl rfl
                  refine ogo (fun _ k => st_0_43 _ k) ?_
                  show OGo _ _ _ _ (T_0_43.setTop (mkF m 139 #[.val (.int va), .val (.long vb), .second, .val (.int vc), .val (.int vd), .val (.long ve), .second, .val (.int vf), .val (.int (0 : Int32)), .val (.int w_0_3), .val (.int (0 : Int32)), .val (.ref b_0_7), .unset, .unset, .unset] [(.int (refusedF w_0_3))]))
                  refine ogo (fun _ k => XS.iload X_0_43.here hx rfl (hb hby at_139) rfl k) ?_
                  show OGo _ _ _ _ (T_0_43.setTop (mkF m 141 #[.val (.int va), .val (.long vb), .second, .val (.int vc), .val (.int vd), .val (.long ve), .second, .val (.int vf), .val (.int (0 : Int32)), .val (.int w_0_3), .val (.int (0 : Int32)), .val (.ref b_0_7), .unset, .unset, .unset] [(.int w_0_3), (.int (refusedF w_0_3))]))
                  suffices J_0_46 : ∀ (w_0_45 : Int32) (hw_0_45 : w_0_45 = (if (refusedF w_0_3) = w_0_3 then (1 : Int32) else (0 : Int32))), OGo p.tables e below (OFin s (fun v _ L => v = some (.int 1) ∧ Fr n0 L) 16 128) (T_0_43.setTop (mkF m 149 #[.val (.int va), .val (.long vb), .second, .val (.int vc), .val (.int vd), .val (.long ve), .second, .val (.int vf), .val (.int (0 : Int32)), .val (.int w_0_3), .val (.int (0 : Int32)), .val (.ref b_0_7), .unset, .unset, .unset] [(.int w_0_45)])) by
                    by_cases hc_0_44 : (refusedF w_0_3) = w_0_3
                    · refine ogo (fun _ k => XS.icmpNo X_0_43.here hx rfl (hb hby at_141) rfl (teq hc_0_44).2 k) ?_
                      show OGo _ _ _ _ (T_0_43.setTop (mkF m 144 #[.val (.int va), .val (.long vb), .second, .val (.int vc), .val (.int vd), .val (.long ve), .second, .val (.int vf), .val (.int (0 : Int32)), .val (.int w_0_3), .val (.int (0 : Int32)), .val (.ref b_0_7), .unset, .unset, .unset] []))
                      refine ogo (fun _ k => XS.iconst X_0_43.here hx rfl (hb hby at_144) k) ?_
                      show OGo _ _ _ _ (T_0_43.setTop (mkF m 145 #[.val (.int va), .val (.long vb), .second, .val (.int vc), .val (.int vd), .val (.long ve), .second, .val (.int vf), .val (.int (0 : Int32)), .val (.int w_0_3), .val (.int (0 : Int32)), .val (.ref b_0_7), .unset, .unset, .unset] [(.int (1 : Int32))]))
                      refine ogo (fun _ k => XS.goto X_0_43.here hx rfl (pc0 := 145) (pc' := 149) rfl (hb hby at_145) (by decide) (by decide) k) ?_
                      show OGo _ _ _ _ (T_0_43.setTop (mkF m 149 #[.val (.int va), .val (.long vb), .second, .val (.int vc), .val (.int vd), .val (.long ve), .second, .val (.int vf), .val (.int (0 : Int32)), .val (.int w_0_3), .val (.int (0 : Int32)), .val (.ref b_0_7), .unset, .unset, .unset] [(.int (1 : Int32))]))
                      exact J_0_46 _ (if_pos hc_0_44).symm
                    · refine ogo (fun _ k => XS.icmpYes X_0_43.here hx rfl (pc0 := 141) (pc' := 148) rfl (hb hby at_141) rfl (feq hc_0_44).2 (by decide) (by decide) k) ?_
                      show OGo _ _ _ _ (T_0_43.setTop (mkF m 148 #[.val (.int va), .val (.long vb), .second, .val (.int vc), .val (.int vd), .val (.long ve), .second, .val (.int vf), .val (.int (0 : Int32)), .val (.int w_0_3), .val (.int (0 : Int32)), .val (.ref b_0_7), .unset, .unset, .unset] []))
                      refine ogo (fun _ k => XS.iconst X_0_43.here hx rfl (hb hby at_148) k) ?_
                      show OGo _ _ _ _ (T_0_43.setTop (mkF m 149 #[.val (.int va), .val (.long vb), .second, .val (.int vc), .val (.int vd), .val (.long ve), .second, .val (.int vf), .val (.int (0 : Int32)), .val (.int w_0_3), .val (.int (0 : Int32)), .val (.ref b_0_7), .unset, .unset, .unset] [(.int (0 : Int32))]))
                      exact J_0_46 _ (if_neg hc_0_44).symm
                  intro w_0_45 hw_0_45
                  subst hw_0_45
                  exact J_0_49 _ (if_pos hc_0_42).symm _ X_0_43 e_0_43
                · refine ogo (fun _ k => XS.icmpYes X_0_41.here hx rfl (pc0 := 131) (pc' := 148) rfl (hb hby at_131) rfl (feq hc_0_42).2 (by decide) (by decide) k) ?_
                  show OGo _ _ _ _ (T_0_41.setTop (mkF m 148 #[.val (.int va), .val (.long vb), .second, .val (.int vc), .val (.int vd), .val (.long ve), .second, .val (.int vf), .val (.int (0 : Int32)), .val (.int w_0_3), .val (.int (0 : Int32)), .val (.ref b_0_7), .unset, .unset, .unset] []))
                  refine ogo (fun _ k => XS.iconst X_0_41.here hx rfl (hb hby at_148) k) ?_
                  show OGo _ _ _ _ (T_0_41.setTop (mkF m 149 #[.val (.int va), .val (.long vb), .second, .val (.int vc), .val (.int vd), .val (.long ve), .second, .val (.int vf), .val (.int (0 : Int32)), .val (.int w_0_3), .val (.int (0 : Int32)), .val (.ref b_0_7), .unset, .unset, .unset] [(.int (0 : Int32))]))
                  exact J_0_49 _ (if_neg hc_0_42).symm _ X_0_41 e_0_41
              intro w_0_48 hw_0_48 T_0_50 X_0_50 e_0_50
              subst hw_0_48
              exact J_0_52 _ (if_pos hc_0_40).symm _ X_0_50 e_0_50
            · refine ogo (fun _ k => XS.ifYes X_0_39.here hx rfl (pc0 := 122) (pc' := 148) rfl (hb hby at_122) rfl ((if0 _ _).trans (feq (fun q => hc_0_40 ((lw_eq _ _).mp q))).2) (by decide) (by decide) k) ?_
              show OGo _ _ _ _ (T_0_39.setTop (mkF m 148 #[.val (.int va), .val (.long vb), .second, .val (.int vc), .val (.int vd), .val (.long ve), .second, .val (.int vf), .val (.int (0 : Int32)), .val (.int w_0_3), .val (.int (0 : Int32)), .val (.ref b_0_7), .unset, .unset, .unset] []))
              refine ogo (fun _ k => XS.iconst X_0_39.here hx rfl (hb hby at_148) k) ?_
              show OGo _ _ _ _ (T_0_39.setTop (mkF m 149 #[.val (.int va), .val (.long vb), .second, .val (.int vc), .val (.int vd), .val (.long ve), .second, .val (.int vf), .val (.int (0 : Int32)), .val (.int w_0_3), .val (.int (0 : Int32)), .val (.ref b_0_7), .unset, .unset, .unset] [(.int (0 : Int32))]))
              exact J_0_52 _ (if_neg hc_0_40).symm _ X_0_39 e_0_39
          intro w_0_51 hw_0_51 T_0_53 X_0_53 e_0_53
          subst hw_0_51
          exact J_0_55 _ (if_pos hc_0_38).symm _ X_0_53 e_0_53
        · refine ogo (fun _ k => XS.icmpYes X_0_37.here hx rfl (pc0 := 112) (pc' := 148) rfl (hb hby at_112) rfl (feq hc_0_38).2 (by decide) (by decide) k) ?_
          show OGo _ _ _ _ (T_0_37.setTop (mkF m 148 #[.val (.int va), .val (.long vb), .second, .val (.int vc), .val (.int vd), .val (.long ve), .second, .val (.int vf), .val (.int (0 : Int32)), .val (.int w_0_3), .val (.int (0 : Int32)), .val (.ref b_0_7), .unset, .unset, .unset] []))
          refine ogo (fun _ k => XS.iconst X_0_37.here hx rfl (hb hby at_148) k) ?_
          show OGo _ _ _ _ (T_0_37.setTop (mkF m 149 #[.val (.int va), .val (.long vb), .second, .val (.int vc), .val (.int vd), .val (.long ve), .second, .val (.int vf), .val (.int (0 : Int32)), .val (.int w_0_3), .val (.int (0 : Int32)), .val (.ref b_0_7), .unset, .unset, .unset] [(.int (0 : Int32))]))
          exact J_0_55 _ (if_neg hc_0_38).symm _ X_0_37 e_0_37
      intro w_0_54 hw_0_54 T_0_56 X_0_56 e_0_56
      refine ogo (fun _ k => XS.istore X_0_56.here hx rfl (hb hby at_149) rfl (l' := #[.val (.int va), .val (.long vb), .second, .val (.int vc), .val (.int vd), .val (.long ve), .second, .val (.int vf), .val (.int (0 : Int32)), .val (.int w_0_3), .val (.int (0 : Int32)), .val (.ref b_0_7), .val (.int w_0_54), .unset, .unset]) rfl k) ?_
      show OGo _ _ _ _ (T_0_56.setTop (mkF m 151 #[.val (.int va), .val (.long vb), .second, .val (.int vc), .val (.int vd), .val (.long ve), .second, .val (.int vf), .val (.int (0 : Int32)), .val (.int w_0_3), .val (.int (0 : Int32)), .val (.ref b_0_7), .val (.int w_0_54), .unset, .unset] []))
      refine ogo (fun _ k => XS.iload X_0_56.here hx rfl (hb hby at_151) rfl k) ?_
      show OGo _ _ _ _ (T_0_56.setTop (mkF m 153 #[.val (.int va), .val (.long vb), .second, .val (.int vc), .val (.int vd), .val (.long ve), .second, .val (.int vf), .val (.int (0 : Int32)), .val (.int w_0_3), .val (.int (0 : Int32)), .val (.ref b_0_7), .val (.int w_0_54), .unset, .unset] [(.int (0 : Int32))]))
      refine ogo (fun _ k => XS.ifYes X_0_56.here hx rfl (pc0 := 153) (pc' := 160) rfl (hb hby at_153) rfl ((if0 _ _).trans (teq (by decide : (0 : Int32) = (0 : Int32))).1) (by decide) (by decide) k) ?_
      show OGo _ _ _ _ (T_0_56.setTop (mkF m 160 #[.val (.int va), .val (.long vb), .second, .val (.int vc), .val (.int vd), .val (.long ve), .second, .val (.int vf), .val (.int (0 : Int32)), .val (.int w_0_3), .val (.int (0 : Int32)), .val (.ref b_0_7), .val (.int w_0_54), .unset, .unset] []))
      refine ogo (fun _ k => XS.iconst X_0_56.here hx rfl (hb hby at_160) k) ?_
      show OGo _ _ _ _ (T_0_56.setTop (mkF m 161 #[.val (.int va), .val (.long vb), .second, .val (.int vc), .val (.int vd), .val (.long ve), .second, .val (.int vf), .val (.int (0 : Int32)), .val (.int w_0_3), .val (.int (0 : Int32)), .val (.ref b_0_7), .val (.int w_0_54), .unset, .unset] [(.int (0 : Int32))]))
      refine ogo (fun _ k => XS.istore X_0_56.here hx rfl (hb hby at_161) rfl (l' := #[.val (.int va), .val (.long vb), .second, .val (.int vc), .val (.int vd), .val (.long ve), .second, .val (.int vf), .val (.int (0 : Int32)), .val (.int w_0_3), .val (.int (0 : Int32)), .val (.ref b_0_7), .val (.int w_0_54), .val (.int (0 : Int32)), .unset]) rfl k) ?_
      show OGo _ _ _ _ (T_0_56.setTop (mkF m 163 #[.val (.int va), .val (.long vb), .second, .val (.int vc), .val (.int vd), .val (.long ve), .second, .val (.int vf), .val (.int (0 : Int32)), .val (.int w_0_3), .val (.int (0 : Int32)), .val (.ref b_0_7), .val (.int w_0_54), .val (.int (0 : Int32)), .unset] []))
      refine ogo (fun _ k => XS.iload X_0_56.here hx rfl (hb hby at_163) rfl k) ?_
      show OGo _ _ _ _ (T_0_56.setTop (mkF m 165 #[.val (.int va), .val (.long vb), .second, .val (.int vc), .val (.int vd), .val (.long ve), .second, .val (.int vf), .val (.int (0 : Int32)), .val (.int w_0_3), .val (.int (0 : Int32)), .val (.ref b_0_7), .val (.int w_0_54), .val (.int (0 : Int32)), .unset] [(.int w_0_54)]))
      suffices J_0_64 : ∀ (w_0_63 : Int32) (hw_0_63 : w_0_63 = (if w_0_54 = (0 : Int32) then (0 : Int32) else (if (placesF (0 : Int32)) = (0 : Int32) then (1 : Int32) else (0 : Int32)))) (T_0_65 : State) (X_0_65 : Stand p l e room_1 s m #[(.int va), (.long vb), (.int vc), (.int vd), (.long ve), (.int vf)] below meth c T_0_65 lc_0_26 3 11) (e_0_65 : T_0_65.heap = h_0_26), OGo p.tables e below (OFin s (fun v _ L => v = some (.int 1) ∧ Fr n0 L) 16 128) (T_0_65.setTop (mkF m 183 #[.val (.int va), .val (.long vb), .second, .val (.int vc), .val (.int vd), .val (.long ve), .second, .val (.int vf), .val (.int (0 : Int32)), .val (.int w_0_3), .val (.int (0 : Int32)), .val (.ref b_0_7), .val (.int w_0_54), .val (.int (0 : Int32)), .unset] [(.int w_0_63)])) by
        by_cases hc_0_57 : w_0_54 = (0 : Int32)
        · refine ogo (fun _ k => XS.ifYes X_0_56.here hx rfl (pc0 := 165) (pc' := 182) rfl (hb hby at_165) rfl ((if0 _ _).trans (teq hc_0_57).1) (by decide) (by decide) k) ?_
          show OGo _ _ _ _ (T_0_56.setTop (mkF m 182 #[.val (.int va), .val (.long vb), .second, .val (.int vc), .val (.int vd), .val (.long ve), .second, .val (.int vf), .val (.int (0 : Int32)), .val (.int w_0_3), .val (.int (0 : Int32)), .val (.ref b_0_7), .val (.int w_0_54), .val (.int (0 : Int32)), .unset] []))
          refine ogo (fun _ k => XS.iconst X_0_56.here hx rfl (hb hby at_182) k) ?_
          show OGo _ _ _ _ (T_0_56.setTop (mkF m 183 #[.val (.int va), .val (.long vb), .second, .val (.int vc), .val (.int vd), .val (.long ve), .second, .val (.int vf), .val (.int (0 : Int32)), .val (.int w_0_3), .val (.int (0 : Int32)), .val (.ref b_0_7), .val (.int w_0_54), .val (.int (0 : Int32)), .unset] [(.int (0 : Int32))]))
          exact J_0_64 _ (if_pos hc_0_57).symm _ X_0_56 e_0_56
        · refine ogo (fun _ k => XS.ifNo X_0_56.here hx rfl (hb hby at_165) rfl ((if0 _ _).trans (feq hc_0_57).1) k) ?_
          show OGo _ _ _ _ (T_0_56.setTop (mkF m 168 #[.val (.int va), .val (.long vb), .second, .val (.int vc), .val (.int vd), .val (.long ve), .second, .val (.int vf), .val (.int (0 : Int32)), .val (.int w_0_3), .val (.int (0 : Int32)), .val (.ref b_0_7), .val (.int w_0_54), .val (.int (0 : Int32)), .unset] []))
          refine ogo (fun _ k => XS.aload X_0_56.here hx rfl (hb hby at_168) rfl rfl k) ?_
          show OGo _ _ _ _ (T_0_56.setTop (mkF m 170 #[.val (.int va), .val (.long vb), .second, .val (.int vc), .val (.int vd), .val (.long ve), .second, .val (.int vf), .val (.int (0 : Int32)), .val (.int w_0_3), .val (.int (0 : Int32)), .val (.ref b_0_7), .val (.int w_0_54), .val (.int (0 : Int32)), .unset] [(.ref b_0_7)]))
          obtain ⟨T_0_58, X_0_58, e_0_58, st_0_58⟩ := ovirtP X_0_56 hx hZ e_0_56 (rm8 l Z a0 hw b_0_7 ((0 : Int32)) h_0_26 f_0_31) hown (hw _ (List.mem_of_getElem? (i := 48) rfl)) (hw _ (List.mem_of_getElem? (i := 49) rfl)) (hw _ (List.mem_of_getElem? (i := 51) rfl)) (hw _ (List.mem_of_getElem? (i := 50) rfl)) (hw _ (List.mem_of_getElem? (i := 2) rfl)) (hw _ (List.mem_of_getElem? (i := 52) rfl)) (by decide) f_0_34 (g := (mkF m 170 #[.val (.int va), .val (.long vb), .second, .val (.int vc), .val (.int vd), .val (.long ve), .second, .val (.int vf), .val (.int (0 : Int32)), .val (.int w_0_3), .val (.int (0 : Int32)), .val (.ref b_0_7), .val (.int w_0_54), .val (.int (0 : Int32)), .unset] [(.ref b_0_7)])) rfl (by rw [hml]; rfl) [] [] rfl (lenOf pd___I rfl) rfl (hb hby at_170) 0 (by show 2 * 0 + _ ≤ _; exact Nat.le_of_eq rfl) (by decide) (by decide) (by decide) (by decide) rfl rfl
          refine ogo (fun _ k => st_0_58 _ k) ?_
          show OGo _ _ _ _ (T_0_58.setTop (mkF m 173 #[.val (.int va), .val (.long vb), .second, .val (.int vc), .val (.int vd), .val (.long ve), .second, .val (.int vf), .val (.int (0 : Int32)), .val (.int w_0_3), .val (.int (0 : Int32)), .val (.ref b_0_7), .val (.int w_0_54), .val (.int (0 : Int32)), .unset] [(.int (placesF (0 : Int32)))]))
          refine ogo (fun _ k => XS.iload X_0_58.here hx rfl (hb hby at_173) rfl k) ?_
          show OGo _ _ _ _ (T_0_58.setTop (mkF m 175 #[.val (.int va), .val (.long vb), .second, .val (.int vc), .val (.int vd), .val (.long ve), .second, .val (.int vf), .val (.int (0 : Int32)), .val (.int w_0_3), .val (.int (0 : Int32)), .val (.ref b_0_7), .val (.int w_0_54), .val (.int (0 : Int32)), .unset] [(.int (0 : Int32)), (.int (placesF (0 : Int32)))]))
          suffices J_0_61 : ∀ (w_0_60 : Int32) (hw_0_60 : w_0_60 = (if (placesF (0 : Int32)) = (0 : Int32) then (1 : Int32) else (0 : Int32))), OGo p.tables e below (OFin s (fun v _ L => v = some (.int 1) ∧ Fr n0 L) 16 128) (T_0_58.setTop (mkF m 183 #[.val (.int va), .val (.long vb), .second, .val (.int vc), .val (.int vd), .val (.long ve), .second, .val (.int vf), .val (.int (0 : Int32)), .val (.int w_0_3), .val (.int (0 : Int32)), .val (.ref b_0_7), .val (.int w_0_54), .val (.int (0 : Int32)), .unset] [(.int w_0_60)])) by
            by_cases hc_0_59 : (placesF (0 : Int32)) = (0 : Int32)
            · refine ogo (fun _ k => XS.icmpNo X_0_58.here hx rfl (hb hby at_175) rfl (teq hc_0_59).2 k) ?_
              show OGo _ _ _ _ (T_0_58.setTop (mkF m 178 #[.val (.int va), .val (.long vb), .second, .val (.int vc), .val (.int vd), .val (.long ve), .second, .val (.int vf), .val (.int (0 : Int32)), .val (.int w_0_3), .val (.int (0 : Int32)), .val (.ref b_0_7), .val (.int w_0_54), .val (.int (0 : Int32)), .unset] []))
              refine ogo (fun _ k => XS.iconst X_0_58.here hx rfl (hb hby at_178) k) ?_
              show OGo _ _ _ _ (T_0_58.setTop (mkF m 179 #[.val (.int va), .val (.long vb), .second, .val (.int vc), .val (.int vd), .val (.long ve), .second, .val (.int vf), .val (.int (0 : Int32)), .val (.int w_0_3), .val (.int (0 : Int32)), .val (.ref b_0_7), .val (.int w_0_54), .val (.int (0 : Int32)), .unset] [(.int (1 : Int32))]))
              refine ogo (fun _ k => XS.goto X_0_58.here hx rfl (pc0 := 179) (pc' := 183) rfl (hb hby at_179) (by decide) (by decide) k) ?_
              show OGo _ _ _ _ (T_0_58.setTop (mkF m 183 #[.val (.int va), .val (.long vb), .second, .val (.int vc), .val (.int vd), .val (.long ve), .second, .val (.int vf), .val (.int (0 : Int32)), .val (.int w_0_3), .val (.int (0 : Int32)), .val (.ref b_0_7), .val (.int w_0_54), .val (.int (0 : Int32)), .unset] [(.int (1 : Int32))]))
              exact J_0_61 _ (if_pos hc_0_59).symm
            · refine ogo (fun _ k => XS.icmpYes X_0_58.here hx rfl (pc0 := 175) (pc' := 182) rfl (hb hby at_175) rfl (feq hc_0_59).2 (by decide) (by decide) k) ?_
              show OGo _ _ _ _ (T_0_58.setTop (mkF m 182 #[.val (.int va), .val (.long vb), .second, .val (.int vc), .val (.int vd), .val (.long ve), .second, .val (.int vf), .val (.int (0 : Int32)), .val (.int w_0_3), .val (.int (0 : Int32)), .val (.ref b_0_7), .val (.int w_0_54), .val (.int (0 : Int32)), .unset] []))
              refine ogo (fun _ k => XS.iconst X_0_58.here hx rfl (hb hby at_182) k) ?_
              show OGo _ _ _ _ (T_0_58.setTop (mkF m 183 #[.val (.int va), .val (.long vb), .second, .val (.int vc), .val (.int vd), .val (.long ve), .second, .val (.int vf), .val (.int (0 : Int32)), .val (.int w_0_3), .val (.int (0 : Int32)), .val (.ref b_0_7), .val (.int w_0_54), .val (.int (0 : Int32)), .unset] [(.int (0 : Int32))]))
              exact J_0_61 _ (if_neg hc_0_59).symm
          intro w_0_60 hw_0_60
          subst hw_0_60
          exact J_0_64 _ (if_neg hc_0_57).symm _ X_0_58 e_0_58
      intro w_0_63 hw_0_63 T_0_65 X_0_65 e_0_65
      refine ogo (fun _ k => XS.istore X_0_65.here hx rfl (hb hby at_183) rfl (l' := #[.val (.int va), .val (.long vb), .second, .val (.int vc), .val (.int vd), .val (.long ve), .second, .val (.int vf), .val (.int (0 : Int32)), .val (.int w_0_3), .val (.int (0 : Int32)), .val (.ref b_0_7), .val (.int w_0_63), .val (.int (0 : Int32)), .unset]) rfl k) ?_
      show OGo _ _ _ _ (T_0_65.setTop (mkF m 185 #[.val (.int va), .val (.long vb), .second, .val (.int vc), .val (.int vd), .val (.long ve), .second, .val (.int vf), .val (.int (0 : Int32)), .val (.int w_0_3), .val (.int (0 : Int32)), .val (.ref b_0_7), .val (.int w_0_63), .val (.int (0 : Int32)), .unset] []))
      refine ogo (fun _ k => XS.iload X_0_65.here hx rfl (hb hby at_185) rfl k) ?_
      show OGo _ _ _ _ (T_0_65.setTop (mkF m 187 #[.val (.int va), .val (.long vb), .second, .val (.int vc), .val (.int vd), .val (.long ve), .second, .val (.int vf), .val (.int (0 : Int32)), .val (.int w_0_3), .val (.int (0 : Int32)), .val (.ref b_0_7), .val (.int w_0_63), .val (.int (0 : Int32)), .unset] [(.int w_0_63)]))
      suffices J_0_67 : OGo p.tables e below (OFin s (fun v _ L => v = some (.int 1) ∧ Fr n0 L) 16 128) (T_0_65.setTop (mkF m 225 #[.val (.int va), .val (.long vb), .second, .val (.int vc), .val (.int vd), .val (.long ve), .second, .val (.int vf), .val (.int (0 : Int32)), .val (.int w_0_3), .val (.int (0 : Int32)), .val (.ref b_0_7), .val (.int w_0_63), .val (.int (0 : Int32)), .unset] [])) by
        by_cases hc_0_66 : w_0_63 = (0 : Int32)
        · refine ogo (fun _ k => XS.ifYes X_0_65.here hx rfl (pc0 := 187) (pc' := 225) rfl (hb hby at_187) rfl ((if0 _ _).trans (teq hc_0_66).1) (by decide) (by decide) k) ?_
          show OGo _ _ _ _ (T_0_65.setTop (mkF m 225 #[.val (.int va), .val (.long vb), .second, .val (.int vc), .val (.int vd), .val (.long ve), .second, .val (.int vf), .val (.int (0 : Int32)), .val (.int w_0_3), .val (.int (0 : Int32)), .val (.ref b_0_7), .val (.int w_0_63), .val (.int (0 : Int32)), .unset] []))
          exact J_0_67
        · refine ogo (fun _ k => XS.ifNo X_0_65.here hx rfl (hb hby at_187) rfl ((if0 _ _).trans (feq hc_0_66).1) k) ?_
          show OGo _ _ _ _ (T_0_65.setTop (mkF m 190 #[.val (.int va), .val (.long vb), .second, .val (.int vc), .val (.int vd), .val (.long ve), .second, .val (.int vf), .val (.int (0 : Int32)), .val (.int w_0_3), .val (.int (0 : Int32)), .val (.ref b_0_7), .val (.int w_0_63), .val (.int (0 : Int32)), .unset] []))
          refine ogo (fun _ k => XS.iload X_0_65.here hx rfl (hb hby at_190) rfl k) ?_
          show OGo _ _ _ _ (T_0_65.setTop (mkF m 192 #[.val (.int va), .val (.long vb), .second, .val (.int vc), .val (.int vd), .val (.long ve), .second, .val (.int vf), .val (.int (0 : Int32)), .val (.int w_0_3), .val (.int (0 : Int32)), .val (.ref b_0_7), .val (.int w_0_63), .val (.int (0 : Int32)), .unset] [(.int (0 : Int32))]))
          refine ogo (fun _ k => XS.ifYes X_0_65.here hx rfl (pc0 := 192) (pc' := 225) rfl (hb hby at_192) rfl ((if0 _ _).trans (teq (by decide : (0 : Int32) = (0 : Int32))).1) (by decide) (by decide) k) ?_
          show OGo _ _ _ _ (T_0_65.setTop (mkF m 225 #[.val (.int va), .val (.long vb), .second, .val (.int vc), .val (.int vd), .val (.long ve), .second, .val (.int vf), .val (.int (0 : Int32)), .val (.int w_0_3), .val (.int (0 : Int32)), .val (.ref b_0_7), .val (.int w_0_63), .val (.int (0 : Int32)), .unset] []))
          exact J_0_67
      refine ogo (fun _ k => XS.iloadN X_0_65.here hx rfl (hb hby at_225) rfl k) ?_
      show OGo _ _ _ _ (T_0_65.setTop (mkF m 226 #[.val (.int va), .val (.long vb), .second, .val (.int vc), .val (.int vd), .val (.long ve), .second, .val (.int vf), .val (.int (0 : Int32)), .val (.int w_0_3), .val (.int (0 : Int32)), .val (.ref b_0_7), .val (.int w_0_63), .val (.int (0 : Int32)), .unset] [(.int va)]))
      suffices J_0_71 : ∀ (w_0_70 : Int32) (hw_0_70 : w_0_70 = (if va = (0 : Int32) then (1 : Int32) else (0 : Int32))), OGo p.tables e below (OFin s (fun v _ L => v = some (.int 1) ∧ Fr n0 L) 16 128) (T_0_65.setTop (mkF m 239 #[.val (.int va), .val (.long vb), .second, .val (.int vc), .val (.int vd), .val (.long ve), .second, .val (.int vf), .val (.int (0 : Int32)), .val (.int w_0_3), .val (.int (0 : Int32)), .val (.ref b_0_7), .val (.int w_0_63), .val (.int (0 : Int32)), .unset] [(.int w_0_70)])) by
        by_cases hc_0_69 : va = (0 : Int32)
        · refine ogo (fun _ k => XS.ifNo X_0_65.here hx rfl (hb hby at_226) rfl ((if0 _ _).trans (teq hc_0_69).2) k) ?_
          show OGo _ _ _ _ (T_0_65.setTop (mkF m 229 #[.val (.int va), .val (.long vb), .second, .val (.int vc), .val (.int vd), .val (.long ve), .second, .val (.int vf), .val (.int (0 : Int32)), .val (.int w_0_3), .val (.int (0 : Int32)), .val (.ref b_0_7), .val (.int w_0_63), .val (.int (0 : Int32)), .unset] []))
          refine ogo (fun _ k => XS.iload X_0_65.here hx rfl (hb hby at_229) rfl k) ?_
          show OGo _ _ _ _ (T_0_65.setTop (mkF m 231 #[.val (.int va), .val (.long vb), .second, .val (.int vc), .val (.int vd), .val (.long ve), .second, .val (.int vf), .val (.int (0 : Int32)), .val (.int w_0_3), .val (.int (0 : Int32)), .val (.ref b_0_7), .val (.int w_0_63), .val (.int (0 : Int32)), .unset] [(.int (0 : Int32))]))
          refine ogo (fun _ k => XS.ifNo X_0_65.here hx rfl (hb hby at_231) rfl ((if0 _ _).trans (teq (by decide : (0 : Int32) = (0 : Int32))).2) k) ?_
          show OGo _ _ _ _ (T_0_65.setTop (mkF m 234 #[.val (.int va), .val (.long vb), .second, .val (.int vc), .val (.int vd), .val (.long ve), .second, .val (.int vf), .val (.int (0 : Int32)), .val (.int w_0_3), .val (.int (0 : Int32)), .val (.ref b_0_7), .val (.int w_0_63), .val (.int (0 : Int32)), .unset] []))
          refine ogo (fun _ k => XS.iconst X_0_65.here hx rfl (hb hby at_234) k) ?_
          show OGo _ _ _ _ (T_0_65.setTop (mkF m 235 #[.val (.int va), .val (.long vb), .second, .val (.int vc), .val (.int vd), .val (.long ve), .second, .val (.int vf), .val (.int (0 : Int32)), .val (.int w_0_3), .val (.int (0 : Int32)), .val (.ref b_0_7), .val (.int w_0_63), .val (.int (0 : Int32)), .unset] [(.int (1 : Int32))]))
          refine ogo (fun _ k => XS.goto X_0_65.here hx rfl (pc0 := 235) (pc' := 239) rfl (hb hby at_235) (by decide) (by decide) k) ?_
          show OGo _ _ _ _ (T_0_65.setTop (mkF m 239 #[.val (.int va), .val (.long vb), .second, .val (.int vc), .val (.int vd), .val (.long ve), .second, .val (.int vf), .val (.int (0 : Int32)), .val (.int w_0_3), .val (.int (0 : Int32)), .val (.ref b_0_7), .val (.int w_0_63), .val (.int (0 : Int32)), .unset] [(.int (1 : Int32))]))
          exact J_0_71 _ (if_pos hc_0_69).symm
        · refine ogo (fun _ k => XS.ifYes X_0_65.here hx rfl (pc0 := 226) (pc' := 238) rfl (hb hby at_226) rfl ((if0 _ _).trans (feq hc_0_69).2) (by decide) (by decide) k) ?_
          show OGo _ _ _ _ (T_0_65.setTop (mkF m 238 #[.val (.int va), .val (.long vb), .second, .val (.int vc), .val (.int vd), .val (.long ve), .second, .val (.int vf), .val (.int (0 : Int32)), .val (.int w_0_3), .val (.int (0 : Int32)), .val (.ref b_0_7), .val (.int w_0_63), .val (.int (0 : Int32)), .unset] []))
          refine ogo (fun _ k => XS.iconst X_0_65.here hx rfl (hb hby at_238) k) ?_
          show OGo _ _ _ _ (T_0_65.setTop (mkF m 239 #[.val (.int va), .val (.long vb), .second, .val (.int vc), .val (.int vd), .val (.long ve), .second, .val (.int vf), .val (.int (0 : Int32)), .val (.int w_0_3), .val (.int (0 : Int32)), .val (.ref b_0_7), .val (.int w_0_63), .val (.int (0 : Int32)), .unset] [(.int (0 : Int32))]))
          exact J_0_71 _ (if_neg hc_0_69).symm
      intro w_0_70 hw_0_70
      refine ogo (fun _ k => XS.istore X_0_65.here hx rfl (hb hby at_239) rfl (l' := #[.val (.int va), .val (.long vb), .second, .val (.int vc), .val (.int vd), .val (.long ve), .second, .val (.int vf), .val (.int (0 : Int32)), .val (.int w_0_3), .val (.int (0 : Int32)), .val (.ref b_0_7), .val (.int w_0_63), .val (.int (0 : Int32)), .val (.int w_0_70)]) rfl k) ?_
      show OGo _ _ _ _ (T_0_65.setTop (mkF m 241 #[.val (.int va), .val (.long vb), .second, .val (.int vc), .val (.int vd), .val (.long ve), .second, .val (.int vf), .val (.int (0 : Int32)), .val (.int w_0_3), .val (.int (0 : Int32)), .val (.ref b_0_7), .val (.int w_0_63), .val (.int (0 : Int32)), .val (.int w_0_70)] []))
      refine ogo (fun _ k => XS.iload X_0_65.here hx rfl (hb hby at_241) rfl k) ?_
      show OGo _ _ _ _ (T_0_65.setTop (mkF m 243 #[.val (.int va), .val (.long vb), .second, .val (.int vc), .val (.int vd), .val (.long ve), .second, .val (.int vf), .val (.int (0 : Int32)), .val (.int w_0_3), .val (.int (0 : Int32)), .val (.ref b_0_7), .val (.int w_0_63), .val (.int (0 : Int32)), .val (.int w_0_70)] [(.int w_0_63)]))
      suffices J_0_80 : ∀ (w_0_79 : Int32) (hw_0_79 : w_0_79 = (if w_0_63 = (0 : Int32) then (0 : Int32) else (if (emptyF va (0 : Int32)) = w_0_70 then (1 : Int32) else (0 : Int32)))) (T_0_81 : State) (X_0_81 : Stand p l e room_1 s m #[(.int va), (.long vb), (.int vc), (.int vd), (.long ve), (.int vf)] below meth c T_0_81 lc_0_26 3 11) (e_0_81 : T_0_81.heap = h_0_26), OGo p.tables e below (OFin s (fun v _ L => v = some (.int 1) ∧ Fr n0 L) 16 128) (T_0_81.setTop (mkF m 261 #[.val (.int va), .val (.long vb), .second, .val (.int vc), .val (.int vd), .val (.long ve), .second, .val (.int vf), .val (.int (0 : Int32)), .val (.int w_0_3), .val (.int (0 : Int32)), .val (.ref b_0_7), .val (.int w_0_63), .val (.int (0 : Int32)), .val (.int w_0_70)] [(.int w_0_79)])) by
        by_cases hc_0_73 : w_0_63 = (0 : Int32)
        · refine ogo (fun _ k => XS.ifYes X_0_65.here hx rfl (pc0 := 243) (pc' := 260) rfl (hb hby at_243) rfl ((if0 _ _).trans (teq hc_0_73).1) (by decide) (by decide) k) ?_
          show OGo _ _ _ _ (T_0_65.setTop (mkF m 260 #[.val (.int va), .val (.long vb), .second, .val (.int vc), .val (.int vd), .val (.long ve), .second, .val (.int vf), .val (.int (0 : Int32)), .val (.int w_0_3), .val (.int (0 : Int32)), .val (.ref b_0_7), .val (.int w_0_63), .val (.int (0 : Int32)), .val (.int w_0_70)] []))
          refine ogo (fun _ k => XS.iconst X_0_65.here hx rfl (hb hby at_260) k) ?_
          show OGo _ _ _ _ (T_0_65.setTop (mkF m 261 #[.val (.int va), .val (.long vb), .second, .val (.int vc), .val (.int vd), .val (.long ve), .second, .val (.int vf), .val (.int (0 : Int32)), .val (.int w_0_3), .val (.int (0 : Int32)), .val (.ref b_0_7), .val (.int w_0_63), .val (.int (0 : Int32)), .val (.int w_0_70)] [(.int (0 : Int32))]))
          exact J_0_80 _ (if_pos hc_0_73).symm _ X_0_65 e_0_65
        · refine ogo (fun _ k => XS.ifNo X_0_65.here hx rfl (hb hby at_243) rfl ((if0 _ _).trans (feq hc_0_73).1) k) ?_
          show OGo _ _ _ _ (T_0_65.setTop (mkF m 246 #[.val (.int va), .val (.long vb), .second, .val (.int vc), .val (.int vd), .val (.long ve), .second, .val (.int vf), .val (.int (0 : Int32)), .val (.int w_0_3), .val (.int (0 : Int32)), .val (.ref b_0_7), .val (.int w_0_63), .val (.int (0 : Int32)), .val (.int w_0_70)] []))
          refine ogo (fun _ k => XS.aload X_0_65.here hx rfl (hb hby at_246) rfl rfl k) ?_
          show OGo _ _ _ _ (T_0_65.setTop (mkF m 248 #[.val (.int va), .val (.long vb), .second, .val (.int vc), .val (.int vd), .val (.long ve), .second, .val (.int vf), .val (.int (0 : Int32)), .val (.int w_0_3), .val (.int (0 : Int32)), .val (.ref b_0_7), .val (.int w_0_63), .val (.int (0 : Int32)), .val (.int w_0_70)] [(.ref b_0_7)]))
          obtain ⟨T_0_74, X_0_74, e_0_74, st_0_74⟩ := ovirtP X_0_65 hx hZ e_0_65 (rm9 l Z a0 hw b_0_7 va ((0 : Int32)) h_0_26 f_0_27 f_0_31) hown (hw _ (List.mem_of_getElem? (i := 55) rfl)) (hw _ (List.mem_of_getElem? (i := 56) rfl)) (hw _ (List.mem_of_getElem? (i := 58) rfl)) (hw _ (List.mem_of_getElem? (i := 57) rfl)) (hw _ (List.mem_of_getElem? (i := 2) rfl)) (hw _ (List.mem_of_getElem? (i := 59) rfl)) (by decide) f_0_34 (g := (mkF m 248 #[.val (.int va), .val (.long vb), .second, .val (.int vc), .val (.int vd), .val (.long ve), .second, .val (.int vf), .val (.int (0 : Int32)), .val (.int w_0_3), .val (.int (0 : Int32)), .val (.ref b_0_7), .val (.int w_0_63), .val (.int (0 : Int32)), .val (.int w_0_70)] [(.ref b_0_7)])) rfl (by rw [hml]; rfl) [] [] rfl (lenOf pd___Z rfl) rfl (hb hby at_248) 0 (by show 2 * 0 + _ ≤ _; exact Nat.le_of_eq rfl) (by decide) (by decide) (by decide) (by decide) rfl rfl
          refine ogo (fun _ k => st_0_74 _ k) ?_
          show OGo _ _ _ _ (T_0_74.setTop (mkF m 251 #[.val (.int va), .val (.long vb), .second, .val (.int vc), .val (.int vd), .val (.long ve), .second, .val (.int vf), .val (.int (0 : Int32)), .val (.int w_0_3), .val (.int (0 : Int32)), .val (.ref b_0_7), .val (.int w_0_63), .val (.int (0 : Int32)), .val (.int w_0_70)] [(.int (emptyF va (0 : Int32)))]))
          refine ogo (fun _ k => XS.iload X_0_74.here hx rfl (hb hby at_251) rfl k) ?_
          show OGo _ _ _ _ (T_0_74.setTop (mkF m 253 #[.val (.int va), .val (.long vb), .second, .val (.int vc), .val (.int vd), .val (.long ve), .second, .val (.int vf), .val (.int (0 : Int32)), .val (.int w_0_3), .val (.int (0 : Int32)), .val (.ref b_0_7), .val (.int w_0_63), .val (.int (0 : Int32)), .val (.int w_0_70)] [(.int w_0_70), (.int (emptyF va (0 : Int32)))]))
          suffices J_0_77 : ∀ (w_0_76 : Int32) (hw_0_76 : w_0_76 = (if (emptyF va (0 : Int32)) = w_0_70 then (1 : Int32) else (0 : Int32))), OGo p.tables e below (OFin s (fun v _ L => v = some (.int 1) ∧ Fr n0 L) 16 128) (T_0_74.setTop (mkF m 261 #[.val (.int va), .val (.long vb), .second, .val (.int vc), .val (.int vd), .val (.long ve), .second, .val (.int vf), .val (.int (0 : Int32)), .val (.int w_0_3), .val (.int (0 : Int32)), .val (.ref b_0_7), .val (.int w_0_63), .val (.int (0 : Int32)), .val (.int w_0_70)] [(.int w_0_76)])) by
            by_cases hc_0_75 : (emptyF va (0 : Int32)) = w_0_70
            · refine ogo (fun _ k => XS.icmpNo X_0_74.here hx rfl (hb hby at_253) rfl (teq hc_0_75).2 k) ?_
              show OGo _ _ _ _ (T_0_74.setTop (mkF m 256 #[.val (.int va), .val (.long vb), .second, .val (.int vc), .val (.int vd), .val (.long ve), .second, .val (.int vf), .val (.int (0 : Int32)), .val (.int w_0_3), .val (.int (0 : Int32)), .val (.ref b_0_7), .val (.int w_0_63), .val (.int (0 : Int32)), .val (.int w_0_70)] []))
              refine ogo (fun _ k => XS.iconst X_0_74.here hx rfl (hb hby at_256) k) ?_
              show OGo _ _ _ _ (T_0_74.setTop (mkF m 257 #[.val (.int va), .val (.long vb), .second, .val (.int vc), .val (.int vd), .val (.long ve), .second, .val (.int vf), .val (.int (0 : Int32)), .val (.int w_0_3), .val (.int (0 : Int32)), .val (.ref b_0_7), .val (.int w_0_63), .val (.int (0 : Int32)), .val (.int w_0_70)] [(.int (1 : Int32))]))
              refine ogo (fun _ k => XS.goto X_0_74.here hx rfl (pc0 := 257) (pc' := 261) rfl (hb hby at_257) (by decide) (by decide) k) ?_
              show OGo _ _ _ _ (T_0_74.setTop (mkF m 261 #[.val (.int va), .val (.long vb), .second, .val (.int vc), .val (.int vd), .val (.long ve), .second, .val (.int vf), .val (.int (0 : Int32)), .val (.int w_0_3), .val (.int (0 : Int32)), .val (.ref b_0_7), .val (.int w_0_63), .val (.int (0 : Int32)), .val (.int w_0_70)] [(.int (1 : Int32))]))
              exact J_0_77 _ (if_pos hc_0_75).symm
            · refine ogo (fun _ k => XS.icmpYes X_0_74.here hx rfl (pc0 := 253) (pc' := 260) rfl (hb hby at_253) rfl (feq hc_0_75).2 (by decide) (by decide) k) ?_
              show OGo _ _ _ _ (T_0_74.setTop (mkF m 260 #[.val (.int va), .val (.long vb), .second, .val (.int vc), .val (.int vd), .val (.long ve), .second, .val (.int vf), .val (.int (0 : Int32)), .val (.int w_0_3), .val (.int (0 : Int32)), .val (.ref b_0_7), .val (.int w_0_63), .val (.int (0 : Int32)), .val (.int w_0_70)] []))
              refine ogo (fun _ k => XS.iconst X_0_74.here hx rfl (hb hby at_260) k) ?_
              show OGo _ _ _ _ (T_0_74.setTop (mkF m 261 #[.val (.int va), .val (.long vb), .second, .val (.int vc), .val (.int vd), .val (.long ve), .second, .val (.int vf), .val (.int (0 : Int32)), .val (.int w_0_3), .val (.int (0 : Int32)), .val (.ref b_0_7), .val (.int w_0_63), .val (.int (0 : Int32)), .val (.int w_0_70)] [(.int (0 : Int32))]))
              exact J_0_77 _ (if_neg hc_0_75).symm
          intro w_0_76 hw_0_76
          subst hw_0_76
          exact J_0_80 _ (if_neg hc_0_73).symm _ X_0_74 e_0_74
      intro w_0_79 hw_0_79 T_0_81 X_0_81 e_0_81
      have hz : w_0_79 = (1 : Int32) := plain0 va vb vc vd ve vf hc_0_1 w_0_3 hw_0_3 hc_0_6 w_0_54 hw_0_54 w_0_63 hw_0_63 w_0_70 hw_0_70 w_0_79 hw_0_79
      rw [hz]
      exact oret X_0_81 hx hlk Bd.returns rfl (Or.inl ⟨rfl, Or.inr (Or.inl rfl), _, rfl⟩) (hb hby at_261) (by decide) (by decide) ⟨rfl, N_0_26⟩
    · refine ogo (fun _ k => XS.ifNo X0.here hx rfl (hb hby at_32) rfl ((if0 _ _).trans (feq hc_0_6).1) k) ?_
      show OGo _ _ _ _ (s₁.setTop (mkF m 35 #[.val (.int va), .val (.long vb), .second, .val (.int vc), .val (.int vd), .val (.long ve), .second, .val (.int vf), .val (.int (0 : Int32)), .val (.int w_0_3), .unset, .unset, .unset, .unset, .unset] []))
      refine ogo (fun _ k => XS.iconst X0.here hx rfl (hb hby at_35) k) ?_
      show OGo _ _ _ _ (s₁.setTop (mkF m 36 #[.val (.int va), .val (.long vb), .second, .val (.int vc), .val (.int vd), .val (.long ve), .second, .val (.int vf), .val (.int (0 : Int32)), .val (.int w_0_3), .unset, .unset, .unset, .unset, .unset] [(.int (1 : Int32))]))
      refine ogo (fun _ k => XS.goto X0.here hx rfl (pc0 := 36) (pc' := 40) rfl (hb hby at_36) (by decide) (by decide) k) ?_
      show OGo _ _ _ _ (s₁.setTop (mkF m 40 #[.val (.int va), .val (.long vb), .second, .val (.int vc), .val (.int vd), .val (.long ve), .second, .val (.int vf), .val (.int (0 : Int32)), .val (.int w_0_3), .unset, .unset, .unset, .unset, .unset] [(.int (1 : Int32))]))
      refine ogo (fun _ k => XS.istore X0.here hx rfl (hb hby at_40) rfl (l' := #[.val (.int va), .val (.long vb), .second, .val (.int vc), .val (.int vd), .val (.long ve), .second, .val (.int vf), .val (.int (0 : Int32)), .val (.int w_0_3), .val (.int (1 : Int32)), .unset, .unset, .unset, .unset]) rfl k) ?_
      show OGo _ _ _ _ (s₁.setTop (mkF m 42 #[.val (.int va), .val (.long vb), .second, .val (.int vc), .val (.int vd), .val (.long ve), .second, .val (.int vf), .val (.int (0 : Int32)), .val (.int w_0_3), .val (.int (1 : Int32)), .unset, .unset, .unset, .unset] []))
      obtain ⟨T_0_82, h_0_82, X_0_82, e_0_82, E_0_82, A_0_82, D_0_82, -, st_0_82⟩ := newO X0 hx hZ hown (hw _ (List.mem_of_getElem? (i := 0) rfl)) (hw _ (List.mem_of_getElem? (i := 1) rfl)) (hw _ (List.mem_of_getElem? (i := 2) rfl)) e0 (g := (mkF m 42 #[.val (.int va), .val (.long vb), .second, .val (.int vc), .val (.int vd), .val (.long ve), .second, .val (.int vf), .val (.int (0 : Int32)), .val (.int w_0_3), .val (.int (1 : Int32)), .unset, .unset, .unset, .unset] [])) rfl (hb hby at_42) (by decide) (by decide)
      obtain ⟨b_0_82, g_0_82⟩ : ∃ z, z = h0.size := ⟨_, rfl⟩
      rw [← g_0_82] at A_0_82 D_0_82 st_0_82
      have g_b_0_82 : n0 ≤ b_0_82 := Nat.le_trans Z0 (Nat.le_of_eq g_0_82.symm)
      have Z_0_82 : n0 ≤ h_0_82.size := Nat.le_trans Z0 E_0_82.1
      have f_0_83 : Fld Z h_0_82 b_0_82 "com/example/bouncr/bouncr/KeyRecord" "lastNano" "I" (.int (0 : Int32)) := D_0_82 (Or.inl (hw _ (List.mem_of_getElem? (i := 10) rfl))) (ty := .int) (by decide)
      have f_0_84 : Fld Z h_0_82 b_0_82 "com/example/bouncr/bouncr/KeyRecord" "placeSeconds" "[J" .null := D_0_82 (Or.inl (hw _ (List.mem_of_getElem? (i := 13) rfl))) (ty := (.array .long)) (by decide)
      have f_0_85 : Fld Z h_0_82 b_0_82 "com/example/bouncr/bouncr/KeyRecord" "placeNanos" "[I" .null := D_0_82 (Or.inl (hw _ (List.mem_of_getElem? (i := 16) rfl))) (ty := (.array .int)) (by decide)
      have f_0_86 : Fld Z h_0_82 b_0_82 "com/example/bouncr/bouncr/KeyRecord" "failures" "I" (.int (0 : Int32)) := D_0_82 (Or.inl (hw _ (List.mem_of_getElem? (i := 23) rfl))) (ty := .int) (by decide)
      have f_0_87 : Fld Z h_0_82 b_0_82 "com/example/bouncr/bouncr/KeyRecord" "lastSecond" "J" (.long (0 : Int64)) := D_0_82 (Or.inl (hw _ (List.mem_of_getElem? (i := 25) rfl))) (ty := .long) (by decide)
      have f_0_88 : Fld Z h_0_82 b_0_82 "com/example/bouncr/bouncr/KeyRecord" "refusedOnly" "Z" (.int (0 : Int32)) := D_0_82 (Or.inl (hw _ (List.mem_of_getElem? (i := 27) rfl))) (ty := .boolean) (by decide)
      have f_0_89 : Fld Z h_0_82 b_0_82 "com/example/bouncr/bouncr/KeyRecord" "placeCount" "I" (.int (0 : Int32)) := D_0_82 (Or.inl (hw _ (List.mem_of_getElem? (i := 54) rfl))) (ty := .int) (by decide)
      obtain ⟨lc_0_82, N_0_82, X_0_82⟩ : ∃ L, Fr n0 L ∧ Stand p l e room_1 s m #[(.int va), (.long vb), (.int vc), (.int vd), (.long ve), (.int vf)] below meth c T_0_82 L 1 9 := ⟨_, N0, X_0_82⟩
      refine ogo (fun _ k => st_0_82 _ k) ?_
      show OGo _ _ _ _ (T_0_82.setTop (mkF m 45 #[.val (.int va), .val (.long vb), .second, .val (.int vc), .val (.int vd), .val (.long ve), .second, .val (.int vf), .val (.int (0 : Int32)), .val (.int w_0_3), .val (.int (1 : Int32)), .unset, .unset, .unset, .unset] [(.ref b_0_82)]))
      refine ogo (fun _ k => XS.dup X_0_82.here hx rfl (hb hby at_45) rfl rfl k) ?_
      show OGo _ _ _ _ (T_0_82.setTop (mkF m 46 #[.val (.int va), .val (.long vb), .second, .val (.int vc), .val (.int vd), .val (.long ve), .second, .val (.int vf), .val (.int (0 : Int32)), .val (.int w_0_3), .val (.int (1 : Int32)), .unset, .unset, .unset, .unset] [(.ref b_0_82), (.ref b_0_82)]))
      obtain ⟨v_0_90, T_0_90, h_0_90, L_0_90, e_0_90, hQ_0_90, X_0_90, st_0_90⟩ := ospecQ X_0_82 hx hZ e_0_82 (rm1 l Z a0 hw b_0_82 h_0_82 n0 Z_0_82 A_0_82 f_0_86 f_0_87 f_0_83 f_0_88 f_0_89 f_0_84 f_0_85 g_b_0_82) rfl hown (hw _ (List.mem_of_getElem? (i := 3) rfl)) (hw _ (List.mem_of_getElem? (i := 4) rfl)) (hw _ (List.mem_of_getElem? (i := 2) rfl)) (hw _ (List.mem_of_getElem? (i := 5) rfl)) (by decide) (b := b_0_82) (g := (mkF m 46 #[.val (.int va), .val (.long vb), .second, .val (.int vc), .val (.int vd), .val (.long ve), .second, .val (.int vf), .val (.int (0 : Int32)), .val (.int w_0_3), .val (.int (1 : Int32)), .unset, .unset, .unset, .unset] [(.ref b_0_82), (.ref b_0_82)])) rfl (by rw [hml]; rfl) [] [(.ref b_0_82)] rfl (lenOf pd___V rfl) rfl (hb hby at_46) 1 (by show 2 * 0 + _ ≤ _; exact Nat.le_of_eq rfl) (by decide) (by decide) (by decide) (by decide)
      obtain ⟨sa_0_90, na_0_90, rfl, Nq_0_90, Kc_0_90, f_0_91, f_0_92, f_0_93, f_0_94, f_0_95, f_0_96, f_0_97, f_0_98, f_0_99, g_sa_0_90, g_na_0_90, ne_1_0_90, ne_2_0_90, ne_3_0_90⟩ := hQ_0_90
      have f_0_100 := A_0_82.keep Kc_0_90
      have Z_0_90 : n0 ≤ h_0_90.size := Nat.le_trans Z_0_82 Kc_0_90.1
      obtain ⟨lc_0_90, N_0_90, X_0_90⟩ : ∃ L, Fr n0 L ∧ Stand p l e room_1 s m #[(.int va), (.long vb), (.int vc), (.int vd), (.long ve), (.int vf)] below meth c T_0_90 L 3 11 := ⟨_, Fr.app N_0_82 Nq_0_90, X_0_90⟩
      refine ogo (fun _ k => st_0_90 _ k) ?_
      show OGo _ _ _ _ (T_0_90.setTop (mkF m 49 #[.val (.int va), .val (.long vb), .second, .val (.int vc), .val (.int vd), .val (.long ve), .second, .val (.int vf), .val (.int (0 : Int32)), .val (.int w_0_3), .val (.int (1 : Int32)), .unset, .unset, .unset, .unset] [(.ref b_0_82)]))
      refine ogo (fun _ k => XS.astore X_0_90.here hx rfl (hb hby at_49) rfl rfl (l' := #[.val (.int va), .val (.long vb), .second, .val (.int vc), .val (.int vd), .val (.long ve), .second, .val (.int vf), .val (.int (0 : Int32)), .val (.int w_0_3), .val (.int (1 : Int32)), .val (.ref b_0_82), .unset, .unset, .unset]) rfl k) ?_
      show OGo _ _ _ _ (T_0_90.setTop (mkF m 51 #[.val (.int va), .val (.long vb), .second, .val (.int vc), .val (.int vd), .val (.long ve), .second, .val (.int vf), .val (.int (0 : Int32)), .val (.int w_0_3), .val (.int (1 : Int32)), .val (.ref b_0_82), .unset, .unset, .unset] []))
      refine ogo (fun _ k => XS.iload X_0_90.here hx rfl (hb hby at_51) rfl k) ?_
      show OGo _ _ _ _ (T_0_90.setTop (mkF m 53 #[.val (.int va), .val (.long vb), .second, .val (.int vc), .val (.int vd), .val (.long ve), .second, .val (.int vf), .val (.int (0 : Int32)), .val (.int w_0_3), .val (.int (1 : Int32)), .val (.ref b_0_82), .unset, .unset, .unset] [(.int (0 : Int32))]))
      refine ogo (fun _ k => XS.ifYes X_0_90.here hx rfl (pc0 := 53) (pc' := 65) rfl (hb hby at_53) rfl ((if0 _ _).trans (teq (by decide : (0 : Int32) = (0 : Int32))).1) (by decide) (by decide) k) ?_
      show OGo _ _ _ _ (T_0_90.setTop (mkF m 65 #[.val (.int va), .val (.long vb), .second, .val (.int vc), .val (.int vd), .val (.long ve), .second, .val (.int vf), .val (.int (0 : Int32)), .val (.int w_0_3), .val (.int (1 : Int32)), .val (.ref b_0_82), .unset, .unset, .unset] []))
      refine ogo (fun _ k => XS.iload X_0_90.here hx rfl (hb hby at_65) rfl k) ?_
      show OGo _ _ _ _ (T_0_90.setTop (mkF m 67 #[.val (.int va), .val (.long vb), .second, .val (.int vc), .val (.int vd), .val (.long ve), .second, .val (.int vf), .val (.int (0 : Int32)), .val (.int w_0_3), .val (.int (1 : Int32)), .val (.ref b_0_82), .unset, .unset, .unset] [(.int (1 : Int32))]))
      refine ogo (fun _ k => XS.ifNo X_0_90.here hx rfl (hb hby at_67) rfl ((if0 _ _).trans (feq (by decide : ¬ ((1 : Int32) = (0 : Int32)))).1) k) ?_
      show OGo _ _ _ _ (T_0_90.setTop (mkF m 70 #[.val (.int va), .val (.long vb), .second, .val (.int vc), .val (.int vd), .val (.long ve), .second, .val (.int vf), .val (.int (0 : Int32)), .val (.int w_0_3), .val (.int (1 : Int32)), .val (.ref b_0_82), .unset, .unset, .unset] []))
      refine ogo (fun _ k => XS.aload X_0_90.here hx rfl (hb hby at_70) rfl rfl k) ?_
      show OGo _ _ _ _ (T_0_90.setTop (mkF m 72 #[.val (.int va), .val (.long vb), .second, .val (.int vc), .val (.int vd), .val (.long ve), .second, .val (.int vf), .val (.int (0 : Int32)), .val (.int w_0_3), .val (.int (1 : Int32)), .val (.ref b_0_82), .unset, .unset, .unset] [(.ref b_0_82)]))
      refine ogo (fun _ k => XS.iloadN X_0_90.here hx rfl (hb hby at_72) rfl k) ?_
      show OGo _ _ _ _ (T_0_90.setTop (mkF m 73 #[.val (.int va), .val (.long vb), .second, .val (.int vc), .val (.int vd), .val (.long ve), .second, .val (.int vf), .val (.int (0 : Int32)), .val (.int w_0_3), .val (.int (1 : Int32)), .val (.ref b_0_82), .unset, .unset, .unset] [(.int va), (.ref b_0_82)]))
      refine ogo (fun _ k => XS.iconst X_0_90.here hx rfl (hb hby at_73) k) ?_
      show OGo _ _ _ _ (T_0_90.setTop (mkF m 74 #[.val (.int va), .val (.long vb), .second, .val (.int vc), .val (.int vd), .val (.long ve), .second, .val (.int vf), .val (.int (0 : Int32)), .val (.int w_0_3), .val (.int (1 : Int32)), .val (.ref b_0_82), .unset, .unset, .unset] [(.int (-1 : Int32)), (.int va), (.ref b_0_82)]))
      refine ogo (fun _ k => XS.ixor X_0_90.here hx rfl (hb hby at_74) rfl k) ?_
      show OGo _ _ _ _ (T_0_90.setTop (mkF m 75 #[.val (.int va), .val (.long vb), .second, .val (.int vc), .val (.int vd), .val (.long ve), .second, .val (.int vf), .val (.int (0 : Int32)), .val (.int w_0_3), .val (.int (1 : Int32)), .val (.ref b_0_82), .unset, .unset, .unset] [(.int (va ^^^ (-1 : Int32))), (.ref b_0_82)]))
      refine ogo (fun _ k => XS.lloadN X_0_90.here hx rfl (hb hby at_75) rfl k) ?_
      show OGo _ _ _ _ (T_0_90.setTop (mkF m 76 #[.val (.int va), .val (.long vb), .second, .val (.int vc), .val (.int vd), .val (.long ve), .second, .val (.int vf), .val (.int (0 : Int32)), .val (.int w_0_3), .val (.int (1 : Int32)), .val (.ref b_0_82), .unset, .unset, .unset] [(.long vb), (.int (va ^^^ (-1 : Int32))), (.ref b_0_82)]))
      refine ogo (fun _ k => X_0_90.ldc2J hx hown (mvT hZ (hw _ (List.mem_of_getElem? (i := 65) rfl))) rfl (hb hby at_76) k) ?_
      show OGo _ _ _ _ (T_0_90.setTop (mkF m 79 #[.val (.int va), .val (.long vb), .second, .val (.int vc), .val (.int vd), .val (.long ve), .second, .val (.int vf), .val (.int (0 : Int32)), .val (.int w_0_3), .val (.int (1 : Int32)), .val (.ref b_0_82), .unset, .unset, .unset] [(.long (-1 : Int64)), (.long vb), (.int (va ^^^ (-1 : Int32))), (.ref b_0_82)]))
      refine ogo (fun _ k => XS.lxor X_0_90.here hx rfl (hb hby at_79) rfl k) ?_
      show OGo _ _ _ _ (T_0_90.setTop (mkF m 80 #[.val (.int va), .val (.long vb), .second, .val (.int vc), .val (.int vd), .val (.long ve), .second, .val (.int vf), .val (.int (0 : Int32)), .val (.int w_0_3), .val (.int (1 : Int32)), .val (.ref b_0_82), .unset, .unset, .unset] [(.long (vb ^^^ (-1 : Int64))), (.int (va ^^^ (-1 : Int32))), (.ref b_0_82)]))
      refine ogo (fun _ k => XS.iloadN X_0_90.here hx rfl (hb hby at_80) rfl k) ?_
      show OGo _ _ _ _ (T_0_90.setTop (mkF m 81 #[.val (.int va), .val (.long vb), .second, .val (.int vc), .val (.int vd), .val (.long ve), .second, .val (.int vf), .val (.int (0 : Int32)), .val (.int w_0_3), .val (.int (1 : Int32)), .val (.ref b_0_82), .unset, .unset, .unset] [(.int vc), (.long (vb ^^^ (-1 : Int64))), (.int (va ^^^ (-1 : Int32))), (.ref b_0_82)]))
      refine ogo (fun _ k => XS.iconst X_0_90.here hx rfl (hb hby at_81) k) ?_
      show OGo _ _ _ _ (T_0_90.setTop (mkF m 82 #[.val (.int va), .val (.long vb), .second, .val (.int vc), .val (.int vd), .val (.long ve), .second, .val (.int vf), .val (.int (0 : Int32)), .val (.int w_0_3), .val (.int (1 : Int32)), .val (.ref b_0_82), .unset, .unset, .unset] [(.int (-1 : Int32)), (.int vc), (.long (vb ^^^ (-1 : Int64))), (.int (va ^^^ (-1 : Int32))), (.ref b_0_82)]))
      refine ogo (fun _ k => XS.ixor X_0_90.here hx rfl (hb hby at_82) rfl k) ?_
      show OGo _ _ _ _ (T_0_90.setTop (mkF m 83 #[.val (.int va), .val (.long vb), .second, .val (.int vc), .val (.int vd), .val (.long ve), .second, .val (.int vf), .val (.int (0 : Int32)), .val (.int w_0_3), .val (.int (1 : Int32)), .val (.ref b_0_82), .unset, .unset, .unset] [(.int (vc ^^^ (-1 : Int32))), (.long (vb ^^^ (-1 : Int64))), (.int (va ^^^ (-1 : Int32))), (.ref b_0_82)]))
      refine ogo (fun _ k => XS.iload X_0_90.here hx rfl (hb hby at_83) rfl k) ?_
      show OGo _ _ _ _ (T_0_90.setTop (mkF m 85 #[.val (.int va), .val (.long vb), .second, .val (.int vc), .val (.int vd), .val (.long ve), .second, .val (.int vf), .val (.int (0 : Int32)), .val (.int w_0_3), .val (.int (1 : Int32)), .val (.ref b_0_82), .unset, .unset, .unset] [(.int w_0_3), (.int (vc ^^^ (-1 : Int32))), (.long (vb ^^^ (-1 : Int64))), (.int (va ^^^ (-1 : Int32))), (.ref b_0_82)]))
      suffices J_0_103 : ∀ (w_0_102 : Int32) (hw_0_102 : w_0_102 = (if w_0_3 = (0 : Int32) then (1 : Int32) else (0 : Int32))), OGo p.tables e below (OFin s (fun v _ L => v = some (.int 1) ∧ Fr n0 L) 16 128) (T_0_90.setTop (mkF m 93 #[.val (.int va), .val (.long vb), .second, .val (.int vc), .val (.int vd), .val (.long ve), .second, .val (.int vf), .val (.int (0 : Int32)), .val (.int w_0_3), .val (.int (1 : Int32)), .val (.ref b_0_82), .unset, .unset, .unset] [(.int w_0_102), (.int (vc ^^^ (-1 : Int32))), (.long (vb ^^^ (-1 : Int64))), (.int (va ^^^ (-1 : Int32))), (.ref b_0_82)])) by
        by_cases hc_0_101 : w_0_3 = (0 : Int32)
        · refine ogo (fun _ k => XS.ifNo X_0_90.here hx rfl (hb hby at_85) rfl ((if0 _ _).trans (teq hc_0_101).2) k) ?_
          show OGo _ _ _ _ (T_0_90.setTop (mkF m 88 #[.val (.int va), .val (.long vb), .second, .val (.int vc), .val (.int vd), .val (.long ve), .second, .val (.int vf), .val (.int (0 : Int32)), .val (.int w_0_3), .val (.int (1 : Int32)), .val (.ref b_0_82), .unset, .unset, .unset] [(.int (vc ^^^ (-1 : Int32))), (.long (vb ^^^ (-1 : Int64))), (.int (va ^^^ (-1 : Int32))), (.ref b_0_82)]))
          refine ogo (fun _ k => XS.iconst X_0_90.here hx rfl (hb hby at_88) k) ?_
          show OGo _ _ _ _ (T_0_90.setTop (mkF m 89 #[.val (.int va), .val (.long vb), .second, .val (.int vc), .val (.int vd), .val (.long ve), .second, .val (.int vf), .val (.int (0 : Int32)), .val (.int w_0_3), .val (.int (1 : Int32)), .val (.ref b_0_82), .unset, .unset, .unset] [(.int (1 : Int32)), (.int (vc ^^^ (-1 : Int32))), (.long (vb ^^^ (-1 : Int64))), (.int (va ^^^ (-1 : Int32))), (.ref b_0_82)]))
          refine ogo (fun _ k => XS.goto X_0_90.here hx rfl (pc0 := 89) (pc' := 93) rfl (hb hby at_89) (by decide) (by decide) k) ?_
          show OGo _ _ _ _ (T_0_90.setTop (mkF m 93 #[.val (.int va), .val (.long vb), .second, .val (.int vc), .val (.int vd), .val (.long ve), .second, .val (.int vf), .val (.int (0 : Int32)), .val (.int w_0_3), .val (.int (1 : Int32)), .val (.ref b_0_82), .unset, .unset, .unset] [(.int (1 : Int32)), (.int (vc ^^^ (-1 : Int32))), (.long (vb ^^^ (-1 : Int64))), (.int (va ^^^ (-1 : Int32))), (.ref b_0_82)]))
          exact J_0_103 _ (if_pos hc_0_101).symm
        · refine ogo (fun _ k => XS.ifYes X_0_90.here hx rfl (pc0 := 85) (pc' := 92) rfl (hb hby at_85) rfl ((if0 _ _).trans (feq hc_0_101).2) (by decide) (by decide) k) ?_
          show OGo _ _ _ _ (T_0_90.setTop (mkF m 92 #[.val (.int va), .val (.long vb), .second, .val (.int vc), .val (.int vd), .val (.long ve), .second, .val (.int vf), .val (.int (0 : Int32)), .val (.int w_0_3), .val (.int (1 : Int32)), .val (.ref b_0_82), .unset, .unset, .unset] [(.int (vc ^^^ (-1 : Int32))), (.long (vb ^^^ (-1 : Int64))), (.int (va ^^^ (-1 : Int32))), (.ref b_0_82)]))
          refine ogo (fun _ k => XS.iconst X_0_90.here hx rfl (hb hby at_92) k) ?_
          show OGo _ _ _ _ (T_0_90.setTop (mkF m 93 #[.val (.int va), .val (.long vb), .second, .val (.int vc), .val (.int vd), .val (.long ve), .second, .val (.int vf), .val (.int (0 : Int32)), .val (.int w_0_3), .val (.int (1 : Int32)), .val (.ref b_0_82), .unset, .unset, .unset] [(.int (0 : Int32)), (.int (vc ^^^ (-1 : Int32))), (.long (vb ^^^ (-1 : Int64))), (.int (va ^^^ (-1 : Int32))), (.ref b_0_82)]))
          exact J_0_103 _ (if_neg hc_0_101).symm
      intro w_0_102 hw_0_102
      obtain ⟨v_0_105, T_0_105, h_0_105, L_0_105, e_0_105, hQ_0_105, X_0_105, st_0_105⟩ := ovirtQ X_0_90 hx hZ e_0_90 (rm3 l Z a0 hw b_0_82 (va ^^^ (-1 : Int32)) (vb ^^^ (-1 : Int64)) (vc ^^^ (-1 : Int32)) w_0_102 (0 : Int32) (0 : Int64) (-1 : Int32) (0 : Int32) (0 : Int32) sa_0_90 na_0_90 h_0_90 n0 Z_0_90 f_0_100 f_0_91 f_0_92 f_0_93 f_0_94 f_0_95 f_0_96 f_0_97 g_b_0_82 (by rw [hw_0_102]; repeat' first | decide | apply oif01)) hown (hw _ (List.mem_of_getElem? (i := 17) rfl)) (hw _ (List.mem_of_getElem? (i := 18) rfl)) (hw _ (List.mem_of_getElem? (i := 20) rfl)) (hw _ (List.mem_of_getElem? (i := 19) rfl)) (hw _ (List.mem_of_getElem? (i := 2) rfl)) (hw _ (List.mem_of_getElem? (i := 21) rfl)) (by decide) f_0_100 (g := (mkF m 93 #[.val (.int va), .val (.long vb), .second, .val (.int vc), .val (.int vd), .val (.long ve), .second, .val (.int vf), .val (.int (0 : Int32)), .val (.int w_0_3), .val (.int (1 : Int32)), .val (.ref b_0_82), .unset, .unset, .unset] [(.int w_0_102), (.int (vc ^^^ (-1 : Int32))), (.long (vb ^^^ (-1 : Int64))), (.int (va ^^^ (-1 : Int32))), (.ref b_0_82)])) rfl (by rw [hml]; rfl) [(.int (va ^^^ (-1 : Int32))), (.long (vb ^^^ (-1 : Int64))), (.int (vc ^^^ (-1 : Int32))), (.int w_0_102)] [] rfl (lenOf pd__IJIZ_V rfl) rfl (hb hby at_93) 0 (by show 2 * 0 + _ ≤ _; exact Nat.le_of_eq rfl) (by decide) (by decide) (by decide) (by decide)
      obtain ⟨rfl, Nq_0_105, Kc_0_105, f_0_106, f_0_107, f_0_108, f_0_109, f_0_110, f_0_111, f_0_112⟩ := hQ_0_105
      have f_0_113 := f_0_100.keep Kc_0_105
      have f_0_114 := f_0_98.keep Kc_0_105 (ninS (Ne.symm ne_1_0_90) nin0)
      have f_0_115 := f_0_99.keep Kc_0_105 (ninS (Ne.symm ne_2_0_90) nin0)
      have Z_0_105 : n0 ≤ h_0_105.size := Nat.le_trans Z_0_90 Kc_0_105.1
      obtain ⟨lc_0_105, N_0_105, X_0_105⟩ : ∃ L, Fr n0 L ∧ Stand p l e room_1 s m #[(.int va), (.long vb), (.int vc), (.int vd), (.long ve), (.int vf)] below meth c T_0_105 L 3 11 := ⟨_, Fr.app N_0_90 Nq_0_105, X_0_105⟩
      refine ogo (fun _ k => st_0_105 _ k) ?_
      show OGo _ _ _ _ (T_0_105.setTop (mkF m 96 #[.val (.int va), .val (.long vb), .second, .val (.int vc), .val (.int vd), .val (.long ve), .second, .val (.int vf), .val (.int (0 : Int32)), .val (.int w_0_3), .val (.int (1 : Int32)), .val (.ref b_0_82), .unset, .unset, .unset] []))
      refine ogo (fun _ k => XS.aload X_0_105.here hx rfl (hb hby at_96) rfl rfl k) ?_
      show OGo _ _ _ _ (T_0_105.setTop (mkF m 98 #[.val (.int va), .val (.long vb), .second, .val (.int vc), .val (.int vd), .val (.long ve), .second, .val (.int vf), .val (.int (0 : Int32)), .val (.int w_0_3), .val (.int (1 : Int32)), .val (.ref b_0_82), .unset, .unset, .unset] [(.ref b_0_82)]))
      refine ogo (fun _ k => XS.iloadN X_0_105.here hx rfl (hb hby at_98) rfl k) ?_
      show OGo _ _ _ _ (T_0_105.setTop (mkF m 99 #[.val (.int va), .val (.long vb), .second, .val (.int vc), .val (.int vd), .val (.long ve), .second, .val (.int vf), .val (.int (0 : Int32)), .val (.int w_0_3), .val (.int (1 : Int32)), .val (.ref b_0_82), .unset, .unset, .unset] [(.int va), (.ref b_0_82)]))
      refine ogo (fun _ k => XS.lloadN X_0_105.here hx rfl (hb hby at_99) rfl k) ?_
      show OGo _ _ _ _ (T_0_105.setTop (mkF m 100 #[.val (.int va), .val (.long vb), .second, .val (.int vc), .val (.int vd), .val (.long ve), .second, .val (.int vf), .val (.int (0 : Int32)), .val (.int w_0_3), .val (.int (1 : Int32)), .val (.ref b_0_82), .unset, .unset, .unset] [(.long vb), (.int va), (.ref b_0_82)]))
      refine ogo (fun _ k => XS.iloadN X_0_105.here hx rfl (hb hby at_100) rfl k) ?_
      show OGo _ _ _ _ (T_0_105.setTop (mkF m 101 #[.val (.int va), .val (.long vb), .second, .val (.int vc), .val (.int vd), .val (.long ve), .second, .val (.int vf), .val (.int (0 : Int32)), .val (.int w_0_3), .val (.int (1 : Int32)), .val (.ref b_0_82), .unset, .unset, .unset] [(.int vc), (.long vb), (.int va), (.ref b_0_82)]))
      refine ogo (fun _ k => XS.iload X_0_105.here hx rfl (hb hby at_101) rfl k) ?_
      show OGo _ _ _ _ (T_0_105.setTop (mkF m 103 #[.val (.int va), .val (.long vb), .second, .val (.int vc), .val (.int vd), .val (.long ve), .second, .val (.int vf), .val (.int (0 : Int32)), .val (.int w_0_3), .val (.int (1 : Int32)), .val (.ref b_0_82), .unset, .unset, .unset] [(.int w_0_3), (.int vc), (.long vb), (.int va), (.ref b_0_82)]))
      obtain ⟨v_0_116, T_0_116, h_0_116, L_0_116, e_0_116, hQ_0_116, X_0_116, st_0_116⟩ := ovirtQ X_0_105 hx hZ e_0_105 (rm3 l Z a0 hw b_0_82 va vb vc w_0_3 (va ^^^ (-1 : Int32)) (vb ^^^ (-1 : Int64)) (vc ^^^ (-1 : Int32)) w_0_102 (0 : Int32) sa_0_90 na_0_90 h_0_105 n0 Z_0_105 f_0_113 f_0_106 f_0_107 f_0_108 f_0_109 f_0_110 f_0_111 f_0_112 g_b_0_82 (by rw [hw_0_3]; repeat' first | decide | apply oif01)) hown (hw _ (List.mem_of_getElem? (i := 17) rfl)) (hw _ (List.mem_of_getElem? (i := 18) rfl)) (hw _ (List.mem_of_getElem? (i := 20) rfl)) (hw _ (List.mem_of_getElem? (i := 19) rfl)) (hw _ (List.mem_of_getElem? (i := 2) rfl)) (hw _ (List.mem_of_getElem? (i := 21) rfl)) (by decide) f_0_113 (g := (mkF m 103 #[.val (.int va), .val (.long vb), .second, .val (.int vc), .val (.int vd), .val (.long ve), .second, .val (.int vf), .val (.int (0 : Int32)), .val (.int w_0_3), .val (.int (1 : Int32)), .val (.ref b_0_82), .unset, .unset, .unset] [(.int w_0_3), (.int vc), (.long vb), (.int va), (.ref b_0_82)])) rfl (by rw [hml]; rfl) [(.int va), (.long vb), (.int vc), (.int w_0_3)] [] rfl (lenOf pd__IJIZ_V rfl) rfl (hb hby at_103) 0 (by show 2 * 0 + _ ≤ _; exact Nat.le_of_eq rfl) (by decide) (by decide) (by decide) (by decide)
      obtain ⟨rfl, Nq_0_116, Kc_0_116, f_0_117, f_0_118, f_0_119, f_0_120, f_0_121, f_0_122, f_0_123⟩ := hQ_0_116
      have f_0_124 := f_0_113.keep Kc_0_116
      have f_0_125 := f_0_114.keep Kc_0_116 (ninS (Ne.symm ne_1_0_90) nin0)
      have f_0_126 := f_0_115.keep Kc_0_116 (ninS (Ne.symm ne_2_0_90) nin0)
      have Z_0_116 : n0 ≤ h_0_116.size := Nat.le_trans Z_0_105 Kc_0_116.1
      obtain ⟨lc_0_116, N_0_116, X_0_116⟩ : ∃ L, Fr n0 L ∧ Stand p l e room_1 s m #[(.int va), (.long vb), (.int vc), (.int vd), (.long ve), (.int vf)] below meth c T_0_116 L 3 11 := ⟨_, Fr.app N_0_105 Nq_0_116, X_0_116⟩
      refine ogo (fun _ k => st_0_116 _ k) ?_
      show OGo _ _ _ _ (T_0_116.setTop (mkF m 106 #[.val (.int va), .val (.long vb), .second, .val (.int vc), .val (.int vd), .val (.long ve), .second, .val (.int vf), .val (.int (0 : Int32)), .val (.int w_0_3), .val (.int (1 : Int32)), .val (.ref b_0_82), .unset, .unset, .unset] []))
      refine ogo (fun _ k => XS.aload X_0_116.here hx rfl (hb hby at_106) rfl rfl k) ?_
      show OGo _ _ _ _ (T_0_116.setTop (mkF m 108 #[.val (.int va), .val (.long vb), .second, .val (.int vc), .val (.int vd), .val (.long ve), .second, .val (.int vf), .val (.int (0 : Int32)), .val (.int w_0_3), .val (.int (1 : Int32)), .val (.ref b_0_82), .unset, .unset, .unset] [(.ref b_0_82)]))
      obtain ⟨T_0_127, X_0_127, e_0_127, st_0_127⟩ := ovirtP X_0_116 hx hZ e_0_116 (rm4 l Z a0 hw b_0_82 va h_0_116 f_0_117) hown (hw _ (List.mem_of_getElem? (i := 28) rfl)) (hw _ (List.mem_of_getElem? (i := 29) rfl)) (hw _ (List.mem_of_getElem? (i := 31) rfl)) (hw _ (List.mem_of_getElem? (i := 30) rfl)) (hw _ (List.mem_of_getElem? (i := 2) rfl)) (hw _ (List.mem_of_getElem? (i := 32) rfl)) (by decide) f_0_124 (g := (mkF m 108 #[.val (.int va), .val (.long vb), .second, .val (.int vc), .val (.int vd), .val (.long ve), .second, .val (.int vf), .val (.int (0 : Int32)), .val (.int w_0_3), .val (.int (1 : Int32)), .val (.ref b_0_82), .unset, .unset, .unset] [(.ref b_0_82)])) rfl (by rw [hml]; rfl) [] [] rfl (lenOf pd___I rfl) rfl (hb hby at_108) 0 (by show 2 * 0 + _ ≤ _; exact Nat.le_of_eq rfl) (by decide) (by decide) (by decide) (by decide) rfl rfl
      refine ogo (fun _ k => st_0_127 _ k) ?_
      show OGo _ _ _ _ (T_0_127.setTop (mkF m 111 #[.val (.int va), .val (.long vb), .second, .val (.int vc), .val (.int vd), .val (.long ve), .second, .val (.int vf), .val (.int (0 : Int32)), .val (.int w_0_3), .val (.int (1 : Int32)), .val (.ref b_0_82), .unset, .unset, .unset] [(.int (failuresF va))]))
      refine ogo (fun _ k => XS.iloadN X_0_127.here hx rfl (hb hby at_111) rfl k) ?_
      show OGo _ _ _ _ (T_0_127.setTop (mkF m 112 #[.val (.int va), .val (.long vb), .second, .val (.int vc), .val (.int vd), .val (.long ve), .second, .val (.int vf), .val (.int (0 : Int32)), .val (.int w_0_3), .val (.int (1 : Int32)), .val (.ref b_0_82), .unset, .unset, .unset] [(.int va), (.int (failuresF va))]))
      suffices J_0_145 : ∀ (w_0_144 : Int32) (hw_0_144 : w_0_144 = (if (failuresF va) = va then (if (secondF vb) = vb then (if (nanoF vc) = vc then (if (refusedF w_0_3) = w_0_3 then (1 : Int32) else (0 : Int32)) else (0 : Int32)) else (0 : Int32)) else (0 : Int32))) (T_0_146 : State) (X_0_146 : Stand p l e room_1 s m #[(.int va), (.long vb), (.int vc), (.int vd), (.long ve), (.int vf)] below meth c T_0_146 lc_0_116 3 11) (e_0_146 : T_0_146.heap = h_0_116), OGo p.tables e below (OFin s (fun v _ L => v = some (.int 1) ∧ Fr n0 L) 16 128) (T_0_146.setTop (mkF m 149 #[.val (.int va), .val (.long vb), .second, .val (.int vc), .val (.int vd), .val (.long ve), .second, .val (.int vf), .val (.int (0 : Int32)), .val (.int w_0_3), .val (.int (1 : Int32)), .val (.ref b_0_82), .unset, .unset, .unset] [(.int w_0_144)])) by
        by_cases hc_0_128 : (failuresF va) = va
        · refine ogo (fun _ k => XS.icmpNo X_0_127.here hx rfl (hb hby at_112) rfl (teq hc_0_128).2 k) ?_
          show OGo _ _ _ _ (T_0_127.setTop (mkF m 115 #[.val (.int va), .val (.long vb), .second, .val (.int vc), .val (.int vd), .val (.long ve), .second, .val (.int vf), .val (.int (0 : Int32)), .val (.int w_0_3), .val (.int (1 : Int32)), .val (.ref b_0_82), .unset, .unset, .unset] []))
          refine ogo (fun _ k => XS.aload X_0_127.here hx rfl (hb hby at_115) rfl rfl k) ?_
          show OGo _ _ _ _ (T_0_127.setTop (mkF m 117 #[.val (.int va), .val (.long vb), .second, .val (.int vc), .val (.int vd), .val (.long ve), .second, .val (.int vf), .val (.int (0 : Int32)), .val (.int w_0_3), .val (.int (1 : Int32)), .val (.ref b_0_82), .unset, .unset, .unset] [(.ref b_0_82)]))
          obtain ⟨T_0_129, X_0_129, e_0_129, st_0_129⟩ := ovirtP X_0_127 hx hZ e_0_127 (rm5 l Z a0 hw b_0_82 vb h_0_116 f_0_118) hown (hw _ (List.mem_of_getElem? (i := 33) rfl)) (hw _ (List.mem_of_getElem? (i := 34) rfl)) (hw _ (List.mem_of_getElem? (i := 36) rfl)) (hw _ (List.mem_of_getElem? (i := 35) rfl)) (hw _ (List.mem_of_getElem? (i := 2) rfl)) (hw _ (List.mem_of_getElem? (i := 37) rfl)) (by decide) f_0_124 (g := (mkF m 117 #[.val (.int va), .val (.long vb), .second, .val (.int vc), .val (.int vd), .val (.long ve), .second, .val (.int vf), .val (.int (0 : Int32)), .val (.int w_0_3), .val (.int (1 : Int32)), .val (.ref b_0_82), .unset, .unset, .unset] [(.ref b_0_82)])) rfl (by rw [hml]; rfl) [] [] rfl (lenOf pd___J rfl) rfl (hb hby at_117) 0 (by show 2 * 0 + _ ≤ _; exact Nat.le_of_eq rfl) (by decide) (by decide) (by decide) (by decide) rfl rfl
          refine ogo (fun _ k => st_0_129 _ k) ?_
          show OGo _ _ _ _ (T_0_129.setTop (mkF m 120 #[.val (.int va), .val (.long vb), .second, .val (.int vc), .val (.int vd), .val (.long ve), .second, .val (.int vf), .val (.int (0 : Int32)), .val (.int w_0_3), .val (.int (1 : Int32)), .val (.ref b_0_82), .unset, .unset, .unset] [(.long (secondF vb))]))
          refine ogo (fun _ k => XS.lloadN X_0_129.here hx rfl (hb hby at_120) rfl k) ?_
          show OGo _ _ _ _ (T_0_129.setTop (mkF m 121 #[.val (.int va), .val (.long vb), .second, .val (.int vc), .val (.int vd), .val (.long ve), .second, .val (.int vf), .val (.int (0 : Int32)), .val (.int w_0_3), .val (.int (1 : Int32)), .val (.ref b_0_82), .unset, .unset, .unset] [(.long vb), (.long (secondF vb))]))
          refine ogo (fun _ k => XS.lcmp X_0_129.here hx rfl (hb hby at_121) rfl k) ?_
          show OGo _ _ _ _ (T_0_129.setTop (mkF m 122 #[.val (.int va), .val (.long vb), .second, .val (.int vc), .val (.int vd), .val (.long ve), .second, .val (.int vf), .val (.int (0 : Int32)), .val (.int w_0_3), .val (.int (1 : Int32)), .val (.ref b_0_82), .unset, .unset, .unset] [(.int (lcmpW (secondF vb) vb))]))
          suffices J_0_142 : ∀ (w_0_141 : Int32) (hw_0_141 : w_0_141 = (if (secondF vb) = vb then (if (nanoF vc) = vc then (if (refusedF w_0_3) = w_0_3 then (1 : Int32) else (0 : Int32)) else (0 : Int32)) else (0 : Int32))) (T_0_143 : State) (X_0_143 : Stand p l e room_1 s m #[(.int va), (.long vb), (.int vc), (.int vd), (.long ve), (.int vf)] below meth c T_0_143 lc_0_116 3 11) (e_0_143 : T_0_143.heap = h_0_116), OGo p.tables e below (OFin s (fun v _ L => v = some (.int 1) ∧ Fr n0 L) 16 128) (T_0_143.setTop (mkF m 149 #[.val (.int va), .val (.long vb), .second, .val (.int vc), .val (.int vd), .val (.long ve), .second, .val (.int vf), .val (.int (0 : Int32)), .val (.int w_0_3), .val (.int (1 : Int32)), .val (.ref b_0_82), .unset, .unset, .unset] [(.int w_0_141)])) by
            by_cases hc_0_130 : (secondF vb) = vb
            · refine ogo (fun _ k => XS.ifNo X_0_129.here hx rfl (hb hby at_122) rfl ((if0 _ _).trans (teq ((lw_eq _ _).mpr hc_0_130)).2) k) ?_
              show OGo _ _ _ _ (T_0_129.setTop (mkF m 125 #[.val (.int va), .val (.long vb), .second, .val (.int vc), .val (.int vd), .val (.long ve), .second, .val (.int vf), .val (.int (0 : Int32)), .val (.int w_0_3), .val (.int (1 : Int32)), .val (.ref b_0_82), .unset, .unset, .unset] []))
              refine ogo (fun _ k => XS.aload X_0_129.here hx rfl (hb hby at_125) rfl rfl k) ?_
              show OGo _ _ _ _ (T_0_129.setTop (mkF m 127 #[.val (.int va), .val (.long vb), .second, .val (.int vc), .val (.int vd), .val (.long ve), .second, .val (.int vf), .val (.int (0 : Int32)), .val (.int w_0_3), .val (.int (1 : Int32)), .val (.ref b_0_82), .unset, .unset, .unset] [(.ref b_0_82)]))
              obtain ⟨T_0_131, X_0_131, e_0_131, st_0_131⟩ := ovirtP X_0_129 hx hZ e_0_129 (rm6 l Z a0 hw b_0_82 vc h_0_116 f_0_119) hown (hw _ (List.mem_of_getElem? (i := 38) rfl)) (hw _ (List.mem_of_getElem? (i := 39) rfl)) (hw _ (List.mem_of_getElem? (i := 41) rfl)) (hw _ (List.mem_of_getElem? (i := 40) rfl)) (hw _ (List.mem_of_getElem? (i := 2) rfl)) (hw _ (List.mem_of_getElem? (i := 42) rfl)) (by decide) f_0_124 (g := (mkF m 127 #[.val (.int va), .val (.long vb), .second, .val (.int vc), .val (.int vd), .val (.long ve), .second, .val (.int vf), .val (.int (0 : Int32)), .val (.int w_0_3), .val (.int (1 : Int32)), .val (.ref b_0_82), .unset, .unset, .unset] [(.ref b_0_82)])) rfl (by rw [hml]; rfl) [] [] rfl (lenOf pd___I rfl) rfl (hb hby at_127) 0 (by show 2 * 0 + _ ≤ _; exact Nat.le_of_eq rfl) (by decide) (by decide) (by decide) (by decide) rfl rfl
              refine ogo (fun _ k => st_0_131 _ k) ?_
              show OGo _ _ _ _ (T_0_131.setTop (mkF m 130 #[.val (.int va), .val (.long vb), .second, .val (.int vc), .val (.int vd), .val (.long ve), .second, .val (.int vf), .val (.int (0 : Int32)), .val (.int w_0_3), .val (.int (1 : Int32)), .val (.ref b_0_82), .unset, .unset, .unset] [(.int (nanoF vc))]))
              refine ogo (fun _ k => XS.iloadN X_0_131.here hx rfl (hb hby at_130) rfl k) ?_
              show OGo _ _ _ _ (T_0_131.setTop (mkF m 131 #[.val (.int va), .val (.long vb), .second, .val (.int vc), .val (.int vd), .val (.long ve), .second, .val (.int vf), .val (.int (0 : Int32)), .val (.int w_0_3), .val (.int (1 : Int32)), .val (.ref b_0_82), .unset, .unset, .unset] [(.int vc), (.int (nanoF vc))]))
              suffices J_0_139 : ∀ (w_0_138 : Int32) (hw_0_138 : w_0_138 = (if (nanoF vc) = vc then (if (refusedF w_0_3) = w_0_3 then (1 : Int32) else (0 : Int32)) else (0 : Int32))) (T_0_140 : State) (X_0_140 : Stand p l e room_1 s m #[(.int va), (.long vb), (.int vc), (.int vd), (.long ve), (.int vf)] below meth c T_0_140 lc_0_116 3 11) (e_0_140 : T_0_140.heap = h_0_116), OGo p.tables e below (OFin s (fun v _ L => v = some (.int 1) ∧ Fr n0 L) 16 128) (T_0_140.setTop (mkF m 149 #[.val (.int va), .val (.long vb), .second, .val (.int vc), .val (.int vd), .val (.long ve), .second, .val (.int vf), .val (.int (0 : Int32)), .val (.int w_0_3), .val (.int (1 : Int32)), .val (.ref b_0_82), .unset, .unset, .unset] [(.int w_0_138)])) by
                by_cases hc_0_132 : (nanoF vc) = vc
                · refine ogo (fun _ k => XS.icmpNo X_0_131.here hx rfl (hb hby at_131) rfl (teq hc_0_132).2 k) ?_
                  show OGo _ _ _ _ (T_0_131.setTop (mkF m 134 #[.val (.int va), .val (.long vb), .second, .val (.int vc), .val (.int vd), .val (.long ve), .second, .val (.int vf), .val (.int (0 : Int32)), .val (.int w_0_3), .val (.int (1 : Int32)), .val (.ref b_0_82), .unset, .unset, .unset] []))
                  refine ogo (fun _ k => XS.aload X_0_131.here hx rfl (hb hby at_134) rfl rfl k) ?_
                  show OGo _ _ _ _ (T_0_131.setTop (mkF m 136 #[.val (.int va), .val (.long vb), .second, .val (.int vc), .val (.int vd), .val (.long ve), .second, .val (.int vf), .val (.int (0 : Int32)), .val (.int w_0_3), .val (.int (1 : Int32)), .val (.ref b_0_82), .unset, .unset, .unset] [(.ref b_0_82)]))
                  obtain ⟨T_0_133, X_0_133, e_0_133, st_0_133⟩ := ovirtP X_0_131 hx hZ e_0_131 (rm7 l Z a0 hw b_0_82 w_0_3 h_0_116 f_0_120 (by rw [hw_0_3]; repeat' first | decide | apply oif01)) hown (hw _ (List.mem_of_getElem? (i := 43) rfl)) (hw _ (List.mem_of_getElem? (i := 44) rfl)) (hw _ (List.mem_of_getElem? (i := 46) rfl)) (hw _ (List.mem_of_getElem? (i := 45) rfl)) (hw _ (List.mem_of_getElem? (i := 2) rfl)) (hw _ (List.mem_of_getElem? (i := 47) rfl)) (by decide) f_0_124 (g := (mkF m 136 #[.val (.int va), .val (.long vb), .second, .val (.int vc), .val (.int vd), .val (.long ve), .second, .val (.int vf), .val (.int (0 : Int32)), .val (.int w_0_3), .val (.int (1 : Int32)), .val (.ref b_0_82), .unset, .unset, .unset] [(.ref b_0_82)])) rfl (by rw [hml]; rfl) [] [] rfl (lenOf pd___Z rfl) rfl (hb hby at_136) 0 (by show 2 * 0 + _ ≤ _; exact Nat.le_of_eq rfl) (by decide) (by decide) (by decide) (by decide) rfl rfl
                  refine ogo (fun _ k => st_0_133 _ k) ?_
                  show OGo _ _ _ _ (T_0_133.setTop (mkF m 139 #[.val (.int va), .val (.long vb), .second, .val (.int vc), .val (.int vd), .val (.long ve), .second, .val (.int vf), .val (.int (0 : Int32)), .val (.int w_0_3), .val (.int (1 : Int32)), .val (.ref b_0_82), .unset, .unset, .unset] [(.int (refusedF w_0_3))]))
                  refine ogo (fun _ k => XS.iload X_0_133.here hx rfl (hb hby at_139) rfl k) ?_
                  show OGo _ _ _ _ (T_0_133.setTop (mkF m 141 #[.val (.int va), .val (.long vb), .second, .val (.int vc), .val (.int vd), .val (.long ve), .second, .val (.int vf), .val (.int (0 : Int32)), .val (.int w_0_3), .val (.int (1 : Int32)), .val (.ref b_0_82), .unset, .unset, .unset] [(.int w_0_3), (.int (refusedF w_0_3))]))
                  suffices J_0_136 : ∀ (w_0_135 : Int32) (hw_0_135 : w_0_135 = (if (refusedF w_0_3) = w_0_3 then (1 : Int32) else (0 : Int32))), OGo p.tables e below (OFin s (fun v _ L => v = some (.int 1) ∧ Fr n0 L) 16 128) (T_0_133.setTop (mkF m 149 #[.val (.int va), .val (.long vb), .second, .val (.int vc), .val (.int vd), .val (.long ve), .second, .val (.int vf), .val (.int (0 : Int32)), .val (.int w_0_3), .val (.int (1 : Int32)), .val (.ref b_0_82), .unset, .unset, .unset] [(.int w_0_135)])) by
                    by_cases hc_0_134 : (refusedF w_0_3) = w_0_3
                    · refine ogo (fun _ k => XS.icmpNo X_0_133.here hx rfl (hb hby at_141) rfl (teq hc_0_134).2 k) ?_
                      show OGo _ _ _ _ (T_0_133.setTop (mkF m 144 #[.val (.int va), .val (.long vb), .second, .val (.int vc), .val (.int vd), .val (.long ve), .second, .val (.int vf), .val (.int (0 : Int32)), .val (.int w_0_3), .val (.int (1 : Int32)), .val (.ref b_0_82), .unset, .unset, .unset] []))
                      refine ogo (fun _ k => XS.iconst X_0_133.here hx rfl (hb hby at_144) k) ?_
                      show OGo _ _ _ _ (T_0_133.setTop (mkF m 145 #[.val (.int va), .val (.long vb), .second, .val (.int vc), .val (.int vd), .val (.long ve), .second, .val (.int vf), .val (.int (0 : Int32)), .val (.int w_0_3), .val (.int (1 : Int32)), .val (.ref b_0_82), .unset, .unset, .unset] [(.int (1 : Int32))]))
                      refine ogo (fun _ k => XS.goto X_0_133.here hx rfl (pc0 := 145) (pc' := 149) rfl (hb hby at_145) (by decide) (by decide) k) ?_
                      show OGo _ _ _ _ (T_0_133.setTop (mkF m 149 #[.val (.int va), .val (.long vb), .second, .val (.int vc), .val (.int vd), .val (.long ve), .second, .val (.int vf), .val (.int (0 : Int32)), .val (.int w_0_3), .val (.int (1 : Int32)), .val (.ref b_0_82), .unset, .unset, .unset] [(.int (1 : Int32))]))
                      exact J_0_136 _ (if_pos hc_0_134).symm
                    · refine ogo (fun _ k => XS.icmpYes X_0_133.here hx rfl (pc0 := 141) (pc' := 148) rfl (hb hby at_141) rfl (feq hc_0_134).2 (by decide) (by decide) k) ?_
                      show OGo _ _ _ _ (T_0_133.setTop (mkF m 148 #[.val (.int va), .val (.long vb), .second, .val (.int vc), .val (.int vd), .val (.long ve), .second, .val (.int vf), .val (.int (0 : Int32)), .val (.int w_0_3), .val (.int (1 : Int32)), .val (.ref b_0_82), .unset, .unset, .unset] []))
                      refine ogo (fun _ k => XS.iconst X_0_133.here hx rfl (hb hby at_148) k) ?_
                      show OGo _ _ _ _ (T_0_133.setTop (mkF m 149 #[.val (.int va), .val (.long vb), .second, .val (.int vc), .val (.int vd), .val (.long ve), .second, .val (.int vf), .val (.int (0 : Int32)), .val (.int w_0_3), .val (.int (1 : Int32)), .val (.ref b_0_82), .unset, .unset, .unset] [(.int (0 : Int32))]))
                      exact J_0_136 _ (if_neg hc_0_134).symm
                  intro w_0_135 hw_0_135
                  subst hw_0_135
                  exact J_0_139 _ (if_pos hc_0_132).symm _ X_0_133 e_0_133
                · refine ogo (fun _ k => XS.icmpYes X_0_131.here hx rfl (pc0 := 131) (pc' := 148) rfl (hb hby at_131) rfl (feq hc_0_132).2 (by decide) (by decide) k) ?_
                  show OGo _ _ _ _ (T_0_131.setTop (mkF m 148 #[.val (.int va), .val (.long vb), .second, .val (.int vc), .val (.int vd), .val (.long ve), .second, .val (.int vf), .val (.int (0 : Int32)), .val (.int w_0_3), .val (.int (1 : Int32)), .val (.ref b_0_82), .unset, .unset, .unset] []))
                  refine ogo (fun _ k => XS.iconst X_0_131.here hx rfl (hb hby at_148) k) ?_
                  show OGo _ _ _ _ (T_0_131.setTop (mkF m 149 #[.val (.int va), .val (.long vb), .second, .val (.int vc), .val (.int vd), .val (.long ve), .second, .val (.int vf), .val (.int (0 : Int32)), .val (.int w_0_3), .val (.int (1 : Int32)), .val (.ref b_0_82), .unset, .unset, .unset] [(.int (0 : Int32))]))
                  exact J_0_139 _ (if_neg hc_0_132).symm _ X_0_131 e_0_131
              intro w_0_138 hw_0_138 T_0_140 X_0_140 e_0_140
              subst hw_0_138
              exact J_0_142 _ (if_pos hc_0_130).symm _ X_0_140 e_0_140
            · refine ogo (fun _ k => XS.ifYes X_0_129.here hx rfl (pc0 := 122) (pc' := 148) rfl (hb hby at_122) rfl ((if0 _ _).trans (feq (fun q => hc_0_130 ((lw_eq _ _).mp q))).2) (by decide) (by decide) k) ?_
              show OGo _ _ _ _ (T_0_129.setTop (mkF m 148 #[.val (.int va), .val (.long vb), .second, .val (.int vc), .val (.int vd), .val (.long ve), .second, .val (.int vf), .val (.int (0 : Int32)), .val (.int w_0_3), .val (.int (1 : Int32)), .val (.ref b_0_82), .unset, .unset, .unset] []))
              refine ogo (fun _ k => XS.iconst X_0_129.here hx rfl (hb hby at_148) k) ?_
              show OGo _ _ _ _ (T_0_129.setTop (mkF m 149 #[.val (.int va), .val (.long vb), .second, .val (.int vc), .val (.int vd), .val (.long ve), .second, .val (.int vf), .val (.int (0 : Int32)), .val (.int w_0_3), .val (.int (1 : Int32)), .val (.ref b_0_82), .unset, .unset, .unset] [(.int (0 : Int32))]))
              exact J_0_142 _ (if_neg hc_0_130).symm _ X_0_129 e_0_129
          intro w_0_141 hw_0_141 T_0_143 X_0_143 e_0_143
          subst hw_0_141
          exact J_0_145 _ (if_pos hc_0_128).symm _ X_0_143 e_0_143
        · refine ogo (fun _ k => XS.icmpYes X_0_127.here hx rfl (pc0 := 112) (pc' := 148) rfl (hb hby at_112) rfl (feq hc_0_128).2 (by decide) (by decide) k) ?_
          show OGo _ _ _ _ (T_0_127.setTop (mkF m 148 #[.val (.int va), .val (.long vb), .second, .val (.int vc), .val (.int vd), .val (.long ve), .second, .val (.int vf), .val (.int (0 : Int32)), .val (.int w_0_3), .val (.int (1 : Int32)), .val (.ref b_0_82), .unset, .unset, .unset] []))
          refine ogo (fun _ k => XS.iconst X_0_127.here hx rfl (hb hby at_148) k) ?_
          show OGo _ _ _ _ (T_0_127.setTop (mkF m 149 #[.val (.int va), .val (.long vb), .second, .val (.int vc), .val (.int vd), .val (.long ve), .second, .val (.int vf), .val (.int (0 : Int32)), .val (.int w_0_3), .val (.int (1 : Int32)), .val (.ref b_0_82), .unset, .unset, .unset] [(.int (0 : Int32))]))
          exact J_0_145 _ (if_neg hc_0_128).symm _ X_0_127 e_0_127
      intro w_0_144 hw_0_144 T_0_146 X_0_146 e_0_146
      refine ogo (fun _ k => XS.istore X_0_146.here hx rfl (hb hby at_149) rfl (l' := #[.val (.int va), .val (.long vb), .second, .val (.int vc), .val (.int vd), .val (.long ve), .second, .val (.int vf), .val (.int (0 : Int32)), .val (.int w_0_3), .val (.int (1 : Int32)), .val (.ref b_0_82), .val (.int w_0_144), .unset, .unset]) rfl k) ?_
      show OGo _ _ _ _ (T_0_146.setTop (mkF m 151 #[.val (.int va), .val (.long vb), .second, .val (.int vc), .val (.int vd), .val (.long ve), .second, .val (.int vf), .val (.int (0 : Int32)), .val (.int w_0_3), .val (.int (1 : Int32)), .val (.ref b_0_82), .val (.int w_0_144), .unset, .unset] []))
      refine ogo (fun _ k => XS.iload X_0_146.here hx rfl (hb hby at_151) rfl k) ?_
      show OGo _ _ _ _ (T_0_146.setTop (mkF m 153 #[.val (.int va), .val (.long vb), .second, .val (.int vc), .val (.int vd), .val (.long ve), .second, .val (.int vf), .val (.int (0 : Int32)), .val (.int w_0_3), .val (.int (1 : Int32)), .val (.ref b_0_82), .val (.int w_0_144), .unset, .unset] [(.int (0 : Int32))]))
      refine ogo (fun _ k => XS.ifYes X_0_146.here hx rfl (pc0 := 153) (pc' := 160) rfl (hb hby at_153) rfl ((if0 _ _).trans (teq (by decide : (0 : Int32) = (0 : Int32))).1) (by decide) (by decide) k) ?_
      show OGo _ _ _ _ (T_0_146.setTop (mkF m 160 #[.val (.int va), .val (.long vb), .second, .val (.int vc), .val (.int vd), .val (.long ve), .second, .val (.int vf), .val (.int (0 : Int32)), .val (.int w_0_3), .val (.int (1 : Int32)), .val (.ref b_0_82), .val (.int w_0_144), .unset, .unset] []))
      refine ogo (fun _ k => XS.iconst X_0_146.here hx rfl (hb hby at_160) k) ?_
      show OGo _ _ _ _ (T_0_146.setTop (mkF m 161 #[.val (.int va), .val (.long vb), .second, .val (.int vc), .val (.int vd), .val (.long ve), .second, .val (.int vf), .val (.int (0 : Int32)), .val (.int w_0_3), .val (.int (1 : Int32)), .val (.ref b_0_82), .val (.int w_0_144), .unset, .unset] [(.int (0 : Int32))]))
      refine ogo (fun _ k => XS.istore X_0_146.here hx rfl (hb hby at_161) rfl (l' := #[.val (.int va), .val (.long vb), .second, .val (.int vc), .val (.int vd), .val (.long ve), .second, .val (.int vf), .val (.int (0 : Int32)), .val (.int w_0_3), .val (.int (1 : Int32)), .val (.ref b_0_82), .val (.int w_0_144), .val (.int (0 : Int32)), .unset]) rfl k) ?_
      show OGo _ _ _ _ (T_0_146.setTop (mkF m 163 #[.val (.int va), .val (.long vb), .second, .val (.int vc), .val (.int vd), .val (.long ve), .second, .val (.int vf), .val (.int (0 : Int32)), .val (.int w_0_3), .val (.int (1 : Int32)), .val (.ref b_0_82), .val (.int w_0_144), .val (.int (0 : Int32)), .unset] []))
      refine ogo (fun _ k => XS.iload X_0_146.here hx rfl (hb hby at_163) rfl k) ?_
      show OGo _ _ _ _ (T_0_146.setTop (mkF m 165 #[.val (.int va), .val (.long vb), .second, .val (.int vc), .val (.int vd), .val (.long ve), .second, .val (.int vf), .val (.int (0 : Int32)), .val (.int w_0_3), .val (.int (1 : Int32)), .val (.ref b_0_82), .val (.int w_0_144), .val (.int (0 : Int32)), .unset] [(.int w_0_144)]))
      suffices J_0_154 : ∀ (w_0_153 : Int32) (hw_0_153 : w_0_153 = (if w_0_144 = (0 : Int32) then (0 : Int32) else (if (placesF (0 : Int32)) = (0 : Int32) then (1 : Int32) else (0 : Int32)))) (T_0_155 : State) (X_0_155 : Stand p l e room_1 s m #[(.int va), (.long vb), (.int vc), (.int vd), (.long ve), (.int vf)] below meth c T_0_155 lc_0_116 3 11) (e_0_155 : T_0_155.heap = h_0_116), OGo p.tables e below (OFin s (fun v _ L => v = some (.int 1) ∧ Fr n0 L) 16 128) (T_0_155.setTop (mkF m 183 #[.val (.int va), .val (.long vb), .second, .val (.int vc), .val (.int vd), .val (.long ve), .second, .val (.int vf), .val (.int (0 : Int32)), .val (.int w_0_3), .val (.int (1 : Int32)), .val (.ref b_0_82), .val (.int w_0_144), .val (.int (0 : Int32)), .unset] [(.int w_0_153)])) by
        by_cases hc_0_147 : w_0_144 = (0 : Int32)
        · refine ogo (fun _ k => XS.ifYes X_0_146.here hx rfl (pc0 := 165) (pc' := 182) rfl (hb hby at_165) rfl ((if0 _ _).trans (teq hc_0_147).1) (by decide) (by decide) k) ?_
          show OGo _ _ _ _ (T_0_146.setTop (mkF m 182 #[.val (.int va), .val (.long vb), .second, .val (.int vc), .val (.int vd), .val (.long ve), .second, .val (.int vf), .val (.int (0 : Int32)), .val (.int w_0_3), .val (.int (1 : Int32)), .val (.ref b_0_82), .val (.int w_0_144), .val (.int (0 : Int32)), .unset] []))
          refine ogo (fun _ k => XS.iconst X_0_146.here hx rfl (hb hby at_182) k) ?_
          show OGo _ _ _ _ (T_0_146.setTop (mkF m 183 #[.val (.int va), .val (.long vb), .second, .val (.int vc), .val (.int vd), .val (.long ve), .second, .val (.int vf), .val (.int (0 : Int32)), .val (.int w_0_3), .val (.int (1 : Int32)), .val (.ref b_0_82), .val (.int w_0_144), .val (.int (0 : Int32)), .unset] [(.int (0 : Int32))]))
          exact J_0_154 _ (if_pos hc_0_147).symm _ X_0_146 e_0_146
        · refine ogo (fun _ k => XS.ifNo X_0_146.here hx rfl (hb hby at_165) rfl ((if0 _ _).trans (feq hc_0_147).1) k) ?_
          show OGo _ _ _ _ (T_0_146.setTop (mkF m 168 #[.val (.int va), .val (.long vb), .second, .val (.int vc), .val (.int vd), .val (.long ve), .second, .val (.int vf), .val (.int (0 : Int32)), .val (.int w_0_3), .val (.int (1 : Int32)), .val (.ref b_0_82), .val (.int w_0_144), .val (.int (0 : Int32)), .unset] []))
          refine ogo (fun _ k => XS.aload X_0_146.here hx rfl (hb hby at_168) rfl rfl k) ?_
          show OGo _ _ _ _ (T_0_146.setTop (mkF m 170 #[.val (.int va), .val (.long vb), .second, .val (.int vc), .val (.int vd), .val (.long ve), .second, .val (.int vf), .val (.int (0 : Int32)), .val (.int w_0_3), .val (.int (1 : Int32)), .val (.ref b_0_82), .val (.int w_0_144), .val (.int (0 : Int32)), .unset] [(.ref b_0_82)]))
          obtain ⟨T_0_148, X_0_148, e_0_148, st_0_148⟩ := ovirtP X_0_146 hx hZ e_0_146 (rm8 l Z a0 hw b_0_82 ((0 : Int32)) h_0_116 f_0_121) hown (hw _ (List.mem_of_getElem? (i := 48) rfl)) (hw _ (List.mem_of_getElem? (i := 49) rfl)) (hw _ (List.mem_of_getElem? (i := 51) rfl)) (hw _ (List.mem_of_getElem? (i := 50) rfl)) (hw _ (List.mem_of_getElem? (i := 2) rfl)) (hw _ (List.mem_of_getElem? (i := 52) rfl)) (by decide) f_0_124 (g := (mkF m 170 #[.val (.int va), .val (.long vb), .second, .val (.int vc), .val (.int vd), .val (.long ve), .second, .val (.int vf), .val (.int (0 : Int32)), .val (.int w_0_3), .val (.int (1 : Int32)), .val (.ref b_0_82), .val (.int w_0_144), .val (.int (0 : Int32)), .unset] [(.ref b_0_82)])) rfl (by rw [hml]; rfl) [] [] rfl (lenOf pd___I rfl) rfl (hb hby at_170) 0 (by show 2 * 0 + _ ≤ _; exact Nat.le_of_eq rfl) (by decide) (by decide) (by decide) (by decide) rfl rfl
          refine ogo (fun _ k => st_0_148 _ k) ?_
          show OGo _ _ _ _ (T_0_148.setTop (mkF m 173 #[.val (.int va), .val (.long vb), .second, .val (.int vc), .val (.int vd), .val (.long ve), .second, .val (.int vf), .val (.int (0 : Int32)), .val (.int w_0_3), .val (.int (1 : Int32)), .val (.ref b_0_82), .val (.int w_0_144), .val (.int (0 : Int32)), .unset] [(.int (placesF (0 : Int32)))]))
          refine ogo (fun _ k => XS.iload X_0_148.here hx rfl (hb hby at_173) rfl k) ?_
          show OGo _ _ _ _ (T_0_148.setTop (mkF m 175 #[.val (.int va), .val (.long vb), .second, .val (.int vc), .val (.int vd), .val (.long ve), .second, .val (.int vf), .val (.int (0 : Int32)), .val (.int w_0_3), .val (.int (1 : Int32)), .val (.ref b_0_82), .val (.int w_0_144), .val (.int (0 : Int32)), .unset] [(.int (0 : Int32)), (.int (placesF (0 : Int32)))]))
          suffices J_0_151 : ∀ (w_0_150 : Int32) (hw_0_150 : w_0_150 = (if (placesF (0 : Int32)) = (0 : Int32) then (1 : Int32) else (0 : Int32))), OGo p.tables e below (OFin s (fun v _ L => v = some (.int 1) ∧ Fr n0 L) 16 128) (T_0_148.setTop (mkF m 183 #[.val (.int va), .val (.long vb), .second, .val (.int vc), .val (.int vd), .val (.long ve), .second, .val (.int vf), .val (.int (0 : Int32)), .val (.int w_0_3), .val (.int (1 : Int32)), .val (.ref b_0_82), .val (.int w_0_144), .val (.int (0 : Int32)), .unset] [(.int w_0_150)])) by
            by_cases hc_0_149 : (placesF (0 : Int32)) = (0 : Int32)
            · refine ogo (fun _ k => XS.icmpNo X_0_148.here hx rfl (hb hby at_175) rfl (teq hc_0_149).2 k) ?_
              show OGo _ _ _ _ (T_0_148.setTop (mkF m 178 #[.val (.int va), .val (.long vb), .second, .val (.int vc), .val (.int vd), .val (.long ve), .second, .val (.int vf), .val (.int (0 : Int32)), .val (.int w_0_3), .val (.int (1 : Int32)), .val (.ref b_0_82), .val (.int w_0_144), .val (.int (0 : Int32)), .unset] []))
              refine ogo (fun _ k => XS.iconst X_0_148.here hx rfl (hb hby at_178) k) ?_
              show OGo _ _ _ _ (T_0_148.setTop (mkF m 179 #[.val (.int va), .val (.long vb), .second, .val (.int vc), .val (.int vd), .val (.long ve), .second, .val (.int vf), .val (.int (0 : Int32)), .val (.int w_0_3), .val (.int (1 : Int32)), .val (.ref b_0_82), .val (.int w_0_144), .val (.int (0 : Int32)), .unset] [(.int (1 : Int32))]))
              refine ogo (fun _ k => XS.goto X_0_148.here hx rfl (pc0 := 179) (pc' := 183) rfl (hb hby at_179) (by decide) (by decide) k) ?_
              show OGo _ _ _ _ (T_0_148.setTop (mkF m 183 #[.val (.int va), .val (.long vb), .second, .val (.int vc), .val (.int vd), .val (.long ve), .second, .val (.int vf), .val (.int (0 : Int32)), .val (.int w_0_3), .val (.int (1 : Int32)), .val (.ref b_0_82), .val (.int w_0_144), .val (.int (0 : Int32)), .unset] [(.int (1 : Int32))]))
              exact J_0_151 _ (if_pos hc_0_149).symm
            · refine ogo (fun _ k => XS.icmpYes X_0_148.here hx rfl (pc0 := 175) (pc' := 182) rfl (hb hby at_175) rfl (feq hc_0_149).2 (by decide) (by decide) k) ?_
              show OGo _ _ _ _ (T_0_148.setTop (mkF m 182 #[.val (.int va), .val (.long vb), .second, .val (.int vc), .val (.int vd), .val (.long ve), .second, .val (.int vf), .val (.int (0 : Int32)), .val (.int w_0_3), .val (.int (1 : Int32)), .val (.ref b_0_82), .val (.int w_0_144), .val (.int (0 : Int32)), .unset] []))
              refine ogo (fun _ k => XS.iconst X_0_148.here hx rfl (hb hby at_182) k) ?_
              show OGo _ _ _ _ (T_0_148.setTop (mkF m 183 #[.val (.int va), .val (.long vb), .second, .val (.int vc), .val (.int vd), .val (.long ve), .second, .val (.int vf), .val (.int (0 : Int32)), .val (.int w_0_3), .val (.int (1 : Int32)), .val (.ref b_0_82), .val (.int w_0_144), .val (.int (0 : Int32)), .unset] [(.int (0 : Int32))]))
              exact J_0_151 _ (if_neg hc_0_149).symm
          intro w_0_150 hw_0_150
          subst hw_0_150
          exact J_0_154 _ (if_neg hc_0_147).symm _ X_0_148 e_0_148
      intro w_0_153 hw_0_153 T_0_155 X_0_155 e_0_155
      refine ogo (fun _ k => XS.istore X_0_155.here hx rfl (hb hby at_183) rfl (l' := #[.val (.int va), .val (.long vb), .second, .val (.int vc), .val (.int vd), .val (.long ve), .second, .val (.int vf), .val (.int (0 : Int32)), .val (.int w_0_3), .val (.int (1 : Int32)), .val (.ref b_0_82), .val (.int w_0_153), .val (.int (0 : Int32)), .unset]) rfl k) ?_
      show OGo _ _ _ _ (T_0_155.setTop (mkF m 185 #[.val (.int va), .val (.long vb), .second, .val (.int vc), .val (.int vd), .val (.long ve), .second, .val (.int vf), .val (.int (0 : Int32)), .val (.int w_0_3), .val (.int (1 : Int32)), .val (.ref b_0_82), .val (.int w_0_153), .val (.int (0 : Int32)), .unset] []))
      refine ogo (fun _ k => XS.iload X_0_155.here hx rfl (hb hby at_185) rfl k) ?_
      show OGo _ _ _ _ (T_0_155.setTop (mkF m 187 #[.val (.int va), .val (.long vb), .second, .val (.int vc), .val (.int vd), .val (.long ve), .second, .val (.int vf), .val (.int (0 : Int32)), .val (.int w_0_3), .val (.int (1 : Int32)), .val (.ref b_0_82), .val (.int w_0_153), .val (.int (0 : Int32)), .unset] [(.int w_0_153)]))
      suffices J_0_157 : OGo p.tables e below (OFin s (fun v _ L => v = some (.int 1) ∧ Fr n0 L) 16 128) (T_0_155.setTop (mkF m 225 #[.val (.int va), .val (.long vb), .second, .val (.int vc), .val (.int vd), .val (.long ve), .second, .val (.int vf), .val (.int (0 : Int32)), .val (.int w_0_3), .val (.int (1 : Int32)), .val (.ref b_0_82), .val (.int w_0_153), .val (.int (0 : Int32)), .unset] [])) by
        by_cases hc_0_156 : w_0_153 = (0 : Int32)
        · refine ogo (fun _ k => XS.ifYes X_0_155.here hx rfl (pc0 := 187) (pc' := 225) rfl (hb hby at_187) rfl ((if0 _ _).trans (teq hc_0_156).1) (by decide) (by decide) k) ?_
          show OGo _ _ _ _ (T_0_155.setTop (mkF m 225 #[.val (.int va), .val (.long vb), .second, .val (.int vc), .val (.int vd), .val (.long ve), .second, .val (.int vf), .val (.int (0 : Int32)), .val (.int w_0_3), .val (.int (1 : Int32)), .val (.ref b_0_82), .val (.int w_0_153), .val (.int (0 : Int32)), .unset] []))
          exact J_0_157
        · refine ogo (fun _ k => XS.ifNo X_0_155.here hx rfl (hb hby at_187) rfl ((if0 _ _).trans (feq hc_0_156).1) k) ?_
          show OGo _ _ _ _ (T_0_155.setTop (mkF m 190 #[.val (.int va), .val (.long vb), .second, .val (.int vc), .val (.int vd), .val (.long ve), .second, .val (.int vf), .val (.int (0 : Int32)), .val (.int w_0_3), .val (.int (1 : Int32)), .val (.ref b_0_82), .val (.int w_0_153), .val (.int (0 : Int32)), .unset] []))
          refine ogo (fun _ k => XS.iload X_0_155.here hx rfl (hb hby at_190) rfl k) ?_
          show OGo _ _ _ _ (T_0_155.setTop (mkF m 192 #[.val (.int va), .val (.long vb), .second, .val (.int vc), .val (.int vd), .val (.long ve), .second, .val (.int vf), .val (.int (0 : Int32)), .val (.int w_0_3), .val (.int (1 : Int32)), .val (.ref b_0_82), .val (.int w_0_153), .val (.int (0 : Int32)), .unset] [(.int (0 : Int32))]))
          refine ogo (fun _ k => XS.ifYes X_0_155.here hx rfl (pc0 := 192) (pc' := 225) rfl (hb hby at_192) rfl ((if0 _ _).trans (teq (by decide : (0 : Int32) = (0 : Int32))).1) (by decide) (by decide) k) ?_
          show OGo _ _ _ _ (T_0_155.setTop (mkF m 225 #[.val (.int va), .val (.long vb), .second, .val (.int vc), .val (.int vd), .val (.long ve), .second, .val (.int vf), .val (.int (0 : Int32)), .val (.int w_0_3), .val (.int (1 : Int32)), .val (.ref b_0_82), .val (.int w_0_153), .val (.int (0 : Int32)), .unset] []))
          exact J_0_157
      refine ogo (fun _ k => XS.iloadN X_0_155.here hx rfl (hb hby at_225) rfl k) ?_
      show OGo _ _ _ _ (T_0_155.setTop (mkF m 226 #[.val (.int va), .val (.long vb), .second, .val (.int vc), .val (.int vd), .val (.long ve), .second, .val (.int vf), .val (.int (0 : Int32)), .val (.int w_0_3), .val (.int (1 : Int32)), .val (.ref b_0_82), .val (.int w_0_153), .val (.int (0 : Int32)), .unset] [(.int va)]))
      suffices J_0_161 : ∀ (w_0_160 : Int32) (hw_0_160 : w_0_160 = (if va = (0 : Int32) then (1 : Int32) else (0 : Int32))), OGo p.tables e below (OFin s (fun v _ L => v = some (.int 1) ∧ Fr n0 L) 16 128) (T_0_155.setTop (mkF m 239 #[.val (.int va), .val (.long vb), .second, .val (.int vc), .val (.int vd), .val (.long ve), .second, .val (.int vf), .val (.int (0 : Int32)), .val (.int w_0_3), .val (.int (1 : Int32)), .val (.ref b_0_82), .val (.int w_0_153), .val (.int (0 : Int32)), .unset] [(.int w_0_160)])) by
        by_cases hc_0_159 : va = (0 : Int32)
        · refine ogo (fun _ k => XS.ifNo X_0_155.here hx rfl (hb hby at_226) rfl ((if0 _ _).trans (teq hc_0_159).2) k) ?_
          show OGo _ _ _ _ (T_0_155.setTop (mkF m 229 #[.val (.int va), .val (.long vb), .second, .val (.int vc), .val (.int vd), .val (.long ve), .second, .val (.int vf), .val (.int (0 : Int32)), .val (.int w_0_3), .val (.int (1 : Int32)), .val (.ref b_0_82), .val (.int w_0_153), .val (.int (0 : Int32)), .unset] []))
          refine ogo (fun _ k => XS.iload X_0_155.here hx rfl (hb hby at_229) rfl k) ?_
          show OGo _ _ _ _ (T_0_155.setTop (mkF m 231 #[.val (.int va), .val (.long vb), .second, .val (.int vc), .val (.int vd), .val (.long ve), .second, .val (.int vf), .val (.int (0 : Int32)), .val (.int w_0_3), .val (.int (1 : Int32)), .val (.ref b_0_82), .val (.int w_0_153), .val (.int (0 : Int32)), .unset] [(.int (0 : Int32))]))
          refine ogo (fun _ k => XS.ifNo X_0_155.here hx rfl (hb hby at_231) rfl ((if0 _ _).trans (teq (by decide : (0 : Int32) = (0 : Int32))).2) k) ?_
          show OGo _ _ _ _ (T_0_155.setTop (mkF m 234 #[.val (.int va), .val (.long vb), .second, .val (.int vc), .val (.int vd), .val (.long ve), .second, .val (.int vf), .val (.int (0 : Int32)), .val (.int w_0_3), .val (.int (1 : Int32)), .val (.ref b_0_82), .val (.int w_0_153), .val (.int (0 : Int32)), .unset] []))
          refine ogo (fun _ k => XS.iconst X_0_155.here hx rfl (hb hby at_234) k) ?_
          show OGo _ _ _ _ (T_0_155.setTop (mkF m 235 #[.val (.int va), .val (.long vb), .second, .val (.int vc), .val (.int vd), .val (.long ve), .second, .val (.int vf), .val (.int (0 : Int32)), .val (.int w_0_3), .val (.int (1 : Int32)), .val (.ref b_0_82), .val (.int w_0_153), .val (.int (0 : Int32)), .unset] [(.int (1 : Int32))]))
          refine ogo (fun _ k => XS.goto X_0_155.here hx rfl (pc0 := 235) (pc' := 239) rfl (hb hby at_235) (by decide) (by decide) k) ?_
          show OGo _ _ _ _ (T_0_155.setTop (mkF m 239 #[.val (.int va), .val (.long vb), .second, .val (.int vc), .val (.int vd), .val (.long ve), .second, .val (.int vf), .val (.int (0 : Int32)), .val (.int w_0_3), .val (.int (1 : Int32)), .val (.ref b_0_82), .val (.int w_0_153), .val (.int (0 : Int32)), .unset] [(.int (1 : Int32))]))
          exact J_0_161 _ (if_pos hc_0_159).symm
        · refine ogo (fun _ k => XS.ifYes X_0_155.here hx rfl (pc0 := 226) (pc' := 238) rfl (hb hby at_226) rfl ((if0 _ _).trans (feq hc_0_159).2) (by decide) (by decide) k) ?_
          show OGo _ _ _ _ (T_0_155.setTop (mkF m 238 #[.val (.int va), .val (.long vb), .second, .val (.int vc), .val (.int vd), .val (.long ve), .second, .val (.int vf), .val (.int (0 : Int32)), .val (.int w_0_3), .val (.int (1 : Int32)), .val (.ref b_0_82), .val (.int w_0_153), .val (.int (0 : Int32)), .unset] []))
          refine ogo (fun _ k => XS.iconst X_0_155.here hx rfl (hb hby at_238) k) ?_
          show OGo _ _ _ _ (T_0_155.setTop (mkF m 239 #[.val (.int va), .val (.long vb), .second, .val (.int vc), .val (.int vd), .val (.long ve), .second, .val (.int vf), .val (.int (0 : Int32)), .val (.int w_0_3), .val (.int (1 : Int32)), .val (.ref b_0_82), .val (.int w_0_153), .val (.int (0 : Int32)), .unset] [(.int (0 : Int32))]))
          exact J_0_161 _ (if_neg hc_0_159).symm
      intro w_0_160 hw_0_160
      refine ogo (fun _ k => XS.istore X_0_155.here hx rfl (hb hby at_239) rfl (l' := #[.val (.int va), .val (.long vb), .second, .val (.int vc), .val (.int vd), .val (.long ve), .second, .val (.int vf), .val (.int (0 : Int32)), .val (.int w_0_3), .val (.int (1 : Int32)), .val (.ref b_0_82), .val (.int w_0_153), .val (.int (0 : Int32)), .val (.int w_0_160)]) rfl k) ?_
      show OGo _ _ _ _ (T_0_155.setTop (mkF m 241 #[.val (.int va), .val (.long vb), .second, .val (.int vc), .val (.int vd), .val (.long ve), .second, .val (.int vf), .val (.int (0 : Int32)), .val (.int w_0_3), .val (.int (1 : Int32)), .val (.ref b_0_82), .val (.int w_0_153), .val (.int (0 : Int32)), .val (.int w_0_160)] []))
      refine ogo (fun _ k => XS.iload X_0_155.here hx rfl (hb hby at_241) rfl k) ?_
      show OGo _ _ _ _ (T_0_155.setTop (mkF m 243 #[.val (.int va), .val (.long vb), .second, .val (.int vc), .val (.int vd), .val (.long ve), .second, .val (.int vf), .val (.int (0 : Int32)), .val (.int w_0_3), .val (.int (1 : Int32)), .val (.ref b_0_82), .val (.int w_0_153), .val (.int (0 : Int32)), .val (.int w_0_160)] [(.int w_0_153)]))
      suffices J_0_170 : ∀ (w_0_169 : Int32) (hw_0_169 : w_0_169 = (if w_0_153 = (0 : Int32) then (0 : Int32) else (if (emptyF va (0 : Int32)) = w_0_160 then (1 : Int32) else (0 : Int32)))) (T_0_171 : State) (X_0_171 : Stand p l e room_1 s m #[(.int va), (.long vb), (.int vc), (.int vd), (.long ve), (.int vf)] below meth c T_0_171 lc_0_116 3 11) (e_0_171 : T_0_171.heap = h_0_116), OGo p.tables e below (OFin s (fun v _ L => v = some (.int 1) ∧ Fr n0 L) 16 128) (T_0_171.setTop (mkF m 261 #[.val (.int va), .val (.long vb), .second, .val (.int vc), .val (.int vd), .val (.long ve), .second, .val (.int vf), .val (.int (0 : Int32)), .val (.int w_0_3), .val (.int (1 : Int32)), .val (.ref b_0_82), .val (.int w_0_153), .val (.int (0 : Int32)), .val (.int w_0_160)] [(.int w_0_169)])) by
        by_cases hc_0_163 : w_0_153 = (0 : Int32)
        · refine ogo (fun _ k => XS.ifYes X_0_155.here hx rfl (pc0 := 243) (pc' := 260) rfl (hb hby at_243) rfl ((if0 _ _).trans (teq hc_0_163).1) (by decide) (by decide) k) ?_
          show OGo _ _ _ _ (T_0_155.setTop (mkF m 260 #[.val (.int va), .val (.long vb), .second, .val (.int vc), .val (.int vd), .val (.long ve), .second, .val (.int vf), .val (.int (0 : Int32)), .val (.int w_0_3), .val (.int (1 : Int32)), .val (.ref b_0_82), .val (.int w_0_153), .val (.int (0 : Int32)), .val (.int w_0_160)] []))
          refine ogo (fun _ k => XS.iconst X_0_155.here hx rfl (hb hby at_260) k) ?_
          show OGo _ _ _ _ (T_0_155.setTop (mkF m 261 #[.val (.int va), .val (.long vb), .second, .val (.int vc), .val (.int vd), .val (.long ve), .second, .val (.int vf), .val (.int (0 : Int32)), .val (.int w_0_3), .val (.int (1 : Int32)), .val (.ref b_0_82), .val (.int w_0_153), .val (.int (0 : Int32)), .val (.int w_0_160)] [(.int (0 : Int32))]))
          exact J_0_170 _ (if_pos hc_0_163).symm _ X_0_155 e_0_155
        · refine ogo (fun _ k => XS.ifNo X_0_155.here hx rfl (hb hby at_243) rfl ((if0 _ _).trans (feq hc_0_163).1) k) ?_
          show OGo _ _ _ _ (T_0_155.setTop (mkF m 246 #[.val (.int va), .val (.long vb), .second, .val (.int vc), .val (.int vd), .val (.long ve), .second, .val (.int vf), .val (.int (0 : Int32)), .val (.int w_0_3), .val (.int (1 : Int32)), .val (.ref b_0_82), .val (.int w_0_153), .val (.int (0 : Int32)), .val (.int w_0_160)] []))
          refine ogo (fun _ k => XS.aload X_0_155.here hx rfl (hb hby at_246) rfl rfl k) ?_
          show OGo _ _ _ _ (T_0_155.setTop (mkF m 248 #[.val (.int va), .val (.long vb), .second, .val (.int vc), .val (.int vd), .val (.long ve), .second, .val (.int vf), .val (.int (0 : Int32)), .val (.int w_0_3), .val (.int (1 : Int32)), .val (.ref b_0_82), .val (.int w_0_153), .val (.int (0 : Int32)), .val (.int w_0_160)] [(.ref b_0_82)]))
          obtain ⟨T_0_164, X_0_164, e_0_164, st_0_164⟩ := ovirtP X_0_155 hx hZ e_0_155 (rm9 l Z a0 hw b_0_82 va ((0 : Int32)) h_0_116 f_0_117 f_0_121) hown (hw _ (List.mem_of_getElem? (i := 55) rfl)) (hw _ (List.mem_of_getElem? (i := 56) rfl)) (hw _ (List.mem_of_getElem? (i := 58) rfl)) (hw _ (List.mem_of_getElem? (i := 57) rfl)) (hw _ (List.mem_of_getElem? (i := 2) rfl)) (hw _ (List.mem_of_getElem? (i := 59) rfl)) (by decide) f_0_124 (g := (mkF m 248 #[.val (.int va), .val (.long vb), .second, .val (.int vc), .val (.int vd), .val (.long ve), .second, .val (.int vf), .val (.int (0 : Int32)), .val (.int w_0_3), .val (.int (1 : Int32)), .val (.ref b_0_82), .val (.int w_0_153), .val (.int (0 : Int32)), .val (.int w_0_160)] [(.ref b_0_82)])) rfl (by rw [hml]; rfl) [] [] rfl (lenOf pd___Z rfl) rfl (hb hby at_248) 0 (by show 2 * 0 + _ ≤ _; exact Nat.le_of_eq rfl) (by decide) (by decide) (by decide) (by decide) rfl rfl
          refine ogo (fun _ k => st_0_164 _ k) ?_
          show OGo _ _ _ _ (T_0_164.setTop (mkF m 251 #[.val (.int va), .val (.long vb), .second, .val (.int vc), .val (.int vd), .val (.long ve), .second, .val (.int vf), .val (.int (0 : Int32)), .val (.int w_0_3), .val (.int (1 : Int32)), .val (.ref b_0_82), .val (.int w_0_153), .val (.int (0 : Int32)), .val (.int w_0_160)] [(.int (emptyF va (0 : Int32)))]))
          refine ogo (fun _ k => XS.iload X_0_164.here hx rfl (hb hby at_251) rfl k) ?_
          show OGo _ _ _ _ (T_0_164.setTop (mkF m 253 #[.val (.int va), .val (.long vb), .second, .val (.int vc), .val (.int vd), .val (.long ve), .second, .val (.int vf), .val (.int (0 : Int32)), .val (.int w_0_3), .val (.int (1 : Int32)), .val (.ref b_0_82), .val (.int w_0_153), .val (.int (0 : Int32)), .val (.int w_0_160)] [(.int w_0_160), (.int (emptyF va (0 : Int32)))]))
          suffices J_0_167 : ∀ (w_0_166 : Int32) (hw_0_166 : w_0_166 = (if (emptyF va (0 : Int32)) = w_0_160 then (1 : Int32) else (0 : Int32))), OGo p.tables e below (OFin s (fun v _ L => v = some (.int 1) ∧ Fr n0 L) 16 128) (T_0_164.setTop (mkF m 261 #[.val (.int va), .val (.long vb), .second, .val (.int vc), .val (.int vd), .val (.long ve), .second, .val (.int vf), .val (.int (0 : Int32)), .val (.int w_0_3), .val (.int (1 : Int32)), .val (.ref b_0_82), .val (.int w_0_153), .val (.int (0 : Int32)), .val (.int w_0_160)] [(.int w_0_166)])) by
            by_cases hc_0_165 : (emptyF va (0 : Int32)) = w_0_160
            · refine ogo (fun _ k => XS.icmpNo X_0_164.here hx rfl (hb hby at_253) rfl (teq hc_0_165).2 k) ?_
              show OGo _ _ _ _ (T_0_164.setTop (mkF m 256 #[.val (.int va), .val (.long vb), .second, .val (.int vc), .val (.int vd), .val (.long ve), .second, .val (.int vf), .val (.int (0 : Int32)), .val (.int w_0_3), .val (.int (1 : Int32)), .val (.ref b_0_82), .val (.int w_0_153), .val (.int (0 : Int32)), .val (.int w_0_160)] []))
              refine ogo (fun _ k => XS.iconst X_0_164.here hx rfl (hb hby at_256) k) ?_
              show OGo _ _ _ _ (T_0_164.setTop (mkF m 257 #[.val (.int va), .val (.long vb), .second, .val (.int vc), .val (.int vd), .val (.long ve), .second, .val (.int vf), .val (.int (0 : Int32)), .val (.int w_0_3), .val (.int (1 : Int32)), .val (.ref b_0_82), .val (.int w_0_153), .val (.int (0 : Int32)), .val (.int w_0_160)] [(.int (1 : Int32))]))
              refine ogo (fun _ k => XS.goto X_0_164.here hx rfl (pc0 := 257) (pc' := 261) rfl (hb hby at_257) (by decide) (by decide) k) ?_
              show OGo _ _ _ _ (T_0_164.setTop (mkF m 261 #[.val (.int va), .val (.long vb), .second, .val (.int vc), .val (.int vd), .val (.long ve), .second, .val (.int vf), .val (.int (0 : Int32)), .val (.int w_0_3), .val (.int (1 : Int32)), .val (.ref b_0_82), .val (.int w_0_153), .val (.int (0 : Int32)), .val (.int w_0_160)] [(.int (1 : Int32))]))
              exact J_0_167 _ (if_pos hc_0_165).symm
            · refine ogo (fun _ k => XS.icmpYes X_0_164.here hx rfl (pc0 := 253) (pc' := 260) rfl (hb hby at_253) rfl (feq hc_0_165).2 (by decide) (by decide) k) ?_
              show OGo _ _ _ _ (T_0_164.setTop (mkF m 260 #[.val (.int va), .val (.long vb), .second, .val (.int vc), .val (.int vd), .val (.long ve), .second, .val (.int vf), .val (.int (0 : Int32)), .val (.int w_0_3), .val (.int (1 : Int32)), .val (.ref b_0_82), .val (.int w_0_153), .val (.int (0 : Int32)), .val (.int w_0_160)] []))
              refine ogo (fun _ k => XS.iconst X_0_164.here hx rfl (hb hby at_260) k) ?_
              show OGo _ _ _ _ (T_0_164.setTop (mkF m 261 #[.val (.int va), .val (.long vb), .second, .val (.int vc), .val (.int vd), .val (.long ve), .second, .val (.int vf), .val (.int (0 : Int32)), .val (.int w_0_3), .val (.int (1 : Int32)), .val (.ref b_0_82), .val (.int w_0_153), .val (.int (0 : Int32)), .val (.int w_0_160)] [(.int (0 : Int32))]))
              exact J_0_167 _ (if_neg hc_0_165).symm
          intro w_0_166 hw_0_166
          subst hw_0_166
          exact J_0_170 _ (if_neg hc_0_163).symm _ X_0_164 e_0_164
      intro w_0_169 hw_0_169 T_0_171 X_0_171 e_0_171
      have hz : w_0_169 = (1 : Int32) := plain1 va vb vc vd ve vf hc_0_1 w_0_3 hw_0_3 hc_0_6 w_0_102 hw_0_102 w_0_144 hw_0_144 w_0_153 hw_0_153 w_0_160 hw_0_160 w_0_169 hw_0_169
      rw [hz]
      exact oret X_0_171 hx hlk Bd.returns rfl (Or.inl ⟨rfl, Or.inr (Or.inl rfl), _, rfl⟩) (hb hby at_261) (by decide) (by decide) ⟨rfl, N_0_116⟩
  · refine ogo (fun _ k => XS.ifNo X0.here hx rfl (hb hby at_4) rfl ((if0 _ _).trans (feq hc_0_1).1) k) ?_
    show OGo _ _ _ _ (s₁.setTop (mkF m 7 #[.val (.int va), .val (.long vb), .second, .val (.int vc), .val (.int vd), .val (.long ve), .second, .val (.int vf), .unset, .unset, .unset, .unset, .unset, .unset, .unset] []))
    refine ogo (fun _ k => XS.iconst X0.here hx rfl (hb hby at_7) k) ?_
    show OGo _ _ _ _ (s₁.setTop (mkF m 8 #[.val (.int va), .val (.long vb), .second, .val (.int vc), .val (.int vd), .val (.long ve), .second, .val (.int vf), .unset, .unset, .unset, .unset, .unset, .unset, .unset] [(.int (1 : Int32))]))
    refine ogo (fun _ k => XS.goto X0.here hx rfl (pc0 := 8) (pc' := 12) rfl (hb hby at_8) (by decide) (by decide) k) ?_
    show OGo _ _ _ _ (s₁.setTop (mkF m 12 #[.val (.int va), .val (.long vb), .second, .val (.int vc), .val (.int vd), .val (.long ve), .second, .val (.int vf), .unset, .unset, .unset, .unset, .unset, .unset, .unset] [(.int (1 : Int32))]))
    refine ogo (fun _ k => XS.istore X0.here hx rfl (hb hby at_12) rfl (l' := #[.val (.int va), .val (.long vb), .second, .val (.int vc), .val (.int vd), .val (.long ve), .second, .val (.int vf), .val (.int (1 : Int32)), .unset, .unset, .unset, .unset, .unset, .unset]) rfl k) ?_
    show OGo _ _ _ _ (s₁.setTop (mkF m 14 #[.val (.int va), .val (.long vb), .second, .val (.int vc), .val (.int vd), .val (.long ve), .second, .val (.int vf), .val (.int (1 : Int32)), .unset, .unset, .unset, .unset, .unset, .unset] []))
    refine ogo (fun _ k => XS.iload X0.here hx rfl (hb hby at_14) rfl k) ?_
    show OGo _ _ _ _ (s₁.setTop (mkF m 16 #[.val (.int va), .val (.long vb), .second, .val (.int vc), .val (.int vd), .val (.long ve), .second, .val (.int vf), .val (.int (1 : Int32)), .unset, .unset, .unset, .unset, .unset, .unset] [(.int vd)]))
    refine ogo (fun _ k => XS.iconst X0.here hx rfl (hb hby at_16) k) ?_
    show OGo _ _ _ _ (s₁.setTop (mkF m 17 #[.val (.int va), .val (.long vb), .second, .val (.int vc), .val (.int vd), .val (.long ve), .second, .val (.int vf), .val (.int (1 : Int32)), .unset, .unset, .unset, .unset, .unset, .unset] [(.int (2 : Int32)), (.int vd)]))
    refine ogo (fun _ k => XS.iand X0.here hx rfl (hb hby at_17) rfl k) ?_
    show OGo _ _ _ _ (s₁.setTop (mkF m 18 #[.val (.int va), .val (.long vb), .second, .val (.int vc), .val (.int vd), .val (.long ve), .second, .val (.int vf), .val (.int (1 : Int32)), .unset, .unset, .unset, .unset, .unset, .unset] [(.int (vd &&& (2 : Int32)))]))
    suffices J_0_174 : ∀ (w_0_173 : Int32) (hw_0_173 : w_0_173 = (if (vd &&& (2 : Int32)) = (0 : Int32) then (0 : Int32) else (1 : Int32))), OGo p.tables e below (OFin s (fun v _ L => v = some (.int 1) ∧ Fr n0 L) 16 128) (s₁.setTop (mkF m 26 #[.val (.int va), .val (.long vb), .second, .val (.int vc), .val (.int vd), .val (.long ve), .second, .val (.int vf), .val (.int (1 : Int32)), .unset, .unset, .unset, .unset, .unset, .unset] [(.int w_0_173)])) by
      by_cases hc_0_172 : (vd &&& (2 : Int32)) = (0 : Int32)
      · refine ogo (fun _ k => XS.ifYes X0.here hx rfl (pc0 := 18) (pc' := 25) rfl (hb hby at_18) rfl ((if0 _ _).trans (teq hc_0_172).1) (by decide) (by decide) k) ?_
        show OGo _ _ _ _ (s₁.setTop (mkF m 25 #[.val (.int va), .val (.long vb), .second, .val (.int vc), .val (.int vd), .val (.long ve), .second, .val (.int vf), .val (.int (1 : Int32)), .unset, .unset, .unset, .unset, .unset, .unset] []))
        refine ogo (fun _ k => XS.iconst X0.here hx rfl (hb hby at_25) k) ?_
        show OGo _ _ _ _ (s₁.setTop (mkF m 26 #[.val (.int va), .val (.long vb), .second, .val (.int vc), .val (.int vd), .val (.long ve), .second, .val (.int vf), .val (.int (1 : Int32)), .unset, .unset, .unset, .unset, .unset, .unset] [(.int (0 : Int32))]))
        exact J_0_174 _ (if_pos hc_0_172).symm
      · refine ogo (fun _ k => XS.ifNo X0.here hx rfl (hb hby at_18) rfl ((if0 _ _).trans (feq hc_0_172).1) k) ?_
        show OGo _ _ _ _ (s₁.setTop (mkF m 21 #[.val (.int va), .val (.long vb), .second, .val (.int vc), .val (.int vd), .val (.long ve), .second, .val (.int vf), .val (.int (1 : Int32)), .unset, .unset, .unset, .unset, .unset, .unset] []))
        refine ogo (fun _ k => XS.iconst X0.here hx rfl (hb hby at_21) k) ?_
        show OGo _ _ _ _ (s₁.setTop (mkF m 22 #[.val (.int va), .val (.long vb), .second, .val (.int vc), .val (.int vd), .val (.long ve), .second, .val (.int vf), .val (.int (1 : Int32)), .unset, .unset, .unset, .unset, .unset, .unset] [(.int (1 : Int32))]))
        refine ogo (fun _ k => XS.goto X0.here hx rfl (pc0 := 22) (pc' := 26) rfl (hb hby at_22) (by decide) (by decide) k) ?_
        show OGo _ _ _ _ (s₁.setTop (mkF m 26 #[.val (.int va), .val (.long vb), .second, .val (.int vc), .val (.int vd), .val (.long ve), .second, .val (.int vf), .val (.int (1 : Int32)), .unset, .unset, .unset, .unset, .unset, .unset] [(.int (1 : Int32))]))
        exact J_0_174 _ (if_neg hc_0_172).symm
    intro w_0_173 hw_0_173
    refine ogo (fun _ k => XS.istore X0.here hx rfl (hb hby at_26) rfl (l' := #[.val (.int va), .val (.long vb), .second, .val (.int vc), .val (.int vd), .val (.long ve), .second, .val (.int vf), .val (.int (1 : Int32)), .val (.int w_0_173), .unset, .unset, .unset, .unset, .unset]) rfl k) ?_
    show OGo _ _ _ _ (s₁.setTop (mkF m 28 #[.val (.int va), .val (.long vb), .second, .val (.int vc), .val (.int vd), .val (.long ve), .second, .val (.int vf), .val (.int (1 : Int32)), .val (.int w_0_173), .unset, .unset, .unset, .unset, .unset] []))
    refine ogo (fun _ k => XS.iload X0.here hx rfl (hb hby at_28) rfl k) ?_
    show OGo _ _ _ _ (s₁.setTop (mkF m 30 #[.val (.int va), .val (.long vb), .second, .val (.int vc), .val (.int vd), .val (.long ve), .second, .val (.int vf), .val (.int (1 : Int32)), .val (.int w_0_173), .unset, .unset, .unset, .unset, .unset] [(.int vd)]))
    refine ogo (fun _ k => XS.iconst X0.here hx rfl (hb hby at_30) k) ?_
    show OGo _ _ _ _ (s₁.setTop (mkF m 31 #[.val (.int va), .val (.long vb), .second, .val (.int vc), .val (.int vd), .val (.long ve), .second, .val (.int vf), .val (.int (1 : Int32)), .val (.int w_0_173), .unset, .unset, .unset, .unset, .unset] [(.int (4 : Int32)), (.int vd)]))
    refine ogo (fun _ k => XS.iand X0.here hx rfl (hb hby at_31) rfl k) ?_
    show OGo _ _ _ _ (s₁.setTop (mkF m 32 #[.val (.int va), .val (.long vb), .second, .val (.int vc), .val (.int vd), .val (.long ve), .second, .val (.int vf), .val (.int (1 : Int32)), .val (.int w_0_173), .unset, .unset, .unset, .unset, .unset] [(.int (vd &&& (4 : Int32)))]))
    by_cases hc_0_176 : (vd &&& (4 : Int32)) = (0 : Int32)
    · refine ogo (fun _ k => XS.ifYes X0.here hx rfl (pc0 := 32) (pc' := 39) rfl (hb hby at_32) rfl ((if0 _ _).trans (teq hc_0_176).1) (by decide) (by decide) k) ?_
      show OGo _ _ _ _ (s₁.setTop (mkF m 39 #[.val (.int va), .val (.long vb), .second, .val (.int vc), .val (.int vd), .val (.long ve), .second, .val (.int vf), .val (.int (1 : Int32)), .val (.int w_0_173), .unset, .unset, .unset, .unset, .unset] []))
      refine ogo (fun _ k => XS.iconst X0.here hx rfl (hb hby at_39) k) ?_
      show OGo _ _ _ _ (s₁.setTop (mkF m 40 #[.val (.int va), .val (.long vb), .second, .val (.int vc), .val (.int vd), .val (.long ve), .second, .val (.int vf), .val (.int (1 : Int32)), .val (.int w_0_173), .unset, .unset, .unset, .unset, .unset] [(.int (0 : Int32))]))
      refine ogo (fun _ k => XS.istore X0.here hx rfl (hb hby at_40) rfl (l' := #[.val (.int va), .val (.long vb), .second, .val (.int vc), .val (.int vd), .val (.long ve), .second, .val (.int vf), .val (.int (1 : Int32)), .val (.int w_0_173), .val (.int (0 : Int32)), .unset, .unset, .unset, .unset]) rfl k) ?_
      show OGo _ _ _ _ (s₁.setTop (mkF m 42 #[.val (.int va), .val (.long vb), .second, .val (.int vc), .val (.int vd), .val (.long ve), .second, .val (.int vf), .val (.int (1 : Int32)), .val (.int w_0_173), .val (.int (0 : Int32)), .unset, .unset, .unset, .unset] []))
      obtain ⟨T_0_177, h_0_177, X_0_177, e_0_177, E_0_177, A_0_177, D_0_177, -, st_0_177⟩ := newO X0 hx hZ hown (hw _ (List.mem_of_getElem? (i := 0) rfl)) (hw _ (List.mem_of_getElem? (i := 1) rfl)) (hw _ (List.mem_of_getElem? (i := 2) rfl)) e0 (g := (mkF m 42 #[.val (.int va), .val (.long vb), .second, .val (.int vc), .val (.int vd), .val (.long ve), .second, .val (.int vf), .val (.int (1 : Int32)), .val (.int w_0_173), .val (.int (0 : Int32)), .unset, .unset, .unset, .unset] [])) rfl (hb hby at_42) (by decide) (by decide)
      obtain ⟨b_0_177, g_0_177⟩ : ∃ z, z = h0.size := ⟨_, rfl⟩
      rw [← g_0_177] at A_0_177 D_0_177 st_0_177
      have g_b_0_177 : n0 ≤ b_0_177 := Nat.le_trans Z0 (Nat.le_of_eq g_0_177.symm)
      have Z_0_177 : n0 ≤ h_0_177.size := Nat.le_trans Z0 E_0_177.1
      have f_0_178 : Fld Z h_0_177 b_0_177 "com/example/bouncr/bouncr/KeyRecord" "lastNano" "I" (.int (0 : Int32)) := D_0_177 (Or.inl (hw _ (List.mem_of_getElem? (i := 10) rfl))) (ty := .int) (by decide)
      have f_0_179 : Fld Z h_0_177 b_0_177 "com/example/bouncr/bouncr/KeyRecord" "placeSeconds" "[J" .null := D_0_177 (Or.inl (hw _ (List.mem_of_getElem? (i := 13) rfl))) (ty := (.array .long)) (by decide)
      have f_0_180 : Fld Z h_0_177 b_0_177 "com/example/bouncr/bouncr/KeyRecord" "placeNanos" "[I" .null := D_0_177 (Or.inl (hw _ (List.mem_of_getElem? (i := 16) rfl))) (ty := (.array .int)) (by decide)
      have f_0_181 : Fld Z h_0_177 b_0_177 "com/example/bouncr/bouncr/KeyRecord" "failures" "I" (.int (0 : Int32)) := D_0_177 (Or.inl (hw _ (List.mem_of_getElem? (i := 23) rfl))) (ty := .int) (by decide)
      have f_0_182 : Fld Z h_0_177 b_0_177 "com/example/bouncr/bouncr/KeyRecord" "lastSecond" "J" (.long (0 : Int64)) := D_0_177 (Or.inl (hw _ (List.mem_of_getElem? (i := 25) rfl))) (ty := .long) (by decide)
      have f_0_183 : Fld Z h_0_177 b_0_177 "com/example/bouncr/bouncr/KeyRecord" "refusedOnly" "Z" (.int (0 : Int32)) := D_0_177 (Or.inl (hw _ (List.mem_of_getElem? (i := 27) rfl))) (ty := .boolean) (by decide)
      have f_0_184 : Fld Z h_0_177 b_0_177 "com/example/bouncr/bouncr/KeyRecord" "placeCount" "I" (.int (0 : Int32)) := D_0_177 (Or.inl (hw _ (List.mem_of_getElem? (i := 54) rfl))) (ty := .int) (by decide)
      obtain ⟨lc_0_177, N_0_177, X_0_177⟩ : ∃ L, Fr n0 L ∧ Stand p l e room_1 s m #[(.int va), (.long vb), (.int vc), (.int vd), (.long ve), (.int vf)] below meth c T_0_177 L 1 9 := ⟨_, N0, X_0_177⟩
      refine ogo (fun _ k => st_0_177 _ k) ?_
      show OGo _ _ _ _ (T_0_177.setTop (mkF m 45 #[.val (.int va), .val (.long vb), .second, .val (.int vc), .val (.int vd), .val (.long ve), .second, .val (.int vf), .val (.int (1 : Int32)), .val (.int w_0_173), .val (.int (0 : Int32)), .unset, .unset, .unset, .unset] [(.ref b_0_177)]))
      refine ogo (fun _ k => XS.dup X_0_177.here hx rfl (hb hby at_45) rfl rfl k) ?_
      show OGo _ _ _ _ (T_0_177.setTop (mkF m 46 #[.val (.int va), .val (.long vb), .second, .val (.int vc), .val (.int vd), .val (.long ve), .second, .val (.int vf), .val (.int (1 : Int32)), .val (.int w_0_173), .val (.int (0 : Int32)), .unset, .unset, .unset, .unset] [(.ref b_0_177), (.ref b_0_177)]))
      obtain ⟨v_0_185, T_0_185, h_0_185, L_0_185, e_0_185, hQ_0_185, X_0_185, st_0_185⟩ := ospecQ X_0_177 hx hZ e_0_177 (rm1 l Z a0 hw b_0_177 h_0_177 n0 Z_0_177 A_0_177 f_0_181 f_0_182 f_0_178 f_0_183 f_0_184 f_0_179 f_0_180 g_b_0_177) rfl hown (hw _ (List.mem_of_getElem? (i := 3) rfl)) (hw _ (List.mem_of_getElem? (i := 4) rfl)) (hw _ (List.mem_of_getElem? (i := 2) rfl)) (hw _ (List.mem_of_getElem? (i := 5) rfl)) (by decide) (b := b_0_177) (g := (mkF m 46 #[.val (.int va), .val (.long vb), .second, .val (.int vc), .val (.int vd), .val (.long ve), .second, .val (.int vf), .val (.int (1 : Int32)), .val (.int w_0_173), .val (.int (0 : Int32)), .unset, .unset, .unset, .unset] [(.ref b_0_177), (.ref b_0_177)])) rfl (by rw [hml]; rfl) [] [(.ref b_0_177)] rfl (lenOf pd___V rfl) rfl (hb hby at_46) 1 (by show 2 * 0 + _ ≤ _; exact Nat.le_of_eq rfl) (by decide) (by decide) (by decide) (by decide)
      obtain ⟨sa_0_185, na_0_185, rfl, Nq_0_185, Kc_0_185, f_0_186, f_0_187, f_0_188, f_0_189, f_0_190, f_0_191, f_0_192, f_0_193, f_0_194, g_sa_0_185, g_na_0_185, ne_1_0_185, ne_2_0_185, ne_3_0_185⟩ := hQ_0_185
      have f_0_195 := A_0_177.keep Kc_0_185
      have Z_0_185 : n0 ≤ h_0_185.size := Nat.le_trans Z_0_177 Kc_0_185.1
      obtain ⟨lc_0_185, N_0_185, X_0_185⟩ : ∃ L, Fr n0 L ∧ Stand p l e room_1 s m #[(.int va), (.long vb), (.int vc), (.int vd), (.long ve), (.int vf)] below meth c T_0_185 L 3 11 := ⟨_, Fr.app N_0_177 Nq_0_185, X_0_185⟩
      refine ogo (fun _ k => st_0_185 _ k) ?_
      show OGo _ _ _ _ (T_0_185.setTop (mkF m 49 #[.val (.int va), .val (.long vb), .second, .val (.int vc), .val (.int vd), .val (.long ve), .second, .val (.int vf), .val (.int (1 : Int32)), .val (.int w_0_173), .val (.int (0 : Int32)), .unset, .unset, .unset, .unset] [(.ref b_0_177)]))
      refine ogo (fun _ k => XS.astore X_0_185.here hx rfl (hb hby at_49) rfl rfl (l' := #[.val (.int va), .val (.long vb), .second, .val (.int vc), .val (.int vd), .val (.long ve), .second, .val (.int vf), .val (.int (1 : Int32)), .val (.int w_0_173), .val (.int (0 : Int32)), .val (.ref b_0_177), .unset, .unset, .unset]) rfl k) ?_
      show OGo _ _ _ _ (T_0_185.setTop (mkF m 51 #[.val (.int va), .val (.long vb), .second, .val (.int vc), .val (.int vd), .val (.long ve), .second, .val (.int vf), .val (.int (1 : Int32)), .val (.int w_0_173), .val (.int (0 : Int32)), .val (.ref b_0_177), .unset, .unset, .unset] []))
      refine ogo (fun _ k => XS.iload X_0_185.here hx rfl (hb hby at_51) rfl k) ?_
      show OGo _ _ _ _ (T_0_185.setTop (mkF m 53 #[.val (.int va), .val (.long vb), .second, .val (.int vc), .val (.int vd), .val (.long ve), .second, .val (.int vf), .val (.int (1 : Int32)), .val (.int w_0_173), .val (.int (0 : Int32)), .val (.ref b_0_177), .unset, .unset, .unset] [(.int (1 : Int32))]))
      refine ogo (fun _ k => XS.ifNo X_0_185.here hx rfl (hb hby at_53) rfl ((if0 _ _).trans (feq (by decide : ¬ ((1 : Int32) = (0 : Int32)))).1) k) ?_
      show OGo _ _ _ _ (T_0_185.setTop (mkF m 56 #[.val (.int va), .val (.long vb), .second, .val (.int vc), .val (.int vd), .val (.long ve), .second, .val (.int vf), .val (.int (1 : Int32)), .val (.int w_0_173), .val (.int (0 : Int32)), .val (.ref b_0_177), .unset, .unset, .unset] []))
      refine ogo (fun _ k => XS.aload X_0_185.here hx rfl (hb hby at_56) rfl rfl k) ?_
      show OGo _ _ _ _ (T_0_185.setTop (mkF m 58 #[.val (.int va), .val (.long vb), .second, .val (.int vc), .val (.int vd), .val (.long ve), .second, .val (.int vf), .val (.int (1 : Int32)), .val (.int w_0_173), .val (.int (0 : Int32)), .val (.ref b_0_177), .unset, .unset, .unset] [(.ref b_0_177)]))
      refine ogo (fun _ k => XS.lload X_0_185.here hx rfl (hb hby at_58) rfl k) ?_
      show OGo _ _ _ _ (T_0_185.setTop (mkF m 60 #[.val (.int va), .val (.long vb), .second, .val (.int vc), .val (.int vd), .val (.long ve), .second, .val (.int vf), .val (.int (1 : Int32)), .val (.int w_0_173), .val (.int (0 : Int32)), .val (.ref b_0_177), .unset, .unset, .unset] [(.long ve), (.ref b_0_177)]))
      refine ogo (fun _ k => XS.iload X_0_185.here hx rfl (hb hby at_60) rfl k) ?_
      show OGo _ _ _ _ (T_0_185.setTop (mkF m 62 #[.val (.int va), .val (.long vb), .second, .val (.int vc), .val (.int vd), .val (.long ve), .second, .val (.int vf), .val (.int (1 : Int32)), .val (.int w_0_173), .val (.int (0 : Int32)), .val (.ref b_0_177), .unset, .unset, .unset] [(.int vf), (.long ve), (.ref b_0_177)]))
      obtain ⟨v_0_196, T_0_196, h_0_196, L_0_196, e_0_196, hQ_0_196, X_0_196, st_0_196⟩ := ovirtQ X_0_185 hx hZ e_0_185 (rm10 l Z a0 hw b_0_177 ve vf (0 : Int32) (0 : Int64) (-1 : Int32) (0 : Int32) sa_0_185 na_0_185 h_0_185 n0 Z_0_185 f_0_195 f_0_186 f_0_187 f_0_188 f_0_189 f_0_190 f_0_191 f_0_192 f_0_193 f_0_194 g_b_0_177 g_sa_0_185 g_na_0_185 ne_1_0_185 ne_2_0_185 ne_3_0_185) hown (hw _ (List.mem_of_getElem? (i := 60) rfl)) (hw _ (List.mem_of_getElem? (i := 61) rfl)) (hw _ (List.mem_of_getElem? (i := 63) rfl)) (hw _ (List.mem_of_getElem? (i := 62) rfl)) (hw _ (List.mem_of_getElem? (i := 2) rfl)) (hw _ (List.mem_of_getElem? (i := 64) rfl)) (by decide) f_0_195 (g := (mkF m 62 #[.val (.int va), .val (.long vb), .second, .val (.int vc), .val (.int vd), .val (.long ve), .second, .val (.int vf), .val (.int (1 : Int32)), .val (.int w_0_173), .val (.int (0 : Int32)), .val (.ref b_0_177), .unset, .unset, .unset] [(.int vf), (.long ve), (.ref b_0_177)])) rfl (by rw [hml]; rfl) [(.long ve), (.int vf)] [] rfl (lenOf pd__JI_V rfl) rfl (hb hby at_62) 0 (by show 2 * 0 + _ ≤ _; exact Nat.le_of_eq rfl) (by decide) (by decide) (by decide) (by decide)
      obtain ⟨rfl, Nq_0_196, Kc_0_196, f_0_197, f_0_198, f_0_199, f_0_200, f_0_201, f_0_202, f_0_203, f_0_204, f_0_205⟩ := hQ_0_196
      have f_0_206 := f_0_195.keep Kc_0_196
      have Z_0_196 : n0 ≤ h_0_196.size := Nat.le_trans Z_0_185 Kc_0_196.1
      obtain ⟨lc_0_196, N_0_196, X_0_196⟩ : ∃ L, Fr n0 L ∧ Stand p l e room_1 s m #[(.int va), (.long vb), (.int vc), (.int vd), (.long ve), (.int vf)] below meth c T_0_196 L 3 11 := ⟨_, Fr.app N_0_185 Nq_0_196, X_0_196⟩
      refine ogo (fun _ k => st_0_196 _ k) ?_
      show OGo _ _ _ _ (T_0_196.setTop (mkF m 65 #[.val (.int va), .val (.long vb), .second, .val (.int vc), .val (.int vd), .val (.long ve), .second, .val (.int vf), .val (.int (1 : Int32)), .val (.int w_0_173), .val (.int (0 : Int32)), .val (.ref b_0_177), .unset, .unset, .unset] []))
      refine ogo (fun _ k => XS.iload X_0_196.here hx rfl (hb hby at_65) rfl k) ?_
      show OGo _ _ _ _ (T_0_196.setTop (mkF m 67 #[.val (.int va), .val (.long vb), .second, .val (.int vc), .val (.int vd), .val (.long ve), .second, .val (.int vf), .val (.int (1 : Int32)), .val (.int w_0_173), .val (.int (0 : Int32)), .val (.ref b_0_177), .unset, .unset, .unset] [(.int (0 : Int32))]))
      refine ogo (fun _ k => XS.ifYes X_0_196.here hx rfl (pc0 := 67) (pc' := 96) rfl (hb hby at_67) rfl ((if0 _ _).trans (teq (by decide : (0 : Int32) = (0 : Int32))).1) (by decide) (by decide) k) ?_
      show OGo _ _ _ _ (T_0_196.setTop (mkF m 96 #[.val (.int va), .val (.long vb), .second, .val (.int vc), .val (.int vd), .val (.long ve), .second, .val (.int vf), .val (.int (1 : Int32)), .val (.int w_0_173), .val (.int (0 : Int32)), .val (.ref b_0_177), .unset, .unset, .unset] []))
      refine ogo (fun _ k => XS.aload X_0_196.here hx rfl (hb hby at_96) rfl rfl k) ?_
      show OGo _ _ _ _ (T_0_196.setTop (mkF m 98 #[.val (.int va), .val (.long vb), .second, .val (.int vc), .val (.int vd), .val (.long ve), .second, .val (.int vf), .val (.int (1 : Int32)), .val (.int w_0_173), .val (.int (0 : Int32)), .val (.ref b_0_177), .unset, .unset, .unset] [(.ref b_0_177)]))
      refine ogo (fun _ k => XS.iloadN X_0_196.here hx rfl (hb hby at_98) rfl k) ?_
      show OGo _ _ _ _ (T_0_196.setTop (mkF m 99 #[.val (.int va), .val (.long vb), .second, .val (.int vc), .val (.int vd), .val (.long ve), .second, .val (.int vf), .val (.int (1 : Int32)), .val (.int w_0_173), .val (.int (0 : Int32)), .val (.ref b_0_177), .unset, .unset, .unset] [(.int va), (.ref b_0_177)]))
      refine ogo (fun _ k => XS.lloadN X_0_196.here hx rfl (hb hby at_99) rfl k) ?_
      show OGo _ _ _ _ (T_0_196.setTop (mkF m 100 #[.val (.int va), .val (.long vb), .second, .val (.int vc), .val (.int vd), .val (.long ve), .second, .val (.int vf), .val (.int (1 : Int32)), .val (.int w_0_173), .val (.int (0 : Int32)), .val (.ref b_0_177), .unset, .unset, .unset] [(.long vb), (.int va), (.ref b_0_177)]))
      refine ogo (fun _ k => XS.iloadN X_0_196.here hx rfl (hb hby at_100) rfl k) ?_
      show OGo _ _ _ _ (T_0_196.setTop (mkF m 101 #[.val (.int va), .val (.long vb), .second, .val (.int vc), .val (.int vd), .val (.long ve), .second, .val (.int vf), .val (.int (1 : Int32)), .val (.int w_0_173), .val (.int (0 : Int32)), .val (.ref b_0_177), .unset, .unset, .unset] [(.int vc), (.long vb), (.int va), (.ref b_0_177)]))
      refine ogo (fun _ k => XS.iload X_0_196.here hx rfl (hb hby at_101) rfl k) ?_
      show OGo _ _ _ _ (T_0_196.setTop (mkF m 103 #[.val (.int va), .val (.long vb), .second, .val (.int vc), .val (.int vd), .val (.long ve), .second, .val (.int vf), .val (.int (1 : Int32)), .val (.int w_0_173), .val (.int (0 : Int32)), .val (.ref b_0_177), .unset, .unset, .unset] [(.int w_0_173), (.int vc), (.long vb), (.int va), (.ref b_0_177)]))
      obtain ⟨v_0_207, T_0_207, h_0_207, L_0_207, e_0_207, hQ_0_207, X_0_207, st_0_207⟩ := ovirtQ X_0_196 hx hZ e_0_196 (rm3 l Z a0 hw b_0_177 va vb vc w_0_173 (0 : Int32) (0 : Int64) (-1 : Int32) (0 : Int32) (1 : Int32) sa_0_185 na_0_185 h_0_196 n0 Z_0_196 f_0_206 f_0_197 f_0_198 f_0_199 f_0_200 f_0_201 f_0_202 f_0_203 g_b_0_177 (by rw [hw_0_173]; repeat' first | decide | apply oif01)) hown (hw _ (List.mem_of_getElem? (i := 17) rfl)) (hw _ (List.mem_of_getElem? (i := 18) rfl)) (hw _ (List.mem_of_getElem? (i := 20) rfl)) (hw _ (List.mem_of_getElem? (i := 19) rfl)) (hw _ (List.mem_of_getElem? (i := 2) rfl)) (hw _ (List.mem_of_getElem? (i := 21) rfl)) (by decide) f_0_206 (g := (mkF m 103 #[.val (.int va), .val (.long vb), .second, .val (.int vc), .val (.int vd), .val (.long ve), .second, .val (.int vf), .val (.int (1 : Int32)), .val (.int w_0_173), .val (.int (0 : Int32)), .val (.ref b_0_177), .unset, .unset, .unset] [(.int w_0_173), (.int vc), (.long vb), (.int va), (.ref b_0_177)])) rfl (by rw [hml]; rfl) [(.int va), (.long vb), (.int vc), (.int w_0_173)] [] rfl (lenOf pd__IJIZ_V rfl) rfl (hb hby at_103) 0 (by show 2 * 0 + _ ≤ _; exact Nat.le_of_eq rfl) (by decide) (by decide) (by decide) (by decide)
      obtain ⟨rfl, Nq_0_207, Kc_0_207, f_0_208, f_0_209, f_0_210, f_0_211, f_0_212, f_0_213, f_0_214⟩ := hQ_0_207
      have f_0_215 := f_0_206.keep Kc_0_207
      have f_0_216 := f_0_204.keep Kc_0_207 (ninS (Ne.symm ne_1_0_185) nin0)
      have f_0_217 := f_0_205.keep Kc_0_207 (ninS (Ne.symm ne_2_0_185) nin0)
      have Z_0_207 : n0 ≤ h_0_207.size := Nat.le_trans Z_0_196 Kc_0_207.1
      obtain ⟨lc_0_207, N_0_207, X_0_207⟩ : ∃ L, Fr n0 L ∧ Stand p l e room_1 s m #[(.int va), (.long vb), (.int vc), (.int vd), (.long ve), (.int vf)] below meth c T_0_207 L 3 11 := ⟨_, Fr.app N_0_196 Nq_0_207, X_0_207⟩
      refine ogo (fun _ k => st_0_207 _ k) ?_
      show OGo _ _ _ _ (T_0_207.setTop (mkF m 106 #[.val (.int va), .val (.long vb), .second, .val (.int vc), .val (.int vd), .val (.long ve), .second, .val (.int vf), .val (.int (1 : Int32)), .val (.int w_0_173), .val (.int (0 : Int32)), .val (.ref b_0_177), .unset, .unset, .unset] []))
      refine ogo (fun _ k => XS.aload X_0_207.here hx rfl (hb hby at_106) rfl rfl k) ?_
      show OGo _ _ _ _ (T_0_207.setTop (mkF m 108 #[.val (.int va), .val (.long vb), .second, .val (.int vc), .val (.int vd), .val (.long ve), .second, .val (.int vf), .val (.int (1 : Int32)), .val (.int w_0_173), .val (.int (0 : Int32)), .val (.ref b_0_177), .unset, .unset, .unset] [(.ref b_0_177)]))
      obtain ⟨T_0_218, X_0_218, e_0_218, st_0_218⟩ := ovirtP X_0_207 hx hZ e_0_207 (rm4 l Z a0 hw b_0_177 va h_0_207 f_0_208) hown (hw _ (List.mem_of_getElem? (i := 28) rfl)) (hw _ (List.mem_of_getElem? (i := 29) rfl)) (hw _ (List.mem_of_getElem? (i := 31) rfl)) (hw _ (List.mem_of_getElem? (i := 30) rfl)) (hw _ (List.mem_of_getElem? (i := 2) rfl)) (hw _ (List.mem_of_getElem? (i := 32) rfl)) (by decide) f_0_215 (g := (mkF m 108 #[.val (.int va), .val (.long vb), .second, .val (.int vc), .val (.int vd), .val (.long ve), .second, .val (.int vf), .val (.int (1 : Int32)), .val (.int w_0_173), .val (.int (0 : Int32)), .val (.ref b_0_177), .unset, .unset, .unset] [(.ref b_0_177)])) rfl (by rw [hml]; rfl) [] [] rfl (lenOf pd___I rfl) rfl (hb hby at_108) 0 (by show 2 * 0 + _ ≤ _; exact Nat.le_of_eq rfl) (by decide) (by decide) (by decide) (by decide) rfl rfl
      refine ogo (fun _ k => st_0_218 _ k) ?_
      show OGo _ _ _ _ (T_0_218.setTop (mkF m 111 #[.val (.int va), .val (.long vb), .second, .val (.int vc), .val (.int vd), .val (.long ve), .second, .val (.int vf), .val (.int (1 : Int32)), .val (.int w_0_173), .val (.int (0 : Int32)), .val (.ref b_0_177), .unset, .unset, .unset] [(.int (failuresF va))]))
      refine ogo (fun _ k => XS.iloadN X_0_218.here hx rfl (hb hby at_111) rfl k) ?_
      show OGo _ _ _ _ (T_0_218.setTop (mkF m 112 #[.val (.int va), .val (.long vb), .second, .val (.int vc), .val (.int vd), .val (.long ve), .second, .val (.int vf), .val (.int (1 : Int32)), .val (.int w_0_173), .val (.int (0 : Int32)), .val (.ref b_0_177), .unset, .unset, .unset] [(.int va), (.int (failuresF va))]))
      suffices J_0_236 : ∀ (w_0_235 : Int32) (hw_0_235 : w_0_235 = (if (failuresF va) = va then (if (secondF vb) = vb then (if (nanoF vc) = vc then (if (refusedF w_0_173) = w_0_173 then (1 : Int32) else (0 : Int32)) else (0 : Int32)) else (0 : Int32)) else (0 : Int32))) (T_0_237 : State) (X_0_237 : Stand p l e room_1 s m #[(.int va), (.long vb), (.int vc), (.int vd), (.long ve), (.int vf)] below meth c T_0_237 lc_0_207 3 11) (e_0_237 : T_0_237.heap = h_0_207), OGo p.tables e below (OFin s (fun v _ L => v = some (.int 1) ∧ Fr n0 L) 16 128) (T_0_237.setTop (mkF m 149 #[.val (.int va), .val (.long vb), .second, .val (.int vc), .val (.int vd), .val (.long ve), .second, .val (.int vf), .val (.int (1 : Int32)), .val (.int w_0_173), .val (.int (0 : Int32)), .val (.ref b_0_177), .unset, .unset, .unset] [(.int w_0_235)])) by
        by_cases hc_0_219 : (failuresF va) = va
        · refine ogo (fun _ k => XS.icmpNo X_0_218.here hx rfl (hb hby at_112) rfl (teq hc_0_219).2 k) ?_
          show OGo _ _ _ _ (T_0_218.setTop (mkF m 115 #[.val (.int va), .val (.long vb), .second, .val (.int vc), .val (.int vd), .val (.long ve), .second, .val (.int vf), .val (.int (1 : Int32)), .val (.int w_0_173), .val (.int (0 : Int32)), .val (.ref b_0_177), .unset, .unset, .unset] []))
          refine ogo (fun _ k => XS.aload X_0_218.here hx rfl (hb hby at_115) rfl rfl k) ?_
          show OGo _ _ _ _ (T_0_218.setTop (mkF m 117 #[.val (.int va), .val (.long vb), .second, .val (.int vc), .val (.int vd), .val (.long ve), .second, .val (.int vf), .val (.int (1 : Int32)), .val (.int w_0_173), .val (.int (0 : Int32)), .val (.ref b_0_177), .unset, .unset, .unset] [(.ref b_0_177)]))
          obtain ⟨T_0_220, X_0_220, e_0_220, st_0_220⟩ := ovirtP X_0_218 hx hZ e_0_218 (rm5 l Z a0 hw b_0_177 vb h_0_207 f_0_209) hown (hw _ (List.mem_of_getElem? (i := 33) rfl)) (hw _ (List.mem_of_getElem? (i := 34) rfl)) (hw _ (List.mem_of_getElem? (i := 36) rfl)) (hw _ (List.mem_of_getElem? (i := 35) rfl)) (hw _ (List.mem_of_getElem? (i := 2) rfl)) (hw _ (List.mem_of_getElem? (i := 37) rfl)) (by decide) f_0_215 (g := (mkF m 117 #[.val (.int va), .val (.long vb), .second, .val (.int vc), .val (.int vd), .val (.long ve), .second, .val (.int vf), .val (.int (1 : Int32)), .val (.int w_0_173), .val (.int (0 : Int32)), .val (.ref b_0_177), .unset, .unset, .unset] [(.ref b_0_177)])) rfl (by rw [hml]; rfl) [] [] rfl (lenOf pd___J rfl) rfl (hb hby at_117) 0 (by show 2 * 0 + _ ≤ _; exact Nat.le_of_eq rfl) (by decide) (by decide) (by decide) (by decide) rfl rfl
          refine ogo (fun _ k => st_0_220 _ k) ?_
          show OGo _ _ _ _ (T_0_220.setTop (mkF m 120 #[.val (.int va), .val (.long vb), .second, .val (.int vc), .val (.int vd), .val (.long ve), .second, .val (.int vf), .val (.int (1 : Int32)), .val (.int w_0_173), .val (.int (0 : Int32)), .val (.ref b_0_177), .unset, .unset, .unset] [(.long (secondF vb))]))
          refine ogo (fun _ k => XS.lloadN X_0_220.here hx rfl (hb hby at_120) rfl k) ?_
          show OGo _ _ _ _ (T_0_220.setTop (mkF m 121 #[.val (.int va), .val (.long vb), .second, .val (.int vc), .val (.int vd), .val (.long ve), .second, .val (.int vf), .val (.int (1 : Int32)), .val (.int w_0_173), .val (.int (0 : Int32)), .val (.ref b_0_177), .unset, .unset, .unset] [(.long vb), (.long (secondF vb))]))
          refine ogo (fun _ k => XS.lcmp X_0_220.here hx rfl (hb hby at_121) rfl k) ?_
          show OGo _ _ _ _ (T_0_220.setTop (mkF m 122 #[.val (.int va), .val (.long vb), .second, .val (.int vc), .val (.int vd), .val (.long ve), .second, .val (.int vf), .val (.int (1 : Int32)), .val (.int w_0_173), .val (.int (0 : Int32)), .val (.ref b_0_177), .unset, .unset, .unset] [(.int (lcmpW (secondF vb) vb))]))
          suffices J_0_233 : ∀ (w_0_232 : Int32) (hw_0_232 : w_0_232 = (if (secondF vb) = vb then (if (nanoF vc) = vc then (if (refusedF w_0_173) = w_0_173 then (1 : Int32) else (0 : Int32)) else (0 : Int32)) else (0 : Int32))) (T_0_234 : State) (X_0_234 : Stand p l e room_1 s m #[(.int va), (.long vb), (.int vc), (.int vd), (.long ve), (.int vf)] below meth c T_0_234 lc_0_207 3 11) (e_0_234 : T_0_234.heap = h_0_207), OGo p.tables e below (OFin s (fun v _ L => v = some (.int 1) ∧ Fr n0 L) 16 128) (T_0_234.setTop (mkF m 149 #[.val (.int va), .val (.long vb), .second, .val (.int vc), .val (.int vd), .val (.long ve), .second, .val (.int vf), .val (.int (1 : Int32)), .val (.int w_0_173), .val (.int (0 : Int32)), .val (.ref b_0_177), .unset, .unset, .unset] [(.int w_0_232)])) by
            by_cases hc_0_221 : (secondF vb) = vb
            · refine ogo (fun _ k => XS.ifNo X_0_220.here hx rfl (hb hby at_122) rfl ((if0 _ _).trans (teq ((lw_eq _ _).mpr hc_0_221)).2) k) ?_
              show OGo _ _ _ _ (T_0_220.setTop (mkF m 125 #[.val (.int va), .val (.long vb), .second, .val (.int vc), .val (.int vd), .val (.long ve), .second, .val (.int vf), .val (.int (1 : Int32)), .val (.int w_0_173), .val (.int (0 : Int32)), .val (.ref b_0_177), .unset, .unset, .unset] []))
              refine ogo (fun _ k => XS.aload X_0_220.here hx rfl (hb hby at_125) rfl rfl k) ?_
              show OGo _ _ _ _ (T_0_220.setTop (mkF m 127 #[.val (.int va), .val (.long vb), .second, .val (.int vc), .val (.int vd), .val (.long ve), .second, .val (.int vf), .val (.int (1 : Int32)), .val (.int w_0_173), .val (.int (0 : Int32)), .val (.ref b_0_177), .unset, .unset, .unset] [(.ref b_0_177)]))
              obtain ⟨T_0_222, X_0_222, e_0_222, st_0_222⟩ := ovirtP X_0_220 hx hZ e_0_220 (rm6 l Z a0 hw b_0_177 vc h_0_207 f_0_210) hown (hw _ (List.mem_of_getElem? (i := 38) rfl)) (hw _ (List.mem_of_getElem? (i := 39) rfl)) (hw _ (List.mem_of_getElem? (i := 41) rfl)) (hw _ (List.mem_of_getElem? (i := 40) rfl)) (hw _ (List.mem_of_getElem? (i := 2) rfl)) (hw _ (List.mem_of_getElem? (i := 42) rfl)) (by decide) f_0_215 (g := (mkF m 127 #[.val (.int va), .val (.long vb), .second, .val (.int vc), .val (.int vd), .val (.long ve), .second, .val (.int vf), .val (.int (1 : Int32)), .val (.int w_0_173), .val (.int (0 : Int32)), .val (.ref b_0_177), .unset, .unset, .unset] [(.ref b_0_177)])) rfl (by rw [hml]; rfl) [] [] rfl (lenOf pd___I rfl) rfl (hb hby at_127) 0 (by show 2 * 0 + _ ≤ _; exact Nat.le_of_eq rfl) (by decide) (by decide) (by decide) (by decide) rfl rfl
              refine ogo (fun _ k => st_0_222 _ k) ?_
              show OGo _ _ _ _ (T_0_222.setTop (mkF m 130 #[.val (.int va), .val (.long vb), .second, .val (.int vc), .val (.int vd), .val (.long ve), .second, .val (.int vf), .val (.int (1 : Int32)), .val (.int w_0_173), .val (.int (0 : Int32)), .val (.ref b_0_177), .unset, .unset, .unset] [(.int (nanoF vc))]))
              refine ogo (fun _ k => XS.iloadN X_0_222.here hx rfl (hb hby at_130) rfl k) ?_
              show OGo _ _ _ _ (T_0_222.setTop (mkF m 131 #[.val (.int va), .val (.long vb), .second, .val (.int vc), .val (.int vd), .val (.long ve), .second, .val (.int vf), .val (.int (1 : Int32)), .val (.int w_0_173), .val (.int (0 : Int32)), .val (.ref b_0_177), .unset, .unset, .unset] [(.int vc), (.int (nanoF vc))]))
              suffices J_0_230 : ∀ (w_0_229 : Int32) (hw_0_229 : w_0_229 = (if (nanoF vc) = vc then (if (refusedF w_0_173) = w_0_173 then (1 : Int32) else (0 : Int32)) else (0 : Int32))) (T_0_231 : State) (X_0_231 : Stand p l e room_1 s m #[(.int va), (.long vb), (.int vc), (.int vd), (.long ve), (.int vf)] below meth c T_0_231 lc_0_207 3 11) (e_0_231 : T_0_231.heap = h_0_207), OGo p.tables e below (OFin s (fun v _ L => v = some (.int 1) ∧ Fr n0 L) 16 128) (T_0_231.setTop (mkF m 149 #[.val (.int va), .val (.long vb), .second, .val (.int vc), .val (.int vd), .val (.long ve), .second, .val (.int vf), .val (.int (1 : Int32)), .val (.int w_0_173), .val (.int (0 : Int32)), .val (.ref b_0_177), .unset, .unset, .unset] [(.int w_0_229)])) by
                by_cases hc_0_223 : (nanoF vc) = vc
                · refine ogo (fun _ k => XS.icmpNo X_0_222.here hx rfl (hb hby at_131) rfl (teq hc_0_223).2 k) ?_
                  show OGo _ _ _ _ (T_0_222.setTop (mkF m 134 #[.val (.int va), .val (.long vb), .second, .val (.int vc), .val (.int vd), .val (.long ve), .second, .val (.int vf), .val (.int (1 : Int32)), .val (.int w_0_173), .val (.int (0 : Int32)), .val (.ref b_0_177), .unset, .unset, .unset] []))
                  refine ogo (fun _ k => XS.aload X_0_222.here hx rfl (hb hby at_134) rfl rfl k) ?_
                  show OGo _ _ _ _ (T_0_222.setTop (mkF m 136 #[.val (.int va), .val (.long vb), .second, .val (.int vc), .val (.int vd), .val (.long ve), .second, .val (.int vf), .val (.int (1 : Int32)), .val (.int w_0_173), .val (.int (0 : Int32)), .val (.ref b_0_177), .unset, .unset, .unset] [(.ref b_0_177)]))
                  obtain ⟨T_0_224, X_0_224, e_0_224, st_0_224⟩ := ovirtP X_0_222 hx hZ e_0_222 (rm7 l Z a0 hw b_0_177 w_0_173 h_0_207 f_0_211 (by rw [hw_0_173]; repeat' first | decide | apply oif01)) hown (hw _ (List.mem_of_getElem? (i := 43) rfl)) (hw _ (List.mem_of_getElem? (i := 44) rfl)) (hw _ (List.mem_of_getElem? (i := 46) rfl)) (hw _ (List.mem_of_getElem? (i := 45) rfl)) (hw _ (List.mem_of_getElem? (i := 2) rfl)) (hw _ (List.mem_of_getElem? (i := 47) rfl)) (by decide) f_0_215 (g := (mkF m 136 #[.val (.int va), .val (.long vb), .second, .val (.int vc), .val (.int vd), .val (.long ve), .second, .val (.int vf), .val (.int (1 : Int32)), .val (.int w_0_173), .val (.int (0 : Int32)), .val (.ref b_0_177), .unset, .unset, .unset] [(.ref b_0_177)])) rfl (by rw [hml]; rfl) [] [] rfl (lenOf pd___Z rfl) rfl (hb hby at_136) 0 (by show 2 * 0 + _ ≤ _; exact Nat.le_of_eq rfl) (by decide) (by decide) (by decide) (by decide) rfl rfl
                  refine ogo (fun _ k => st_0_224 _ k) ?_
                  show OGo _ _ _ _ (T_0_224.setTop (mkF m 139 #[.val (.int va), .val (.long vb), .second, .val (.int vc), .val (.int vd), .val (.long ve), .second, .val (.int vf), .val (.int (1 : Int32)), .val (.int w_0_173), .val (.int (0 : Int32)), .val (.ref b_0_177), .unset, .unset, .unset] [(.int (refusedF w_0_173))]))
                  refine ogo (fun _ k => XS.iload X_0_224.here hx rfl (hb hby at_139) rfl k) ?_
                  show OGo _ _ _ _ (T_0_224.setTop (mkF m 141 #[.val (.int va), .val (.long vb), .second, .val (.int vc), .val (.int vd), .val (.long ve), .second, .val (.int vf), .val (.int (1 : Int32)), .val (.int w_0_173), .val (.int (0 : Int32)), .val (.ref b_0_177), .unset, .unset, .unset] [(.int w_0_173), (.int (refusedF w_0_173))]))
                  suffices J_0_227 : ∀ (w_0_226 : Int32) (hw_0_226 : w_0_226 = (if (refusedF w_0_173) = w_0_173 then (1 : Int32) else (0 : Int32))), OGo p.tables e below (OFin s (fun v _ L => v = some (.int 1) ∧ Fr n0 L) 16 128) (T_0_224.setTop (mkF m 149 #[.val (.int va), .val (.long vb), .second, .val (.int vc), .val (.int vd), .val (.long ve), .second, .val (.int vf), .val (.int (1 : Int32)), .val (.int w_0_173), .val (.int (0 : Int32)), .val (.ref b_0_177), .unset, .unset, .unset] [(.int w_0_226)])) by
                    by_cases hc_0_225 : (refusedF w_0_173) = w_0_173
                    · refine ogo (fun _ k => XS.icmpNo X_0_224.here hx rfl (hb hby at_141) rfl (teq hc_0_225).2 k) ?_
                      show OGo _ _ _ _ (T_0_224.setTop (mkF m 144 #[.val (.int va), .val (.long vb), .second, .val (.int vc), .val (.int vd), .val (.long ve), .second, .val (.int vf), .val (.int (1 : Int32)), .val (.int w_0_173), .val (.int (0 : Int32)), .val (.ref b_0_177), .unset, .unset, .unset] []))
                      refine ogo (fun _ k => XS.iconst X_0_224.here hx rfl (hb hby at_144) k) ?_
                      show OGo _ _ _ _ (T_0_224.setTop (mkF m 145 #[.val (.int va), .val (.long vb), .second, .val (.int vc), .val (.int vd), .val (.long ve), .second, .val (.int vf), .val (.int (1 : Int32)), .val (.int w_0_173), .val (.int (0 : Int32)), .val (.ref b_0_177), .unset, .unset, .unset] [(.int (1 : Int32))]))
                      refine ogo (fun _ k => XS.goto X_0_224.here hx rfl (pc0 := 145) (pc' := 149) rfl (hb hby at_145) (by decide) (by decide) k) ?_
                      show OGo _ _ _ _ (T_0_224.setTop (mkF m 149 #[.val (.int va), .val (.long vb), .second, .val (.int vc), .val (.int vd), .val (.long ve), .second, .val (.int vf), .val (.int (1 : Int32)), .val (.int w_0_173), .val (.int (0 : Int32)), .val (.ref b_0_177), .unset, .unset, .unset] [(.int (1 : Int32))]))
                      exact J_0_227 _ (if_pos hc_0_225).symm
                    · refine ogo (fun _ k => XS.icmpYes X_0_224.here hx rfl (pc0 := 141) (pc' := 148) rfl (hb hby at_141) rfl (feq hc_0_225).2 (by decide) (by decide) k) ?_
                      show OGo _ _ _ _ (T_0_224.setTop (mkF m 148 #[.val (.int va), .val (.long vb), .second, .val (.int vc), .val (.int vd), .val (.long ve), .second, .val (.int vf), .val (.int (1 : Int32)), .val (.int w_0_173), .val (.int (0 : Int32)), .val (.ref b_0_177), .unset, .unset, .unset] []))
                      refine ogo (fun _ k => XS.iconst X_0_224.here hx rfl (hb hby at_148) k) ?_
                      show OGo _ _ _ _ (T_0_224.setTop (mkF m 149 #[.val (.int va), .val (.long vb), .second, .val (.int vc), .val (.int vd), .val (.long ve), .second, .val (.int vf), .val (.int (1 : Int32)), .val (.int w_0_173), .val (.int (0 : Int32)), .val (.ref b_0_177), .unset, .unset, .unset] [(.int (0 : Int32))]))
                      exact J_0_227 _ (if_neg hc_0_225).symm
                  intro w_0_226 hw_0_226
                  subst hw_0_226
                  exact J_0_230 _ (if_pos hc_0_223).symm _ X_0_224 e_0_224
                · refine ogo (fun _ k => XS.icmpYes X_0_222.here hx rfl (pc0 := 131) (pc' := 148) rfl (hb hby at_131) rfl (feq hc_0_223).2 (by decide) (by decide) k) ?_
                  show OGo _ _ _ _ (T_0_222.setTop (mkF m 148 #[.val (.int va), .val (.long vb), .second, .val (.int vc), .val (.int vd), .val (.long ve), .second, .val (.int vf), .val (.int (1 : Int32)), .val (.int w_0_173), .val (.int (0 : Int32)), .val (.ref b_0_177), .unset, .unset, .unset] []))
                  refine ogo (fun _ k => XS.iconst X_0_222.here hx rfl (hb hby at_148) k) ?_
                  show OGo _ _ _ _ (T_0_222.setTop (mkF m 149 #[.val (.int va), .val (.long vb), .second, .val (.int vc), .val (.int vd), .val (.long ve), .second, .val (.int vf), .val (.int (1 : Int32)), .val (.int w_0_173), .val (.int (0 : Int32)), .val (.ref b_0_177), .unset, .unset, .unset] [(.int (0 : Int32))]))
                  exact J_0_230 _ (if_neg hc_0_223).symm _ X_0_222 e_0_222
              intro w_0_229 hw_0_229 T_0_231 X_0_231 e_0_231
              subst hw_0_229
              exact J_0_233 _ (if_pos hc_0_221).symm _ X_0_231 e_0_231
            · refine ogo (fun _ k => XS.ifYes X_0_220.here hx rfl (pc0 := 122) (pc' := 148) rfl (hb hby at_122) rfl ((if0 _ _).trans (feq (fun q => hc_0_221 ((lw_eq _ _).mp q))).2) (by decide) (by decide) k) ?_
              show OGo _ _ _ _ (T_0_220.setTop (mkF m 148 #[.val (.int va), .val (.long vb), .second, .val (.int vc), .val (.int vd), .val (.long ve), .second, .val (.int vf), .val (.int (1 : Int32)), .val (.int w_0_173), .val (.int (0 : Int32)), .val (.ref b_0_177), .unset, .unset, .unset] []))
              refine ogo (fun _ k => XS.iconst X_0_220.here hx rfl (hb hby at_148) k) ?_
              show OGo _ _ _ _ (T_0_220.setTop (mkF m 149 #[.val (.int va), .val (.long vb), .second, .val (.int vc), .val (.int vd), .val (.long ve), .second, .val (.int vf), .val (.int (1 : Int32)), .val (.int w_0_173), .val (.int (0 : Int32)), .val (.ref b_0_177), .unset, .unset, .unset] [(.int (0 : Int32))]))
              exact J_0_233 _ (if_neg hc_0_221).symm _ X_0_220 e_0_220
          intro w_0_232 hw_0_232 T_0_234 X_0_234 e_0_234
          subst hw_0_232
          exact J_0_236 _ (if_pos hc_0_219).symm _ X_0_234 e_0_234
        · refine ogo (fun _ k => XS.icmpYes X_0_218.here hx rfl (pc0 := 112) (pc' := 148) rfl (hb hby at_112) rfl (feq hc_0_219).2 (by decide) (by decide) k) ?_
          show OGo _ _ _ _ (T_0_218.setTop (mkF m 148 #[.val (.int va), .val (.long vb), .second, .val (.int vc), .val (.int vd), .val (.long ve), .second, .val (.int vf), .val (.int (1 : Int32)), .val (.int w_0_173), .val (.int (0 : Int32)), .val (.ref b_0_177), .unset, .unset, .unset] []))
          refine ogo (fun _ k => XS.iconst X_0_218.here hx rfl (hb hby at_148) k) ?_
          show OGo _ _ _ _ (T_0_218.setTop (mkF m 149 #[.val (.int va), .val (.long vb), .second, .val (.int vc), .val (.int vd), .val (.long ve), .second, .val (.int vf), .val (.int (1 : Int32)), .val (.int w_0_173), .val (.int (0 : Int32)), .val (.ref b_0_177), .unset, .unset, .unset] [(.int (0 : Int32))]))
          exact J_0_236 _ (if_neg hc_0_219).symm _ X_0_218 e_0_218
      intro w_0_235 hw_0_235 T_0_237 X_0_237 e_0_237
      refine ogo (fun _ k => XS.istore X_0_237.here hx rfl (hb hby at_149) rfl (l' := #[.val (.int va), .val (.long vb), .second, .val (.int vc), .val (.int vd), .val (.long ve), .second, .val (.int vf), .val (.int (1 : Int32)), .val (.int w_0_173), .val (.int (0 : Int32)), .val (.ref b_0_177), .val (.int w_0_235), .unset, .unset]) rfl k) ?_
      show OGo _ _ _ _ (T_0_237.setTop (mkF m 151 #[.val (.int va), .val (.long vb), .second, .val (.int vc), .val (.int vd), .val (.long ve), .second, .val (.int vf), .val (.int (1 : Int32)), .val (.int w_0_173), .val (.int (0 : Int32)), .val (.ref b_0_177), .val (.int w_0_235), .unset, .unset] []))
      refine ogo (fun _ k => XS.iload X_0_237.here hx rfl (hb hby at_151) rfl k) ?_
      show OGo _ _ _ _ (T_0_237.setTop (mkF m 153 #[.val (.int va), .val (.long vb), .second, .val (.int vc), .val (.int vd), .val (.long ve), .second, .val (.int vf), .val (.int (1 : Int32)), .val (.int w_0_173), .val (.int (0 : Int32)), .val (.ref b_0_177), .val (.int w_0_235), .unset, .unset] [(.int (1 : Int32))]))
      refine ogo (fun _ k => XS.ifNo X_0_237.here hx rfl (hb hby at_153) rfl ((if0 _ _).trans (feq (by decide : ¬ ((1 : Int32) = (0 : Int32)))).1) k) ?_
      show OGo _ _ _ _ (T_0_237.setTop (mkF m 156 #[.val (.int va), .val (.long vb), .second, .val (.int vc), .val (.int vd), .val (.long ve), .second, .val (.int vf), .val (.int (1 : Int32)), .val (.int w_0_173), .val (.int (0 : Int32)), .val (.ref b_0_177), .val (.int w_0_235), .unset, .unset] []))
      refine ogo (fun _ k => XS.iconst X_0_237.here hx rfl (hb hby at_156) k) ?_
      show OGo _ _ _ _ (T_0_237.setTop (mkF m 157 #[.val (.int va), .val (.long vb), .second, .val (.int vc), .val (.int vd), .val (.long ve), .second, .val (.int vf), .val (.int (1 : Int32)), .val (.int w_0_173), .val (.int (0 : Int32)), .val (.ref b_0_177), .val (.int w_0_235), .unset, .unset] [(.int (1 : Int32))]))
      refine ogo (fun _ k => XS.goto X_0_237.here hx rfl (pc0 := 157) (pc' := 161) rfl (hb hby at_157) (by decide) (by decide) k) ?_
      show OGo _ _ _ _ (T_0_237.setTop (mkF m 161 #[.val (.int va), .val (.long vb), .second, .val (.int vc), .val (.int vd), .val (.long ve), .second, .val (.int vf), .val (.int (1 : Int32)), .val (.int w_0_173), .val (.int (0 : Int32)), .val (.ref b_0_177), .val (.int w_0_235), .unset, .unset] [(.int (1 : Int32))]))
      refine ogo (fun _ k => XS.istore X_0_237.here hx rfl (hb hby at_161) rfl (l' := #[.val (.int va), .val (.long vb), .second, .val (.int vc), .val (.int vd), .val (.long ve), .second, .val (.int vf), .val (.int (1 : Int32)), .val (.int w_0_173), .val (.int (0 : Int32)), .val (.ref b_0_177), .val (.int w_0_235), .val (.int (1 : Int32)), .unset]) rfl k) ?_
      show OGo _ _ _ _ (T_0_237.setTop (mkF m 163 #[.val (.int va), .val (.long vb), .second, .val (.int vc), .val (.int vd), .val (.long ve), .second, .val (.int vf), .val (.int (1 : Int32)), .val (.int w_0_173), .val (.int (0 : Int32)), .val (.ref b_0_177), .val (.int w_0_235), .val (.int (1 : Int32)), .unset] []))
      refine ogo (fun _ k => XS.iload X_0_237.here hx rfl (hb hby at_163) rfl k) ?_
      show OGo _ _ _ _ (T_0_237.setTop (mkF m 165 #[.val (.int va), .val (.long vb), .second, .val (.int vc), .val (.int vd), .val (.long ve), .second, .val (.int vf), .val (.int (1 : Int32)), .val (.int w_0_173), .val (.int (0 : Int32)), .val (.ref b_0_177), .val (.int w_0_235), .val (.int (1 : Int32)), .unset] [(.int w_0_235)]))
      suffices J_0_245 : ∀ (w_0_244 : Int32) (hw_0_244 : w_0_244 = (if w_0_235 = (0 : Int32) then (0 : Int32) else (if (placesF (1 : Int32)) = (1 : Int32) then (1 : Int32) else (0 : Int32)))) (T_0_246 : State) (X_0_246 : Stand p l e room_1 s m #[(.int va), (.long vb), (.int vc), (.int vd), (.long ve), (.int vf)] below meth c T_0_246 lc_0_207 3 11) (e_0_246 : T_0_246.heap = h_0_207), OGo p.tables e below (OFin s (fun v _ L => v = some (.int 1) ∧ Fr n0 L) 16 128) (T_0_246.setTop (mkF m 183 #[.val (.int va), .val (.long vb), .second, .val (.int vc), .val (.int vd), .val (.long ve), .second, .val (.int vf), .val (.int (1 : Int32)), .val (.int w_0_173), .val (.int (0 : Int32)), .val (.ref b_0_177), .val (.int w_0_235), .val (.int (1 : Int32)), .unset] [(.int w_0_244)])) by
        by_cases hc_0_238 : w_0_235 = (0 : Int32)
        · refine ogo (fun _ k => XS.ifYes X_0_237.here hx rfl (pc0 := 165) (pc' := 182) rfl (hb hby at_165) rfl ((if0 _ _).trans (teq hc_0_238).1) (by decide) (by decide) k) ?_
          show OGo _ _ _ _ (T_0_237.setTop (mkF m 182 #[.val (.int va), .val (.long vb), .second, .val (.int vc), .val (.int vd), .val (.long ve), .second, .val (.int vf), .val (.int (1 : Int32)), .val (.int w_0_173), .val (.int (0 : Int32)), .val (.ref b_0_177), .val (.int w_0_235), .val (.int (1 : Int32)), .unset] []))
          refine ogo (fun _ k => XS.iconst X_0_237.here hx rfl (hb hby at_182) k) ?_
          show OGo _ _ _ _ (T_0_237.setTop (mkF m 183 #[.val (.int va), .val (.long vb), .second, .val (.int vc), .val (.int vd), .val (.long ve), .second, .val (.int vf), .val (.int (1 : Int32)), .val (.int w_0_173), .val (.int (0 : Int32)), .val (.ref b_0_177), .val (.int w_0_235), .val (.int (1 : Int32)), .unset] [(.int (0 : Int32))]))
          exact J_0_245 _ (if_pos hc_0_238).symm _ X_0_237 e_0_237
        · refine ogo (fun _ k => XS.ifNo X_0_237.here hx rfl (hb hby at_165) rfl ((if0 _ _).trans (feq hc_0_238).1) k) ?_
          show OGo _ _ _ _ (T_0_237.setTop (mkF m 168 #[.val (.int va), .val (.long vb), .second, .val (.int vc), .val (.int vd), .val (.long ve), .second, .val (.int vf), .val (.int (1 : Int32)), .val (.int w_0_173), .val (.int (0 : Int32)), .val (.ref b_0_177), .val (.int w_0_235), .val (.int (1 : Int32)), .unset] []))
          refine ogo (fun _ k => XS.aload X_0_237.here hx rfl (hb hby at_168) rfl rfl k) ?_
          show OGo _ _ _ _ (T_0_237.setTop (mkF m 170 #[.val (.int va), .val (.long vb), .second, .val (.int vc), .val (.int vd), .val (.long ve), .second, .val (.int vf), .val (.int (1 : Int32)), .val (.int w_0_173), .val (.int (0 : Int32)), .val (.ref b_0_177), .val (.int w_0_235), .val (.int (1 : Int32)), .unset] [(.ref b_0_177)]))
          obtain ⟨T_0_239, X_0_239, e_0_239, st_0_239⟩ := ovirtP X_0_237 hx hZ e_0_237 (rm8 l Z a0 hw b_0_177 ((1 : Int32)) h_0_207 f_0_212) hown (hw _ (List.mem_of_getElem? (i := 48) rfl)) (hw _ (List.mem_of_getElem? (i := 49) rfl)) (hw _ (List.mem_of_getElem? (i := 51) rfl)) (hw _ (List.mem_of_getElem? (i := 50) rfl)) (hw _ (List.mem_of_getElem? (i := 2) rfl)) (hw _ (List.mem_of_getElem? (i := 52) rfl)) (by decide) f_0_215 (g := (mkF m 170 #[.val (.int va), .val (.long vb), .second, .val (.int vc), .val (.int vd), .val (.long ve), .second, .val (.int vf), .val (.int (1 : Int32)), .val (.int w_0_173), .val (.int (0 : Int32)), .val (.ref b_0_177), .val (.int w_0_235), .val (.int (1 : Int32)), .unset] [(.ref b_0_177)])) rfl (by rw [hml]; rfl) [] [] rfl (lenOf pd___I rfl) rfl (hb hby at_170) 0 (by show 2 * 0 + _ ≤ _; exact Nat.le_of_eq rfl) (by decide) (by decide) (by decide) (by decide) rfl rfl
          refine ogo (fun _ k => st_0_239 _ k) ?_
          show OGo _ _ _ _ (T_0_239.setTop (mkF m 173 #[.val (.int va), .val (.long vb), .second, .val (.int vc), .val (.int vd), .val (.long ve), .second, .val (.int vf), .val (.int (1 : Int32)), .val (.int w_0_173), .val (.int (0 : Int32)), .val (.ref b_0_177), .val (.int w_0_235), .val (.int (1 : Int32)), .unset] [(.int (placesF (1 : Int32)))]))
          refine ogo (fun _ k => XS.iload X_0_239.here hx rfl (hb hby at_173) rfl k) ?_
          show OGo _ _ _ _ (T_0_239.setTop (mkF m 175 #[.val (.int va), .val (.long vb), .second, .val (.int vc), .val (.int vd), .val (.long ve), .second, .val (.int vf), .val (.int (1 : Int32)), .val (.int w_0_173), .val (.int (0 : Int32)), .val (.ref b_0_177), .val (.int w_0_235), .val (.int (1 : Int32)), .unset] [(.int (1 : Int32)), (.int (placesF (1 : Int32)))]))
          suffices J_0_242 : ∀ (w_0_241 : Int32) (hw_0_241 : w_0_241 = (if (placesF (1 : Int32)) = (1 : Int32) then (1 : Int32) else (0 : Int32))), OGo p.tables e below (OFin s (fun v _ L => v = some (.int 1) ∧ Fr n0 L) 16 128) (T_0_239.setTop (mkF m 183 #[.val (.int va), .val (.long vb), .second, .val (.int vc), .val (.int vd), .val (.long ve), .second, .val (.int vf), .val (.int (1 : Int32)), .val (.int w_0_173), .val (.int (0 : Int32)), .val (.ref b_0_177), .val (.int w_0_235), .val (.int (1 : Int32)), .unset] [(.int w_0_241)])) by
            by_cases hc_0_240 : (placesF (1 : Int32)) = (1 : Int32)
            · refine ogo (fun _ k => XS.icmpNo X_0_239.here hx rfl (hb hby at_175) rfl (teq hc_0_240).2 k) ?_
              show OGo _ _ _ _ (T_0_239.setTop (mkF m 178 #[.val (.int va), .val (.long vb), .second, .val (.int vc), .val (.int vd), .val (.long ve), .second, .val (.int vf), .val (.int (1 : Int32)), .val (.int w_0_173), .val (.int (0 : Int32)), .val (.ref b_0_177), .val (.int w_0_235), .val (.int (1 : Int32)), .unset] []))
              refine ogo (fun _ k => XS.iconst X_0_239.here hx rfl (hb hby at_178) k) ?_
              show OGo _ _ _ _ (T_0_239.setTop (mkF m 179 #[.val (.int va), .val (.long vb), .second, .val (.int vc), .val (.int vd), .val (.long ve), .second, .val (.int vf), .val (.int (1 : Int32)), .val (.int w_0_173), .val (.int (0 : Int32)), .val (.ref b_0_177), .val (.int w_0_235), .val (.int (1 : Int32)), .unset] [(.int (1 : Int32))]))
              refine ogo (fun _ k => XS.goto X_0_239.here hx rfl (pc0 := 179) (pc' := 183) rfl (hb hby at_179) (by decide) (by decide) k) ?_
              show OGo _ _ _ _ (T_0_239.setTop (mkF m 183 #[.val (.int va), .val (.long vb), .second, .val (.int vc), .val (.int vd), .val (.long ve), .second, .val (.int vf), .val (.int (1 : Int32)), .val (.int w_0_173), .val (.int (0 : Int32)), .val (.ref b_0_177), .val (.int w_0_235), .val (.int (1 : Int32)), .unset] [(.int (1 : Int32))]))
              exact J_0_242 _ (if_pos hc_0_240).symm
            · refine ogo (fun _ k => XS.icmpYes X_0_239.here hx rfl (pc0 := 175) (pc' := 182) rfl (hb hby at_175) rfl (feq hc_0_240).2 (by decide) (by decide) k) ?_
              show OGo _ _ _ _ (T_0_239.setTop (mkF m 182 #[.val (.int va), .val (.long vb), .second, .val (.int vc), .val (.int vd), .val (.long ve), .second, .val (.int vf), .val (.int (1 : Int32)), .val (.int w_0_173), .val (.int (0 : Int32)), .val (.ref b_0_177), .val (.int w_0_235), .val (.int (1 : Int32)), .unset] []))
              refine ogo (fun _ k => XS.iconst X_0_239.here hx rfl (hb hby at_182) k) ?_
              show OGo _ _ _ _ (T_0_239.setTop (mkF m 183 #[.val (.int va), .val (.long vb), .second, .val (.int vc), .val (.int vd), .val (.long ve), .second, .val (.int vf), .val (.int (1 : Int32)), .val (.int w_0_173), .val (.int (0 : Int32)), .val (.ref b_0_177), .val (.int w_0_235), .val (.int (1 : Int32)), .unset] [(.int (0 : Int32))]))
              exact J_0_242 _ (if_neg hc_0_240).symm
          intro w_0_241 hw_0_241
          subst hw_0_241
          exact J_0_245 _ (if_neg hc_0_238).symm _ X_0_239 e_0_239
      intro w_0_244 hw_0_244 T_0_246 X_0_246 e_0_246
      refine ogo (fun _ k => XS.istore X_0_246.here hx rfl (hb hby at_183) rfl (l' := #[.val (.int va), .val (.long vb), .second, .val (.int vc), .val (.int vd), .val (.long ve), .second, .val (.int vf), .val (.int (1 : Int32)), .val (.int w_0_173), .val (.int (0 : Int32)), .val (.ref b_0_177), .val (.int w_0_244), .val (.int (1 : Int32)), .unset]) rfl k) ?_
      show OGo _ _ _ _ (T_0_246.setTop (mkF m 185 #[.val (.int va), .val (.long vb), .second, .val (.int vc), .val (.int vd), .val (.long ve), .second, .val (.int vf), .val (.int (1 : Int32)), .val (.int w_0_173), .val (.int (0 : Int32)), .val (.ref b_0_177), .val (.int w_0_244), .val (.int (1 : Int32)), .unset] []))
      refine ogo (fun _ k => XS.iload X_0_246.here hx rfl (hb hby at_185) rfl k) ?_
      show OGo _ _ _ _ (T_0_246.setTop (mkF m 187 #[.val (.int va), .val (.long vb), .second, .val (.int vc), .val (.int vd), .val (.long ve), .second, .val (.int vf), .val (.int (1 : Int32)), .val (.int w_0_173), .val (.int (0 : Int32)), .val (.ref b_0_177), .val (.int w_0_244), .val (.int (1 : Int32)), .unset] [(.int w_0_244)]))
      suffices J_0_259 : ∀ (w_0_258 : Int32) (hw_0_258 : w_0_258 = (if w_0_244 = (0 : Int32) then w_0_244 else (if (plSecF (0 : Int32) (1 : Int32) (fun i : Nat => if i = ((0 : Int32)).toNatClampNeg then ve else (fun _ : Nat => (0 : Int64)) i)) = ve then (if (plNanF (0 : Int32) (1 : Int32) (fun i : Nat => if i = ((0 : Int32)).toNatClampNeg then vf else (fun _ : Nat => (0 : Int32)) i)) = vf then (1 : Int32) else (0 : Int32)) else (0 : Int32)))) (T_0_260 : State) (X_0_260 : Stand p l e room_1 s m #[(.int va), (.long vb), (.int vc), (.int vd), (.long ve), (.int vf)] below meth c T_0_260 lc_0_207 3 11) (e_0_260 : T_0_260.heap = h_0_207), OGo p.tables e below (OFin s (fun v _ L => v = some (.int 1) ∧ Fr n0 L) 16 128) (T_0_260.setTop (mkF m 225 #[.val (.int va), .val (.long vb), .second, .val (.int vc), .val (.int vd), .val (.long ve), .second, .val (.int vf), .val (.int (1 : Int32)), .val (.int w_0_173), .val (.int (0 : Int32)), .val (.ref b_0_177), .val (.int w_0_258), .val (.int (1 : Int32)), .unset] [])) by
        by_cases hc_0_247 : w_0_244 = (0 : Int32)
        · refine ogo (fun _ k => XS.ifYes X_0_246.here hx rfl (pc0 := 187) (pc' := 225) rfl (hb hby at_187) rfl ((if0 _ _).trans (teq hc_0_247).1) (by decide) (by decide) k) ?_
          show OGo _ _ _ _ (T_0_246.setTop (mkF m 225 #[.val (.int va), .val (.long vb), .second, .val (.int vc), .val (.int vd), .val (.long ve), .second, .val (.int vf), .val (.int (1 : Int32)), .val (.int w_0_173), .val (.int (0 : Int32)), .val (.ref b_0_177), .val (.int w_0_244), .val (.int (1 : Int32)), .unset] []))
          exact J_0_259 _ (if_pos hc_0_247).symm _ X_0_246 e_0_246
        · refine ogo (fun _ k => XS.ifNo X_0_246.here hx rfl (hb hby at_187) rfl ((if0 _ _).trans (feq hc_0_247).1) k) ?_
          show OGo _ _ _ _ (T_0_246.setTop (mkF m 190 #[.val (.int va), .val (.long vb), .second, .val (.int vc), .val (.int vd), .val (.long ve), .second, .val (.int vf), .val (.int (1 : Int32)), .val (.int w_0_173), .val (.int (0 : Int32)), .val (.ref b_0_177), .val (.int w_0_244), .val (.int (1 : Int32)), .unset] []))
          refine ogo (fun _ k => XS.iload X_0_246.here hx rfl (hb hby at_190) rfl k) ?_
          show OGo _ _ _ _ (T_0_246.setTop (mkF m 192 #[.val (.int va), .val (.long vb), .second, .val (.int vc), .val (.int vd), .val (.long ve), .second, .val (.int vf), .val (.int (1 : Int32)), .val (.int w_0_173), .val (.int (0 : Int32)), .val (.ref b_0_177), .val (.int w_0_244), .val (.int (1 : Int32)), .unset] [(.int (1 : Int32))]))
          refine ogo (fun _ k => XS.ifNo X_0_246.here hx rfl (hb hby at_192) rfl ((if0 _ _).trans (feq (by decide : ¬ ((1 : Int32) = (0 : Int32)))).1) k) ?_
          show OGo _ _ _ _ (T_0_246.setTop (mkF m 195 #[.val (.int va), .val (.long vb), .second, .val (.int vc), .val (.int vd), .val (.long ve), .second, .val (.int vf), .val (.int (1 : Int32)), .val (.int w_0_173), .val (.int (0 : Int32)), .val (.ref b_0_177), .val (.int w_0_244), .val (.int (1 : Int32)), .unset] []))
          refine ogo (fun _ k => XS.aload X_0_246.here hx rfl (hb hby at_195) rfl rfl k) ?_
          show OGo _ _ _ _ (T_0_246.setTop (mkF m 197 #[.val (.int va), .val (.long vb), .second, .val (.int vc), .val (.int vd), .val (.long ve), .second, .val (.int vf), .val (.int (1 : Int32)), .val (.int w_0_173), .val (.int (0 : Int32)), .val (.ref b_0_177), .val (.int w_0_244), .val (.int (1 : Int32)), .unset] [(.ref b_0_177)]))
          refine ogo (fun _ k => XS.iconst X_0_246.here hx rfl (hb hby at_197) k) ?_
          show OGo _ _ _ _ (T_0_246.setTop (mkF m 198 #[.val (.int va), .val (.long vb), .second, .val (.int vc), .val (.int vd), .val (.long ve), .second, .val (.int vf), .val (.int (1 : Int32)), .val (.int w_0_173), .val (.int (0 : Int32)), .val (.ref b_0_177), .val (.int w_0_244), .val (.int (1 : Int32)), .unset] [(.int (0 : Int32)), (.ref b_0_177)]))
          obtain ⟨T_0_248, X_0_248, e_0_248, st_0_248⟩ := ovirtP X_0_246 hx hZ e_0_246 (rm11 l Z a0 hw b_0_177 (0 : Int32) ((1 : Int32)) sa_0_185 ((fun i : Nat => if i = ((0 : Int32)).toNatClampNeg then ve else (fun _ : Nat => (0 : Int64)) i)) h_0_207 f_0_212 f_0_213 f_0_216 (by decide) (by decide) (by decide) (by decide)) hown (hw _ (List.mem_of_getElem? (i := 66) rfl)) (hw _ (List.mem_of_getElem? (i := 67) rfl)) (hw _ (List.mem_of_getElem? (i := 69) rfl)) (hw _ (List.mem_of_getElem? (i := 68) rfl)) (hw _ (List.mem_of_getElem? (i := 2) rfl)) (hw _ (List.mem_of_getElem? (i := 70) rfl)) (by decide) f_0_215 (g := (mkF m 198 #[.val (.int va), .val (.long vb), .second, .val (.int vc), .val (.int vd), .val (.long ve), .second, .val (.int vf), .val (.int (1 : Int32)), .val (.int w_0_173), .val (.int (0 : Int32)), .val (.ref b_0_177), .val (.int w_0_244), .val (.int (1 : Int32)), .unset] [(.int (0 : Int32)), (.ref b_0_177)])) rfl (by rw [hml]; rfl) [(.int (0 : Int32))] [] rfl (lenOf pd__I_J rfl) rfl (hb hby at_198) 0 (by show 2 * 0 + _ ≤ _; exact Nat.le_of_eq rfl) (by decide) (by decide) (by decide) (by decide) rfl rfl
          refine ogo (fun _ k => st_0_248 _ k) ?_
          show OGo _ _ _ _ (T_0_248.setTop (mkF m 201 #[.val (.int va), .val (.long vb), .second, .val (.int vc), .val (.int vd), .val (.long ve), .second, .val (.int vf), .val (.int (1 : Int32)), .val (.int w_0_173), .val (.int (0 : Int32)), .val (.ref b_0_177), .val (.int w_0_244), .val (.int (1 : Int32)), .unset] [(.long (plSecF (0 : Int32) (1 : Int32) (fun i : Nat => if i = ((0 : Int32)).toNatClampNeg then ve else (fun _ : Nat => (0 : Int64)) i)))]))
          refine ogo (fun _ k => XS.lload X_0_248.here hx rfl (hb hby at_201) rfl k) ?_
          show OGo _ _ _ _ (T_0_248.setTop (mkF m 203 #[.val (.int va), .val (.long vb), .second, .val (.int vc), .val (.int vd), .val (.long ve), .second, .val (.int vf), .val (.int (1 : Int32)), .val (.int w_0_173), .val (.int (0 : Int32)), .val (.ref b_0_177), .val (.int w_0_244), .val (.int (1 : Int32)), .unset] [(.long ve), (.long (plSecF (0 : Int32) (1 : Int32) (fun i : Nat => if i = ((0 : Int32)).toNatClampNeg then ve else (fun _ : Nat => (0 : Int64)) i)))]))
          refine ogo (fun _ k => XS.lcmp X_0_248.here hx rfl (hb hby at_203) rfl k) ?_
          show OGo _ _ _ _ (T_0_248.setTop (mkF m 204 #[.val (.int va), .val (.long vb), .second, .val (.int vc), .val (.int vd), .val (.long ve), .second, .val (.int vf), .val (.int (1 : Int32)), .val (.int w_0_173), .val (.int (0 : Int32)), .val (.ref b_0_177), .val (.int w_0_244), .val (.int (1 : Int32)), .unset] [(.int (lcmpW (plSecF (0 : Int32) (1 : Int32) (fun i : Nat => if i = ((0 : Int32)).toNatClampNeg then ve else (fun _ : Nat => (0 : Int64)) i)) ve))]))
          suffices J_0_256 : ∀ (w_0_255 : Int32) (hw_0_255 : w_0_255 = (if (plSecF (0 : Int32) (1 : Int32) (fun i : Nat => if i = ((0 : Int32)).toNatClampNeg then ve else (fun _ : Nat => (0 : Int64)) i)) = ve then (if (plNanF (0 : Int32) (1 : Int32) (fun i : Nat => if i = ((0 : Int32)).toNatClampNeg then vf else (fun _ : Nat => (0 : Int32)) i)) = vf then (1 : Int32) else (0 : Int32)) else (0 : Int32))) (T_0_257 : State) (X_0_257 : Stand p l e room_1 s m #[(.int va), (.long vb), (.int vc), (.int vd), (.long ve), (.int vf)] below meth c T_0_257 lc_0_207 3 11) (e_0_257 : T_0_257.heap = h_0_207), OGo p.tables e below (OFin s (fun v _ L => v = some (.int 1) ∧ Fr n0 L) 16 128) (T_0_257.setTop (mkF m 223 #[.val (.int va), .val (.long vb), .second, .val (.int vc), .val (.int vd), .val (.long ve), .second, .val (.int vf), .val (.int (1 : Int32)), .val (.int w_0_173), .val (.int (0 : Int32)), .val (.ref b_0_177), .val (.int w_0_244), .val (.int (1 : Int32)), .unset] [(.int w_0_255)])) by
            by_cases hc_0_249 : (plSecF (0 : Int32) (1 : Int32) (fun i : Nat => if i = ((0 : Int32)).toNatClampNeg then ve else (fun _ : Nat => (0 : Int64)) i)) = ve
            · refine ogo (fun _ k => XS.ifNo X_0_248.here hx rfl (hb hby at_204) rfl ((if0 _ _).trans (teq ((lw_eq _ _).mpr hc_0_249)).2) k) ?_
              show OGo _ _ _ _ (T_0_248.setTop (mkF m 207 #[.val (.int va), .val (.long vb), .second, .val (.int vc), .val (.int vd), .val (.long ve), .second, .val (.int vf), .val (.int (1 : Int32)), .val (.int w_0_173), .val (.int (0 : Int32)), .val (.ref b_0_177), .val (.int w_0_244), .val (.int (1 : Int32)), .unset] []))
              refine ogo (fun _ k => XS.aload X_0_248.here hx rfl (hb hby at_207) rfl rfl k) ?_
              show OGo _ _ _ _ (T_0_248.setTop (mkF m 209 #[.val (.int va), .val (.long vb), .second, .val (.int vc), .val (.int vd), .val (.long ve), .second, .val (.int vf), .val (.int (1 : Int32)), .val (.int w_0_173), .val (.int (0 : Int32)), .val (.ref b_0_177), .val (.int w_0_244), .val (.int (1 : Int32)), .unset] [(.ref b_0_177)]))
              refine ogo (fun _ k => XS.iconst X_0_248.here hx rfl (hb hby at_209) k) ?_
              show OGo _ _ _ _ (T_0_248.setTop (mkF m 210 #[.val (.int va), .val (.long vb), .second, .val (.int vc), .val (.int vd), .val (.long ve), .second, .val (.int vf), .val (.int (1 : Int32)), .val (.int w_0_173), .val (.int (0 : Int32)), .val (.ref b_0_177), .val (.int w_0_244), .val (.int (1 : Int32)), .unset] [(.int (0 : Int32)), (.ref b_0_177)]))
              obtain ⟨T_0_250, X_0_250, e_0_250, st_0_250⟩ := ovirtP X_0_248 hx hZ e_0_248 (rm14 l Z a0 hw b_0_177 (0 : Int32) ((1 : Int32)) na_0_185 ((fun i : Nat => if i = ((0 : Int32)).toNatClampNeg then vf else (fun _ : Nat => (0 : Int32)) i)) h_0_207 f_0_212 f_0_214 f_0_217 (by decide) (by decide) (by decide) (by decide)) hown (hw _ (List.mem_of_getElem? (i := 79) rfl)) (hw _ (List.mem_of_getElem? (i := 80) rfl)) (hw _ (List.mem_of_getElem? (i := 82) rfl)) (hw _ (List.mem_of_getElem? (i := 81) rfl)) (hw _ (List.mem_of_getElem? (i := 2) rfl)) (hw _ (List.mem_of_getElem? (i := 83) rfl)) (by decide) f_0_215 (g := (mkF m 210 #[.val (.int va), .val (.long vb), .second, .val (.int vc), .val (.int vd), .val (.long ve), .second, .val (.int vf), .val (.int (1 : Int32)), .val (.int w_0_173), .val (.int (0 : Int32)), .val (.ref b_0_177), .val (.int w_0_244), .val (.int (1 : Int32)), .unset] [(.int (0 : Int32)), (.ref b_0_177)])) rfl (by rw [hml]; rfl) [(.int (0 : Int32))] [] rfl (lenOf pd__I_I rfl) rfl (hb hby at_210) 0 (by show 2 * 0 + _ ≤ _; exact Nat.le_of_eq rfl) (by decide) (by decide) (by decide) (by decide) rfl rfl
              refine ogo (fun _ k => st_0_250 _ k) ?_
              show OGo _ _ _ _ (T_0_250.setTop (mkF m 213 #[.val (.int va), .val (.long vb), .second, .val (.int vc), .val (.int vd), .val (.long ve), .second, .val (.int vf), .val (.int (1 : Int32)), .val (.int w_0_173), .val (.int (0 : Int32)), .val (.ref b_0_177), .val (.int w_0_244), .val (.int (1 : Int32)), .unset] [(.int (plNanF (0 : Int32) (1 : Int32) (fun i : Nat => if i = ((0 : Int32)).toNatClampNeg then vf else (fun _ : Nat => (0 : Int32)) i)))]))
              refine ogo (fun _ k => XS.iload X_0_250.here hx rfl (hb hby at_213) rfl k) ?_
              show OGo _ _ _ _ (T_0_250.setTop (mkF m 215 #[.val (.int va), .val (.long vb), .second, .val (.int vc), .val (.int vd), .val (.long ve), .second, .val (.int vf), .val (.int (1 : Int32)), .val (.int w_0_173), .val (.int (0 : Int32)), .val (.ref b_0_177), .val (.int w_0_244), .val (.int (1 : Int32)), .unset] [(.int vf), (.int (plNanF (0 : Int32) (1 : Int32) (fun i : Nat => if i = ((0 : Int32)).toNatClampNeg then vf else (fun _ : Nat => (0 : Int32)) i)))]))
              suffices J_0_253 : ∀ (w_0_252 : Int32) (hw_0_252 : w_0_252 = (if (plNanF (0 : Int32) (1 : Int32) (fun i : Nat => if i = ((0 : Int32)).toNatClampNeg then vf else (fun _ : Nat => (0 : Int32)) i)) = vf then (1 : Int32) else (0 : Int32))), OGo p.tables e below (OFin s (fun v _ L => v = some (.int 1) ∧ Fr n0 L) 16 128) (T_0_250.setTop (mkF m 223 #[.val (.int va), .val (.long vb), .second, .val (.int vc), .val (.int vd), .val (.long ve), .second, .val (.int vf), .val (.int (1 : Int32)), .val (.int w_0_173), .val (.int (0 : Int32)), .val (.ref b_0_177), .val (.int w_0_244), .val (.int (1 : Int32)), .unset] [(.int w_0_252)])) by
                by_cases hc_0_251 : (plNanF (0 : Int32) (1 : Int32) (fun i : Nat => if i = ((0 : Int32)).toNatClampNeg then vf else (fun _ : Nat => (0 : Int32)) i)) = vf
                · refine ogo (fun _ k => XS.icmpNo X_0_250.here hx rfl (hb hby at_215) rfl (teq hc_0_251).2 k) ?_
                  show OGo _ _ _ _ (T_0_250.setTop (mkF m 218 #[.val (.int va), .val (.long vb), .second, .val (.int vc), .val (.int vd), .val (.long ve), .second, .val (.int vf), .val (.int (1 : Int32)), .val (.int w_0_173), .val (.int (0 : Int32)), .val (.ref b_0_177), .val (.int w_0_244), .val (.int (1 : Int32)), .unset] []))
                  refine ogo (fun _ k => XS.iconst X_0_250.here hx rfl (hb hby at_218) k) ?_
                  show OGo _ _ _ _ (T_0_250.setTop (mkF m 219 #[.val (.int va), .val (.long vb), .second, .val (.int vc), .val (.int vd), .val (.long ve), .second, .val (.int vf), .val (.int (1 : Int32)), .val (.int w_0_173), .val (.int (0 : Int32)), .val (.ref b_0_177), .val (.int w_0_244), .val (.int (1 : Int32)), .unset] [(.int (1 : Int32))]))
                  refine ogo (fun _ k => XS.goto X_0_250.here hx rfl (pc0 := 219) (pc' := 223) rfl (hb hby at_219) (by decide) (by decide) k) ?_
                  show OGo _ _ _ _ (T_0_250.setTop (mkF m 223 #[.val (.int va), .val (.long vb), .second, .val (.int vc), .val (.int vd), .val (.long ve), .second, .val (.int vf), .val (.int (1 : Int32)), .val (.int w_0_173), .val (.int (0 : Int32)), .val (.ref b_0_177), .val (.int w_0_244), .val (.int (1 : Int32)), .unset] [(.int (1 : Int32))]))
                  exact J_0_253 _ (if_pos hc_0_251).symm
                · refine ogo (fun _ k => XS.icmpYes X_0_250.here hx rfl (pc0 := 215) (pc' := 222) rfl (hb hby at_215) rfl (feq hc_0_251).2 (by decide) (by decide) k) ?_
                  show OGo _ _ _ _ (T_0_250.setTop (mkF m 222 #[.val (.int va), .val (.long vb), .second, .val (.int vc), .val (.int vd), .val (.long ve), .second, .val (.int vf), .val (.int (1 : Int32)), .val (.int w_0_173), .val (.int (0 : Int32)), .val (.ref b_0_177), .val (.int w_0_244), .val (.int (1 : Int32)), .unset] []))
                  refine ogo (fun _ k => XS.iconst X_0_250.here hx rfl (hb hby at_222) k) ?_
                  show OGo _ _ _ _ (T_0_250.setTop (mkF m 223 #[.val (.int va), .val (.long vb), .second, .val (.int vc), .val (.int vd), .val (.long ve), .second, .val (.int vf), .val (.int (1 : Int32)), .val (.int w_0_173), .val (.int (0 : Int32)), .val (.ref b_0_177), .val (.int w_0_244), .val (.int (1 : Int32)), .unset] [(.int (0 : Int32))]))
                  exact J_0_253 _ (if_neg hc_0_251).symm
              intro w_0_252 hw_0_252
              subst hw_0_252
              exact J_0_256 _ (if_pos hc_0_249).symm _ X_0_250 e_0_250
            · refine ogo (fun _ k => XS.ifYes X_0_248.here hx rfl (pc0 := 204) (pc' := 222) rfl (hb hby at_204) rfl ((if0 _ _).trans (feq (fun q => hc_0_249 ((lw_eq _ _).mp q))).2) (by decide) (by decide) k) ?_
              show OGo _ _ _ _ (T_0_248.setTop (mkF m 222 #[.val (.int va), .val (.long vb), .second, .val (.int vc), .val (.int vd), .val (.long ve), .second, .val (.int vf), .val (.int (1 : Int32)), .val (.int w_0_173), .val (.int (0 : Int32)), .val (.ref b_0_177), .val (.int w_0_244), .val (.int (1 : Int32)), .unset] []))
              refine ogo (fun _ k => XS.iconst X_0_248.here hx rfl (hb hby at_222) k) ?_
              show OGo _ _ _ _ (T_0_248.setTop (mkF m 223 #[.val (.int va), .val (.long vb), .second, .val (.int vc), .val (.int vd), .val (.long ve), .second, .val (.int vf), .val (.int (1 : Int32)), .val (.int w_0_173), .val (.int (0 : Int32)), .val (.ref b_0_177), .val (.int w_0_244), .val (.int (1 : Int32)), .unset] [(.int (0 : Int32))]))
              exact J_0_256 _ (if_neg hc_0_249).symm _ X_0_248 e_0_248
          intro w_0_255 hw_0_255 T_0_257 X_0_257 e_0_257
          subst hw_0_255
          refine ogo (fun _ k => XS.istore X_0_257.here hx rfl (hb hby at_223) rfl (l' := #[.val (.int va), .val (.long vb), .second, .val (.int vc), .val (.int vd), .val (.long ve), .second, .val (.int vf), .val (.int (1 : Int32)), .val (.int w_0_173), .val (.int (0 : Int32)), .val (.ref b_0_177), .val (.int (if (plSecF (0 : Int32) (1 : Int32) (fun i : Nat => if i = ((0 : Int32)).toNatClampNeg then ve else (fun _ : Nat => (0 : Int64)) i)) = ve then (if (plNanF (0 : Int32) (1 : Int32) (fun i : Nat => if i = ((0 : Int32)).toNatClampNeg then vf else (fun _ : Nat => (0 : Int32)) i)) = vf then (1 : Int32) else (0 : Int32)) else (0 : Int32))), .val (.int (1 : Int32)), .unset]) rfl k) ?_
          show OGo _ _ _ _ (T_0_257.setTop (mkF m 225 #[.val (.int va), .val (.long vb), .second, .val (.int vc), .val (.int vd), .val (.long ve), .second, .val (.int vf), .val (.int (1 : Int32)), .val (.int w_0_173), .val (.int (0 : Int32)), .val (.ref b_0_177), .val (.int (if (plSecF (0 : Int32) (1 : Int32) (fun i : Nat => if i = ((0 : Int32)).toNatClampNeg then ve else (fun _ : Nat => (0 : Int64)) i)) = ve then (if (plNanF (0 : Int32) (1 : Int32) (fun i : Nat => if i = ((0 : Int32)).toNatClampNeg then vf else (fun _ : Nat => (0 : Int32)) i)) = vf then (1 : Int32) else (0 : Int32)) else (0 : Int32))), .val (.int (1 : Int32)), .unset] []))
          exact J_0_259 _ (if_neg hc_0_247).symm _ X_0_257 e_0_257
      intro w_0_258 hw_0_258 T_0_260 X_0_260 e_0_260
      refine ogo (fun _ k => XS.iloadN X_0_260.here hx rfl (hb hby at_225) rfl k) ?_
      show OGo _ _ _ _ (T_0_260.setTop (mkF m 226 #[.val (.int va), .val (.long vb), .second, .val (.int vc), .val (.int vd), .val (.long ve), .second, .val (.int vf), .val (.int (1 : Int32)), .val (.int w_0_173), .val (.int (0 : Int32)), .val (.ref b_0_177), .val (.int w_0_258), .val (.int (1 : Int32)), .unset] [(.int va)]))
      suffices J_0_262 : OGo p.tables e below (OFin s (fun v _ L => v = some (.int 1) ∧ Fr n0 L) 16 128) (T_0_260.setTop (mkF m 239 #[.val (.int va), .val (.long vb), .second, .val (.int vc), .val (.int vd), .val (.long ve), .second, .val (.int vf), .val (.int (1 : Int32)), .val (.int w_0_173), .val (.int (0 : Int32)), .val (.ref b_0_177), .val (.int w_0_258), .val (.int (1 : Int32)), .unset] [(.int (0 : Int32))])) by
        by_cases hc_0_261 : va = (0 : Int32)
        · refine ogo (fun _ k => XS.ifNo X_0_260.here hx rfl (hb hby at_226) rfl ((if0 _ _).trans (teq hc_0_261).2) k) ?_
          show OGo _ _ _ _ (T_0_260.setTop (mkF m 229 #[.val (.int va), .val (.long vb), .second, .val (.int vc), .val (.int vd), .val (.long ve), .second, .val (.int vf), .val (.int (1 : Int32)), .val (.int w_0_173), .val (.int (0 : Int32)), .val (.ref b_0_177), .val (.int w_0_258), .val (.int (1 : Int32)), .unset] []))
          refine ogo (fun _ k => XS.iload X_0_260.here hx rfl (hb hby at_229) rfl k) ?_
          show OGo _ _ _ _ (T_0_260.setTop (mkF m 231 #[.val (.int va), .val (.long vb), .second, .val (.int vc), .val (.int vd), .val (.long ve), .second, .val (.int vf), .val (.int (1 : Int32)), .val (.int w_0_173), .val (.int (0 : Int32)), .val (.ref b_0_177), .val (.int w_0_258), .val (.int (1 : Int32)), .unset] [(.int (1 : Int32))]))
          refine ogo (fun _ k => XS.ifYes X_0_260.here hx rfl (pc0 := 231) (pc' := 238) rfl (hb hby at_231) rfl ((if0 _ _).trans (feq (by decide : ¬ ((1 : Int32) = (0 : Int32)))).2) (by decide) (by decide) k) ?_
          show OGo _ _ _ _ (T_0_260.setTop (mkF m 238 #[.val (.int va), .val (.long vb), .second, .val (.int vc), .val (.int vd), .val (.long ve), .second, .val (.int vf), .val (.int (1 : Int32)), .val (.int w_0_173), .val (.int (0 : Int32)), .val (.ref b_0_177), .val (.int w_0_258), .val (.int (1 : Int32)), .unset] []))
          refine ogo (fun _ k => XS.iconst X_0_260.here hx rfl (hb hby at_238) k) ?_
          show OGo _ _ _ _ (T_0_260.setTop (mkF m 239 #[.val (.int va), .val (.long vb), .second, .val (.int vc), .val (.int vd), .val (.long ve), .second, .val (.int vf), .val (.int (1 : Int32)), .val (.int w_0_173), .val (.int (0 : Int32)), .val (.ref b_0_177), .val (.int w_0_258), .val (.int (1 : Int32)), .unset] [(.int (0 : Int32))]))
          exact J_0_262
        · refine ogo (fun _ k => XS.ifYes X_0_260.here hx rfl (pc0 := 226) (pc' := 238) rfl (hb hby at_226) rfl ((if0 _ _).trans (feq hc_0_261).2) (by decide) (by decide) k) ?_
          show OGo _ _ _ _ (T_0_260.setTop (mkF m 238 #[.val (.int va), .val (.long vb), .second, .val (.int vc), .val (.int vd), .val (.long ve), .second, .val (.int vf), .val (.int (1 : Int32)), .val (.int w_0_173), .val (.int (0 : Int32)), .val (.ref b_0_177), .val (.int w_0_258), .val (.int (1 : Int32)), .unset] []))
          refine ogo (fun _ k => XS.iconst X_0_260.here hx rfl (hb hby at_238) k) ?_
          show OGo _ _ _ _ (T_0_260.setTop (mkF m 239 #[.val (.int va), .val (.long vb), .second, .val (.int vc), .val (.int vd), .val (.long ve), .second, .val (.int vf), .val (.int (1 : Int32)), .val (.int w_0_173), .val (.int (0 : Int32)), .val (.ref b_0_177), .val (.int w_0_258), .val (.int (1 : Int32)), .unset] [(.int (0 : Int32))]))
          exact J_0_262
      refine ogo (fun _ k => XS.istore X_0_260.here hx rfl (hb hby at_239) rfl (l' := #[.val (.int va), .val (.long vb), .second, .val (.int vc), .val (.int vd), .val (.long ve), .second, .val (.int vf), .val (.int (1 : Int32)), .val (.int w_0_173), .val (.int (0 : Int32)), .val (.ref b_0_177), .val (.int w_0_258), .val (.int (1 : Int32)), .val (.int (0 : Int32))]) rfl k) ?_
      show OGo _ _ _ _ (T_0_260.setTop (mkF m 241 #[.val (.int va), .val (.long vb), .second, .val (.int vc), .val (.int vd), .val (.long ve), .second, .val (.int vf), .val (.int (1 : Int32)), .val (.int w_0_173), .val (.int (0 : Int32)), .val (.ref b_0_177), .val (.int w_0_258), .val (.int (1 : Int32)), .val (.int (0 : Int32))] []))
      refine ogo (fun _ k => XS.iload X_0_260.here hx rfl (hb hby at_241) rfl k) ?_
      show OGo _ _ _ _ (T_0_260.setTop (mkF m 243 #[.val (.int va), .val (.long vb), .second, .val (.int vc), .val (.int vd), .val (.long ve), .second, .val (.int vf), .val (.int (1 : Int32)), .val (.int w_0_173), .val (.int (0 : Int32)), .val (.ref b_0_177), .val (.int w_0_258), .val (.int (1 : Int32)), .val (.int (0 : Int32))] [(.int w_0_258)]))
      suffices J_0_271 : ∀ (w_0_270 : Int32) (hw_0_270 : w_0_270 = (if w_0_258 = (0 : Int32) then (0 : Int32) else (if (emptyF va (1 : Int32)) = (0 : Int32) then (1 : Int32) else (0 : Int32)))) (T_0_272 : State) (X_0_272 : Stand p l e room_1 s m #[(.int va), (.long vb), (.int vc), (.int vd), (.long ve), (.int vf)] below meth c T_0_272 lc_0_207 3 11) (e_0_272 : T_0_272.heap = h_0_207), OGo p.tables e below (OFin s (fun v _ L => v = some (.int 1) ∧ Fr n0 L) 16 128) (T_0_272.setTop (mkF m 261 #[.val (.int va), .val (.long vb), .second, .val (.int vc), .val (.int vd), .val (.long ve), .second, .val (.int vf), .val (.int (1 : Int32)), .val (.int w_0_173), .val (.int (0 : Int32)), .val (.ref b_0_177), .val (.int w_0_258), .val (.int (1 : Int32)), .val (.int (0 : Int32))] [(.int w_0_270)])) by
        by_cases hc_0_264 : w_0_258 = (0 : Int32)
        · refine ogo (fun _ k => XS.ifYes X_0_260.here hx rfl (pc0 := 243) (pc' := 260) rfl (hb hby at_243) rfl ((if0 _ _).trans (teq hc_0_264).1) (by decide) (by decide) k) ?_
          show OGo _ _ _ _ (T_0_260.setTop (mkF m 260 #[.val (.int va), .val (.long vb), .second, .val (.int vc), .val (.int vd), .val (.long ve), .second, .val (.int vf), .val (.int (1 : Int32)), .val (.int w_0_173), .val (.int (0 : Int32)), .val (.ref b_0_177), .val (.int w_0_258), .val (.int (1 : Int32)), .val (.int (0 : Int32))] []))
          refine ogo (fun _ k => XS.iconst X_0_260.here hx rfl (hb hby at_260) k) ?_
          show OGo _ _ _ _ (T_0_260.setTop (mkF m 261 #[.val (.int va), .val (.long vb), .second, .val (.int vc), .val (.int vd), .val (.long ve), .second, .val (.int vf), .val (.int (1 : Int32)), .val (.int w_0_173), .val (.int (0 : Int32)), .val (.ref b_0_177), .val (.int w_0_258), .val (.int (1 : Int32)), .val (.int (0 : Int32))] [(.int (0 : Int32))]))
          exact J_0_271 _ (if_pos hc_0_264).symm _ X_0_260 e_0_260
        · refine ogo (fun _ k => XS.ifNo X_0_260.here hx rfl (hb hby at_243) rfl ((if0 _ _).trans (feq hc_0_264).1) k) ?_
          show OGo _ _ _ _ (T_0_260.setTop (mkF m 246 #[.val (.int va), .val (.long vb), .second, .val (.int vc), .val (.int vd), .val (.long ve), .second, .val (.int vf), .val (.int (1 : Int32)), .val (.int w_0_173), .val (.int (0 : Int32)), .val (.ref b_0_177), .val (.int w_0_258), .val (.int (1 : Int32)), .val (.int (0 : Int32))] []))
          refine ogo (fun _ k => XS.aload X_0_260.here hx rfl (hb hby at_246) rfl rfl k) ?_
          show OGo _ _ _ _ (T_0_260.setTop (mkF m 248 #[.val (.int va), .val (.long vb), .second, .val (.int vc), .val (.int vd), .val (.long ve), .second, .val (.int vf), .val (.int (1 : Int32)), .val (.int w_0_173), .val (.int (0 : Int32)), .val (.ref b_0_177), .val (.int w_0_258), .val (.int (1 : Int32)), .val (.int (0 : Int32))] [(.ref b_0_177)]))
          obtain ⟨T_0_265, X_0_265, e_0_265, st_0_265⟩ := ovirtP X_0_260 hx hZ e_0_260 (rm9 l Z a0 hw b_0_177 va ((1 : Int32)) h_0_207 f_0_208 f_0_212) hown (hw _ (List.mem_of_getElem? (i := 55) rfl)) (hw _ (List.mem_of_getElem? (i := 56) rfl)) (hw _ (List.mem_of_getElem? (i := 58) rfl)) (hw _ (List.mem_of_getElem? (i := 57) rfl)) (hw _ (List.mem_of_getElem? (i := 2) rfl)) (hw _ (List.mem_of_getElem? (i := 59) rfl)) (by decide) f_0_215 (g := (mkF m 248 #[.val (.int va), .val (.long vb), .second, .val (.int vc), .val (.int vd), .val (.long ve), .second, .val (.int vf), .val (.int (1 : Int32)), .val (.int w_0_173), .val (.int (0 : Int32)), .val (.ref b_0_177), .val (.int w_0_258), .val (.int (1 : Int32)), .val (.int (0 : Int32))] [(.ref b_0_177)])) rfl (by rw [hml]; rfl) [] [] rfl (lenOf pd___Z rfl) rfl (hb hby at_248) 0 (by show 2 * 0 + _ ≤ _; exact Nat.le_of_eq rfl) (by decide) (by decide) (by decide) (by decide) rfl rfl
          refine ogo (fun _ k => st_0_265 _ k) ?_
          show OGo _ _ _ _ (T_0_265.setTop (mkF m 251 #[.val (.int va), .val (.long vb), .second, .val (.int vc), .val (.int vd), .val (.long ve), .second, .val (.int vf), .val (.int (1 : Int32)), .val (.int w_0_173), .val (.int (0 : Int32)), .val (.ref b_0_177), .val (.int w_0_258), .val (.int (1 : Int32)), .val (.int (0 : Int32))] [(.int (emptyF va (1 : Int32)))]))
          refine ogo (fun _ k => XS.iload X_0_265.here hx rfl (hb hby at_251) rfl k) ?_
          show OGo _ _ _ _ (T_0_265.setTop (mkF m 253 #[.val (.int va), .val (.long vb), .second, .val (.int vc), .val (.int vd), .val (.long ve), .second, .val (.int vf), .val (.int (1 : Int32)), .val (.int w_0_173), .val (.int (0 : Int32)), .val (.ref b_0_177), .val (.int w_0_258), .val (.int (1 : Int32)), .val (.int (0 : Int32))] [(.int (0 : Int32)), (.int (emptyF va (1 : Int32)))]))
          suffices J_0_268 : ∀ (w_0_267 : Int32) (hw_0_267 : w_0_267 = (if (emptyF va (1 : Int32)) = (0 : Int32) then (1 : Int32) else (0 : Int32))), OGo p.tables e below (OFin s (fun v _ L => v = some (.int 1) ∧ Fr n0 L) 16 128) (T_0_265.setTop (mkF m 261 #[.val (.int va), .val (.long vb), .second, .val (.int vc), .val (.int vd), .val (.long ve), .second, .val (.int vf), .val (.int (1 : Int32)), .val (.int w_0_173), .val (.int (0 : Int32)), .val (.ref b_0_177), .val (.int w_0_258), .val (.int (1 : Int32)), .val (.int (0 : Int32))] [(.int w_0_267)])) by
            by_cases hc_0_266 : (emptyF va (1 : Int32)) = (0 : Int32)
            · refine ogo (fun _ k => XS.icmpNo X_0_265.here hx rfl (hb hby at_253) rfl (teq hc_0_266).2 k) ?_
              show OGo _ _ _ _ (T_0_265.setTop (mkF m 256 #[.val (.int va), .val (.long vb), .second, .val (.int vc), .val (.int vd), .val (.long ve), .second, .val (.int vf), .val (.int (1 : Int32)), .val (.int w_0_173), .val (.int (0 : Int32)), .val (.ref b_0_177), .val (.int w_0_258), .val (.int (1 : Int32)), .val (.int (0 : Int32))] []))
              refine ogo (fun _ k => XS.iconst X_0_265.here hx rfl (hb hby at_256) k) ?_
              show OGo _ _ _ _ (T_0_265.setTop (mkF m 257 #[.val (.int va), .val (.long vb), .second, .val (.int vc), .val (.int vd), .val (.long ve), .second, .val (.int vf), .val (.int (1 : Int32)), .val (.int w_0_173), .val (.int (0 : Int32)), .val (.ref b_0_177), .val (.int w_0_258), .val (.int (1 : Int32)), .val (.int (0 : Int32))] [(.int (1 : Int32))]))
              refine ogo (fun _ k => XS.goto X_0_265.here hx rfl (pc0 := 257) (pc' := 261) rfl (hb hby at_257) (by decide) (by decide) k) ?_
              show OGo _ _ _ _ (T_0_265.setTop (mkF m 261 #[.val (.int va), .val (.long vb), .second, .val (.int vc), .val (.int vd), .val (.long ve), .second, .val (.int vf), .val (.int (1 : Int32)), .val (.int w_0_173), .val (.int (0 : Int32)), .val (.ref b_0_177), .val (.int w_0_258), .val (.int (1 : Int32)), .val (.int (0 : Int32))] [(.int (1 : Int32))]))
              exact J_0_268 _ (if_pos hc_0_266).symm
            · refine ogo (fun _ k => XS.icmpYes X_0_265.here hx rfl (pc0 := 253) (pc' := 260) rfl (hb hby at_253) rfl (feq hc_0_266).2 (by decide) (by decide) k) ?_
              show OGo _ _ _ _ (T_0_265.setTop (mkF m 260 #[.val (.int va), .val (.long vb), .second, .val (.int vc), .val (.int vd), .val (.long ve), .second, .val (.int vf), .val (.int (1 : Int32)), .val (.int w_0_173), .val (.int (0 : Int32)), .val (.ref b_0_177), .val (.int w_0_258), .val (.int (1 : Int32)), .val (.int (0 : Int32))] []))
              refine ogo (fun _ k => XS.iconst X_0_265.here hx rfl (hb hby at_260) k) ?_
              show OGo _ _ _ _ (T_0_265.setTop (mkF m 261 #[.val (.int va), .val (.long vb), .second, .val (.int vc), .val (.int vd), .val (.long ve), .second, .val (.int vf), .val (.int (1 : Int32)), .val (.int w_0_173), .val (.int (0 : Int32)), .val (.ref b_0_177), .val (.int w_0_258), .val (.int (1 : Int32)), .val (.int (0 : Int32))] [(.int (0 : Int32))]))
              exact J_0_268 _ (if_neg hc_0_266).symm
          intro w_0_267 hw_0_267
          subst hw_0_267
          exact J_0_271 _ (if_neg hc_0_264).symm _ X_0_265 e_0_265
      intro w_0_270 hw_0_270 T_0_272 X_0_272 e_0_272
      have hz : w_0_270 = (1 : Int32) := plain2 va vb vc vd ve vf hc_0_1 w_0_173 hw_0_173 hc_0_176 w_0_235 hw_0_235 w_0_244 hw_0_244 w_0_258 hw_0_258 w_0_270 hw_0_270
      rw [hz]
      exact oret X_0_272 hx hlk Bd.returns rfl (Or.inl ⟨rfl, Or.inr (Or.inl rfl), _, rfl⟩) (hb hby at_261) (by decide) (by decide) ⟨rfl, N_0_207⟩
    · refine ogo (fun _ k => XS.ifNo X0.here hx rfl (hb hby at_32) rfl ((if0 _ _).trans (feq hc_0_176).1) k) ?_
      show OGo _ _ _ _ (s₁.setTop (mkF m 35 #[.val (.int va), .val (.long vb), .second, .val (.int vc), .val (.int vd), .val (.long ve), .second, .val (.int vf), .val (.int (1 : Int32)), .val (.int w_0_173), .unset, .unset, .unset, .unset, .unset] []))
      refine ogo (fun _ k => XS.iconst X0.here hx rfl (hb hby at_35) k) ?_
      show OGo _ _ _ _ (s₁.setTop (mkF m 36 #[.val (.int va), .val (.long vb), .second, .val (.int vc), .val (.int vd), .val (.long ve), .second, .val (.int vf), .val (.int (1 : Int32)), .val (.int w_0_173), .unset, .unset, .unset, .unset, .unset] [(.int (1 : Int32))]))
      refine ogo (fun _ k => XS.goto X0.here hx rfl (pc0 := 36) (pc' := 40) rfl (hb hby at_36) (by decide) (by decide) k) ?_
      show OGo _ _ _ _ (s₁.setTop (mkF m 40 #[.val (.int va), .val (.long vb), .second, .val (.int vc), .val (.int vd), .val (.long ve), .second, .val (.int vf), .val (.int (1 : Int32)), .val (.int w_0_173), .unset, .unset, .unset, .unset, .unset] [(.int (1 : Int32))]))
      refine ogo (fun _ k => XS.istore X0.here hx rfl (hb hby at_40) rfl (l' := #[.val (.int va), .val (.long vb), .second, .val (.int vc), .val (.int vd), .val (.long ve), .second, .val (.int vf), .val (.int (1 : Int32)), .val (.int w_0_173), .val (.int (1 : Int32)), .unset, .unset, .unset, .unset]) rfl k) ?_
      show OGo _ _ _ _ (s₁.setTop (mkF m 42 #[.val (.int va), .val (.long vb), .second, .val (.int vc), .val (.int vd), .val (.long ve), .second, .val (.int vf), .val (.int (1 : Int32)), .val (.int w_0_173), .val (.int (1 : Int32)), .unset, .unset, .unset, .unset] []))
      obtain ⟨T_0_273, h_0_273, X_0_273, e_0_273, E_0_273, A_0_273, D_0_273, -, st_0_273⟩ := newO X0 hx hZ hown (hw _ (List.mem_of_getElem? (i := 0) rfl)) (hw _ (List.mem_of_getElem? (i := 1) rfl)) (hw _ (List.mem_of_getElem? (i := 2) rfl)) e0 (g := (mkF m 42 #[.val (.int va), .val (.long vb), .second, .val (.int vc), .val (.int vd), .val (.long ve), .second, .val (.int vf), .val (.int (1 : Int32)), .val (.int w_0_173), .val (.int (1 : Int32)), .unset, .unset, .unset, .unset] [])) rfl (hb hby at_42) (by decide) (by decide)
      obtain ⟨b_0_273, g_0_273⟩ : ∃ z, z = h0.size := ⟨_, rfl⟩
      rw [← g_0_273] at A_0_273 D_0_273 st_0_273
      have g_b_0_273 : n0 ≤ b_0_273 := Nat.le_trans Z0 (Nat.le_of_eq g_0_273.symm)
      have Z_0_273 : n0 ≤ h_0_273.size := Nat.le_trans Z0 E_0_273.1
      have f_0_274 : Fld Z h_0_273 b_0_273 "com/example/bouncr/bouncr/KeyRecord" "lastNano" "I" (.int (0 : Int32)) := D_0_273 (Or.inl (hw _ (List.mem_of_getElem? (i := 10) rfl))) (ty := .int) (by decide)
      have f_0_275 : Fld Z h_0_273 b_0_273 "com/example/bouncr/bouncr/KeyRecord" "placeSeconds" "[J" .null := D_0_273 (Or.inl (hw _ (List.mem_of_getElem? (i := 13) rfl))) (ty := (.array .long)) (by decide)
      have f_0_276 : Fld Z h_0_273 b_0_273 "com/example/bouncr/bouncr/KeyRecord" "placeNanos" "[I" .null := D_0_273 (Or.inl (hw _ (List.mem_of_getElem? (i := 16) rfl))) (ty := (.array .int)) (by decide)
      have f_0_277 : Fld Z h_0_273 b_0_273 "com/example/bouncr/bouncr/KeyRecord" "failures" "I" (.int (0 : Int32)) := D_0_273 (Or.inl (hw _ (List.mem_of_getElem? (i := 23) rfl))) (ty := .int) (by decide)
      have f_0_278 : Fld Z h_0_273 b_0_273 "com/example/bouncr/bouncr/KeyRecord" "lastSecond" "J" (.long (0 : Int64)) := D_0_273 (Or.inl (hw _ (List.mem_of_getElem? (i := 25) rfl))) (ty := .long) (by decide)
      have f_0_279 : Fld Z h_0_273 b_0_273 "com/example/bouncr/bouncr/KeyRecord" "refusedOnly" "Z" (.int (0 : Int32)) := D_0_273 (Or.inl (hw _ (List.mem_of_getElem? (i := 27) rfl))) (ty := .boolean) (by decide)
      have f_0_280 : Fld Z h_0_273 b_0_273 "com/example/bouncr/bouncr/KeyRecord" "placeCount" "I" (.int (0 : Int32)) := D_0_273 (Or.inl (hw _ (List.mem_of_getElem? (i := 54) rfl))) (ty := .int) (by decide)
      obtain ⟨lc_0_273, N_0_273, X_0_273⟩ : ∃ L, Fr n0 L ∧ Stand p l e room_1 s m #[(.int va), (.long vb), (.int vc), (.int vd), (.long ve), (.int vf)] below meth c T_0_273 L 1 9 := ⟨_, N0, X_0_273⟩
      refine ogo (fun _ k => st_0_273 _ k) ?_
      show OGo _ _ _ _ (T_0_273.setTop (mkF m 45 #[.val (.int va), .val (.long vb), .second, .val (.int vc), .val (.int vd), .val (.long ve), .second, .val (.int vf), .val (.int (1 : Int32)), .val (.int w_0_173), .val (.int (1 : Int32)), .unset, .unset, .unset, .unset] [(.ref b_0_273)]))
      refine ogo (fun _ k => XS.dup X_0_273.here hx rfl (hb hby at_45) rfl rfl k) ?_
      show OGo _ _ _ _ (T_0_273.setTop (mkF m 46 #[.val (.int va), .val (.long vb), .second, .val (.int vc), .val (.int vd), .val (.long ve), .second, .val (.int vf), .val (.int (1 : Int32)), .val (.int w_0_173), .val (.int (1 : Int32)), .unset, .unset, .unset, .unset] [(.ref b_0_273), (.ref b_0_273)]))
      obtain ⟨v_0_281, T_0_281, h_0_281, L_0_281, e_0_281, hQ_0_281, X_0_281, st_0_281⟩ := ospecQ X_0_273 hx hZ e_0_273 (rm1 l Z a0 hw b_0_273 h_0_273 n0 Z_0_273 A_0_273 f_0_277 f_0_278 f_0_274 f_0_279 f_0_280 f_0_275 f_0_276 g_b_0_273) rfl hown (hw _ (List.mem_of_getElem? (i := 3) rfl)) (hw _ (List.mem_of_getElem? (i := 4) rfl)) (hw _ (List.mem_of_getElem? (i := 2) rfl)) (hw _ (List.mem_of_getElem? (i := 5) rfl)) (by decide) (b := b_0_273) (g := (mkF m 46 #[.val (.int va), .val (.long vb), .second, .val (.int vc), .val (.int vd), .val (.long ve), .second, .val (.int vf), .val (.int (1 : Int32)), .val (.int w_0_173), .val (.int (1 : Int32)), .unset, .unset, .unset, .unset] [(.ref b_0_273), (.ref b_0_273)])) rfl (by rw [hml]; rfl) [] [(.ref b_0_273)] rfl (lenOf pd___V rfl) rfl (hb hby at_46) 1 (by show 2 * 0 + _ ≤ _; exact Nat.le_of_eq rfl) (by decide) (by decide) (by decide) (by decide)
      obtain ⟨sa_0_281, na_0_281, rfl, Nq_0_281, Kc_0_281, f_0_282, f_0_283, f_0_284, f_0_285, f_0_286, f_0_287, f_0_288, f_0_289, f_0_290, g_sa_0_281, g_na_0_281, ne_1_0_281, ne_2_0_281, ne_3_0_281⟩ := hQ_0_281
      have f_0_291 := A_0_273.keep Kc_0_281
      have Z_0_281 : n0 ≤ h_0_281.size := Nat.le_trans Z_0_273 Kc_0_281.1
      obtain ⟨lc_0_281, N_0_281, X_0_281⟩ : ∃ L, Fr n0 L ∧ Stand p l e room_1 s m #[(.int va), (.long vb), (.int vc), (.int vd), (.long ve), (.int vf)] below meth c T_0_281 L 3 11 := ⟨_, Fr.app N_0_273 Nq_0_281, X_0_281⟩
      refine ogo (fun _ k => st_0_281 _ k) ?_
      show OGo _ _ _ _ (T_0_281.setTop (mkF m 49 #[.val (.int va), .val (.long vb), .second, .val (.int vc), .val (.int vd), .val (.long ve), .second, .val (.int vf), .val (.int (1 : Int32)), .val (.int w_0_173), .val (.int (1 : Int32)), .unset, .unset, .unset, .unset] [(.ref b_0_273)]))
      refine ogo (fun _ k => XS.astore X_0_281.here hx rfl (hb hby at_49) rfl rfl (l' := #[.val (.int va), .val (.long vb), .second, .val (.int vc), .val (.int vd), .val (.long ve), .second, .val (.int vf), .val (.int (1 : Int32)), .val (.int w_0_173), .val (.int (1 : Int32)), .val (.ref b_0_273), .unset, .unset, .unset]) rfl k) ?_
      show OGo _ _ _ _ (T_0_281.setTop (mkF m 51 #[.val (.int va), .val (.long vb), .second, .val (.int vc), .val (.int vd), .val (.long ve), .second, .val (.int vf), .val (.int (1 : Int32)), .val (.int w_0_173), .val (.int (1 : Int32)), .val (.ref b_0_273), .unset, .unset, .unset] []))
      refine ogo (fun _ k => XS.iload X_0_281.here hx rfl (hb hby at_51) rfl k) ?_
      show OGo _ _ _ _ (T_0_281.setTop (mkF m 53 #[.val (.int va), .val (.long vb), .second, .val (.int vc), .val (.int vd), .val (.long ve), .second, .val (.int vf), .val (.int (1 : Int32)), .val (.int w_0_173), .val (.int (1 : Int32)), .val (.ref b_0_273), .unset, .unset, .unset] [(.int (1 : Int32))]))
      refine ogo (fun _ k => XS.ifNo X_0_281.here hx rfl (hb hby at_53) rfl ((if0 _ _).trans (feq (by decide : ¬ ((1 : Int32) = (0 : Int32)))).1) k) ?_
      show OGo _ _ _ _ (T_0_281.setTop (mkF m 56 #[.val (.int va), .val (.long vb), .second, .val (.int vc), .val (.int vd), .val (.long ve), .second, .val (.int vf), .val (.int (1 : Int32)), .val (.int w_0_173), .val (.int (1 : Int32)), .val (.ref b_0_273), .unset, .unset, .unset] []))
      refine ogo (fun _ k => XS.aload X_0_281.here hx rfl (hb hby at_56) rfl rfl k) ?_
      show OGo _ _ _ _ (T_0_281.setTop (mkF m 58 #[.val (.int va), .val (.long vb), .second, .val (.int vc), .val (.int vd), .val (.long ve), .second, .val (.int vf), .val (.int (1 : Int32)), .val (.int w_0_173), .val (.int (1 : Int32)), .val (.ref b_0_273), .unset, .unset, .unset] [(.ref b_0_273)]))
      refine ogo (fun _ k => XS.lload X_0_281.here hx rfl (hb hby at_58) rfl k) ?_
      show OGo _ _ _ _ (T_0_281.setTop (mkF m 60 #[.val (.int va), .val (.long vb), .second, .val (.int vc), .val (.int vd), .val (.long ve), .second, .val (.int vf), .val (.int (1 : Int32)), .val (.int w_0_173), .val (.int (1 : Int32)), .val (.ref b_0_273), .unset, .unset, .unset] [(.long ve), (.ref b_0_273)]))
      refine ogo (fun _ k => XS.iload X_0_281.here hx rfl (hb hby at_60) rfl k) ?_
      show OGo _ _ _ _ (T_0_281.setTop (mkF m 62 #[.val (.int va), .val (.long vb), .second, .val (.int vc), .val (.int vd), .val (.long ve), .second, .val (.int vf), .val (.int (1 : Int32)), .val (.int w_0_173), .val (.int (1 : Int32)), .val (.ref b_0_273), .unset, .unset, .unset] [(.int vf), (.long ve), (.ref b_0_273)]))
      obtain ⟨v_0_292, T_0_292, h_0_292, L_0_292, e_0_292, hQ_0_292, X_0_292, st_0_292⟩ := ovirtQ X_0_281 hx hZ e_0_281 (rm10 l Z a0 hw b_0_273 ve vf (0 : Int32) (0 : Int64) (-1 : Int32) (0 : Int32) sa_0_281 na_0_281 h_0_281 n0 Z_0_281 f_0_291 f_0_282 f_0_283 f_0_284 f_0_285 f_0_286 f_0_287 f_0_288 f_0_289 f_0_290 g_b_0_273 g_sa_0_281 g_na_0_281 ne_1_0_281 ne_2_0_281 ne_3_0_281) hown (hw _ (List.mem_of_getElem? (i := 60) rfl)) (hw _ (List.mem_of_getElem? (i := 61) rfl)) (hw _ (List.mem_of_getElem? (i := 63) rfl)) (hw _ (List.mem_of_getElem? (i := 62) rfl)) (hw _ (List.mem_of_getElem? (i := 2) rfl)) (hw _ (List.mem_of_getElem? (i := 64) rfl)) (by decide) f_0_291 (g := (mkF m 62 #[.val (.int va), .val (.long vb), .second, .val (.int vc), .val (.int vd), .val (.long ve), .second, .val (.int vf), .val (.int (1 : Int32)), .val (.int w_0_173), .val (.int (1 : Int32)), .val (.ref b_0_273), .unset, .unset, .unset] [(.int vf), (.long ve), (.ref b_0_273)])) rfl (by rw [hml]; rfl) [(.long ve), (.int vf)] [] rfl (lenOf pd__JI_V rfl) rfl (hb hby at_62) 0 (by show 2 * 0 + _ ≤ _; exact Nat.le_of_eq rfl) (by decide) (by decide) (by decide) (by decide)
      obtain ⟨rfl, Nq_0_292, Kc_0_292, f_0_293, f_0_294, f_0_295, f_0_296, f_0_297, f_0_298, f_0_299, f_0_300, f_0_301⟩ := hQ_0_292
      have f_0_302 := f_0_291.keep Kc_0_292
      have Z_0_292 : n0 ≤ h_0_292.size := Nat.le_trans Z_0_281 Kc_0_292.1
      obtain ⟨lc_0_292, N_0_292, X_0_292⟩ : ∃ L, Fr n0 L ∧ Stand p l e room_1 s m #[(.int va), (.long vb), (.int vc), (.int vd), (.long ve), (.int vf)] below meth c T_0_292 L 3 11 := ⟨_, Fr.app N_0_281 Nq_0_292, X_0_292⟩
      refine ogo (fun _ k => st_0_292 _ k) ?_
      show OGo _ _ _ _ (T_0_292.setTop (mkF m 65 #[.val (.int va), .val (.long vb), .second, .val (.int vc), .val (.int vd), .val (.long ve), .second, .val (.int vf), .val (.int (1 : Int32)), .val (.int w_0_173), .val (.int (1 : Int32)), .val (.ref b_0_273), .unset, .unset, .unset] []))
      refine ogo (fun _ k => XS.iload X_0_292.here hx rfl (hb hby at_65) rfl k) ?_
      show OGo _ _ _ _ (T_0_292.setTop (mkF m 67 #[.val (.int va), .val (.long vb), .second, .val (.int vc), .val (.int vd), .val (.long ve), .second, .val (.int vf), .val (.int (1 : Int32)), .val (.int w_0_173), .val (.int (1 : Int32)), .val (.ref b_0_273), .unset, .unset, .unset] [(.int (1 : Int32))]))
      refine ogo (fun _ k => XS.ifNo X_0_292.here hx rfl (hb hby at_67) rfl ((if0 _ _).trans (feq (by decide : ¬ ((1 : Int32) = (0 : Int32)))).1) k) ?_
      show OGo _ _ _ _ (T_0_292.setTop (mkF m 70 #[.val (.int va), .val (.long vb), .second, .val (.int vc), .val (.int vd), .val (.long ve), .second, .val (.int vf), .val (.int (1 : Int32)), .val (.int w_0_173), .val (.int (1 : Int32)), .val (.ref b_0_273), .unset, .unset, .unset] []))
      refine ogo (fun _ k => XS.aload X_0_292.here hx rfl (hb hby at_70) rfl rfl k) ?_
      show OGo _ _ _ _ (T_0_292.setTop (mkF m 72 #[.val (.int va), .val (.long vb), .second, .val (.int vc), .val (.int vd), .val (.long ve), .second, .val (.int vf), .val (.int (1 : Int32)), .val (.int w_0_173), .val (.int (1 : Int32)), .val (.ref b_0_273), .unset, .unset, .unset] [(.ref b_0_273)]))
      refine ogo (fun _ k => XS.iloadN X_0_292.here hx rfl (hb hby at_72) rfl k) ?_
      show OGo _ _ _ _ (T_0_292.setTop (mkF m 73 #[.val (.int va), .val (.long vb), .second, .val (.int vc), .val (.int vd), .val (.long ve), .second, .val (.int vf), .val (.int (1 : Int32)), .val (.int w_0_173), .val (.int (1 : Int32)), .val (.ref b_0_273), .unset, .unset, .unset] [(.int va), (.ref b_0_273)]))
      refine ogo (fun _ k => XS.iconst X_0_292.here hx rfl (hb hby at_73) k) ?_
      show OGo _ _ _ _ (T_0_292.setTop (mkF m 74 #[.val (.int va), .val (.long vb), .second, .val (.int vc), .val (.int vd), .val (.long ve), .second, .val (.int vf), .val (.int (1 : Int32)), .val (.int w_0_173), .val (.int (1 : Int32)), .val (.ref b_0_273), .unset, .unset, .unset] [(.int (-1 : Int32)), (.int va), (.ref b_0_273)]))
      refine ogo (fun _ k => XS.ixor X_0_292.here hx rfl (hb hby at_74) rfl k) ?_
      show OGo _ _ _ _ (T_0_292.setTop (mkF m 75 #[.val (.int va), .val (.long vb), .second, .val (.int vc), .val (.int vd), .val (.long ve), .second, .val (.int vf), .val (.int (1 : Int32)), .val (.int w_0_173), .val (.int (1 : Int32)), .val (.ref b_0_273), .unset, .unset, .unset] [(.int (va ^^^ (-1 : Int32))), (.ref b_0_273)]))
      refine ogo (fun _ k => XS.lloadN X_0_292.here hx rfl (hb hby at_75) rfl k) ?_
      show OGo _ _ _ _ (T_0_292.setTop (mkF m 76 #[.val (.int va), .val (.long vb), .second, .val (.int vc), .val (.int vd), .val (.long ve), .second, .val (.int vf), .val (.int (1 : Int32)), .val (.int w_0_173), .val (.int (1 : Int32)), .val (.ref b_0_273), .unset, .unset, .unset] [(.long vb), (.int (va ^^^ (-1 : Int32))), (.ref b_0_273)]))
      refine ogo (fun _ k => X_0_292.ldc2J hx hown (mvT hZ (hw _ (List.mem_of_getElem? (i := 65) rfl))) rfl (hb hby at_76) k) ?_
      show OGo _ _ _ _ (T_0_292.setTop (mkF m 79 #[.val (.int va), .val (.long vb), .second, .val (.int vc), .val (.int vd), .val (.long ve), .second, .val (.int vf), .val (.int (1 : Int32)), .val (.int w_0_173), .val (.int (1 : Int32)), .val (.ref b_0_273), .unset, .unset, .unset] [(.long (-1 : Int64)), (.long vb), (.int (va ^^^ (-1 : Int32))), (.ref b_0_273)]))
      refine ogo (fun _ k => XS.lxor X_0_292.here hx rfl (hb hby at_79) rfl k) ?_
      show OGo _ _ _ _ (T_0_292.setTop (mkF m 80 #[.val (.int va), .val (.long vb), .second, .val (.int vc), .val (.int vd), .val (.long ve), .second, .val (.int vf), .val (.int (1 : Int32)), .val (.int w_0_173), .val (.int (1 : Int32)), .val (.ref b_0_273), .unset, .unset, .unset] [(.long (vb ^^^ (-1 : Int64))), (.int (va ^^^ (-1 : Int32))), (.ref b_0_273)]))
      refine ogo (fun _ k => XS.iloadN X_0_292.here hx rfl (hb hby at_80) rfl k) ?_
      show OGo _ _ _ _ (T_0_292.setTop (mkF m 81 #[.val (.int va), .val (.long vb), .second, .val (.int vc), .val (.int vd), .val (.long ve), .second, .val (.int vf), .val (.int (1 : Int32)), .val (.int w_0_173), .val (.int (1 : Int32)), .val (.ref b_0_273), .unset, .unset, .unset] [(.int vc), (.long (vb ^^^ (-1 : Int64))), (.int (va ^^^ (-1 : Int32))), (.ref b_0_273)]))
      refine ogo (fun _ k => XS.iconst X_0_292.here hx rfl (hb hby at_81) k) ?_
      show OGo _ _ _ _ (T_0_292.setTop (mkF m 82 #[.val (.int va), .val (.long vb), .second, .val (.int vc), .val (.int vd), .val (.long ve), .second, .val (.int vf), .val (.int (1 : Int32)), .val (.int w_0_173), .val (.int (1 : Int32)), .val (.ref b_0_273), .unset, .unset, .unset] [(.int (-1 : Int32)), (.int vc), (.long (vb ^^^ (-1 : Int64))), (.int (va ^^^ (-1 : Int32))), (.ref b_0_273)]))
      refine ogo (fun _ k => XS.ixor X_0_292.here hx rfl (hb hby at_82) rfl k) ?_
      show OGo _ _ _ _ (T_0_292.setTop (mkF m 83 #[.val (.int va), .val (.long vb), .second, .val (.int vc), .val (.int vd), .val (.long ve), .second, .val (.int vf), .val (.int (1 : Int32)), .val (.int w_0_173), .val (.int (1 : Int32)), .val (.ref b_0_273), .unset, .unset, .unset] [(.int (vc ^^^ (-1 : Int32))), (.long (vb ^^^ (-1 : Int64))), (.int (va ^^^ (-1 : Int32))), (.ref b_0_273)]))
      refine ogo (fun _ k => XS.iload X_0_292.here hx rfl (hb hby at_83) rfl k) ?_
      show OGo _ _ _ _ (T_0_292.setTop (mkF m 85 #[.val (.int va), .val (.long vb), .second, .val (.int vc), .val (.int vd), .val (.long ve), .second, .val (.int vf), .val (.int (1 : Int32)), .val (.int w_0_173), .val (.int (1 : Int32)), .val (.ref b_0_273), .unset, .unset, .unset] [(.int w_0_173), (.int (vc ^^^ (-1 : Int32))), (.long (vb ^^^ (-1 : Int64))), (.int (va ^^^ (-1 : Int32))), (.ref b_0_273)]))
      suffices J_0_305 : ∀ (w_0_304 : Int32) (hw_0_304 : w_0_304 = (if w_0_173 = (0 : Int32) then (1 : Int32) else (0 : Int32))), OGo p.tables e below (OFin s (fun v _ L => v = some (.int 1) ∧ Fr n0 L) 16 128) (T_0_292.setTop (mkF m 93 #[.val (.int va), .val (.long vb), .second, .val (.int vc), .val (.int vd), .val (.long ve), .second, .val (.int vf), .val (.int (1 : Int32)), .val (.int w_0_173), .val (.int (1 : Int32)), .val (.ref b_0_273), .unset, .unset, .unset] [(.int w_0_304), (.int (vc ^^^ (-1 : Int32))), (.long (vb ^^^ (-1 : Int64))), (.int (va ^^^ (-1 : Int32))), (.ref b_0_273)])) by
        by_cases hc_0_303 : w_0_173 = (0 : Int32)
        · refine ogo (fun _ k => XS.ifNo X_0_292.here hx rfl (hb hby at_85) rfl ((if0 _ _).trans (teq hc_0_303).2) k) ?_
          show OGo _ _ _ _ (T_0_292.setTop (mkF m 88 #[.val (.int va), .val (.long vb), .second, .val (.int vc), .val (.int vd), .val (.long ve), .second, .val (.int vf), .val (.int (1 : Int32)), .val (.int w_0_173), .val (.int (1 : Int32)), .val (.ref b_0_273), .unset, .unset, .unset] [(.int (vc ^^^ (-1 : Int32))), (.long (vb ^^^ (-1 : Int64))), (.int (va ^^^ (-1 : Int32))), (.ref b_0_273)]))
          refine ogo (fun _ k => XS.iconst X_0_292.here hx rfl (hb hby at_88) k) ?_
          show OGo _ _ _ _ (T_0_292.setTop (mkF m 89 #[.val (.int va), .val (.long vb), .second, .val (.int vc), .val (.int vd), .val (.long ve), .second, .val (.int vf), .val (.int (1 : Int32)), .val (.int w_0_173), .val (.int (1 : Int32)), .val (.ref b_0_273), .unset, .unset, .unset] [(.int (1 : Int32)), (.int (vc ^^^ (-1 : Int32))), (.long (vb ^^^ (-1 : Int64))), (.int (va ^^^ (-1 : Int32))), (.ref b_0_273)]))
          refine ogo (fun _ k => XS.goto X_0_292.here hx rfl (pc0 := 89) (pc' := 93) rfl (hb hby at_89) (by decide) (by decide) k) ?_
          show OGo _ _ _ _ (T_0_292.setTop (mkF m 93 #[.val (.int va), .val (.long vb), .second, .val (.int vc), .val (.int vd), .val (.long ve), .second, .val (.int vf), .val (.int (1 : Int32)), .val (.int w_0_173), .val (.int (1 : Int32)), .val (.ref b_0_273), .unset, .unset, .unset] [(.int (1 : Int32)), (.int (vc ^^^ (-1 : Int32))), (.long (vb ^^^ (-1 : Int64))), (.int (va ^^^ (-1 : Int32))), (.ref b_0_273)]))
          exact J_0_305 _ (if_pos hc_0_303).symm
        · refine ogo (fun _ k => XS.ifYes X_0_292.here hx rfl (pc0 := 85) (pc' := 92) rfl (hb hby at_85) rfl ((if0 _ _).trans (feq hc_0_303).2) (by decide) (by decide) k) ?_
          show OGo _ _ _ _ (T_0_292.setTop (mkF m 92 #[.val (.int va), .val (.long vb), .second, .val (.int vc), .val (.int vd), .val (.long ve), .second, .val (.int vf), .val (.int (1 : Int32)), .val (.int w_0_173), .val (.int (1 : Int32)), .val (.ref b_0_273), .unset, .unset, .unset] [(.int (vc ^^^ (-1 : Int32))), (.long (vb ^^^ (-1 : Int64))), (.int (va ^^^ (-1 : Int32))), (.ref b_0_273)]))
          refine ogo (fun _ k => XS.iconst X_0_292.here hx rfl (hb hby at_92) k) ?_
          show OGo _ _ _ _ (T_0_292.setTop (mkF m 93 #[.val (.int va), .val (.long vb), .second, .val (.int vc), .val (.int vd), .val (.long ve), .second, .val (.int vf), .val (.int (1 : Int32)), .val (.int w_0_173), .val (.int (1 : Int32)), .val (.ref b_0_273), .unset, .unset, .unset] [(.int (0 : Int32)), (.int (vc ^^^ (-1 : Int32))), (.long (vb ^^^ (-1 : Int64))), (.int (va ^^^ (-1 : Int32))), (.ref b_0_273)]))
          exact J_0_305 _ (if_neg hc_0_303).symm
      intro w_0_304 hw_0_304
      obtain ⟨v_0_307, T_0_307, h_0_307, L_0_307, e_0_307, hQ_0_307, X_0_307, st_0_307⟩ := ovirtQ X_0_292 hx hZ e_0_292 (rm3 l Z a0 hw b_0_273 (va ^^^ (-1 : Int32)) (vb ^^^ (-1 : Int64)) (vc ^^^ (-1 : Int32)) w_0_304 (0 : Int32) (0 : Int64) (-1 : Int32) (0 : Int32) (1 : Int32) sa_0_281 na_0_281 h_0_292 n0 Z_0_292 f_0_302 f_0_293 f_0_294 f_0_295 f_0_296 f_0_297 f_0_298 f_0_299 g_b_0_273 (by rw [hw_0_304]; repeat' first | decide | apply oif01)) hown (hw _ (List.mem_of_getElem? (i := 17) rfl)) (hw _ (List.mem_of_getElem? (i := 18) rfl)) (hw _ (List.mem_of_getElem? (i := 20) rfl)) (hw _ (List.mem_of_getElem? (i := 19) rfl)) (hw _ (List.mem_of_getElem? (i := 2) rfl)) (hw _ (List.mem_of_getElem? (i := 21) rfl)) (by decide) f_0_302 (g := (mkF m 93 #[.val (.int va), .val (.long vb), .second, .val (.int vc), .val (.int vd), .val (.long ve), .second, .val (.int vf), .val (.int (1 : Int32)), .val (.int w_0_173), .val (.int (1 : Int32)), .val (.ref b_0_273), .unset, .unset, .unset] [(.int w_0_304), (.int (vc ^^^ (-1 : Int32))), (.long (vb ^^^ (-1 : Int64))), (.int (va ^^^ (-1 : Int32))), (.ref b_0_273)])) rfl (by rw [hml]; rfl) [(.int (va ^^^ (-1 : Int32))), (.long (vb ^^^ (-1 : Int64))), (.int (vc ^^^ (-1 : Int32))), (.int w_0_304)] [] rfl (lenOf pd__IJIZ_V rfl) rfl (hb hby at_93) 0 (by show 2 * 0 + _ ≤ _; exact Nat.le_of_eq rfl) (by decide) (by decide) (by decide) (by decide)
      obtain ⟨rfl, Nq_0_307, Kc_0_307, f_0_308, f_0_309, f_0_310, f_0_311, f_0_312, f_0_313, f_0_314⟩ := hQ_0_307
      have f_0_315 := f_0_302.keep Kc_0_307
      have f_0_316 := f_0_300.keep Kc_0_307 (ninS (Ne.symm ne_1_0_281) nin0)
      have f_0_317 := f_0_301.keep Kc_0_307 (ninS (Ne.symm ne_2_0_281) nin0)
      have Z_0_307 : n0 ≤ h_0_307.size := Nat.le_trans Z_0_292 Kc_0_307.1
      obtain ⟨lc_0_307, N_0_307, X_0_307⟩ : ∃ L, Fr n0 L ∧ Stand p l e room_1 s m #[(.int va), (.long vb), (.int vc), (.int vd), (.long ve), (.int vf)] below meth c T_0_307 L 3 11 := ⟨_, Fr.app N_0_292 Nq_0_307, X_0_307⟩
      refine ogo (fun _ k => st_0_307 _ k) ?_
      show OGo _ _ _ _ (T_0_307.setTop (mkF m 96 #[.val (.int va), .val (.long vb), .second, .val (.int vc), .val (.int vd), .val (.long ve), .second, .val (.int vf), .val (.int (1 : Int32)), .val (.int w_0_173), .val (.int (1 : Int32)), .val (.ref b_0_273), .unset, .unset, .unset] []))
      refine ogo (fun _ k => XS.aload X_0_307.here hx rfl (hb hby at_96) rfl rfl k) ?_
      show OGo _ _ _ _ (T_0_307.setTop (mkF m 98 #[.val (.int va), .val (.long vb), .second, .val (.int vc), .val (.int vd), .val (.long ve), .second, .val (.int vf), .val (.int (1 : Int32)), .val (.int w_0_173), .val (.int (1 : Int32)), .val (.ref b_0_273), .unset, .unset, .unset] [(.ref b_0_273)]))
      refine ogo (fun _ k => XS.iloadN X_0_307.here hx rfl (hb hby at_98) rfl k) ?_
      show OGo _ _ _ _ (T_0_307.setTop (mkF m 99 #[.val (.int va), .val (.long vb), .second, .val (.int vc), .val (.int vd), .val (.long ve), .second, .val (.int vf), .val (.int (1 : Int32)), .val (.int w_0_173), .val (.int (1 : Int32)), .val (.ref b_0_273), .unset, .unset, .unset] [(.int va), (.ref b_0_273)]))
      refine ogo (fun _ k => XS.lloadN X_0_307.here hx rfl (hb hby at_99) rfl k) ?_
      show OGo _ _ _ _ (T_0_307.setTop (mkF m 100 #[.val (.int va), .val (.long vb), .second, .val (.int vc), .val (.int vd), .val (.long ve), .second, .val (.int vf), .val (.int (1 : Int32)), .val (.int w_0_173), .val (.int (1 : Int32)), .val (.ref b_0_273), .unset, .unset, .unset] [(.long vb), (.int va), (.ref b_0_273)]))
      refine ogo (fun _ k => XS.iloadN X_0_307.here hx rfl (hb hby at_100) rfl k) ?_
      show OGo _ _ _ _ (T_0_307.setTop (mkF m 101 #[.val (.int va), .val (.long vb), .second, .val (.int vc), .val (.int vd), .val (.long ve), .second, .val (.int vf), .val (.int (1 : Int32)), .val (.int w_0_173), .val (.int (1 : Int32)), .val (.ref b_0_273), .unset, .unset, .unset] [(.int vc), (.long vb), (.int va), (.ref b_0_273)]))
      refine ogo (fun _ k => XS.iload X_0_307.here hx rfl (hb hby at_101) rfl k) ?_
      show OGo _ _ _ _ (T_0_307.setTop (mkF m 103 #[.val (.int va), .val (.long vb), .second, .val (.int vc), .val (.int vd), .val (.long ve), .second, .val (.int vf), .val (.int (1 : Int32)), .val (.int w_0_173), .val (.int (1 : Int32)), .val (.ref b_0_273), .unset, .unset, .unset] [(.int w_0_173), (.int vc), (.long vb), (.int va), (.ref b_0_273)]))
      obtain ⟨v_0_318, T_0_318, h_0_318, L_0_318, e_0_318, hQ_0_318, X_0_318, st_0_318⟩ := ovirtQ X_0_307 hx hZ e_0_307 (rm3 l Z a0 hw b_0_273 va vb vc w_0_173 (va ^^^ (-1 : Int32)) (vb ^^^ (-1 : Int64)) (vc ^^^ (-1 : Int32)) w_0_304 (1 : Int32) sa_0_281 na_0_281 h_0_307 n0 Z_0_307 f_0_315 f_0_308 f_0_309 f_0_310 f_0_311 f_0_312 f_0_313 f_0_314 g_b_0_273 (by rw [hw_0_173]; repeat' first | decide | apply oif01)) hown (hw _ (List.mem_of_getElem? (i := 17) rfl)) (hw _ (List.mem_of_getElem? (i := 18) rfl)) (hw _ (List.mem_of_getElem? (i := 20) rfl)) (hw _ (List.mem_of_getElem? (i := 19) rfl)) (hw _ (List.mem_of_getElem? (i := 2) rfl)) (hw _ (List.mem_of_getElem? (i := 21) rfl)) (by decide) f_0_315 (g := (mkF m 103 #[.val (.int va), .val (.long vb), .second, .val (.int vc), .val (.int vd), .val (.long ve), .second, .val (.int vf), .val (.int (1 : Int32)), .val (.int w_0_173), .val (.int (1 : Int32)), .val (.ref b_0_273), .unset, .unset, .unset] [(.int w_0_173), (.int vc), (.long vb), (.int va), (.ref b_0_273)])) rfl (by rw [hml]; rfl) [(.int va), (.long vb), (.int vc), (.int w_0_173)] [] rfl (lenOf pd__IJIZ_V rfl) rfl (hb hby at_103) 0 (by show 2 * 0 + _ ≤ _; exact Nat.le_of_eq rfl) (by decide) (by decide) (by decide) (by decide)
      obtain ⟨rfl, Nq_0_318, Kc_0_318, f_0_319, f_0_320, f_0_321, f_0_322, f_0_323, f_0_324, f_0_325⟩ := hQ_0_318
      have f_0_326 := f_0_315.keep Kc_0_318
      have f_0_327 := f_0_316.keep Kc_0_318 (ninS (Ne.symm ne_1_0_281) nin0)
      have f_0_328 := f_0_317.keep Kc_0_318 (ninS (Ne.symm ne_2_0_281) nin0)
      have Z_0_318 : n0 ≤ h_0_318.size := Nat.le_trans Z_0_307 Kc_0_318.1
      obtain ⟨lc_0_318, N_0_318, X_0_318⟩ : ∃ L, Fr n0 L ∧ Stand p l e room_1 s m #[(.int va), (.long vb), (.int vc), (.int vd), (.long ve), (.int vf)] below meth c T_0_318 L 3 11 := ⟨_, Fr.app N_0_307 Nq_0_318, X_0_318⟩
      refine ogo (fun _ k => st_0_318 _ k) ?_
      show OGo _ _ _ _ (T_0_318.setTop (mkF m 106 #[.val (.int va), .val (.long vb), .second, .val (.int vc), .val (.int vd), .val (.long ve), .second, .val (.int vf), .val (.int (1 : Int32)), .val (.int w_0_173), .val (.int (1 : Int32)), .val (.ref b_0_273), .unset, .unset, .unset] []))
      refine ogo (fun _ k => XS.aload X_0_318.here hx rfl (hb hby at_106) rfl rfl k) ?_
      show OGo _ _ _ _ (T_0_318.setTop (mkF m 108 #[.val (.int va), .val (.long vb), .second, .val (.int vc), .val (.int vd), .val (.long ve), .second, .val (.int vf), .val (.int (1 : Int32)), .val (.int w_0_173), .val (.int (1 : Int32)), .val (.ref b_0_273), .unset, .unset, .unset] [(.ref b_0_273)]))
      obtain ⟨T_0_329, X_0_329, e_0_329, st_0_329⟩ := ovirtP X_0_318 hx hZ e_0_318 (rm4 l Z a0 hw b_0_273 va h_0_318 f_0_319) hown (hw _ (List.mem_of_getElem? (i := 28) rfl)) (hw _ (List.mem_of_getElem? (i := 29) rfl)) (hw _ (List.mem_of_getElem? (i := 31) rfl)) (hw _ (List.mem_of_getElem? (i := 30) rfl)) (hw _ (List.mem_of_getElem? (i := 2) rfl)) (hw _ (List.mem_of_getElem? (i := 32) rfl)) (by decide) f_0_326 (g := (mkF m 108 #[.val (.int va), .val (.long vb), .second, .val (.int vc), .val (.int vd), .val (.long ve), .second, .val (.int vf), .val (.int (1 : Int32)), .val (.int w_0_173), .val (.int (1 : Int32)), .val (.ref b_0_273), .unset, .unset, .unset] [(.ref b_0_273)])) rfl (by rw [hml]; rfl) [] [] rfl (lenOf pd___I rfl) rfl (hb hby at_108) 0 (by show 2 * 0 + _ ≤ _; exact Nat.le_of_eq rfl) (by decide) (by decide) (by decide) (by decide) rfl rfl
      refine ogo (fun _ k => st_0_329 _ k) ?_
      show OGo _ _ _ _ (T_0_329.setTop (mkF m 111 #[.val (.int va), .val (.long vb), .second, .val (.int vc), .val (.int vd), .val (.long ve), .second, .val (.int vf), .val (.int (1 : Int32)), .val (.int w_0_173), .val (.int (1 : Int32)), .val (.ref b_0_273), .unset, .unset, .unset] [(.int (failuresF va))]))
      refine ogo (fun _ k => XS.iloadN X_0_329.here hx rfl (hb hby at_111) rfl k) ?_
      show OGo _ _ _ _ (T_0_329.setTop (mkF m 112 #[.val (.int va), .val (.long vb), .second, .val (.int vc), .val (.int vd), .val (.long ve), .second, .val (.int vf), .val (.int (1 : Int32)), .val (.int w_0_173), .val (.int (1 : Int32)), .val (.ref b_0_273), .unset, .unset, .unset] [(.int va), (.int (failuresF va))]))
      suffices J_0_347 : ∀ (w_0_346 : Int32) (hw_0_346 : w_0_346 = (if (failuresF va) = va then (if (secondF vb) = vb then (if (nanoF vc) = vc then (if (refusedF w_0_173) = w_0_173 then (1 : Int32) else (0 : Int32)) else (0 : Int32)) else (0 : Int32)) else (0 : Int32))) (T_0_348 : State) (X_0_348 : Stand p l e room_1 s m #[(.int va), (.long vb), (.int vc), (.int vd), (.long ve), (.int vf)] below meth c T_0_348 lc_0_318 3 11) (e_0_348 : T_0_348.heap = h_0_318), OGo p.tables e below (OFin s (fun v _ L => v = some (.int 1) ∧ Fr n0 L) 16 128) (T_0_348.setTop (mkF m 149 #[.val (.int va), .val (.long vb), .second, .val (.int vc), .val (.int vd), .val (.long ve), .second, .val (.int vf), .val (.int (1 : Int32)), .val (.int w_0_173), .val (.int (1 : Int32)), .val (.ref b_0_273), .unset, .unset, .unset] [(.int w_0_346)])) by
        by_cases hc_0_330 : (failuresF va) = va
        · refine ogo (fun _ k => XS.icmpNo X_0_329.here hx rfl (hb hby at_112) rfl (teq hc_0_330).2 k) ?_
          show OGo _ _ _ _ (T_0_329.setTop (mkF m 115 #[.val (.int va), .val (.long vb), .second, .val (.int vc), .val (.int vd), .val (.long ve), .second, .val (.int vf), .val (.int (1 : Int32)), .val (.int w_0_173), .val (.int (1 : Int32)), .val (.ref b_0_273), .unset, .unset, .unset] []))
          refine ogo (fun _ k => XS.aload X_0_329.here hx rfl (hb hby at_115) rfl rfl k) ?_
          show OGo _ _ _ _ (T_0_329.setTop (mkF m 117 #[.val (.int va), .val (.long vb), .second, .val (.int vc), .val (.int vd), .val (.long ve), .second, .val (.int vf), .val (.int (1 : Int32)), .val (.int w_0_173), .val (.int (1 : Int32)), .val (.ref b_0_273), .unset, .unset, .unset] [(.ref b_0_273)]))
          obtain ⟨T_0_331, X_0_331, e_0_331, st_0_331⟩ := ovirtP X_0_329 hx hZ e_0_329 (rm5 l Z a0 hw b_0_273 vb h_0_318 f_0_320) hown (hw _ (List.mem_of_getElem? (i := 33) rfl)) (hw _ (List.mem_of_getElem? (i := 34) rfl)) (hw _ (List.mem_of_getElem? (i := 36) rfl)) (hw _ (List.mem_of_getElem? (i := 35) rfl)) (hw _ (List.mem_of_getElem? (i := 2) rfl)) (hw _ (List.mem_of_getElem? (i := 37) rfl)) (by decide) f_0_326 (g := (mkF m 117 #[.val (.int va), .val (.long vb), .second, .val (.int vc), .val (.int vd), .val (.long ve), .second, .val (.int vf), .val (.int (1 : Int32)), .val (.int w_0_173), .val (.int (1 : Int32)), .val (.ref b_0_273), .unset, .unset, .unset] [(.ref b_0_273)])) rfl (by rw [hml]; rfl) [] [] rfl (lenOf pd___J rfl) rfl (hb hby at_117) 0 (by show 2 * 0 + _ ≤ _; exact Nat.le_of_eq rfl) (by decide) (by decide) (by decide) (by decide) rfl rfl
          refine ogo (fun _ k => st_0_331 _ k) ?_
          show OGo _ _ _ _ (T_0_331.setTop (mkF m 120 #[.val (.int va), .val (.long vb), .second, .val (.int vc), .val (.int vd), .val (.long ve), .second, .val (.int vf), .val (.int (1 : Int32)), .val (.int w_0_173), .val (.int (1 : Int32)), .val (.ref b_0_273), .unset, .unset, .unset] [(.long (secondF vb))]))
          refine ogo (fun _ k => XS.lloadN X_0_331.here hx rfl (hb hby at_120) rfl k) ?_
          show OGo _ _ _ _ (T_0_331.setTop (mkF m 121 #[.val (.int va), .val (.long vb), .second, .val (.int vc), .val (.int vd), .val (.long ve), .second, .val (.int vf), .val (.int (1 : Int32)), .val (.int w_0_173), .val (.int (1 : Int32)), .val (.ref b_0_273), .unset, .unset, .unset] [(.long vb), (.long (secondF vb))]))
          refine ogo (fun _ k => XS.lcmp X_0_331.here hx rfl (hb hby at_121) rfl k) ?_
          show OGo _ _ _ _ (T_0_331.setTop (mkF m 122 #[.val (.int va), .val (.long vb), .second, .val (.int vc), .val (.int vd), .val (.long ve), .second, .val (.int vf), .val (.int (1 : Int32)), .val (.int w_0_173), .val (.int (1 : Int32)), .val (.ref b_0_273), .unset, .unset, .unset] [(.int (lcmpW (secondF vb) vb))]))
          suffices J_0_344 : ∀ (w_0_343 : Int32) (hw_0_343 : w_0_343 = (if (secondF vb) = vb then (if (nanoF vc) = vc then (if (refusedF w_0_173) = w_0_173 then (1 : Int32) else (0 : Int32)) else (0 : Int32)) else (0 : Int32))) (T_0_345 : State) (X_0_345 : Stand p l e room_1 s m #[(.int va), (.long vb), (.int vc), (.int vd), (.long ve), (.int vf)] below meth c T_0_345 lc_0_318 3 11) (e_0_345 : T_0_345.heap = h_0_318), OGo p.tables e below (OFin s (fun v _ L => v = some (.int 1) ∧ Fr n0 L) 16 128) (T_0_345.setTop (mkF m 149 #[.val (.int va), .val (.long vb), .second, .val (.int vc), .val (.int vd), .val (.long ve), .second, .val (.int vf), .val (.int (1 : Int32)), .val (.int w_0_173), .val (.int (1 : Int32)), .val (.ref b_0_273), .unset, .unset, .unset] [(.int w_0_343)])) by
            by_cases hc_0_332 : (secondF vb) = vb
            · refine ogo (fun _ k => XS.ifNo X_0_331.here hx rfl (hb hby at_122) rfl ((if0 _ _).trans (teq ((lw_eq _ _).mpr hc_0_332)).2) k) ?_
              show OGo _ _ _ _ (T_0_331.setTop (mkF m 125 #[.val (.int va), .val (.long vb), .second, .val (.int vc), .val (.int vd), .val (.long ve), .second, .val (.int vf), .val (.int (1 : Int32)), .val (.int w_0_173), .val (.int (1 : Int32)), .val (.ref b_0_273), .unset, .unset, .unset] []))
              refine ogo (fun _ k => XS.aload X_0_331.here hx rfl (hb hby at_125) rfl rfl k) ?_
              show OGo _ _ _ _ (T_0_331.setTop (mkF m 127 #[.val (.int va), .val (.long vb), .second, .val (.int vc), .val (.int vd), .val (.long ve), .second, .val (.int vf), .val (.int (1 : Int32)), .val (.int w_0_173), .val (.int (1 : Int32)), .val (.ref b_0_273), .unset, .unset, .unset] [(.ref b_0_273)]))
              obtain ⟨T_0_333, X_0_333, e_0_333, st_0_333⟩ := ovirtP X_0_331 hx hZ e_0_331 (rm6 l Z a0 hw b_0_273 vc h_0_318 f_0_321) hown (hw _ (List.mem_of_getElem? (i := 38) rfl)) (hw _ (List.mem_of_getElem? (i := 39) rfl)) (hw _ (List.mem_of_getElem? (i := 41) rfl)) (hw _ (List.mem_of_getElem? (i := 40) rfl)) (hw _ (List.mem_of_getElem? (i := 2) rfl)) (hw _ (List.mem_of_getElem? (i := 42) rfl)) (by decide) f_0_326 (g := (mkF m 127 #[.val (.int va), .val (.long vb), .second, .val (.int vc), .val (.int vd), .val (.long ve), .second, .val (.int vf), .val (.int (1 : Int32)), .val (.int w_0_173), .val (.int (1 : Int32)), .val (.ref b_0_273), .unset, .unset, .unset] [(.ref b_0_273)])) rfl (by rw [hml]; rfl) [] [] rfl (lenOf pd___I rfl) rfl (hb hby at_127) 0 (by show 2 * 0 + _ ≤ _; exact Nat.le_of_eq rfl) (by decide) (by decide) (by decide) (by decide) rfl rfl
              refine ogo (fun _ k => st_0_333 _ k) ?_
              show OGo _ _ _ _ (T_0_333.setTop (mkF m 130 #[.val (.int va), .val (.long vb), .second, .val (.int vc), .val (.int vd), .val (.long ve), .second, .val (.int vf), .val (.int (1 : Int32)), .val (.int w_0_173), .val (.int (1 : Int32)), .val (.ref b_0_273), .unset, .unset, .unset] [(.int (nanoF vc))]))
              refine ogo (fun _ k => XS.iloadN X_0_333.here hx rfl (hb hby at_130) rfl k) ?_
              show OGo _ _ _ _ (T_0_333.setTop (mkF m 131 #[.val (.int va), .val (.long vb), .second, .val (.int vc), .val (.int vd), .val (.long ve), .second, .val (.int vf), .val (.int (1 : Int32)), .val (.int w_0_173), .val (.int (1 : Int32)), .val (.ref b_0_273), .unset, .unset, .unset] [(.int vc), (.int (nanoF vc))]))
              suffices J_0_341 : ∀ (w_0_340 : Int32) (hw_0_340 : w_0_340 = (if (nanoF vc) = vc then (if (refusedF w_0_173) = w_0_173 then (1 : Int32) else (0 : Int32)) else (0 : Int32))) (T_0_342 : State) (X_0_342 : Stand p l e room_1 s m #[(.int va), (.long vb), (.int vc), (.int vd), (.long ve), (.int vf)] below meth c T_0_342 lc_0_318 3 11) (e_0_342 : T_0_342.heap = h_0_318), OGo p.tables e below (OFin s (fun v _ L => v = some (.int 1) ∧ Fr n0 L) 16 128) (T_0_342.setTop (mkF m 149 #[.val (.int va), .val (.long vb), .second, .val (.int vc), .val (.int vd), .val (.long ve), .second, .val (.int vf), .val (.int (1 : Int32)), .val (.int w_0_173), .val (.int (1 : Int32)), .val (.ref b_0_273), .unset, .unset, .unset] [(.int w_0_340)])) by
                by_cases hc_0_334 : (nanoF vc) = vc
                · refine ogo (fun _ k => XS.icmpNo X_0_333.here hx rfl (hb hby at_131) rfl (teq hc_0_334).2 k) ?_
                  show OGo _ _ _ _ (T_0_333.setTop (mkF m 134 #[.val (.int va), .val (.long vb), .second, .val (.int vc), .val (.int vd), .val (.long ve), .second, .val (.int vf), .val (.int (1 : Int32)), .val (.int w_0_173), .val (.int (1 : Int32)), .val (.ref b_0_273), .unset, .unset, .unset] []))
                  refine ogo (fun _ k => XS.aload X_0_333.here hx rfl (hb hby at_134) rfl rfl k) ?_
                  show OGo _ _ _ _ (T_0_333.setTop (mkF m 136 #[.val (.int va), .val (.long vb), .second, .val (.int vc), .val (.int vd), .val (.long ve), .second, .val (.int vf), .val (.int (1 : Int32)), .val (.int w_0_173), .val (.int (1 : Int32)), .val (.ref b_0_273), .unset, .unset, .unset] [(.ref b_0_273)]))
                  obtain ⟨T_0_335, X_0_335, e_0_335, st_0_335⟩ := ovirtP X_0_333 hx hZ e_0_333 (rm7 l Z a0 hw b_0_273 w_0_173 h_0_318 f_0_322 (by rw [hw_0_173]; repeat' first | decide | apply oif01)) hown (hw _ (List.mem_of_getElem? (i := 43) rfl)) (hw _ (List.mem_of_getElem? (i := 44) rfl)) (hw _ (List.mem_of_getElem? (i := 46) rfl)) (hw _ (List.mem_of_getElem? (i := 45) rfl)) (hw _ (List.mem_of_getElem? (i := 2) rfl)) (hw _ (List.mem_of_getElem? (i := 47) rfl)) (by decide) f_0_326 (g := (mkF m 136 #[.val (.int va), .val (.long vb), .second, .val (.int vc), .val (.int vd), .val (.long ve), .second, .val (.int vf), .val (.int (1 : Int32)), .val (.int w_0_173), .val (.int (1 : Int32)), .val (.ref b_0_273), .unset, .unset, .unset] [(.ref b_0_273)])) rfl (by rw [hml]; rfl) [] [] rfl (lenOf pd___Z rfl) rfl (hb hby at_136) 0 (by show 2 * 0 + _ ≤ _; exact Nat.le_of_eq rfl) (by decide) (by decide) (by decide) (by decide) rfl rfl
                  refine ogo (fun _ k => st_0_335 _ k) ?_
                  show OGo _ _ _ _ (T_0_335.setTop (mkF m 139 #[.val (.int va), .val (.long vb), .second, .val (.int vc), .val (.int vd), .val (.long ve), .second, .val (.int vf), .val (.int (1 : Int32)), .val (.int w_0_173), .val (.int (1 : Int32)), .val (.ref b_0_273), .unset, .unset, .unset] [(.int (refusedF w_0_173))]))
                  refine ogo (fun _ k => XS.iload X_0_335.here hx rfl (hb hby at_139) rfl k) ?_
                  show OGo _ _ _ _ (T_0_335.setTop (mkF m 141 #[.val (.int va), .val (.long vb), .second, .val (.int vc), .val (.int vd), .val (.long ve), .second, .val (.int vf), .val (.int (1 : Int32)), .val (.int w_0_173), .val (.int (1 : Int32)), .val (.ref b_0_273), .unset, .unset, .unset] [(.int w_0_173), (.int (refusedF w_0_173))]))
                  suffices J_0_338 : ∀ (w_0_337 : Int32) (hw_0_337 : w_0_337 = (if (refusedF w_0_173) = w_0_173 then (1 : Int32) else (0 : Int32))), OGo p.tables e below (OFin s (fun v _ L => v = some (.int 1) ∧ Fr n0 L) 16 128) (T_0_335.setTop (mkF m 149 #[.val (.int va), .val (.long vb), .second, .val (.int vc), .val (.int vd), .val (.long ve), .second, .val (.int vf), .val (.int (1 : Int32)), .val (.int w_0_173), .val (.int (1 : Int32)), .val (.ref b_0_273), .unset, .unset, .unset] [(.int w_0_337)])) by
                    by_cases hc_0_336 : (refusedF w_0_173) = w_0_173
                    · refine ogo (fun _ k => XS.icmpNo X_0_335.here hx rfl (hb hby at_141) rfl (teq hc_0_336).2 k) ?_
                      show OGo _ _ _ _ (T_0_335.setTop (mkF m 144 #[.val (.int va), .val (.long vb), .second, .val (.int vc), .val (.int vd), .val (.long ve), .second, .val (.int vf), .val (.int (1 : Int32)), .val (.int w_0_173), .val (.int (1 : Int32)), .val (.ref b_0_273), .unset, .unset, .unset] []))
                      refine ogo (fun _ k => XS.iconst X_0_335.here hx rfl (hb hby at_144) k) ?_
                      show OGo _ _ _ _ (T_0_335.setTop (mkF m 145 #[.val (.int va), .val (.long vb), .second, .val (.int vc), .val (.int vd), .val (.long ve), .second, .val (.int vf), .val (.int (1 : Int32)), .val (.int w_0_173), .val (.int (1 : Int32)), .val (.ref b_0_273), .unset, .unset, .unset] [(.int (1 : Int32))]))
                      refine ogo (fun _ k => XS.goto X_0_335.here hx rfl (pc0 := 145) (pc' := 149) rfl (hb hby at_145) (by decide) (by decide) k) ?_
                      show OGo _ _ _ _ (T_0_335.setTop (mkF m 149 #[.val (.int va), .val (.long vb), .second, .val (.int vc), .val (.int vd), .val (.long ve), .second, .val (.int vf), .val (.int (1 : Int32)), .val (.int w_0_173), .val (.int (1 : Int32)), .val (.ref b_0_273), .unset, .unset, .unset] [(.int (1 : Int32))]))
                      exact J_0_338 _ (if_pos hc_0_336).symm
                    · refine ogo (fun _ k => XS.icmpYes X_0_335.here hx rfl (pc0 := 141) (pc' := 148) rfl (hb hby at_141) rfl (feq hc_0_336).2 (by decide) (by decide) k) ?_
                      show OGo _ _ _ _ (T_0_335.setTop (mkF m 148 #[.val (.int va), .val (.long vb), .second, .val (.int vc), .val (.int vd), .val (.long ve), .second, .val (.int vf), .val (.int (1 : Int32)), .val (.int w_0_173), .val (.int (1 : Int32)), .val (.ref b_0_273), .unset, .unset, .unset] []))
                      refine ogo (fun _ k => XS.iconst X_0_335.here hx rfl (hb hby at_148) k) ?_
                      show OGo _ _ _ _ (T_0_335.setTop (mkF m 149 #[.val (.int va), .val (.long vb), .second, .val (.int vc), .val (.int vd), .val (.long ve), .second, .val (.int vf), .val (.int (1 : Int32)), .val (.int w_0_173), .val (.int (1 : Int32)), .val (.ref b_0_273), .unset, .unset, .unset] [(.int (0 : Int32))]))
                      exact J_0_338 _ (if_neg hc_0_336).symm
                  intro w_0_337 hw_0_337
                  subst hw_0_337
                  exact J_0_341 _ (if_pos hc_0_334).symm _ X_0_335 e_0_335
                · refine ogo (fun _ k => XS.icmpYes X_0_333.here hx rfl (pc0 := 131) (pc' := 148) rfl (hb hby at_131) rfl (feq hc_0_334).2 (by decide) (by decide) k) ?_
                  show OGo _ _ _ _ (T_0_333.setTop (mkF m 148 #[.val (.int va), .val (.long vb), .second, .val (.int vc), .val (.int vd), .val (.long ve), .second, .val (.int vf), .val (.int (1 : Int32)), .val (.int w_0_173), .val (.int (1 : Int32)), .val (.ref b_0_273), .unset, .unset, .unset] []))
                  refine ogo (fun _ k => XS.iconst X_0_333.here hx rfl (hb hby at_148) k) ?_
                  show OGo _ _ _ _ (T_0_333.setTop (mkF m 149 #[.val (.int va), .val (.long vb), .second, .val (.int vc), .val (.int vd), .val (.long ve), .second, .val (.int vf), .val (.int (1 : Int32)), .val (.int w_0_173), .val (.int (1 : Int32)), .val (.ref b_0_273), .unset, .unset, .unset] [(.int (0 : Int32))]))
                  exact J_0_341 _ (if_neg hc_0_334).symm _ X_0_333 e_0_333
              intro w_0_340 hw_0_340 T_0_342 X_0_342 e_0_342
              subst hw_0_340
              exact J_0_344 _ (if_pos hc_0_332).symm _ X_0_342 e_0_342
            · refine ogo (fun _ k => XS.ifYes X_0_331.here hx rfl (pc0 := 122) (pc' := 148) rfl (hb hby at_122) rfl ((if0 _ _).trans (feq (fun q => hc_0_332 ((lw_eq _ _).mp q))).2) (by decide) (by decide) k) ?_
              show OGo _ _ _ _ (T_0_331.setTop (mkF m 148 #[.val (.int va), .val (.long vb), .second, .val (.int vc), .val (.int vd), .val (.long ve), .second, .val (.int vf), .val (.int (1 : Int32)), .val (.int w_0_173), .val (.int (1 : Int32)), .val (.ref b_0_273), .unset, .unset, .unset] []))
              refine ogo (fun _ k => XS.iconst X_0_331.here hx rfl (hb hby at_148) k) ?_
              show OGo _ _ _ _ (T_0_331.setTop (mkF m 149 #[.val (.int va), .val (.long vb), .second, .val (.int vc), .val (.int vd), .val (.long ve), .second, .val (.int vf), .val (.int (1 : Int32)), .val (.int w_0_173), .val (.int (1 : Int32)), .val (.ref b_0_273), .unset, .unset, .unset] [(.int (0 : Int32))]))
              exact J_0_344 _ (if_neg hc_0_332).symm _ X_0_331 e_0_331
          intro w_0_343 hw_0_343 T_0_345 X_0_345 e_0_345
          subst hw_0_343
          exact J_0_347 _ (if_pos hc_0_330).symm _ X_0_345 e_0_345
        · refine ogo (fun _ k => XS.icmpYes X_0_329.here hx rfl (pc0 := 112) (pc' := 148) rfl (hb hby at_112) rfl (feq hc_0_330).2 (by decide) (by decide) k) ?_
          show OGo _ _ _ _ (T_0_329.setTop (mkF m 148 #[.val (.int va), .val (.long vb), .second, .val (.int vc), .val (.int vd), .val (.long ve), .second, .val (.int vf), .val (.int (1 : Int32)), .val (.int w_0_173), .val (.int (1 : Int32)), .val (.ref b_0_273), .unset, .unset, .unset] []))
          refine ogo (fun _ k => XS.iconst X_0_329.here hx rfl (hb hby at_148) k) ?_
          show OGo _ _ _ _ (T_0_329.setTop (mkF m 149 #[.val (.int va), .val (.long vb), .second, .val (.int vc), .val (.int vd), .val (.long ve), .second, .val (.int vf), .val (.int (1 : Int32)), .val (.int w_0_173), .val (.int (1 : Int32)), .val (.ref b_0_273), .unset, .unset, .unset] [(.int (0 : Int32))]))
          exact J_0_347 _ (if_neg hc_0_330).symm _ X_0_329 e_0_329
      intro w_0_346 hw_0_346 T_0_348 X_0_348 e_0_348
      refine ogo (fun _ k => XS.istore X_0_348.here hx rfl (hb hby at_149) rfl (l' := #[.val (.int va), .val (.long vb), .second, .val (.int vc), .val (.int vd), .val (.long ve), .second, .val (.int vf), .val (.int (1 : Int32)), .val (.int w_0_173), .val (.int (1 : Int32)), .val (.ref b_0_273), .val (.int w_0_346), .unset, .unset]) rfl k) ?_
      show OGo _ _ _ _ (T_0_348.setTop (mkF m 151 #[.val (.int va), .val (.long vb), .second, .val (.int vc), .val (.int vd), .val (.long ve), .second, .val (.int vf), .val (.int (1 : Int32)), .val (.int w_0_173), .val (.int (1 : Int32)), .val (.ref b_0_273), .val (.int w_0_346), .unset, .unset] []))
      refine ogo (fun _ k => XS.iload X_0_348.here hx rfl (hb hby at_151) rfl k) ?_
      show OGo _ _ _ _ (T_0_348.setTop (mkF m 153 #[.val (.int va), .val (.long vb), .second, .val (.int vc), .val (.int vd), .val (.long ve), .second, .val (.int vf), .val (.int (1 : Int32)), .val (.int w_0_173), .val (.int (1 : Int32)), .val (.ref b_0_273), .val (.int w_0_346), .unset, .unset] [(.int (1 : Int32))]))
      refine ogo (fun _ k => XS.ifNo X_0_348.here hx rfl (hb hby at_153) rfl ((if0 _ _).trans (feq (by decide : ¬ ((1 : Int32) = (0 : Int32)))).1) k) ?_
      show OGo _ _ _ _ (T_0_348.setTop (mkF m 156 #[.val (.int va), .val (.long vb), .second, .val (.int vc), .val (.int vd), .val (.long ve), .second, .val (.int vf), .val (.int (1 : Int32)), .val (.int w_0_173), .val (.int (1 : Int32)), .val (.ref b_0_273), .val (.int w_0_346), .unset, .unset] []))
      refine ogo (fun _ k => XS.iconst X_0_348.here hx rfl (hb hby at_156) k) ?_
      show OGo _ _ _ _ (T_0_348.setTop (mkF m 157 #[.val (.int va), .val (.long vb), .second, .val (.int vc), .val (.int vd), .val (.long ve), .second, .val (.int vf), .val (.int (1 : Int32)), .val (.int w_0_173), .val (.int (1 : Int32)), .val (.ref b_0_273), .val (.int w_0_346), .unset, .unset] [(.int (1 : Int32))]))
      refine ogo (fun _ k => XS.goto X_0_348.here hx rfl (pc0 := 157) (pc' := 161) rfl (hb hby at_157) (by decide) (by decide) k) ?_
      show OGo _ _ _ _ (T_0_348.setTop (mkF m 161 #[.val (.int va), .val (.long vb), .second, .val (.int vc), .val (.int vd), .val (.long ve), .second, .val (.int vf), .val (.int (1 : Int32)), .val (.int w_0_173), .val (.int (1 : Int32)), .val (.ref b_0_273), .val (.int w_0_346), .unset, .unset] [(.int (1 : Int32))]))
      refine ogo (fun _ k => XS.istore X_0_348.here hx rfl (hb hby at_161) rfl (l' := #[.val (.int va), .val (.long vb), .second, .val (.int vc), .val (.int vd), .val (.long ve), .second, .val (.int vf), .val (.int (1 : Int32)), .val (.int w_0_173), .val (.int (1 : Int32)), .val (.ref b_0_273), .val (.int w_0_346), .val (.int (1 : Int32)), .unset]) rfl k) ?_
      show OGo _ _ _ _ (T_0_348.setTop (mkF m 163 #[.val (.int va), .val (.long vb), .second, .val (.int vc), .val (.int vd), .val (.long ve), .second, .val (.int vf), .val (.int (1 : Int32)), .val (.int w_0_173), .val (.int (1 : Int32)), .val (.ref b_0_273), .val (.int w_0_346), .val (.int (1 : Int32)), .unset] []))
      refine ogo (fun _ k => XS.iload X_0_348.here hx rfl (hb hby at_163) rfl k) ?_
      show OGo _ _ _ _ (T_0_348.setTop (mkF m 165 #[.val (.int va), .val (.long vb), .second, .val (.int vc), .val (.int vd), .val (.long ve), .second, .val (.int vf), .val (.int (1 : Int32)), .val (.int w_0_173), .val (.int (1 : Int32)), .val (.ref b_0_273), .val (.int w_0_346), .val (.int (1 : Int32)), .unset] [(.int w_0_346)]))
      suffices J_0_356 : ∀ (w_0_355 : Int32) (hw_0_355 : w_0_355 = (if w_0_346 = (0 : Int32) then (0 : Int32) else (if (placesF (1 : Int32)) = (1 : Int32) then (1 : Int32) else (0 : Int32)))) (T_0_357 : State) (X_0_357 : Stand p l e room_1 s m #[(.int va), (.long vb), (.int vc), (.int vd), (.long ve), (.int vf)] below meth c T_0_357 lc_0_318 3 11) (e_0_357 : T_0_357.heap = h_0_318), OGo p.tables e below (OFin s (fun v _ L => v = some (.int 1) ∧ Fr n0 L) 16 128) (T_0_357.setTop (mkF m 183 #[.val (.int va), .val (.long vb), .second, .val (.int vc), .val (.int vd), .val (.long ve), .second, .val (.int vf), .val (.int (1 : Int32)), .val (.int w_0_173), .val (.int (1 : Int32)), .val (.ref b_0_273), .val (.int w_0_346), .val (.int (1 : Int32)), .unset] [(.int w_0_355)])) by
        by_cases hc_0_349 : w_0_346 = (0 : Int32)
        · refine ogo (fun _ k => XS.ifYes X_0_348.here hx rfl (pc0 := 165) (pc' := 182) rfl (hb hby at_165) rfl ((if0 _ _).trans (teq hc_0_349).1) (by decide) (by decide) k) ?_
          show OGo _ _ _ _ (T_0_348.setTop (mkF m 182 #[.val (.int va), .val (.long vb), .second, .val (.int vc), .val (.int vd), .val (.long ve), .second, .val (.int vf), .val (.int (1 : Int32)), .val (.int w_0_173), .val (.int (1 : Int32)), .val (.ref b_0_273), .val (.int w_0_346), .val (.int (1 : Int32)), .unset] []))
          refine ogo (fun _ k => XS.iconst X_0_348.here hx rfl (hb hby at_182) k) ?_
          show OGo _ _ _ _ (T_0_348.setTop (mkF m 183 #[.val (.int va), .val (.long vb), .second, .val (.int vc), .val (.int vd), .val (.long ve), .second, .val (.int vf), .val (.int (1 : Int32)), .val (.int w_0_173), .val (.int (1 : Int32)), .val (.ref b_0_273), .val (.int w_0_346), .val (.int (1 : Int32)), .unset] [(.int (0 : Int32))]))
          exact J_0_356 _ (if_pos hc_0_349).symm _ X_0_348 e_0_348
        · refine ogo (fun _ k => XS.ifNo X_0_348.here hx rfl (hb hby at_165) rfl ((if0 _ _).trans (feq hc_0_349).1) k) ?_
          show OGo _ _ _ _ (T_0_348.setTop (mkF m 168 #[.val (.int va), .val (.long vb), .second, .val (.int vc), .val (.int vd), .val (.long ve), .second, .val (.int vf), .val (.int (1 : Int32)), .val (.int w_0_173), .val (.int (1 : Int32)), .val (.ref b_0_273), .val (.int w_0_346), .val (.int (1 : Int32)), .unset] []))
          refine ogo (fun _ k => XS.aload X_0_348.here hx rfl (hb hby at_168) rfl rfl k) ?_
          show OGo _ _ _ _ (T_0_348.setTop (mkF m 170 #[.val (.int va), .val (.long vb), .second, .val (.int vc), .val (.int vd), .val (.long ve), .second, .val (.int vf), .val (.int (1 : Int32)), .val (.int w_0_173), .val (.int (1 : Int32)), .val (.ref b_0_273), .val (.int w_0_346), .val (.int (1 : Int32)), .unset] [(.ref b_0_273)]))
          obtain ⟨T_0_350, X_0_350, e_0_350, st_0_350⟩ := ovirtP X_0_348 hx hZ e_0_348 (rm8 l Z a0 hw b_0_273 ((1 : Int32)) h_0_318 f_0_323) hown (hw _ (List.mem_of_getElem? (i := 48) rfl)) (hw _ (List.mem_of_getElem? (i := 49) rfl)) (hw _ (List.mem_of_getElem? (i := 51) rfl)) (hw _ (List.mem_of_getElem? (i := 50) rfl)) (hw _ (List.mem_of_getElem? (i := 2) rfl)) (hw _ (List.mem_of_getElem? (i := 52) rfl)) (by decide) f_0_326 (g := (mkF m 170 #[.val (.int va), .val (.long vb), .second, .val (.int vc), .val (.int vd), .val (.long ve), .second, .val (.int vf), .val (.int (1 : Int32)), .val (.int w_0_173), .val (.int (1 : Int32)), .val (.ref b_0_273), .val (.int w_0_346), .val (.int (1 : Int32)), .unset] [(.ref b_0_273)])) rfl (by rw [hml]; rfl) [] [] rfl (lenOf pd___I rfl) rfl (hb hby at_170) 0 (by show 2 * 0 + _ ≤ _; exact Nat.le_of_eq rfl) (by decide) (by decide) (by decide) (by decide) rfl rfl
          refine ogo (fun _ k => st_0_350 _ k) ?_
          show OGo _ _ _ _ (T_0_350.setTop (mkF m 173 #[.val (.int va), .val (.long vb), .second, .val (.int vc), .val (.int vd), .val (.long ve), .second, .val (.int vf), .val (.int (1 : Int32)), .val (.int w_0_173), .val (.int (1 : Int32)), .val (.ref b_0_273), .val (.int w_0_346), .val (.int (1 : Int32)), .unset] [(.int (placesF (1 : Int32)))]))
          refine ogo (fun _ k => XS.iload X_0_350.here hx rfl (hb hby at_173) rfl k) ?_
          show OGo _ _ _ _ (T_0_350.setTop (mkF m 175 #[.val (.int va), .val (.long vb), .second, .val (.int vc), .val (.int vd), .val (.long ve), .second, .val (.int vf), .val (.int (1 : Int32)), .val (.int w_0_173), .val (.int (1 : Int32)), .val (.ref b_0_273), .val (.int w_0_346), .val (.int (1 : Int32)), .unset] [(.int (1 : Int32)), (.int (placesF (1 : Int32)))]))
          suffices J_0_353 : ∀ (w_0_352 : Int32) (hw_0_352 : w_0_352 = (if (placesF (1 : Int32)) = (1 : Int32) then (1 : Int32) else (0 : Int32))), OGo p.tables e below (OFin s (fun v _ L => v = some (.int 1) ∧ Fr n0 L) 16 128) (T_0_350.setTop (mkF m 183 #[.val (.int va), .val (.long vb), .second, .val (.int vc), .val (.int vd), .val (.long ve), .second, .val (.int vf), .val (.int (1 : Int32)), .val (.int w_0_173), .val (.int (1 : Int32)), .val (.ref b_0_273), .val (.int w_0_346), .val (.int (1 : Int32)), .unset] [(.int w_0_352)])) by
            by_cases hc_0_351 : (placesF (1 : Int32)) = (1 : Int32)
            · refine ogo (fun _ k => XS.icmpNo X_0_350.here hx rfl (hb hby at_175) rfl (teq hc_0_351).2 k) ?_
              show OGo _ _ _ _ (T_0_350.setTop (mkF m 178 #[.val (.int va), .val (.long vb), .second, .val (.int vc), .val (.int vd), .val (.long ve), .second, .val (.int vf), .val (.int (1 : Int32)), .val (.int w_0_173), .val (.int (1 : Int32)), .val (.ref b_0_273), .val (.int w_0_346), .val (.int (1 : Int32)), .unset] []))
              refine ogo (fun _ k => XS.iconst X_0_350.here hx rfl (hb hby at_178) k) ?_
              show OGo _ _ _ _ (T_0_350.setTop (mkF m 179 #[.val (.int va), .val (.long vb), .second, .val (.int vc), .val (.int vd), .val (.long ve), .second, .val (.int vf), .val (.int (1 : Int32)), .val (.int w_0_173), .val (.int (1 : Int32)), .val (.ref b_0_273), .val (.int w_0_346), .val (.int (1 : Int32)), .unset] [(.int (1 : Int32))]))
              refine ogo (fun _ k => XS.goto X_0_350.here hx rfl (pc0 := 179) (pc' := 183) rfl (hb hby at_179) (by decide) (by decide) k) ?_
              show OGo _ _ _ _ (T_0_350.setTop (mkF m 183 #[.val (.int va), .val (.long vb), .second, .val (.int vc), .val (.int vd), .val (.long ve), .second, .val (.int vf), .val (.int (1 : Int32)), .val (.int w_0_173), .val (.int (1 : Int32)), .val (.ref b_0_273), .val (.int w_0_346), .val (.int (1 : Int32)), .unset] [(.int (1 : Int32))]))
              exact J_0_353 _ (if_pos hc_0_351).symm
            · refine ogo (fun _ k => XS.icmpYes X_0_350.here hx rfl (pc0 := 175) (pc' := 182) rfl (hb hby at_175) rfl (feq hc_0_351).2 (by decide) (by decide) k) ?_
              show OGo _ _ _ _ (T_0_350.setTop (mkF m 182 #[.val (.int va), .val (.long vb), .second, .val (.int vc), .val (.int vd), .val (.long ve), .second, .val (.int vf), .val (.int (1 : Int32)), .val (.int w_0_173), .val (.int (1 : Int32)), .val (.ref b_0_273), .val (.int w_0_346), .val (.int (1 : Int32)), .unset] []))
              refine ogo (fun _ k => XS.iconst X_0_350.here hx rfl (hb hby at_182) k) ?_
              show OGo _ _ _ _ (T_0_350.setTop (mkF m 183 #[.val (.int va), .val (.long vb), .second, .val (.int vc), .val (.int vd), .val (.long ve), .second, .val (.int vf), .val (.int (1 : Int32)), .val (.int w_0_173), .val (.int (1 : Int32)), .val (.ref b_0_273), .val (.int w_0_346), .val (.int (1 : Int32)), .unset] [(.int (0 : Int32))]))
              exact J_0_353 _ (if_neg hc_0_351).symm
          intro w_0_352 hw_0_352
          subst hw_0_352
          exact J_0_356 _ (if_neg hc_0_349).symm _ X_0_350 e_0_350
      intro w_0_355 hw_0_355 T_0_357 X_0_357 e_0_357
      refine ogo (fun _ k => XS.istore X_0_357.here hx rfl (hb hby at_183) rfl (l' := #[.val (.int va), .val (.long vb), .second, .val (.int vc), .val (.int vd), .val (.long ve), .second, .val (.int vf), .val (.int (1 : Int32)), .val (.int w_0_173), .val (.int (1 : Int32)), .val (.ref b_0_273), .val (.int w_0_355), .val (.int (1 : Int32)), .unset]) rfl k) ?_
      show OGo _ _ _ _ (T_0_357.setTop (mkF m 185 #[.val (.int va), .val (.long vb), .second, .val (.int vc), .val (.int vd), .val (.long ve), .second, .val (.int vf), .val (.int (1 : Int32)), .val (.int w_0_173), .val (.int (1 : Int32)), .val (.ref b_0_273), .val (.int w_0_355), .val (.int (1 : Int32)), .unset] []))
      refine ogo (fun _ k => XS.iload X_0_357.here hx rfl (hb hby at_185) rfl k) ?_
      show OGo _ _ _ _ (T_0_357.setTop (mkF m 187 #[.val (.int va), .val (.long vb), .second, .val (.int vc), .val (.int vd), .val (.long ve), .second, .val (.int vf), .val (.int (1 : Int32)), .val (.int w_0_173), .val (.int (1 : Int32)), .val (.ref b_0_273), .val (.int w_0_355), .val (.int (1 : Int32)), .unset] [(.int w_0_355)]))
      suffices J_0_370 : ∀ (w_0_369 : Int32) (hw_0_369 : w_0_369 = (if w_0_355 = (0 : Int32) then w_0_355 else (if (plSecF (0 : Int32) (1 : Int32) (fun i : Nat => if i = ((0 : Int32)).toNatClampNeg then ve else (fun _ : Nat => (0 : Int64)) i)) = ve then (if (plNanF (0 : Int32) (1 : Int32) (fun i : Nat => if i = ((0 : Int32)).toNatClampNeg then vf else (fun _ : Nat => (0 : Int32)) i)) = vf then (1 : Int32) else (0 : Int32)) else (0 : Int32)))) (T_0_371 : State) (X_0_371 : Stand p l e room_1 s m #[(.int va), (.long vb), (.int vc), (.int vd), (.long ve), (.int vf)] below meth c T_0_371 lc_0_318 3 11) (e_0_371 : T_0_371.heap = h_0_318), OGo p.tables e below (OFin s (fun v _ L => v = some (.int 1) ∧ Fr n0 L) 16 128) (T_0_371.setTop (mkF m 225 #[.val (.int va), .val (.long vb), .second, .val (.int vc), .val (.int vd), .val (.long ve), .second, .val (.int vf), .val (.int (1 : Int32)), .val (.int w_0_173), .val (.int (1 : Int32)), .val (.ref b_0_273), .val (.int w_0_369), .val (.int (1 : Int32)), .unset] [])) by
        by_cases hc_0_358 : w_0_355 = (0 : Int32)
        · refine ogo (fun _ k => XS.ifYes X_0_357.here hx rfl (pc0 := 187) (pc' := 225) rfl (hb hby at_187) rfl ((if0 _ _).trans (teq hc_0_358).1) (by decide) (by decide) k) ?_
          show OGo _ _ _ _ (T_0_357.setTop (mkF m 225 #[.val (.int va), .val (.long vb), .second, .val (.int vc), .val (.int vd), .val (.long ve), .second, .val (.int vf), .val (.int (1 : Int32)), .val (.int w_0_173), .val (.int (1 : Int32)), .val (.ref b_0_273), .val (.int w_0_355), .val (.int (1 : Int32)), .unset] []))
          exact J_0_370 _ (if_pos hc_0_358).symm _ X_0_357 e_0_357
        · refine ogo (fun _ k => XS.ifNo X_0_357.here hx rfl (hb hby at_187) rfl ((if0 _ _).trans (feq hc_0_358).1) k) ?_
          show OGo _ _ _ _ (T_0_357.setTop (mkF m 190 #[.val (.int va), .val (.long vb), .second, .val (.int vc), .val (.int vd), .val (.long ve), .second, .val (.int vf), .val (.int (1 : Int32)), .val (.int w_0_173), .val (.int (1 : Int32)), .val (.ref b_0_273), .val (.int w_0_355), .val (.int (1 : Int32)), .unset] []))
          refine ogo (fun _ k => XS.iload X_0_357.here hx rfl (hb hby at_190) rfl k) ?_
          show OGo _ _ _ _ (T_0_357.setTop (mkF m 192 #[.val (.int va), .val (.long vb), .second, .val (.int vc), .val (.int vd), .val (.long ve), .second, .val (.int vf), .val (.int (1 : Int32)), .val (.int w_0_173), .val (.int (1 : Int32)), .val (.ref b_0_273), .val (.int w_0_355), .val (.int (1 : Int32)), .unset] [(.int (1 : Int32))]))
          refine ogo (fun _ k => XS.ifNo X_0_357.here hx rfl (hb hby at_192) rfl ((if0 _ _).trans (feq (by decide : ¬ ((1 : Int32) = (0 : Int32)))).1) k) ?_
          show OGo _ _ _ _ (T_0_357.setTop (mkF m 195 #[.val (.int va), .val (.long vb), .second, .val (.int vc), .val (.int vd), .val (.long ve), .second, .val (.int vf), .val (.int (1 : Int32)), .val (.int w_0_173), .val (.int (1 : Int32)), .val (.ref b_0_273), .val (.int w_0_355), .val (.int (1 : Int32)), .unset] []))
          refine ogo (fun _ k => XS.aload X_0_357.here hx rfl (hb hby at_195) rfl rfl k) ?_
          show OGo _ _ _ _ (T_0_357.setTop (mkF m 197 #[.val (.int va), .val (.long vb), .second, .val (.int vc), .val (.int vd), .val (.long ve), .second, .val (.int vf), .val (.int (1 : Int32)), .val (.int w_0_173), .val (.int (1 : Int32)), .val (.ref b_0_273), .val (.int w_0_355), .val (.int (1 : Int32)), .unset] [(.ref b_0_273)]))
          refine ogo (fun _ k => XS.iconst X_0_357.here hx rfl (hb hby at_197) k) ?_
          show OGo _ _ _ _ (T_0_357.setTop (mkF m 198 #[.val (.int va), .val (.long vb), .second, .val (.int vc), .val (.int vd), .val (.long ve), .second, .val (.int vf), .val (.int (1 : Int32)), .val (.int w_0_173), .val (.int (1 : Int32)), .val (.ref b_0_273), .val (.int w_0_355), .val (.int (1 : Int32)), .unset] [(.int (0 : Int32)), (.ref b_0_273)]))
          obtain ⟨T_0_359, X_0_359, e_0_359, st_0_359⟩ := ovirtP X_0_357 hx hZ e_0_357 (rm11 l Z a0 hw b_0_273 (0 : Int32) ((1 : Int32)) sa_0_281 ((fun i : Nat => if i = ((0 : Int32)).toNatClampNeg then ve else (fun _ : Nat => (0 : Int64)) i)) h_0_318 f_0_323 f_0_324 f_0_327 (by decide) (by decide) (by decide) (by decide)) hown (hw _ (List.mem_of_getElem? (i := 66) rfl)) (hw _ (List.mem_of_getElem? (i := 67) rfl)) (hw _ (List.mem_of_getElem? (i := 69) rfl)) (hw _ (List.mem_of_getElem? (i := 68) rfl)) (hw _ (List.mem_of_getElem? (i := 2) rfl)) (hw _ (List.mem_of_getElem? (i := 70) rfl)) (by decide) f_0_326 (g := (mkF m 198 #[.val (.int va), .val (.long vb), .second, .val (.int vc), .val (.int vd), .val (.long ve), .second, .val (.int vf), .val (.int (1 : Int32)), .val (.int w_0_173), .val (.int (1 : Int32)), .val (.ref b_0_273), .val (.int w_0_355), .val (.int (1 : Int32)), .unset] [(.int (0 : Int32)), (.ref b_0_273)])) rfl (by rw [hml]; rfl) [(.int (0 : Int32))] [] rfl (lenOf pd__I_J rfl) rfl (hb hby at_198) 0 (by show 2 * 0 + _ ≤ _; exact Nat.le_of_eq rfl) (by decide) (by decide) (by decide) (by decide) rfl rfl
          refine ogo (fun _ k => st_0_359 _ k) ?_
          show OGo _ _ _ _ (T_0_359.setTop (mkF m 201 #[.val (.int va), .val (.long vb), .second, .val (.int vc), .val (.int vd), .val (.long ve), .second, .val (.int vf), .val (.int (1 : Int32)), .val (.int w_0_173), .val (.int (1 : Int32)), .val (.ref b_0_273), .val (.int w_0_355), .val (.int (1 : Int32)), .unset] [(.long (plSecF (0 : Int32) (1 : Int32) (fun i : Nat => if i = ((0 : Int32)).toNatClampNeg then ve else (fun _ : Nat => (0 : Int64)) i)))]))
          refine ogo (fun _ k => XS.lload X_0_359.here hx rfl (hb hby at_201) rfl k) ?_
          show OGo _ _ _ _ (T_0_359.setTop (mkF m 203 #[.val (.int va), .val (.long vb), .second, .val (.int vc), .val (.int vd), .val (.long ve), .second, .val (.int vf), .val (.int (1 : Int32)), .val (.int w_0_173), .val (.int (1 : Int32)), .val (.ref b_0_273), .val (.int w_0_355), .val (.int (1 : Int32)), .unset] [(.long ve), (.long (plSecF (0 : Int32) (1 : Int32) (fun i : Nat => if i = ((0 : Int32)).toNatClampNeg then ve else (fun _ : Nat => (0 : Int64)) i)))]))
          refine ogo (fun _ k => XS.lcmp X_0_359.here hx rfl (hb hby at_203) rfl k) ?_
          show OGo _ _ _ _ (T_0_359.setTop (mkF m 204 #[.val (.int va), .val (.long vb), .second, .val (.int vc), .val (.int vd), .val (.long ve), .second, .val (.int vf), .val (.int (1 : Int32)), .val (.int w_0_173), .val (.int (1 : Int32)), .val (.ref b_0_273), .val (.int w_0_355), .val (.int (1 : Int32)), .unset] [(.int (lcmpW (plSecF (0 : Int32) (1 : Int32) (fun i : Nat => if i = ((0 : Int32)).toNatClampNeg then ve else (fun _ : Nat => (0 : Int64)) i)) ve))]))
          suffices J_0_367 : ∀ (w_0_366 : Int32) (hw_0_366 : w_0_366 = (if (plSecF (0 : Int32) (1 : Int32) (fun i : Nat => if i = ((0 : Int32)).toNatClampNeg then ve else (fun _ : Nat => (0 : Int64)) i)) = ve then (if (plNanF (0 : Int32) (1 : Int32) (fun i : Nat => if i = ((0 : Int32)).toNatClampNeg then vf else (fun _ : Nat => (0 : Int32)) i)) = vf then (1 : Int32) else (0 : Int32)) else (0 : Int32))) (T_0_368 : State) (X_0_368 : Stand p l e room_1 s m #[(.int va), (.long vb), (.int vc), (.int vd), (.long ve), (.int vf)] below meth c T_0_368 lc_0_318 3 11) (e_0_368 : T_0_368.heap = h_0_318), OGo p.tables e below (OFin s (fun v _ L => v = some (.int 1) ∧ Fr n0 L) 16 128) (T_0_368.setTop (mkF m 223 #[.val (.int va), .val (.long vb), .second, .val (.int vc), .val (.int vd), .val (.long ve), .second, .val (.int vf), .val (.int (1 : Int32)), .val (.int w_0_173), .val (.int (1 : Int32)), .val (.ref b_0_273), .val (.int w_0_355), .val (.int (1 : Int32)), .unset] [(.int w_0_366)])) by
            by_cases hc_0_360 : (plSecF (0 : Int32) (1 : Int32) (fun i : Nat => if i = ((0 : Int32)).toNatClampNeg then ve else (fun _ : Nat => (0 : Int64)) i)) = ve
            · refine ogo (fun _ k => XS.ifNo X_0_359.here hx rfl (hb hby at_204) rfl ((if0 _ _).trans (teq ((lw_eq _ _).mpr hc_0_360)).2) k) ?_
              show OGo _ _ _ _ (T_0_359.setTop (mkF m 207 #[.val (.int va), .val (.long vb), .second, .val (.int vc), .val (.int vd), .val (.long ve), .second, .val (.int vf), .val (.int (1 : Int32)), .val (.int w_0_173), .val (.int (1 : Int32)), .val (.ref b_0_273), .val (.int w_0_355), .val (.int (1 : Int32)), .unset] []))
              refine ogo (fun _ k => XS.aload X_0_359.here hx rfl (hb hby at_207) rfl rfl k) ?_
              show OGo _ _ _ _ (T_0_359.setTop (mkF m 209 #[.val (.int va), .val (.long vb), .second, .val (.int vc), .val (.int vd), .val (.long ve), .second, .val (.int vf), .val (.int (1 : Int32)), .val (.int w_0_173), .val (.int (1 : Int32)), .val (.ref b_0_273), .val (.int w_0_355), .val (.int (1 : Int32)), .unset] [(.ref b_0_273)]))
              refine ogo (fun _ k => XS.iconst X_0_359.here hx rfl (hb hby at_209) k) ?_
              show OGo _ _ _ _ (T_0_359.setTop (mkF m 210 #[.val (.int va), .val (.long vb), .second, .val (.int vc), .val (.int vd), .val (.long ve), .second, .val (.int vf), .val (.int (1 : Int32)), .val (.int w_0_173), .val (.int (1 : Int32)), .val (.ref b_0_273), .val (.int w_0_355), .val (.int (1 : Int32)), .unset] [(.int (0 : Int32)), (.ref b_0_273)]))
              obtain ⟨T_0_361, X_0_361, e_0_361, st_0_361⟩ := ovirtP X_0_359 hx hZ e_0_359 (rm14 l Z a0 hw b_0_273 (0 : Int32) ((1 : Int32)) na_0_281 ((fun i : Nat => if i = ((0 : Int32)).toNatClampNeg then vf else (fun _ : Nat => (0 : Int32)) i)) h_0_318 f_0_323 f_0_325 f_0_328 (by decide) (by decide) (by decide) (by decide)) hown (hw _ (List.mem_of_getElem? (i := 79) rfl)) (hw _ (List.mem_of_getElem? (i := 80) rfl)) (hw _ (List.mem_of_getElem? (i := 82) rfl)) (hw _ (List.mem_of_getElem? (i := 81) rfl)) (hw _ (List.mem_of_getElem? (i := 2) rfl)) (hw _ (List.mem_of_getElem? (i := 83) rfl)) (by decide) f_0_326 (g := (mkF m 210 #[.val (.int va), .val (.long vb), .second, .val (.int vc), .val (.int vd), .val (.long ve), .second, .val (.int vf), .val (.int (1 : Int32)), .val (.int w_0_173), .val (.int (1 : Int32)), .val (.ref b_0_273), .val (.int w_0_355), .val (.int (1 : Int32)), .unset] [(.int (0 : Int32)), (.ref b_0_273)])) rfl (by rw [hml]; rfl) [(.int (0 : Int32))] [] rfl (lenOf pd__I_I rfl) rfl (hb hby at_210) 0 (by show 2 * 0 + _ ≤ _; exact Nat.le_of_eq rfl) (by decide) (by decide) (by decide) (by decide) rfl rfl
              refine ogo (fun _ k => st_0_361 _ k) ?_
              show OGo _ _ _ _ (T_0_361.setTop (mkF m 213 #[.val (.int va), .val (.long vb), .second, .val (.int vc), .val (.int vd), .val (.long ve), .second, .val (.int vf), .val (.int (1 : Int32)), .val (.int w_0_173), .val (.int (1 : Int32)), .val (.ref b_0_273), .val (.int w_0_355), .val (.int (1 : Int32)), .unset] [(.int (plNanF (0 : Int32) (1 : Int32) (fun i : Nat => if i = ((0 : Int32)).toNatClampNeg then vf else (fun _ : Nat => (0 : Int32)) i)))]))
              refine ogo (fun _ k => XS.iload X_0_361.here hx rfl (hb hby at_213) rfl k) ?_
              show OGo _ _ _ _ (T_0_361.setTop (mkF m 215 #[.val (.int va), .val (.long vb), .second, .val (.int vc), .val (.int vd), .val (.long ve), .second, .val (.int vf), .val (.int (1 : Int32)), .val (.int w_0_173), .val (.int (1 : Int32)), .val (.ref b_0_273), .val (.int w_0_355), .val (.int (1 : Int32)), .unset] [(.int vf), (.int (plNanF (0 : Int32) (1 : Int32) (fun i : Nat => if i = ((0 : Int32)).toNatClampNeg then vf else (fun _ : Nat => (0 : Int32)) i)))]))
              suffices J_0_364 : ∀ (w_0_363 : Int32) (hw_0_363 : w_0_363 = (if (plNanF (0 : Int32) (1 : Int32) (fun i : Nat => if i = ((0 : Int32)).toNatClampNeg then vf else (fun _ : Nat => (0 : Int32)) i)) = vf then (1 : Int32) else (0 : Int32))), OGo p.tables e below (OFin s (fun v _ L => v = some (.int 1) ∧ Fr n0 L) 16 128) (T_0_361.setTop (mkF m 223 #[.val (.int va), .val (.long vb), .second, .val (.int vc), .val (.int vd), .val (.long ve), .second, .val (.int vf), .val (.int (1 : Int32)), .val (.int w_0_173), .val (.int (1 : Int32)), .val (.ref b_0_273), .val (.int w_0_355), .val (.int (1 : Int32)), .unset] [(.int w_0_363)])) by
                by_cases hc_0_362 : (plNanF (0 : Int32) (1 : Int32) (fun i : Nat => if i = ((0 : Int32)).toNatClampNeg then vf else (fun _ : Nat => (0 : Int32)) i)) = vf
                · refine ogo (fun _ k => XS.icmpNo X_0_361.here hx rfl (hb hby at_215) rfl (teq hc_0_362).2 k) ?_
                  show OGo _ _ _ _ (T_0_361.setTop (mkF m 218 #[.val (.int va), .val (.long vb), .second, .val (.int vc), .val (.int vd), .val (.long ve), .second, .val (.int vf), .val (.int (1 : Int32)), .val (.int w_0_173), .val (.int (1 : Int32)), .val (.ref b_0_273), .val (.int w_0_355), .val (.int (1 : Int32)), .unset] []))
                  refine ogo (fun _ k => XS.iconst X_0_361.here hx rfl (hb hby at_218) k) ?_
                  show OGo _ _ _ _ (T_0_361.setTop (mkF m 219 #[.val (.int va), .val (.long vb), .second, .val (.int vc), .val (.int vd), .val (.long ve), .second, .val (.int vf), .val (.int (1 : Int32)), .val (.int w_0_173), .val (.int (1 : Int32)), .val (.ref b_0_273), .val (.int w_0_355), .val (.int (1 : Int32)), .unset] [(.int (1 : Int32))]))
                  refine ogo (fun _ k => XS.goto X_0_361.here hx rfl (pc0 := 219) (pc' := 223) rfl (hb hby at_219) (by decide) (by decide) k) ?_
                  show OGo _ _ _ _ (T_0_361.setTop (mkF m 223 #[.val (.int va), .val (.long vb), .second, .val (.int vc), .val (.int vd), .val (.long ve), .second, .val (.int vf), .val (.int (1 : Int32)), .val (.int w_0_173), .val (.int (1 : Int32)), .val (.ref b_0_273), .val (.int w_0_355), .val (.int (1 : Int32)), .unset] [(.int (1 : Int32))]))
                  exact J_0_364 _ (if_pos hc_0_362).symm
                · refine ogo (fun _ k => XS.icmpYes X_0_361.here hx rfl (pc0 := 215) (pc' := 222) rfl (hb hby at_215) rfl (feq hc_0_362).2 (by decide) (by decide) k) ?_
                  show OGo _ _ _ _ (T_0_361.setTop (mkF m 222 #[.val (.int va), .val (.long vb), .second, .val (.int vc), .val (.int vd), .val (.long ve), .second, .val (.int vf), .val (.int (1 : Int32)), .val (.int w_0_173), .val (.int (1 : Int32)), .val (.ref b_0_273), .val (.int w_0_355), .val (.int (1 : Int32)), .unset] []))
                  refine ogo (fun _ k => XS.iconst X_0_361.here hx rfl (hb hby at_222) k) ?_
                  show OGo _ _ _ _ (T_0_361.setTop (mkF m 223 #[.val (.int va), .val (.long vb), .second, .val (.int vc), .val (.int vd), .val (.long ve), .second, .val (.int vf), .val (.int (1 : Int32)), .val (.int w_0_173), .val (.int (1 : Int32)), .val (.ref b_0_273), .val (.int w_0_355), .val (.int (1 : Int32)), .unset] [(.int (0 : Int32))]))
                  exact J_0_364 _ (if_neg hc_0_362).symm
              intro w_0_363 hw_0_363
              subst hw_0_363
              exact J_0_367 _ (if_pos hc_0_360).symm _ X_0_361 e_0_361
            · refine ogo (fun _ k => XS.ifYes X_0_359.here hx rfl (pc0 := 204) (pc' := 222) rfl (hb hby at_204) rfl ((if0 _ _).trans (feq (fun q => hc_0_360 ((lw_eq _ _).mp q))).2) (by decide) (by decide) k) ?_
              show OGo _ _ _ _ (T_0_359.setTop (mkF m 222 #[.val (.int va), .val (.long vb), .second, .val (.int vc), .val (.int vd), .val (.long ve), .second, .val (.int vf), .val (.int (1 : Int32)), .val (.int w_0_173), .val (.int (1 : Int32)), .val (.ref b_0_273), .val (.int w_0_355), .val (.int (1 : Int32)), .unset] []))
              refine ogo (fun _ k => XS.iconst X_0_359.here hx rfl (hb hby at_222) k) ?_
              show OGo _ _ _ _ (T_0_359.setTop (mkF m 223 #[.val (.int va), .val (.long vb), .second, .val (.int vc), .val (.int vd), .val (.long ve), .second, .val (.int vf), .val (.int (1 : Int32)), .val (.int w_0_173), .val (.int (1 : Int32)), .val (.ref b_0_273), .val (.int w_0_355), .val (.int (1 : Int32)), .unset] [(.int (0 : Int32))]))
              exact J_0_367 _ (if_neg hc_0_360).symm _ X_0_359 e_0_359
          intro w_0_366 hw_0_366 T_0_368 X_0_368 e_0_368
          subst hw_0_366
          refine ogo (fun _ k => XS.istore X_0_368.here hx rfl (hb hby at_223) rfl (l' := #[.val (.int va), .val (.long vb), .second, .val (.int vc), .val (.int vd), .val (.long ve), .second, .val (.int vf), .val (.int (1 : Int32)), .val (.int w_0_173), .val (.int (1 : Int32)), .val (.ref b_0_273), .val (.int (if (plSecF (0 : Int32) (1 : Int32) (fun i : Nat => if i = ((0 : Int32)).toNatClampNeg then ve else (fun _ : Nat => (0 : Int64)) i)) = ve then (if (plNanF (0 : Int32) (1 : Int32) (fun i : Nat => if i = ((0 : Int32)).toNatClampNeg then vf else (fun _ : Nat => (0 : Int32)) i)) = vf then (1 : Int32) else (0 : Int32)) else (0 : Int32))), .val (.int (1 : Int32)), .unset]) rfl k) ?_
          show OGo _ _ _ _ (T_0_368.setTop (mkF m 225 #[.val (.int va), .val (.long vb), .second, .val (.int vc), .val (.int vd), .val (.long ve), .second, .val (.int vf), .val (.int (1 : Int32)), .val (.int w_0_173), .val (.int (1 : Int32)), .val (.ref b_0_273), .val (.int (if (plSecF (0 : Int32) (1 : Int32) (fun i : Nat => if i = ((0 : Int32)).toNatClampNeg then ve else (fun _ : Nat => (0 : Int64)) i)) = ve then (if (plNanF (0 : Int32) (1 : Int32) (fun i : Nat => if i = ((0 : Int32)).toNatClampNeg then vf else (fun _ : Nat => (0 : Int32)) i)) = vf then (1 : Int32) else (0 : Int32)) else (0 : Int32))), .val (.int (1 : Int32)), .unset] []))
          exact J_0_370 _ (if_neg hc_0_358).symm _ X_0_368 e_0_368
      intro w_0_369 hw_0_369 T_0_371 X_0_371 e_0_371
      refine ogo (fun _ k => XS.iloadN X_0_371.here hx rfl (hb hby at_225) rfl k) ?_
      show OGo _ _ _ _ (T_0_371.setTop (mkF m 226 #[.val (.int va), .val (.long vb), .second, .val (.int vc), .val (.int vd), .val (.long ve), .second, .val (.int vf), .val (.int (1 : Int32)), .val (.int w_0_173), .val (.int (1 : Int32)), .val (.ref b_0_273), .val (.int w_0_369), .val (.int (1 : Int32)), .unset] [(.int va)]))
      suffices J_0_373 : OGo p.tables e below (OFin s (fun v _ L => v = some (.int 1) ∧ Fr n0 L) 16 128) (T_0_371.setTop (mkF m 239 #[.val (.int va), .val (.long vb), .second, .val (.int vc), .val (.int vd), .val (.long ve), .second, .val (.int vf), .val (.int (1 : Int32)), .val (.int w_0_173), .val (.int (1 : Int32)), .val (.ref b_0_273), .val (.int w_0_369), .val (.int (1 : Int32)), .unset] [(.int (0 : Int32))])) by
        by_cases hc_0_372 : va = (0 : Int32)
        · refine ogo (fun _ k => XS.ifNo X_0_371.here hx rfl (hb hby at_226) rfl ((if0 _ _).trans (teq hc_0_372).2) k) ?_
          show OGo _ _ _ _ (T_0_371.setTop (mkF m 229 #[.val (.int va), .val (.long vb), .second, .val (.int vc), .val (.int vd), .val (.long ve), .second, .val (.int vf), .val (.int (1 : Int32)), .val (.int w_0_173), .val (.int (1 : Int32)), .val (.ref b_0_273), .val (.int w_0_369), .val (.int (1 : Int32)), .unset] []))
          refine ogo (fun _ k => XS.iload X_0_371.here hx rfl (hb hby at_229) rfl k) ?_
          show OGo _ _ _ _ (T_0_371.setTop (mkF m 231 #[.val (.int va), .val (.long vb), .second, .val (.int vc), .val (.int vd), .val (.long ve), .second, .val (.int vf), .val (.int (1 : Int32)), .val (.int w_0_173), .val (.int (1 : Int32)), .val (.ref b_0_273), .val (.int w_0_369), .val (.int (1 : Int32)), .unset] [(.int (1 : Int32))]))
          refine ogo (fun _ k => XS.ifYes X_0_371.here hx rfl (pc0 := 231) (pc' := 238) rfl (hb hby at_231) rfl ((if0 _ _).trans (feq (by decide : ¬ ((1 : Int32) = (0 : Int32)))).2) (by decide) (by decide) k) ?_
          show OGo _ _ _ _ (T_0_371.setTop (mkF m 238 #[.val (.int va), .val (.long vb), .second, .val (.int vc), .val (.int vd), .val (.long ve), .second, .val (.int vf), .val (.int (1 : Int32)), .val (.int w_0_173), .val (.int (1 : Int32)), .val (.ref b_0_273), .val (.int w_0_369), .val (.int (1 : Int32)), .unset] []))
          refine ogo (fun _ k => XS.iconst X_0_371.here hx rfl (hb hby at_238) k) ?_
          show OGo _ _ _ _ (T_0_371.setTop (mkF m 239 #[.val (.int va), .val (.long vb), .second, .val (.int vc), .val (.int vd), .val (.long ve), .second, .val (.int vf), .val (.int (1 : Int32)), .val (.int w_0_173), .val (.int (1 : Int32)), .val (.ref b_0_273), .val (.int w_0_369), .val (.int (1 : Int32)), .unset] [(.int (0 : Int32))]))
          exact J_0_373
        · refine ogo (fun _ k => XS.ifYes X_0_371.here hx rfl (pc0 := 226) (pc' := 238) rfl (hb hby at_226) rfl ((if0 _ _).trans (feq hc_0_372).2) (by decide) (by decide) k) ?_
          show OGo _ _ _ _ (T_0_371.setTop (mkF m 238 #[.val (.int va), .val (.long vb), .second, .val (.int vc), .val (.int vd), .val (.long ve), .second, .val (.int vf), .val (.int (1 : Int32)), .val (.int w_0_173), .val (.int (1 : Int32)), .val (.ref b_0_273), .val (.int w_0_369), .val (.int (1 : Int32)), .unset] []))
          refine ogo (fun _ k => XS.iconst X_0_371.here hx rfl (hb hby at_238) k) ?_
          show OGo _ _ _ _ (T_0_371.setTop (mkF m 239 #[.val (.int va), .val (.long vb), .second, .val (.int vc), .val (.int vd), .val (.long ve), .second, .val (.int vf), .val (.int (1 : Int32)), .val (.int w_0_173), .val (.int (1 : Int32)), .val (.ref b_0_273), .val (.int w_0_369), .val (.int (1 : Int32)), .unset] [(.int (0 : Int32))]))
          exact J_0_373
      refine ogo (fun _ k => XS.istore X_0_371.here hx rfl (hb hby at_239) rfl (l' := #[.val (.int va), .val (.long vb), .second, .val (.int vc), .val (.int vd), .val (.long ve), .second, .val (.int vf), .val (.int (1 : Int32)), .val (.int w_0_173), .val (.int (1 : Int32)), .val (.ref b_0_273), .val (.int w_0_369), .val (.int (1 : Int32)), .val (.int (0 : Int32))]) rfl k) ?_
      show OGo _ _ _ _ (T_0_371.setTop (mkF m 241 #[.val (.int va), .val (.long vb), .second, .val (.int vc), .val (.int vd), .val (.long ve), .second, .val (.int vf), .val (.int (1 : Int32)), .val (.int w_0_173), .val (.int (1 : Int32)), .val (.ref b_0_273), .val (.int w_0_369), .val (.int (1 : Int32)), .val (.int (0 : Int32))] []))
      refine ogo (fun _ k => XS.iload X_0_371.here hx rfl (hb hby at_241) rfl k) ?_
      show OGo _ _ _ _ (T_0_371.setTop (mkF m 243 #[.val (.int va), .val (.long vb), .second, .val (.int vc), .val (.int vd), .val (.long ve), .second, .val (.int vf), .val (.int (1 : Int32)), .val (.int w_0_173), .val (.int (1 : Int32)), .val (.ref b_0_273), .val (.int w_0_369), .val (.int (1 : Int32)), .val (.int (0 : Int32))] [(.int w_0_369)]))
      suffices J_0_382 : ∀ (w_0_381 : Int32) (hw_0_381 : w_0_381 = (if w_0_369 = (0 : Int32) then (0 : Int32) else (if (emptyF va (1 : Int32)) = (0 : Int32) then (1 : Int32) else (0 : Int32)))) (T_0_383 : State) (X_0_383 : Stand p l e room_1 s m #[(.int va), (.long vb), (.int vc), (.int vd), (.long ve), (.int vf)] below meth c T_0_383 lc_0_318 3 11) (e_0_383 : T_0_383.heap = h_0_318), OGo p.tables e below (OFin s (fun v _ L => v = some (.int 1) ∧ Fr n0 L) 16 128) (T_0_383.setTop (mkF m 261 #[.val (.int va), .val (.long vb), .second, .val (.int vc), .val (.int vd), .val (.long ve), .second, .val (.int vf), .val (.int (1 : Int32)), .val (.int w_0_173), .val (.int (1 : Int32)), .val (.ref b_0_273), .val (.int w_0_369), .val (.int (1 : Int32)), .val (.int (0 : Int32))] [(.int w_0_381)])) by
        by_cases hc_0_375 : w_0_369 = (0 : Int32)
        · refine ogo (fun _ k => XS.ifYes X_0_371.here hx rfl (pc0 := 243) (pc' := 260) rfl (hb hby at_243) rfl ((if0 _ _).trans (teq hc_0_375).1) (by decide) (by decide) k) ?_
          show OGo _ _ _ _ (T_0_371.setTop (mkF m 260 #[.val (.int va), .val (.long vb), .second, .val (.int vc), .val (.int vd), .val (.long ve), .second, .val (.int vf), .val (.int (1 : Int32)), .val (.int w_0_173), .val (.int (1 : Int32)), .val (.ref b_0_273), .val (.int w_0_369), .val (.int (1 : Int32)), .val (.int (0 : Int32))] []))
          refine ogo (fun _ k => XS.iconst X_0_371.here hx rfl (hb hby at_260) k) ?_
          show OGo _ _ _ _ (T_0_371.setTop (mkF m 261 #[.val (.int va), .val (.long vb), .second, .val (.int vc), .val (.int vd), .val (.long ve), .second, .val (.int vf), .val (.int (1 : Int32)), .val (.int w_0_173), .val (.int (1 : Int32)), .val (.ref b_0_273), .val (.int w_0_369), .val (.int (1 : Int32)), .val (.int (0 : Int32))] [(.int (0 : Int32))]))
          exact J_0_382 _ (if_pos hc_0_375).symm _ X_0_371 e_0_371
        · refine ogo (fun _ k => XS.ifNo X_0_371.here hx rfl (hb hby at_243) rfl ((if0 _ _).trans (feq hc_0_375).1) k) ?_
          show OGo _ _ _ _ (T_0_371.setTop (mkF m 246 #[.val (.int va), .val (.long vb), .second, .val (.int vc), .val (.int vd), .val (.long ve), .second, .val (.int vf), .val (.int (1 : Int32)), .val (.int w_0_173), .val (.int (1 : Int32)), .val (.ref b_0_273), .val (.int w_0_369), .val (.int (1 : Int32)), .val (.int (0 : Int32))] []))
          refine ogo (fun _ k => XS.aload X_0_371.here hx rfl (hb hby at_246) rfl rfl k) ?_
          show OGo _ _ _ _ (T_0_371.setTop (mkF m 248 #[.val (.int va), .val (.long vb), .second, .val (.int vc), .val (.int vd), .val (.long ve), .second, .val (.int vf), .val (.int (1 : Int32)), .val (.int w_0_173), .val (.int (1 : Int32)), .val (.ref b_0_273), .val (.int w_0_369), .val (.int (1 : Int32)), .val (.int (0 : Int32))] [(.ref b_0_273)]))
          obtain ⟨T_0_376, X_0_376, e_0_376, st_0_376⟩ := ovirtP X_0_371 hx hZ e_0_371 (rm9 l Z a0 hw b_0_273 va ((1 : Int32)) h_0_318 f_0_319 f_0_323) hown (hw _ (List.mem_of_getElem? (i := 55) rfl)) (hw _ (List.mem_of_getElem? (i := 56) rfl)) (hw _ (List.mem_of_getElem? (i := 58) rfl)) (hw _ (List.mem_of_getElem? (i := 57) rfl)) (hw _ (List.mem_of_getElem? (i := 2) rfl)) (hw _ (List.mem_of_getElem? (i := 59) rfl)) (by decide) f_0_326 (g := (mkF m 248 #[.val (.int va), .val (.long vb), .second, .val (.int vc), .val (.int vd), .val (.long ve), .second, .val (.int vf), .val (.int (1 : Int32)), .val (.int w_0_173), .val (.int (1 : Int32)), .val (.ref b_0_273), .val (.int w_0_369), .val (.int (1 : Int32)), .val (.int (0 : Int32))] [(.ref b_0_273)])) rfl (by rw [hml]; rfl) [] [] rfl (lenOf pd___Z rfl) rfl (hb hby at_248) 0 (by show 2 * 0 + _ ≤ _; exact Nat.le_of_eq rfl) (by decide) (by decide) (by decide) (by decide) rfl rfl
          refine ogo (fun _ k => st_0_376 _ k) ?_
          show OGo _ _ _ _ (T_0_376.setTop (mkF m 251 #[.val (.int va), .val (.long vb), .second, .val (.int vc), .val (.int vd), .val (.long ve), .second, .val (.int vf), .val (.int (1 : Int32)), .val (.int w_0_173), .val (.int (1 : Int32)), .val (.ref b_0_273), .val (.int w_0_369), .val (.int (1 : Int32)), .val (.int (0 : Int32))] [(.int (emptyF va (1 : Int32)))]))
          refine ogo (fun _ k => XS.iload X_0_376.here hx rfl (hb hby at_251) rfl k) ?_
          show OGo _ _ _ _ (T_0_376.setTop (mkF m 253 #[.val (.int va), .val (.long vb), .second, .val (.int vc), .val (.int vd), .val (.long ve), .second, .val (.int vf), .val (.int (1 : Int32)), .val (.int w_0_173), .val (.int (1 : Int32)), .val (.ref b_0_273), .val (.int w_0_369), .val (.int (1 : Int32)), .val (.int (0 : Int32))] [(.int (0 : Int32)), (.int (emptyF va (1 : Int32)))]))
          suffices J_0_379 : ∀ (w_0_378 : Int32) (hw_0_378 : w_0_378 = (if (emptyF va (1 : Int32)) = (0 : Int32) then (1 : Int32) else (0 : Int32))), OGo p.tables e below (OFin s (fun v _ L => v = some (.int 1) ∧ Fr n0 L) 16 128) (T_0_376.setTop (mkF m 261 #[.val (.int va), .val (.long vb), .second, .val (.int vc), .val (.int vd), .val (.long ve), .second, .val (.int vf), .val (.int (1 : Int32)), .val (.int w_0_173), .val (.int (1 : Int32)), .val (.ref b_0_273), .val (.int w_0_369), .val (.int (1 : Int32)), .val (.int (0 : Int32))] [(.int w_0_378)])) by
            by_cases hc_0_377 : (emptyF va (1 : Int32)) = (0 : Int32)
            · refine ogo (fun _ k => XS.icmpNo X_0_376.here hx rfl (hb hby at_253) rfl (teq hc_0_377).2 k) ?_
              show OGo _ _ _ _ (T_0_376.setTop (mkF m 256 #[.val (.int va), .val (.long vb), .second, .val (.int vc), .val (.int vd), .val (.long ve), .second, .val (.int vf), .val (.int (1 : Int32)), .val (.int w_0_173), .val (.int (1 : Int32)), .val (.ref b_0_273), .val (.int w_0_369), .val (.int (1 : Int32)), .val (.int (0 : Int32))] []))
              refine ogo (fun _ k => XS.iconst X_0_376.here hx rfl (hb hby at_256) k) ?_
              show OGo _ _ _ _ (T_0_376.setTop (mkF m 257 #[.val (.int va), .val (.long vb), .second, .val (.int vc), .val (.int vd), .val (.long ve), .second, .val (.int vf), .val (.int (1 : Int32)), .val (.int w_0_173), .val (.int (1 : Int32)), .val (.ref b_0_273), .val (.int w_0_369), .val (.int (1 : Int32)), .val (.int (0 : Int32))] [(.int (1 : Int32))]))
              refine ogo (fun _ k => XS.goto X_0_376.here hx rfl (pc0 := 257) (pc' := 261) rfl (hb hby at_257) (by decide) (by decide) k) ?_
              show OGo _ _ _ _ (T_0_376.setTop (mkF m 261 #[.val (.int va), .val (.long vb), .second, .val (.int vc), .val (.int vd), .val (.long ve), .second, .val (.int vf), .val (.int (1 : Int32)), .val (.int w_0_173), .val (.int (1 : Int32)), .val (.ref b_0_273), .val (.int w_0_369), .val (.int (1 : Int32)), .val (.int (0 : Int32))] [(.int (1 : Int32))]))
              exact J_0_379 _ (if_pos hc_0_377).symm
            · refine ogo (fun _ k => XS.icmpYes X_0_376.here hx rfl (pc0 := 253) (pc' := 260) rfl (hb hby at_253) rfl (feq hc_0_377).2 (by decide) (by decide) k) ?_
              show OGo _ _ _ _ (T_0_376.setTop (mkF m 260 #[.val (.int va), .val (.long vb), .second, .val (.int vc), .val (.int vd), .val (.long ve), .second, .val (.int vf), .val (.int (1 : Int32)), .val (.int w_0_173), .val (.int (1 : Int32)), .val (.ref b_0_273), .val (.int w_0_369), .val (.int (1 : Int32)), .val (.int (0 : Int32))] []))
              refine ogo (fun _ k => XS.iconst X_0_376.here hx rfl (hb hby at_260) k) ?_
              show OGo _ _ _ _ (T_0_376.setTop (mkF m 261 #[.val (.int va), .val (.long vb), .second, .val (.int vc), .val (.int vd), .val (.long ve), .second, .val (.int vf), .val (.int (1 : Int32)), .val (.int w_0_173), .val (.int (1 : Int32)), .val (.ref b_0_273), .val (.int w_0_369), .val (.int (1 : Int32)), .val (.int (0 : Int32))] [(.int (0 : Int32))]))
              exact J_0_379 _ (if_neg hc_0_377).symm
          intro w_0_378 hw_0_378
          subst hw_0_378
          exact J_0_382 _ (if_neg hc_0_375).symm _ X_0_376 e_0_376
      intro w_0_381 hw_0_381 T_0_383 X_0_383 e_0_383
      have hz : w_0_381 = (1 : Int32) := plain3 va vb vc vd ve vf hc_0_1 w_0_173 hw_0_173 hc_0_176 w_0_304 hw_0_304 w_0_346 hw_0_346 w_0_355 hw_0_355 w_0_369 hw_0_369 w_0_381 hw_0_381
      rw [hz]
      exact oret X_0_383 hx hlk Bd.returns rfl (Or.inl ⟨rfl, Or.inr (Or.inl rfl), _, rfl⟩) (hb hby at_261) (by decide) (by decide) ⟨rfl, N_0_318⟩
set_option maxRecDepth 65536 in
set_option maxHeartbeats 40000000 in
theorem comes_1 {Post : Tables → Env → Array Value → State → Outcome → State → Prop} (hpost : ∀ tb e args s v u, (limb_1_1.after args s (.returned v) u = true ∧ limb_1_2.after args s (.returned v) u = true) → FrameEnd s (.returned v) u (Jvm.fieldLocs frame_1_writes args s ++ Jvm.arrayLocs frame_1_arrays args s ++ Jvm.staticLocs frame_1_statics s) 16 128 → Post tb e args s (.returned v) u) :
    ArmFor flags0 classFile x code maxLocals ret World_1 tables_1 room_1 Calls_1 rest_1 Pre_1 Post := by
  intro l hfl _ _ p e ha hc hk s m args below hf hA hF happ hP
  obtain ⟨hcalls, hrest, hpre⟩ := hP
  obtain ⟨-, -, -, hnamed, -, -, -, hat⟩ := (Spec.applies_iff hf).mp happ
  obtain ⟨hg, hn⟩ := and_e (Cond.before_iff.mp (show (Jvm.Cond.and given_1 narrow_1).before args s = true from hpre))
  obtain ⟨gc, g0⟩ := and_e hg
  obtain ⟨ga0, g1⟩ := and_e g0
  obtain ⟨ga1, g2⟩ := and_e g1
  obtain ⟨ga2, g3⟩ := and_e g2
  obtain ⟨ga3, g4⟩ := and_e g3
  obtain ⟨ga4, g5⟩ := and_e g4
  obtain ⟨w0, w1, w2, w3, w4, w5, rfl⟩ : ∃ w0 w1 w2 w3 w4 w5 : Value, args = #[w0, w1, w2, w3, w4, w5] := by
    have hs : args.size = 6 := by simpa [Cond.value, given_1] using gc
    obtain ⟨L⟩ := args
    match L, hs with
    | [w0, w1, w2, w3, w4, w5], _ => exact ⟨w0, w1, w2, w3, w4, w5, rfl⟩
  have hw := fun d (hd : d ∈ tables_1) => atoms_spec (ws := Jvm.Cond.code x code maxLocals ret :: tables_1) hat d (List.mem_cons_of_mem _ hd)
  obtain ⟨i0, ei0⟩ := is_v ga0
  obtain rfl : w0 = (.int i0) := Option.some.inj ei0
  obtain ⟨i1, ei1⟩ := isL_v ga1
  obtain rfl : w1 = (.long i1) := Option.some.inj ei1
  obtain ⟨i2, ei2⟩ := is_v ga2
  obtain rfl : w2 = (.int i2) := Option.some.inj ei2
  obtain ⟨i3, ei3⟩ := is_v ga3
  obtain rfl : w3 = (.int i3) := Option.some.inj ei3
  obtain ⟨i4, ei4⟩ := isL_v ga4
  obtain rfl : w4 = (.long i4) := Option.some.inj ei4
  obtain ⟨i5, ei5⟩ := is_v g5
  obtain rfl : w5 = (.int i5) := Option.some.inj ei5
  obtain ⟨n, o, h1, h2, h3, _, L, rfl, ⟨rfl, N⟩, hq⟩ := rm0 l s _ hw tables_1 i0 i1 i2 i3 i4 i5 s.heap s.heap.size (Nat.le_refl _)  p e ha hc hk s m _ below hf ((Spec.applies_iff_loose hf).mp happ).1 ⟨rfl, State.Warmed39.refl s, rfl⟩ trivial
  exact ⟨n, _, h1, h2, h3, hpost _ _ _ _ _ _ ⟨Cond.after_iff.mpr rfl, Cond.after_iff.mpr (eq_i res_at (Term.int_eval (1)) rfl)⟩ ⟨hq.1, hq.2.1, (hq.2.2.sift fun y hy => Or.inr (N y hy)).mono (by decide) (by decide)⟩⟩
theorem main_1_1 : Claimed_1_1 := comes_1 fun _ _ _ _ _ _ h hF => ⟨h.1, hF⟩
theorem main_1_2 : Claimed_1_2 := comes_1 fun _ _ _ _ _ _ h hF => ⟨h.2, hF⟩
end Jvm.Pilot.@@N@@
namespace Jvm.Pilot.@@N@@
open Jvm Jvm.ClassFile Sem Op Lib Jvm.Free Jvm.Stand Jvm.Pilot.@@N@@.Jvm.D
/-! MADE BY PROGRAM (witnessworld.py) out of the Statement's table words and the real class files: 13 classes; the members and pool entries that the words name. The judged class is class 1, her method 1. -/
namespace start1
open Jvm.ClassFile
def u (s : String) : CpInfo := .utf8 (stringToUtf16 s)
/-- a pool by its gaps: so many unusable entries, then the entry; so many at the end -/
def gap : Nat → List CpInfo → List CpInfo
  | 0, r => r
  | n + 1, r => .unusable :: gap n r
def poolList (es : List (Nat × CpInfo)) (last : Nat) : List CpInfo := es.foldr (fun e r => gap e.1 (e.2 :: r)) (gap last [])
def pool (es : List (Nat × CpInfo)) (last : Nat) : Array CpInfo := ⟨poolList es last⟩
def fileOf (pool : Array CpInfo) (this : Nat) (attrs : Array Attribute := #[]) (ms : Array MethodInfo := #[]) (fl : Nat := 33) (sup : Nat := 0) (ifs : Array Nat := #[]) (fds : Array FieldInfo := #[]) : ClassFile where
  minorVersion := 0
  majorVersion := 65
  constantPool := pool
  accessFlags := fl
  thisClass := this
  superClass := sup
  interfaces := ifs
  fields := fds
  methods := ms
  attributes := attrs
def plain (name : String) (sup : Option ClassId) : Class where
  name := name
  kind := .ordinary
  loader := none
  accessFlags := 33
  super := sup
  interfaces := #[]
  cf := none
  fields := #[]
  methods := #[]
  instanceTypes := #[]
  staticTypes := #[]
  resolved := #[]
  callSites := []
  init := .initialized
  statics := none
  mirror := none

def pool0 : Array CpInfo := pool [(5, u "<init>"), (0, u "()V"), (1, .class_ 10), (1, u "java/lang/Object")] 113

def k0c0 : Code := { maxStack := 0, maxLocals := 1, code := object_method_1_code, exceptionTable := #[], attributes := #[] }
def k0m0 : Method := { name := "<init>", desc := "()V", sig := { parameters := [], returnType := none }, accessFlags := 1, code := some k0c0 }
/-- java/lang/Object -/
def k0 : Class := { plain "java/lang/Object" none with
  accessFlags := 33
  interfaces := #[]
  cf := some (fileOf pool0 8 #[] #[{ accessFlags := 1, nameIndex := 5, descriptorIndex := 6, attributes := #[] }] 33 0 #[] #[])
  fields := #[]
  methods := #[k0m0]
  instanceTypes := #[]
  staticTypes := #[]
  resolved := Array.replicate 124 none
  statics := none }

def pool1 : Array CpInfo := pool [(2, .class_ 4), (0, .nameAndType 5 6), (0, u "java/lang/Object"), (0, u "<init>"), (0, u "()V"), (0, .class_ 8), (0, u "com/example/bouncr/bouncr/KeyRecord"), (0, .methodref 7 3), (0, .methodref 7 11), (0, .nameAndType 12 13), (0, u "takePlace"), (0, u "(JI)V"), (0, .long 18446744073709551615), (1, .methodref 7 17), (0, .nameAndType 18 19), (0, u "count"), (0, u "(IJIZ)V"), (0, .methodref 7 21), (0, .nameAndType 22 23), (0, u "failures"), (0, u "()I"), (0, .methodref 7 25), (0, .nameAndType 26 27), (0, u "lastFailureSecond"), (0, u "()J"), (0, .methodref 7 29), (0, .nameAndType 30 23), (0, u "lastFailureNano"), (0, .methodref 7 32), (0, .nameAndType 33 34), (0, u "refusedOnly"), (0, u "()Z"), (0, .methodref 7 36), (0, .nameAndType 37 23), (0, u "places"), (0, .methodref 7 39), (0, .nameAndType 40 41), (0, u "placeSecond"), (0, u "(I)J"), (0, .methodref 7 43), (0, .nameAndType 44 45), (0, u "placeNano"), (0, u "(I)I"), (0, .methodref 7 47), (0, .nameAndType 48 34), (0, u "isEmpty"), (0, .class_ 50), (0, u "com/example/bouncr/bouncr/KeyRecordCountPinLaw"), (2, u "law"), (0, u "(IJIIJI)Z")] 3

def k1m0 : Method := { name := "<init>", desc := "()V", sig := { parameters := [], returnType := none }, accessFlags := 1, code := none }
def k1c1 : Code := { maxStack := 6, maxLocals := 15, code := code, exceptionTable := #[], attributes := #[] }
def k1m1 : Method := { name := "law", desc := "(IJIIJI)Z", sig := { parameters := [.int, .long, .int, .int, .long, .int], returnType := some .boolean }, accessFlags := 9, code := some k1c1 }
/-- com/example/bouncr/bouncr/KeyRecordCountPinLaw -/
def k1 : Class := { plain "com/example/bouncr/bouncr/KeyRecordCountPinLaw" (some 0) with
  accessFlags := 49
  interfaces := #[]
  cf := some (fileOf pool1 49 #[] #[{ accessFlags := 1, nameIndex := 5, descriptorIndex := 6, attributes := #[] }, { accessFlags := 9, nameIndex := 53, descriptorIndex := 54, attributes := #[] }] 49 2 #[] #[])
  fields := #[]
  methods := #[k1m0, k1m1]
  instanceTypes := #[]
  staticTypes := #[]
  resolved := Array.replicate 58 none
  statics := none }

def pool2 : Array CpInfo := pool [(1, .methodref 2 3), (0, .class_ 4), (0, .nameAndType 5 6), (0, u "java/lang/Object"), (0, u "<init>"), (0, u "()V"), (0, .class_ 8), (0, u "com/example/bouncr/bouncr/KeyRecord"), (0, .fieldref 7 10), (0, .nameAndType 11 12), (0, u "lastNano"), (0, u "I"), (0, .fieldref 7 14), (0, .nameAndType 15 16), (0, u "placeSeconds"), (0, u "[J"), (0, .fieldref 7 18), (0, .nameAndType 19 20), (0, u "placeNanos"), (0, u "[I"), (0, .fieldref 7 22), (0, .nameAndType 23 12), (0, u "failures"), (0, .fieldref 7 25), (0, .nameAndType 26 27), (0, u "lastSecond"), (0, u "J"), (6, .fieldref 7 35), (0, .nameAndType 36 37), (0, u "refusedOnly"), (0, u "Z"), (0, .fieldref 7 39), (0, .nameAndType 40 12), (0, u "placeCount"), (2, u "placeSecond"), (0, u "(I)J"), (2, u "placeNano"), (0, u "(I)I"), (0, .methodref 50 51), (0, .class_ 52), (0, .nameAndType 53 54), (0, u "java/util/Objects"), (0, u "checkIndex"), (0, u "(II)I"), (2, u "addressKnownAt"), (0, u "Ljava/time/Instant;"), (2, u "roomless"), (2, u "count"), (0, u "(IJIZ)V"), (3, u "()J"), (3, u "()I"), (2, u "takePlace"), (0, u "(JI)V"), (35, u "NONE"), (7, u "lastFailureSecond"), (0, u "lastFailureNano"), (0, u "()Z"), (0, u "places"), (2, u "isEmpty")] 10

def k2c0 : Code := { maxStack := 2, maxLocals := 1, code := prog_30_method_1_code, exceptionTable := #[], attributes := #[] }
def k2m0 : Method := { name := "<init>", desc := "()V", sig := { parameters := [], returnType := none }, accessFlags := 0, code := some k2c0 }
def k2c1 : Code := { maxStack := 1, maxLocals := 1, code := prog_30_method_2_code, exceptionTable := #[], attributes := #[] }
def k2m1 : Method := { name := "failures", desc := "()I", sig := { parameters := [], returnType := some .int }, accessFlags := 0, code := some k2c1 }
def k2c2 : Code := { maxStack := 2, maxLocals := 1, code := prog_30_method_4_code, exceptionTable := #[], attributes := #[] }
def k2m2 : Method := { name := "lastFailureSecond", desc := "()J", sig := { parameters := [], returnType := some .long }, accessFlags := 0, code := some k2c2 }
def k2c3 : Code := { maxStack := 1, maxLocals := 1, code := prog_30_method_5_code, exceptionTable := #[], attributes := #[] }
def k2m3 : Method := { name := "lastFailureNano", desc := "()I", sig := { parameters := [], returnType := some .int }, accessFlags := 0, code := some k2c3 }
def k2c4 : Code := { maxStack := 1, maxLocals := 1, code := prog_30_method_6_code, exceptionTable := #[], attributes := #[] }
def k2m4 : Method := { name := "refusedOnly", desc := "()Z", sig := { parameters := [], returnType := some .boolean }, accessFlags := 0, code := some k2c4 }
def k2c5 : Code := { maxStack := 1, maxLocals := 1, code := prog_30_method_7_code, exceptionTable := #[], attributes := #[] }
def k2m5 : Method := { name := "places", desc := "()I", sig := { parameters := [], returnType := some .int }, accessFlags := 0, code := some k2c5 }
def k2c6 : Code := { maxStack := 2, maxLocals := 2, code := prog_30_method_9_code, exceptionTable := #[], attributes := #[] }
def k2m6 : Method := { name := "placeSecond", desc := "(I)J", sig := { parameters := [.int], returnType := some .long }, accessFlags := 0, code := some k2c6 }
def k2c7 : Code := { maxStack := 2, maxLocals := 2, code := prog_30_method_10_code, exceptionTable := #[], attributes := #[] }
def k2m7 : Method := { name := "placeNano", desc := "(I)I", sig := { parameters := [.int], returnType := some .int }, accessFlags := 0, code := some k2c7 }
def k2c8 : Code := { maxStack := 1, maxLocals := 1, code := prog_30_method_13_code, exceptionTable := #[], attributes := #[] }
def k2m8 : Method := { name := "isEmpty", desc := "()Z", sig := { parameters := [], returnType := some .boolean }, accessFlags := 0, code := some k2c8 }
def k2c9 : Code := { maxStack := 3, maxLocals := 6, code := prog_30_method_15_code, exceptionTable := #[], attributes := #[] }
def k2m9 : Method := { name := "count", desc := "(IJIZ)V", sig := { parameters := [.int, .long, .int, .boolean], returnType := none }, accessFlags := 0, code := some k2c9 }
def k2c10 : Code := { maxStack := 4, maxLocals := 4, code := prog_30_method_18_code, exceptionTable := #[], attributes := #[] }
def k2m10 : Method := { name := "takePlace", desc := "(JI)V", sig := { parameters := [.long, .int], returnType := none }, accessFlags := 0, code := some k2c10 }
/-- com/example/bouncr/bouncr/KeyRecord -/
def k2 : Class := { plain "com/example/bouncr/bouncr/KeyRecord" (some 0) with
  accessFlags := 32
  interfaces := #[]
  cf := some (fileOf pool2 7 #[] #[{ accessFlags := 0, nameIndex := 5, descriptorIndex := 6, attributes := #[] }, { accessFlags := 0, nameIndex := 23, descriptorIndex := 73, attributes := #[] }, { accessFlags := 0, nameIndex := 121, descriptorIndex := 69, attributes := #[] }, { accessFlags := 0, nameIndex := 122, descriptorIndex := 73, attributes := #[] }, { accessFlags := 0, nameIndex := 36, descriptorIndex := 123, attributes := #[] }, { accessFlags := 0, nameIndex := 124, descriptorIndex := 73, attributes := #[] }, { accessFlags := 0, nameIndex := 43, descriptorIndex := 44, attributes := #[] }, { accessFlags := 0, nameIndex := 47, descriptorIndex := 48, attributes := #[] }, { accessFlags := 0, nameIndex := 127, descriptorIndex := 123, attributes := #[] }, { accessFlags := 0, nameIndex := 64, descriptorIndex := 65, attributes := #[] }, { accessFlags := 0, nameIndex := 76, descriptorIndex := 77, attributes := #[] }] 32 2 #[] #[{ accessFlags := 26, nameIndex := 113, descriptorIndex := 12, attributes := #[] }, { accessFlags := 2, nameIndex := 23, descriptorIndex := 12, attributes := #[] }, { accessFlags := 2, nameIndex := 26, descriptorIndex := 27, attributes := #[] }, { accessFlags := 2, nameIndex := 11, descriptorIndex := 12, attributes := #[] }, { accessFlags := 2, nameIndex := 36, descriptorIndex := 37, attributes := #[] }, { accessFlags := 2, nameIndex := 15, descriptorIndex := 16, attributes := #[] }, { accessFlags := 2, nameIndex := 19, descriptorIndex := 20, attributes := #[] }, { accessFlags := 2, nameIndex := 40, descriptorIndex := 12, attributes := #[] }, { accessFlags := 2, nameIndex := 57, descriptorIndex := 58, attributes := #[] }, { accessFlags := 2, nameIndex := 61, descriptorIndex := 37, attributes := #[] }])
  fields := #[{ name := "NONE", type := .int, accessFlags := 26, slot := 0, constantValue := 0 }, { name := "failures", type := .int, accessFlags := 2, slot := 0, constantValue := 0 }, { name := "lastSecond", type := .long, accessFlags := 2, slot := 1, constantValue := 0 }, { name := "lastNano", type := .int, accessFlags := 2, slot := 2, constantValue := 0 }, { name := "refusedOnly", type := .boolean, accessFlags := 2, slot := 3, constantValue := 0 }, { name := "placeSeconds", type := (.array .long), accessFlags := 2, slot := 4, constantValue := 0 }, { name := "placeNanos", type := (.array .int), accessFlags := 2, slot := 5, constantValue := 0 }, { name := "placeCount", type := .int, accessFlags := 2, slot := 6, constantValue := 0 }, { name := "addressKnownAt", type := (.object "java/time/Instant"), accessFlags := 2, slot := 7, constantValue := 0 }, { name := "roomless", type := .boolean, accessFlags := 2, slot := 8, constantValue := 0 }]
  methods := #[k2m0, k2m1, k2m2, k2m3, k2m4, k2m5, k2m6, k2m7, k2m8, k2m9, k2m10]
  instanceTypes := #[.int, .long, .int, .boolean, (.array .long), (.array .int), .int, (.object "java/time/Instant"), .boolean]
  staticTypes := #[.int]
  resolved := Array.replicate 138 none
  statics := none }

def pool3 : Array CpInfo := pool [(2, .class_ 4), (1, u "java/lang/Object"), (0, u "<init>"), (0, u "()V"), (35, .class_ 44), (1, u "java/util/Objects"), (60, .methodref 106 107), (0, .class_ 108), (0, .nameAndType 109 110), (0, u "jdk/internal/util/Preconditions"), (0, u "checkIndex"), (0, u "(IILjava/util/function/BiFunction;)I"), (60, u "(II)I")] 12

def k3m0 : Method := { name := "<init>", desc := "()V", sig := { parameters := [], returnType := none }, accessFlags := 2, code := none }
def k3c1 : Code := { maxStack := 3, maxLocals := 2, code := jdk_31_method_17_code, exceptionTable := #[], attributes := #[] }
def k3m1 : Method := { name := "checkIndex", desc := "(II)I", sig := { parameters := [.int, .int], returnType := some .int }, accessFlags := 9, code := some k3c1 }
/-- java/util/Objects -/
def k3 : Class := { plain "java/util/Objects" (some 0) with
  accessFlags := 49
  interfaces := #[]
  cf := some (fileOf pool3 42 #[] #[{ accessFlags := 2, nameIndex := 5, descriptorIndex := 6, attributes := #[] }, { accessFlags := 9, nameIndex := 109, descriptorIndex := 171, attributes := #[] }] 49 2 #[] #[])
  fields := #[]
  methods := #[k3m0, k3m1]
  instanceTypes := #[]
  staticTypes := #[]
  resolved := Array.replicate 184 none
  statics := none }

def pool4 : Array CpInfo := pool [(2, .class_ 4), (1, u "java/lang/Object"), (0, u "<init>"), (0, u "()V"), (17, .class_ 26), (1, u "jdk/internal/util/Preconditions"), (6, u "checkIndex"), (21, .class_ 56), (0, u "jdk/internal/util/Preconditions$4"), (57, .class_ 115), (0, u "jdk/internal/util/Preconditions$1"), (7, u "SIOOBE_FORMATTER"), (0, u "Ljava/util/function/BiFunction;"), (0, .class_ 126), (0, u "jdk/internal/util/Preconditions$2"), (3, u "AIOOBE_FORMATTER"), (0, .class_ 132), (0, u "jdk/internal/util/Preconditions$3"), (3, u "IOOBE_FORMATTER"), (41, u "(IILjava/util/function/BiFunction;)I")] 15

def k4m0 : Method := { name := "<init>", desc := "()V", sig := { parameters := [], returnType := none }, accessFlags := 1, code := none }
def k4c1 : Code := { maxStack := 3, maxLocals := 3, code := jdk_41_method_11_code, exceptionTable := #[], attributes := #[] }
def k4m1 : Method := { name := "checkIndex", desc := "(IILjava/util/function/BiFunction;)I", sig := { parameters := [.int, .int, (.object "java/util/function/BiFunction")], returnType := some .int }, accessFlags := 9, code := some k4c1 }
/-- jdk/internal/util/Preconditions -/
def k4 : Class := { plain "jdk/internal/util/Preconditions" (some 0) with
  accessFlags := 33
  interfaces := #[]
  cf := some (fileOf pool4 24 #[.nestMembers #[55, 131, 125, 114]] #[{ accessFlags := 1, nameIndex := 5, descriptorIndex := 6, attributes := #[] }, { accessFlags := 9, nameIndex := 33, descriptorIndex := 178, attributes := #[] }] 33 2 #[] #[{ accessFlags := 25, nameIndex := 123, descriptorIndex := 124, attributes := #[] }, { accessFlags := 25, nameIndex := 130, descriptorIndex := 124, attributes := #[] }, { accessFlags := 25, nameIndex := 136, descriptorIndex := 124, attributes := #[] }])
  fields := #[{ name := "SIOOBE_FORMATTER", type := (.object "java/util/function/BiFunction"), accessFlags := 25, slot := 0, constantValue := 0 }, { name := "AIOOBE_FORMATTER", type := (.object "java/util/function/BiFunction"), accessFlags := 25, slot := 1, constantValue := 0 }, { name := "IOOBE_FORMATTER", type := (.object "java/util/function/BiFunction"), accessFlags := 25, slot := 2, constantValue := 0 }]
  methods := #[k4m0, k4m1]
  instanceTypes := #[]
  staticTypes := #[(.object "java/util/function/BiFunction"), (.object "java/util/function/BiFunction"), (.object "java/util/function/BiFunction")]
  resolved := Array.replicate 194 none
  statics := none }

def pool5 : Array CpInfo := pool [(1, u "java/lang/Cloneable"), (0, .class_ 1), (0, u "java/lang/Object"), (0, .class_ 3)] 3

/-- java/lang/Cloneable -/
def k5 : Class := { plain "java/lang/Cloneable" (some 0) with
  accessFlags := 1537
  interfaces := #[]
  cf := some (fileOf pool5 2 #[] #[] 1537 4 #[] #[])
  fields := #[]
  methods := #[]
  instanceTypes := #[]
  staticTypes := #[]
  resolved := Array.replicate 8 none
  statics := none }

def pool6 : Array CpInfo := pool [(1, u "java/io/Serializable"), (0, .class_ 1), (0, u "java/lang/Object"), (0, .class_ 3)] 3

/-- java/io/Serializable -/
def k6 : Class := { plain "java/io/Serializable" (some 0) with
  accessFlags := 1537
  interfaces := #[]
  cf := some (fileOf pool6 2 #[] #[] 1537 4 #[] #[])
  fields := #[]
  methods := #[]
  instanceTypes := #[]
  staticTypes := #[]
  resolved := Array.replicate 8 none
  statics := none }

/-- the primitive byte -/
def k7 : Class := { plain "byte" none with kind := .primitive 'B', accessFlags := 0x411 }
/-- [B -/
def k8 : Class := { plain "[B" (some 0) with kind := .array 7 .byte, interfaces := #[5, 6], accessFlags := 1041 }

/-- the primitive int -/
def k9 : Class := { plain "int" none with kind := .primitive 'I', accessFlags := 0x411 }
/-- [I -/
def k10 : Class := { plain "[I" (some 0) with kind := .array 9 .int, interfaces := #[5, 6], accessFlags := 1041 }

/-- the primitive long -/
def k11 : Class := { plain "long" none with kind := .primitive 'J', accessFlags := 0x411 }
/-- [J -/
def k12 : Class := { plain "[J" (some 0) with kind := .array 11 .long, interfaces := #[5, 6], accessFlags := 1041 }

def heap : Heap := #[]
def classes : Array Class := #[k0, k1, k2, k3, k4, k5, k6, k7, k8, k9, k10, k11, k12]
def interned : List (Array UInt16 × Addr) := []
def slotsUsed : Nat := 0
def theMethod : MethodId := ⟨1, 1⟩
def args0 : Array Value := #[.int 3, .long 4, .int 5, .int 7, .long 6, .int 8]
def aboutOver (below : List Frame) : State where
  vm := { classes := classes, interned := interned.toArray }
  heap := heap
  slotsUsed := slotsUsed
  threads := #[{ frames := .invoking theMethod args0 :: below }]
def below0 : List Frame := [.native { method := ⟨0, 0⟩, args := #[] }]
def about1 : State := aboutOver below0
def p0 : Program := .bare "" "" ""
def e0 : Env := launch0.env 0 0 0
theorem w_frames : about1.frames = Frame.invoking theMethod args0 :: below0 := rfl
set_option maxRecDepth 65536 in
theorem w_args : argsFit about1.vm theMethod args0 = true := by decide +kernel
set_option maxRecDepth 65536 in
theorem w_heap : heapFits about1 = true := by decide +kernel
set_option maxRecDepth 65536 in
theorem w_runnable : about1.curStatus? = some .runnable := by decide +kernel
set_option maxRecDepth 65536 in
theorem w_alone : about1.alone = true := by decide +kernel
set_option maxRecDepth 65536 in
theorem w_named : about1.methodNamed? x = some theMethod := by decide +kernel
set_option maxRecDepth 65536 in
theorem w_hears : about1.hears theMethod below0 = true := by decide +kernel
set_option maxRecDepth 65536 in
theorem w_ripe : about1.ripe theMethod args0 below0 = true := by decide +kernel
theorem w_running : about1.status = .running := rfl
set_option maxRecDepth 65536 in
theorem w_room : about1.hasRoom e0.platform room_1 = true :=
  launch0.hasRoom_least _ room_1 (by decide +kernel) (by decide +kernel) (by decide +kernel) (by decide +kernel) (by decide +kernel) (by decide +kernel)
theorem allAtoms_all (ts : List Jvm.Cond) (a : Array Jvm.Value) (st : Jvm.State) : (allAtoms ts).before a st = ts.all (fun c => c.before a st) := by
  induction ts with
  | nil => rfl
  | cons c t ih =>
    show (Jvm.Cond.and c (allAtoms t)).before a st = _
    rw [Jvm.Cond.before_and, ih, List.all_cons]
def words1 : List Jvm.Cond := Jvm.Cond.code x code maxLocals ret :: tables_1
/-- a 'code' word, met by the world's own term for the bytes: nothing is compared byte by byte -/
theorem code_word {y : MethodName} {bytes : ByteArray} {mx : Nat} {rt : Option FieldType} {a : Array Value} {s : State} {m : MethodId} {meth : Method} {c : Code} (h1 : s.methodNamed? y = some m) (h2 : s.vm.method? m = some meth) (h3 : meth.code = some c) (h4 : c.code = bytes)
    (h5 : (c.maxLocals == mx && c.exceptionTable.isEmpty && decide (c.maxStack ≤ mostOperands) && decide (meth.sig.returnType = rt) && !meth.locks && decide (parseMethodDescriptor y.desc = some meth.sig)) = true) : (Jvm.Cond.code y bytes mx rt).before a s = true := by
  simp only [Bool.and_eq_true, beq_iff_eq, Bool.not_eq_true', decide_eq_true_eq] at h5
  obtain ⟨⟨⟨⟨⟨g1, g2⟩, g3⟩, g4⟩, g5⟩, g6⟩ := h5
  simp [Cond.before, Cond.holds, Cond.value, h1, h2, h3, h4, g1, g2, g3, g4, g5, g6]
def isCode : Jvm.Cond → Bool
  | .code _ _ _ _ => true
  | _ => false
theorem all_split {L : List Jvm.Cond} {P : Jvm.Cond → Bool} (h1 : L.all (fun c => isCode c || P c) = true) (h2 : ∀ c ∈ L.filter isCode, P c = true) : L.all P = true := by
  refine List.all_eq_true.mpr fun c hc => ?_
  have h := List.all_eq_true.mp h1 c hc
  rcases Bool.eq_false_or_eq_true (isCode c) with hi | hi
  · exact h2 c (List.mem_filter.mpr ⟨hc, hi⟩)
  · simpa [hi] using h
set_option maxRecDepth 65536 in
theorem w_c0 : (Jvm.Cond.code x code maxLocals ret).before args0 about1 = true := code_word (m := ⟨1, 1⟩) (meth := k1m1) (c := k1c1) (by decide +kernel) rfl rfl rfl (by decide +kernel)
set_option maxRecDepth 65536 in
theorem w_c1 : (Jvm.Cond.code ({ cls := "com/example/bouncr/bouncr/KeyRecord", name := "<init>", desc := "()V" } : Jvm.MethodName) prog_30_method_1_code (1 : Nat) (Option.none : Option Jvm.ClassFile.FieldType)).before args0 about1 = true := code_word (m := ⟨2, 0⟩) (meth := k2m0) (c := k2c0) (by decide +kernel) rfl rfl rfl (by decide +kernel)
set_option maxRecDepth 65536 in
theorem w_c2 : (Jvm.Cond.code ({ cls := "java/lang/Object", name := "<init>", desc := "()V" } : Jvm.MethodName) object_method_1_code (1 : Nat) (Option.none : Option Jvm.ClassFile.FieldType)).before args0 about1 = true := code_word (m := ⟨0, 0⟩) (meth := k0m0) (c := k0c0) (by decide +kernel) rfl rfl rfl (by decide +kernel)
set_option maxRecDepth 65536 in
theorem w_c3 : (Jvm.Cond.code ({ cls := "com/example/bouncr/bouncr/KeyRecord", name := "count", desc := "(IJIZ)V" } : Jvm.MethodName) prog_30_method_15_code (6 : Nat) (Option.none : Option Jvm.ClassFile.FieldType)).before args0 about1 = true := code_word (m := ⟨2, 9⟩) (meth := k2m9) (c := k2c9) (by decide +kernel) rfl rfl rfl (by decide +kernel)
set_option maxRecDepth 65536 in
theorem w_c4 : (Jvm.Cond.code ({ cls := "com/example/bouncr/bouncr/KeyRecord", name := "failures", desc := "()I" } : Jvm.MethodName) prog_30_method_2_code (1 : Nat) (Option.some Jvm.ClassFile.FieldType.int)).before args0 about1 = true := code_word (m := ⟨2, 1⟩) (meth := k2m1) (c := k2c1) (by decide +kernel) rfl rfl rfl (by decide +kernel)
set_option maxRecDepth 65536 in
theorem w_c5 : (Jvm.Cond.code ({ cls := "com/example/bouncr/bouncr/KeyRecord", name := "lastFailureSecond", desc := "()J" } : Jvm.MethodName) prog_30_method_4_code (1 : Nat) (Option.some Jvm.ClassFile.FieldType.long)).before args0 about1 = true := code_word (m := ⟨2, 2⟩) (meth := k2m2) (c := k2c2) (by decide +kernel) rfl rfl rfl (by decide +kernel)
set_option maxRecDepth 65536 in
theorem w_c6 : (Jvm.Cond.code ({ cls := "com/example/bouncr/bouncr/KeyRecord", name := "lastFailureNano", desc := "()I" } : Jvm.MethodName) prog_30_method_5_code (1 : Nat) (Option.some Jvm.ClassFile.FieldType.int)).before args0 about1 = true := code_word (m := ⟨2, 3⟩) (meth := k2m3) (c := k2c3) (by decide +kernel) rfl rfl rfl (by decide +kernel)
set_option maxRecDepth 65536 in
theorem w_c7 : (Jvm.Cond.code ({ cls := "com/example/bouncr/bouncr/KeyRecord", name := "refusedOnly", desc := "()Z" } : Jvm.MethodName) prog_30_method_6_code (1 : Nat) (Option.some Jvm.ClassFile.FieldType.boolean)).before args0 about1 = true := code_word (m := ⟨2, 4⟩) (meth := k2m4) (c := k2c4) (by decide +kernel) rfl rfl rfl (by decide +kernel)
set_option maxRecDepth 65536 in
theorem w_c8 : (Jvm.Cond.code ({ cls := "com/example/bouncr/bouncr/KeyRecord", name := "places", desc := "()I" } : Jvm.MethodName) prog_30_method_7_code (1 : Nat) (Option.some Jvm.ClassFile.FieldType.int)).before args0 about1 = true := code_word (m := ⟨2, 5⟩) (meth := k2m5) (c := k2c5) (by decide +kernel) rfl rfl rfl (by decide +kernel)
set_option maxRecDepth 65536 in
theorem w_c9 : (Jvm.Cond.code ({ cls := "com/example/bouncr/bouncr/KeyRecord", name := "isEmpty", desc := "()Z" } : Jvm.MethodName) prog_30_method_13_code (1 : Nat) (Option.some Jvm.ClassFile.FieldType.boolean)).before args0 about1 = true := code_word (m := ⟨2, 8⟩) (meth := k2m8) (c := k2c8) (by decide +kernel) rfl rfl rfl (by decide +kernel)
set_option maxRecDepth 65536 in
theorem w_c10 : (Jvm.Cond.code ({ cls := "com/example/bouncr/bouncr/KeyRecord", name := "takePlace", desc := "(JI)V" } : Jvm.MethodName) prog_30_method_18_code (4 : Nat) (Option.none : Option Jvm.ClassFile.FieldType)).before args0 about1 = true := code_word (m := ⟨2, 10⟩) (meth := k2m10) (c := k2c10) (by decide +kernel) rfl rfl rfl (by decide +kernel)
set_option maxRecDepth 65536 in
theorem w_c11 : (Jvm.Cond.code ({ cls := "com/example/bouncr/bouncr/KeyRecord", name := "placeSecond", desc := "(I)J" } : Jvm.MethodName) prog_30_method_9_code (2 : Nat) (Option.some Jvm.ClassFile.FieldType.long)).before args0 about1 = true := code_word (m := ⟨2, 6⟩) (meth := k2m6) (c := k2c6) (by decide +kernel) rfl rfl rfl (by decide +kernel)
set_option maxRecDepth 65536 in
theorem w_c12 : (Jvm.Cond.code ({ cls := "java/util/Objects", name := "checkIndex", desc := "(II)I" } : Jvm.MethodName) jdk_31_method_17_code (2 : Nat) (Option.some Jvm.ClassFile.FieldType.int)).before args0 about1 = true := code_word (m := ⟨3, 1⟩) (meth := k3m1) (c := k3c1) (by decide +kernel) rfl rfl rfl (by decide +kernel)
set_option maxRecDepth 65536 in
theorem w_c13 : (Jvm.Cond.code ({ cls := "jdk/internal/util/Preconditions", name := "checkIndex", desc := "(IILjava/util/function/BiFunction;)I" } : Jvm.MethodName) jdk_41_method_11_code (3 : Nat) (Option.some Jvm.ClassFile.FieldType.int)).before args0 about1 = true := code_word (m := ⟨4, 1⟩) (meth := k4m1) (c := k4c1) (by decide +kernel) rfl rfl rfl (by decide +kernel)
set_option maxRecDepth 65536 in
theorem w_c14 : (Jvm.Cond.code ({ cls := "com/example/bouncr/bouncr/KeyRecord", name := "placeNano", desc := "(I)I" } : Jvm.MethodName) prog_30_method_10_code (2 : Nat) (Option.some Jvm.ClassFile.FieldType.int)).before args0 about1 = true := code_word (m := ⟨2, 7⟩) (meth := k2m7) (c := k2c7) (by decide +kernel) rfl rfl rfl (by decide +kernel)
def codes1 : List Jvm.Cond := [Jvm.Cond.code x code maxLocals ret, Jvm.Cond.code ({ cls := "com/example/bouncr/bouncr/KeyRecord", name := "<init>", desc := "()V" } : Jvm.MethodName) prog_30_method_1_code (1 : Nat) (Option.none : Option Jvm.ClassFile.FieldType), Jvm.Cond.code ({ cls := "java/lang/Object", name := "<init>", desc := "()V" } : Jvm.MethodName) object_method_1_code (1 : Nat) (Option.none : Option Jvm.ClassFile.FieldType), Jvm.Cond.code ({ cls := "com/example/bouncr/bouncr/KeyRecord", name := "count", desc := "(IJIZ)V" } : Jvm.MethodName) prog_30_method_15_code (6 : Nat) (Option.none : Option Jvm.ClassFile.FieldType), Jvm.Cond.code ({ cls := "com/example/bouncr/bouncr/KeyRecord", name := "failures", desc := "()I" } : Jvm.MethodName) prog_30_method_2_code (1 : Nat) (Option.some Jvm.ClassFile.FieldType.int), Jvm.Cond.code ({ cls := "com/example/bouncr/bouncr/KeyRecord", name := "lastFailureSecond", desc := "()J" } : Jvm.MethodName) prog_30_method_4_code (1 : Nat) (Option.some Jvm.ClassFile.FieldType.long), Jvm.Cond.code ({ cls := "com/example/bouncr/bouncr/KeyRecord", name := "lastFailureNano", desc := "()I" } : Jvm.MethodName) prog_30_method_5_code (1 : Nat) (Option.some Jvm.ClassFile.FieldType.int), Jvm.Cond.code ({ cls := "com/example/bouncr/bouncr/KeyRecord", name := "refusedOnly", desc := "()Z" } : Jvm.MethodName) prog_30_method_6_code (1 : Nat) (Option.some Jvm.ClassFile.FieldType.boolean), Jvm.Cond.code ({ cls := "com/example/bouncr/bouncr/KeyRecord", name := "places", desc := "()I" } : Jvm.MethodName) prog_30_method_7_code (1 : Nat) (Option.some Jvm.ClassFile.FieldType.int), Jvm.Cond.code ({ cls := "com/example/bouncr/bouncr/KeyRecord", name := "isEmpty", desc := "()Z" } : Jvm.MethodName) prog_30_method_13_code (1 : Nat) (Option.some Jvm.ClassFile.FieldType.boolean), Jvm.Cond.code ({ cls := "com/example/bouncr/bouncr/KeyRecord", name := "takePlace", desc := "(JI)V" } : Jvm.MethodName) prog_30_method_18_code (4 : Nat) (Option.none : Option Jvm.ClassFile.FieldType), Jvm.Cond.code ({ cls := "com/example/bouncr/bouncr/KeyRecord", name := "placeSecond", desc := "(I)J" } : Jvm.MethodName) prog_30_method_9_code (2 : Nat) (Option.some Jvm.ClassFile.FieldType.long), Jvm.Cond.code ({ cls := "java/util/Objects", name := "checkIndex", desc := "(II)I" } : Jvm.MethodName) jdk_31_method_17_code (2 : Nat) (Option.some Jvm.ClassFile.FieldType.int), Jvm.Cond.code ({ cls := "jdk/internal/util/Preconditions", name := "checkIndex", desc := "(IILjava/util/function/BiFunction;)I" } : Jvm.MethodName) jdk_41_method_11_code (3 : Nat) (Option.some Jvm.ClassFile.FieldType.int), Jvm.Cond.code ({ cls := "com/example/bouncr/bouncr/KeyRecord", name := "placeNano", desc := "(I)I" } : Jvm.MethodName) prog_30_method_10_code (2 : Nat) (Option.some Jvm.ClassFile.FieldType.int)]
set_option maxRecDepth 65536 in
theorem codes_eq : words1.filter isCode = codes1 := rfl
theorem w_codes : ∀ c ∈ words1.filter isCode, c.before args0 about1 = true := by
  rw [codes_eq]
  intro c hc
  simp only [codes1, List.mem_cons, List.not_mem_nil, or_false] at hc
  rcases hc with rfl | rfl | rfl | rfl | rfl | rfl | rfl | rfl | rfl | rfl | rfl | rfl | rfl | rfl | rfl
  · exact w_c0
  · exact w_c1
  · exact w_c2
  · exact w_c3
  · exact w_c4
  · exact w_c5
  · exact w_c6
  · exact w_c7
  · exact w_c8
  · exact w_c9
  · exact w_c10
  · exact w_c11
  · exact w_c12
  · exact w_c13
  · exact w_c14
set_option maxRecDepth 65536 in
theorem w_t1 : (words1.take 24).all (fun c => isCode c || c.before args0 about1) = true := by decide +kernel
set_option maxRecDepth 65536 in
theorem w_t2 : ((words1.drop 24).take 24).all (fun c => isCode c || c.before args0 about1) = true := by decide +kernel
set_option maxRecDepth 65536 in
theorem w_t3 : (((words1.drop 24).drop 24).take 24).all (fun c => isCode c || c.before args0 about1) = true := by decide +kernel
set_option maxRecDepth 65536 in
theorem w_t4 : (((words1.drop 24).drop 24).drop 24).all (fun c => isCode c || c.before args0 about1) = true := by decide +kernel
theorem w_tables : (allAtoms (Jvm.Cond.code x code maxLocals ret :: tables_1)).before args0 about1 = true := by
  rw [allAtoms_all]
  show words1.all (fun c => c.before args0 about1) = true
  refine all_split ?_ w_codes
  rw [← List.take_append_drop 24 words1, List.all_append, w_t1, ← List.take_append_drop 24 (words1.drop 24), List.all_append, w_t2, ← List.take_append_drop 24 ((words1.drop 24).drop 24), List.all_append, w_t3, w_t4]
  rfl
set_option maxRecDepth 65536 in
theorem w_case : (Jvm.Cond.and given_1 narrow_1).before args0 about1 = true := by decide +kernel
theorem w_applies : (headSpec (Jvm.Cond.code x code maxLocals ret :: tables_1) room_1).applies x e0.platform about1 = true :=
  (Spec.applies_iff w_frames).mpr ⟨w_running, w_runnable, w_alone, w_named, w_hears, w_ripe, w_room, w_tables⟩
theorem atStart : AtStart classFile x code maxLocals ret World_1 tables_1 room_1 Calls_1 rest_1 Pre_1 launch0 p0 e0 about1 theMethod args0 below0 :=
  ⟨lists_1, trivial, launch0.admits_env _ _ _, launch0.least_env, fairChoices_fair.cas, fairChoices_fair.clock, w_frames, w_args, w_heap, w_applies, trivial, trivial, w_case⟩
end start1
theorem witness_1 : WitnessClaimed_1 := ⟨start1.p0, start1.e0, start1.about1, start1.theMethod, start1.args0, start1.below0, start1.atStart⟩
end Jvm.Pilot.@@N@@
